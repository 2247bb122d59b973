import JvmDerived
import JvmDerived.Pilot.@@N@@Statement
import JvmDerived.Pilot.@@N@@Code
set_option linter.unusedVariables false
set_option linter.unusedSimpArgs false
namespace Jvm.RoadKit
open Sem ClassFile Op Lib Jvm.Stand Jvm.Free Jvm.LawKit
section New
variable {p : Program} {l : Launch} {e : Env} {R : Room} {s : State} {m : MethodId} {args : Array Value} {below : List Frame} {meth : Method} {c : Code} {T : State} {locs : List Loc} {cells slots : Nat}
theorem retI (X : Stand p l e R s m args below meth c T locs cells slots) (hx : p.tables.exec = Jvm.exec) {pc : Nat} {Ls : Array Slot} {z : Int32} {rest : List Value} (hret : meth.sig.returnType = some .int) (hd : decode c.code pc = .ok (.ireturn, 1)) {fs : List Frame}
    (hl : ∀ (f : JFrame) (acts : List Action), f.method = m → f.locked = none → f.entered = [] → (doReturn e (T.setTop f) acts (some (.int z))).1 = T.setFrames fs) : Steps p.tables e below (T.setTop (mkF m pc Ls (.int z :: rest))) (T.setFrames fs) := by
  have hm' : T.vm.method? m = some meth := X.method'
  have hn : narrow .int (.int z) = .int z := rfl
  show Steps p.tables e below (T.setTop { method := m, pc := pc, locals := Ls, stack := _ :: rest, locked := none }) _
  jvm_step X.here [X.here.top, hx, hd, hm', hret, hn]
  first | (intro acts; rw [hl _ acts rfl rfl rfl]) | rw [hl _ _ rfl rfl rfl]
  exact Steps.refl _
end New
end Jvm.RoadKit
namespace Jvm.Pilot.@@N@@
open Jvm Jvm.ClassFile Sem Op Lib Jvm.Free Jvm.Stand Jvm.LawKit Jvm.RoadKit Bundle Jvm.Pilot.@@N@@.Jvm.D

/-! byte arrays by a function of the place -/
def own_upd (f : Nat → Int32) (k : Nat) (v : Int32) : Nat → Int32 := fun j => if j = k then v else f j
def BA (Z : State) (h : Heap) (a : Addr) (n : Nat) (f : Nat → Int32) : Prop := ∃ c : Cell, Arr Z h a c .byte ∧ c.slots.size = n ∧ n < 2147483648 ∧ (∀ j, j < n → c.slots[j]? = some (.int (f j))) ∧ ∀ j, j < n → fits .byte (.int (f j)) = true
theorem BA.ext {Z : State} {h h' : Heap} {a : Addr} {n : Nat} {f : Nat → Int32} (B : BA Z h a n f) (E : Ext h h') : BA Z h' a n f := by obtain ⟨c, A, r⟩ := B; exact ⟨c, A.ext E, r⟩
theorem BA.other {Z : State} {h h' : Heap} {a b : Addr} {n sl : Nat} {v : Value} {f : Nat → Int32} (B : BA Z h b n f) (W : Wr h h' a sl v) (q : b ≠ a) : BA Z h' b n f := by obtain ⟨c, A, r⟩ := B; exact ⟨c, A.other W q, r⟩
theorem BA.keep {Z : State} {h h' : Heap} {a : Addr} {n : Nat} {ws : List Addr} {f : Nat → Int32} (B : BA Z h a n f) (K : Keep h h' ws) (q : a ∉ ws) : BA Z h' a n f := by obtain ⟨c, A, r⟩ := B; exact ⟨c, ⟨K.2.1 a c A.1 q, A.2⟩, r⟩
theorem BA.lt {Z : State} {h : Heap} {a : Addr} {n : Nat} {f : Nat → Int32} (B : BA Z h a n f) : a < h.size := by obtain ⟨c, A, r⟩ := B; exact A.lt
theorem BA.congr {Z : State} {h : Heap} {a : Addr} {n : Nat} {f g : Nat → Int32} (B : BA Z h a n f) (q : ∀ j, j < n → f j = g j) : BA Z h a n g := by
  obtain ⟨c, A, S, M, H, G⟩ := B
  exact ⟨c, A, S, M, fun j hj => by rw [← q j hj]; exact H j hj, fun j hj => by rw [← q j hj]; exact G j hj⟩
theorem BA.fits {Z : State} {h : Heap} {a : Addr} {n : Nat} {f : Nat → Int32} (B : BA Z h a n f) {j : Nat} (hj : j < n) : fits .byte (.int (f j)) = true := by
  obtain ⟨c, A, S, M, H, G⟩ := B
  exact G j hj
theorem BA.new {Z : State} {h : Heap} {a : Addr} {k : ClassId} {z : Int32} {n : Nat} (A : Arr Z h a (newA k .byte z) .byte) (hz : z.toInt = (n : Int)) : BA Z h a n (fun _ => 0) := by
  have e : z.toNatClampNeg = n := by show z.toInt.toNat = n; omega
  have hr := rng32 z
  refine ⟨_, A, by rw [sz_new, e], by omega, fun j hj => ?_, fun j hj => (by decide : Jvm.fits .byte (.int (0 : Int32)) = true)⟩
  show (Array.replicate z.toNatClampNeg (defaultValue .byte))[j]? = _
  rw [e, Array.getElem?_replicate, if_pos hj]; rfl
theorem own_in {z : Int32} {k n sz : Nat} (hj : z.toInt = (k : Int)) (hk : k < n) (S : sz = n) : z.toNatClampNeg = k ∧ ¬ (z < 0 ∨ sz ≤ z.toNatClampNeg) := by
  have e1 : z.toNatClampNeg = k := by show z.toInt.toNat = k; omega
  refine ⟨e1, ?_⟩
  rw [e1, S, Int32.lt_iff_toInt_lt]
  have e0 : (0 : Int32).toInt = 0 := by decide
  omega
section Own
variable {p : Program} {l : Launch} {e : Env} {R : Room} {s : State} {m : MethodId} {args : Array Value} {below : List Frame} {meth : Method} {c : Code} {T : State} {locs : List Loc} {cells slots : Nat} {Z : State} {h : Heap} {a : Addr} {n : Nat} {f : Nat → Int32}
theorem own_bload (X : Stand p l e R s m args below meth c T locs cells slots) (hx : p.tables.exec = Jvm.exec) (hZ : Z.Warmed39 s.vm) (eT : T.heap = h) (B : BA Z h a n f) {j : Int32} {k : Nat} (hj : j.toInt = (k : Int)) (hk : k < n) {g : JFrame} (hg : g.method = m) {rest : List Value} (hs : g.stack = .int j :: .ref a :: rest) (hd : decode c.code g.pc = .ok (.baload, 1)) (target : State)
    (hrest : Steps p.tables e below (T.setTop { g with pc := g.pc + 1, stack := .int (f k) :: rest }) target) : Steps p.tables e below (T.setTop g) target := by
  obtain ⟨cl, A, S, -, H, -⟩ := B
  obtain ⟨e1, e2⟩ := own_in hj hk S
  exact X.baloadBytes hx (j := j) (v := .int (f k)) (by rw [eT]; exact A.1) (State.isArrayOf_alike hZ.alike A.2.1) A.2.2 e2 (by rw [e1]; exact H k hk) hg hs hd target hrest
theorem own_blen (X : Stand p l e R s m args below meth c T locs cells slots) (hx : p.tables.exec = Jvm.exec) (hZ : Z.Warmed39 s.vm) (eT : T.heap = h) (B : BA Z h a n f) {g : JFrame} (hg : g.method = m) {rest : List Value} (hs : g.stack = .ref a :: rest) (hd : decode c.code g.pc = .ok (.arraylength, 1)) (target : State)
    (hrest : Steps p.tables e below (T.setTop { g with pc := g.pc + 1, stack := .int (Int32.ofNat n) :: rest }) target) : Steps p.tables e below (T.setTop g) target := by
  obtain ⟨cl, A, S, -, H, -⟩ := B
  refine X.arraylength hx (by rw [eT]; exact A.1) (State.isArrayOf_alike hZ.alike A.2.1) hg hs hd target ?_
  rw [S]; exact hrest
theorem own_bstore (X : Stand p l e R s m args below meth c T locs cells slots) (hx : p.tables.exec = Jvm.exec) (hZ : Z.Warmed39 s.vm) (eT : T.heap = h) (B : BA Z h a n f) {j x v : Int32} {k : Nat} (hj : j.toInt = (k : Int)) (hk : k < n) (hv : x.toInt8.toInt32 = v) {g : JFrame} (hg : g.method = m) {rest : List Value} (hs : g.stack = .int x :: .int j :: .ref a :: rest) (hd : decode c.code g.pc = .ok (.bastore, 1)) :
    ∃ T' h', Stand p l e R s m args below meth c T' (locs ++ [⟨a, k⟩]) cells slots ∧ T'.heap = h' ∧ BA Z h' a n (own_upd f k v) ∧ Wr h h' a k (.int v) ∧ ∀ target, Steps p.tables e below (T'.setTop { g with pc := g.pc + 1, stack := rest }) target → Steps p.tables e below (T.setTop g) target := by
  obtain ⟨cl, A, S, M, H, G⟩ := B
  obtain ⟨e1, e2⟩ := own_in hj hk S
  obtain ⟨T', h', X', e', W, st⟩ := stB X hx hZ eT A (j := j) e2 hg hs hd
  have hn : nar .byte x = v := hv
  rw [e1] at X'
  rw [e1, hn] at W
  refine ⟨T', h', X', e', ⟨_, A.same W, by rw [sz_set, S], M, fun i hi => ?_, fun i hi => ?_⟩, W, st⟩
  · show (cl.slots.setIfInBounds k (.int v))[i]? = _
    rw [Array.getElem?_setIfInBounds]
    unfold own_upd
    by_cases q : k = i
    · subst q; rw [if_pos rfl, if_pos (by rw [S]; exact hk), if_pos rfl]
    · rw [if_neg q, if_neg (fun z => q z.symm)]; exact H i hi
  · unfold own_upd
    by_cases q : i = k
    · rw [if_pos q, ← hv]; exact fits_nar_byte x
    · rw [if_neg q]; exact G i hi
theorem own_bnew (X : Stand p l e R s m args below meth c T locs cells slots) (hx : p.tables.exec = Jvm.exec) (hZ : Z.Warmed39 s.vm) {a0 : Array Value} (w : (Cond.arrayClass .byte).before a0 Z = true) (eT : T.heap = h) {g : JFrame} (hg : g.method = m) (hd : decode c.code g.pc = .ok (.newarray .byte, 2)) {z : Int32} {rest : List Value} (hs : g.stack = .int z :: rest)
    (hz : z.toInt = (n : Int)) (hb : n * 8 ≤ 536870912) (hc : cells + 1 ≤ R.cells) (hl : slots + n ≤ R.slots) :
    ∃ T' h', Stand p l e R s m args below meth c T' locs (cells + 1) (slots + n) ∧ T'.heap = h' ∧ Ext h h' ∧ BA Z h' h.size n (fun _ => 0) ∧ Exa Z h' h.size "[B" ∧
      ∀ target, Steps p.tables e below (T'.setTop { g with pc := g.pc + 2, stack := .ref h.size :: rest }) target → Steps p.tables e below (T.setTop g) target := by
  have e1 : z.toNatClampNeg = n := by show z.toInt.toNat = n; omega
  have e0 : (0 : Int32).toInt = 0 := by decide
  obtain ⟨T', h', cA, X', e', E, A, Ex, st⟩ := newPE X hx hZ (aty := .byte) w eT hg hd hs (by rw [Int32.lt_iff_toInt_lt]; omega) (cap := n) (by omega) hb hc hl (ad := "[B") (by decide)
  exact ⟨T', h', X', e', E, BA.new A hz, Ex, st⟩
end Own
theorem own_b8 (x : Int32) : x.toInt8.toInt32.toInt8.toInt32 = x.toInt8.toInt32 := by simp

theorem own_at (f : Nat → Int32) (k : Nat) (v : Int32) : own_upd f k v k = v := if_pos rfl
theorem own_ne {f : Nat → Int32} {j k : Nat} {v : Int32} (h : j ≠ k) : own_upd f k v j = f j := if_neg h
def own_by (q : Int64) (k : Int32) : Int32 := (((q.toUInt64 >>> (k &&& 0x3f).toInt64.toUInt64).toInt64).toInt32).toInt8.toInt32
def own_w (q : Int64) (f : Nat → Int32) (o : Nat) : Nat → Int32 := own_upd (own_upd (own_upd (own_upd f o (own_by q 24)) (o + 1) (own_by q 16)) (o + 2) (own_by q 8)) (o + 3) (q.toInt32.toInt8.toInt32)
theorem own_w0 (q : Int64) (f : Nat → Int32) (o : Nat) : own_w q f o o = own_by q 24 := by
  unfold own_w; rw [own_ne (by omega), own_ne (by omega), own_ne (by omega), own_at]
theorem own_w1 (q : Int64) (f : Nat → Int32) (o : Nat) : own_w q f o (o + 1) = own_by q 16 := by
  unfold own_w; rw [own_ne (by omega), own_ne (by omega), own_at]
theorem own_w2 (q : Int64) (f : Nat → Int32) (o : Nat) : own_w q f o (o + 2) = own_by q 8 := by
  unfold own_w; rw [own_ne (by omega), own_at]
theorem own_w3 (q : Int64) (f : Nat → Int32) (o : Nat) : own_w q f o (o + 3) = q.toInt32.toInt8.toInt32 := by
  unfold own_w; rw [own_at]
theorem own_wu (q : Int64) (f : Nat → Int32) (o j : Nat) (h : ¬ (o ≤ j ∧ j < o + 4)) : own_w q f o j = f j := by
  unfold own_w; rw [own_ne (by omega), own_ne (by omega), own_ne (by omega), own_ne (by omega)]
theorem own_by_at (q : Int64) (k : Int32) (n : Nat) (hk : k.toBitVec.toNat % 64 = n) (h0 : 0 < n) (h1 : n ≤ 24) : (own_by q k &&& (255 : Int32)).toInt = ((q.toInt % 18446744073709551616) / (2 ^ n : Nat)) % 256 := by
  have e1 := c_mask (own_by q k) 255 8 (by decide) (by decide)
  have e2 := c_i2b (((q.toUInt64 >>> (k &&& 0x3f).toInt64.toUInt64).toInt64).toInt32)
  have e3 := c_l2i ((q.toUInt64 >>> (k &&& 0x3f).toInt64.toUInt64).toInt64)
  have e4 := c_lushr q k n hk h0
  rw [e1]
  unfold own_by
  rw [e4] at e3
  omega
theorem own_shl (x k : Int32) (n : Nat) (hk : k.toBitVec.toNat % 32 = n) : ((x <<< (k &&& 31)).toInt - x.toInt * (2 ^ n : Nat)) % 4294967296 = 0 := c_ishl x k n hk
theorem own_got (q : Int64) (f : Nat → Int32) (o : Nat) : (((((own_w q f o o) &&& (255 : Int32)) <<< ((24 : Int32) &&& 31)) ||| (((own_w q f o (o + 1)) &&& (255 : Int32)) <<< ((16 : Int32) &&& 31))) ||| (((own_w q f o (o + 2)) &&& (255 : Int32)) <<< ((8 : Int32) &&& 31))) ||| ((own_w q f o (o + 3)) &&& (255 : Int32)) = q.toInt32 := by
  rw [own_w0, own_w1, own_w2, own_w3]
  have b3 := own_by_at q 24 24 (by decide) (by decide) (by decide)
  have b2 := own_by_at q 16 16 (by decide) (by decide) (by decide)
  have b1 := own_by_at q 8 8 (by decide) (by decide) (by decide)
  have b0 := c_mask q.toInt32.toInt8.toInt32 255 8 (by decide) (by decide)
  have c0 := c_i2b q.toInt32
  have d0 := c_l2i q
  have s3 := own_shl (own_by q 24 &&& 255) 24 24 (by decide)
  have s2 := own_shl (own_by q 16 &&& 255) 16 16 (by decide)
  have s1 := own_shl (own_by q 8 &&& 255) 8 8 (by decide)
  obtain ⟨x3, h3⟩ : ∃ z, ((own_by q 24 &&& (255 : Int32)) <<< ((24 : Int32) &&& 31)) = z := ⟨_, rfl⟩
  obtain ⟨x2, h2⟩ : ∃ z, ((own_by q 16 &&& (255 : Int32)) <<< ((16 : Int32) &&& 31)) = z := ⟨_, rfl⟩
  obtain ⟨x1, h1⟩ : ∃ z, ((own_by q 8 &&& (255 : Int32)) <<< ((8 : Int32) &&& 31)) = z := ⟨_, rfl⟩
  obtain ⟨x0, h0⟩ : ∃ z, (q.toInt32.toInt8.toInt32 &&& (255 : Int32)) = z := ⟨_, rfl⟩
  rw [h3] at s3 ⊢
  rw [h2] at s2 ⊢
  rw [h1] at s1 ⊢
  rw [h0] at b0 ⊢
  rw [b3] at s3
  rw [b2] at s2
  rw [b1] at s1
  have r3 := rng32 x3
  have r2 := rng32 x2
  have r1 := rng32 x1
  have o1 := c_or x3 x2 24 (by decide) 16777216 (by decide) (by omega) (by omega) (by omega)
  have r4 := rng32 (x3 ||| x2)
  have o2 := c_or (x3 ||| x2) x1 16 (by decide) 65536 (by decide) (by omega) (by omega) (by omega)
  have r5 := rng32 (x3 ||| x2 ||| x1)
  have o3 := c_or (x3 ||| x2 ||| x1) x0 8 (by decide) 256 (by decide) (by omega) (by omega) (by omega)
  have r6 := rng32 (x3 ||| x2 ||| x1 ||| x0)
  have r7 := rng32 q.toInt32
  refine Int32.toInt_inj.mp ?_
  omega
theorem own_off {x c : Int32} {o k : Nat} (h : x.toInt = (o : Int)) (ho : o ≤ 4) (hc : c.toInt = (k : Int)) (hk : k ≤ 4) : (x + c).toInt = ((o + k : Nat) : Int) := by
  have h1 := c_iadd x c
  have h2 := rng32 (x + c)
  omega
theorem own_o (x : Int32) : ∃ o : Nat, ((x &&& (2147483647 : Int32)) % (5 : Int32)).toInt = (o : Int) ∧ o ≤ 4 := by
  have h1 := c_and x 2147483647 (by decide)
  have h2 := (c_irem (x &&& 2147483647) 5 5 (by decide)).1 h1.1
  exact ⟨((x &&& (2147483647 : Int32)) % (5 : Int32)).toInt.toNat, by omega, by omega⟩
theorem own_fill (v : Int32) : ∀ j, j < 8 → own_upd (own_upd (own_upd (own_upd (own_upd (own_upd (own_upd (own_upd (fun _ => (0 : Int32)) 0 v) 1 v) 2 v) 3 v) 4 v) 5 v) 6 v) 7 v j = (fun _ => v) j := by
  intro j hj
  have h : j = 0 ∨ j = 1 ∨ j = 2 ∨ j = 3 ∨ j = 4 ∨ j = 5 ∨ j = 6 ∨ j = 7 := by omega
  rcases h with rfl | rfl | rfl | rfl | rfl | rfl | rfl | rfl <;> rfl
theorem own_lt {x y : Int32} {a b : Nat} (hx : x.toInt = (a : Int)) (hy : y.toInt = (b : Int)) : x < y ↔ a < b := by
  rw [Int32.lt_iff_toInt_lt, hx, hy]; omega
theorem d1_0 : decode prog_16_method_1_code 0 = .ok (.aload_n 0, 1) := by decide +kernel
theorem d1_1 : decode prog_16_method_1_code 1 = .ok (.invokespecial 1, 3) := by decide +kernel
theorem d1_4 : decode prog_16_method_1_code 4 = .ok (.aload_n 0, 1) := by decide +kernel
theorem d1_5 : decode prog_16_method_1_code 5 = .ok (.aload_n 1, 1) := by decide +kernel
theorem d1_6 : decode prog_16_method_1_code 6 = .ok (.putfield 7, 3) := by decide +kernel
theorem d1_9 : decode prog_16_method_1_code 9 = .ok (.aload_n 0, 1) := by decide +kernel
theorem d1_10 : decode prog_16_method_1_code 10 = .ok (.iload_n 2, 1) := by decide +kernel
theorem d1_11 : decode prog_16_method_1_code 11 = .ok (.putfield 13, 3) := by decide +kernel
theorem d1_14 : decode prog_16_method_1_code 14 = .ok (.return_, 1) := by decide +kernel
theorem pn_1 : plainName "com/example/konnack/konnack/codec/FieldWriter" = true := by first | (simp [plainName, overriddenIn]; done) | decide +kernel
theorem ef_1 (m : MethodId) (x0 : Addr) (x1 : Addr) (x2 : Int32) : entryFrame m #[(.ref x0), (.ref x1), (.int x2)] 3 = mkF m 0 #[.val (.ref x0), .val (.ref x1), .val (.int x2)] [] := by first | (simp [entryFrame, mkF, argsToLocals, Value.category]; done) | rfl
def Q1 (Z : State) (a1 : Addr) (a2 : Addr) (p3 : Int32) (h0 : Heap) (n0 : Nat) (v : Option Value) (h : Heap) (L : List Loc) : Prop := v = none ∧ Fr n0 L ∧ Keep h0 h [a1] ∧ Exa Z h a1 "com/example/konnack/konnack/codec/FieldWriter" ∧ Fld Z h a1 "com/example/konnack/konnack/codec/FieldWriter" "bytes" "[B" (.ref a2) ∧ Fld Z h a1 "com/example/konnack/konnack/codec/FieldWriter" "position" "I" (.int p3)
set_option maxRecDepth 65536 in
set_option maxHeartbeats 40000000 in
theorem rm1 (l : Launch) (Z : State) (a0 : Array Value) (hw : ∀ d ∈ tables_1, d.before a0 Z = true) (ws : List Jvm.Cond) (a1 : Addr) (a2 : Addr) (p3 : Int32) (h0 : Heap) (n0 : Nat) (Z0 : n0 ≤ h0.size) (E0 : Exa Z h0 a1 "com/example/konnack/konnack/codec/FieldWriter") (Fb : Fld Z h0 a1 "com/example/konnack/konnack/codec/FieldWriter" "bytes" "[B" .null) (Fp : Fld Z h0 a1 "com/example/konnack/konnack/codec/FieldWriter" "position" "I" (.int (0 : Int32))) (g1 : n0 ≤ a1) :
    MetFree l (⟨"com/example/konnack/konnack/codec/FieldWriter", "<init>", "([BI)V"⟩ : MethodName) (head1 (Jvm.Cond.code (⟨"com/example/konnack/konnack/codec/FieldWriter", "<init>", "([BI)V"⟩ : MethodName) prog_16_method_1_code 3 none :: ws) ({ frames := 1, cells := 0, slots := 0, locals := 12 } : Room)) (fun a U => a = #[(.ref a1), (.ref a2), (.int p3)] ∧ Z.Warmed39 U.vm ∧ U.heap = h0) (fun _ _ _ _ _ => True) (fun _ U ou U' => ∃ v L, ou = .returned v ∧ Q1 Z a1 a2 p3 h0 n0 v U'.heap L ∧ FrameEnd U ou U' L ({ frames := 1, cells := 0, slots := 0, locals := 12 } : Room).cells ({ frames := 1, cells := 0, slots := 0, locals := 12 } : Room).slots) := by
  refine MetFree.of_bodySF (plainFor_of_name pn_1) hisR ?_
  intro p e s m args below meth c s₁ Bd hml0 hP hK
  obtain ⟨rfl, hZ, hh⟩ := hP
  have hx := Bd.exec
  have hby := Bd.bytes
  have hml : c.maxLocals = 3 := hml0
  have hown : s.vm.findClass "com/example/konnack/konnack/codec/FieldWriter" = some m.cls := findClass_of_methodNamed Bd.named
  have hnm := (name_of_methodNamed Bd.named Bd.method).1
  have X0 : Stand p l e ({ frames := 1, cells := 0, slots := 0, locals := 12 } : Room) s m #[(.ref a1), (.ref a2), (.int p3)] below meth c s₁ [] 0 0 := Stand.of_body Bd
  have e0 : s₁.heap = h0 := by rw [← hh, Bd.state]; rfl
  have N0 := Fr.nil n0
  have pre0 : ∀ t, Steps p.tables e below (s₁.setTop (mkF m 0 #[.val (.ref a1), .val (.ref a2), .val (.int p3)] [])) t → Steps p.tables e below (s₁.setTop (entryFrame m #[(.ref a1), (.ref a2), (.int p3)] 3)) t := fun t k => castTop (ef_1 m (a1) (a2) (p3)) k
  have pre1 : ∀ t, Steps p.tables e below (s₁.setTop (mkF m 1 #[.val (.ref a1), .val (.ref a2), .val (.int p3)] [(.ref a1)])) t → Steps p.tables e below (s₁.setTop (entryFrame m #[(.ref a1), (.ref a2), (.int p3)] 3)) t := fun t kt => pre0 t (by
    show Steps p.tables e below (s₁.setTop (mkF m 0 #[.val (.ref a1), .val (.ref a2), .val (.int p3)] [])) _
    refine XS.aloadN X0.here hx rfl (hb hby d1_0) rfl rfl ?_
    exact kt)
  obtain ⟨T2, X2, e2, st2⟩ := initO X0 hx hZ hown (hw _ (List.mem_of_getElem? (i := 8) rfl)) (hw _ (List.mem_of_getElem? (i := 9) rfl)) (hw _ (List.mem_of_getElem? (i := 10) rfl)) e0 (g := (mkF m 1 #[.val (.ref a1), .val (.ref a2), .val (.int p3)] [(.ref a1)])) rfl (by rw [hml]; rfl) rfl (hb hby d1_1) (by decide) (W := 0) (by show 2 * 0 + _ ≤ _; exact Nat.le_of_eq rfl) (by decide)
  have pre3 : ∀ t, Steps p.tables e below (T2.setTop (mkF m 4 #[.val (.ref a1), .val (.ref a2), .val (.int p3)] [])) t → Steps p.tables e below (s₁.setTop (entryFrame m #[(.ref a1), (.ref a2), (.int p3)] 3)) t := fun t kt => pre1 t (st2 t kt)
  have pre4 : ∀ t, Steps p.tables e below (T2.setTop (mkF m 6 #[.val (.ref a1), .val (.ref a2), .val (.int p3)] [(.ref a2), (.ref a1)])) t → Steps p.tables e below (s₁.setTop (entryFrame m #[(.ref a1), (.ref a2), (.int p3)] 3)) t := fun t kt => pre3 t (by
    show Steps p.tables e below (T2.setTop (mkF m 4 #[.val (.ref a1), .val (.ref a2), .val (.int p3)] [])) _
    refine XS.aloadN X2.here hx rfl (hb hby d1_4) rfl rfl ?_
    show Steps p.tables e below (T2.setTop (mkF m 5 #[.val (.ref a1), .val (.ref a2), .val (.int p3)] [(.ref a1)])) _
    refine XS.aloadN X2.here hx rfl (hb hby d1_5) rfl rfl ?_
    exact kt)
  obtain ⟨T5, h5, X5, e5, W5, st5⟩ := putF X2 hx hZ hown (host := "") (Or.inl (hw _ (List.mem_of_getElem? (i := 11) rfl))) Via.refl e2 Fb E0 (Or.inr ⟨(hw _ (List.mem_of_getElem? (i := 12) rfl)), rfl, hnm⟩) (hw _ (List.mem_of_getElem? (i := 3) rfl)) (ty := (.array .byte)) (by decide) rfl rfl (g := (mkF m 6 #[.val (.ref a1), .val (.ref a2), .val (.int p3)] [(.ref a2), (.ref a1)])) rfl rfl (hb hby d1_6)
  have N5 := Fr.snoc X5 N0 g1
  have F5 := Fb.same W5
  have pre6 : ∀ t, Steps p.tables e below (T5.setTop (mkF m 9 #[.val (.ref a1), .val (.ref a2), .val (.int p3)] [])) t → Steps p.tables e below (s₁.setTop (entryFrame m #[(.ref a1), (.ref a2), (.int p3)] 3)) t := fun t kt => pre4 t (st5 t kt)
  have E1 := E0.wr W5
  have Fp1 := Fp.other W5 (Or.inr (slot_ne (Or.inl (hw _ (List.mem_of_getElem? (i := 14) rfl))) (Or.inr (hw _ (List.mem_of_getElem? (i := 12) rfl))) (by decide) (t := .int) (t' := (.array .byte)) (by decide) (by decide)))
  have pre7 : ∀ t, Steps p.tables e below (T5.setTop (mkF m 11 #[.val (.ref a1), .val (.ref a2), .val (.int p3)] [(.int p3), (.ref a1)])) t → Steps p.tables e below (s₁.setTop (entryFrame m #[(.ref a1), (.ref a2), (.int p3)] 3)) t := fun t kt => pre6 t (by
    show Steps p.tables e below (T5.setTop (mkF m 9 #[.val (.ref a1), .val (.ref a2), .val (.int p3)] [])) _
    refine XS.aloadN X5.here hx rfl (hb hby d1_9) rfl rfl ?_
    show Steps p.tables e below (T5.setTop (mkF m 10 #[.val (.ref a1), .val (.ref a2), .val (.int p3)] [(.ref a1)])) _
    refine XS.iloadN X5.here hx rfl (hb hby d1_10) rfl ?_
    exact kt)
  obtain ⟨T8, h8, X8, e8, W8, st8⟩ := putF X5 hx hZ hown (host := "") (Or.inl (hw _ (List.mem_of_getElem? (i := 13) rfl))) Via.refl e5 Fp1 E1 (Or.inl (hw _ (List.mem_of_getElem? (i := 14) rfl))) (hw _ (List.mem_of_getElem? (i := 3) rfl)) (ty := .int) (by decide) rfl rfl (g := (mkF m 11 #[.val (.ref a1), .val (.ref a2), .val (.int p3)] [(.int p3), (.ref a1)])) rfl rfl (hb hby d1_11)
  have N8 := Fr.snoc X8 N5 g1
  have F8 := Fp1.same W8
  have pre9 : ∀ t, Steps p.tables e below (T8.setTop (mkF m 14 #[.val (.ref a1), .val (.ref a2), .val (.int p3)] [])) t → Steps p.tables e below (s₁.setTop (entryFrame m #[(.ref a1), (.ref a2), (.int p3)] 3)) t := fun t kt => pre7 t (st8 t kt)
  have E2 := E1.wr W8
  have Fb2 := F5.other W8 (Or.inr (slot_ne (Or.inr (hw _ (List.mem_of_getElem? (i := 12) rfl))) (Or.inl (hw _ (List.mem_of_getElem? (i := 14) rfl))) (by decide) (t := (.array .byte)) (t' := .int) (by decide) (by decide)))
  have K2 : Keep h0 h8 [a1] := ((Keep.refl h0 [a1]).wr W5 (Or.inl (List.mem_of_getElem? (i := 0) rfl))).wr W8 (Or.inl (List.mem_of_getElem? (i := 0) rfl))
  obtain ⟨fs, hr, hrun, hended, hW, hsame⟩ := X8.leave (v := none) (fun _ => rfl)
  refine ⟨_, _, pre9 _ ?_, hrun, hended, _, _, rfl, ?_, ⟨_, rfl⟩, hW, hsame.mono (by decide) (by decide)⟩
  · show Steps p.tables e below (T8.setTop (mkF m 14 #[.val (.ref a1), .val (.ref a2), .val (.int p3)] [])) _
    exact X8.returnOut hx Bd.returns (hb hby d1_14) hr
  · show Q1 Z a1 a2 p3 h0 n0 _ T8.heap _
    rw [e8]
    exact ⟨rfl, N8, K2, E2, Fb2, F8⟩
theorem d3_0 : decode prog_16_method_6_code 0 = .ok (.aload_n 0, 1) := by decide +kernel
theorem d3_1 : decode prog_16_method_6_code 1 = .ok (.getfield 7, 3) := by decide +kernel
theorem d3_4 : decode prog_16_method_6_code 4 = .ok (.aload_n 0, 1) := by decide +kernel
theorem d3_5 : decode prog_16_method_6_code 5 = .ok (.getfield 13, 3) := by decide +kernel
theorem d3_8 : decode prog_16_method_6_code 8 = .ok (.lload_n 1, 1) := by decide +kernel
theorem d3_9 : decode prog_16_method_6_code 9 = .ok (.bipush 24, 2) := by decide +kernel
theorem d3_11 : decode prog_16_method_6_code 11 = .ok (.lushr, 1) := by decide +kernel
theorem d3_12 : decode prog_16_method_6_code 12 = .ok (.l2i, 1) := by decide +kernel
theorem d3_13 : decode prog_16_method_6_code 13 = .ok (.i2b, 1) := by decide +kernel
theorem d3_14 : decode prog_16_method_6_code 14 = .ok (.bastore, 1) := by decide +kernel
theorem d3_15 : decode prog_16_method_6_code 15 = .ok (.aload_n 0, 1) := by decide +kernel
theorem d3_16 : decode prog_16_method_6_code 16 = .ok (.getfield 7, 3) := by decide +kernel
theorem d3_19 : decode prog_16_method_6_code 19 = .ok (.aload_n 0, 1) := by decide +kernel
theorem d3_20 : decode prog_16_method_6_code 20 = .ok (.getfield 13, 3) := by decide +kernel
theorem d3_23 : decode prog_16_method_6_code 23 = .ok (.iconst 1, 1) := by decide +kernel
theorem d3_24 : decode prog_16_method_6_code 24 = .ok (.iadd, 1) := by decide +kernel
theorem d3_25 : decode prog_16_method_6_code 25 = .ok (.lload_n 1, 1) := by decide +kernel
theorem d3_26 : decode prog_16_method_6_code 26 = .ok (.bipush 16, 2) := by decide +kernel
theorem d3_28 : decode prog_16_method_6_code 28 = .ok (.lushr, 1) := by decide +kernel
theorem d3_29 : decode prog_16_method_6_code 29 = .ok (.l2i, 1) := by decide +kernel
theorem d3_30 : decode prog_16_method_6_code 30 = .ok (.i2b, 1) := by decide +kernel
theorem d3_31 : decode prog_16_method_6_code 31 = .ok (.bastore, 1) := by decide +kernel
theorem d3_32 : decode prog_16_method_6_code 32 = .ok (.aload_n 0, 1) := by decide +kernel
theorem d3_33 : decode prog_16_method_6_code 33 = .ok (.getfield 7, 3) := by decide +kernel
theorem d3_36 : decode prog_16_method_6_code 36 = .ok (.aload_n 0, 1) := by decide +kernel
theorem d3_37 : decode prog_16_method_6_code 37 = .ok (.getfield 13, 3) := by decide +kernel
theorem d3_40 : decode prog_16_method_6_code 40 = .ok (.iconst 2, 1) := by decide +kernel
theorem d3_41 : decode prog_16_method_6_code 41 = .ok (.iadd, 1) := by decide +kernel
theorem d3_42 : decode prog_16_method_6_code 42 = .ok (.lload_n 1, 1) := by decide +kernel
theorem d3_43 : decode prog_16_method_6_code 43 = .ok (.bipush 8, 2) := by decide +kernel
theorem d3_45 : decode prog_16_method_6_code 45 = .ok (.lushr, 1) := by decide +kernel
theorem d3_46 : decode prog_16_method_6_code 46 = .ok (.l2i, 1) := by decide +kernel
theorem d3_47 : decode prog_16_method_6_code 47 = .ok (.i2b, 1) := by decide +kernel
theorem d3_48 : decode prog_16_method_6_code 48 = .ok (.bastore, 1) := by decide +kernel
theorem d3_49 : decode prog_16_method_6_code 49 = .ok (.aload_n 0, 1) := by decide +kernel
theorem d3_50 : decode prog_16_method_6_code 50 = .ok (.getfield 7, 3) := by decide +kernel
theorem d3_53 : decode prog_16_method_6_code 53 = .ok (.aload_n 0, 1) := by decide +kernel
theorem d3_54 : decode prog_16_method_6_code 54 = .ok (.getfield 13, 3) := by decide +kernel
theorem d3_57 : decode prog_16_method_6_code 57 = .ok (.iconst 3, 1) := by decide +kernel
theorem d3_58 : decode prog_16_method_6_code 58 = .ok (.iadd, 1) := by decide +kernel
theorem d3_59 : decode prog_16_method_6_code 59 = .ok (.lload_n 1, 1) := by decide +kernel
theorem d3_60 : decode prog_16_method_6_code 60 = .ok (.l2i, 1) := by decide +kernel
theorem d3_61 : decode prog_16_method_6_code 61 = .ok (.i2b, 1) := by decide +kernel
theorem d3_62 : decode prog_16_method_6_code 62 = .ok (.bastore, 1) := by decide +kernel
theorem d3_63 : decode prog_16_method_6_code 63 = .ok (.aload_n 0, 1) := by decide +kernel
theorem d3_64 : decode prog_16_method_6_code 64 = .ok (.dup, 1) := by decide +kernel
theorem d3_65 : decode prog_16_method_6_code 65 = .ok (.getfield 13, 3) := by decide +kernel
theorem d3_68 : decode prog_16_method_6_code 68 = .ok (.iconst 4, 1) := by decide +kernel
theorem d3_69 : decode prog_16_method_6_code 69 = .ok (.iadd, 1) := by decide +kernel
theorem d3_70 : decode prog_16_method_6_code 70 = .ok (.putfield 13, 3) := by decide +kernel
theorem d3_73 : decode prog_16_method_6_code 73 = .ok (.return_, 1) := by decide +kernel
theorem pn_3 : plainName "com/example/konnack/konnack/codec/FieldWriter" = true := by first | (simp [plainName, overriddenIn]; done) | decide +kernel
theorem ef_3 (m : MethodId) (x0 : Addr) (x1 : Int64) : entryFrame m #[(.ref x0), (.long x1)] 3 = mkF m 0 #[.val (.ref x0), .val (.long x1), .second] [] := by first | (simp [entryFrame, mkF, argsToLocals, Value.category]; done) | rfl
def Q3 (Z : State) (a1 : Addr) (q2 : Int64) (a : Addr) (x : Int32) (o : Nat) (f : Nat → Int32) (h0 : Heap) (n0 : Nat) (v : Option Value) (h : Heap) (L : List Loc) : Prop := v = none ∧ Fr n0 L ∧ Keep h0 h [a1, a] ∧ Exa Z h a1 "com/example/konnack/konnack/codec/FieldWriter" ∧ Fld Z h a1 "com/example/konnack/konnack/codec/FieldWriter" "position" "I" (.int (x + (4 : Int32))) ∧ BA Z h a 8 (own_w q2 f o)
set_option maxRecDepth 65536 in
set_option maxHeartbeats 40000000 in
theorem rm3 (l : Launch) (Z : State) (a0 : Array Value) (hw : ∀ d ∈ tables_1, d.before a0 Z = true) (ws : List Jvm.Cond) (a1 : Addr) (q2 : Int64) (a : Addr) (x : Int32) (o : Nat) (f : Nat → Int32) (h0 : Heap) (n0 : Nat) (Z0 : n0 ≤ h0.size) (E0 : Exa Z h0 a1 "com/example/konnack/konnack/codec/FieldWriter") (Fb : Fld Z h0 a1 "com/example/konnack/konnack/codec/FieldWriter" "bytes" "[B" (.ref a)) (Fp : Fld Z h0 a1 "com/example/konnack/konnack/codec/FieldWriter" "position" "I" (.int x)) (B0 : BA Z h0 a 8 f) (hne : a1 ≠ a) (g1 : n0 ≤ a1) (g2 : n0 ≤ a) (ho : x.toInt = (o : Int)) (ho4 : o ≤ 4) :
    MetFree l (⟨"com/example/konnack/konnack/codec/FieldWriter", "u32", "(J)V"⟩ : MethodName) (head1 (Jvm.Cond.code (⟨"com/example/konnack/konnack/codec/FieldWriter", "u32", "(J)V"⟩ : MethodName) prog_16_method_6_code 3 none :: ws) ({ frames := 0, cells := 0, slots := 0, locals := 0 } : Room)) (fun a U => a = #[(.ref a1), (.long q2)] ∧ Z.Warmed39 U.vm ∧ U.heap = h0) (fun _ _ _ _ _ => True) (fun _ U ou U' => ∃ v L, ou = .returned v ∧ Q3 Z a1 q2 a x o f h0 n0 v U'.heap L ∧ FrameEnd U ou U' L ({ frames := 0, cells := 0, slots := 0, locals := 0 } : Room).cells ({ frames := 0, cells := 0, slots := 0, locals := 0 } : Room).slots) := by
  refine MetFree.of_bodySF (plainFor_of_name pn_3) hisR ?_
  intro p e s m args below meth c s₁ Bd hml0 hP hK
  obtain ⟨rfl, hZ, hh⟩ := hP
  have hx := Bd.exec
  have hby := Bd.bytes
  have hml : c.maxLocals = 3 := hml0
  have hown : s.vm.findClass "com/example/konnack/konnack/codec/FieldWriter" = some m.cls := findClass_of_methodNamed Bd.named
  have hnm := (name_of_methodNamed Bd.named Bd.method).1
  have X0 : Stand p l e ({ frames := 0, cells := 0, slots := 0, locals := 0 } : Room) s m #[(.ref a1), (.long q2)] below meth c s₁ [] 0 0 := Stand.of_body Bd
  have e0 : s₁.heap = h0 := by rw [← hh, Bd.state]; rfl
  have N0 := Fr.nil n0
  have pre0 : ∀ t, Steps p.tables e below (s₁.setTop (mkF m 0 #[.val (.ref a1), .val (.long q2), .second] [])) t → Steps p.tables e below (s₁.setTop (entryFrame m #[(.ref a1), (.long q2)] 3)) t := fun t k => castTop (ef_3 m (a1) (q2)) k
  have pre1 : ∀ t, Steps p.tables e below (s₁.setTop (mkF m 1 #[.val (.ref a1), .val (.long q2), .second] [(.ref a1)])) t → Steps p.tables e below (s₁.setTop (entryFrame m #[(.ref a1), (.long q2)] 3)) t := fun t kt => pre0 t (by
    show Steps p.tables e below (s₁.setTop (mkF m 0 #[.val (.ref a1), .val (.long q2), .second] [])) _
    refine XS.aloadN X0.here hx rfl (hb hby d3_0) rfl rfl ?_
    exact kt)
  obtain ⟨T2, X2, e2, st2⟩ := getF X0 hx hZ hown (host := "") (Or.inl (hw _ (List.mem_of_getElem? (i := 11) rfl))) Via.refl e0 Fb (g := (mkF m 1 #[.val (.ref a1), .val (.long q2), .second] [(.ref a1)])) rfl rfl (hb hby d3_1)
  have pre3 : ∀ t, Steps p.tables e below (T2.setTop (mkF m 4 #[.val (.ref a1), .val (.long q2), .second] [(.ref a)])) t → Steps p.tables e below (s₁.setTop (entryFrame m #[(.ref a1), (.long q2)] 3)) t := fun t kt => pre1 t (st2 t kt)
  have pre4 : ∀ t, Steps p.tables e below (T2.setTop (mkF m 5 #[.val (.ref a1), .val (.long q2), .second] [(.ref a1), (.ref a)])) t → Steps p.tables e below (s₁.setTop (entryFrame m #[(.ref a1), (.long q2)] 3)) t := fun t kt => pre3 t (by
    show Steps p.tables e below (T2.setTop (mkF m 4 #[.val (.ref a1), .val (.long q2), .second] [(.ref a)])) _
    refine XS.aloadN X2.here hx rfl (hb hby d3_4) rfl rfl ?_
    exact kt)
  obtain ⟨T5, X5, e5, st5⟩ := getF X2 hx hZ hown (host := "") (Or.inl (hw _ (List.mem_of_getElem? (i := 13) rfl))) Via.refl e2 Fp (g := (mkF m 5 #[.val (.ref a1), .val (.long q2), .second] [(.ref a1), (.ref a)])) rfl rfl (hb hby d3_5)
  have pre6 : ∀ t, Steps p.tables e below (T5.setTop (mkF m 8 #[.val (.ref a1), .val (.long q2), .second] [(.int x), (.ref a)])) t → Steps p.tables e below (s₁.setTop (entryFrame m #[(.ref a1), (.long q2)] 3)) t := fun t kt => pre4 t (st5 t kt)
  have pre7 : ∀ t, Steps p.tables e below (T5.setTop (mkF m 14 #[.val (.ref a1), .val (.long q2), .second] [(.int ((((q2.toUInt64 >>> ((24 : Int32) &&& 0x3f).toInt64.toUInt64).toInt64).toInt32).toInt8.toInt32)), (.int x), (.ref a)])) t → Steps p.tables e below (s₁.setTop (entryFrame m #[(.ref a1), (.long q2)] 3)) t := fun t kt => pre6 t (by
    show Steps p.tables e below (T5.setTop (mkF m 8 #[.val (.ref a1), .val (.long q2), .second] [(.int x), (.ref a)])) _
    refine XS.lloadN X5.here hx rfl (hb hby d3_8) rfl ?_
    show Steps p.tables e below (T5.setTop (mkF m 9 #[.val (.ref a1), .val (.long q2), .second] [(.long q2), (.int x), (.ref a)])) _
    refine XS.bipush X5.here hx rfl (hb hby d3_9) ?_
    show Steps p.tables e below (T5.setTop (mkF m 11 #[.val (.ref a1), .val (.long q2), .second] [(.int (24 : Int32)), (.long q2), (.int x), (.ref a)])) _
    refine XS.lushr X5.here hx rfl (hb hby d3_11) rfl ?_
    show Steps p.tables e below (T5.setTop (mkF m 12 #[.val (.ref a1), .val (.long q2), .second] [(.long ((q2.toUInt64 >>> ((24 : Int32) &&& 0x3f).toInt64.toUInt64).toInt64)), (.int x), (.ref a)])) _
    refine XS.l2i X5.here hx rfl (hb hby d3_12) rfl ?_
    show Steps p.tables e below (T5.setTop (mkF m 13 #[.val (.ref a1), .val (.long q2), .second] [(.int (((q2.toUInt64 >>> ((24 : Int32) &&& 0x3f).toInt64.toUInt64).toInt64).toInt32)), (.int x), (.ref a)])) _
    refine XS.i2b X5.here hx rfl (hb hby d3_13) rfl ?_
    exact kt)
  obtain ⟨T8, h8, X8, e8, B8, W8, st8⟩ := own_bstore X5 hx hZ e5 B0 (j := x) (x := ((((q2.toUInt64 >>> ((24 : Int32) &&& 0x3f).toInt64.toUInt64).toInt64).toInt32).toInt8.toInt32)) (v := (own_by q2 (24 : Int32))) (k := o) ho (by omega) (own_b8 _) (g := (mkF m 14 #[.val (.ref a1), .val (.long q2), .second] [(.int ((((q2.toUInt64 >>> ((24 : Int32) &&& 0x3f).toInt64.toUInt64).toInt64).toInt32).toInt8.toInt32)), (.int x), (.ref a)])) rfl rfl (hb hby d3_14)
  have N8 := Fr.snoc X8 N0 g2
  have pre9 : ∀ t, Steps p.tables e below (T8.setTop (mkF m 15 #[.val (.ref a1), .val (.long q2), .second] [])) t → Steps p.tables e below (s₁.setTop (entryFrame m #[(.ref a1), (.long q2)] 3)) t := fun t kt => pre7 t (st8 t kt)
  have Fb8 := Fb.other W8 (Or.inl hne)
  have Fp8 := Fp.other W8 (Or.inl hne)
  have Ex8 := E0.wr W8
  have K8 : Keep h0 h8 [a1, a] := (Keep.refl h0 [a1, a]).wr W8 (Or.inl (List.mem_of_getElem? (i := 1) rfl))
  have pre10 : ∀ t, Steps p.tables e below (T8.setTop (mkF m 16 #[.val (.ref a1), .val (.long q2), .second] [(.ref a1)])) t → Steps p.tables e below (s₁.setTop (entryFrame m #[(.ref a1), (.long q2)] 3)) t := fun t kt => pre9 t (by
    show Steps p.tables e below (T8.setTop (mkF m 15 #[.val (.ref a1), .val (.long q2), .second] [])) _
    refine XS.aloadN X8.here hx rfl (hb hby d3_15) rfl rfl ?_
    exact kt)
  obtain ⟨T11, X11, e11, st11⟩ := getF X8 hx hZ hown (host := "") (Or.inl (hw _ (List.mem_of_getElem? (i := 11) rfl))) Via.refl e8 Fb8 (g := (mkF m 16 #[.val (.ref a1), .val (.long q2), .second] [(.ref a1)])) rfl rfl (hb hby d3_16)
  have pre12 : ∀ t, Steps p.tables e below (T11.setTop (mkF m 19 #[.val (.ref a1), .val (.long q2), .second] [(.ref a)])) t → Steps p.tables e below (s₁.setTop (entryFrame m #[(.ref a1), (.long q2)] 3)) t := fun t kt => pre10 t (st11 t kt)
  have pre13 : ∀ t, Steps p.tables e below (T11.setTop (mkF m 20 #[.val (.ref a1), .val (.long q2), .second] [(.ref a1), (.ref a)])) t → Steps p.tables e below (s₁.setTop (entryFrame m #[(.ref a1), (.long q2)] 3)) t := fun t kt => pre12 t (by
    show Steps p.tables e below (T11.setTop (mkF m 19 #[.val (.ref a1), .val (.long q2), .second] [(.ref a)])) _
    refine XS.aloadN X11.here hx rfl (hb hby d3_19) rfl rfl ?_
    exact kt)
  obtain ⟨T14, X14, e14, st14⟩ := getF X11 hx hZ hown (host := "") (Or.inl (hw _ (List.mem_of_getElem? (i := 13) rfl))) Via.refl e11 Fp8 (g := (mkF m 20 #[.val (.ref a1), .val (.long q2), .second] [(.ref a1), (.ref a)])) rfl rfl (hb hby d3_20)
  have pre15 : ∀ t, Steps p.tables e below (T14.setTop (mkF m 23 #[.val (.ref a1), .val (.long q2), .second] [(.int x), (.ref a)])) t → Steps p.tables e below (s₁.setTop (entryFrame m #[(.ref a1), (.long q2)] 3)) t := fun t kt => pre13 t (st14 t kt)
  have pre16 : ∀ t, Steps p.tables e below (T14.setTop (mkF m 31 #[.val (.ref a1), .val (.long q2), .second] [(.int ((((q2.toUInt64 >>> ((16 : Int32) &&& 0x3f).toInt64.toUInt64).toInt64).toInt32).toInt8.toInt32)), (.int (x + (1 : Int32))), (.ref a)])) t → Steps p.tables e below (s₁.setTop (entryFrame m #[(.ref a1), (.long q2)] 3)) t := fun t kt => pre15 t (by
    show Steps p.tables e below (T14.setTop (mkF m 23 #[.val (.ref a1), .val (.long q2), .second] [(.int x), (.ref a)])) _
    refine XS.iconst X14.here hx rfl (hb hby d3_23) ?_
    show Steps p.tables e below (T14.setTop (mkF m 24 #[.val (.ref a1), .val (.long q2), .second] [(.int (1 : Int32)), (.int x), (.ref a)])) _
    refine XS.iadd X14.here hx rfl (hb hby d3_24) rfl ?_
    show Steps p.tables e below (T14.setTop (mkF m 25 #[.val (.ref a1), .val (.long q2), .second] [(.int (x + (1 : Int32))), (.ref a)])) _
    refine XS.lloadN X14.here hx rfl (hb hby d3_25) rfl ?_
    show Steps p.tables e below (T14.setTop (mkF m 26 #[.val (.ref a1), .val (.long q2), .second] [(.long q2), (.int (x + (1 : Int32))), (.ref a)])) _
    refine XS.bipush X14.here hx rfl (hb hby d3_26) ?_
    show Steps p.tables e below (T14.setTop (mkF m 28 #[.val (.ref a1), .val (.long q2), .second] [(.int (16 : Int32)), (.long q2), (.int (x + (1 : Int32))), (.ref a)])) _
    refine XS.lushr X14.here hx rfl (hb hby d3_28) rfl ?_
    show Steps p.tables e below (T14.setTop (mkF m 29 #[.val (.ref a1), .val (.long q2), .second] [(.long ((q2.toUInt64 >>> ((16 : Int32) &&& 0x3f).toInt64.toUInt64).toInt64)), (.int (x + (1 : Int32))), (.ref a)])) _
    refine XS.l2i X14.here hx rfl (hb hby d3_29) rfl ?_
    show Steps p.tables e below (T14.setTop (mkF m 30 #[.val (.ref a1), .val (.long q2), .second] [(.int (((q2.toUInt64 >>> ((16 : Int32) &&& 0x3f).toInt64.toUInt64).toInt64).toInt32)), (.int (x + (1 : Int32))), (.ref a)])) _
    refine XS.i2b X14.here hx rfl (hb hby d3_30) rfl ?_
    exact kt)
  obtain ⟨T17, h17, X17, e17, B17, W17, st17⟩ := own_bstore X14 hx hZ e14 B8 (j := (x + (1 : Int32))) (x := ((((q2.toUInt64 >>> ((16 : Int32) &&& 0x3f).toInt64.toUInt64).toInt64).toInt32).toInt8.toInt32)) (v := (own_by q2 (16 : Int32))) (k := (o + 1)) (own_off ho ho4 (k := 1) (by decide) (by decide)) (by omega) (own_b8 _) (g := (mkF m 31 #[.val (.ref a1), .val (.long q2), .second] [(.int ((((q2.toUInt64 >>> ((16 : Int32) &&& 0x3f).toInt64.toUInt64).toInt64).toInt32).toInt8.toInt32)), (.int (x + (1 : Int32))), (.ref a)])) rfl rfl (hb hby d3_31)
  have N17 := Fr.snoc X17 N8 g2
  have pre18 : ∀ t, Steps p.tables e below (T17.setTop (mkF m 32 #[.val (.ref a1), .val (.long q2), .second] [])) t → Steps p.tables e below (s₁.setTop (entryFrame m #[(.ref a1), (.long q2)] 3)) t := fun t kt => pre16 t (st17 t kt)
  have Fb17 := Fb8.other W17 (Or.inl hne)
  have Fp17 := Fp8.other W17 (Or.inl hne)
  have Ex17 := Ex8.wr W17
  have K17 : Keep h0 h17 [a1, a] := K8.wr W17 (Or.inl (List.mem_of_getElem? (i := 1) rfl))
  have pre19 : ∀ t, Steps p.tables e below (T17.setTop (mkF m 33 #[.val (.ref a1), .val (.long q2), .second] [(.ref a1)])) t → Steps p.tables e below (s₁.setTop (entryFrame m #[(.ref a1), (.long q2)] 3)) t := fun t kt => pre18 t (by
    show Steps p.tables e below (T17.setTop (mkF m 32 #[.val (.ref a1), .val (.long q2), .second] [])) _
    refine XS.aloadN X17.here hx rfl (hb hby d3_32) rfl rfl ?_
    exact kt)
  obtain ⟨T20, X20, e20, st20⟩ := getF X17 hx hZ hown (host := "") (Or.inl (hw _ (List.mem_of_getElem? (i := 11) rfl))) Via.refl e17 Fb17 (g := (mkF m 33 #[.val (.ref a1), .val (.long q2), .second] [(.ref a1)])) rfl rfl (hb hby d3_33)
  have pre21 : ∀ t, Steps p.tables e below (T20.setTop (mkF m 36 #[.val (.ref a1), .val (.long q2), .second] [(.ref a)])) t → Steps p.tables e below (s₁.setTop (entryFrame m #[(.ref a1), (.long q2)] 3)) t := fun t kt => pre19 t (st20 t kt)
  have pre22 : ∀ t, Steps p.tables e below (T20.setTop (mkF m 37 #[.val (.ref a1), .val (.long q2), .second] [(.ref a1), (.ref a)])) t → Steps p.tables e below (s₁.setTop (entryFrame m #[(.ref a1), (.long q2)] 3)) t := fun t kt => pre21 t (by
    show Steps p.tables e below (T20.setTop (mkF m 36 #[.val (.ref a1), .val (.long q2), .second] [(.ref a)])) _
    refine XS.aloadN X20.here hx rfl (hb hby d3_36) rfl rfl ?_
    exact kt)
  obtain ⟨T23, X23, e23, st23⟩ := getF X20 hx hZ hown (host := "") (Or.inl (hw _ (List.mem_of_getElem? (i := 13) rfl))) Via.refl e20 Fp17 (g := (mkF m 37 #[.val (.ref a1), .val (.long q2), .second] [(.ref a1), (.ref a)])) rfl rfl (hb hby d3_37)
  have pre24 : ∀ t, Steps p.tables e below (T23.setTop (mkF m 40 #[.val (.ref a1), .val (.long q2), .second] [(.int x), (.ref a)])) t → Steps p.tables e below (s₁.setTop (entryFrame m #[(.ref a1), (.long q2)] 3)) t := fun t kt => pre22 t (st23 t kt)
  have pre25 : ∀ t, Steps p.tables e below (T23.setTop (mkF m 48 #[.val (.ref a1), .val (.long q2), .second] [(.int ((((q2.toUInt64 >>> ((8 : Int32) &&& 0x3f).toInt64.toUInt64).toInt64).toInt32).toInt8.toInt32)), (.int (x + (2 : Int32))), (.ref a)])) t → Steps p.tables e below (s₁.setTop (entryFrame m #[(.ref a1), (.long q2)] 3)) t := fun t kt => pre24 t (by
    show Steps p.tables e below (T23.setTop (mkF m 40 #[.val (.ref a1), .val (.long q2), .second] [(.int x), (.ref a)])) _
    refine XS.iconst X23.here hx rfl (hb hby d3_40) ?_
    show Steps p.tables e below (T23.setTop (mkF m 41 #[.val (.ref a1), .val (.long q2), .second] [(.int (2 : Int32)), (.int x), (.ref a)])) _
    refine XS.iadd X23.here hx rfl (hb hby d3_41) rfl ?_
    show Steps p.tables e below (T23.setTop (mkF m 42 #[.val (.ref a1), .val (.long q2), .second] [(.int (x + (2 : Int32))), (.ref a)])) _
    refine XS.lloadN X23.here hx rfl (hb hby d3_42) rfl ?_
    show Steps p.tables e below (T23.setTop (mkF m 43 #[.val (.ref a1), .val (.long q2), .second] [(.long q2), (.int (x + (2 : Int32))), (.ref a)])) _
    refine XS.bipush X23.here hx rfl (hb hby d3_43) ?_
    show Steps p.tables e below (T23.setTop (mkF m 45 #[.val (.ref a1), .val (.long q2), .second] [(.int (8 : Int32)), (.long q2), (.int (x + (2 : Int32))), (.ref a)])) _
    refine XS.lushr X23.here hx rfl (hb hby d3_45) rfl ?_
    show Steps p.tables e below (T23.setTop (mkF m 46 #[.val (.ref a1), .val (.long q2), .second] [(.long ((q2.toUInt64 >>> ((8 : Int32) &&& 0x3f).toInt64.toUInt64).toInt64)), (.int (x + (2 : Int32))), (.ref a)])) _
    refine XS.l2i X23.here hx rfl (hb hby d3_46) rfl ?_
    show Steps p.tables e below (T23.setTop (mkF m 47 #[.val (.ref a1), .val (.long q2), .second] [(.int (((q2.toUInt64 >>> ((8 : Int32) &&& 0x3f).toInt64.toUInt64).toInt64).toInt32)), (.int (x + (2 : Int32))), (.ref a)])) _
    refine XS.i2b X23.here hx rfl (hb hby d3_47) rfl ?_
    exact kt)
  obtain ⟨T26, h26, X26, e26, B26, W26, st26⟩ := own_bstore X23 hx hZ e23 B17 (j := (x + (2 : Int32))) (x := ((((q2.toUInt64 >>> ((8 : Int32) &&& 0x3f).toInt64.toUInt64).toInt64).toInt32).toInt8.toInt32)) (v := (own_by q2 (8 : Int32))) (k := (o + 2)) (own_off ho ho4 (k := 2) (by decide) (by decide)) (by omega) (own_b8 _) (g := (mkF m 48 #[.val (.ref a1), .val (.long q2), .second] [(.int ((((q2.toUInt64 >>> ((8 : Int32) &&& 0x3f).toInt64.toUInt64).toInt64).toInt32).toInt8.toInt32)), (.int (x + (2 : Int32))), (.ref a)])) rfl rfl (hb hby d3_48)
  have N26 := Fr.snoc X26 N17 g2
  have pre27 : ∀ t, Steps p.tables e below (T26.setTop (mkF m 49 #[.val (.ref a1), .val (.long q2), .second] [])) t → Steps p.tables e below (s₁.setTop (entryFrame m #[(.ref a1), (.long q2)] 3)) t := fun t kt => pre25 t (st26 t kt)
  have Fb26 := Fb17.other W26 (Or.inl hne)
  have Fp26 := Fp17.other W26 (Or.inl hne)
  have Ex26 := Ex17.wr W26
  have K26 : Keep h0 h26 [a1, a] := K17.wr W26 (Or.inl (List.mem_of_getElem? (i := 1) rfl))
  have pre28 : ∀ t, Steps p.tables e below (T26.setTop (mkF m 50 #[.val (.ref a1), .val (.long q2), .second] [(.ref a1)])) t → Steps p.tables e below (s₁.setTop (entryFrame m #[(.ref a1), (.long q2)] 3)) t := fun t kt => pre27 t (by
    show Steps p.tables e below (T26.setTop (mkF m 49 #[.val (.ref a1), .val (.long q2), .second] [])) _
    refine XS.aloadN X26.here hx rfl (hb hby d3_49) rfl rfl ?_
    exact kt)
  obtain ⟨T29, X29, e29, st29⟩ := getF X26 hx hZ hown (host := "") (Or.inl (hw _ (List.mem_of_getElem? (i := 11) rfl))) Via.refl e26 Fb26 (g := (mkF m 50 #[.val (.ref a1), .val (.long q2), .second] [(.ref a1)])) rfl rfl (hb hby d3_50)
  have pre30 : ∀ t, Steps p.tables e below (T29.setTop (mkF m 53 #[.val (.ref a1), .val (.long q2), .second] [(.ref a)])) t → Steps p.tables e below (s₁.setTop (entryFrame m #[(.ref a1), (.long q2)] 3)) t := fun t kt => pre28 t (st29 t kt)
  have pre31 : ∀ t, Steps p.tables e below (T29.setTop (mkF m 54 #[.val (.ref a1), .val (.long q2), .second] [(.ref a1), (.ref a)])) t → Steps p.tables e below (s₁.setTop (entryFrame m #[(.ref a1), (.long q2)] 3)) t := fun t kt => pre30 t (by
    show Steps p.tables e below (T29.setTop (mkF m 53 #[.val (.ref a1), .val (.long q2), .second] [(.ref a)])) _
    refine XS.aloadN X29.here hx rfl (hb hby d3_53) rfl rfl ?_
    exact kt)
  obtain ⟨T32, X32, e32, st32⟩ := getF X29 hx hZ hown (host := "") (Or.inl (hw _ (List.mem_of_getElem? (i := 13) rfl))) Via.refl e29 Fp26 (g := (mkF m 54 #[.val (.ref a1), .val (.long q2), .second] [(.ref a1), (.ref a)])) rfl rfl (hb hby d3_54)
  have pre33 : ∀ t, Steps p.tables e below (T32.setTop (mkF m 57 #[.val (.ref a1), .val (.long q2), .second] [(.int x), (.ref a)])) t → Steps p.tables e below (s₁.setTop (entryFrame m #[(.ref a1), (.long q2)] 3)) t := fun t kt => pre31 t (st32 t kt)
  have pre34 : ∀ t, Steps p.tables e below (T32.setTop (mkF m 62 #[.val (.ref a1), .val (.long q2), .second] [(.int ((q2.toInt32).toInt8.toInt32)), (.int (x + (3 : Int32))), (.ref a)])) t → Steps p.tables e below (s₁.setTop (entryFrame m #[(.ref a1), (.long q2)] 3)) t := fun t kt => pre33 t (by
    show Steps p.tables e below (T32.setTop (mkF m 57 #[.val (.ref a1), .val (.long q2), .second] [(.int x), (.ref a)])) _
    refine XS.iconst X32.here hx rfl (hb hby d3_57) ?_
    show Steps p.tables e below (T32.setTop (mkF m 58 #[.val (.ref a1), .val (.long q2), .second] [(.int (3 : Int32)), (.int x), (.ref a)])) _
    refine XS.iadd X32.here hx rfl (hb hby d3_58) rfl ?_
    show Steps p.tables e below (T32.setTop (mkF m 59 #[.val (.ref a1), .val (.long q2), .second] [(.int (x + (3 : Int32))), (.ref a)])) _
    refine XS.lloadN X32.here hx rfl (hb hby d3_59) rfl ?_
    show Steps p.tables e below (T32.setTop (mkF m 60 #[.val (.ref a1), .val (.long q2), .second] [(.long q2), (.int (x + (3 : Int32))), (.ref a)])) _
    refine XS.l2i X32.here hx rfl (hb hby d3_60) rfl ?_
    show Steps p.tables e below (T32.setTop (mkF m 61 #[.val (.ref a1), .val (.long q2), .second] [(.int (q2.toInt32)), (.int (x + (3 : Int32))), (.ref a)])) _
    refine XS.i2b X32.here hx rfl (hb hby d3_61) rfl ?_
    exact kt)
  obtain ⟨T35, h35, X35, e35, B35, W35, st35⟩ := own_bstore X32 hx hZ e32 B26 (j := (x + (3 : Int32))) (x := ((q2.toInt32).toInt8.toInt32)) (v := (q2.toInt32.toInt8.toInt32)) (k := (o + 3)) (own_off ho ho4 (k := 3) (by decide) (by decide)) (by omega) (own_b8 _) (g := (mkF m 62 #[.val (.ref a1), .val (.long q2), .second] [(.int ((q2.toInt32).toInt8.toInt32)), (.int (x + (3 : Int32))), (.ref a)])) rfl rfl (hb hby d3_62)
  have N35 := Fr.snoc X35 N26 g2
  have pre36 : ∀ t, Steps p.tables e below (T35.setTop (mkF m 63 #[.val (.ref a1), .val (.long q2), .second] [])) t → Steps p.tables e below (s₁.setTop (entryFrame m #[(.ref a1), (.long q2)] 3)) t := fun t kt => pre34 t (st35 t kt)
  have Fb35 := Fb26.other W35 (Or.inl hne)
  have Fp35 := Fp26.other W35 (Or.inl hne)
  have Ex35 := Ex26.wr W35
  have K35 : Keep h0 h35 [a1, a] := K26.wr W35 (Or.inl (List.mem_of_getElem? (i := 1) rfl))
  have pre37 : ∀ t, Steps p.tables e below (T35.setTop (mkF m 65 #[.val (.ref a1), .val (.long q2), .second] [(.ref a1), (.ref a1)])) t → Steps p.tables e below (s₁.setTop (entryFrame m #[(.ref a1), (.long q2)] 3)) t := fun t kt => pre36 t (by
    show Steps p.tables e below (T35.setTop (mkF m 63 #[.val (.ref a1), .val (.long q2), .second] [])) _
    refine XS.aloadN X35.here hx rfl (hb hby d3_63) rfl rfl ?_
    show Steps p.tables e below (T35.setTop (mkF m 64 #[.val (.ref a1), .val (.long q2), .second] [(.ref a1)])) _
    refine XS.dup X35.here hx rfl (hb hby d3_64) rfl rfl ?_
    exact kt)
  obtain ⟨T38, X38, e38, st38⟩ := getF X35 hx hZ hown (host := "") (Or.inl (hw _ (List.mem_of_getElem? (i := 13) rfl))) Via.refl e35 Fp35 (g := (mkF m 65 #[.val (.ref a1), .val (.long q2), .second] [(.ref a1), (.ref a1)])) rfl rfl (hb hby d3_65)
  have pre39 : ∀ t, Steps p.tables e below (T38.setTop (mkF m 68 #[.val (.ref a1), .val (.long q2), .second] [(.int x), (.ref a1)])) t → Steps p.tables e below (s₁.setTop (entryFrame m #[(.ref a1), (.long q2)] 3)) t := fun t kt => pre37 t (st38 t kt)
  have pre40 : ∀ t, Steps p.tables e below (T38.setTop (mkF m 70 #[.val (.ref a1), .val (.long q2), .second] [(.int (x + (4 : Int32))), (.ref a1)])) t → Steps p.tables e below (s₁.setTop (entryFrame m #[(.ref a1), (.long q2)] 3)) t := fun t kt => pre39 t (by
    show Steps p.tables e below (T38.setTop (mkF m 68 #[.val (.ref a1), .val (.long q2), .second] [(.int x), (.ref a1)])) _
    refine XS.iconst X38.here hx rfl (hb hby d3_68) ?_
    show Steps p.tables e below (T38.setTop (mkF m 69 #[.val (.ref a1), .val (.long q2), .second] [(.int (4 : Int32)), (.int x), (.ref a1)])) _
    refine XS.iadd X38.here hx rfl (hb hby d3_69) rfl ?_
    exact kt)
  obtain ⟨T41, h41, X41, e41, W41, st41⟩ := putF X38 hx hZ hown (host := "") (Or.inl (hw _ (List.mem_of_getElem? (i := 13) rfl))) Via.refl e38 Fp35 Ex35 (Or.inl (hw _ (List.mem_of_getElem? (i := 14) rfl))) (hw _ (List.mem_of_getElem? (i := 3) rfl)) (ty := .int) (by decide) rfl rfl (g := (mkF m 70 #[.val (.ref a1), .val (.long q2), .second] [(.int (x + (4 : Int32))), (.ref a1)])) rfl rfl (hb hby d3_70)
  have N41 := Fr.snoc X41 N35 g1
  have F41 := Fp35.same W41
  have pre42 : ∀ t, Steps p.tables e below (T41.setTop (mkF m 73 #[.val (.ref a1), .val (.long q2), .second] [])) t → Steps p.tables e below (s₁.setTop (entryFrame m #[(.ref a1), (.long q2)] 3)) t := fun t kt => pre40 t (st41 t kt)
  have B9 := B35.other W41 (Ne.symm hne)
  have K9 : Keep h0 h41 [a1, a] := K35.wr W41 (Or.inl (List.mem_of_getElem? (i := 0) rfl))
  obtain ⟨fs, hr, hrun, hended, hW, hsame⟩ := X41.leave (v := none) (fun _ => rfl)
  refine ⟨_, _, pre42 _ ?_, hrun, hended, _, _, rfl, ?_, ⟨_, rfl⟩, hW, hsame.mono (by decide) (by decide)⟩
  · show Steps p.tables e below (T41.setTop (mkF m 73 #[.val (.ref a1), .val (.long q2), .second] [])) _
    exact X41.returnOut hx Bd.returns (hb hby d3_73) hr
  · show Q3 Z a1 q2 a x o f h0 n0 _ T41.heap _
    rw [e41]
    exact ⟨rfl, N41, K9, Ex35.wr W41, F41, B9⟩
theorem d4_0 : decode prog_16_method_2_code 0 = .ok (.aload_n 0, 1) := by decide +kernel
theorem d4_1 : decode prog_16_method_2_code 1 = .ok (.getfield 13, 3) := by decide +kernel
theorem d4_4 : decode prog_16_method_2_code 4 = .ok (.ireturn, 1) := by decide +kernel
theorem pn_4 : plainName "com/example/konnack/konnack/codec/FieldWriter" = true := by first | (simp [plainName, overriddenIn]; done) | decide +kernel
theorem ef_4 (m : MethodId) (x0 : Addr) : entryFrame m #[(.ref x0)] 1 = mkF m 0 #[.val (.ref x0)] [] := by first | (simp [entryFrame, mkF, argsToLocals, Value.category]; done) | rfl
def Q4 (Z : State) (a1 : Addr) (x : Int32) (h0 : Heap) (n0 : Nat) (v : Option Value) (h : Heap) (L : List Loc) : Prop := v = some (.int x) ∧ Fr n0 L ∧ h = h0
set_option maxRecDepth 65536 in
set_option maxHeartbeats 40000000 in
theorem rm4 (l : Launch) (Z : State) (a0 : Array Value) (hw : ∀ d ∈ tables_1, d.before a0 Z = true) (ws : List Jvm.Cond) (a1 : Addr) (x : Int32) (h0 : Heap) (n0 : Nat) (Z0 : n0 ≤ h0.size) (Fp : Fld Z h0 a1 "com/example/konnack/konnack/codec/FieldWriter" "position" "I" (.int x)) :
    MetFree l (⟨"com/example/konnack/konnack/codec/FieldWriter", "position", "()I"⟩ : MethodName) (head1 (Jvm.Cond.code (⟨"com/example/konnack/konnack/codec/FieldWriter", "position", "()I"⟩ : MethodName) prog_16_method_2_code 1 (some .int) :: ws) ({ frames := 0, cells := 0, slots := 0, locals := 0 } : Room)) (fun a U => a = #[(.ref a1)] ∧ Z.Warmed39 U.vm ∧ U.heap = h0) (fun _ _ _ _ _ => True) (fun _ U ou U' => ∃ v L, ou = .returned v ∧ Q4 Z a1 x h0 n0 v U'.heap L ∧ FrameEnd U ou U' L ({ frames := 0, cells := 0, slots := 0, locals := 0 } : Room).cells ({ frames := 0, cells := 0, slots := 0, locals := 0 } : Room).slots) := by
  refine MetFree.of_bodySF (plainFor_of_name pn_4) hisR ?_
  intro p e s m args below meth c s₁ Bd hml0 hP hK
  obtain ⟨rfl, hZ, hh⟩ := hP
  have hx := Bd.exec
  have hby := Bd.bytes
  have hml : c.maxLocals = 1 := hml0
  have hown : s.vm.findClass "com/example/konnack/konnack/codec/FieldWriter" = some m.cls := findClass_of_methodNamed Bd.named
  have hnm := (name_of_methodNamed Bd.named Bd.method).1
  have X0 : Stand p l e ({ frames := 0, cells := 0, slots := 0, locals := 0 } : Room) s m #[(.ref a1)] below meth c s₁ [] 0 0 := Stand.of_body Bd
  have e0 : s₁.heap = h0 := by rw [← hh, Bd.state]; rfl
  have N0 := Fr.nil n0
  have pre0 : ∀ t, Steps p.tables e below (s₁.setTop (mkF m 0 #[.val (.ref a1)] [])) t → Steps p.tables e below (s₁.setTop (entryFrame m #[(.ref a1)] 1)) t := fun t k => castTop (ef_4 m (a1)) k
  have pre1 : ∀ t, Steps p.tables e below (s₁.setTop (mkF m 1 #[.val (.ref a1)] [(.ref a1)])) t → Steps p.tables e below (s₁.setTop (entryFrame m #[(.ref a1)] 1)) t := fun t kt => pre0 t (by
    show Steps p.tables e below (s₁.setTop (mkF m 0 #[.val (.ref a1)] [])) _
    refine XS.aloadN X0.here hx rfl (hb hby d4_0) rfl rfl ?_
    exact kt)
  obtain ⟨T2, X2, e2, st2⟩ := getF X0 hx hZ hown (host := "") (Or.inl (hw _ (List.mem_of_getElem? (i := 13) rfl))) Via.refl e0 Fp (g := (mkF m 1 #[.val (.ref a1)] [(.ref a1)])) rfl rfl (hb hby d4_1)
  have pre3 : ∀ t, Steps p.tables e below (T2.setTop (mkF m 4 #[.val (.ref a1)] [(.int x)])) t → Steps p.tables e below (s₁.setTop (entryFrame m #[(.ref a1)] 1)) t := fun t kt => pre1 t (st2 t kt)
  obtain ⟨fs, hr, hrun, hended, hW, hsame⟩ := X2.leave (v := some (.int x)) (fun h => by rw [Bd.returns] at h; cases h)
  refine ⟨_, _, pre3 _ ?_, hrun, hended, _, _, rfl, ?_, ⟨_, rfl⟩, hW, hsame.mono (by decide) (by decide)⟩
  · show Steps p.tables e below (T2.setTop (mkF m 4 #[.val (.ref a1)] [(.int x)])) _
    exact retI X2 hx Bd.returns (hb hby d4_4) hr
  · show Q4 Z a1 x h0 n0 _ T2.heap _
    rw [e2]
    exact ⟨rfl, N0, rfl⟩
theorem d5_0 : decode method_3_code 0 = .ok (.iload_n 3, 1) := by decide +kernel
theorem d5_1 : decode method_3_code 1 = .ok (.iload_n 1, 1) := by decide +kernel
theorem d5_2 : decode method_3_code 2 = .ok (.if_icmp .lt 10, 3) := by decide +kernel
theorem d5_5 : decode method_3_code 5 = .ok (.iload_n 3, 1) := by decide +kernel
theorem d5_6 : decode method_3_code 6 = .ok (.iload_n 1, 1) := by decide +kernel
theorem d5_7 : decode method_3_code 7 = .ok (.iconst 4, 1) := by decide +kernel
theorem d5_8 : decode method_3_code 8 = .ok (.iadd, 1) := by decide +kernel
theorem d5_9 : decode method_3_code 9 = .ok (.if_icmp .lt 10, 3) := by decide +kernel
theorem d5_12 : decode method_3_code 12 = .ok (.aload_n 0, 1) := by decide +kernel
theorem d5_13 : decode method_3_code 13 = .ok (.iload_n 3, 1) := by decide +kernel
theorem d5_14 : decode method_3_code 14 = .ok (.baload, 1) := by decide +kernel
theorem d5_15 : decode method_3_code 15 = .ok (.iload_n 2, 1) := by decide +kernel
theorem d5_16 : decode method_3_code 16 = .ok (.if_icmp .ne 7, 3) := by decide +kernel
theorem d5_19 : decode method_3_code 19 = .ok (.iconst 1, 1) := by decide +kernel
theorem d5_20 : decode method_3_code 20 = .ok (.goto 4, 3) := by decide +kernel
theorem d5_24 : decode method_3_code 24 = .ok (.ireturn, 1) := by decide +kernel
theorem pn_5 : plainName "com/example/konnack/konnack/codec/FieldWriterU32PinLaw" = true := by first | (simp [plainName, overriddenIn]; done) | decide +kernel
theorem ef_5 (m : MethodId) (x0 : Addr) (x1 : Int32) (x2 : Int32) (x3 : Int32) : entryFrame m #[(.ref x0), (.int x1), (.int x2), (.int x3)] 4 = mkF m 0 #[.val (.ref x0), .val (.int x1), .val (.int x2), .val (.int x3)] [] := by first | (simp [entryFrame, mkF, argsToLocals, Value.category]; done) | rfl
def Q5 (Z : State) (a1 : Addr) (p2 : Int32) (p3 : Int32) (p4 : Int32) (o i : Nat) (f : Nat → Int32) (h0 : Heap) (n0 : Nat) (v : Option Value) (h : Heap) (L : List Loc) : Prop := v = some (.int (1 : Int32)) ∧ Fr n0 L ∧ h = h0
set_option maxRecDepth 65536 in
set_option maxHeartbeats 40000000 in
theorem rm5 (l : Launch) (Z : State) (a0 : Array Value) (hw : ∀ d ∈ tables_1, d.before a0 Z = true) (ws : List Jvm.Cond) (a1 : Addr) (p2 : Int32) (p3 : Int32) (p4 : Int32) (o i : Nat) (f : Nat → Int32) (h0 : Heap) (n0 : Nat) (Z0 : n0 ≤ h0.size) (B0 : BA Z h0 a1 8 f) (ho : p2.toInt = (o : Int)) (ho4 : o ≤ 4) (hi : p4.toInt = (i : Int)) (hi8 : i < 8) (hun : ¬ (o ≤ i ∧ i < o + 4) → f i = p3) :
    MetFree l (⟨"com/example/konnack/konnack/codec/FieldWriterU32PinLaw", "untouched", "([BIBI)Z"⟩ : MethodName) (head1 (Jvm.Cond.code (⟨"com/example/konnack/konnack/codec/FieldWriterU32PinLaw", "untouched", "([BIBI)Z"⟩ : MethodName) method_3_code 4 (some .boolean) :: ws) ({ frames := 0, cells := 0, slots := 0, locals := 0 } : Room)) (fun a U => a = #[(.ref a1), (.int p2), (.int p3), (.int p4)] ∧ Z.Warmed39 U.vm ∧ U.heap = h0) (fun _ _ _ _ _ => True) (fun _ U ou U' => ∃ v L, ou = .returned v ∧ Q5 Z a1 p2 p3 p4 o i f h0 n0 v U'.heap L ∧ FrameEnd U ou U' L ({ frames := 0, cells := 0, slots := 0, locals := 0 } : Room).cells ({ frames := 0, cells := 0, slots := 0, locals := 0 } : Room).slots) := by
  refine MetFree.of_bodySF (plainFor_of_name pn_5) hisR ?_
  intro p e s m args below meth c s₁ Bd hml0 hP hK
  obtain ⟨rfl, hZ, hh⟩ := hP
  have hx := Bd.exec
  have hby := Bd.bytes
  have hml : c.maxLocals = 4 := hml0
  have hown : s.vm.findClass "com/example/konnack/konnack/codec/FieldWriterU32PinLaw" = some m.cls := findClass_of_methodNamed Bd.named
  have hnm := (name_of_methodNamed Bd.named Bd.method).1
  have X0 : Stand p l e ({ frames := 0, cells := 0, slots := 0, locals := 0 } : Room) s m #[(.ref a1), (.int p2), (.int p3), (.int p4)] below meth c s₁ [] 0 0 := Stand.of_body Bd
  have e0 : s₁.heap = h0 := by rw [← hh, Bd.state]; rfl
  have N0 := Fr.nil n0
  have pre0 : ∀ t, Steps p.tables e below (s₁.setTop (mkF m 0 #[.val (.ref a1), .val (.int p2), .val (.int p3), .val (.int p4)] [])) t → Steps p.tables e below (s₁.setTop (entryFrame m #[(.ref a1), (.int p2), (.int p3), (.int p4)] 4)) t := fun t k => castTop (ef_5 m (a1) (p2) (p3) (p4)) k
  have ho' := own_off ho ho4 (c := (4 : Int32)) (k := 4) (by decide) (by decide)
  by_cases c1 : p4 < p2
  · have hv := hun (by have := (own_lt hi ho).mp c1; omega)
    have pre1 : ∀ t, Steps p.tables e below (s₁.setTop (mkF m 24 #[.val (.ref a1), .val (.int p2), .val (.int p3), .val (.int p4)] [(.int (1 : Int32))])) t → Steps p.tables e below (s₁.setTop (entryFrame m #[(.ref a1), (.int p2), (.int p3), (.int p4)] 4)) t := fun t kt => pre0 t (by
      show Steps p.tables e below (s₁.setTop (mkF m 0 #[.val (.ref a1), .val (.int p2), .val (.int p3), .val (.int p4)] [])) _
      refine XS.iloadN X0.here hx rfl (hb hby d5_0) rfl ?_
      show Steps p.tables e below (s₁.setTop (mkF m 1 #[.val (.ref a1), .val (.int p2), .val (.int p3), .val (.int p4)] [(.int p4)])) _
      refine XS.iloadN X0.here hx rfl (hb hby d5_1) rfl ?_
      show Steps p.tables e below (s₁.setTop (mkF m 2 #[.val (.ref a1), .val (.int p2), .val (.int p3), .val (.int p4)] [(.int p2), (.int p4)])) _
      refine XS.icmpYes X0.here hx rfl (pc0 := 2) (pc' := 12) rfl (hb hby d5_2) rfl (tlt c1).1 (by decide) (by decide) ?_
      show Steps p.tables e below (s₁.setTop (mkF m 12 #[.val (.ref a1), .val (.int p2), .val (.int p3), .val (.int p4)] [])) _
      refine XS.aloadN X0.here hx rfl (hb hby d5_12) rfl rfl ?_
      show Steps p.tables e below (s₁.setTop (mkF m 13 #[.val (.ref a1), .val (.int p2), .val (.int p3), .val (.int p4)] [(.ref a1)])) _
      refine XS.iloadN X0.here hx rfl (hb hby d5_13) rfl ?_
      show Steps p.tables e below (s₁.setTop (mkF m 14 #[.val (.ref a1), .val (.int p2), .val (.int p3), .val (.int p4)] [(.int p4), (.ref a1)])) _
      refine own_bload X0 hx hZ e0 B0 (k := i) hi hi8 (g := (mkF m 14 #[.val (.ref a1), .val (.int p2), .val (.int p3), .val (.int p4)] [(.int p4), (.ref a1)])) rfl rfl (hb hby d5_14) _ ?_
      show Steps p.tables e below (s₁.setTop (mkF m 15 #[.val (.ref a1), .val (.int p2), .val (.int p3), .val (.int p4)] [(.int (f i))])) _
      refine XS.iloadN X0.here hx rfl (hb hby d5_15) rfl ?_
      show Steps p.tables e below (s₁.setTop (mkF m 16 #[.val (.ref a1), .val (.int p2), .val (.int p3), .val (.int p4)] [(.int p3), (.int (f i))])) _
      refine XS.icmpNo X0.here hx rfl (hb hby d5_16) rfl (teq hv).2 ?_
      show Steps p.tables e below (s₁.setTop (mkF m 19 #[.val (.ref a1), .val (.int p2), .val (.int p3), .val (.int p4)] [])) _
      refine XS.iconst X0.here hx rfl (hb hby d5_19) ?_
      show Steps p.tables e below (s₁.setTop (mkF m 20 #[.val (.ref a1), .val (.int p2), .val (.int p3), .val (.int p4)] [(.int (1 : Int32))])) _
      refine XS.goto X0.here hx rfl (pc0 := 20) (pc' := 24) rfl (hb hby d5_20) (by decide) (by decide) ?_
      exact kt)
    obtain ⟨fs, hr, hrun, hended, hW, hsame⟩ := X0.leave (v := some (.int (1 : Int32))) (fun h => by rw [Bd.returns] at h; cases h)
    refine ⟨_, _, pre1 _ ?_, hrun, hended, _, _, rfl, ?_, ⟨_, rfl⟩, hW, hsame.mono (by decide) (by decide)⟩
    · show Steps p.tables e below (s₁.setTop (mkF m 24 #[.val (.ref a1), .val (.int p2), .val (.int p3), .val (.int p4)] [(.int (1 : Int32))])) _
      exact retN X0 hx (t := .boolean) Bd.returns (by simp) (hb hby d5_24) hr
    · show Q5 Z a1 p2 p3 p4 o i f h0 n0 _ s₁.heap _
      rw [e0]
      exact ⟨rfl, N0, rfl⟩
  · by_cases c2 : p4 < (p2 + (4 : Int32))
    · have pre2 : ∀ t, Steps p.tables e below (s₁.setTop (mkF m 24 #[.val (.ref a1), .val (.int p2), .val (.int p3), .val (.int p4)] [(.int (1 : Int32))])) t → Steps p.tables e below (s₁.setTop (entryFrame m #[(.ref a1), (.int p2), (.int p3), (.int p4)] 4)) t := fun t kt => pre0 t (by
        show Steps p.tables e below (s₁.setTop (mkF m 0 #[.val (.ref a1), .val (.int p2), .val (.int p3), .val (.int p4)] [])) _
        refine XS.iloadN X0.here hx rfl (hb hby d5_0) rfl ?_
        show Steps p.tables e below (s₁.setTop (mkF m 1 #[.val (.ref a1), .val (.int p2), .val (.int p3), .val (.int p4)] [(.int p4)])) _
        refine XS.iloadN X0.here hx rfl (hb hby d5_1) rfl ?_
        show Steps p.tables e below (s₁.setTop (mkF m 2 #[.val (.ref a1), .val (.int p2), .val (.int p3), .val (.int p4)] [(.int p2), (.int p4)])) _
        refine XS.icmpNo X0.here hx rfl (hb hby d5_2) rfl (flt c1).1 ?_
        show Steps p.tables e below (s₁.setTop (mkF m 5 #[.val (.ref a1), .val (.int p2), .val (.int p3), .val (.int p4)] [])) _
        refine XS.iloadN X0.here hx rfl (hb hby d5_5) rfl ?_
        show Steps p.tables e below (s₁.setTop (mkF m 6 #[.val (.ref a1), .val (.int p2), .val (.int p3), .val (.int p4)] [(.int p4)])) _
        refine XS.iloadN X0.here hx rfl (hb hby d5_6) rfl ?_
        show Steps p.tables e below (s₁.setTop (mkF m 7 #[.val (.ref a1), .val (.int p2), .val (.int p3), .val (.int p4)] [(.int p2), (.int p4)])) _
        refine XS.iconst X0.here hx rfl (hb hby d5_7) ?_
        show Steps p.tables e below (s₁.setTop (mkF m 8 #[.val (.ref a1), .val (.int p2), .val (.int p3), .val (.int p4)] [(.int (4 : Int32)), (.int p2), (.int p4)])) _
        refine XS.iadd X0.here hx rfl (hb hby d5_8) rfl ?_
        show Steps p.tables e below (s₁.setTop (mkF m 9 #[.val (.ref a1), .val (.int p2), .val (.int p3), .val (.int p4)] [(.int (p2 + (4 : Int32))), (.int p4)])) _
        refine XS.icmpYes X0.here hx rfl (pc0 := 9) (pc' := 19) rfl (hb hby d5_9) rfl (tlt c2).1 (by decide) (by decide) ?_
        show Steps p.tables e below (s₁.setTop (mkF m 19 #[.val (.ref a1), .val (.int p2), .val (.int p3), .val (.int p4)] [])) _
        refine XS.iconst X0.here hx rfl (hb hby d5_19) ?_
        show Steps p.tables e below (s₁.setTop (mkF m 20 #[.val (.ref a1), .val (.int p2), .val (.int p3), .val (.int p4)] [(.int (1 : Int32))])) _
        refine XS.goto X0.here hx rfl (pc0 := 20) (pc' := 24) rfl (hb hby d5_20) (by decide) (by decide) ?_
        exact kt)
      obtain ⟨fs, hr, hrun, hended, hW, hsame⟩ := X0.leave (v := some (.int (1 : Int32))) (fun h => by rw [Bd.returns] at h; cases h)
      refine ⟨_, _, pre2 _ ?_, hrun, hended, _, _, rfl, ?_, ⟨_, rfl⟩, hW, hsame.mono (by decide) (by decide)⟩
      · show Steps p.tables e below (s₁.setTop (mkF m 24 #[.val (.ref a1), .val (.int p2), .val (.int p3), .val (.int p4)] [(.int (1 : Int32))])) _
        exact retN X0 hx (t := .boolean) Bd.returns (by simp) (hb hby d5_24) hr
      · show Q5 Z a1 p2 p3 p4 o i f h0 n0 _ s₁.heap _
        rw [e0]
        exact ⟨rfl, N0, rfl⟩
    · have hv := hun (by have h2 := mt (own_lt hi ho').mpr c2; omega)
      have pre3 : ∀ t, Steps p.tables e below (s₁.setTop (mkF m 24 #[.val (.ref a1), .val (.int p2), .val (.int p3), .val (.int p4)] [(.int (1 : Int32))])) t → Steps p.tables e below (s₁.setTop (entryFrame m #[(.ref a1), (.int p2), (.int p3), (.int p4)] 4)) t := fun t kt => pre0 t (by
        show Steps p.tables e below (s₁.setTop (mkF m 0 #[.val (.ref a1), .val (.int p2), .val (.int p3), .val (.int p4)] [])) _
        refine XS.iloadN X0.here hx rfl (hb hby d5_0) rfl ?_
        show Steps p.tables e below (s₁.setTop (mkF m 1 #[.val (.ref a1), .val (.int p2), .val (.int p3), .val (.int p4)] [(.int p4)])) _
        refine XS.iloadN X0.here hx rfl (hb hby d5_1) rfl ?_
        show Steps p.tables e below (s₁.setTop (mkF m 2 #[.val (.ref a1), .val (.int p2), .val (.int p3), .val (.int p4)] [(.int p2), (.int p4)])) _
        refine XS.icmpNo X0.here hx rfl (hb hby d5_2) rfl (flt c1).1 ?_
        show Steps p.tables e below (s₁.setTop (mkF m 5 #[.val (.ref a1), .val (.int p2), .val (.int p3), .val (.int p4)] [])) _
        refine XS.iloadN X0.here hx rfl (hb hby d5_5) rfl ?_
        show Steps p.tables e below (s₁.setTop (mkF m 6 #[.val (.ref a1), .val (.int p2), .val (.int p3), .val (.int p4)] [(.int p4)])) _
        refine XS.iloadN X0.here hx rfl (hb hby d5_6) rfl ?_
        show Steps p.tables e below (s₁.setTop (mkF m 7 #[.val (.ref a1), .val (.int p2), .val (.int p3), .val (.int p4)] [(.int p2), (.int p4)])) _
        refine XS.iconst X0.here hx rfl (hb hby d5_7) ?_
        show Steps p.tables e below (s₁.setTop (mkF m 8 #[.val (.ref a1), .val (.int p2), .val (.int p3), .val (.int p4)] [(.int (4 : Int32)), (.int p2), (.int p4)])) _
        refine XS.iadd X0.here hx rfl (hb hby d5_8) rfl ?_
        show Steps p.tables e below (s₁.setTop (mkF m 9 #[.val (.ref a1), .val (.int p2), .val (.int p3), .val (.int p4)] [(.int (p2 + (4 : Int32))), (.int p4)])) _
        refine XS.icmpNo X0.here hx rfl (hb hby d5_9) rfl (flt c2).1 ?_
        show Steps p.tables e below (s₁.setTop (mkF m 12 #[.val (.ref a1), .val (.int p2), .val (.int p3), .val (.int p4)] [])) _
        refine XS.aloadN X0.here hx rfl (hb hby d5_12) rfl rfl ?_
        show Steps p.tables e below (s₁.setTop (mkF m 13 #[.val (.ref a1), .val (.int p2), .val (.int p3), .val (.int p4)] [(.ref a1)])) _
        refine XS.iloadN X0.here hx rfl (hb hby d5_13) rfl ?_
        show Steps p.tables e below (s₁.setTop (mkF m 14 #[.val (.ref a1), .val (.int p2), .val (.int p3), .val (.int p4)] [(.int p4), (.ref a1)])) _
        refine own_bload X0 hx hZ e0 B0 (k := i) hi hi8 (g := (mkF m 14 #[.val (.ref a1), .val (.int p2), .val (.int p3), .val (.int p4)] [(.int p4), (.ref a1)])) rfl rfl (hb hby d5_14) _ ?_
        show Steps p.tables e below (s₁.setTop (mkF m 15 #[.val (.ref a1), .val (.int p2), .val (.int p3), .val (.int p4)] [(.int (f i))])) _
        refine XS.iloadN X0.here hx rfl (hb hby d5_15) rfl ?_
        show Steps p.tables e below (s₁.setTop (mkF m 16 #[.val (.ref a1), .val (.int p2), .val (.int p3), .val (.int p4)] [(.int p3), (.int (f i))])) _
        refine XS.icmpNo X0.here hx rfl (hb hby d5_16) rfl (teq hv).2 ?_
        show Steps p.tables e below (s₁.setTop (mkF m 19 #[.val (.ref a1), .val (.int p2), .val (.int p3), .val (.int p4)] [])) _
        refine XS.iconst X0.here hx rfl (hb hby d5_19) ?_
        show Steps p.tables e below (s₁.setTop (mkF m 20 #[.val (.ref a1), .val (.int p2), .val (.int p3), .val (.int p4)] [(.int (1 : Int32))])) _
        refine XS.goto X0.here hx rfl (pc0 := 20) (pc' := 24) rfl (hb hby d5_20) (by decide) (by decide) ?_
        exact kt)
      obtain ⟨fs, hr, hrun, hended, hW, hsame⟩ := X0.leave (v := some (.int (1 : Int32))) (fun h => by rw [Bd.returns] at h; cases h)
      refine ⟨_, _, pre3 _ ?_, hrun, hended, _, _, rfl, ?_, ⟨_, rfl⟩, hW, hsame.mono (by decide) (by decide)⟩
      · show Steps p.tables e below (s₁.setTop (mkF m 24 #[.val (.ref a1), .val (.int p2), .val (.int p3), .val (.int p4)] [(.int (1 : Int32))])) _
        exact retN X0 hx (t := .boolean) Bd.returns (by simp) (hb hby d5_24) hr
      · show Q5 Z a1 p2 p3 p4 o i f h0 n0 _ s₁.heap _
        rw [e0]
        exact ⟨rfl, N0, rfl⟩
theorem pn_0 : plainName "com/example/konnack/konnack/codec/FieldWriterU32PinLaw" = true := by first | (simp [plainName, overriddenIn]; done) | decide +kernel
theorem pd_0_0 : parseMethodDescriptor "([BI)V" = some ⟨[(.array .byte), .int], none⟩ := by decide +kernel
theorem pd_0_1 : parseMethodDescriptor "(J)V" = some ⟨[.long], none⟩ := by decide +kernel
theorem pd_0_2 : parseMethodDescriptor "()I" = some ⟨[], some .int⟩ := by decide +kernel
theorem pd_0_3 : parseMethodDescriptor "([BIBI)Z" = some ⟨[(.array .byte), .int, .byte, .int], some .boolean⟩ := by decide +kernel
theorem ef_0 (m : MethodId) (x0 : Int64) (x1 : Int32) (x2 : Int32) : entryFrame m #[(.long x0), (.int x1), (.int x2)] maxLocals = mkF m 0 #[.val (.long x0), .second, .val (.int x1), .val (.int x2), .unset, .unset, .unset, .unset, .unset] [] := by first | (simp [entryFrame, mkF, argsToLocals, Value.category, maxLocals]; done) | rfl
def Q0 (Z : State) (q1 : Int64) (p2 : Int32) (p3 : Int32) (h0 : Heap) (n0 : Nat) (v : Option Value) (h : Heap) (L : List Loc) : Prop := v = some (.int (1 : Int32)) ∧ Fr n0 L
set_option maxRecDepth 65536 in
set_option maxHeartbeats 40000000 in
theorem rm0 (l : Launch) (Z : State) (a0 : Array Value) (hw : ∀ d ∈ tables_1, d.before a0 Z = true) (ws : List Jvm.Cond) (q1 : Int64) (p2 : Int32) (p3 : Int32) (h0 : Heap) (n0 : Nat) (Z0 : n0 ≤ h0.size)  :
    MetFree l x (head1 (Jvm.Cond.code x code maxLocals ret :: ws) room_1) (fun a U => a = #[(.long q1), (.int p2), (.int p3)] ∧ Z.Warmed39 U.vm ∧ U.heap = h0) (fun _ _ _ _ _ => True) (fun _ U ou U' => ∃ v L, ou = .returned v ∧ Q0 Z q1 p2 p3 h0 n0 v U'.heap L ∧ FrameEnd U ou U' L room_1.cells room_1.slots) := by
  refine MetFree.of_bodySF (plainFor_of_name pn_0) hisR ?_
  intro p e s m args below meth c s₁ Bd hml0 hP hK
  obtain ⟨rfl, hZ, hh⟩ := hP
  have hx := Bd.exec
  have hby := Bd.bytes
  have hml : c.maxLocals = 9 := hml0
  have hown : s.vm.findClass "com/example/konnack/konnack/codec/FieldWriterU32PinLaw" = some m.cls := findClass_of_methodNamed Bd.named
  have hnm := (name_of_methodNamed Bd.named Bd.method).1
  have X0 : Stand p l e room_1 s m #[(.long q1), (.int p2), (.int p3)] below meth c s₁ [] 0 0 := Stand.of_body Bd
  have e0 : s₁.heap = h0 := by rw [← hh, Bd.state]; rfl
  have N0 := Fr.nil n0
  have pre0 : ∀ t, Steps p.tables e below (s₁.setTop (mkF m 0 #[.val (.long q1), .second, .val (.int p2), .val (.int p3), .unset, .unset, .unset, .unset, .unset] [])) t → Steps p.tables e below (s₁.setTop (entryFrame m #[(.long q1), (.int p2), (.int p3)] maxLocals)) t := fun t k => castTop (ef_0 m (q1) (p2) (p3)) k
  have pre1 : ∀ t, Steps p.tables e below (s₁.setTop (mkF m 12 #[.val (.long q1), .second, .val (.int p2), .val (.int p3), .val (.int ((p2 &&& (2147483647 : Int32)) % (5 : Int32))), .val (.int (p3.toInt8.toInt32)), .unset, .unset, .unset] [])) t → Steps p.tables e below (s₁.setTop (entryFrame m #[(.long q1), (.int p2), (.int p3)] maxLocals)) t := fun t kt => pre0 t (by
    show Steps p.tables e below (s₁.setTop (mkF m 0 #[.val (.long q1), .second, .val (.int p2), .val (.int p3), .unset, .unset, .unset, .unset, .unset] [])) _
    refine XS.iloadN X0.here hx rfl (hb hby at_0) rfl ?_
    show Steps p.tables e below (s₁.setTop (mkF m 1 #[.val (.long q1), .second, .val (.int p2), .val (.int p3), .unset, .unset, .unset, .unset, .unset] [(.int p2)])) _
    refine X0.ldcInt hx hown (mvT hZ (hw _ (List.mem_of_getElem? (i := 0) rfl))) (g := (mkF m 1 #[.val (.long q1), .second, .val (.int p2), .val (.int p3), .unset, .unset, .unset, .unset, .unset] [(.int p2)])) rfl (hb hby at_1) _ ?_
    show Steps p.tables e below (s₁.setTop (mkF m 3 #[.val (.long q1), .second, .val (.int p2), .val (.int p3), .unset, .unset, .unset, .unset, .unset] [(.int (2147483647 : Int32)), (.int p2)])) _
    refine XS.iand X0.here hx rfl (hb hby at_3) rfl ?_
    show Steps p.tables e below (s₁.setTop (mkF m 4 #[.val (.long q1), .second, .val (.int p2), .val (.int p3), .unset, .unset, .unset, .unset, .unset] [(.int (p2 &&& (2147483647 : Int32)))])) _
    refine XS.iconst X0.here hx rfl (hb hby at_4) ?_
    show Steps p.tables e below (s₁.setTop (mkF m 5 #[.val (.long q1), .second, .val (.int p2), .val (.int p3), .unset, .unset, .unset, .unset, .unset] [(.int (5 : Int32)), (.int (p2 &&& (2147483647 : Int32)))])) _
    refine iremM X0 hx rfl (hb hby at_5) rfl (by decide) ?_
    show Steps p.tables e below (s₁.setTop (mkF m 6 #[.val (.long q1), .second, .val (.int p2), .val (.int p3), .unset, .unset, .unset, .unset, .unset] [(.int ((p2 &&& (2147483647 : Int32)) % (5 : Int32)))])) _
    refine XS.istore X0.here hx rfl (hb hby at_6) rfl (l' := #[.val (.long q1), .second, .val (.int p2), .val (.int p3), .val (.int ((p2 &&& (2147483647 : Int32)) % (5 : Int32))), .unset, .unset, .unset, .unset]) rfl ?_
    show Steps p.tables e below (s₁.setTop (mkF m 8 #[.val (.long q1), .second, .val (.int p2), .val (.int p3), .val (.int ((p2 &&& (2147483647 : Int32)) % (5 : Int32))), .unset, .unset, .unset, .unset] [])) _
    refine XS.iloadN X0.here hx rfl (hb hby at_8) rfl ?_
    show Steps p.tables e below (s₁.setTop (mkF m 9 #[.val (.long q1), .second, .val (.int p2), .val (.int p3), .val (.int ((p2 &&& (2147483647 : Int32)) % (5 : Int32))), .unset, .unset, .unset, .unset] [(.int p3)])) _
    refine XS.i2b X0.here hx rfl (hb hby at_9) rfl ?_
    show Steps p.tables e below (s₁.setTop (mkF m 10 #[.val (.long q1), .second, .val (.int p2), .val (.int p3), .val (.int ((p2 &&& (2147483647 : Int32)) % (5 : Int32))), .unset, .unset, .unset, .unset] [(.int (p3.toInt8.toInt32))])) _
    refine XS.istore X0.here hx rfl (hb hby at_10) rfl (l' := #[.val (.long q1), .second, .val (.int p2), .val (.int p3), .val (.int ((p2 &&& (2147483647 : Int32)) % (5 : Int32))), .val (.int (p3.toInt8.toInt32)), .unset, .unset, .unset]) rfl ?_
    exact kt)
  obtain ⟨o, ho, ho4⟩ := own_o p2
  obtain ⟨off, hoff⟩ : ∃ z, ((p2 &&& (2147483647 : Int32)) % (5 : Int32)) = z := ⟨_, rfl⟩
  rw [hoff] at ho
  rw [hoff] at pre1
  have h8 := own_b8 p3
  obtain ⟨fv, hfv⟩ : ∃ z, (p3.toInt8.toInt32) = z := ⟨_, rfl⟩
  rw [hfv] at h8
  rw [hfv] at pre1
  have pre2 : ∀ t, Steps p.tables e below (s₁.setTop (mkF m 14 #[.val (.long q1), .second, .val (.int p2), .val (.int p3), .val (.int off), .val (.int fv), .unset, .unset, .unset] [(.int (8 : Int32))])) t → Steps p.tables e below (s₁.setTop (entryFrame m #[(.long q1), (.int p2), (.int p3)] maxLocals)) t := fun t kt => pre1 t (by
    show Steps p.tables e below (s₁.setTop (mkF m 12 #[.val (.long q1), .second, .val (.int p2), .val (.int p3), .val (.int off), .val (.int fv), .unset, .unset, .unset] [])) _
    refine XS.bipush X0.here hx rfl (hb hby at_12) ?_
    exact kt)
  obtain ⟨T3, h3, X3, e3, E3, B3, A3, st3⟩ := own_bnew X0 hx hZ (hw _ (List.mem_of_getElem? (i := 1) rfl)) e0 (g := (mkF m 14 #[.val (.long q1), .second, .val (.int p2), .val (.int p3), .val (.int off), .val (.int fv), .unset, .unset, .unset] [(.int (8 : Int32))])) rfl (hb hby at_14) rfl (n := 8) (by decide) (by decide) (by decide) (by decide)
  obtain ⟨b3, g3⟩ : ∃ z, z = h0.size := ⟨_, rfl⟩
  rw [← g3] at B3 A3 st3
  have pre4 : ∀ t, Steps p.tables e below (T3.setTop (mkF m 16 #[.val (.long q1), .second, .val (.int p2), .val (.int p3), .val (.int off), .val (.int fv), .unset, .unset, .unset] [(.ref b3)])) t → Steps p.tables e below (s₁.setTop (entryFrame m #[(.long q1), (.int p2), (.int p3)] maxLocals)) t := fun t kt => pre2 t (st3 t kt)
  have gb : n0 ≤ b3 := Nat.le_trans Z0 (Nat.le_of_eq g3.symm)
  have ZZ : n0 ≤ h3.size := Nat.le_trans Z0 E3.1
  have pre5 : ∀ t, Steps p.tables e below (T3.setTop (mkF m 20 #[.val (.long q1), .second, .val (.int p2), .val (.int p3), .val (.int off), .val (.int fv), .unset, .unset, .unset] [(.int fv), (.int (0 : Int32)), (.ref b3), (.ref b3)])) t → Steps p.tables e below (s₁.setTop (entryFrame m #[(.long q1), (.int p2), (.int p3)] maxLocals)) t := fun t kt => pre4 t (by
    show Steps p.tables e below (T3.setTop (mkF m 16 #[.val (.long q1), .second, .val (.int p2), .val (.int p3), .val (.int off), .val (.int fv), .unset, .unset, .unset] [(.ref b3)])) _
    refine XS.dup X3.here hx rfl (hb hby at_16) rfl rfl ?_
    show Steps p.tables e below (T3.setTop (mkF m 17 #[.val (.long q1), .second, .val (.int p2), .val (.int p3), .val (.int off), .val (.int fv), .unset, .unset, .unset] [(.ref b3), (.ref b3)])) _
    refine XS.iconst X3.here hx rfl (hb hby at_17) ?_
    show Steps p.tables e below (T3.setTop (mkF m 18 #[.val (.long q1), .second, .val (.int p2), .val (.int p3), .val (.int off), .val (.int fv), .unset, .unset, .unset] [(.int (0 : Int32)), (.ref b3), (.ref b3)])) _
    refine XS.iload X3.here hx rfl (hb hby at_18) rfl ?_
    exact kt)
  obtain ⟨T6, h6, X6, e6, B6, W6, st6⟩ := own_bstore X3 hx hZ e3 B3 (j := (0 : Int32)) (x := fv) (v := fv) (k := 0) (by decide) (by decide) h8 (g := (mkF m 20 #[.val (.long q1), .second, .val (.int p2), .val (.int p3), .val (.int off), .val (.int fv), .unset, .unset, .unset] [(.int fv), (.int (0 : Int32)), (.ref b3), (.ref b3)])) rfl rfl (hb hby at_20)
  have N6 := Fr.snoc X6 N0 gb
  have pre7 : ∀ t, Steps p.tables e below (T6.setTop (mkF m 21 #[.val (.long q1), .second, .val (.int p2), .val (.int p3), .val (.int off), .val (.int fv), .unset, .unset, .unset] [(.ref b3)])) t → Steps p.tables e below (s₁.setTop (entryFrame m #[(.long q1), (.int p2), (.int p3)] maxLocals)) t := fun t kt => pre5 t (st6 t kt)
  have ZZ6 : n0 ≤ h6.size := by rw [W6.size]; exact ZZ
  have pre8 : ∀ t, Steps p.tables e below (T6.setTop (mkF m 25 #[.val (.long q1), .second, .val (.int p2), .val (.int p3), .val (.int off), .val (.int fv), .unset, .unset, .unset] [(.int fv), (.int (1 : Int32)), (.ref b3), (.ref b3)])) t → Steps p.tables e below (s₁.setTop (entryFrame m #[(.long q1), (.int p2), (.int p3)] maxLocals)) t := fun t kt => pre7 t (by
    show Steps p.tables e below (T6.setTop (mkF m 21 #[.val (.long q1), .second, .val (.int p2), .val (.int p3), .val (.int off), .val (.int fv), .unset, .unset, .unset] [(.ref b3)])) _
    refine XS.dup X6.here hx rfl (hb hby at_21) rfl rfl ?_
    show Steps p.tables e below (T6.setTop (mkF m 22 #[.val (.long q1), .second, .val (.int p2), .val (.int p3), .val (.int off), .val (.int fv), .unset, .unset, .unset] [(.ref b3), (.ref b3)])) _
    refine XS.iconst X6.here hx rfl (hb hby at_22) ?_
    show Steps p.tables e below (T6.setTop (mkF m 23 #[.val (.long q1), .second, .val (.int p2), .val (.int p3), .val (.int off), .val (.int fv), .unset, .unset, .unset] [(.int (1 : Int32)), (.ref b3), (.ref b3)])) _
    refine XS.iload X6.here hx rfl (hb hby at_23) rfl ?_
    exact kt)
  obtain ⟨T9, h9, X9, e9, B9, W9, st9⟩ := own_bstore X6 hx hZ e6 B6 (j := (1 : Int32)) (x := fv) (v := fv) (k := 1) (by decide) (by decide) h8 (g := (mkF m 25 #[.val (.long q1), .second, .val (.int p2), .val (.int p3), .val (.int off), .val (.int fv), .unset, .unset, .unset] [(.int fv), (.int (1 : Int32)), (.ref b3), (.ref b3)])) rfl rfl (hb hby at_25)
  have N9 := Fr.snoc X9 N6 gb
  have pre10 : ∀ t, Steps p.tables e below (T9.setTop (mkF m 26 #[.val (.long q1), .second, .val (.int p2), .val (.int p3), .val (.int off), .val (.int fv), .unset, .unset, .unset] [(.ref b3)])) t → Steps p.tables e below (s₁.setTop (entryFrame m #[(.long q1), (.int p2), (.int p3)] maxLocals)) t := fun t kt => pre8 t (st9 t kt)
  have ZZ9 : n0 ≤ h9.size := by rw [W9.size]; exact ZZ6
  have pre11 : ∀ t, Steps p.tables e below (T9.setTop (mkF m 30 #[.val (.long q1), .second, .val (.int p2), .val (.int p3), .val (.int off), .val (.int fv), .unset, .unset, .unset] [(.int fv), (.int (2 : Int32)), (.ref b3), (.ref b3)])) t → Steps p.tables e below (s₁.setTop (entryFrame m #[(.long q1), (.int p2), (.int p3)] maxLocals)) t := fun t kt => pre10 t (by
    show Steps p.tables e below (T9.setTop (mkF m 26 #[.val (.long q1), .second, .val (.int p2), .val (.int p3), .val (.int off), .val (.int fv), .unset, .unset, .unset] [(.ref b3)])) _
    refine XS.dup X9.here hx rfl (hb hby at_26) rfl rfl ?_
    show Steps p.tables e below (T9.setTop (mkF m 27 #[.val (.long q1), .second, .val (.int p2), .val (.int p3), .val (.int off), .val (.int fv), .unset, .unset, .unset] [(.ref b3), (.ref b3)])) _
    refine XS.iconst X9.here hx rfl (hb hby at_27) ?_
    show Steps p.tables e below (T9.setTop (mkF m 28 #[.val (.long q1), .second, .val (.int p2), .val (.int p3), .val (.int off), .val (.int fv), .unset, .unset, .unset] [(.int (2 : Int32)), (.ref b3), (.ref b3)])) _
    refine XS.iload X9.here hx rfl (hb hby at_28) rfl ?_
    exact kt)
  obtain ⟨T12, h12, X12, e12, B12, W12, st12⟩ := own_bstore X9 hx hZ e9 B9 (j := (2 : Int32)) (x := fv) (v := fv) (k := 2) (by decide) (by decide) h8 (g := (mkF m 30 #[.val (.long q1), .second, .val (.int p2), .val (.int p3), .val (.int off), .val (.int fv), .unset, .unset, .unset] [(.int fv), (.int (2 : Int32)), (.ref b3), (.ref b3)])) rfl rfl (hb hby at_30)
  have N12 := Fr.snoc X12 N9 gb
  have pre13 : ∀ t, Steps p.tables e below (T12.setTop (mkF m 31 #[.val (.long q1), .second, .val (.int p2), .val (.int p3), .val (.int off), .val (.int fv), .unset, .unset, .unset] [(.ref b3)])) t → Steps p.tables e below (s₁.setTop (entryFrame m #[(.long q1), (.int p2), (.int p3)] maxLocals)) t := fun t kt => pre11 t (st12 t kt)
  have ZZ12 : n0 ≤ h12.size := by rw [W12.size]; exact ZZ9
  have pre14 : ∀ t, Steps p.tables e below (T12.setTop (mkF m 35 #[.val (.long q1), .second, .val (.int p2), .val (.int p3), .val (.int off), .val (.int fv), .unset, .unset, .unset] [(.int fv), (.int (3 : Int32)), (.ref b3), (.ref b3)])) t → Steps p.tables e below (s₁.setTop (entryFrame m #[(.long q1), (.int p2), (.int p3)] maxLocals)) t := fun t kt => pre13 t (by
    show Steps p.tables e below (T12.setTop (mkF m 31 #[.val (.long q1), .second, .val (.int p2), .val (.int p3), .val (.int off), .val (.int fv), .unset, .unset, .unset] [(.ref b3)])) _
    refine XS.dup X12.here hx rfl (hb hby at_31) rfl rfl ?_
    show Steps p.tables e below (T12.setTop (mkF m 32 #[.val (.long q1), .second, .val (.int p2), .val (.int p3), .val (.int off), .val (.int fv), .unset, .unset, .unset] [(.ref b3), (.ref b3)])) _
    refine XS.iconst X12.here hx rfl (hb hby at_32) ?_
    show Steps p.tables e below (T12.setTop (mkF m 33 #[.val (.long q1), .second, .val (.int p2), .val (.int p3), .val (.int off), .val (.int fv), .unset, .unset, .unset] [(.int (3 : Int32)), (.ref b3), (.ref b3)])) _
    refine XS.iload X12.here hx rfl (hb hby at_33) rfl ?_
    exact kt)
  obtain ⟨T15, h15, X15, e15, B15, W15, st15⟩ := own_bstore X12 hx hZ e12 B12 (j := (3 : Int32)) (x := fv) (v := fv) (k := 3) (by decide) (by decide) h8 (g := (mkF m 35 #[.val (.long q1), .second, .val (.int p2), .val (.int p3), .val (.int off), .val (.int fv), .unset, .unset, .unset] [(.int fv), (.int (3 : Int32)), (.ref b3), (.ref b3)])) rfl rfl (hb hby at_35)
  have N15 := Fr.snoc X15 N12 gb
  have pre16 : ∀ t, Steps p.tables e below (T15.setTop (mkF m 36 #[.val (.long q1), .second, .val (.int p2), .val (.int p3), .val (.int off), .val (.int fv), .unset, .unset, .unset] [(.ref b3)])) t → Steps p.tables e below (s₁.setTop (entryFrame m #[(.long q1), (.int p2), (.int p3)] maxLocals)) t := fun t kt => pre14 t (st15 t kt)
  have ZZ15 : n0 ≤ h15.size := by rw [W15.size]; exact ZZ12
  have pre17 : ∀ t, Steps p.tables e below (T15.setTop (mkF m 40 #[.val (.long q1), .second, .val (.int p2), .val (.int p3), .val (.int off), .val (.int fv), .unset, .unset, .unset] [(.int fv), (.int (4 : Int32)), (.ref b3), (.ref b3)])) t → Steps p.tables e below (s₁.setTop (entryFrame m #[(.long q1), (.int p2), (.int p3)] maxLocals)) t := fun t kt => pre16 t (by
    show Steps p.tables e below (T15.setTop (mkF m 36 #[.val (.long q1), .second, .val (.int p2), .val (.int p3), .val (.int off), .val (.int fv), .unset, .unset, .unset] [(.ref b3)])) _
    refine XS.dup X15.here hx rfl (hb hby at_36) rfl rfl ?_
    show Steps p.tables e below (T15.setTop (mkF m 37 #[.val (.long q1), .second, .val (.int p2), .val (.int p3), .val (.int off), .val (.int fv), .unset, .unset, .unset] [(.ref b3), (.ref b3)])) _
    refine XS.iconst X15.here hx rfl (hb hby at_37) ?_
    show Steps p.tables e below (T15.setTop (mkF m 38 #[.val (.long q1), .second, .val (.int p2), .val (.int p3), .val (.int off), .val (.int fv), .unset, .unset, .unset] [(.int (4 : Int32)), (.ref b3), (.ref b3)])) _
    refine XS.iload X15.here hx rfl (hb hby at_38) rfl ?_
    exact kt)
  obtain ⟨T18, h18, X18, e18, B18, W18, st18⟩ := own_bstore X15 hx hZ e15 B15 (j := (4 : Int32)) (x := fv) (v := fv) (k := 4) (by decide) (by decide) h8 (g := (mkF m 40 #[.val (.long q1), .second, .val (.int p2), .val (.int p3), .val (.int off), .val (.int fv), .unset, .unset, .unset] [(.int fv), (.int (4 : Int32)), (.ref b3), (.ref b3)])) rfl rfl (hb hby at_40)
  have N18 := Fr.snoc X18 N15 gb
  have pre19 : ∀ t, Steps p.tables e below (T18.setTop (mkF m 41 #[.val (.long q1), .second, .val (.int p2), .val (.int p3), .val (.int off), .val (.int fv), .unset, .unset, .unset] [(.ref b3)])) t → Steps p.tables e below (s₁.setTop (entryFrame m #[(.long q1), (.int p2), (.int p3)] maxLocals)) t := fun t kt => pre17 t (st18 t kt)
  have ZZ18 : n0 ≤ h18.size := by rw [W18.size]; exact ZZ15
  have pre20 : ∀ t, Steps p.tables e below (T18.setTop (mkF m 45 #[.val (.long q1), .second, .val (.int p2), .val (.int p3), .val (.int off), .val (.int fv), .unset, .unset, .unset] [(.int fv), (.int (5 : Int32)), (.ref b3), (.ref b3)])) t → Steps p.tables e below (s₁.setTop (entryFrame m #[(.long q1), (.int p2), (.int p3)] maxLocals)) t := fun t kt => pre19 t (by
    show Steps p.tables e below (T18.setTop (mkF m 41 #[.val (.long q1), .second, .val (.int p2), .val (.int p3), .val (.int off), .val (.int fv), .unset, .unset, .unset] [(.ref b3)])) _
    refine XS.dup X18.here hx rfl (hb hby at_41) rfl rfl ?_
    show Steps p.tables e below (T18.setTop (mkF m 42 #[.val (.long q1), .second, .val (.int p2), .val (.int p3), .val (.int off), .val (.int fv), .unset, .unset, .unset] [(.ref b3), (.ref b3)])) _
    refine XS.iconst X18.here hx rfl (hb hby at_42) ?_
    show Steps p.tables e below (T18.setTop (mkF m 43 #[.val (.long q1), .second, .val (.int p2), .val (.int p3), .val (.int off), .val (.int fv), .unset, .unset, .unset] [(.int (5 : Int32)), (.ref b3), (.ref b3)])) _
    refine XS.iload X18.here hx rfl (hb hby at_43) rfl ?_
    exact kt)
  obtain ⟨T21, h21, X21, e21, B21, W21, st21⟩ := own_bstore X18 hx hZ e18 B18 (j := (5 : Int32)) (x := fv) (v := fv) (k := 5) (by decide) (by decide) h8 (g := (mkF m 45 #[.val (.long q1), .second, .val (.int p2), .val (.int p3), .val (.int off), .val (.int fv), .unset, .unset, .unset] [(.int fv), (.int (5 : Int32)), (.ref b3), (.ref b3)])) rfl rfl (hb hby at_45)
  have N21 := Fr.snoc X21 N18 gb
  have pre22 : ∀ t, Steps p.tables e below (T21.setTop (mkF m 46 #[.val (.long q1), .second, .val (.int p2), .val (.int p3), .val (.int off), .val (.int fv), .unset, .unset, .unset] [(.ref b3)])) t → Steps p.tables e below (s₁.setTop (entryFrame m #[(.long q1), (.int p2), (.int p3)] maxLocals)) t := fun t kt => pre20 t (st21 t kt)
  have ZZ21 : n0 ≤ h21.size := by rw [W21.size]; exact ZZ18
  have pre23 : ∀ t, Steps p.tables e below (T21.setTop (mkF m 51 #[.val (.long q1), .second, .val (.int p2), .val (.int p3), .val (.int off), .val (.int fv), .unset, .unset, .unset] [(.int fv), (.int (6 : Int32)), (.ref b3), (.ref b3)])) t → Steps p.tables e below (s₁.setTop (entryFrame m #[(.long q1), (.int p2), (.int p3)] maxLocals)) t := fun t kt => pre22 t (by
    show Steps p.tables e below (T21.setTop (mkF m 46 #[.val (.long q1), .second, .val (.int p2), .val (.int p3), .val (.int off), .val (.int fv), .unset, .unset, .unset] [(.ref b3)])) _
    refine XS.dup X21.here hx rfl (hb hby at_46) rfl rfl ?_
    show Steps p.tables e below (T21.setTop (mkF m 47 #[.val (.long q1), .second, .val (.int p2), .val (.int p3), .val (.int off), .val (.int fv), .unset, .unset, .unset] [(.ref b3), (.ref b3)])) _
    refine XS.bipush X21.here hx rfl (hb hby at_47) ?_
    show Steps p.tables e below (T21.setTop (mkF m 49 #[.val (.long q1), .second, .val (.int p2), .val (.int p3), .val (.int off), .val (.int fv), .unset, .unset, .unset] [(.int (6 : Int32)), (.ref b3), (.ref b3)])) _
    refine XS.iload X21.here hx rfl (hb hby at_49) rfl ?_
    exact kt)
  obtain ⟨T24, h24, X24, e24, B24, W24, st24⟩ := own_bstore X21 hx hZ e21 B21 (j := (6 : Int32)) (x := fv) (v := fv) (k := 6) (by decide) (by decide) h8 (g := (mkF m 51 #[.val (.long q1), .second, .val (.int p2), .val (.int p3), .val (.int off), .val (.int fv), .unset, .unset, .unset] [(.int fv), (.int (6 : Int32)), (.ref b3), (.ref b3)])) rfl rfl (hb hby at_51)
  have N24 := Fr.snoc X24 N21 gb
  have pre25 : ∀ t, Steps p.tables e below (T24.setTop (mkF m 52 #[.val (.long q1), .second, .val (.int p2), .val (.int p3), .val (.int off), .val (.int fv), .unset, .unset, .unset] [(.ref b3)])) t → Steps p.tables e below (s₁.setTop (entryFrame m #[(.long q1), (.int p2), (.int p3)] maxLocals)) t := fun t kt => pre23 t (st24 t kt)
  have ZZ24 : n0 ≤ h24.size := by rw [W24.size]; exact ZZ21
  have pre26 : ∀ t, Steps p.tables e below (T24.setTop (mkF m 57 #[.val (.long q1), .second, .val (.int p2), .val (.int p3), .val (.int off), .val (.int fv), .unset, .unset, .unset] [(.int fv), (.int (7 : Int32)), (.ref b3), (.ref b3)])) t → Steps p.tables e below (s₁.setTop (entryFrame m #[(.long q1), (.int p2), (.int p3)] maxLocals)) t := fun t kt => pre25 t (by
    show Steps p.tables e below (T24.setTop (mkF m 52 #[.val (.long q1), .second, .val (.int p2), .val (.int p3), .val (.int off), .val (.int fv), .unset, .unset, .unset] [(.ref b3)])) _
    refine XS.dup X24.here hx rfl (hb hby at_52) rfl rfl ?_
    show Steps p.tables e below (T24.setTop (mkF m 53 #[.val (.long q1), .second, .val (.int p2), .val (.int p3), .val (.int off), .val (.int fv), .unset, .unset, .unset] [(.ref b3), (.ref b3)])) _
    refine XS.bipush X24.here hx rfl (hb hby at_53) ?_
    show Steps p.tables e below (T24.setTop (mkF m 55 #[.val (.long q1), .second, .val (.int p2), .val (.int p3), .val (.int off), .val (.int fv), .unset, .unset, .unset] [(.int (7 : Int32)), (.ref b3), (.ref b3)])) _
    refine XS.iload X24.here hx rfl (hb hby at_55) rfl ?_
    exact kt)
  obtain ⟨T27, h27, X27, e27, B27, W27, st27⟩ := own_bstore X24 hx hZ e24 B24 (j := (7 : Int32)) (x := fv) (v := fv) (k := 7) (by decide) (by decide) h8 (g := (mkF m 57 #[.val (.long q1), .second, .val (.int p2), .val (.int p3), .val (.int off), .val (.int fv), .unset, .unset, .unset] [(.int fv), (.int (7 : Int32)), (.ref b3), (.ref b3)])) rfl rfl (hb hby at_57)
  have N27 := Fr.snoc X27 N24 gb
  have pre28 : ∀ t, Steps p.tables e below (T27.setTop (mkF m 58 #[.val (.long q1), .second, .val (.int p2), .val (.int p3), .val (.int off), .val (.int fv), .unset, .unset, .unset] [(.ref b3)])) t → Steps p.tables e below (s₁.setTop (entryFrame m #[(.long q1), (.int p2), (.int p3)] maxLocals)) t := fun t kt => pre26 t (st27 t kt)
  have ZZ27 : n0 ≤ h27.size := by rw [W27.size]; exact ZZ24
  have BB := B27.congr (own_fill fv)
  have pre29 : ∀ t, Steps p.tables e below (T27.setTop (mkF m 60 #[.val (.long q1), .second, .val (.int p2), .val (.int p3), .val (.int off), .val (.int fv), .val (.ref b3), .unset, .unset] [])) t → Steps p.tables e below (s₁.setTop (entryFrame m #[(.long q1), (.int p2), (.int p3)] maxLocals)) t := fun t kt => pre28 t (by
    show Steps p.tables e below (T27.setTop (mkF m 58 #[.val (.long q1), .second, .val (.int p2), .val (.int p3), .val (.int off), .val (.int fv), .unset, .unset, .unset] [(.ref b3)])) _
    refine XS.astore X27.here hx rfl (hb hby at_58) rfl rfl (l' := #[.val (.long q1), .second, .val (.int p2), .val (.int p3), .val (.int off), .val (.int fv), .val (.ref b3), .unset, .unset]) rfl ?_
    exact kt)
  obtain ⟨T30, h30, X30, e30, E30, A30, D30, -, st30⟩ := newO X27 hx hZ hown (hw _ (List.mem_of_getElem? (i := 2) rfl)) (hw _ (List.mem_of_getElem? (i := 3) rfl)) (hw _ (List.mem_of_getElem? (i := 4) rfl)) e27 (g := (mkF m 60 #[.val (.long q1), .second, .val (.int p2), .val (.int p3), .val (.int off), .val (.int fv), .val (.ref b3), .unset, .unset] [])) rfl (hb hby at_60) (by decide) (by decide)
  obtain ⟨b30, g30⟩ : ∃ z, z = h27.size := ⟨_, rfl⟩
  rw [← g30] at A30 D30 st30
  have pre31 : ∀ t, Steps p.tables e below (T30.setTop (mkF m 63 #[.val (.long q1), .second, .val (.int p2), .val (.int p3), .val (.int off), .val (.int fv), .val (.ref b3), .unset, .unset] [(.ref b30)])) t → Steps p.tables e below (s₁.setTop (entryFrame m #[(.long q1), (.int p2), (.int p3)] maxLocals)) t := fun t kt => pre29 t (st30 t kt)
  have BB2 := BB.ext E30
  have hne : b30 ≠ b3 := by rw [g30]; exact Nat.ne_of_gt BB.lt
  have gc : n0 ≤ b30 := Nat.le_trans ZZ27 (Nat.le_of_eq g30.symm)
  have ZZ9 : n0 ≤ h30.size := Nat.le_trans ZZ27 E30.1
  have Fb : Fld Z h30 b30 "com/example/konnack/konnack/codec/FieldWriter" "bytes" "[B" .null := D30 (Or.inr (hw _ (List.mem_of_getElem? (i := 12) rfl))) (ty := (.array .byte)) (by decide)
  have Fp : Fld Z h30 b30 "com/example/konnack/konnack/codec/FieldWriter" "position" "I" (.int (0 : Int32)) := D30 (Or.inl (hw _ (List.mem_of_getElem? (i := 14) rfl))) (ty := .int) (by decide)
  have pre32 : ∀ t, Steps p.tables e below (T30.setTop (mkF m 68 #[.val (.long q1), .second, .val (.int p2), .val (.int p3), .val (.int off), .val (.int fv), .val (.ref b3), .unset, .unset] [(.int off), (.ref b3), (.ref b30), (.ref b30)])) t → Steps p.tables e below (s₁.setTop (entryFrame m #[(.long q1), (.int p2), (.int p3)] maxLocals)) t := fun t kt => pre31 t (by
    show Steps p.tables e below (T30.setTop (mkF m 63 #[.val (.long q1), .second, .val (.int p2), .val (.int p3), .val (.int off), .val (.int fv), .val (.ref b3), .unset, .unset] [(.ref b30)])) _
    refine XS.dup X30.here hx rfl (hb hby at_63) rfl rfl ?_
    show Steps p.tables e below (T30.setTop (mkF m 64 #[.val (.long q1), .second, .val (.int p2), .val (.int p3), .val (.int off), .val (.int fv), .val (.ref b3), .unset, .unset] [(.ref b30), (.ref b30)])) _
    refine XS.aload X30.here hx rfl (hb hby at_64) rfl rfl ?_
    show Steps p.tables e below (T30.setTop (mkF m 66 #[.val (.long q1), .second, .val (.int p2), .val (.int p3), .val (.int off), .val (.int fv), .val (.ref b3), .unset, .unset] [(.ref b3), (.ref b30), (.ref b30)])) _
    refine XS.iload X30.here hx rfl (hb hby at_66) rfl ?_
    exact kt)
  obtain ⟨_, _, ⟨T33, L33, k33, n33⟩, -, X33, ⟨Lc33, hQ33, l33, y33, z33⟩, st33⟩ := X30.specialBack hx (y := (⟨"com/example/konnack/konnack/codec/FieldWriter", "<init>", "([BI)V"⟩ : MethodName)) rfl hown (mvT hZ (hw _ (List.mem_of_getElem? (i := 5) rfl))) (mvT hZ (hw _ (List.mem_of_getElem? (i := 6) rfl))) (mvT hZ (hw _ (List.mem_of_getElem? (i := 7) rfl))) (by decide) (backOf (W := 1) (rm1 l Z a0 hw [] b30 b3 off h30 n0 ZZ9 A30 Fb Fp gc) hZ (hw _ (List.mem_of_getElem? (i := 7) rfl)) (hw _ (List.mem_of_getElem? (i := 4) rfl)) (by decide) (by decide)) (g := (mkF m 68 #[.val (.long q1), .second, .val (.int p2), .val (.int p3), .val (.int off), .val (.int fv), .val (.ref b3), .unset, .unset] [(.int off), (.ref b3), (.ref b30), (.ref b30)])) rfl (by rw [hml]; rfl) (Steps.refl _) (a := b30) (argsL := [(.ref b3), (.int off)]) (rest := [(.ref b30)]) (lenOf pd_0_0 rfl) rfl (by show 2 * 0 + _ ≤ _; exact Nat.le_of_eq rfl) (hb hby at_68) (fun _ _ => ⟨rfl, e30, (by decide : 2 + 0 ≤ _), (by decide : 10 + 0 ≤ _)⟩)
  dsimp only [Pt.U, Pt.locs, Pt.cells, Pt.slots] at X33 l33 y33 z33 st33 hQ33
  subst l33 y33 z33
  obtain ⟨rfl, N33q, K33, Ex33, Fb33, Fp33⟩ := hQ33
  have N33 := Fr.app N27 N33q
  have pre34 : ∀ t, Steps p.tables e below (T33.setTop (mkF m 71 #[.val (.long q1), .second, .val (.int p2), .val (.int p3), .val (.int off), .val (.int fv), .val (.ref b3), .unset, .unset] [(.ref b30)])) t → Steps p.tables e below (s₁.setTop (entryFrame m #[(.long q1), (.int p2), (.int p3)] maxLocals)) t := fun t kt => pre32 t (st33.trans kt)
  have BB3 := BB2.keep K33 (ninS (Ne.symm hne) nin0)
  have ZZa : n0 ≤ T33.heap.size := Nat.le_trans ZZ9 K33.1
  have pre35 : ∀ t, Steps p.tables e below (T33.setTop (mkF m 76 #[.val (.long q1), .second, .val (.int p2), .val (.int p3), .val (.int off), .val (.int fv), .val (.ref b3), .val (.ref b30), .unset] [(.long q1), (.ref b30)])) t → Steps p.tables e below (s₁.setTop (entryFrame m #[(.long q1), (.int p2), (.int p3)] maxLocals)) t := fun t kt => pre34 t (by
    show Steps p.tables e below (T33.setTop (mkF m 71 #[.val (.long q1), .second, .val (.int p2), .val (.int p3), .val (.int off), .val (.int fv), .val (.ref b3), .unset, .unset] [(.ref b30)])) _
    refine XS.astore X33.here hx rfl (hb hby at_71) rfl rfl (l' := #[.val (.long q1), .second, .val (.int p2), .val (.int p3), .val (.int off), .val (.int fv), .val (.ref b3), .val (.ref b30), .unset]) rfl ?_
    show Steps p.tables e below (T33.setTop (mkF m 73 #[.val (.long q1), .second, .val (.int p2), .val (.int p3), .val (.int off), .val (.int fv), .val (.ref b3), .val (.ref b30), .unset] [])) _
    refine XS.aload X33.here hx rfl (hb hby at_73) rfl rfl ?_
    show Steps p.tables e below (T33.setTop (mkF m 75 #[.val (.long q1), .second, .val (.int p2), .val (.int p3), .val (.int off), .val (.int fv), .val (.ref b3), .val (.ref b30), .unset] [(.ref b30)])) _
    refine XS.lloadN X33.here hx rfl (hb hby at_75) rfl ?_
    exact kt)
  obtain ⟨cq36, kq36, q36a, q36b, q36c⟩ := isOf hZ rfl Ex33
  obtain ⟨_, _, ⟨T36, L36, k36, n36⟩, -, X36, ⟨Lc36, hQ36, l36, y36, z36⟩, st36⟩ := X33.virtualBack hx (y := (⟨"com/example/konnack/konnack/codec/FieldWriter", "u32", "(J)V"⟩ : MethodName)) (z := (⟨"com/example/konnack/konnack/codec/FieldWriter", "u32", "(J)V"⟩ : MethodName)) hown (mvT hZ (hw _ (List.mem_of_getElem? (i := 15) rfl))) (mvT hZ (hw _ (List.mem_of_getElem? (i := 16) rfl))) (notFace_of_selects (args := #[]) (mvT hZ (hw _ (List.mem_of_getElem? (i := 18) rfl)))) (mvT hZ (hw _ (List.mem_of_getElem? (i := 18) rfl))) (mvT hZ (hw _ (List.mem_of_getElem? (i := 17) rfl))) (by decide) (backOf (W := 0) (rm3 l Z a0 hw [] b30 q1 b3 off o _ T33.heap n0 ZZa Ex33 Fb33 Fp33 BB3 hne gc gb ho ho4) hZ (hw _ (List.mem_of_getElem? (i := 19) rfl)) (hw _ (List.mem_of_getElem? (i := 4) rfl)) (by decide) (by decide)) q36a q36c (g := (mkF m 76 #[.val (.long q1), .second, .val (.int p2), .val (.int p3), .val (.int off), .val (.int fv), .val (.ref b3), .val (.ref b30), .unset] [(.long q1), (.ref b30)])) rfl (by rw [hml]; rfl) (Steps.refl _) (argsL := [(.long q1)]) (rest := []) (lenOf pd_0_1 rfl) rfl (by show 2 * 0 + _ ≤ _; exact Nat.le_of_eq rfl) (hb hby at_76) (fun _ _ => ⟨rfl, rfl, (by decide : 2 + 0 ≤ _), (by decide : 10 + 0 ≤ _)⟩)
  dsimp only [Pt.U, Pt.locs, Pt.cells, Pt.slots] at X36 l36 y36 z36 st36 hQ36
  subst l36 y36 z36
  obtain ⟨rfl, N36q, K36, Ex36, Fp36, B36⟩ := hQ36
  have N36 := Fr.app N33 N36q
  have pre37 : ∀ t, Steps p.tables e below (T36.setTop (mkF m 79 #[.val (.long q1), .second, .val (.int p2), .val (.int p3), .val (.int off), .val (.int fv), .val (.ref b3), .val (.ref b30), .unset] [])) t → Steps p.tables e below (s₁.setTop (entryFrame m #[(.long q1), (.int p2), (.int p3)] maxLocals)) t := fun t kt => pre35 t (st36.trans kt)
  have ZZb : n0 ≤ T36.heap.size := Nat.le_trans ZZa K36.1
  have pre38 : ∀ t, Steps p.tables e below (T36.setTop (mkF m 81 #[.val (.long q1), .second, .val (.int p2), .val (.int p3), .val (.int off), .val (.int fv), .val (.ref b3), .val (.ref b30), .unset] [(.ref b30)])) t → Steps p.tables e below (s₁.setTop (entryFrame m #[(.long q1), (.int p2), (.int p3)] maxLocals)) t := fun t kt => pre37 t (by
    show Steps p.tables e below (T36.setTop (mkF m 79 #[.val (.long q1), .second, .val (.int p2), .val (.int p3), .val (.int off), .val (.int fv), .val (.ref b3), .val (.ref b30), .unset] [])) _
    refine XS.aload X36.here hx rfl (hb hby at_79) rfl rfl ?_
    exact kt)
  obtain ⟨cq39, kq39, q39a, q39b, q39c⟩ := isOf hZ rfl Ex36
  obtain ⟨_, _, ⟨T39, L39, k39, n39⟩, -, X39, ⟨Lc39, hQ39, l39, y39, z39⟩, st39⟩ := X36.virtualBack hx (y := (⟨"com/example/konnack/konnack/codec/FieldWriter", "position", "()I"⟩ : MethodName)) (z := (⟨"com/example/konnack/konnack/codec/FieldWriter", "position", "()I"⟩ : MethodName)) hown (mvT hZ (hw _ (List.mem_of_getElem? (i := 20) rfl))) (mvT hZ (hw _ (List.mem_of_getElem? (i := 21) rfl))) (notFace_of_selects (args := #[]) (mvT hZ (hw _ (List.mem_of_getElem? (i := 23) rfl)))) (mvT hZ (hw _ (List.mem_of_getElem? (i := 23) rfl))) (mvT hZ (hw _ (List.mem_of_getElem? (i := 22) rfl))) (by decide) (backOf (W := 0) (rm4 l Z a0 hw [] b30 (off + (4 : Int32)) T36.heap n0 ZZb Fp36) hZ (hw _ (List.mem_of_getElem? (i := 24) rfl)) (hw _ (List.mem_of_getElem? (i := 4) rfl)) (by decide) (by decide)) q39a q39c (g := (mkF m 81 #[.val (.long q1), .second, .val (.int p2), .val (.int p3), .val (.int off), .val (.int fv), .val (.ref b3), .val (.ref b30), .unset] [(.ref b30)])) rfl (by rw [hml]; rfl) (Steps.refl _) (argsL := []) (rest := []) (lenOf pd_0_2 rfl) rfl (by show 2 * 0 + _ ≤ _; exact Nat.le_of_eq rfl) (hb hby at_81) (fun _ _ => ⟨rfl, rfl, (by decide : 2 + 0 ≤ _), (by decide : 10 + 0 ≤ _)⟩)
  dsimp only [Pt.U, Pt.locs, Pt.cells, Pt.slots] at X39 l39 y39 z39 st39 hQ39
  subst l39 y39 z39
  obtain ⟨rfl, N39q, e39⟩ := hQ39
  have N39 := Fr.app N36 N39q
  have pre40 : ∀ t, Steps p.tables e below (T39.setTop (mkF m 84 #[.val (.long q1), .second, .val (.int p2), .val (.int p3), .val (.int off), .val (.int fv), .val (.ref b3), .val (.ref b30), .unset] [(.int (off + (4 : Int32)))])) t → Steps p.tables e below (s₁.setTop (entryFrame m #[(.long q1), (.int p2), (.int p3)] maxLocals)) t := fun t kt => pre38 t (st39.trans kt)
  have pre41 : ∀ t, Steps p.tables e below (T39.setTop (mkF m 158 #[.val (.long q1), .second, .val (.int p2), .val (.int p3), .val (.int off), .val (.int fv), .val (.ref b3), .val (.ref b30), .val (.int ((((((own_w q1 (fun _ => fv) o o) &&& (255 : Int32)) <<< ((24 : Int32) &&& 31)) ||| (((own_w q1 (fun _ => fv) o (o + 1)) &&& (255 : Int32)) <<< ((16 : Int32) &&& 31))) ||| (((own_w q1 (fun _ => fv) o (o + 2)) &&& (255 : Int32)) <<< ((8 : Int32) &&& 31))) ||| ((own_w q1 (fun _ => fv) o (o + 3)) &&& (255 : Int32))))] [])) t → Steps p.tables e below (s₁.setTop (entryFrame m #[(.long q1), (.int p2), (.int p3)] maxLocals)) t := fun t kt => pre40 t (by
    show Steps p.tables e below (T39.setTop (mkF m 84 #[.val (.long q1), .second, .val (.int p2), .val (.int p3), .val (.int off), .val (.int fv), .val (.ref b3), .val (.ref b30), .unset] [(.int (off + (4 : Int32)))])) _
    refine XS.iload X39.here hx rfl (hb hby at_84) rfl ?_
    show Steps p.tables e below (T39.setTop (mkF m 86 #[.val (.long q1), .second, .val (.int p2), .val (.int p3), .val (.int off), .val (.int fv), .val (.ref b3), .val (.ref b30), .unset] [(.int off), (.int (off + (4 : Int32)))])) _
    refine XS.iconst X39.here hx rfl (hb hby at_86) ?_
    show Steps p.tables e below (T39.setTop (mkF m 87 #[.val (.long q1), .second, .val (.int p2), .val (.int p3), .val (.int off), .val (.int fv), .val (.ref b3), .val (.ref b30), .unset] [(.int (4 : Int32)), (.int off), (.int (off + (4 : Int32)))])) _
    refine XS.iadd X39.here hx rfl (hb hby at_87) rfl ?_
    show Steps p.tables e below (T39.setTop (mkF m 88 #[.val (.long q1), .second, .val (.int p2), .val (.int p3), .val (.int off), .val (.int fv), .val (.ref b3), .val (.ref b30), .unset] [(.int (off + (4 : Int32))), (.int (off + (4 : Int32)))])) _
    refine XS.icmpYes X39.here hx rfl (pc0 := 88) (pc' := 93) rfl (hb hby at_88) rfl (teq rfl).1 (by decide) (by decide) ?_
    show Steps p.tables e below (T39.setTop (mkF m 93 #[.val (.long q1), .second, .val (.int p2), .val (.int p3), .val (.int off), .val (.int fv), .val (.ref b3), .val (.ref b30), .unset] [])) _
    refine XS.aload X39.here hx rfl (hb hby at_93) rfl rfl ?_
    show Steps p.tables e below (T39.setTop (mkF m 95 #[.val (.long q1), .second, .val (.int p2), .val (.int p3), .val (.int off), .val (.int fv), .val (.ref b3), .val (.ref b30), .unset] [(.ref b3)])) _
    refine XS.iload X39.here hx rfl (hb hby at_95) rfl ?_
    show Steps p.tables e below (T39.setTop (mkF m 97 #[.val (.long q1), .second, .val (.int p2), .val (.int p3), .val (.int off), .val (.int fv), .val (.ref b3), .val (.ref b30), .unset] [(.int off), (.ref b3)])) _
    refine own_bload X39 hx hZ e39 B36 (k := o) ho (by omega) (g := (mkF m 97 #[.val (.long q1), .second, .val (.int p2), .val (.int p3), .val (.int off), .val (.int fv), .val (.ref b3), .val (.ref b30), .unset] [(.int off), (.ref b3)])) rfl rfl (hb hby at_97) _ ?_
    show Steps p.tables e below (T39.setTop (mkF m 98 #[.val (.long q1), .second, .val (.int p2), .val (.int p3), .val (.int off), .val (.int fv), .val (.ref b3), .val (.ref b30), .unset] [(.int (own_w q1 (fun _ => fv) o o))])) _
    refine XS.sipush X39.here hx rfl (hb hby at_98) ?_
    show Steps p.tables e below (T39.setTop (mkF m 101 #[.val (.long q1), .second, .val (.int p2), .val (.int p3), .val (.int off), .val (.int fv), .val (.ref b3), .val (.ref b30), .unset] [(.int (255 : Int32)), (.int (own_w q1 (fun _ => fv) o o))])) _
    refine XS.iand X39.here hx rfl (hb hby at_101) rfl ?_
    show Steps p.tables e below (T39.setTop (mkF m 102 #[.val (.long q1), .second, .val (.int p2), .val (.int p3), .val (.int off), .val (.int fv), .val (.ref b3), .val (.ref b30), .unset] [(.int ((own_w q1 (fun _ => fv) o o) &&& (255 : Int32)))])) _
    refine XS.bipush X39.here hx rfl (hb hby at_102) ?_
    show Steps p.tables e below (T39.setTop (mkF m 104 #[.val (.long q1), .second, .val (.int p2), .val (.int p3), .val (.int off), .val (.int fv), .val (.ref b3), .val (.ref b30), .unset] [(.int (24 : Int32)), (.int ((own_w q1 (fun _ => fv) o o) &&& (255 : Int32)))])) _
    refine XS.ishl X39.here hx rfl (hb hby at_104) rfl ?_
    show Steps p.tables e below (T39.setTop (mkF m 105 #[.val (.long q1), .second, .val (.int p2), .val (.int p3), .val (.int off), .val (.int fv), .val (.ref b3), .val (.ref b30), .unset] [(.int (((own_w q1 (fun _ => fv) o o) &&& (255 : Int32)) <<< ((24 : Int32) &&& 31)))])) _
    refine XS.aload X39.here hx rfl (hb hby at_105) rfl rfl ?_
    show Steps p.tables e below (T39.setTop (mkF m 107 #[.val (.long q1), .second, .val (.int p2), .val (.int p3), .val (.int off), .val (.int fv), .val (.ref b3), .val (.ref b30), .unset] [(.ref b3), (.int (((own_w q1 (fun _ => fv) o o) &&& (255 : Int32)) <<< ((24 : Int32) &&& 31)))])) _
    refine XS.iload X39.here hx rfl (hb hby at_107) rfl ?_
    show Steps p.tables e below (T39.setTop (mkF m 109 #[.val (.long q1), .second, .val (.int p2), .val (.int p3), .val (.int off), .val (.int fv), .val (.ref b3), .val (.ref b30), .unset] [(.int off), (.ref b3), (.int (((own_w q1 (fun _ => fv) o o) &&& (255 : Int32)) <<< ((24 : Int32) &&& 31)))])) _
    refine XS.iconst X39.here hx rfl (hb hby at_109) ?_
    show Steps p.tables e below (T39.setTop (mkF m 110 #[.val (.long q1), .second, .val (.int p2), .val (.int p3), .val (.int off), .val (.int fv), .val (.ref b3), .val (.ref b30), .unset] [(.int (1 : Int32)), (.int off), (.ref b3), (.int (((own_w q1 (fun _ => fv) o o) &&& (255 : Int32)) <<< ((24 : Int32) &&& 31)))])) _
    refine XS.iadd X39.here hx rfl (hb hby at_110) rfl ?_
    show Steps p.tables e below (T39.setTop (mkF m 111 #[.val (.long q1), .second, .val (.int p2), .val (.int p3), .val (.int off), .val (.int fv), .val (.ref b3), .val (.ref b30), .unset] [(.int (off + (1 : Int32))), (.ref b3), (.int (((own_w q1 (fun _ => fv) o o) &&& (255 : Int32)) <<< ((24 : Int32) &&& 31)))])) _
    refine own_bload X39 hx hZ e39 B36 (k := (o + 1)) (own_off ho ho4 (k := 1) (by decide) (by decide)) (by omega) (g := (mkF m 111 #[.val (.long q1), .second, .val (.int p2), .val (.int p3), .val (.int off), .val (.int fv), .val (.ref b3), .val (.ref b30), .unset] [(.int (off + (1 : Int32))), (.ref b3), (.int (((own_w q1 (fun _ => fv) o o) &&& (255 : Int32)) <<< ((24 : Int32) &&& 31)))])) rfl rfl (hb hby at_111) _ ?_
    show Steps p.tables e below (T39.setTop (mkF m 112 #[.val (.long q1), .second, .val (.int p2), .val (.int p3), .val (.int off), .val (.int fv), .val (.ref b3), .val (.ref b30), .unset] [(.int (own_w q1 (fun _ => fv) o (o + 1))), (.int (((own_w q1 (fun _ => fv) o o) &&& (255 : Int32)) <<< ((24 : Int32) &&& 31)))])) _
    refine XS.sipush X39.here hx rfl (hb hby at_112) ?_
    show Steps p.tables e below (T39.setTop (mkF m 115 #[.val (.long q1), .second, .val (.int p2), .val (.int p3), .val (.int off), .val (.int fv), .val (.ref b3), .val (.ref b30), .unset] [(.int (255 : Int32)), (.int (own_w q1 (fun _ => fv) o (o + 1))), (.int (((own_w q1 (fun _ => fv) o o) &&& (255 : Int32)) <<< ((24 : Int32) &&& 31)))])) _
    refine XS.iand X39.here hx rfl (hb hby at_115) rfl ?_
    show Steps p.tables e below (T39.setTop (mkF m 116 #[.val (.long q1), .second, .val (.int p2), .val (.int p3), .val (.int off), .val (.int fv), .val (.ref b3), .val (.ref b30), .unset] [(.int ((own_w q1 (fun _ => fv) o (o + 1)) &&& (255 : Int32))), (.int (((own_w q1 (fun _ => fv) o o) &&& (255 : Int32)) <<< ((24 : Int32) &&& 31)))])) _
    refine XS.bipush X39.here hx rfl (hb hby at_116) ?_
    show Steps p.tables e below (T39.setTop (mkF m 118 #[.val (.long q1), .second, .val (.int p2), .val (.int p3), .val (.int off), .val (.int fv), .val (.ref b3), .val (.ref b30), .unset] [(.int (16 : Int32)), (.int ((own_w q1 (fun _ => fv) o (o + 1)) &&& (255 : Int32))), (.int (((own_w q1 (fun _ => fv) o o) &&& (255 : Int32)) <<< ((24 : Int32) &&& 31)))])) _
    refine XS.ishl X39.here hx rfl (hb hby at_118) rfl ?_
    show Steps p.tables e below (T39.setTop (mkF m 119 #[.val (.long q1), .second, .val (.int p2), .val (.int p3), .val (.int off), .val (.int fv), .val (.ref b3), .val (.ref b30), .unset] [(.int (((own_w q1 (fun _ => fv) o (o + 1)) &&& (255 : Int32)) <<< ((16 : Int32) &&& 31))), (.int (((own_w q1 (fun _ => fv) o o) &&& (255 : Int32)) <<< ((24 : Int32) &&& 31)))])) _
    refine XS.ior X39.here hx rfl (hb hby at_119) rfl ?_
    show Steps p.tables e below (T39.setTop (mkF m 120 #[.val (.long q1), .second, .val (.int p2), .val (.int p3), .val (.int off), .val (.int fv), .val (.ref b3), .val (.ref b30), .unset] [(.int ((((own_w q1 (fun _ => fv) o o) &&& (255 : Int32)) <<< ((24 : Int32) &&& 31)) ||| (((own_w q1 (fun _ => fv) o (o + 1)) &&& (255 : Int32)) <<< ((16 : Int32) &&& 31))))])) _
    refine XS.aload X39.here hx rfl (hb hby at_120) rfl rfl ?_
    show Steps p.tables e below (T39.setTop (mkF m 122 #[.val (.long q1), .second, .val (.int p2), .val (.int p3), .val (.int off), .val (.int fv), .val (.ref b3), .val (.ref b30), .unset] [(.ref b3), (.int ((((own_w q1 (fun _ => fv) o o) &&& (255 : Int32)) <<< ((24 : Int32) &&& 31)) ||| (((own_w q1 (fun _ => fv) o (o + 1)) &&& (255 : Int32)) <<< ((16 : Int32) &&& 31))))])) _
    refine XS.iload X39.here hx rfl (hb hby at_122) rfl ?_
    show Steps p.tables e below (T39.setTop (mkF m 124 #[.val (.long q1), .second, .val (.int p2), .val (.int p3), .val (.int off), .val (.int fv), .val (.ref b3), .val (.ref b30), .unset] [(.int off), (.ref b3), (.int ((((own_w q1 (fun _ => fv) o o) &&& (255 : Int32)) <<< ((24 : Int32) &&& 31)) ||| (((own_w q1 (fun _ => fv) o (o + 1)) &&& (255 : Int32)) <<< ((16 : Int32) &&& 31))))])) _
    refine XS.iconst X39.here hx rfl (hb hby at_124) ?_
    show Steps p.tables e below (T39.setTop (mkF m 125 #[.val (.long q1), .second, .val (.int p2), .val (.int p3), .val (.int off), .val (.int fv), .val (.ref b3), .val (.ref b30), .unset] [(.int (2 : Int32)), (.int off), (.ref b3), (.int ((((own_w q1 (fun _ => fv) o o) &&& (255 : Int32)) <<< ((24 : Int32) &&& 31)) ||| (((own_w q1 (fun _ => fv) o (o + 1)) &&& (255 : Int32)) <<< ((16 : Int32) &&& 31))))])) _
    refine XS.iadd X39.here hx rfl (hb hby at_125) rfl ?_
    show Steps p.tables e below (T39.setTop (mkF m 126 #[.val (.long q1), .second, .val (.int p2), .val (.int p3), .val (.int off), .val (.int fv), .val (.ref b3), .val (.ref b30), .unset] [(.int (off + (2 : Int32))), (.ref b3), (.int ((((own_w q1 (fun _ => fv) o o) &&& (255 : Int32)) <<< ((24 : Int32) &&& 31)) ||| (((own_w q1 (fun _ => fv) o (o + 1)) &&& (255 : Int32)) <<< ((16 : Int32) &&& 31))))])) _
    refine own_bload X39 hx hZ e39 B36 (k := (o + 2)) (own_off ho ho4 (k := 2) (by decide) (by decide)) (by omega) (g := (mkF m 126 #[.val (.long q1), .second, .val (.int p2), .val (.int p3), .val (.int off), .val (.int fv), .val (.ref b3), .val (.ref b30), .unset] [(.int (off + (2 : Int32))), (.ref b3), (.int ((((own_w q1 (fun _ => fv) o o) &&& (255 : Int32)) <<< ((24 : Int32) &&& 31)) ||| (((own_w q1 (fun _ => fv) o (o + 1)) &&& (255 : Int32)) <<< ((16 : Int32) &&& 31))))])) rfl rfl (hb hby at_126) _ ?_
    show Steps p.tables e below (T39.setTop (mkF m 127 #[.val (.long q1), .second, .val (.int p2), .val (.int p3), .val (.int off), .val (.int fv), .val (.ref b3), .val (.ref b30), .unset] [(.int (own_w q1 (fun _ => fv) o (o + 2))), (.int ((((own_w q1 (fun _ => fv) o o) &&& (255 : Int32)) <<< ((24 : Int32) &&& 31)) ||| (((own_w q1 (fun _ => fv) o (o + 1)) &&& (255 : Int32)) <<< ((16 : Int32) &&& 31))))])) _
    refine XS.sipush X39.here hx rfl (hb hby at_127) ?_
    show Steps p.tables e below (T39.setTop (mkF m 130 #[.val (.long q1), .second, .val (.int p2), .val (.int p3), .val (.int off), .val (.int fv), .val (.ref b3), .val (.ref b30), .unset] [(.int (255 : Int32)), (.int (own_w q1 (fun _ => fv) o (o + 2))), (.int ((((own_w q1 (fun _ => fv) o o) &&& (255 : Int32)) <<< ((24 : Int32) &&& 31)) ||| (((own_w q1 (fun _ => fv) o (o + 1)) &&& (255 : Int32)) <<< ((16 : Int32) &&& 31))))])) _
    refine XS.iand X39.here hx rfl (hb hby at_130) rfl ?_
    show Steps p.tables e below (T39.setTop (mkF m 131 #[.val (.long q1), .second, .val (.int p2), .val (.int p3), .val (.int off), .val (.int fv), .val (.ref b3), .val (.ref b30), .unset] [(.int ((own_w q1 (fun _ => fv) o (o + 2)) &&& (255 : Int32))), (.int ((((own_w q1 (fun _ => fv) o o) &&& (255 : Int32)) <<< ((24 : Int32) &&& 31)) ||| (((own_w q1 (fun _ => fv) o (o + 1)) &&& (255 : Int32)) <<< ((16 : Int32) &&& 31))))])) _
    refine XS.bipush X39.here hx rfl (hb hby at_131) ?_
    show Steps p.tables e below (T39.setTop (mkF m 133 #[.val (.long q1), .second, .val (.int p2), .val (.int p3), .val (.int off), .val (.int fv), .val (.ref b3), .val (.ref b30), .unset] [(.int (8 : Int32)), (.int ((own_w q1 (fun _ => fv) o (o + 2)) &&& (255 : Int32))), (.int ((((own_w q1 (fun _ => fv) o o) &&& (255 : Int32)) <<< ((24 : Int32) &&& 31)) ||| (((own_w q1 (fun _ => fv) o (o + 1)) &&& (255 : Int32)) <<< ((16 : Int32) &&& 31))))])) _
    refine XS.ishl X39.here hx rfl (hb hby at_133) rfl ?_
    show Steps p.tables e below (T39.setTop (mkF m 134 #[.val (.long q1), .second, .val (.int p2), .val (.int p3), .val (.int off), .val (.int fv), .val (.ref b3), .val (.ref b30), .unset] [(.int (((own_w q1 (fun _ => fv) o (o + 2)) &&& (255 : Int32)) <<< ((8 : Int32) &&& 31))), (.int ((((own_w q1 (fun _ => fv) o o) &&& (255 : Int32)) <<< ((24 : Int32) &&& 31)) ||| (((own_w q1 (fun _ => fv) o (o + 1)) &&& (255 : Int32)) <<< ((16 : Int32) &&& 31))))])) _
    refine XS.ior X39.here hx rfl (hb hby at_134) rfl ?_
    show Steps p.tables e below (T39.setTop (mkF m 135 #[.val (.long q1), .second, .val (.int p2), .val (.int p3), .val (.int off), .val (.int fv), .val (.ref b3), .val (.ref b30), .unset] [(.int (((((own_w q1 (fun _ => fv) o o) &&& (255 : Int32)) <<< ((24 : Int32) &&& 31)) ||| (((own_w q1 (fun _ => fv) o (o + 1)) &&& (255 : Int32)) <<< ((16 : Int32) &&& 31))) ||| (((own_w q1 (fun _ => fv) o (o + 2)) &&& (255 : Int32)) <<< ((8 : Int32) &&& 31))))])) _
    refine XS.aload X39.here hx rfl (hb hby at_135) rfl rfl ?_
    show Steps p.tables e below (T39.setTop (mkF m 137 #[.val (.long q1), .second, .val (.int p2), .val (.int p3), .val (.int off), .val (.int fv), .val (.ref b3), .val (.ref b30), .unset] [(.ref b3), (.int (((((own_w q1 (fun _ => fv) o o) &&& (255 : Int32)) <<< ((24 : Int32) &&& 31)) ||| (((own_w q1 (fun _ => fv) o (o + 1)) &&& (255 : Int32)) <<< ((16 : Int32) &&& 31))) ||| (((own_w q1 (fun _ => fv) o (o + 2)) &&& (255 : Int32)) <<< ((8 : Int32) &&& 31))))])) _
    refine XS.iload X39.here hx rfl (hb hby at_137) rfl ?_
    show Steps p.tables e below (T39.setTop (mkF m 139 #[.val (.long q1), .second, .val (.int p2), .val (.int p3), .val (.int off), .val (.int fv), .val (.ref b3), .val (.ref b30), .unset] [(.int off), (.ref b3), (.int (((((own_w q1 (fun _ => fv) o o) &&& (255 : Int32)) <<< ((24 : Int32) &&& 31)) ||| (((own_w q1 (fun _ => fv) o (o + 1)) &&& (255 : Int32)) <<< ((16 : Int32) &&& 31))) ||| (((own_w q1 (fun _ => fv) o (o + 2)) &&& (255 : Int32)) <<< ((8 : Int32) &&& 31))))])) _
    refine XS.iconst X39.here hx rfl (hb hby at_139) ?_
    show Steps p.tables e below (T39.setTop (mkF m 140 #[.val (.long q1), .second, .val (.int p2), .val (.int p3), .val (.int off), .val (.int fv), .val (.ref b3), .val (.ref b30), .unset] [(.int (3 : Int32)), (.int off), (.ref b3), (.int (((((own_w q1 (fun _ => fv) o o) &&& (255 : Int32)) <<< ((24 : Int32) &&& 31)) ||| (((own_w q1 (fun _ => fv) o (o + 1)) &&& (255 : Int32)) <<< ((16 : Int32) &&& 31))) ||| (((own_w q1 (fun _ => fv) o (o + 2)) &&& (255 : Int32)) <<< ((8 : Int32) &&& 31))))])) _
    refine XS.iadd X39.here hx rfl (hb hby at_140) rfl ?_
    show Steps p.tables e below (T39.setTop (mkF m 141 #[.val (.long q1), .second, .val (.int p2), .val (.int p3), .val (.int off), .val (.int fv), .val (.ref b3), .val (.ref b30), .unset] [(.int (off + (3 : Int32))), (.ref b3), (.int (((((own_w q1 (fun _ => fv) o o) &&& (255 : Int32)) <<< ((24 : Int32) &&& 31)) ||| (((own_w q1 (fun _ => fv) o (o + 1)) &&& (255 : Int32)) <<< ((16 : Int32) &&& 31))) ||| (((own_w q1 (fun _ => fv) o (o + 2)) &&& (255 : Int32)) <<< ((8 : Int32) &&& 31))))])) _
    refine own_bload X39 hx hZ e39 B36 (k := (o + 3)) (own_off ho ho4 (k := 3) (by decide) (by decide)) (by omega) (g := (mkF m 141 #[.val (.long q1), .second, .val (.int p2), .val (.int p3), .val (.int off), .val (.int fv), .val (.ref b3), .val (.ref b30), .unset] [(.int (off + (3 : Int32))), (.ref b3), (.int (((((own_w q1 (fun _ => fv) o o) &&& (255 : Int32)) <<< ((24 : Int32) &&& 31)) ||| (((own_w q1 (fun _ => fv) o (o + 1)) &&& (255 : Int32)) <<< ((16 : Int32) &&& 31))) ||| (((own_w q1 (fun _ => fv) o (o + 2)) &&& (255 : Int32)) <<< ((8 : Int32) &&& 31))))])) rfl rfl (hb hby at_141) _ ?_
    show Steps p.tables e below (T39.setTop (mkF m 142 #[.val (.long q1), .second, .val (.int p2), .val (.int p3), .val (.int off), .val (.int fv), .val (.ref b3), .val (.ref b30), .unset] [(.int (own_w q1 (fun _ => fv) o (o + 3))), (.int (((((own_w q1 (fun _ => fv) o o) &&& (255 : Int32)) <<< ((24 : Int32) &&& 31)) ||| (((own_w q1 (fun _ => fv) o (o + 1)) &&& (255 : Int32)) <<< ((16 : Int32) &&& 31))) ||| (((own_w q1 (fun _ => fv) o (o + 2)) &&& (255 : Int32)) <<< ((8 : Int32) &&& 31))))])) _
    refine XS.sipush X39.here hx rfl (hb hby at_142) ?_
    show Steps p.tables e below (T39.setTop (mkF m 145 #[.val (.long q1), .second, .val (.int p2), .val (.int p3), .val (.int off), .val (.int fv), .val (.ref b3), .val (.ref b30), .unset] [(.int (255 : Int32)), (.int (own_w q1 (fun _ => fv) o (o + 3))), (.int (((((own_w q1 (fun _ => fv) o o) &&& (255 : Int32)) <<< ((24 : Int32) &&& 31)) ||| (((own_w q1 (fun _ => fv) o (o + 1)) &&& (255 : Int32)) <<< ((16 : Int32) &&& 31))) ||| (((own_w q1 (fun _ => fv) o (o + 2)) &&& (255 : Int32)) <<< ((8 : Int32) &&& 31))))])) _
    refine XS.iand X39.here hx rfl (hb hby at_145) rfl ?_
    show Steps p.tables e below (T39.setTop (mkF m 146 #[.val (.long q1), .second, .val (.int p2), .val (.int p3), .val (.int off), .val (.int fv), .val (.ref b3), .val (.ref b30), .unset] [(.int ((own_w q1 (fun _ => fv) o (o + 3)) &&& (255 : Int32))), (.int (((((own_w q1 (fun _ => fv) o o) &&& (255 : Int32)) <<< ((24 : Int32) &&& 31)) ||| (((own_w q1 (fun _ => fv) o (o + 1)) &&& (255 : Int32)) <<< ((16 : Int32) &&& 31))) ||| (((own_w q1 (fun _ => fv) o (o + 2)) &&& (255 : Int32)) <<< ((8 : Int32) &&& 31))))])) _
    refine XS.ior X39.here hx rfl (hb hby at_146) rfl ?_
    show Steps p.tables e below (T39.setTop (mkF m 147 #[.val (.long q1), .second, .val (.int p2), .val (.int p3), .val (.int off), .val (.int fv), .val (.ref b3), .val (.ref b30), .unset] [(.int ((((((own_w q1 (fun _ => fv) o o) &&& (255 : Int32)) <<< ((24 : Int32) &&& 31)) ||| (((own_w q1 (fun _ => fv) o (o + 1)) &&& (255 : Int32)) <<< ((16 : Int32) &&& 31))) ||| (((own_w q1 (fun _ => fv) o (o + 2)) &&& (255 : Int32)) <<< ((8 : Int32) &&& 31))) ||| ((own_w q1 (fun _ => fv) o (o + 3)) &&& (255 : Int32))))])) _
    refine XS.istore X39.here hx rfl (hb hby at_147) rfl (l' := #[.val (.long q1), .second, .val (.int p2), .val (.int p3), .val (.int off), .val (.int fv), .val (.ref b3), .val (.ref b30), .val (.int ((((((own_w q1 (fun _ => fv) o o) &&& (255 : Int32)) <<< ((24 : Int32) &&& 31)) ||| (((own_w q1 (fun _ => fv) o (o + 1)) &&& (255 : Int32)) <<< ((16 : Int32) &&& 31))) ||| (((own_w q1 (fun _ => fv) o (o + 2)) &&& (255 : Int32)) <<< ((8 : Int32) &&& 31))) ||| ((own_w q1 (fun _ => fv) o (o + 3)) &&& (255 : Int32))))]) rfl ?_
    show Steps p.tables e below (T39.setTop (mkF m 149 #[.val (.long q1), .second, .val (.int p2), .val (.int p3), .val (.int off), .val (.int fv), .val (.ref b3), .val (.ref b30), .val (.int ((((((own_w q1 (fun _ => fv) o o) &&& (255 : Int32)) <<< ((24 : Int32) &&& 31)) ||| (((own_w q1 (fun _ => fv) o (o + 1)) &&& (255 : Int32)) <<< ((16 : Int32) &&& 31))) ||| (((own_w q1 (fun _ => fv) o (o + 2)) &&& (255 : Int32)) <<< ((8 : Int32) &&& 31))) ||| ((own_w q1 (fun _ => fv) o (o + 3)) &&& (255 : Int32))))] [])) _
    refine XS.iload X39.here hx rfl (hb hby at_149) rfl ?_
    show Steps p.tables e below (T39.setTop (mkF m 151 #[.val (.long q1), .second, .val (.int p2), .val (.int p3), .val (.int off), .val (.int fv), .val (.ref b3), .val (.ref b30), .val (.int ((((((own_w q1 (fun _ => fv) o o) &&& (255 : Int32)) <<< ((24 : Int32) &&& 31)) ||| (((own_w q1 (fun _ => fv) o (o + 1)) &&& (255 : Int32)) <<< ((16 : Int32) &&& 31))) ||| (((own_w q1 (fun _ => fv) o (o + 2)) &&& (255 : Int32)) <<< ((8 : Int32) &&& 31))) ||| ((own_w q1 (fun _ => fv) o (o + 3)) &&& (255 : Int32))))] [(.int ((((((own_w q1 (fun _ => fv) o o) &&& (255 : Int32)) <<< ((24 : Int32) &&& 31)) ||| (((own_w q1 (fun _ => fv) o (o + 1)) &&& (255 : Int32)) <<< ((16 : Int32) &&& 31))) ||| (((own_w q1 (fun _ => fv) o (o + 2)) &&& (255 : Int32)) <<< ((8 : Int32) &&& 31))) ||| ((own_w q1 (fun _ => fv) o (o + 3)) &&& (255 : Int32))))])) _
    refine XS.lloadN X39.here hx rfl (hb hby at_151) rfl ?_
    show Steps p.tables e below (T39.setTop (mkF m 152 #[.val (.long q1), .second, .val (.int p2), .val (.int p3), .val (.int off), .val (.int fv), .val (.ref b3), .val (.ref b30), .val (.int ((((((own_w q1 (fun _ => fv) o o) &&& (255 : Int32)) <<< ((24 : Int32) &&& 31)) ||| (((own_w q1 (fun _ => fv) o (o + 1)) &&& (255 : Int32)) <<< ((16 : Int32) &&& 31))) ||| (((own_w q1 (fun _ => fv) o (o + 2)) &&& (255 : Int32)) <<< ((8 : Int32) &&& 31))) ||| ((own_w q1 (fun _ => fv) o (o + 3)) &&& (255 : Int32))))] [(.long q1), (.int ((((((own_w q1 (fun _ => fv) o o) &&& (255 : Int32)) <<< ((24 : Int32) &&& 31)) ||| (((own_w q1 (fun _ => fv) o (o + 1)) &&& (255 : Int32)) <<< ((16 : Int32) &&& 31))) ||| (((own_w q1 (fun _ => fv) o (o + 2)) &&& (255 : Int32)) <<< ((8 : Int32) &&& 31))) ||| ((own_w q1 (fun _ => fv) o (o + 3)) &&& (255 : Int32))))])) _
    refine XS.l2i X39.here hx rfl (hb hby at_152) rfl ?_
    show Steps p.tables e below (T39.setTop (mkF m 153 #[.val (.long q1), .second, .val (.int p2), .val (.int p3), .val (.int off), .val (.int fv), .val (.ref b3), .val (.ref b30), .val (.int ((((((own_w q1 (fun _ => fv) o o) &&& (255 : Int32)) <<< ((24 : Int32) &&& 31)) ||| (((own_w q1 (fun _ => fv) o (o + 1)) &&& (255 : Int32)) <<< ((16 : Int32) &&& 31))) ||| (((own_w q1 (fun _ => fv) o (o + 2)) &&& (255 : Int32)) <<< ((8 : Int32) &&& 31))) ||| ((own_w q1 (fun _ => fv) o (o + 3)) &&& (255 : Int32))))] [(.int (q1.toInt32)), (.int ((((((own_w q1 (fun _ => fv) o o) &&& (255 : Int32)) <<< ((24 : Int32) &&& 31)) ||| (((own_w q1 (fun _ => fv) o (o + 1)) &&& (255 : Int32)) <<< ((16 : Int32) &&& 31))) ||| (((own_w q1 (fun _ => fv) o (o + 2)) &&& (255 : Int32)) <<< ((8 : Int32) &&& 31))) ||| ((own_w q1 (fun _ => fv) o (o + 3)) &&& (255 : Int32))))])) _
    refine XS.icmpYes X39.here hx rfl (pc0 := 153) (pc' := 158) rfl (hb hby at_153) rfl (teq (own_got _ _ _)).1 (by decide) (by decide) ?_
    exact kt)
  have pre42 : ∀ t, Steps p.tables e below (T39.setTop (mkF m 165 #[.val (.long q1), .second, .val (.int p2), .val (.int p3), .val (.int off), .val (.int fv), .val (.ref b3), .val (.ref b30), .val (.int ((((((own_w q1 (fun _ => fv) o o) &&& (255 : Int32)) <<< ((24 : Int32) &&& 31)) ||| (((own_w q1 (fun _ => fv) o (o + 1)) &&& (255 : Int32)) <<< ((16 : Int32) &&& 31))) ||| (((own_w q1 (fun _ => fv) o (o + 2)) &&& (255 : Int32)) <<< ((8 : Int32) &&& 31))) ||| ((own_w q1 (fun _ => fv) o (o + 3)) &&& (255 : Int32))))] [(.int (0 : Int32)), (.int fv), (.int off), (.ref b3)])) t → Steps p.tables e below (s₁.setTop (entryFrame m #[(.long q1), (.int p2), (.int p3)] maxLocals)) t := fun t kt => pre41 t (by
    show Steps p.tables e below (T39.setTop (mkF m 158 #[.val (.long q1), .second, .val (.int p2), .val (.int p3), .val (.int off), .val (.int fv), .val (.ref b3), .val (.ref b30), .val (.int ((((((own_w q1 (fun _ => fv) o o) &&& (255 : Int32)) <<< ((24 : Int32) &&& 31)) ||| (((own_w q1 (fun _ => fv) o (o + 1)) &&& (255 : Int32)) <<< ((16 : Int32) &&& 31))) ||| (((own_w q1 (fun _ => fv) o (o + 2)) &&& (255 : Int32)) <<< ((8 : Int32) &&& 31))) ||| ((own_w q1 (fun _ => fv) o (o + 3)) &&& (255 : Int32))))] [])) _
    refine XS.aload X39.here hx rfl (hb hby at_158) rfl rfl ?_
    show Steps p.tables e below (T39.setTop (mkF m 160 #[.val (.long q1), .second, .val (.int p2), .val (.int p3), .val (.int off), .val (.int fv), .val (.ref b3), .val (.ref b30), .val (.int ((((((own_w q1 (fun _ => fv) o o) &&& (255 : Int32)) <<< ((24 : Int32) &&& 31)) ||| (((own_w q1 (fun _ => fv) o (o + 1)) &&& (255 : Int32)) <<< ((16 : Int32) &&& 31))) ||| (((own_w q1 (fun _ => fv) o (o + 2)) &&& (255 : Int32)) <<< ((8 : Int32) &&& 31))) ||| ((own_w q1 (fun _ => fv) o (o + 3)) &&& (255 : Int32))))] [(.ref b3)])) _
    refine XS.iload X39.here hx rfl (hb hby at_160) rfl ?_
    show Steps p.tables e below (T39.setTop (mkF m 162 #[.val (.long q1), .second, .val (.int p2), .val (.int p3), .val (.int off), .val (.int fv), .val (.ref b3), .val (.ref b30), .val (.int ((((((own_w q1 (fun _ => fv) o o) &&& (255 : Int32)) <<< ((24 : Int32) &&& 31)) ||| (((own_w q1 (fun _ => fv) o (o + 1)) &&& (255 : Int32)) <<< ((16 : Int32) &&& 31))) ||| (((own_w q1 (fun _ => fv) o (o + 2)) &&& (255 : Int32)) <<< ((8 : Int32) &&& 31))) ||| ((own_w q1 (fun _ => fv) o (o + 3)) &&& (255 : Int32))))] [(.int off), (.ref b3)])) _
    refine XS.iload X39.here hx rfl (hb hby at_162) rfl ?_
    show Steps p.tables e below (T39.setTop (mkF m 164 #[.val (.long q1), .second, .val (.int p2), .val (.int p3), .val (.int off), .val (.int fv), .val (.ref b3), .val (.ref b30), .val (.int ((((((own_w q1 (fun _ => fv) o o) &&& (255 : Int32)) <<< ((24 : Int32) &&& 31)) ||| (((own_w q1 (fun _ => fv) o (o + 1)) &&& (255 : Int32)) <<< ((16 : Int32) &&& 31))) ||| (((own_w q1 (fun _ => fv) o (o + 2)) &&& (255 : Int32)) <<< ((8 : Int32) &&& 31))) ||| ((own_w q1 (fun _ => fv) o (o + 3)) &&& (255 : Int32))))] [(.int fv), (.int off), (.ref b3)])) _
    refine XS.iconst X39.here hx rfl (hb hby at_164) ?_
    exact kt)
  obtain ⟨_, _, ⟨T43, L43, k43, n43⟩, -, X43, ⟨Lc43, hQ43, l43, y43, z43⟩, st43⟩ := Jvm.LawKit.callS X39 hx (y := (⟨"com/example/konnack/konnack/codec/FieldWriterU32PinLaw", "untouched", "([BIBI)Z"⟩ : MethodName)) hown (mvT hZ (hw _ (List.mem_of_getElem? (i := 25) rfl))) (mvT hZ (hw _ (List.mem_of_getElem? (i := 26) rfl))) (mvT hZ (hw _ (List.mem_of_getElem? (i := 27) rfl))) (mvT hZ (hw _ (List.mem_of_getElem? (i := 28) rfl))) (by decide) (backOf (W := 0) (rm5 l Z a0 hw [] b3 off fv (0 : Int32) o 0 _ T36.heap n0 ZZb B36 ho ho4 (by decide) (by decide) (fun q => own_wu _ _ _ _ q)) hZ (hw _ (List.mem_of_getElem? (i := 28) rfl)) (hw _ (List.mem_of_getElem? (i := 27) rfl)) (by decide) (by decide)) (g := (mkF m 165 #[.val (.long q1), .second, .val (.int p2), .val (.int p3), .val (.int off), .val (.int fv), .val (.ref b3), .val (.ref b30), .val (.int ((((((own_w q1 (fun _ => fv) o o) &&& (255 : Int32)) <<< ((24 : Int32) &&& 31)) ||| (((own_w q1 (fun _ => fv) o (o + 1)) &&& (255 : Int32)) <<< ((16 : Int32) &&& 31))) ||| (((own_w q1 (fun _ => fv) o (o + 2)) &&& (255 : Int32)) <<< ((8 : Int32) &&& 31))) ||| ((own_w q1 (fun _ => fv) o (o + 3)) &&& (255 : Int32))))] [(.int (0 : Int32)), (.int fv), (.int off), (.ref b3)])) rfl (by rw [hml]; rfl) (argsL := [(.ref b3), (.int off), (.int fv), (.int (0 : Int32))]) (rest := []) (lenOf pd_0_3 rfl) rfl (by show 2 * 0 + _ ≤ _; exact Nat.le_of_eq rfl) (hb hby at_165) (fun _ _ => ⟨rfl, e39, (by decide : 2 + 0 ≤ _), (by decide : 10 + 0 ≤ _)⟩)
  dsimp only [Pt.U, Pt.locs, Pt.cells, Pt.slots] at X43 l43 y43 z43 st43 hQ43
  subst l43 y43 z43
  obtain ⟨rfl, N43q, e43⟩ := hQ43
  have N43 := Fr.app N39 N43q
  have pre44 : ∀ t, Steps p.tables e below (T43.setTop (mkF m 168 #[.val (.long q1), .second, .val (.int p2), .val (.int p3), .val (.int off), .val (.int fv), .val (.ref b3), .val (.ref b30), .val (.int ((((((own_w q1 (fun _ => fv) o o) &&& (255 : Int32)) <<< ((24 : Int32) &&& 31)) ||| (((own_w q1 (fun _ => fv) o (o + 1)) &&& (255 : Int32)) <<< ((16 : Int32) &&& 31))) ||| (((own_w q1 (fun _ => fv) o (o + 2)) &&& (255 : Int32)) <<< ((8 : Int32) &&& 31))) ||| ((own_w q1 (fun _ => fv) o (o + 3)) &&& (255 : Int32))))] [(.int (1 : Int32))])) t → Steps p.tables e below (s₁.setTop (entryFrame m #[(.long q1), (.int p2), (.int p3)] maxLocals)) t := fun t kt => pre42 t (st43 t kt)
  have pre45 : ∀ t, Steps p.tables e below (T43.setTop (mkF m 178 #[.val (.long q1), .second, .val (.int p2), .val (.int p3), .val (.int off), .val (.int fv), .val (.ref b3), .val (.ref b30), .val (.int ((((((own_w q1 (fun _ => fv) o o) &&& (255 : Int32)) <<< ((24 : Int32) &&& 31)) ||| (((own_w q1 (fun _ => fv) o (o + 1)) &&& (255 : Int32)) <<< ((16 : Int32) &&& 31))) ||| (((own_w q1 (fun _ => fv) o (o + 2)) &&& (255 : Int32)) <<< ((8 : Int32) &&& 31))) ||| ((own_w q1 (fun _ => fv) o (o + 3)) &&& (255 : Int32))))] [(.int (1 : Int32)), (.int fv), (.int off), (.ref b3)])) t → Steps p.tables e below (s₁.setTop (entryFrame m #[(.long q1), (.int p2), (.int p3)] maxLocals)) t := fun t kt => pre44 t (by
    show Steps p.tables e below (T43.setTop (mkF m 168 #[.val (.long q1), .second, .val (.int p2), .val (.int p3), .val (.int off), .val (.int fv), .val (.ref b3), .val (.ref b30), .val (.int ((((((own_w q1 (fun _ => fv) o o) &&& (255 : Int32)) <<< ((24 : Int32) &&& 31)) ||| (((own_w q1 (fun _ => fv) o (o + 1)) &&& (255 : Int32)) <<< ((16 : Int32) &&& 31))) ||| (((own_w q1 (fun _ => fv) o (o + 2)) &&& (255 : Int32)) <<< ((8 : Int32) &&& 31))) ||| ((own_w q1 (fun _ => fv) o (o + 3)) &&& (255 : Int32))))] [(.int (1 : Int32))])) _
    refine XS.ifNo X43.here hx rfl (hb hby at_168) rfl ((if0 _ _).trans (feq (by decide)).1) ?_
    show Steps p.tables e below (T43.setTop (mkF m 171 #[.val (.long q1), .second, .val (.int p2), .val (.int p3), .val (.int off), .val (.int fv), .val (.ref b3), .val (.ref b30), .val (.int ((((((own_w q1 (fun _ => fv) o o) &&& (255 : Int32)) <<< ((24 : Int32) &&& 31)) ||| (((own_w q1 (fun _ => fv) o (o + 1)) &&& (255 : Int32)) <<< ((16 : Int32) &&& 31))) ||| (((own_w q1 (fun _ => fv) o (o + 2)) &&& (255 : Int32)) <<< ((8 : Int32) &&& 31))) ||| ((own_w q1 (fun _ => fv) o (o + 3)) &&& (255 : Int32))))] [])) _
    refine XS.aload X43.here hx rfl (hb hby at_171) rfl rfl ?_
    show Steps p.tables e below (T43.setTop (mkF m 173 #[.val (.long q1), .second, .val (.int p2), .val (.int p3), .val (.int off), .val (.int fv), .val (.ref b3), .val (.ref b30), .val (.int ((((((own_w q1 (fun _ => fv) o o) &&& (255 : Int32)) <<< ((24 : Int32) &&& 31)) ||| (((own_w q1 (fun _ => fv) o (o + 1)) &&& (255 : Int32)) <<< ((16 : Int32) &&& 31))) ||| (((own_w q1 (fun _ => fv) o (o + 2)) &&& (255 : Int32)) <<< ((8 : Int32) &&& 31))) ||| ((own_w q1 (fun _ => fv) o (o + 3)) &&& (255 : Int32))))] [(.ref b3)])) _
    refine XS.iload X43.here hx rfl (hb hby at_173) rfl ?_
    show Steps p.tables e below (T43.setTop (mkF m 175 #[.val (.long q1), .second, .val (.int p2), .val (.int p3), .val (.int off), .val (.int fv), .val (.ref b3), .val (.ref b30), .val (.int ((((((own_w q1 (fun _ => fv) o o) &&& (255 : Int32)) <<< ((24 : Int32) &&& 31)) ||| (((own_w q1 (fun _ => fv) o (o + 1)) &&& (255 : Int32)) <<< ((16 : Int32) &&& 31))) ||| (((own_w q1 (fun _ => fv) o (o + 2)) &&& (255 : Int32)) <<< ((8 : Int32) &&& 31))) ||| ((own_w q1 (fun _ => fv) o (o + 3)) &&& (255 : Int32))))] [(.int off), (.ref b3)])) _
    refine XS.iload X43.here hx rfl (hb hby at_175) rfl ?_
    show Steps p.tables e below (T43.setTop (mkF m 177 #[.val (.long q1), .second, .val (.int p2), .val (.int p3), .val (.int off), .val (.int fv), .val (.ref b3), .val (.ref b30), .val (.int ((((((own_w q1 (fun _ => fv) o o) &&& (255 : Int32)) <<< ((24 : Int32) &&& 31)) ||| (((own_w q1 (fun _ => fv) o (o + 1)) &&& (255 : Int32)) <<< ((16 : Int32) &&& 31))) ||| (((own_w q1 (fun _ => fv) o (o + 2)) &&& (255 : Int32)) <<< ((8 : Int32) &&& 31))) ||| ((own_w q1 (fun _ => fv) o (o + 3)) &&& (255 : Int32))))] [(.int fv), (.int off), (.ref b3)])) _
    refine XS.iconst X43.here hx rfl (hb hby at_177) ?_
    exact kt)
  obtain ⟨_, _, ⟨T46, L46, k46, n46⟩, -, X46, ⟨Lc46, hQ46, l46, y46, z46⟩, st46⟩ := Jvm.LawKit.callS X43 hx (y := (⟨"com/example/konnack/konnack/codec/FieldWriterU32PinLaw", "untouched", "([BIBI)Z"⟩ : MethodName)) hown (mvT hZ (hw _ (List.mem_of_getElem? (i := 25) rfl))) (mvT hZ (hw _ (List.mem_of_getElem? (i := 26) rfl))) (mvT hZ (hw _ (List.mem_of_getElem? (i := 27) rfl))) (mvT hZ (hw _ (List.mem_of_getElem? (i := 28) rfl))) (by decide) (backOf (W := 0) (rm5 l Z a0 hw [] b3 off fv (1 : Int32) o 1 _ T36.heap n0 ZZb B36 ho ho4 (by decide) (by decide) (fun q => own_wu _ _ _ _ q)) hZ (hw _ (List.mem_of_getElem? (i := 28) rfl)) (hw _ (List.mem_of_getElem? (i := 27) rfl)) (by decide) (by decide)) (g := (mkF m 178 #[.val (.long q1), .second, .val (.int p2), .val (.int p3), .val (.int off), .val (.int fv), .val (.ref b3), .val (.ref b30), .val (.int ((((((own_w q1 (fun _ => fv) o o) &&& (255 : Int32)) <<< ((24 : Int32) &&& 31)) ||| (((own_w q1 (fun _ => fv) o (o + 1)) &&& (255 : Int32)) <<< ((16 : Int32) &&& 31))) ||| (((own_w q1 (fun _ => fv) o (o + 2)) &&& (255 : Int32)) <<< ((8 : Int32) &&& 31))) ||| ((own_w q1 (fun _ => fv) o (o + 3)) &&& (255 : Int32))))] [(.int (1 : Int32)), (.int fv), (.int off), (.ref b3)])) rfl (by rw [hml]; rfl) (argsL := [(.ref b3), (.int off), (.int fv), (.int (1 : Int32))]) (rest := []) (lenOf pd_0_3 rfl) rfl (by show 2 * 0 + _ ≤ _; exact Nat.le_of_eq rfl) (hb hby at_178) (fun _ _ => ⟨rfl, e43, (by decide : 2 + 0 ≤ _), (by decide : 10 + 0 ≤ _)⟩)
  dsimp only [Pt.U, Pt.locs, Pt.cells, Pt.slots] at X46 l46 y46 z46 st46 hQ46
  subst l46 y46 z46
  obtain ⟨rfl, N46q, e46⟩ := hQ46
  have N46 := Fr.app N43 N46q
  have pre47 : ∀ t, Steps p.tables e below (T46.setTop (mkF m 181 #[.val (.long q1), .second, .val (.int p2), .val (.int p3), .val (.int off), .val (.int fv), .val (.ref b3), .val (.ref b30), .val (.int ((((((own_w q1 (fun _ => fv) o o) &&& (255 : Int32)) <<< ((24 : Int32) &&& 31)) ||| (((own_w q1 (fun _ => fv) o (o + 1)) &&& (255 : Int32)) <<< ((16 : Int32) &&& 31))) ||| (((own_w q1 (fun _ => fv) o (o + 2)) &&& (255 : Int32)) <<< ((8 : Int32) &&& 31))) ||| ((own_w q1 (fun _ => fv) o (o + 3)) &&& (255 : Int32))))] [(.int (1 : Int32))])) t → Steps p.tables e below (s₁.setTop (entryFrame m #[(.long q1), (.int p2), (.int p3)] maxLocals)) t := fun t kt => pre45 t (st46 t kt)
  have pre48 : ∀ t, Steps p.tables e below (T46.setTop (mkF m 191 #[.val (.long q1), .second, .val (.int p2), .val (.int p3), .val (.int off), .val (.int fv), .val (.ref b3), .val (.ref b30), .val (.int ((((((own_w q1 (fun _ => fv) o o) &&& (255 : Int32)) <<< ((24 : Int32) &&& 31)) ||| (((own_w q1 (fun _ => fv) o (o + 1)) &&& (255 : Int32)) <<< ((16 : Int32) &&& 31))) ||| (((own_w q1 (fun _ => fv) o (o + 2)) &&& (255 : Int32)) <<< ((8 : Int32) &&& 31))) ||| ((own_w q1 (fun _ => fv) o (o + 3)) &&& (255 : Int32))))] [(.int (2 : Int32)), (.int fv), (.int off), (.ref b3)])) t → Steps p.tables e below (s₁.setTop (entryFrame m #[(.long q1), (.int p2), (.int p3)] maxLocals)) t := fun t kt => pre47 t (by
    show Steps p.tables e below (T46.setTop (mkF m 181 #[.val (.long q1), .second, .val (.int p2), .val (.int p3), .val (.int off), .val (.int fv), .val (.ref b3), .val (.ref b30), .val (.int ((((((own_w q1 (fun _ => fv) o o) &&& (255 : Int32)) <<< ((24 : Int32) &&& 31)) ||| (((own_w q1 (fun _ => fv) o (o + 1)) &&& (255 : Int32)) <<< ((16 : Int32) &&& 31))) ||| (((own_w q1 (fun _ => fv) o (o + 2)) &&& (255 : Int32)) <<< ((8 : Int32) &&& 31))) ||| ((own_w q1 (fun _ => fv) o (o + 3)) &&& (255 : Int32))))] [(.int (1 : Int32))])) _
    refine XS.ifNo X46.here hx rfl (hb hby at_181) rfl ((if0 _ _).trans (feq (by decide)).1) ?_
    show Steps p.tables e below (T46.setTop (mkF m 184 #[.val (.long q1), .second, .val (.int p2), .val (.int p3), .val (.int off), .val (.int fv), .val (.ref b3), .val (.ref b30), .val (.int ((((((own_w q1 (fun _ => fv) o o) &&& (255 : Int32)) <<< ((24 : Int32) &&& 31)) ||| (((own_w q1 (fun _ => fv) o (o + 1)) &&& (255 : Int32)) <<< ((16 : Int32) &&& 31))) ||| (((own_w q1 (fun _ => fv) o (o + 2)) &&& (255 : Int32)) <<< ((8 : Int32) &&& 31))) ||| ((own_w q1 (fun _ => fv) o (o + 3)) &&& (255 : Int32))))] [])) _
    refine XS.aload X46.here hx rfl (hb hby at_184) rfl rfl ?_
    show Steps p.tables e below (T46.setTop (mkF m 186 #[.val (.long q1), .second, .val (.int p2), .val (.int p3), .val (.int off), .val (.int fv), .val (.ref b3), .val (.ref b30), .val (.int ((((((own_w q1 (fun _ => fv) o o) &&& (255 : Int32)) <<< ((24 : Int32) &&& 31)) ||| (((own_w q1 (fun _ => fv) o (o + 1)) &&& (255 : Int32)) <<< ((16 : Int32) &&& 31))) ||| (((own_w q1 (fun _ => fv) o (o + 2)) &&& (255 : Int32)) <<< ((8 : Int32) &&& 31))) ||| ((own_w q1 (fun _ => fv) o (o + 3)) &&& (255 : Int32))))] [(.ref b3)])) _
    refine XS.iload X46.here hx rfl (hb hby at_186) rfl ?_
    show Steps p.tables e below (T46.setTop (mkF m 188 #[.val (.long q1), .second, .val (.int p2), .val (.int p3), .val (.int off), .val (.int fv), .val (.ref b3), .val (.ref b30), .val (.int ((((((own_w q1 (fun _ => fv) o o) &&& (255 : Int32)) <<< ((24 : Int32) &&& 31)) ||| (((own_w q1 (fun _ => fv) o (o + 1)) &&& (255 : Int32)) <<< ((16 : Int32) &&& 31))) ||| (((own_w q1 (fun _ => fv) o (o + 2)) &&& (255 : Int32)) <<< ((8 : Int32) &&& 31))) ||| ((own_w q1 (fun _ => fv) o (o + 3)) &&& (255 : Int32))))] [(.int off), (.ref b3)])) _
    refine XS.iload X46.here hx rfl (hb hby at_188) rfl ?_
    show Steps p.tables e below (T46.setTop (mkF m 190 #[.val (.long q1), .second, .val (.int p2), .val (.int p3), .val (.int off), .val (.int fv), .val (.ref b3), .val (.ref b30), .val (.int ((((((own_w q1 (fun _ => fv) o o) &&& (255 : Int32)) <<< ((24 : Int32) &&& 31)) ||| (((own_w q1 (fun _ => fv) o (o + 1)) &&& (255 : Int32)) <<< ((16 : Int32) &&& 31))) ||| (((own_w q1 (fun _ => fv) o (o + 2)) &&& (255 : Int32)) <<< ((8 : Int32) &&& 31))) ||| ((own_w q1 (fun _ => fv) o (o + 3)) &&& (255 : Int32))))] [(.int fv), (.int off), (.ref b3)])) _
    refine XS.iconst X46.here hx rfl (hb hby at_190) ?_
    exact kt)
  obtain ⟨_, _, ⟨T49, L49, k49, n49⟩, -, X49, ⟨Lc49, hQ49, l49, y49, z49⟩, st49⟩ := Jvm.LawKit.callS X46 hx (y := (⟨"com/example/konnack/konnack/codec/FieldWriterU32PinLaw", "untouched", "([BIBI)Z"⟩ : MethodName)) hown (mvT hZ (hw _ (List.mem_of_getElem? (i := 25) rfl))) (mvT hZ (hw _ (List.mem_of_getElem? (i := 26) rfl))) (mvT hZ (hw _ (List.mem_of_getElem? (i := 27) rfl))) (mvT hZ (hw _ (List.mem_of_getElem? (i := 28) rfl))) (by decide) (backOf (W := 0) (rm5 l Z a0 hw [] b3 off fv (2 : Int32) o 2 _ T36.heap n0 ZZb B36 ho ho4 (by decide) (by decide) (fun q => own_wu _ _ _ _ q)) hZ (hw _ (List.mem_of_getElem? (i := 28) rfl)) (hw _ (List.mem_of_getElem? (i := 27) rfl)) (by decide) (by decide)) (g := (mkF m 191 #[.val (.long q1), .second, .val (.int p2), .val (.int p3), .val (.int off), .val (.int fv), .val (.ref b3), .val (.ref b30), .val (.int ((((((own_w q1 (fun _ => fv) o o) &&& (255 : Int32)) <<< ((24 : Int32) &&& 31)) ||| (((own_w q1 (fun _ => fv) o (o + 1)) &&& (255 : Int32)) <<< ((16 : Int32) &&& 31))) ||| (((own_w q1 (fun _ => fv) o (o + 2)) &&& (255 : Int32)) <<< ((8 : Int32) &&& 31))) ||| ((own_w q1 (fun _ => fv) o (o + 3)) &&& (255 : Int32))))] [(.int (2 : Int32)), (.int fv), (.int off), (.ref b3)])) rfl (by rw [hml]; rfl) (argsL := [(.ref b3), (.int off), (.int fv), (.int (2 : Int32))]) (rest := []) (lenOf pd_0_3 rfl) rfl (by show 2 * 0 + _ ≤ _; exact Nat.le_of_eq rfl) (hb hby at_191) (fun _ _ => ⟨rfl, e46, (by decide : 2 + 0 ≤ _), (by decide : 10 + 0 ≤ _)⟩)
  dsimp only [Pt.U, Pt.locs, Pt.cells, Pt.slots] at X49 l49 y49 z49 st49 hQ49
  subst l49 y49 z49
  obtain ⟨rfl, N49q, e49⟩ := hQ49
  have N49 := Fr.app N46 N49q
  have pre50 : ∀ t, Steps p.tables e below (T49.setTop (mkF m 194 #[.val (.long q1), .second, .val (.int p2), .val (.int p3), .val (.int off), .val (.int fv), .val (.ref b3), .val (.ref b30), .val (.int ((((((own_w q1 (fun _ => fv) o o) &&& (255 : Int32)) <<< ((24 : Int32) &&& 31)) ||| (((own_w q1 (fun _ => fv) o (o + 1)) &&& (255 : Int32)) <<< ((16 : Int32) &&& 31))) ||| (((own_w q1 (fun _ => fv) o (o + 2)) &&& (255 : Int32)) <<< ((8 : Int32) &&& 31))) ||| ((own_w q1 (fun _ => fv) o (o + 3)) &&& (255 : Int32))))] [(.int (1 : Int32))])) t → Steps p.tables e below (s₁.setTop (entryFrame m #[(.long q1), (.int p2), (.int p3)] maxLocals)) t := fun t kt => pre48 t (st49 t kt)
  have pre51 : ∀ t, Steps p.tables e below (T49.setTop (mkF m 204 #[.val (.long q1), .second, .val (.int p2), .val (.int p3), .val (.int off), .val (.int fv), .val (.ref b3), .val (.ref b30), .val (.int ((((((own_w q1 (fun _ => fv) o o) &&& (255 : Int32)) <<< ((24 : Int32) &&& 31)) ||| (((own_w q1 (fun _ => fv) o (o + 1)) &&& (255 : Int32)) <<< ((16 : Int32) &&& 31))) ||| (((own_w q1 (fun _ => fv) o (o + 2)) &&& (255 : Int32)) <<< ((8 : Int32) &&& 31))) ||| ((own_w q1 (fun _ => fv) o (o + 3)) &&& (255 : Int32))))] [(.int (3 : Int32)), (.int fv), (.int off), (.ref b3)])) t → Steps p.tables e below (s₁.setTop (entryFrame m #[(.long q1), (.int p2), (.int p3)] maxLocals)) t := fun t kt => pre50 t (by
    show Steps p.tables e below (T49.setTop (mkF m 194 #[.val (.long q1), .second, .val (.int p2), .val (.int p3), .val (.int off), .val (.int fv), .val (.ref b3), .val (.ref b30), .val (.int ((((((own_w q1 (fun _ => fv) o o) &&& (255 : Int32)) <<< ((24 : Int32) &&& 31)) ||| (((own_w q1 (fun _ => fv) o (o + 1)) &&& (255 : Int32)) <<< ((16 : Int32) &&& 31))) ||| (((own_w q1 (fun _ => fv) o (o + 2)) &&& (255 : Int32)) <<< ((8 : Int32) &&& 31))) ||| ((own_w q1 (fun _ => fv) o (o + 3)) &&& (255 : Int32))))] [(.int (1 : Int32))])) _
    refine XS.ifNo X49.here hx rfl (hb hby at_194) rfl ((if0 _ _).trans (feq (by decide)).1) ?_
    show Steps p.tables e below (T49.setTop (mkF m 197 #[.val (.long q1), .second, .val (.int p2), .val (.int p3), .val (.int off), .val (.int fv), .val (.ref b3), .val (.ref b30), .val (.int ((((((own_w q1 (fun _ => fv) o o) &&& (255 : Int32)) <<< ((24 : Int32) &&& 31)) ||| (((own_w q1 (fun _ => fv) o (o + 1)) &&& (255 : Int32)) <<< ((16 : Int32) &&& 31))) ||| (((own_w q1 (fun _ => fv) o (o + 2)) &&& (255 : Int32)) <<< ((8 : Int32) &&& 31))) ||| ((own_w q1 (fun _ => fv) o (o + 3)) &&& (255 : Int32))))] [])) _
    refine XS.aload X49.here hx rfl (hb hby at_197) rfl rfl ?_
    show Steps p.tables e below (T49.setTop (mkF m 199 #[.val (.long q1), .second, .val (.int p2), .val (.int p3), .val (.int off), .val (.int fv), .val (.ref b3), .val (.ref b30), .val (.int ((((((own_w q1 (fun _ => fv) o o) &&& (255 : Int32)) <<< ((24 : Int32) &&& 31)) ||| (((own_w q1 (fun _ => fv) o (o + 1)) &&& (255 : Int32)) <<< ((16 : Int32) &&& 31))) ||| (((own_w q1 (fun _ => fv) o (o + 2)) &&& (255 : Int32)) <<< ((8 : Int32) &&& 31))) ||| ((own_w q1 (fun _ => fv) o (o + 3)) &&& (255 : Int32))))] [(.ref b3)])) _
    refine XS.iload X49.here hx rfl (hb hby at_199) rfl ?_
    show Steps p.tables e below (T49.setTop (mkF m 201 #[.val (.long q1), .second, .val (.int p2), .val (.int p3), .val (.int off), .val (.int fv), .val (.ref b3), .val (.ref b30), .val (.int ((((((own_w q1 (fun _ => fv) o o) &&& (255 : Int32)) <<< ((24 : Int32) &&& 31)) ||| (((own_w q1 (fun _ => fv) o (o + 1)) &&& (255 : Int32)) <<< ((16 : Int32) &&& 31))) ||| (((own_w q1 (fun _ => fv) o (o + 2)) &&& (255 : Int32)) <<< ((8 : Int32) &&& 31))) ||| ((own_w q1 (fun _ => fv) o (o + 3)) &&& (255 : Int32))))] [(.int off), (.ref b3)])) _
    refine XS.iload X49.here hx rfl (hb hby at_201) rfl ?_
    show Steps p.tables e below (T49.setTop (mkF m 203 #[.val (.long q1), .second, .val (.int p2), .val (.int p3), .val (.int off), .val (.int fv), .val (.ref b3), .val (.ref b30), .val (.int ((((((own_w q1 (fun _ => fv) o o) &&& (255 : Int32)) <<< ((24 : Int32) &&& 31)) ||| (((own_w q1 (fun _ => fv) o (o + 1)) &&& (255 : Int32)) <<< ((16 : Int32) &&& 31))) ||| (((own_w q1 (fun _ => fv) o (o + 2)) &&& (255 : Int32)) <<< ((8 : Int32) &&& 31))) ||| ((own_w q1 (fun _ => fv) o (o + 3)) &&& (255 : Int32))))] [(.int fv), (.int off), (.ref b3)])) _
    refine XS.iconst X49.here hx rfl (hb hby at_203) ?_
    exact kt)
  obtain ⟨_, _, ⟨T52, L52, k52, n52⟩, -, X52, ⟨Lc52, hQ52, l52, y52, z52⟩, st52⟩ := Jvm.LawKit.callS X49 hx (y := (⟨"com/example/konnack/konnack/codec/FieldWriterU32PinLaw", "untouched", "([BIBI)Z"⟩ : MethodName)) hown (mvT hZ (hw _ (List.mem_of_getElem? (i := 25) rfl))) (mvT hZ (hw _ (List.mem_of_getElem? (i := 26) rfl))) (mvT hZ (hw _ (List.mem_of_getElem? (i := 27) rfl))) (mvT hZ (hw _ (List.mem_of_getElem? (i := 28) rfl))) (by decide) (backOf (W := 0) (rm5 l Z a0 hw [] b3 off fv (3 : Int32) o 3 _ T36.heap n0 ZZb B36 ho ho4 (by decide) (by decide) (fun q => own_wu _ _ _ _ q)) hZ (hw _ (List.mem_of_getElem? (i := 28) rfl)) (hw _ (List.mem_of_getElem? (i := 27) rfl)) (by decide) (by decide)) (g := (mkF m 204 #[.val (.long q1), .second, .val (.int p2), .val (.int p3), .val (.int off), .val (.int fv), .val (.ref b3), .val (.ref b30), .val (.int ((((((own_w q1 (fun _ => fv) o o) &&& (255 : Int32)) <<< ((24 : Int32) &&& 31)) ||| (((own_w q1 (fun _ => fv) o (o + 1)) &&& (255 : Int32)) <<< ((16 : Int32) &&& 31))) ||| (((own_w q1 (fun _ => fv) o (o + 2)) &&& (255 : Int32)) <<< ((8 : Int32) &&& 31))) ||| ((own_w q1 (fun _ => fv) o (o + 3)) &&& (255 : Int32))))] [(.int (3 : Int32)), (.int fv), (.int off), (.ref b3)])) rfl (by rw [hml]; rfl) (argsL := [(.ref b3), (.int off), (.int fv), (.int (3 : Int32))]) (rest := []) (lenOf pd_0_3 rfl) rfl (by show 2 * 0 + _ ≤ _; exact Nat.le_of_eq rfl) (hb hby at_204) (fun _ _ => ⟨rfl, e49, (by decide : 2 + 0 ≤ _), (by decide : 10 + 0 ≤ _)⟩)
  dsimp only [Pt.U, Pt.locs, Pt.cells, Pt.slots] at X52 l52 y52 z52 st52 hQ52
  subst l52 y52 z52
  obtain ⟨rfl, N52q, e52⟩ := hQ52
  have N52 := Fr.app N49 N52q
  have pre53 : ∀ t, Steps p.tables e below (T52.setTop (mkF m 207 #[.val (.long q1), .second, .val (.int p2), .val (.int p3), .val (.int off), .val (.int fv), .val (.ref b3), .val (.ref b30), .val (.int ((((((own_w q1 (fun _ => fv) o o) &&& (255 : Int32)) <<< ((24 : Int32) &&& 31)) ||| (((own_w q1 (fun _ => fv) o (o + 1)) &&& (255 : Int32)) <<< ((16 : Int32) &&& 31))) ||| (((own_w q1 (fun _ => fv) o (o + 2)) &&& (255 : Int32)) <<< ((8 : Int32) &&& 31))) ||| ((own_w q1 (fun _ => fv) o (o + 3)) &&& (255 : Int32))))] [(.int (1 : Int32))])) t → Steps p.tables e below (s₁.setTop (entryFrame m #[(.long q1), (.int p2), (.int p3)] maxLocals)) t := fun t kt => pre51 t (st52 t kt)
  have pre54 : ∀ t, Steps p.tables e below (T52.setTop (mkF m 217 #[.val (.long q1), .second, .val (.int p2), .val (.int p3), .val (.int off), .val (.int fv), .val (.ref b3), .val (.ref b30), .val (.int ((((((own_w q1 (fun _ => fv) o o) &&& (255 : Int32)) <<< ((24 : Int32) &&& 31)) ||| (((own_w q1 (fun _ => fv) o (o + 1)) &&& (255 : Int32)) <<< ((16 : Int32) &&& 31))) ||| (((own_w q1 (fun _ => fv) o (o + 2)) &&& (255 : Int32)) <<< ((8 : Int32) &&& 31))) ||| ((own_w q1 (fun _ => fv) o (o + 3)) &&& (255 : Int32))))] [(.int (4 : Int32)), (.int fv), (.int off), (.ref b3)])) t → Steps p.tables e below (s₁.setTop (entryFrame m #[(.long q1), (.int p2), (.int p3)] maxLocals)) t := fun t kt => pre53 t (by
    show Steps p.tables e below (T52.setTop (mkF m 207 #[.val (.long q1), .second, .val (.int p2), .val (.int p3), .val (.int off), .val (.int fv), .val (.ref b3), .val (.ref b30), .val (.int ((((((own_w q1 (fun _ => fv) o o) &&& (255 : Int32)) <<< ((24 : Int32) &&& 31)) ||| (((own_w q1 (fun _ => fv) o (o + 1)) &&& (255 : Int32)) <<< ((16 : Int32) &&& 31))) ||| (((own_w q1 (fun _ => fv) o (o + 2)) &&& (255 : Int32)) <<< ((8 : Int32) &&& 31))) ||| ((own_w q1 (fun _ => fv) o (o + 3)) &&& (255 : Int32))))] [(.int (1 : Int32))])) _
    refine XS.ifNo X52.here hx rfl (hb hby at_207) rfl ((if0 _ _).trans (feq (by decide)).1) ?_
    show Steps p.tables e below (T52.setTop (mkF m 210 #[.val (.long q1), .second, .val (.int p2), .val (.int p3), .val (.int off), .val (.int fv), .val (.ref b3), .val (.ref b30), .val (.int ((((((own_w q1 (fun _ => fv) o o) &&& (255 : Int32)) <<< ((24 : Int32) &&& 31)) ||| (((own_w q1 (fun _ => fv) o (o + 1)) &&& (255 : Int32)) <<< ((16 : Int32) &&& 31))) ||| (((own_w q1 (fun _ => fv) o (o + 2)) &&& (255 : Int32)) <<< ((8 : Int32) &&& 31))) ||| ((own_w q1 (fun _ => fv) o (o + 3)) &&& (255 : Int32))))] [])) _
    refine XS.aload X52.here hx rfl (hb hby at_210) rfl rfl ?_
    show Steps p.tables e below (T52.setTop (mkF m 212 #[.val (.long q1), .second, .val (.int p2), .val (.int p3), .val (.int off), .val (.int fv), .val (.ref b3), .val (.ref b30), .val (.int ((((((own_w q1 (fun _ => fv) o o) &&& (255 : Int32)) <<< ((24 : Int32) &&& 31)) ||| (((own_w q1 (fun _ => fv) o (o + 1)) &&& (255 : Int32)) <<< ((16 : Int32) &&& 31))) ||| (((own_w q1 (fun _ => fv) o (o + 2)) &&& (255 : Int32)) <<< ((8 : Int32) &&& 31))) ||| ((own_w q1 (fun _ => fv) o (o + 3)) &&& (255 : Int32))))] [(.ref b3)])) _
    refine XS.iload X52.here hx rfl (hb hby at_212) rfl ?_
    show Steps p.tables e below (T52.setTop (mkF m 214 #[.val (.long q1), .second, .val (.int p2), .val (.int p3), .val (.int off), .val (.int fv), .val (.ref b3), .val (.ref b30), .val (.int ((((((own_w q1 (fun _ => fv) o o) &&& (255 : Int32)) <<< ((24 : Int32) &&& 31)) ||| (((own_w q1 (fun _ => fv) o (o + 1)) &&& (255 : Int32)) <<< ((16 : Int32) &&& 31))) ||| (((own_w q1 (fun _ => fv) o (o + 2)) &&& (255 : Int32)) <<< ((8 : Int32) &&& 31))) ||| ((own_w q1 (fun _ => fv) o (o + 3)) &&& (255 : Int32))))] [(.int off), (.ref b3)])) _
    refine XS.iload X52.here hx rfl (hb hby at_214) rfl ?_
    show Steps p.tables e below (T52.setTop (mkF m 216 #[.val (.long q1), .second, .val (.int p2), .val (.int p3), .val (.int off), .val (.int fv), .val (.ref b3), .val (.ref b30), .val (.int ((((((own_w q1 (fun _ => fv) o o) &&& (255 : Int32)) <<< ((24 : Int32) &&& 31)) ||| (((own_w q1 (fun _ => fv) o (o + 1)) &&& (255 : Int32)) <<< ((16 : Int32) &&& 31))) ||| (((own_w q1 (fun _ => fv) o (o + 2)) &&& (255 : Int32)) <<< ((8 : Int32) &&& 31))) ||| ((own_w q1 (fun _ => fv) o (o + 3)) &&& (255 : Int32))))] [(.int fv), (.int off), (.ref b3)])) _
    refine XS.iconst X52.here hx rfl (hb hby at_216) ?_
    exact kt)
  obtain ⟨_, _, ⟨T55, L55, k55, n55⟩, -, X55, ⟨Lc55, hQ55, l55, y55, z55⟩, st55⟩ := Jvm.LawKit.callS X52 hx (y := (⟨"com/example/konnack/konnack/codec/FieldWriterU32PinLaw", "untouched", "([BIBI)Z"⟩ : MethodName)) hown (mvT hZ (hw _ (List.mem_of_getElem? (i := 25) rfl))) (mvT hZ (hw _ (List.mem_of_getElem? (i := 26) rfl))) (mvT hZ (hw _ (List.mem_of_getElem? (i := 27) rfl))) (mvT hZ (hw _ (List.mem_of_getElem? (i := 28) rfl))) (by decide) (backOf (W := 0) (rm5 l Z a0 hw [] b3 off fv (4 : Int32) o 4 _ T36.heap n0 ZZb B36 ho ho4 (by decide) (by decide) (fun q => own_wu _ _ _ _ q)) hZ (hw _ (List.mem_of_getElem? (i := 28) rfl)) (hw _ (List.mem_of_getElem? (i := 27) rfl)) (by decide) (by decide)) (g := (mkF m 217 #[.val (.long q1), .second, .val (.int p2), .val (.int p3), .val (.int off), .val (.int fv), .val (.ref b3), .val (.ref b30), .val (.int ((((((own_w q1 (fun _ => fv) o o) &&& (255 : Int32)) <<< ((24 : Int32) &&& 31)) ||| (((own_w q1 (fun _ => fv) o (o + 1)) &&& (255 : Int32)) <<< ((16 : Int32) &&& 31))) ||| (((own_w q1 (fun _ => fv) o (o + 2)) &&& (255 : Int32)) <<< ((8 : Int32) &&& 31))) ||| ((own_w q1 (fun _ => fv) o (o + 3)) &&& (255 : Int32))))] [(.int (4 : Int32)), (.int fv), (.int off), (.ref b3)])) rfl (by rw [hml]; rfl) (argsL := [(.ref b3), (.int off), (.int fv), (.int (4 : Int32))]) (rest := []) (lenOf pd_0_3 rfl) rfl (by show 2 * 0 + _ ≤ _; exact Nat.le_of_eq rfl) (hb hby at_217) (fun _ _ => ⟨rfl, e52, (by decide : 2 + 0 ≤ _), (by decide : 10 + 0 ≤ _)⟩)
  dsimp only [Pt.U, Pt.locs, Pt.cells, Pt.slots] at X55 l55 y55 z55 st55 hQ55
  subst l55 y55 z55
  obtain ⟨rfl, N55q, e55⟩ := hQ55
  have N55 := Fr.app N52 N55q
  have pre56 : ∀ t, Steps p.tables e below (T55.setTop (mkF m 220 #[.val (.long q1), .second, .val (.int p2), .val (.int p3), .val (.int off), .val (.int fv), .val (.ref b3), .val (.ref b30), .val (.int ((((((own_w q1 (fun _ => fv) o o) &&& (255 : Int32)) <<< ((24 : Int32) &&& 31)) ||| (((own_w q1 (fun _ => fv) o (o + 1)) &&& (255 : Int32)) <<< ((16 : Int32) &&& 31))) ||| (((own_w q1 (fun _ => fv) o (o + 2)) &&& (255 : Int32)) <<< ((8 : Int32) &&& 31))) ||| ((own_w q1 (fun _ => fv) o (o + 3)) &&& (255 : Int32))))] [(.int (1 : Int32))])) t → Steps p.tables e below (s₁.setTop (entryFrame m #[(.long q1), (.int p2), (.int p3)] maxLocals)) t := fun t kt => pre54 t (st55 t kt)
  have pre57 : ∀ t, Steps p.tables e below (T55.setTop (mkF m 230 #[.val (.long q1), .second, .val (.int p2), .val (.int p3), .val (.int off), .val (.int fv), .val (.ref b3), .val (.ref b30), .val (.int ((((((own_w q1 (fun _ => fv) o o) &&& (255 : Int32)) <<< ((24 : Int32) &&& 31)) ||| (((own_w q1 (fun _ => fv) o (o + 1)) &&& (255 : Int32)) <<< ((16 : Int32) &&& 31))) ||| (((own_w q1 (fun _ => fv) o (o + 2)) &&& (255 : Int32)) <<< ((8 : Int32) &&& 31))) ||| ((own_w q1 (fun _ => fv) o (o + 3)) &&& (255 : Int32))))] [(.int (5 : Int32)), (.int fv), (.int off), (.ref b3)])) t → Steps p.tables e below (s₁.setTop (entryFrame m #[(.long q1), (.int p2), (.int p3)] maxLocals)) t := fun t kt => pre56 t (by
    show Steps p.tables e below (T55.setTop (mkF m 220 #[.val (.long q1), .second, .val (.int p2), .val (.int p3), .val (.int off), .val (.int fv), .val (.ref b3), .val (.ref b30), .val (.int ((((((own_w q1 (fun _ => fv) o o) &&& (255 : Int32)) <<< ((24 : Int32) &&& 31)) ||| (((own_w q1 (fun _ => fv) o (o + 1)) &&& (255 : Int32)) <<< ((16 : Int32) &&& 31))) ||| (((own_w q1 (fun _ => fv) o (o + 2)) &&& (255 : Int32)) <<< ((8 : Int32) &&& 31))) ||| ((own_w q1 (fun _ => fv) o (o + 3)) &&& (255 : Int32))))] [(.int (1 : Int32))])) _
    refine XS.ifNo X55.here hx rfl (hb hby at_220) rfl ((if0 _ _).trans (feq (by decide)).1) ?_
    show Steps p.tables e below (T55.setTop (mkF m 223 #[.val (.long q1), .second, .val (.int p2), .val (.int p3), .val (.int off), .val (.int fv), .val (.ref b3), .val (.ref b30), .val (.int ((((((own_w q1 (fun _ => fv) o o) &&& (255 : Int32)) <<< ((24 : Int32) &&& 31)) ||| (((own_w q1 (fun _ => fv) o (o + 1)) &&& (255 : Int32)) <<< ((16 : Int32) &&& 31))) ||| (((own_w q1 (fun _ => fv) o (o + 2)) &&& (255 : Int32)) <<< ((8 : Int32) &&& 31))) ||| ((own_w q1 (fun _ => fv) o (o + 3)) &&& (255 : Int32))))] [])) _
    refine XS.aload X55.here hx rfl (hb hby at_223) rfl rfl ?_
    show Steps p.tables e below (T55.setTop (mkF m 225 #[.val (.long q1), .second, .val (.int p2), .val (.int p3), .val (.int off), .val (.int fv), .val (.ref b3), .val (.ref b30), .val (.int ((((((own_w q1 (fun _ => fv) o o) &&& (255 : Int32)) <<< ((24 : Int32) &&& 31)) ||| (((own_w q1 (fun _ => fv) o (o + 1)) &&& (255 : Int32)) <<< ((16 : Int32) &&& 31))) ||| (((own_w q1 (fun _ => fv) o (o + 2)) &&& (255 : Int32)) <<< ((8 : Int32) &&& 31))) ||| ((own_w q1 (fun _ => fv) o (o + 3)) &&& (255 : Int32))))] [(.ref b3)])) _
    refine XS.iload X55.here hx rfl (hb hby at_225) rfl ?_
    show Steps p.tables e below (T55.setTop (mkF m 227 #[.val (.long q1), .second, .val (.int p2), .val (.int p3), .val (.int off), .val (.int fv), .val (.ref b3), .val (.ref b30), .val (.int ((((((own_w q1 (fun _ => fv) o o) &&& (255 : Int32)) <<< ((24 : Int32) &&& 31)) ||| (((own_w q1 (fun _ => fv) o (o + 1)) &&& (255 : Int32)) <<< ((16 : Int32) &&& 31))) ||| (((own_w q1 (fun _ => fv) o (o + 2)) &&& (255 : Int32)) <<< ((8 : Int32) &&& 31))) ||| ((own_w q1 (fun _ => fv) o (o + 3)) &&& (255 : Int32))))] [(.int off), (.ref b3)])) _
    refine XS.iload X55.here hx rfl (hb hby at_227) rfl ?_
    show Steps p.tables e below (T55.setTop (mkF m 229 #[.val (.long q1), .second, .val (.int p2), .val (.int p3), .val (.int off), .val (.int fv), .val (.ref b3), .val (.ref b30), .val (.int ((((((own_w q1 (fun _ => fv) o o) &&& (255 : Int32)) <<< ((24 : Int32) &&& 31)) ||| (((own_w q1 (fun _ => fv) o (o + 1)) &&& (255 : Int32)) <<< ((16 : Int32) &&& 31))) ||| (((own_w q1 (fun _ => fv) o (o + 2)) &&& (255 : Int32)) <<< ((8 : Int32) &&& 31))) ||| ((own_w q1 (fun _ => fv) o (o + 3)) &&& (255 : Int32))))] [(.int fv), (.int off), (.ref b3)])) _
    refine XS.iconst X55.here hx rfl (hb hby at_229) ?_
    exact kt)
  obtain ⟨_, _, ⟨T58, L58, k58, n58⟩, -, X58, ⟨Lc58, hQ58, l58, y58, z58⟩, st58⟩ := Jvm.LawKit.callS X55 hx (y := (⟨"com/example/konnack/konnack/codec/FieldWriterU32PinLaw", "untouched", "([BIBI)Z"⟩ : MethodName)) hown (mvT hZ (hw _ (List.mem_of_getElem? (i := 25) rfl))) (mvT hZ (hw _ (List.mem_of_getElem? (i := 26) rfl))) (mvT hZ (hw _ (List.mem_of_getElem? (i := 27) rfl))) (mvT hZ (hw _ (List.mem_of_getElem? (i := 28) rfl))) (by decide) (backOf (W := 0) (rm5 l Z a0 hw [] b3 off fv (5 : Int32) o 5 _ T36.heap n0 ZZb B36 ho ho4 (by decide) (by decide) (fun q => own_wu _ _ _ _ q)) hZ (hw _ (List.mem_of_getElem? (i := 28) rfl)) (hw _ (List.mem_of_getElem? (i := 27) rfl)) (by decide) (by decide)) (g := (mkF m 230 #[.val (.long q1), .second, .val (.int p2), .val (.int p3), .val (.int off), .val (.int fv), .val (.ref b3), .val (.ref b30), .val (.int ((((((own_w q1 (fun _ => fv) o o) &&& (255 : Int32)) <<< ((24 : Int32) &&& 31)) ||| (((own_w q1 (fun _ => fv) o (o + 1)) &&& (255 : Int32)) <<< ((16 : Int32) &&& 31))) ||| (((own_w q1 (fun _ => fv) o (o + 2)) &&& (255 : Int32)) <<< ((8 : Int32) &&& 31))) ||| ((own_w q1 (fun _ => fv) o (o + 3)) &&& (255 : Int32))))] [(.int (5 : Int32)), (.int fv), (.int off), (.ref b3)])) rfl (by rw [hml]; rfl) (argsL := [(.ref b3), (.int off), (.int fv), (.int (5 : Int32))]) (rest := []) (lenOf pd_0_3 rfl) rfl (by show 2 * 0 + _ ≤ _; exact Nat.le_of_eq rfl) (hb hby at_230) (fun _ _ => ⟨rfl, e55, (by decide : 2 + 0 ≤ _), (by decide : 10 + 0 ≤ _)⟩)
  dsimp only [Pt.U, Pt.locs, Pt.cells, Pt.slots] at X58 l58 y58 z58 st58 hQ58
  subst l58 y58 z58
  obtain ⟨rfl, N58q, e58⟩ := hQ58
  have N58 := Fr.app N55 N58q
  have pre59 : ∀ t, Steps p.tables e below (T58.setTop (mkF m 233 #[.val (.long q1), .second, .val (.int p2), .val (.int p3), .val (.int off), .val (.int fv), .val (.ref b3), .val (.ref b30), .val (.int ((((((own_w q1 (fun _ => fv) o o) &&& (255 : Int32)) <<< ((24 : Int32) &&& 31)) ||| (((own_w q1 (fun _ => fv) o (o + 1)) &&& (255 : Int32)) <<< ((16 : Int32) &&& 31))) ||| (((own_w q1 (fun _ => fv) o (o + 2)) &&& (255 : Int32)) <<< ((8 : Int32) &&& 31))) ||| ((own_w q1 (fun _ => fv) o (o + 3)) &&& (255 : Int32))))] [(.int (1 : Int32))])) t → Steps p.tables e below (s₁.setTop (entryFrame m #[(.long q1), (.int p2), (.int p3)] maxLocals)) t := fun t kt => pre57 t (st58 t kt)
  have pre60 : ∀ t, Steps p.tables e below (T58.setTop (mkF m 244 #[.val (.long q1), .second, .val (.int p2), .val (.int p3), .val (.int off), .val (.int fv), .val (.ref b3), .val (.ref b30), .val (.int ((((((own_w q1 (fun _ => fv) o o) &&& (255 : Int32)) <<< ((24 : Int32) &&& 31)) ||| (((own_w q1 (fun _ => fv) o (o + 1)) &&& (255 : Int32)) <<< ((16 : Int32) &&& 31))) ||| (((own_w q1 (fun _ => fv) o (o + 2)) &&& (255 : Int32)) <<< ((8 : Int32) &&& 31))) ||| ((own_w q1 (fun _ => fv) o (o + 3)) &&& (255 : Int32))))] [(.int (6 : Int32)), (.int fv), (.int off), (.ref b3)])) t → Steps p.tables e below (s₁.setTop (entryFrame m #[(.long q1), (.int p2), (.int p3)] maxLocals)) t := fun t kt => pre59 t (by
    show Steps p.tables e below (T58.setTop (mkF m 233 #[.val (.long q1), .second, .val (.int p2), .val (.int p3), .val (.int off), .val (.int fv), .val (.ref b3), .val (.ref b30), .val (.int ((((((own_w q1 (fun _ => fv) o o) &&& (255 : Int32)) <<< ((24 : Int32) &&& 31)) ||| (((own_w q1 (fun _ => fv) o (o + 1)) &&& (255 : Int32)) <<< ((16 : Int32) &&& 31))) ||| (((own_w q1 (fun _ => fv) o (o + 2)) &&& (255 : Int32)) <<< ((8 : Int32) &&& 31))) ||| ((own_w q1 (fun _ => fv) o (o + 3)) &&& (255 : Int32))))] [(.int (1 : Int32))])) _
    refine XS.ifNo X58.here hx rfl (hb hby at_233) rfl ((if0 _ _).trans (feq (by decide)).1) ?_
    show Steps p.tables e below (T58.setTop (mkF m 236 #[.val (.long q1), .second, .val (.int p2), .val (.int p3), .val (.int off), .val (.int fv), .val (.ref b3), .val (.ref b30), .val (.int ((((((own_w q1 (fun _ => fv) o o) &&& (255 : Int32)) <<< ((24 : Int32) &&& 31)) ||| (((own_w q1 (fun _ => fv) o (o + 1)) &&& (255 : Int32)) <<< ((16 : Int32) &&& 31))) ||| (((own_w q1 (fun _ => fv) o (o + 2)) &&& (255 : Int32)) <<< ((8 : Int32) &&& 31))) ||| ((own_w q1 (fun _ => fv) o (o + 3)) &&& (255 : Int32))))] [])) _
    refine XS.aload X58.here hx rfl (hb hby at_236) rfl rfl ?_
    show Steps p.tables e below (T58.setTop (mkF m 238 #[.val (.long q1), .second, .val (.int p2), .val (.int p3), .val (.int off), .val (.int fv), .val (.ref b3), .val (.ref b30), .val (.int ((((((own_w q1 (fun _ => fv) o o) &&& (255 : Int32)) <<< ((24 : Int32) &&& 31)) ||| (((own_w q1 (fun _ => fv) o (o + 1)) &&& (255 : Int32)) <<< ((16 : Int32) &&& 31))) ||| (((own_w q1 (fun _ => fv) o (o + 2)) &&& (255 : Int32)) <<< ((8 : Int32) &&& 31))) ||| ((own_w q1 (fun _ => fv) o (o + 3)) &&& (255 : Int32))))] [(.ref b3)])) _
    refine XS.iload X58.here hx rfl (hb hby at_238) rfl ?_
    show Steps p.tables e below (T58.setTop (mkF m 240 #[.val (.long q1), .second, .val (.int p2), .val (.int p3), .val (.int off), .val (.int fv), .val (.ref b3), .val (.ref b30), .val (.int ((((((own_w q1 (fun _ => fv) o o) &&& (255 : Int32)) <<< ((24 : Int32) &&& 31)) ||| (((own_w q1 (fun _ => fv) o (o + 1)) &&& (255 : Int32)) <<< ((16 : Int32) &&& 31))) ||| (((own_w q1 (fun _ => fv) o (o + 2)) &&& (255 : Int32)) <<< ((8 : Int32) &&& 31))) ||| ((own_w q1 (fun _ => fv) o (o + 3)) &&& (255 : Int32))))] [(.int off), (.ref b3)])) _
    refine XS.iload X58.here hx rfl (hb hby at_240) rfl ?_
    show Steps p.tables e below (T58.setTop (mkF m 242 #[.val (.long q1), .second, .val (.int p2), .val (.int p3), .val (.int off), .val (.int fv), .val (.ref b3), .val (.ref b30), .val (.int ((((((own_w q1 (fun _ => fv) o o) &&& (255 : Int32)) <<< ((24 : Int32) &&& 31)) ||| (((own_w q1 (fun _ => fv) o (o + 1)) &&& (255 : Int32)) <<< ((16 : Int32) &&& 31))) ||| (((own_w q1 (fun _ => fv) o (o + 2)) &&& (255 : Int32)) <<< ((8 : Int32) &&& 31))) ||| ((own_w q1 (fun _ => fv) o (o + 3)) &&& (255 : Int32))))] [(.int fv), (.int off), (.ref b3)])) _
    refine XS.bipush X58.here hx rfl (hb hby at_242) ?_
    exact kt)
  obtain ⟨_, _, ⟨T61, L61, k61, n61⟩, -, X61, ⟨Lc61, hQ61, l61, y61, z61⟩, st61⟩ := Jvm.LawKit.callS X58 hx (y := (⟨"com/example/konnack/konnack/codec/FieldWriterU32PinLaw", "untouched", "([BIBI)Z"⟩ : MethodName)) hown (mvT hZ (hw _ (List.mem_of_getElem? (i := 25) rfl))) (mvT hZ (hw _ (List.mem_of_getElem? (i := 26) rfl))) (mvT hZ (hw _ (List.mem_of_getElem? (i := 27) rfl))) (mvT hZ (hw _ (List.mem_of_getElem? (i := 28) rfl))) (by decide) (backOf (W := 0) (rm5 l Z a0 hw [] b3 off fv (6 : Int32) o 6 _ T36.heap n0 ZZb B36 ho ho4 (by decide) (by decide) (fun q => own_wu _ _ _ _ q)) hZ (hw _ (List.mem_of_getElem? (i := 28) rfl)) (hw _ (List.mem_of_getElem? (i := 27) rfl)) (by decide) (by decide)) (g := (mkF m 244 #[.val (.long q1), .second, .val (.int p2), .val (.int p3), .val (.int off), .val (.int fv), .val (.ref b3), .val (.ref b30), .val (.int ((((((own_w q1 (fun _ => fv) o o) &&& (255 : Int32)) <<< ((24 : Int32) &&& 31)) ||| (((own_w q1 (fun _ => fv) o (o + 1)) &&& (255 : Int32)) <<< ((16 : Int32) &&& 31))) ||| (((own_w q1 (fun _ => fv) o (o + 2)) &&& (255 : Int32)) <<< ((8 : Int32) &&& 31))) ||| ((own_w q1 (fun _ => fv) o (o + 3)) &&& (255 : Int32))))] [(.int (6 : Int32)), (.int fv), (.int off), (.ref b3)])) rfl (by rw [hml]; rfl) (argsL := [(.ref b3), (.int off), (.int fv), (.int (6 : Int32))]) (rest := []) (lenOf pd_0_3 rfl) rfl (by show 2 * 0 + _ ≤ _; exact Nat.le_of_eq rfl) (hb hby at_244) (fun _ _ => ⟨rfl, e58, (by decide : 2 + 0 ≤ _), (by decide : 10 + 0 ≤ _)⟩)
  dsimp only [Pt.U, Pt.locs, Pt.cells, Pt.slots] at X61 l61 y61 z61 st61 hQ61
  subst l61 y61 z61
  obtain ⟨rfl, N61q, e61⟩ := hQ61
  have N61 := Fr.app N58 N61q
  have pre62 : ∀ t, Steps p.tables e below (T61.setTop (mkF m 247 #[.val (.long q1), .second, .val (.int p2), .val (.int p3), .val (.int off), .val (.int fv), .val (.ref b3), .val (.ref b30), .val (.int ((((((own_w q1 (fun _ => fv) o o) &&& (255 : Int32)) <<< ((24 : Int32) &&& 31)) ||| (((own_w q1 (fun _ => fv) o (o + 1)) &&& (255 : Int32)) <<< ((16 : Int32) &&& 31))) ||| (((own_w q1 (fun _ => fv) o (o + 2)) &&& (255 : Int32)) <<< ((8 : Int32) &&& 31))) ||| ((own_w q1 (fun _ => fv) o (o + 3)) &&& (255 : Int32))))] [(.int (1 : Int32))])) t → Steps p.tables e below (s₁.setTop (entryFrame m #[(.long q1), (.int p2), (.int p3)] maxLocals)) t := fun t kt => pre60 t (st61 t kt)
  have pre63 : ∀ t, Steps p.tables e below (T61.setTop (mkF m 258 #[.val (.long q1), .second, .val (.int p2), .val (.int p3), .val (.int off), .val (.int fv), .val (.ref b3), .val (.ref b30), .val (.int ((((((own_w q1 (fun _ => fv) o o) &&& (255 : Int32)) <<< ((24 : Int32) &&& 31)) ||| (((own_w q1 (fun _ => fv) o (o + 1)) &&& (255 : Int32)) <<< ((16 : Int32) &&& 31))) ||| (((own_w q1 (fun _ => fv) o (o + 2)) &&& (255 : Int32)) <<< ((8 : Int32) &&& 31))) ||| ((own_w q1 (fun _ => fv) o (o + 3)) &&& (255 : Int32))))] [(.int (7 : Int32)), (.int fv), (.int off), (.ref b3)])) t → Steps p.tables e below (s₁.setTop (entryFrame m #[(.long q1), (.int p2), (.int p3)] maxLocals)) t := fun t kt => pre62 t (by
    show Steps p.tables e below (T61.setTop (mkF m 247 #[.val (.long q1), .second, .val (.int p2), .val (.int p3), .val (.int off), .val (.int fv), .val (.ref b3), .val (.ref b30), .val (.int ((((((own_w q1 (fun _ => fv) o o) &&& (255 : Int32)) <<< ((24 : Int32) &&& 31)) ||| (((own_w q1 (fun _ => fv) o (o + 1)) &&& (255 : Int32)) <<< ((16 : Int32) &&& 31))) ||| (((own_w q1 (fun _ => fv) o (o + 2)) &&& (255 : Int32)) <<< ((8 : Int32) &&& 31))) ||| ((own_w q1 (fun _ => fv) o (o + 3)) &&& (255 : Int32))))] [(.int (1 : Int32))])) _
    refine XS.ifNo X61.here hx rfl (hb hby at_247) rfl ((if0 _ _).trans (feq (by decide)).1) ?_
    show Steps p.tables e below (T61.setTop (mkF m 250 #[.val (.long q1), .second, .val (.int p2), .val (.int p3), .val (.int off), .val (.int fv), .val (.ref b3), .val (.ref b30), .val (.int ((((((own_w q1 (fun _ => fv) o o) &&& (255 : Int32)) <<< ((24 : Int32) &&& 31)) ||| (((own_w q1 (fun _ => fv) o (o + 1)) &&& (255 : Int32)) <<< ((16 : Int32) &&& 31))) ||| (((own_w q1 (fun _ => fv) o (o + 2)) &&& (255 : Int32)) <<< ((8 : Int32) &&& 31))) ||| ((own_w q1 (fun _ => fv) o (o + 3)) &&& (255 : Int32))))] [])) _
    refine XS.aload X61.here hx rfl (hb hby at_250) rfl rfl ?_
    show Steps p.tables e below (T61.setTop (mkF m 252 #[.val (.long q1), .second, .val (.int p2), .val (.int p3), .val (.int off), .val (.int fv), .val (.ref b3), .val (.ref b30), .val (.int ((((((own_w q1 (fun _ => fv) o o) &&& (255 : Int32)) <<< ((24 : Int32) &&& 31)) ||| (((own_w q1 (fun _ => fv) o (o + 1)) &&& (255 : Int32)) <<< ((16 : Int32) &&& 31))) ||| (((own_w q1 (fun _ => fv) o (o + 2)) &&& (255 : Int32)) <<< ((8 : Int32) &&& 31))) ||| ((own_w q1 (fun _ => fv) o (o + 3)) &&& (255 : Int32))))] [(.ref b3)])) _
    refine XS.iload X61.here hx rfl (hb hby at_252) rfl ?_
    show Steps p.tables e below (T61.setTop (mkF m 254 #[.val (.long q1), .second, .val (.int p2), .val (.int p3), .val (.int off), .val (.int fv), .val (.ref b3), .val (.ref b30), .val (.int ((((((own_w q1 (fun _ => fv) o o) &&& (255 : Int32)) <<< ((24 : Int32) &&& 31)) ||| (((own_w q1 (fun _ => fv) o (o + 1)) &&& (255 : Int32)) <<< ((16 : Int32) &&& 31))) ||| (((own_w q1 (fun _ => fv) o (o + 2)) &&& (255 : Int32)) <<< ((8 : Int32) &&& 31))) ||| ((own_w q1 (fun _ => fv) o (o + 3)) &&& (255 : Int32))))] [(.int off), (.ref b3)])) _
    refine XS.iload X61.here hx rfl (hb hby at_254) rfl ?_
    show Steps p.tables e below (T61.setTop (mkF m 256 #[.val (.long q1), .second, .val (.int p2), .val (.int p3), .val (.int off), .val (.int fv), .val (.ref b3), .val (.ref b30), .val (.int ((((((own_w q1 (fun _ => fv) o o) &&& (255 : Int32)) <<< ((24 : Int32) &&& 31)) ||| (((own_w q1 (fun _ => fv) o (o + 1)) &&& (255 : Int32)) <<< ((16 : Int32) &&& 31))) ||| (((own_w q1 (fun _ => fv) o (o + 2)) &&& (255 : Int32)) <<< ((8 : Int32) &&& 31))) ||| ((own_w q1 (fun _ => fv) o (o + 3)) &&& (255 : Int32))))] [(.int fv), (.int off), (.ref b3)])) _
    refine XS.bipush X61.here hx rfl (hb hby at_256) ?_
    exact kt)
  obtain ⟨_, _, ⟨T64, L64, k64, n64⟩, -, X64, ⟨Lc64, hQ64, l64, y64, z64⟩, st64⟩ := Jvm.LawKit.callS X61 hx (y := (⟨"com/example/konnack/konnack/codec/FieldWriterU32PinLaw", "untouched", "([BIBI)Z"⟩ : MethodName)) hown (mvT hZ (hw _ (List.mem_of_getElem? (i := 25) rfl))) (mvT hZ (hw _ (List.mem_of_getElem? (i := 26) rfl))) (mvT hZ (hw _ (List.mem_of_getElem? (i := 27) rfl))) (mvT hZ (hw _ (List.mem_of_getElem? (i := 28) rfl))) (by decide) (backOf (W := 0) (rm5 l Z a0 hw [] b3 off fv (7 : Int32) o 7 _ T36.heap n0 ZZb B36 ho ho4 (by decide) (by decide) (fun q => own_wu _ _ _ _ q)) hZ (hw _ (List.mem_of_getElem? (i := 28) rfl)) (hw _ (List.mem_of_getElem? (i := 27) rfl)) (by decide) (by decide)) (g := (mkF m 258 #[.val (.long q1), .second, .val (.int p2), .val (.int p3), .val (.int off), .val (.int fv), .val (.ref b3), .val (.ref b30), .val (.int ((((((own_w q1 (fun _ => fv) o o) &&& (255 : Int32)) <<< ((24 : Int32) &&& 31)) ||| (((own_w q1 (fun _ => fv) o (o + 1)) &&& (255 : Int32)) <<< ((16 : Int32) &&& 31))) ||| (((own_w q1 (fun _ => fv) o (o + 2)) &&& (255 : Int32)) <<< ((8 : Int32) &&& 31))) ||| ((own_w q1 (fun _ => fv) o (o + 3)) &&& (255 : Int32))))] [(.int (7 : Int32)), (.int fv), (.int off), (.ref b3)])) rfl (by rw [hml]; rfl) (argsL := [(.ref b3), (.int off), (.int fv), (.int (7 : Int32))]) (rest := []) (lenOf pd_0_3 rfl) rfl (by show 2 * 0 + _ ≤ _; exact Nat.le_of_eq rfl) (hb hby at_258) (fun _ _ => ⟨rfl, e61, (by decide : 2 + 0 ≤ _), (by decide : 10 + 0 ≤ _)⟩)
  dsimp only [Pt.U, Pt.locs, Pt.cells, Pt.slots] at X64 l64 y64 z64 st64 hQ64
  subst l64 y64 z64
  obtain ⟨rfl, N64q, e64⟩ := hQ64
  have N64 := Fr.app N61 N64q
  have pre65 : ∀ t, Steps p.tables e below (T64.setTop (mkF m 261 #[.val (.long q1), .second, .val (.int p2), .val (.int p3), .val (.int off), .val (.int fv), .val (.ref b3), .val (.ref b30), .val (.int ((((((own_w q1 (fun _ => fv) o o) &&& (255 : Int32)) <<< ((24 : Int32) &&& 31)) ||| (((own_w q1 (fun _ => fv) o (o + 1)) &&& (255 : Int32)) <<< ((16 : Int32) &&& 31))) ||| (((own_w q1 (fun _ => fv) o (o + 2)) &&& (255 : Int32)) <<< ((8 : Int32) &&& 31))) ||| ((own_w q1 (fun _ => fv) o (o + 3)) &&& (255 : Int32))))] [(.int (1 : Int32))])) t → Steps p.tables e below (s₁.setTop (entryFrame m #[(.long q1), (.int p2), (.int p3)] maxLocals)) t := fun t kt => pre63 t (st64 t kt)
  have pre66 : ∀ t, Steps p.tables e below (T64.setTop (mkF m 269 #[.val (.long q1), .second, .val (.int p2), .val (.int p3), .val (.int off), .val (.int fv), .val (.ref b3), .val (.ref b30), .val (.int ((((((own_w q1 (fun _ => fv) o o) &&& (255 : Int32)) <<< ((24 : Int32) &&& 31)) ||| (((own_w q1 (fun _ => fv) o (o + 1)) &&& (255 : Int32)) <<< ((16 : Int32) &&& 31))) ||| (((own_w q1 (fun _ => fv) o (o + 2)) &&& (255 : Int32)) <<< ((8 : Int32) &&& 31))) ||| ((own_w q1 (fun _ => fv) o (o + 3)) &&& (255 : Int32))))] [(.int (1 : Int32))])) t → Steps p.tables e below (s₁.setTop (entryFrame m #[(.long q1), (.int p2), (.int p3)] maxLocals)) t := fun t kt => pre65 t (by
    show Steps p.tables e below (T64.setTop (mkF m 261 #[.val (.long q1), .second, .val (.int p2), .val (.int p3), .val (.int off), .val (.int fv), .val (.ref b3), .val (.ref b30), .val (.int ((((((own_w q1 (fun _ => fv) o o) &&& (255 : Int32)) <<< ((24 : Int32) &&& 31)) ||| (((own_w q1 (fun _ => fv) o (o + 1)) &&& (255 : Int32)) <<< ((16 : Int32) &&& 31))) ||| (((own_w q1 (fun _ => fv) o (o + 2)) &&& (255 : Int32)) <<< ((8 : Int32) &&& 31))) ||| ((own_w q1 (fun _ => fv) o (o + 3)) &&& (255 : Int32))))] [(.int (1 : Int32))])) _
    refine XS.ifNo X64.here hx rfl (hb hby at_261) rfl ((if0 _ _).trans (feq (by decide)).1) ?_
    show Steps p.tables e below (T64.setTop (mkF m 264 #[.val (.long q1), .second, .val (.int p2), .val (.int p3), .val (.int off), .val (.int fv), .val (.ref b3), .val (.ref b30), .val (.int ((((((own_w q1 (fun _ => fv) o o) &&& (255 : Int32)) <<< ((24 : Int32) &&& 31)) ||| (((own_w q1 (fun _ => fv) o (o + 1)) &&& (255 : Int32)) <<< ((16 : Int32) &&& 31))) ||| (((own_w q1 (fun _ => fv) o (o + 2)) &&& (255 : Int32)) <<< ((8 : Int32) &&& 31))) ||| ((own_w q1 (fun _ => fv) o (o + 3)) &&& (255 : Int32))))] [])) _
    refine XS.iconst X64.here hx rfl (hb hby at_264) ?_
    show Steps p.tables e below (T64.setTop (mkF m 265 #[.val (.long q1), .second, .val (.int p2), .val (.int p3), .val (.int off), .val (.int fv), .val (.ref b3), .val (.ref b30), .val (.int ((((((own_w q1 (fun _ => fv) o o) &&& (255 : Int32)) <<< ((24 : Int32) &&& 31)) ||| (((own_w q1 (fun _ => fv) o (o + 1)) &&& (255 : Int32)) <<< ((16 : Int32) &&& 31))) ||| (((own_w q1 (fun _ => fv) o (o + 2)) &&& (255 : Int32)) <<< ((8 : Int32) &&& 31))) ||| ((own_w q1 (fun _ => fv) o (o + 3)) &&& (255 : Int32))))] [(.int (1 : Int32))])) _
    refine XS.goto X64.here hx rfl (pc0 := 265) (pc' := 269) rfl (hb hby at_265) (by decide) (by decide) ?_
    exact kt)
  obtain ⟨fs, hr, hrun, hended, hW, hsame⟩ := X64.leave (v := some (.int (1 : Int32))) (fun h => by rw [Bd.returns] at h; cases h)
  refine ⟨_, _, pre66 _ ?_, hrun, hended, _, _, rfl, ?_, ⟨_, rfl⟩, hW, hsame.mono (by decide) (by decide)⟩
  · show Steps p.tables e below (T64.setTop (mkF m 269 #[.val (.long q1), .second, .val (.int p2), .val (.int p3), .val (.int off), .val (.int fv), .val (.ref b3), .val (.ref b30), .val (.int ((((((own_w q1 (fun _ => fv) o o) &&& (255 : Int32)) <<< ((24 : Int32) &&& 31)) ||| (((own_w q1 (fun _ => fv) o (o + 1)) &&& (255 : Int32)) <<< ((16 : Int32) &&& 31))) ||| (((own_w q1 (fun _ => fv) o (o + 2)) &&& (255 : Int32)) <<< ((8 : Int32) &&& 31))) ||| ((own_w q1 (fun _ => fv) o (o + 3)) &&& (255 : Int32))))] [(.int (1 : Int32))])) _
    exact retN X64 hx (t := .boolean) Bd.returns (by simp) (hb hby at_269) hr
  · show Q0 Z q1 p2 p3 h0 n0 _ T64.heap _
    rw [e64]
    exact ⟨rfl, N64⟩
set_option maxRecDepth 65536 in
set_option maxHeartbeats 40000000 in
theorem comes_1 {Post : Tables → Env → Array Value → State → Outcome → State → Prop} (hpost : ∀ tb e args s v u, (limb_1_1.after args s (.returned v) u = true ∧ limb_1_2.after args s (.returned v) u = true ∧ True) → FrameEnd s (.returned v) u (Jvm.fieldLocs frame_1_writes args s ++ Jvm.arrayLocs frame_1_arrays args s ++ Jvm.staticLocs frame_1_statics s) 16 128 → Post tb e args s (.returned v) u) :
    ArmFor flags0 classFile x code maxLocals ret World_1 tables_1 room_1 Calls_1 rest_1 Pre_1 Post := by
  intro l hfl _ _ p e ha hc hk s m args below hf hA hF happ hP
  obtain ⟨hcalls, hrest, hpre⟩ := hP
  obtain ⟨-, -, -, hnamed, -, -, -, hat⟩ := (Spec.applies_iff hf).mp happ
  obtain ⟨hg, hn⟩ := and_e (Cond.before_iff.mp (show (Jvm.Cond.and given_1 narrow_1).before args s = true from hpre))
  obtain ⟨hcnt, g0⟩ := and_e hg
  obtain ⟨ha0, g1⟩ := and_e g0
  obtain ⟨ha1, g2⟩ := and_e g1
  obtain ⟨w0, w1, w2, rfl⟩ : ∃ w0 w1 w2 : Value, args = #[w0, w1, w2] := by
    have hs : args.size = 3 := by simpa [Cond.value, given_1] using hcnt
    obtain ⟨L⟩ := args
    match L, hs with
    | [w0, w1, w2], _ => exact ⟨w0, w1, w2, rfl⟩
  have hw := fun d (hd : d ∈ tables_1) => atoms_spec (ws := Jvm.Cond.code x code maxLocals ret :: tables_1) hat d (List.mem_cons_of_mem _ hd)
  obtain ⟨i0, ei0⟩ := isL_v ha0
  obtain rfl : w0 = (.long i0) := Option.some.inj ei0
  obtain ⟨i1, ei1⟩ := is_v ha1
  obtain rfl : w1 = (.int i1) := Option.some.inj ei1
  obtain ⟨i2, ei2⟩ := is_v g2
  obtain rfl : w2 = (.int i2) := Option.some.inj ei2
  obtain ⟨n, o, h1, h2, h3, _, L, rfl, ⟨rfl, N⟩, hq⟩ := rm0 l s _ hw tables_1 i0 i1 i2 s.heap s.heap.size (Nat.le_refl _)  p e ha hc hk s m _ below hf ((Spec.applies_iff_loose hf).mp happ).1 ⟨rfl, State.Warmed39.refl s, rfl⟩ trivial
  refine ⟨n, _, h1, h2, h3, hpost _ _ _ _ _ _ ⟨Cond.after_iff.mpr rfl, Cond.after_iff.mpr (eq_i res_at (Term.int_eval (1)) rfl), trivial⟩ ⟨hq.1, hq.2.1, (hq.2.2.sift fun y hy => Or.inr (N y hy)).mono (by decide) (by decide)⟩⟩
theorem main_1_1 : Claimed_1_1 := comes_1 fun _ _ _ _ _ _ h hF => ⟨h.1, hF⟩
theorem main_1_2 : Claimed_1_2 := comes_1 fun _ _ _ _ _ _ h hF => ⟨h.2.1, hF⟩
end Jvm.Pilot.@@N@@
namespace Jvm.Pilot.@@N@@
open Jvm Jvm.ClassFile Sem Op Lib Jvm.Free Jvm.Stand Jvm.Pilot.@@N@@.Jvm.D
/-! MADE BY PROGRAM (witnessworld.py) out of the Statement's table words and the real class files: 9 classes; the members and pool entries that the words name. The judged class is class 1, her method 1. -/
namespace start1
open Jvm.ClassFile
def u (s : String) : CpInfo := .utf8 (stringToUtf16 s)
/-- a pool by its gaps: so many unusable entries, then the entry; so many at the end -/
def gap : Nat → List CpInfo → List CpInfo
  | 0, r => r
  | n + 1, r => .unusable :: gap n r
def poolList (es : List (Nat × CpInfo)) (last : Nat) : List CpInfo := es.foldr (fun e r => gap e.1 (e.2 :: r)) (gap last [])
def pool (es : List (Nat × CpInfo)) (last : Nat) : Array CpInfo := ⟨poolList es last⟩
def fileOf (pool : Array CpInfo) (this : Nat) (attrs : Array Attribute := #[]) (ms : Array MethodInfo := #[]) (fl : Nat := 33) (sup : Nat := 0) (ifs : Array Nat := #[]) (fds : Array FieldInfo := #[]) : ClassFile where
  minorVersion := 0
  majorVersion := 65
  constantPool := pool
  accessFlags := fl
  thisClass := this
  superClass := sup
  interfaces := ifs
  fields := fds
  methods := ms
  attributes := attrs
def plain (name : String) (sup : Option ClassId) : Class where
  name := name
  kind := .ordinary
  loader := none
  accessFlags := 33
  super := sup
  interfaces := #[]
  cf := none
  fields := #[]
  methods := #[]
  instanceTypes := #[]
  staticTypes := #[]
  resolved := #[]
  callSites := []
  init := .initialized
  statics := none
  mirror := none

def pool0 : Array CpInfo := pool [(5, u "<init>"), (0, u "()V"), (1, .class_ 10), (1, u "java/lang/Object")] 113

def k0c0 : Code := { maxStack := 0, maxLocals := 1, code := object_method_1_code, exceptionTable := #[], attributes := #[] }
def k0m0 : Method := { name := "<init>", desc := "()V", sig := { parameters := [], returnType := none }, accessFlags := 1, code := some k0c0 }
/-- java/lang/Object -/
def k0 : Class := { plain "java/lang/Object" none with
  accessFlags := 33
  interfaces := #[]
  cf := some (fileOf pool0 8 #[] #[{ accessFlags := 1, nameIndex := 5, descriptorIndex := 6, attributes := #[] }] 33 0 #[] #[])
  fields := #[]
  methods := #[k0m0]
  instanceTypes := #[]
  staticTypes := #[]
  resolved := Array.replicate 124 none
  statics := none }

def pool1 : Array CpInfo := pool [(2, .class_ 4), (1, u "java/lang/Object"), (0, u "<init>"), (0, u "()V"), (0, .integer 2147483647), (0, .class_ 9), (0, u "com/example/konnack/konnack/codec/FieldWriter"), (0, .methodref 8 11), (0, .nameAndType 5 12), (0, u "([BI)V"), (0, .methodref 8 14), (0, .nameAndType 15 16), (0, u "u32"), (0, u "(J)V"), (0, .methodref 8 18), (0, .nameAndType 19 20), (0, u "position"), (0, u "()I"), (0, .methodref 22 23), (0, .class_ 24), (0, .nameAndType 25 26), (0, u "com/example/konnack/konnack/codec/FieldWriterU32PinLaw"), (0, u "untouched"), (0, u "([BIBI)Z"), (2, u "law"), (0, u "(JII)Z")] 5

def k1m0 : Method := { name := "<init>", desc := "()V", sig := { parameters := [], returnType := none }, accessFlags := 1, code := none }
def k1c1 : Code := { maxStack := 4, maxLocals := 9, code := code, exceptionTable := #[], attributes := #[] }
def k1m1 : Method := { name := "law", desc := "(JII)Z", sig := { parameters := [.long, .int, .int], returnType := some .boolean }, accessFlags := 9, code := some k1c1 }
def k1c2 : Code := { maxStack := 3, maxLocals := 4, code := method_3_code, exceptionTable := #[], attributes := #[] }
def k1m2 : Method := { name := "untouched", desc := "([BIBI)Z", sig := { parameters := [(.array .byte), .int, .byte, .int], returnType := some .boolean }, accessFlags := 10, code := some k1c2 }
/-- com/example/konnack/konnack/codec/FieldWriterU32PinLaw -/
def k1 : Class := { plain "com/example/konnack/konnack/codec/FieldWriterU32PinLaw" (some 0) with
  accessFlags := 49
  interfaces := #[]
  cf := some (fileOf pool1 22 #[] #[{ accessFlags := 1, nameIndex := 5, descriptorIndex := 6, attributes := #[] }, { accessFlags := 9, nameIndex := 29, descriptorIndex := 30, attributes := #[] }, { accessFlags := 10, nameIndex := 25, descriptorIndex := 26, attributes := #[] }] 49 2 #[] #[])
  fields := #[]
  methods := #[k1m0, k1m1, k1m2]
  instanceTypes := #[]
  staticTypes := #[]
  resolved := Array.replicate 36 none
  statics := none }

def pool2 : Array CpInfo := pool [(1, .methodref 2 3), (0, .class_ 4), (0, .nameAndType 5 6), (0, u "java/lang/Object"), (0, u "<init>"), (0, u "()V"), (0, .fieldref 8 9), (0, .class_ 10), (0, .nameAndType 11 12), (0, u "com/example/konnack/konnack/codec/FieldWriter"), (0, u "bytes"), (0, u "[B"), (0, .fieldref 8 14), (0, .nameAndType 15 16), (0, u "position"), (0, u "I"), (6, u "u32"), (0, u "(J)V"), (14, u "()I"), (6, u "([BI)V")] 11

def k2c0 : Code := { maxStack := 2, maxLocals := 3, code := prog_16_method_1_code, exceptionTable := #[], attributes := #[] }
def k2m0 : Method := { name := "<init>", desc := "([BI)V", sig := { parameters := [(.array .byte), .int], returnType := none }, accessFlags := 1, code := some k2c0 }
def k2c1 : Code := { maxStack := 1, maxLocals := 1, code := prog_16_method_2_code, exceptionTable := #[], attributes := #[] }
def k2m1 : Method := { name := "position", desc := "()I", sig := { parameters := [], returnType := some .int }, accessFlags := 1, code := some k2c1 }
def k2c2 : Code := { maxStack := 5, maxLocals := 3, code := prog_16_method_6_code, exceptionTable := #[], attributes := #[] }
def k2m2 : Method := { name := "u32", desc := "(J)V", sig := { parameters := [.long], returnType := none }, accessFlags := 1, code := some k2c2 }
/-- com/example/konnack/konnack/codec/FieldWriter -/
def k2 : Class := { plain "com/example/konnack/konnack/codec/FieldWriter" (some 0) with
  accessFlags := 49
  interfaces := #[]
  cf := some (fileOf pool2 8 #[] #[{ accessFlags := 1, nameIndex := 5, descriptorIndex := 46, attributes := #[] }, { accessFlags := 1, nameIndex := 15, descriptorIndex := 39, attributes := #[] }, { accessFlags := 1, nameIndex := 23, descriptorIndex := 24, attributes := #[] }] 49 2 #[] #[{ accessFlags := 18, nameIndex := 11, descriptorIndex := 12, attributes := #[] }, { accessFlags := 2, nameIndex := 15, descriptorIndex := 16, attributes := #[] }])
  fields := #[{ name := "bytes", type := (.array .byte), accessFlags := 18, slot := 0, constantValue := 0 }, { name := "position", type := .int, accessFlags := 2, slot := 1, constantValue := 0 }]
  methods := #[k2m0, k2m1, k2m2]
  instanceTypes := #[(.array .byte), .int]
  staticTypes := #[]
  resolved := Array.replicate 58 none
  statics := none }

def pool3 : Array CpInfo := pool [(1, u "java/lang/Cloneable"), (0, .class_ 1), (0, u "java/lang/Object"), (0, .class_ 3)] 3

/-- java/lang/Cloneable -/
def k3 : Class := { plain "java/lang/Cloneable" (some 0) with
  accessFlags := 1537
  interfaces := #[]
  cf := some (fileOf pool3 2 #[] #[] 1537 4 #[] #[])
  fields := #[]
  methods := #[]
  instanceTypes := #[]
  staticTypes := #[]
  resolved := Array.replicate 8 none
  statics := none }

def pool4 : Array CpInfo := pool [(1, u "java/io/Serializable"), (0, .class_ 1), (0, u "java/lang/Object"), (0, .class_ 3)] 3

/-- java/io/Serializable -/
def k4 : Class := { plain "java/io/Serializable" (some 0) with
  accessFlags := 1537
  interfaces := #[]
  cf := some (fileOf pool4 2 #[] #[] 1537 4 #[] #[])
  fields := #[]
  methods := #[]
  instanceTypes := #[]
  staticTypes := #[]
  resolved := Array.replicate 8 none
  statics := none }

/-- the primitive byte -/
def k5 : Class := { plain "byte" none with kind := .primitive 'B', accessFlags := 0x411 }
/-- [B -/
def k6 : Class := { plain "[B" (some 0) with kind := .array 5 .byte, interfaces := #[3, 4], accessFlags := 1041 }

/-- the primitive int -/
def k7 : Class := { plain "int" none with kind := .primitive 'I', accessFlags := 0x411 }
/-- [I -/
def k8 : Class := { plain "[I" (some 0) with kind := .array 7 .int, interfaces := #[3, 4], accessFlags := 1041 }

def heap : Heap := #[]
def classes : Array Class := #[k0, k1, k2, k3, k4, k5, k6, k7, k8]
def interned : List (Array UInt16 × Addr) := []
def slotsUsed : Nat := 0
def theMethod : MethodId := ⟨1, 1⟩
def args0 : Array Value := #[.long 5, .int 3, .int 7]
def aboutOver (below : List Frame) : State where
  vm := { classes := classes, interned := interned.toArray }
  heap := heap
  slotsUsed := slotsUsed
  threads := #[{ frames := .invoking theMethod args0 :: below }]
def below0 : List Frame := [.native { method := ⟨0, 0⟩, args := #[] }]
def about1 : State := aboutOver below0
def p0 : Program := .bare "" "" ""
def e0 : Env := launch0.env 0 0 0
theorem w_frames : about1.frames = Frame.invoking theMethod args0 :: below0 := rfl
set_option maxRecDepth 65536 in
theorem w_args : argsFit about1.vm theMethod args0 = true := by decide +kernel
set_option maxRecDepth 65536 in
theorem w_heap : heapFits about1 = true := by decide +kernel
set_option maxRecDepth 65536 in
theorem w_runnable : about1.curStatus? = some .runnable := by decide +kernel
set_option maxRecDepth 65536 in
theorem w_alone : about1.alone = true := by decide +kernel
set_option maxRecDepth 65536 in
theorem w_named : about1.methodNamed? x = some theMethod := by decide +kernel
set_option maxRecDepth 65536 in
theorem w_hears : about1.hears theMethod below0 = true := by decide +kernel
set_option maxRecDepth 65536 in
theorem w_ripe : about1.ripe theMethod args0 below0 = true := by decide +kernel
theorem w_running : about1.status = .running := rfl
set_option maxRecDepth 65536 in
theorem w_room : about1.hasRoom e0.platform room_1 = true :=
  launch0.hasRoom_least _ room_1 (by decide +kernel) (by decide +kernel) (by decide +kernel) (by decide +kernel) (by decide +kernel) (by decide +kernel)
theorem allAtoms_all (ts : List Jvm.Cond) (a : Array Jvm.Value) (st : Jvm.State) : (allAtoms ts).before a st = ts.all (fun c => c.before a st) := by
  induction ts with
  | nil => rfl
  | cons c t ih =>
    show (Jvm.Cond.and c (allAtoms t)).before a st = _
    rw [Jvm.Cond.before_and, ih, List.all_cons]
def words1 : List Jvm.Cond := Jvm.Cond.code x code maxLocals ret :: tables_1
/-- a 'code' word, met by the world's own term for the bytes: nothing is compared byte by byte -/
theorem code_word {y : MethodName} {bytes : ByteArray} {mx : Nat} {rt : Option FieldType} {a : Array Value} {s : State} {m : MethodId} {meth : Method} {c : Code} (h1 : s.methodNamed? y = some m) (h2 : s.vm.method? m = some meth) (h3 : meth.code = some c) (h4 : c.code = bytes)
    (h5 : (c.maxLocals == mx && c.exceptionTable.isEmpty && decide (c.maxStack ≤ mostOperands) && decide (meth.sig.returnType = rt) && !meth.locks && decide (parseMethodDescriptor y.desc = some meth.sig)) = true) : (Jvm.Cond.code y bytes mx rt).before a s = true := by
  simp only [Bool.and_eq_true, beq_iff_eq, Bool.not_eq_true', decide_eq_true_eq] at h5
  obtain ⟨⟨⟨⟨⟨g1, g2⟩, g3⟩, g4⟩, g5⟩, g6⟩ := h5
  simp [Cond.before, Cond.holds, Cond.value, h1, h2, h3, h4, g1, g2, g3, g4, g5, g6]
def isCode : Jvm.Cond → Bool
  | .code _ _ _ _ => true
  | _ => false
theorem all_split {L : List Jvm.Cond} {P : Jvm.Cond → Bool} (h1 : L.all (fun c => isCode c || P c) = true) (h2 : ∀ c ∈ L.filter isCode, P c = true) : L.all P = true := by
  refine List.all_eq_true.mpr fun c hc => ?_
  have h := List.all_eq_true.mp h1 c hc
  rcases Bool.eq_false_or_eq_true (isCode c) with hi | hi
  · exact h2 c (List.mem_filter.mpr ⟨hc, hi⟩)
  · simpa [hi] using h
set_option maxRecDepth 65536 in
theorem w_c0 : (Jvm.Cond.code x code maxLocals ret).before args0 about1 = true := code_word (m := ⟨1, 1⟩) (meth := k1m1) (c := k1c1) (by decide +kernel) rfl rfl rfl (by decide +kernel)
set_option maxRecDepth 65536 in
theorem w_c1 : (Jvm.Cond.code ({ cls := "com/example/konnack/konnack/codec/FieldWriter", name := "<init>", desc := "([BI)V" } : Jvm.MethodName) prog_16_method_1_code (3 : Nat) (Option.none : Option Jvm.ClassFile.FieldType)).before args0 about1 = true := code_word (m := ⟨2, 0⟩) (meth := k2m0) (c := k2c0) (by decide +kernel) rfl rfl rfl (by decide +kernel)
set_option maxRecDepth 65536 in
theorem w_c2 : (Jvm.Cond.code ({ cls := "java/lang/Object", name := "<init>", desc := "()V" } : Jvm.MethodName) object_method_1_code (1 : Nat) (Option.none : Option Jvm.ClassFile.FieldType)).before args0 about1 = true := code_word (m := ⟨0, 0⟩) (meth := k0m0) (c := k0c0) (by decide +kernel) rfl rfl rfl (by decide +kernel)
set_option maxRecDepth 65536 in
theorem w_c3 : (Jvm.Cond.code ({ cls := "com/example/konnack/konnack/codec/FieldWriter", name := "u32", desc := "(J)V" } : Jvm.MethodName) prog_16_method_6_code (3 : Nat) (Option.none : Option Jvm.ClassFile.FieldType)).before args0 about1 = true := code_word (m := ⟨2, 2⟩) (meth := k2m2) (c := k2c2) (by decide +kernel) rfl rfl rfl (by decide +kernel)
set_option maxRecDepth 65536 in
theorem w_c4 : (Jvm.Cond.code ({ cls := "com/example/konnack/konnack/codec/FieldWriter", name := "position", desc := "()I" } : Jvm.MethodName) prog_16_method_2_code (1 : Nat) (Option.some Jvm.ClassFile.FieldType.int)).before args0 about1 = true := code_word (m := ⟨2, 1⟩) (meth := k2m1) (c := k2c1) (by decide +kernel) rfl rfl rfl (by decide +kernel)
set_option maxRecDepth 65536 in
theorem w_c5 : (Jvm.Cond.code ({ cls := "com/example/konnack/konnack/codec/FieldWriterU32PinLaw", name := "untouched", desc := "([BIBI)Z" } : Jvm.MethodName) method_3_code (4 : Nat) (Option.some Jvm.ClassFile.FieldType.boolean)).before args0 about1 = true := code_word (m := ⟨1, 2⟩) (meth := k1m2) (c := k1c2) (by decide +kernel) rfl rfl rfl (by decide +kernel)
def codes1 : List Jvm.Cond := [Jvm.Cond.code x code maxLocals ret, Jvm.Cond.code ({ cls := "com/example/konnack/konnack/codec/FieldWriter", name := "<init>", desc := "([BI)V" } : Jvm.MethodName) prog_16_method_1_code (3 : Nat) (Option.none : Option Jvm.ClassFile.FieldType), Jvm.Cond.code ({ cls := "java/lang/Object", name := "<init>", desc := "()V" } : Jvm.MethodName) object_method_1_code (1 : Nat) (Option.none : Option Jvm.ClassFile.FieldType), Jvm.Cond.code ({ cls := "com/example/konnack/konnack/codec/FieldWriter", name := "u32", desc := "(J)V" } : Jvm.MethodName) prog_16_method_6_code (3 : Nat) (Option.none : Option Jvm.ClassFile.FieldType), Jvm.Cond.code ({ cls := "com/example/konnack/konnack/codec/FieldWriter", name := "position", desc := "()I" } : Jvm.MethodName) prog_16_method_2_code (1 : Nat) (Option.some Jvm.ClassFile.FieldType.int), Jvm.Cond.code ({ cls := "com/example/konnack/konnack/codec/FieldWriterU32PinLaw", name := "untouched", desc := "([BIBI)Z" } : Jvm.MethodName) method_3_code (4 : Nat) (Option.some Jvm.ClassFile.FieldType.boolean)]
set_option maxRecDepth 65536 in
theorem codes_eq : words1.filter isCode = codes1 := rfl
theorem w_codes : ∀ c ∈ words1.filter isCode, c.before args0 about1 = true := by
  rw [codes_eq]
  intro c hc
  simp only [codes1, List.mem_cons, List.not_mem_nil, or_false] at hc
  rcases hc with rfl | rfl | rfl | rfl | rfl | rfl
  · exact w_c0
  · exact w_c1
  · exact w_c2
  · exact w_c3
  · exact w_c4
  · exact w_c5
set_option maxRecDepth 65536 in
theorem w_t1 : (words1.take 24).all (fun c => isCode c || c.before args0 about1) = true := by decide +kernel
set_option maxRecDepth 65536 in
theorem w_t2 : (words1.drop 24).all (fun c => isCode c || c.before args0 about1) = true := by decide +kernel
theorem w_tables : (allAtoms (Jvm.Cond.code x code maxLocals ret :: tables_1)).before args0 about1 = true := by
  rw [allAtoms_all]
  show words1.all (fun c => c.before args0 about1) = true
  refine all_split ?_ w_codes
  rw [← List.take_append_drop 24 words1, List.all_append, w_t1, w_t2]
  rfl
set_option maxRecDepth 65536 in
theorem w_case : (Jvm.Cond.and given_1 narrow_1).before args0 about1 = true := by decide +kernel
theorem w_applies : (headSpec (Jvm.Cond.code x code maxLocals ret :: tables_1) room_1).applies x e0.platform about1 = true :=
  (Spec.applies_iff w_frames).mpr ⟨w_running, w_runnable, w_alone, w_named, w_hears, w_ripe, w_room, w_tables⟩
theorem atStart : AtStart classFile x code maxLocals ret World_1 tables_1 room_1 Calls_1 rest_1 Pre_1 launch0 p0 e0 about1 theMethod args0 below0 :=
  ⟨lists_1, trivial, launch0.admits_env _ _ _, launch0.least_env, fairChoices_fair.cas, fairChoices_fair.clock, w_frames, w_args, w_heap, w_applies, trivial, trivial, w_case⟩
end start1
theorem witness_1 : WitnessClaimed_1 := ⟨start1.p0, start1.e0, start1.about1, start1.theMethod, start1.args0, start1.below0, start1.atStart⟩
end Jvm.Pilot.@@N@@
