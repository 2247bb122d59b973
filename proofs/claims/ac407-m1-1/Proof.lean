import JvmDerived
import JvmDerived.Pilot.@@N@@Statement
import JvmDerived.Pilot.@@N@@Code
set_option linter.unusedVariables false
set_option linter.unusedSimpArgs false
namespace Jvm.RoadKit
open Sem ClassFile Op Lib Jvm.Stand Jvm.Free Jvm.LawKit
section New
variable {p : Program} {l : Launch} {e : Env} {R : Room} {s : State} {m : MethodId} {args : Array Value} {below : List Frame} {meth : Method} {c : Code} {T : State} {locs : List Loc} {cells slots : Nat}
theorem retI (X : Stand p l e R s m args below meth c T locs cells slots) (hx : p.tables.exec = Jvm.exec) {pc : Nat} {Ls : Array Slot} {z : Int32} {rest : List Value} (hret : meth.sig.returnType = some .int) (hd : decode c.code pc = .ok (.ireturn, 1)) {fs : List Frame}
    (hl : ∀ (f : JFrame) (acts : List Action), f.method = m → f.locked = none → f.entered = [] → (doReturn e (T.setTop f) acts (some (.int z))).1 = T.setFrames fs) : Steps p.tables e below (T.setTop (mkF m pc Ls (.int z :: rest))) (T.setFrames fs) := by
  have hm' : T.vm.method? m = some meth := X.method'
  have hn : narrow .int (.int z) = .int z := rfl
  show Steps p.tables e below (T.setTop { method := m, pc := pc, locals := Ls, stack := _ :: rest, locked := none }) _
  jvm_step X.here [X.here.top, hx, hd, hm', hret, hn]
  first | (intro acts; rw [hl _ acts rfl rfl rfl]) | rw [hl _ _ rfl rfl rfl]
  exact Steps.refl _
end New
end Jvm.RoadKit
namespace Jvm.Pilot.@@N@@
open Jvm Jvm.ClassFile Sem Op Lib Jvm.Free Jvm.Stand Jvm.LawKit Jvm.RoadKit Bundle Jvm.Pilot.@@N@@.Jvm.D

/-! byte arrays by a function of the place -/
def own_upd (f : Nat → Int32) (k : Nat) (v : Int32) : Nat → Int32 := fun j => if j = k then v else f j
def BA (Z : State) (h : Heap) (a : Addr) (n : Nat) (f : Nat → Int32) : Prop := ∃ c : Cell, Arr Z h a c .byte ∧ c.slots.size = n ∧ n < 2147483648 ∧ (∀ j, j < n → c.slots[j]? = some (.int (f j))) ∧ ∀ j, j < n → fits .byte (.int (f j)) = true
theorem BA.ext {Z : State} {h h' : Heap} {a : Addr} {n : Nat} {f : Nat → Int32} (B : BA Z h a n f) (E : Ext h h') : BA Z h' a n f := by obtain ⟨c, A, r⟩ := B; exact ⟨c, A.ext E, r⟩
theorem BA.other {Z : State} {h h' : Heap} {a b : Addr} {n sl : Nat} {v : Value} {f : Nat → Int32} (B : BA Z h b n f) (W : Wr h h' a sl v) (q : b ≠ a) : BA Z h' b n f := by obtain ⟨c, A, r⟩ := B; exact ⟨c, A.other W q, r⟩
theorem BA.keep {Z : State} {h h' : Heap} {a : Addr} {n : Nat} {ws : List Addr} {f : Nat → Int32} (B : BA Z h a n f) (K : Keep h h' ws) (q : a ∉ ws) : BA Z h' a n f := by obtain ⟨c, A, r⟩ := B; exact ⟨c, ⟨K.2.1 a c A.1 q, A.2⟩, r⟩
theorem BA.lt {Z : State} {h : Heap} {a : Addr} {n : Nat} {f : Nat → Int32} (B : BA Z h a n f) : a < h.size := by obtain ⟨c, A, r⟩ := B; exact A.lt
theorem BA.congr {Z : State} {h : Heap} {a : Addr} {n : Nat} {f g : Nat → Int32} (B : BA Z h a n f) (q : ∀ j, j < n → f j = g j) : BA Z h a n g := by
  obtain ⟨c, A, S, M, H, G⟩ := B
  exact ⟨c, A, S, M, fun j hj => by rw [← q j hj]; exact H j hj, fun j hj => by rw [← q j hj]; exact G j hj⟩
theorem BA.fits {Z : State} {h : Heap} {a : Addr} {n : Nat} {f : Nat → Int32} (B : BA Z h a n f) {j : Nat} (hj : j < n) : fits .byte (.int (f j)) = true := by
  obtain ⟨c, A, S, M, H, G⟩ := B
  exact G j hj
theorem BA.new {Z : State} {h : Heap} {a : Addr} {k : ClassId} {z : Int32} {n : Nat} (A : Arr Z h a (newA k .byte z) .byte) (hz : z.toInt = (n : Int)) : BA Z h a n (fun _ => 0) := by
  have e : z.toNatClampNeg = n := by show z.toInt.toNat = n; omega
  have hr := rng32 z
  refine ⟨_, A, by rw [sz_new, e], by omega, fun j hj => ?_, fun j hj => (by decide : Jvm.fits .byte (.int (0 : Int32)) = true)⟩
  show (Array.replicate z.toNatClampNeg (defaultValue .byte))[j]? = _
  rw [e, Array.getElem?_replicate, if_pos hj]; rfl
theorem own_in {z : Int32} {k n sz : Nat} (hj : z.toInt = (k : Int)) (hk : k < n) (S : sz = n) : z.toNatClampNeg = k ∧ ¬ (z < 0 ∨ sz ≤ z.toNatClampNeg) := by
  have e1 : z.toNatClampNeg = k := by show z.toInt.toNat = k; omega
  refine ⟨e1, ?_⟩
  rw [e1, S, Int32.lt_iff_toInt_lt]
  have e0 : (0 : Int32).toInt = 0 := by decide
  omega
section Own
variable {p : Program} {l : Launch} {e : Env} {R : Room} {s : State} {m : MethodId} {args : Array Value} {below : List Frame} {meth : Method} {c : Code} {T : State} {locs : List Loc} {cells slots : Nat} {Z : State} {h : Heap} {a : Addr} {n : Nat} {f : Nat → Int32}
theorem own_bload (X : Stand p l e R s m args below meth c T locs cells slots) (hx : p.tables.exec = Jvm.exec) (hZ : Z.Warmed39 s.vm) (eT : T.heap = h) (B : BA Z h a n f) {j : Int32} {k : Nat} (hj : j.toInt = (k : Int)) (hk : k < n) {g : JFrame} (hg : g.method = m) {rest : List Value} (hs : g.stack = .int j :: .ref a :: rest) (hd : decode c.code g.pc = .ok (.baload, 1)) (target : State)
    (hrest : Steps p.tables e below (T.setTop { g with pc := g.pc + 1, stack := .int (f k) :: rest }) target) : Steps p.tables e below (T.setTop g) target := by
  obtain ⟨cl, A, S, -, H, -⟩ := B
  obtain ⟨e1, e2⟩ := own_in hj hk S
  exact X.baloadBytes hx (j := j) (v := .int (f k)) (by rw [eT]; exact A.1) (State.isArrayOf_alike hZ.alike A.2.1) A.2.2 e2 (by rw [e1]; exact H k hk) hg hs hd target hrest
theorem own_blen (X : Stand p l e R s m args below meth c T locs cells slots) (hx : p.tables.exec = Jvm.exec) (hZ : Z.Warmed39 s.vm) (eT : T.heap = h) (B : BA Z h a n f) {g : JFrame} (hg : g.method = m) {rest : List Value} (hs : g.stack = .ref a :: rest) (hd : decode c.code g.pc = .ok (.arraylength, 1)) (target : State)
    (hrest : Steps p.tables e below (T.setTop { g with pc := g.pc + 1, stack := .int (Int32.ofNat n) :: rest }) target) : Steps p.tables e below (T.setTop g) target := by
  obtain ⟨cl, A, S, -, H, -⟩ := B
  refine X.arraylength hx (by rw [eT]; exact A.1) (State.isArrayOf_alike hZ.alike A.2.1) hg hs hd target ?_
  rw [S]; exact hrest
theorem own_bstore (X : Stand p l e R s m args below meth c T locs cells slots) (hx : p.tables.exec = Jvm.exec) (hZ : Z.Warmed39 s.vm) (eT : T.heap = h) (B : BA Z h a n f) {j x v : Int32} {k : Nat} (hj : j.toInt = (k : Int)) (hk : k < n) (hv : x.toInt8.toInt32 = v) {g : JFrame} (hg : g.method = m) {rest : List Value} (hs : g.stack = .int x :: .int j :: .ref a :: rest) (hd : decode c.code g.pc = .ok (.bastore, 1)) :
    ∃ T' h', Stand p l e R s m args below meth c T' (locs ++ [⟨a, k⟩]) cells slots ∧ T'.heap = h' ∧ BA Z h' a n (own_upd f k v) ∧ Wr h h' a k (.int v) ∧ ∀ target, Steps p.tables e below (T'.setTop { g with pc := g.pc + 1, stack := rest }) target → Steps p.tables e below (T.setTop g) target := by
  obtain ⟨cl, A, S, M, H, G⟩ := B
  obtain ⟨e1, e2⟩ := own_in hj hk S
  obtain ⟨T', h', X', e', W, st⟩ := stB X hx hZ eT A (j := j) e2 hg hs hd
  have hn : nar .byte x = v := hv
  rw [e1] at X'
  rw [e1, hn] at W
  refine ⟨T', h', X', e', ⟨_, A.same W, by rw [sz_set, S], M, fun i hi => ?_, fun i hi => ?_⟩, W, st⟩
  · show (cl.slots.setIfInBounds k (.int v))[i]? = _
    rw [Array.getElem?_setIfInBounds]
    unfold own_upd
    by_cases q : k = i
    · subst q; rw [if_pos rfl, if_pos (by rw [S]; exact hk), if_pos rfl]
    · rw [if_neg q, if_neg (fun z => q z.symm)]; exact H i hi
  · unfold own_upd
    by_cases q : i = k
    · rw [if_pos q, ← hv]; exact fits_nar_byte x
    · rw [if_neg q]; exact G i hi
theorem own_bnew (X : Stand p l e R s m args below meth c T locs cells slots) (hx : p.tables.exec = Jvm.exec) (hZ : Z.Warmed39 s.vm) {a0 : Array Value} (w : (Cond.arrayClass .byte).before a0 Z = true) (eT : T.heap = h) {g : JFrame} (hg : g.method = m) (hd : decode c.code g.pc = .ok (.newarray .byte, 2)) {z : Int32} {rest : List Value} (hs : g.stack = .int z :: rest)
    (hz : z.toInt = (n : Int)) (hb : n * 8 ≤ 536870912) (hc : cells + 1 ≤ R.cells) (hl : slots + n ≤ R.slots) :
    ∃ T' h', Stand p l e R s m args below meth c T' locs (cells + 1) (slots + n) ∧ T'.heap = h' ∧ Ext h h' ∧ BA Z h' h.size n (fun _ => 0) ∧ Exa Z h' h.size "[B" ∧
      ∀ target, Steps p.tables e below (T'.setTop { g with pc := g.pc + 2, stack := .ref h.size :: rest }) target → Steps p.tables e below (T.setTop g) target := by
  have e1 : z.toNatClampNeg = n := by show z.toInt.toNat = n; omega
  have e0 : (0 : Int32).toInt = 0 := by decide
  obtain ⟨T', h', cA, X', e', E, A, Ex, st⟩ := newPE X hx hZ (aty := .byte) w eT hg hd hs (by rw [Int32.lt_iff_toInt_lt]; omega) (cap := n) (by omega) hb hc hl (ad := "[B") (by decide)
  exact ⟨T', h', X', e', E, BA.new A hz, Ex, st⟩
end Own
theorem own_b8 (x : Int32) : x.toInt8.toInt32.toInt8.toInt32 = x.toInt8.toInt32 := by simp

theorem own_at (f : Nat → Int32) (k : Nat) (v : Int32) : own_upd f k v k = v := if_pos rfl
theorem own_ne {f : Nat → Int32} {j k : Nat} {v w : Int32} (h : j ≠ k) (r : f j = w) : own_upd f k v j = w := (if_neg h).trans r
theorem own_inc {x y : Int32} (h : y = x.toInt8.toInt32) : (y + (1 : Int32)).toInt8.toInt32 = (x + (1 : Int32)).toInt8.toInt32 := by
  subst h
  have h1 := c_i2b (x.toInt8.toInt32 + 1)
  have h2 := c_i2b (x + 1)
  have h3 := c_iadd x.toInt8.toInt32 1
  have h4 := c_iadd x 1
  have h5 := c_i2b x
  refine Int32.toInt_inj.mp ?_
  omega
theorem own_len (x : Int32) : ((1 : Int32) + (x &&& (3 : Int32))) = (1 : Int32) ∨ ((1 : Int32) + (x &&& (3 : Int32))) = (2 : Int32) ∨ ((1 : Int32) + (x &&& (3 : Int32))) = (3 : Int32) ∨ ((1 : Int32) + (x &&& (3 : Int32))) = (4 : Int32) := by
  have h := c_and x 3 (by decide)
  have e3 : (3 : Int32).toInt = 3 := by decide
  obtain ⟨q, hq⟩ : ∃ q, (x &&& (3 : Int32)) = q := ⟨_, rfl⟩
  rw [hq] at h ⊢
  have h4 : q = Int32.ofInt q.toInt := (Int32.ofInt_toInt q).symm
  obtain ⟨z, hz⟩ : ∃ z, q.toInt = z := ⟨_, rfl⟩
  rw [hz] at h h4
  have h5 : z = 0 ∨ z = 1 ∨ z = 2 ∨ z = 3 := by omega
  rcases h5 with rfl | rfl | rfl | rfl
  · left; rw [h4]; decide
  · right; left; rw [h4]; decide
  · right; right; left; rw [h4]; decide
  · right; right; right; rw [h4]; decide
section Own2
variable {p : Program} {l : Launch} {e : Env} {R : Room} {s : State} {m : MethodId} {args : Array Value} {below : List Frame} {meth : Method} {c : Code} {T : State} {locs : List Loc} {cells slots : Nat} {Z : State} {h : Heap} {a : Addr} {n : Nat} {f : Nat → Int32}
theorem own_bclone (X : Stand p l e R s m args below meth c T locs cells slots) (hx : p.tables.exec = Jvm.exec) (hZ : Z.Warmed39 s.vm) {a0 : Array Value} {own : String} {index : Nat} (hown : s.vm.findClass own = some m.cls)
    (w1 : (Cond.methodLink own index ⟨"[B", "clone", "()Ljava/lang/Object;"⟩).before a0 Z = true) (w2 : (Cond.sameMethod "[B" "java/lang/Object" "clone" "()Ljava/lang/Object;").before a0 Z = true) (w3 : (Cond.native ⟨"java/lang/Object", "clone", "()Ljava/lang/Object;"⟩).before a0 Z = true)
    (w4 : (Cond.instanceMethod ⟨"java/lang/Object", "clone", "()Ljava/lang/Object;"⟩).before a0 Z = true) (w5 : (Cond.selects "[B" ⟨"[B", "clone", "()Ljava/lang/Object;"⟩ ⟨"java/lang/Object", "clone", "()Ljava/lang/Object;"⟩).before a0 Z = true) (w6 : (Cond.castable "[B" "java/lang/Cloneable").before a0 Z = true)
    (eT : T.heap = h) (B : BA Z h a n f) (E : Exa Z h a "[B") {g : JFrame} (hg : g.method = m) (hsize : g.locals.size = c.maxLocals) {rest : List Value} (hs : g.stack = .ref a :: rest) (hd : decode c.code g.pc = .ok (.invokevirtual index, 3))
    (hf : 1 ≤ R.frames) {W : Nat} (hW : 2 * g.monitorRoom + (rest.map fun v => v.category).sum ≤ W) (hl : W + 14 ≤ R.locals) (hc : cells + 1 ≤ R.cells) (hsl : slots + n ≤ R.slots) :
    ∃ T' h', Stand p l e R s m args below meth c T' locs (cells + 1) (slots + n) ∧ T'.heap = h' ∧ Ext h h' ∧ BA Z h' h.size n f ∧ Exa Z h' h.size "[B" ∧
      ∀ target, Steps p.tables e below (T'.setTop { g with pc := g.pc + 3, stack := .ref h.size :: rest }) target → Steps p.tables e below (T.setTop g) target := by
  obtain ⟨cl, A, S, M, H, G⟩ := B
  have FC : FitC Z cl := fitC_of A fun i hi v hv => by rw [H i (by omega)] at hv; cases hv; exact G i (by omega)
  obtain ⟨T', h', X', e', ex, A', E', st⟩ := cloneA X hx hZ hown w1 w2 w3 w4 w5 w6 eT A E FC hg hsize hs hd hf hW hl (cap := n) (by omega) hc hsl
  exact ⟨T', h', X', e', ex, ⟨cloneOf cl, A', S, M, H, G⟩, E', st⟩
end Own2
theorem d1_0 : decode prog_58_method_8_code 0 = .ok (.aload_n 0, 1) := by decide +kernel
theorem d1_1 : decode prog_58_method_8_code 1 = .ok (.invokevirtual 40, 3) := by decide +kernel
theorem d1_4 : decode prog_58_method_8_code 4 = .ok (.checkcast 41, 3) := by decide +kernel
theorem d1_7 : decode prog_58_method_8_code 7 = .ok (.astore_n 1, 1) := by decide +kernel
theorem d1_8 : decode prog_58_method_8_code 8 = .ok (.aload_n 1, 1) := by decide +kernel
theorem d1_9 : decode prog_58_method_8_code 9 = .ok (.aload_n 1, 1) := by decide +kernel
theorem d1_10 : decode prog_58_method_8_code 10 = .ok (.arraylength, 1) := by decide +kernel
theorem d1_11 : decode prog_58_method_8_code 11 = .ok (.iconst 1, 1) := by decide +kernel
theorem d1_12 : decode prog_58_method_8_code 12 = .ok (.isub, 1) := by decide +kernel
theorem d1_13 : decode prog_58_method_8_code 13 = .ok (.dup2, 1) := by decide +kernel
theorem d1_14 : decode prog_58_method_8_code 14 = .ok (.baload, 1) := by decide +kernel
theorem d1_15 : decode prog_58_method_8_code 15 = .ok (.iconst 1, 1) := by decide +kernel
theorem d1_16 : decode prog_58_method_8_code 16 = .ok (.iadd, 1) := by decide +kernel
theorem d1_17 : decode prog_58_method_8_code 17 = .ok (.i2b, 1) := by decide +kernel
theorem d1_18 : decode prog_58_method_8_code 18 = .ok (.bastore, 1) := by decide +kernel
theorem d1_19 : decode prog_58_method_8_code 19 = .ok (.aload_n 1, 1) := by decide +kernel
theorem d1_20 : decode prog_58_method_8_code 20 = .ok (.areturn, 1) := by decide +kernel
theorem pn_1 : plainName "com/example/treecreeper/treecreeper/store/RecordCodec" = true := by first | (simp [plainName, overriddenIn]; done) | decide +kernel
theorem ef_1 (m : MethodId) (x0 : Addr) : entryFrame m #[(.ref x0)] 2 = mkF m 0 #[.val (.ref x0), .unset] [] := by first | (simp [entryFrame, mkF, argsToLocals, Value.category]; done) | rfl
def Q1_1 (Z : State) (a1 : Addr) (b : Addr) (f : Nat → Int32) (h0 : Heap) (n0 : Nat) (v : Option Value) (h : Heap) (L : List Loc) : Prop := v = some (.ref b) ∧ Fr n0 L ∧ Keep h0 h [] ∧ BA Z h b 1 (own_upd f 0 (((f 0) + (1 : Int32)).toInt8.toInt32))
set_option maxRecDepth 65536 in
set_option maxHeartbeats 40000000 in
theorem rm1_1 (l : Launch) (Z : State) (a0 : Array Value) (hw : ∀ d ∈ tables_1, d.before a0 Z = true) (ws : List Jvm.Cond) (a1 : Addr) (b : Addr) (f : Nat → Int32) (h0 : Heap) (n0 : Nat) (Z0 : n0 ≤ h0.size) (hb0 : b = h0.size) (B0 : BA Z h0 a1 1 f) (E0 : Exa Z h0 a1 "[B") :
    MetFree l (⟨"com/example/treecreeper/treecreeper/store/RecordCodec", "pastStart", "([B)[B"⟩ : MethodName) (head1 (Jvm.Cond.code (⟨"com/example/treecreeper/treecreeper/store/RecordCodec", "pastStart", "([B)[B"⟩ : MethodName) prog_58_method_8_code 2 (some (.array .byte)) :: ws) ({ frames := 1, cells := 1, slots := 1, locals := 14 } : Room)) (fun a U => a = #[(.ref a1)] ∧ Z.Warmed39 U.vm ∧ U.heap = h0) (fun _ _ _ _ _ => True) (fun _ U ou U' => ∃ v L, ou = .returned v ∧ Q1_1 Z a1 b f h0 n0 v U'.heap L ∧ FrameEnd U ou U' L ({ frames := 1, cells := 1, slots := 1, locals := 14 } : Room).cells ({ frames := 1, cells := 1, slots := 1, locals := 14 } : Room).slots) := by
  refine MetFree.of_bodySF (plainFor_of_name pn_1) hisR ?_
  intro p e s m args below meth c s₁ Bd hml0 hP hK
  obtain ⟨rfl, hZ, hh⟩ := hP
  have hx := Bd.exec
  have hby := Bd.bytes
  have hml : c.maxLocals = 2 := hml0
  have hown : s.vm.findClass "com/example/treecreeper/treecreeper/store/RecordCodec" = some m.cls := findClass_of_methodNamed Bd.named
  have hnm := (name_of_methodNamed Bd.named Bd.method).1
  have X0 : Stand p l e ({ frames := 1, cells := 1, slots := 1, locals := 14 } : Room) s m #[(.ref a1)] below meth c s₁ [] 0 0 := Stand.of_body Bd
  have e0 : s₁.heap = h0 := by rw [← hh, Bd.state]; rfl
  have N0 := Fr.nil n0
  have pre0 : ∀ t, Steps p.tables e below (s₁.setTop (mkF m 0 #[.val (.ref a1), .unset] [])) t → Steps p.tables e below (s₁.setTop (entryFrame m #[(.ref a1)] 2)) t := fun t k => castTop (ef_1 m (a1)) k
  have prek1_1 : ∀ t, Steps p.tables e below (s₁.setTop (mkF m 1 #[.val (.ref a1), .unset] [(.ref a1)])) t → Steps p.tables e below (s₁.setTop (entryFrame m #[(.ref a1)] 2)) t := fun t kt => pre0 t (by
    show Steps p.tables e below (s₁.setTop (mkF m 0 #[.val (.ref a1), .unset] [])) _
    refine XS.aloadN X0.here hx rfl (hb hby d1_0) rfl rfl ?_
    exact kt)
  obtain ⟨T2, h2, X2, e2, E2, B2, A2, st2⟩ := own_bclone X0 hx hZ hown (hw _ (List.mem_of_getElem? (i := 5) rfl)) (hw _ (List.mem_of_getElem? (i := 6) rfl)) (hw _ (List.mem_of_getElem? (i := 10) rfl)) (hw _ (List.mem_of_getElem? (i := 8) rfl)) (hw _ (List.mem_of_getElem? (i := 9) rfl)) (hw _ (List.mem_of_getElem? (i := 11) rfl)) e0 B0 E0 (g := (mkF m 1 #[.val (.ref a1), .unset] [(.ref a1)])) rfl (by rw [hml]; rfl) rfl (hb hby d1_1) (by decide) (W := 0) (by show 2 * 0 + _ ≤ _; exact Nat.le_of_eq rfl) (by decide) (by decide) (by decide)
  rw [← hb0] at B2 A2 st2
  have prek1_2 : ∀ t, Steps p.tables e below (T2.setTop (mkF m 4 #[.val (.ref a1), .unset] [(.ref b)])) t → Steps p.tables e below (s₁.setTop (entryFrame m #[(.ref a1)] 2)) t := fun t kt => prek1_1 t (st2 t kt)
  obtain ⟨T3, X3, e3, st3⟩ := castY X2 hx hZ hown (hw _ (List.mem_of_getElem? (i := 12) rfl)) e2 (Ins.self A2) (g := (mkF m 4 #[.val (.ref a1), .unset] [(.ref b)])) rfl rfl (hb hby d1_4)
  have prek1_3 : ∀ t, Steps p.tables e below (T3.setTop (mkF m 7 #[.val (.ref a1), .unset] [(.ref b)])) t → Steps p.tables e below (s₁.setTop (entryFrame m #[(.ref a1)] 2)) t := fun t kt => prek1_2 t (st3 t kt)
  have prek1_4 : ∀ t, Steps p.tables e below (T3.setTop (mkF m 18 #[.val (.ref a1), .val (.ref b)] [(.int (((f 0) + (1 : Int32)).toInt8.toInt32)), (.int ((Int32.ofNat 1) - (1 : Int32))), (.ref b)])) t → Steps p.tables e below (s₁.setTop (entryFrame m #[(.ref a1)] 2)) t := fun t kt => prek1_3 t (by
    show Steps p.tables e below (T3.setTop (mkF m 7 #[.val (.ref a1), .unset] [(.ref b)])) _
    refine XS.astoreN X3.here hx rfl (hb hby d1_7) rfl rfl (l' := #[.val (.ref a1), .val (.ref b)]) rfl ?_
    show Steps p.tables e below (T3.setTop (mkF m 8 #[.val (.ref a1), .val (.ref b)] [])) _
    refine XS.aloadN X3.here hx rfl (hb hby d1_8) rfl rfl ?_
    show Steps p.tables e below (T3.setTop (mkF m 9 #[.val (.ref a1), .val (.ref b)] [(.ref b)])) _
    refine XS.aloadN X3.here hx rfl (hb hby d1_9) rfl rfl ?_
    show Steps p.tables e below (T3.setTop (mkF m 10 #[.val (.ref a1), .val (.ref b)] [(.ref b), (.ref b)])) _
    refine own_blen X3 hx hZ e3 B2 (g := (mkF m 10 #[.val (.ref a1), .val (.ref b)] [(.ref b), (.ref b)])) rfl rfl (hb hby d1_10) _ ?_
    show Steps p.tables e below (T3.setTop (mkF m 11 #[.val (.ref a1), .val (.ref b)] [(.int (Int32.ofNat 1)), (.ref b)])) _
    refine XS.iconst X3.here hx rfl (hb hby d1_11) ?_
    show Steps p.tables e below (T3.setTop (mkF m 12 #[.val (.ref a1), .val (.ref b)] [(.int (1 : Int32)), (.int (Int32.ofNat 1)), (.ref b)])) _
    refine XS.isub X3.here hx rfl (hb hby d1_12) rfl ?_
    show Steps p.tables e below (T3.setTop (mkF m 13 #[.val (.ref a1), .val (.ref b)] [(.int ((Int32.ofNat 1) - (1 : Int32))), (.ref b)])) _
    refine XT.dup2 X3.here hx rfl (hb hby d1_13) rfl rfl rfl ?_
    show Steps p.tables e below (T3.setTop (mkF m 14 #[.val (.ref a1), .val (.ref b)] [(.int ((Int32.ofNat 1) - (1 : Int32))), (.ref b), (.int ((Int32.ofNat 1) - (1 : Int32))), (.ref b)])) _
    refine own_bload X3 hx hZ e3 B2 (k := 0) (by decide) (by decide) (g := (mkF m 14 #[.val (.ref a1), .val (.ref b)] [(.int ((Int32.ofNat 1) - (1 : Int32))), (.ref b), (.int ((Int32.ofNat 1) - (1 : Int32))), (.ref b)])) rfl rfl (hb hby d1_14) _ ?_
    show Steps p.tables e below (T3.setTop (mkF m 15 #[.val (.ref a1), .val (.ref b)] [(.int (f 0)), (.int ((Int32.ofNat 1) - (1 : Int32))), (.ref b)])) _
    refine XS.iconst X3.here hx rfl (hb hby d1_15) ?_
    show Steps p.tables e below (T3.setTop (mkF m 16 #[.val (.ref a1), .val (.ref b)] [(.int (1 : Int32)), (.int (f 0)), (.int ((Int32.ofNat 1) - (1 : Int32))), (.ref b)])) _
    refine XS.iadd X3.here hx rfl (hb hby d1_16) rfl ?_
    show Steps p.tables e below (T3.setTop (mkF m 17 #[.val (.ref a1), .val (.ref b)] [(.int ((f 0) + (1 : Int32))), (.int ((Int32.ofNat 1) - (1 : Int32))), (.ref b)])) _
    refine XS.i2b X3.here hx rfl (hb hby d1_17) rfl ?_
    exact kt)
  obtain ⟨Tk1_5, hk1_5, Xk1_5, ek1_5, Bk1_5, Wk1_5, stk1_5⟩ := own_bstore X3 hx hZ e3 B2 (j := ((Int32.ofNat 1) - (1 : Int32))) (x := (((f 0) + (1 : Int32)).toInt8.toInt32)) (v := (((f 0) + (1 : Int32)).toInt8.toInt32)) (k := 0) (by decide) (by decide) (own_b8 _) (g := (mkF m 18 #[.val (.ref a1), .val (.ref b)] [(.int (((f 0) + (1 : Int32)).toInt8.toInt32)), (.int ((Int32.ofNat 1) - (1 : Int32))), (.ref b)])) rfl rfl (hb hby d1_18)
  have Nk1_5 := Fr.snoc Xk1_5 N0 (Nat.le_trans Z0 (Nat.le_of_eq hb0.symm))
  have prek1_6 : ∀ t, Steps p.tables e below (Tk1_5.setTop (mkF m 19 #[.val (.ref a1), .val (.ref b)] [])) t → Steps p.tables e below (s₁.setTop (entryFrame m #[(.ref a1)] 2)) t := fun t kt => prek1_4 t (stk1_5 t kt)
  have Kk1_5 : Keep h0 hk1_5 [] := ((Keep.refl h0 []).ext E2).wr Wk1_5 (Or.inr (Nat.le_of_eq hb0.symm))
  have prek1_7 : ∀ t, Steps p.tables e below (Tk1_5.setTop (mkF m 20 #[.val (.ref a1), .val (.ref b)] [(.ref b)])) t → Steps p.tables e below (s₁.setTop (entryFrame m #[(.ref a1)] 2)) t := fun t kt => prek1_6 t (by
    show Steps p.tables e below (Tk1_5.setTop (mkF m 19 #[.val (.ref a1), .val (.ref b)] [])) _
    refine XS.aloadN Xk1_5.here hx rfl (hb hby d1_19) rfl rfl ?_
    exact kt)
  obtain ⟨fs, hr, hrun, hended, hW, hsame⟩ := Xk1_5.leave (v := some (.ref b)) (fun h => by rw [Bd.returns] at h; cases h)
  refine ⟨_, _, prek1_7 _ ?_, hrun, hended, _, _, rfl, ?_, ⟨_, rfl⟩, hW, hsame.mono (by decide) (by decide)⟩
  · show Steps p.tables e below (Tk1_5.setTop (mkF m 20 #[.val (.ref a1), .val (.ref b)] [(.ref b)])) _
    jvm_step Xk1_5.here [Xk1_5.here.top, hx, (hb hby d1_20), Xk1_5.method', Bd.returns, Value.isRef, FieldType.isReference]
    first | (intro acts; rw [hr _ acts rfl rfl rfl]) | rw [hr _ _ rfl rfl rfl]
    exact Steps.refl _
  · show Q1_1 Z a1 b f h0 n0 _ Tk1_5.heap _
    rw [ek1_5]
    exact ⟨rfl, Nk1_5, Kk1_5, Bk1_5⟩
def Q1_2 (Z : State) (a1 : Addr) (b : Addr) (f : Nat → Int32) (h0 : Heap) (n0 : Nat) (v : Option Value) (h : Heap) (L : List Loc) : Prop := v = some (.ref b) ∧ Fr n0 L ∧ Keep h0 h [] ∧ BA Z h b 2 (own_upd f 1 (((f 1) + (1 : Int32)).toInt8.toInt32))
set_option maxRecDepth 65536 in
set_option maxHeartbeats 40000000 in
theorem rm1_2 (l : Launch) (Z : State) (a0 : Array Value) (hw : ∀ d ∈ tables_1, d.before a0 Z = true) (ws : List Jvm.Cond) (a1 : Addr) (b : Addr) (f : Nat → Int32) (h0 : Heap) (n0 : Nat) (Z0 : n0 ≤ h0.size) (hb0 : b = h0.size) (B0 : BA Z h0 a1 2 f) (E0 : Exa Z h0 a1 "[B") :
    MetFree l (⟨"com/example/treecreeper/treecreeper/store/RecordCodec", "pastStart", "([B)[B"⟩ : MethodName) (head1 (Jvm.Cond.code (⟨"com/example/treecreeper/treecreeper/store/RecordCodec", "pastStart", "([B)[B"⟩ : MethodName) prog_58_method_8_code 2 (some (.array .byte)) :: ws) ({ frames := 1, cells := 1, slots := 2, locals := 14 } : Room)) (fun a U => a = #[(.ref a1)] ∧ Z.Warmed39 U.vm ∧ U.heap = h0) (fun _ _ _ _ _ => True) (fun _ U ou U' => ∃ v L, ou = .returned v ∧ Q1_2 Z a1 b f h0 n0 v U'.heap L ∧ FrameEnd U ou U' L ({ frames := 1, cells := 1, slots := 2, locals := 14 } : Room).cells ({ frames := 1, cells := 1, slots := 2, locals := 14 } : Room).slots) := by
  refine MetFree.of_bodySF (plainFor_of_name pn_1) hisR ?_
  intro p e s m args below meth c s₁ Bd hml0 hP hK
  obtain ⟨rfl, hZ, hh⟩ := hP
  have hx := Bd.exec
  have hby := Bd.bytes
  have hml : c.maxLocals = 2 := hml0
  have hown : s.vm.findClass "com/example/treecreeper/treecreeper/store/RecordCodec" = some m.cls := findClass_of_methodNamed Bd.named
  have hnm := (name_of_methodNamed Bd.named Bd.method).1
  have X0 : Stand p l e ({ frames := 1, cells := 1, slots := 2, locals := 14 } : Room) s m #[(.ref a1)] below meth c s₁ [] 0 0 := Stand.of_body Bd
  have e0 : s₁.heap = h0 := by rw [← hh, Bd.state]; rfl
  have N0 := Fr.nil n0
  have pre0 : ∀ t, Steps p.tables e below (s₁.setTop (mkF m 0 #[.val (.ref a1), .unset] [])) t → Steps p.tables e below (s₁.setTop (entryFrame m #[(.ref a1)] 2)) t := fun t k => castTop (ef_1 m (a1)) k
  have prek2_8 : ∀ t, Steps p.tables e below (s₁.setTop (mkF m 1 #[.val (.ref a1), .unset] [(.ref a1)])) t → Steps p.tables e below (s₁.setTop (entryFrame m #[(.ref a1)] 2)) t := fun t kt => pre0 t (by
    show Steps p.tables e below (s₁.setTop (mkF m 0 #[.val (.ref a1), .unset] [])) _
    refine XS.aloadN X0.here hx rfl (hb hby d1_0) rfl rfl ?_
    exact kt)
  obtain ⟨T2, h2, X2, e2, E2, B2, A2, st2⟩ := own_bclone X0 hx hZ hown (hw _ (List.mem_of_getElem? (i := 5) rfl)) (hw _ (List.mem_of_getElem? (i := 6) rfl)) (hw _ (List.mem_of_getElem? (i := 10) rfl)) (hw _ (List.mem_of_getElem? (i := 8) rfl)) (hw _ (List.mem_of_getElem? (i := 9) rfl)) (hw _ (List.mem_of_getElem? (i := 11) rfl)) e0 B0 E0 (g := (mkF m 1 #[.val (.ref a1), .unset] [(.ref a1)])) rfl (by rw [hml]; rfl) rfl (hb hby d1_1) (by decide) (W := 0) (by show 2 * 0 + _ ≤ _; exact Nat.le_of_eq rfl) (by decide) (by decide) (by decide)
  rw [← hb0] at B2 A2 st2
  have prek2_9 : ∀ t, Steps p.tables e below (T2.setTop (mkF m 4 #[.val (.ref a1), .unset] [(.ref b)])) t → Steps p.tables e below (s₁.setTop (entryFrame m #[(.ref a1)] 2)) t := fun t kt => prek2_8 t (st2 t kt)
  obtain ⟨T3, X3, e3, st3⟩ := castY X2 hx hZ hown (hw _ (List.mem_of_getElem? (i := 12) rfl)) e2 (Ins.self A2) (g := (mkF m 4 #[.val (.ref a1), .unset] [(.ref b)])) rfl rfl (hb hby d1_4)
  have prek2_10 : ∀ t, Steps p.tables e below (T3.setTop (mkF m 7 #[.val (.ref a1), .unset] [(.ref b)])) t → Steps p.tables e below (s₁.setTop (entryFrame m #[(.ref a1)] 2)) t := fun t kt => prek2_9 t (st3 t kt)
  have prek2_11 : ∀ t, Steps p.tables e below (T3.setTop (mkF m 18 #[.val (.ref a1), .val (.ref b)] [(.int (((f 1) + (1 : Int32)).toInt8.toInt32)), (.int ((Int32.ofNat 2) - (1 : Int32))), (.ref b)])) t → Steps p.tables e below (s₁.setTop (entryFrame m #[(.ref a1)] 2)) t := fun t kt => prek2_10 t (by
    show Steps p.tables e below (T3.setTop (mkF m 7 #[.val (.ref a1), .unset] [(.ref b)])) _
    refine XS.astoreN X3.here hx rfl (hb hby d1_7) rfl rfl (l' := #[.val (.ref a1), .val (.ref b)]) rfl ?_
    show Steps p.tables e below (T3.setTop (mkF m 8 #[.val (.ref a1), .val (.ref b)] [])) _
    refine XS.aloadN X3.here hx rfl (hb hby d1_8) rfl rfl ?_
    show Steps p.tables e below (T3.setTop (mkF m 9 #[.val (.ref a1), .val (.ref b)] [(.ref b)])) _
    refine XS.aloadN X3.here hx rfl (hb hby d1_9) rfl rfl ?_
    show Steps p.tables e below (T3.setTop (mkF m 10 #[.val (.ref a1), .val (.ref b)] [(.ref b), (.ref b)])) _
    refine own_blen X3 hx hZ e3 B2 (g := (mkF m 10 #[.val (.ref a1), .val (.ref b)] [(.ref b), (.ref b)])) rfl rfl (hb hby d1_10) _ ?_
    show Steps p.tables e below (T3.setTop (mkF m 11 #[.val (.ref a1), .val (.ref b)] [(.int (Int32.ofNat 2)), (.ref b)])) _
    refine XS.iconst X3.here hx rfl (hb hby d1_11) ?_
    show Steps p.tables e below (T3.setTop (mkF m 12 #[.val (.ref a1), .val (.ref b)] [(.int (1 : Int32)), (.int (Int32.ofNat 2)), (.ref b)])) _
    refine XS.isub X3.here hx rfl (hb hby d1_12) rfl ?_
    show Steps p.tables e below (T3.setTop (mkF m 13 #[.val (.ref a1), .val (.ref b)] [(.int ((Int32.ofNat 2) - (1 : Int32))), (.ref b)])) _
    refine XT.dup2 X3.here hx rfl (hb hby d1_13) rfl rfl rfl ?_
    show Steps p.tables e below (T3.setTop (mkF m 14 #[.val (.ref a1), .val (.ref b)] [(.int ((Int32.ofNat 2) - (1 : Int32))), (.ref b), (.int ((Int32.ofNat 2) - (1 : Int32))), (.ref b)])) _
    refine own_bload X3 hx hZ e3 B2 (k := 1) (by decide) (by decide) (g := (mkF m 14 #[.val (.ref a1), .val (.ref b)] [(.int ((Int32.ofNat 2) - (1 : Int32))), (.ref b), (.int ((Int32.ofNat 2) - (1 : Int32))), (.ref b)])) rfl rfl (hb hby d1_14) _ ?_
    show Steps p.tables e below (T3.setTop (mkF m 15 #[.val (.ref a1), .val (.ref b)] [(.int (f 1)), (.int ((Int32.ofNat 2) - (1 : Int32))), (.ref b)])) _
    refine XS.iconst X3.here hx rfl (hb hby d1_15) ?_
    show Steps p.tables e below (T3.setTop (mkF m 16 #[.val (.ref a1), .val (.ref b)] [(.int (1 : Int32)), (.int (f 1)), (.int ((Int32.ofNat 2) - (1 : Int32))), (.ref b)])) _
    refine XS.iadd X3.here hx rfl (hb hby d1_16) rfl ?_
    show Steps p.tables e below (T3.setTop (mkF m 17 #[.val (.ref a1), .val (.ref b)] [(.int ((f 1) + (1 : Int32))), (.int ((Int32.ofNat 2) - (1 : Int32))), (.ref b)])) _
    refine XS.i2b X3.here hx rfl (hb hby d1_17) rfl ?_
    exact kt)
  obtain ⟨Tk2_12, hk2_12, Xk2_12, ek2_12, Bk2_12, Wk2_12, stk2_12⟩ := own_bstore X3 hx hZ e3 B2 (j := ((Int32.ofNat 2) - (1 : Int32))) (x := (((f 1) + (1 : Int32)).toInt8.toInt32)) (v := (((f 1) + (1 : Int32)).toInt8.toInt32)) (k := 1) (by decide) (by decide) (own_b8 _) (g := (mkF m 18 #[.val (.ref a1), .val (.ref b)] [(.int (((f 1) + (1 : Int32)).toInt8.toInt32)), (.int ((Int32.ofNat 2) - (1 : Int32))), (.ref b)])) rfl rfl (hb hby d1_18)
  have Nk2_12 := Fr.snoc Xk2_12 N0 (Nat.le_trans Z0 (Nat.le_of_eq hb0.symm))
  have prek2_13 : ∀ t, Steps p.tables e below (Tk2_12.setTop (mkF m 19 #[.val (.ref a1), .val (.ref b)] [])) t → Steps p.tables e below (s₁.setTop (entryFrame m #[(.ref a1)] 2)) t := fun t kt => prek2_11 t (stk2_12 t kt)
  have Kk2_12 : Keep h0 hk2_12 [] := ((Keep.refl h0 []).ext E2).wr Wk2_12 (Or.inr (Nat.le_of_eq hb0.symm))
  have prek2_14 : ∀ t, Steps p.tables e below (Tk2_12.setTop (mkF m 20 #[.val (.ref a1), .val (.ref b)] [(.ref b)])) t → Steps p.tables e below (s₁.setTop (entryFrame m #[(.ref a1)] 2)) t := fun t kt => prek2_13 t (by
    show Steps p.tables e below (Tk2_12.setTop (mkF m 19 #[.val (.ref a1), .val (.ref b)] [])) _
    refine XS.aloadN Xk2_12.here hx rfl (hb hby d1_19) rfl rfl ?_
    exact kt)
  obtain ⟨fs, hr, hrun, hended, hW, hsame⟩ := Xk2_12.leave (v := some (.ref b)) (fun h => by rw [Bd.returns] at h; cases h)
  refine ⟨_, _, prek2_14 _ ?_, hrun, hended, _, _, rfl, ?_, ⟨_, rfl⟩, hW, hsame.mono (by decide) (by decide)⟩
  · show Steps p.tables e below (Tk2_12.setTop (mkF m 20 #[.val (.ref a1), .val (.ref b)] [(.ref b)])) _
    jvm_step Xk2_12.here [Xk2_12.here.top, hx, (hb hby d1_20), Xk2_12.method', Bd.returns, Value.isRef, FieldType.isReference]
    first | (intro acts; rw [hr _ acts rfl rfl rfl]) | rw [hr _ _ rfl rfl rfl]
    exact Steps.refl _
  · show Q1_2 Z a1 b f h0 n0 _ Tk2_12.heap _
    rw [ek2_12]
    exact ⟨rfl, Nk2_12, Kk2_12, Bk2_12⟩
def Q1_3 (Z : State) (a1 : Addr) (b : Addr) (f : Nat → Int32) (h0 : Heap) (n0 : Nat) (v : Option Value) (h : Heap) (L : List Loc) : Prop := v = some (.ref b) ∧ Fr n0 L ∧ Keep h0 h [] ∧ BA Z h b 3 (own_upd f 2 (((f 2) + (1 : Int32)).toInt8.toInt32))
set_option maxRecDepth 65536 in
set_option maxHeartbeats 40000000 in
theorem rm1_3 (l : Launch) (Z : State) (a0 : Array Value) (hw : ∀ d ∈ tables_1, d.before a0 Z = true) (ws : List Jvm.Cond) (a1 : Addr) (b : Addr) (f : Nat → Int32) (h0 : Heap) (n0 : Nat) (Z0 : n0 ≤ h0.size) (hb0 : b = h0.size) (B0 : BA Z h0 a1 3 f) (E0 : Exa Z h0 a1 "[B") :
    MetFree l (⟨"com/example/treecreeper/treecreeper/store/RecordCodec", "pastStart", "([B)[B"⟩ : MethodName) (head1 (Jvm.Cond.code (⟨"com/example/treecreeper/treecreeper/store/RecordCodec", "pastStart", "([B)[B"⟩ : MethodName) prog_58_method_8_code 2 (some (.array .byte)) :: ws) ({ frames := 1, cells := 1, slots := 3, locals := 14 } : Room)) (fun a U => a = #[(.ref a1)] ∧ Z.Warmed39 U.vm ∧ U.heap = h0) (fun _ _ _ _ _ => True) (fun _ U ou U' => ∃ v L, ou = .returned v ∧ Q1_3 Z a1 b f h0 n0 v U'.heap L ∧ FrameEnd U ou U' L ({ frames := 1, cells := 1, slots := 3, locals := 14 } : Room).cells ({ frames := 1, cells := 1, slots := 3, locals := 14 } : Room).slots) := by
  refine MetFree.of_bodySF (plainFor_of_name pn_1) hisR ?_
  intro p e s m args below meth c s₁ Bd hml0 hP hK
  obtain ⟨rfl, hZ, hh⟩ := hP
  have hx := Bd.exec
  have hby := Bd.bytes
  have hml : c.maxLocals = 2 := hml0
  have hown : s.vm.findClass "com/example/treecreeper/treecreeper/store/RecordCodec" = some m.cls := findClass_of_methodNamed Bd.named
  have hnm := (name_of_methodNamed Bd.named Bd.method).1
  have X0 : Stand p l e ({ frames := 1, cells := 1, slots := 3, locals := 14 } : Room) s m #[(.ref a1)] below meth c s₁ [] 0 0 := Stand.of_body Bd
  have e0 : s₁.heap = h0 := by rw [← hh, Bd.state]; rfl
  have N0 := Fr.nil n0
  have pre0 : ∀ t, Steps p.tables e below (s₁.setTop (mkF m 0 #[.val (.ref a1), .unset] [])) t → Steps p.tables e below (s₁.setTop (entryFrame m #[(.ref a1)] 2)) t := fun t k => castTop (ef_1 m (a1)) k
  have prek3_15 : ∀ t, Steps p.tables e below (s₁.setTop (mkF m 1 #[.val (.ref a1), .unset] [(.ref a1)])) t → Steps p.tables e below (s₁.setTop (entryFrame m #[(.ref a1)] 2)) t := fun t kt => pre0 t (by
    show Steps p.tables e below (s₁.setTop (mkF m 0 #[.val (.ref a1), .unset] [])) _
    refine XS.aloadN X0.here hx rfl (hb hby d1_0) rfl rfl ?_
    exact kt)
  obtain ⟨T2, h2, X2, e2, E2, B2, A2, st2⟩ := own_bclone X0 hx hZ hown (hw _ (List.mem_of_getElem? (i := 5) rfl)) (hw _ (List.mem_of_getElem? (i := 6) rfl)) (hw _ (List.mem_of_getElem? (i := 10) rfl)) (hw _ (List.mem_of_getElem? (i := 8) rfl)) (hw _ (List.mem_of_getElem? (i := 9) rfl)) (hw _ (List.mem_of_getElem? (i := 11) rfl)) e0 B0 E0 (g := (mkF m 1 #[.val (.ref a1), .unset] [(.ref a1)])) rfl (by rw [hml]; rfl) rfl (hb hby d1_1) (by decide) (W := 0) (by show 2 * 0 + _ ≤ _; exact Nat.le_of_eq rfl) (by decide) (by decide) (by decide)
  rw [← hb0] at B2 A2 st2
  have prek3_16 : ∀ t, Steps p.tables e below (T2.setTop (mkF m 4 #[.val (.ref a1), .unset] [(.ref b)])) t → Steps p.tables e below (s₁.setTop (entryFrame m #[(.ref a1)] 2)) t := fun t kt => prek3_15 t (st2 t kt)
  obtain ⟨T3, X3, e3, st3⟩ := castY X2 hx hZ hown (hw _ (List.mem_of_getElem? (i := 12) rfl)) e2 (Ins.self A2) (g := (mkF m 4 #[.val (.ref a1), .unset] [(.ref b)])) rfl rfl (hb hby d1_4)
  have prek3_17 : ∀ t, Steps p.tables e below (T3.setTop (mkF m 7 #[.val (.ref a1), .unset] [(.ref b)])) t → Steps p.tables e below (s₁.setTop (entryFrame m #[(.ref a1)] 2)) t := fun t kt => prek3_16 t (st3 t kt)
  have prek3_18 : ∀ t, Steps p.tables e below (T3.setTop (mkF m 18 #[.val (.ref a1), .val (.ref b)] [(.int (((f 2) + (1 : Int32)).toInt8.toInt32)), (.int ((Int32.ofNat 3) - (1 : Int32))), (.ref b)])) t → Steps p.tables e below (s₁.setTop (entryFrame m #[(.ref a1)] 2)) t := fun t kt => prek3_17 t (by
    show Steps p.tables e below (T3.setTop (mkF m 7 #[.val (.ref a1), .unset] [(.ref b)])) _
    refine XS.astoreN X3.here hx rfl (hb hby d1_7) rfl rfl (l' := #[.val (.ref a1), .val (.ref b)]) rfl ?_
    show Steps p.tables e below (T3.setTop (mkF m 8 #[.val (.ref a1), .val (.ref b)] [])) _
    refine XS.aloadN X3.here hx rfl (hb hby d1_8) rfl rfl ?_
    show Steps p.tables e below (T3.setTop (mkF m 9 #[.val (.ref a1), .val (.ref b)] [(.ref b)])) _
    refine XS.aloadN X3.here hx rfl (hb hby d1_9) rfl rfl ?_
    show Steps p.tables e below (T3.setTop (mkF m 10 #[.val (.ref a1), .val (.ref b)] [(.ref b), (.ref b)])) _
    refine own_blen X3 hx hZ e3 B2 (g := (mkF m 10 #[.val (.ref a1), .val (.ref b)] [(.ref b), (.ref b)])) rfl rfl (hb hby d1_10) _ ?_
    show Steps p.tables e below (T3.setTop (mkF m 11 #[.val (.ref a1), .val (.ref b)] [(.int (Int32.ofNat 3)), (.ref b)])) _
    refine XS.iconst X3.here hx rfl (hb hby d1_11) ?_
    show Steps p.tables e below (T3.setTop (mkF m 12 #[.val (.ref a1), .val (.ref b)] [(.int (1 : Int32)), (.int (Int32.ofNat 3)), (.ref b)])) _
    refine XS.isub X3.here hx rfl (hb hby d1_12) rfl ?_
    show Steps p.tables e below (T3.setTop (mkF m 13 #[.val (.ref a1), .val (.ref b)] [(.int ((Int32.ofNat 3) - (1 : Int32))), (.ref b)])) _
    refine XT.dup2 X3.here hx rfl (hb hby d1_13) rfl rfl rfl ?_
    show Steps p.tables e below (T3.setTop (mkF m 14 #[.val (.ref a1), .val (.ref b)] [(.int ((Int32.ofNat 3) - (1 : Int32))), (.ref b), (.int ((Int32.ofNat 3) - (1 : Int32))), (.ref b)])) _
    refine own_bload X3 hx hZ e3 B2 (k := 2) (by decide) (by decide) (g := (mkF m 14 #[.val (.ref a1), .val (.ref b)] [(.int ((Int32.ofNat 3) - (1 : Int32))), (.ref b), (.int ((Int32.ofNat 3) - (1 : Int32))), (.ref b)])) rfl rfl (hb hby d1_14) _ ?_
    show Steps p.tables e below (T3.setTop (mkF m 15 #[.val (.ref a1), .val (.ref b)] [(.int (f 2)), (.int ((Int32.ofNat 3) - (1 : Int32))), (.ref b)])) _
    refine XS.iconst X3.here hx rfl (hb hby d1_15) ?_
    show Steps p.tables e below (T3.setTop (mkF m 16 #[.val (.ref a1), .val (.ref b)] [(.int (1 : Int32)), (.int (f 2)), (.int ((Int32.ofNat 3) - (1 : Int32))), (.ref b)])) _
    refine XS.iadd X3.here hx rfl (hb hby d1_16) rfl ?_
    show Steps p.tables e below (T3.setTop (mkF m 17 #[.val (.ref a1), .val (.ref b)] [(.int ((f 2) + (1 : Int32))), (.int ((Int32.ofNat 3) - (1 : Int32))), (.ref b)])) _
    refine XS.i2b X3.here hx rfl (hb hby d1_17) rfl ?_
    exact kt)
  obtain ⟨Tk3_19, hk3_19, Xk3_19, ek3_19, Bk3_19, Wk3_19, stk3_19⟩ := own_bstore X3 hx hZ e3 B2 (j := ((Int32.ofNat 3) - (1 : Int32))) (x := (((f 2) + (1 : Int32)).toInt8.toInt32)) (v := (((f 2) + (1 : Int32)).toInt8.toInt32)) (k := 2) (by decide) (by decide) (own_b8 _) (g := (mkF m 18 #[.val (.ref a1), .val (.ref b)] [(.int (((f 2) + (1 : Int32)).toInt8.toInt32)), (.int ((Int32.ofNat 3) - (1 : Int32))), (.ref b)])) rfl rfl (hb hby d1_18)
  have Nk3_19 := Fr.snoc Xk3_19 N0 (Nat.le_trans Z0 (Nat.le_of_eq hb0.symm))
  have prek3_20 : ∀ t, Steps p.tables e below (Tk3_19.setTop (mkF m 19 #[.val (.ref a1), .val (.ref b)] [])) t → Steps p.tables e below (s₁.setTop (entryFrame m #[(.ref a1)] 2)) t := fun t kt => prek3_18 t (stk3_19 t kt)
  have Kk3_19 : Keep h0 hk3_19 [] := ((Keep.refl h0 []).ext E2).wr Wk3_19 (Or.inr (Nat.le_of_eq hb0.symm))
  have prek3_21 : ∀ t, Steps p.tables e below (Tk3_19.setTop (mkF m 20 #[.val (.ref a1), .val (.ref b)] [(.ref b)])) t → Steps p.tables e below (s₁.setTop (entryFrame m #[(.ref a1)] 2)) t := fun t kt => prek3_20 t (by
    show Steps p.tables e below (Tk3_19.setTop (mkF m 19 #[.val (.ref a1), .val (.ref b)] [])) _
    refine XS.aloadN Xk3_19.here hx rfl (hb hby d1_19) rfl rfl ?_
    exact kt)
  obtain ⟨fs, hr, hrun, hended, hW, hsame⟩ := Xk3_19.leave (v := some (.ref b)) (fun h => by rw [Bd.returns] at h; cases h)
  refine ⟨_, _, prek3_21 _ ?_, hrun, hended, _, _, rfl, ?_, ⟨_, rfl⟩, hW, hsame.mono (by decide) (by decide)⟩
  · show Steps p.tables e below (Tk3_19.setTop (mkF m 20 #[.val (.ref a1), .val (.ref b)] [(.ref b)])) _
    jvm_step Xk3_19.here [Xk3_19.here.top, hx, (hb hby d1_20), Xk3_19.method', Bd.returns, Value.isRef, FieldType.isReference]
    first | (intro acts; rw [hr _ acts rfl rfl rfl]) | rw [hr _ _ rfl rfl rfl]
    exact Steps.refl _
  · show Q1_3 Z a1 b f h0 n0 _ Tk3_19.heap _
    rw [ek3_19]
    exact ⟨rfl, Nk3_19, Kk3_19, Bk3_19⟩
def Q1_4 (Z : State) (a1 : Addr) (b : Addr) (f : Nat → Int32) (h0 : Heap) (n0 : Nat) (v : Option Value) (h : Heap) (L : List Loc) : Prop := v = some (.ref b) ∧ Fr n0 L ∧ Keep h0 h [] ∧ BA Z h b 4 (own_upd f 3 (((f 3) + (1 : Int32)).toInt8.toInt32))
set_option maxRecDepth 65536 in
set_option maxHeartbeats 40000000 in
theorem rm1_4 (l : Launch) (Z : State) (a0 : Array Value) (hw : ∀ d ∈ tables_1, d.before a0 Z = true) (ws : List Jvm.Cond) (a1 : Addr) (b : Addr) (f : Nat → Int32) (h0 : Heap) (n0 : Nat) (Z0 : n0 ≤ h0.size) (hb0 : b = h0.size) (B0 : BA Z h0 a1 4 f) (E0 : Exa Z h0 a1 "[B") :
    MetFree l (⟨"com/example/treecreeper/treecreeper/store/RecordCodec", "pastStart", "([B)[B"⟩ : MethodName) (head1 (Jvm.Cond.code (⟨"com/example/treecreeper/treecreeper/store/RecordCodec", "pastStart", "([B)[B"⟩ : MethodName) prog_58_method_8_code 2 (some (.array .byte)) :: ws) ({ frames := 1, cells := 1, slots := 4, locals := 14 } : Room)) (fun a U => a = #[(.ref a1)] ∧ Z.Warmed39 U.vm ∧ U.heap = h0) (fun _ _ _ _ _ => True) (fun _ U ou U' => ∃ v L, ou = .returned v ∧ Q1_4 Z a1 b f h0 n0 v U'.heap L ∧ FrameEnd U ou U' L ({ frames := 1, cells := 1, slots := 4, locals := 14 } : Room).cells ({ frames := 1, cells := 1, slots := 4, locals := 14 } : Room).slots) := by
  refine MetFree.of_bodySF (plainFor_of_name pn_1) hisR ?_
  intro p e s m args below meth c s₁ Bd hml0 hP hK
  obtain ⟨rfl, hZ, hh⟩ := hP
  have hx := Bd.exec
  have hby := Bd.bytes
  have hml : c.maxLocals = 2 := hml0
  have hown : s.vm.findClass "com/example/treecreeper/treecreeper/store/RecordCodec" = some m.cls := findClass_of_methodNamed Bd.named
  have hnm := (name_of_methodNamed Bd.named Bd.method).1
  have X0 : Stand p l e ({ frames := 1, cells := 1, slots := 4, locals := 14 } : Room) s m #[(.ref a1)] below meth c s₁ [] 0 0 := Stand.of_body Bd
  have e0 : s₁.heap = h0 := by rw [← hh, Bd.state]; rfl
  have N0 := Fr.nil n0
  have pre0 : ∀ t, Steps p.tables e below (s₁.setTop (mkF m 0 #[.val (.ref a1), .unset] [])) t → Steps p.tables e below (s₁.setTop (entryFrame m #[(.ref a1)] 2)) t := fun t k => castTop (ef_1 m (a1)) k
  have prek4_22 : ∀ t, Steps p.tables e below (s₁.setTop (mkF m 1 #[.val (.ref a1), .unset] [(.ref a1)])) t → Steps p.tables e below (s₁.setTop (entryFrame m #[(.ref a1)] 2)) t := fun t kt => pre0 t (by
    show Steps p.tables e below (s₁.setTop (mkF m 0 #[.val (.ref a1), .unset] [])) _
    refine XS.aloadN X0.here hx rfl (hb hby d1_0) rfl rfl ?_
    exact kt)
  obtain ⟨T2, h2, X2, e2, E2, B2, A2, st2⟩ := own_bclone X0 hx hZ hown (hw _ (List.mem_of_getElem? (i := 5) rfl)) (hw _ (List.mem_of_getElem? (i := 6) rfl)) (hw _ (List.mem_of_getElem? (i := 10) rfl)) (hw _ (List.mem_of_getElem? (i := 8) rfl)) (hw _ (List.mem_of_getElem? (i := 9) rfl)) (hw _ (List.mem_of_getElem? (i := 11) rfl)) e0 B0 E0 (g := (mkF m 1 #[.val (.ref a1), .unset] [(.ref a1)])) rfl (by rw [hml]; rfl) rfl (hb hby d1_1) (by decide) (W := 0) (by show 2 * 0 + _ ≤ _; exact Nat.le_of_eq rfl) (by decide) (by decide) (by decide)
  rw [← hb0] at B2 A2 st2
  have prek4_23 : ∀ t, Steps p.tables e below (T2.setTop (mkF m 4 #[.val (.ref a1), .unset] [(.ref b)])) t → Steps p.tables e below (s₁.setTop (entryFrame m #[(.ref a1)] 2)) t := fun t kt => prek4_22 t (st2 t kt)
  obtain ⟨T3, X3, e3, st3⟩ := castY X2 hx hZ hown (hw _ (List.mem_of_getElem? (i := 12) rfl)) e2 (Ins.self A2) (g := (mkF m 4 #[.val (.ref a1), .unset] [(.ref b)])) rfl rfl (hb hby d1_4)
  have prek4_24 : ∀ t, Steps p.tables e below (T3.setTop (mkF m 7 #[.val (.ref a1), .unset] [(.ref b)])) t → Steps p.tables e below (s₁.setTop (entryFrame m #[(.ref a1)] 2)) t := fun t kt => prek4_23 t (st3 t kt)
  have prek4_25 : ∀ t, Steps p.tables e below (T3.setTop (mkF m 18 #[.val (.ref a1), .val (.ref b)] [(.int (((f 3) + (1 : Int32)).toInt8.toInt32)), (.int ((Int32.ofNat 4) - (1 : Int32))), (.ref b)])) t → Steps p.tables e below (s₁.setTop (entryFrame m #[(.ref a1)] 2)) t := fun t kt => prek4_24 t (by
    show Steps p.tables e below (T3.setTop (mkF m 7 #[.val (.ref a1), .unset] [(.ref b)])) _
    refine XS.astoreN X3.here hx rfl (hb hby d1_7) rfl rfl (l' := #[.val (.ref a1), .val (.ref b)]) rfl ?_
    show Steps p.tables e below (T3.setTop (mkF m 8 #[.val (.ref a1), .val (.ref b)] [])) _
    refine XS.aloadN X3.here hx rfl (hb hby d1_8) rfl rfl ?_
    show Steps p.tables e below (T3.setTop (mkF m 9 #[.val (.ref a1), .val (.ref b)] [(.ref b)])) _
    refine XS.aloadN X3.here hx rfl (hb hby d1_9) rfl rfl ?_
    show Steps p.tables e below (T3.setTop (mkF m 10 #[.val (.ref a1), .val (.ref b)] [(.ref b), (.ref b)])) _
    refine own_blen X3 hx hZ e3 B2 (g := (mkF m 10 #[.val (.ref a1), .val (.ref b)] [(.ref b), (.ref b)])) rfl rfl (hb hby d1_10) _ ?_
    show Steps p.tables e below (T3.setTop (mkF m 11 #[.val (.ref a1), .val (.ref b)] [(.int (Int32.ofNat 4)), (.ref b)])) _
    refine XS.iconst X3.here hx rfl (hb hby d1_11) ?_
    show Steps p.tables e below (T3.setTop (mkF m 12 #[.val (.ref a1), .val (.ref b)] [(.int (1 : Int32)), (.int (Int32.ofNat 4)), (.ref b)])) _
    refine XS.isub X3.here hx rfl (hb hby d1_12) rfl ?_
    show Steps p.tables e below (T3.setTop (mkF m 13 #[.val (.ref a1), .val (.ref b)] [(.int ((Int32.ofNat 4) - (1 : Int32))), (.ref b)])) _
    refine XT.dup2 X3.here hx rfl (hb hby d1_13) rfl rfl rfl ?_
    show Steps p.tables e below (T3.setTop (mkF m 14 #[.val (.ref a1), .val (.ref b)] [(.int ((Int32.ofNat 4) - (1 : Int32))), (.ref b), (.int ((Int32.ofNat 4) - (1 : Int32))), (.ref b)])) _
    refine own_bload X3 hx hZ e3 B2 (k := 3) (by decide) (by decide) (g := (mkF m 14 #[.val (.ref a1), .val (.ref b)] [(.int ((Int32.ofNat 4) - (1 : Int32))), (.ref b), (.int ((Int32.ofNat 4) - (1 : Int32))), (.ref b)])) rfl rfl (hb hby d1_14) _ ?_
    show Steps p.tables e below (T3.setTop (mkF m 15 #[.val (.ref a1), .val (.ref b)] [(.int (f 3)), (.int ((Int32.ofNat 4) - (1 : Int32))), (.ref b)])) _
    refine XS.iconst X3.here hx rfl (hb hby d1_15) ?_
    show Steps p.tables e below (T3.setTop (mkF m 16 #[.val (.ref a1), .val (.ref b)] [(.int (1 : Int32)), (.int (f 3)), (.int ((Int32.ofNat 4) - (1 : Int32))), (.ref b)])) _
    refine XS.iadd X3.here hx rfl (hb hby d1_16) rfl ?_
    show Steps p.tables e below (T3.setTop (mkF m 17 #[.val (.ref a1), .val (.ref b)] [(.int ((f 3) + (1 : Int32))), (.int ((Int32.ofNat 4) - (1 : Int32))), (.ref b)])) _
    refine XS.i2b X3.here hx rfl (hb hby d1_17) rfl ?_
    exact kt)
  obtain ⟨Tk4_26, hk4_26, Xk4_26, ek4_26, Bk4_26, Wk4_26, stk4_26⟩ := own_bstore X3 hx hZ e3 B2 (j := ((Int32.ofNat 4) - (1 : Int32))) (x := (((f 3) + (1 : Int32)).toInt8.toInt32)) (v := (((f 3) + (1 : Int32)).toInt8.toInt32)) (k := 3) (by decide) (by decide) (own_b8 _) (g := (mkF m 18 #[.val (.ref a1), .val (.ref b)] [(.int (((f 3) + (1 : Int32)).toInt8.toInt32)), (.int ((Int32.ofNat 4) - (1 : Int32))), (.ref b)])) rfl rfl (hb hby d1_18)
  have Nk4_26 := Fr.snoc Xk4_26 N0 (Nat.le_trans Z0 (Nat.le_of_eq hb0.symm))
  have prek4_27 : ∀ t, Steps p.tables e below (Tk4_26.setTop (mkF m 19 #[.val (.ref a1), .val (.ref b)] [])) t → Steps p.tables e below (s₁.setTop (entryFrame m #[(.ref a1)] 2)) t := fun t kt => prek4_25 t (stk4_26 t kt)
  have Kk4_26 : Keep h0 hk4_26 [] := ((Keep.refl h0 []).ext E2).wr Wk4_26 (Or.inr (Nat.le_of_eq hb0.symm))
  have prek4_28 : ∀ t, Steps p.tables e below (Tk4_26.setTop (mkF m 20 #[.val (.ref a1), .val (.ref b)] [(.ref b)])) t → Steps p.tables e below (s₁.setTop (entryFrame m #[(.ref a1)] 2)) t := fun t kt => prek4_27 t (by
    show Steps p.tables e below (Tk4_26.setTop (mkF m 19 #[.val (.ref a1), .val (.ref b)] [])) _
    refine XS.aloadN Xk4_26.here hx rfl (hb hby d1_19) rfl rfl ?_
    exact kt)
  obtain ⟨fs, hr, hrun, hended, hW, hsame⟩ := Xk4_26.leave (v := some (.ref b)) (fun h => by rw [Bd.returns] at h; cases h)
  refine ⟨_, _, prek4_28 _ ?_, hrun, hended, _, _, rfl, ?_, ⟨_, rfl⟩, hW, hsame.mono (by decide) (by decide)⟩
  · show Steps p.tables e below (Tk4_26.setTop (mkF m 20 #[.val (.ref a1), .val (.ref b)] [(.ref b)])) _
    jvm_step Xk4_26.here [Xk4_26.here.top, hx, (hb hby d1_20), Xk4_26.method', Bd.returns, Value.isRef, FieldType.isReference]
    first | (intro acts; rw [hr _ acts rfl rfl rfl]) | rw [hr _ _ rfl rfl rfl]
    exact Steps.refl _
  · show Q1_4 Z a1 b f h0 n0 _ Tk4_26.heap _
    rw [ek4_26]
    exact ⟨rfl, Nk4_26, Kk4_26, Bk4_26⟩
theorem d2_0 : decode method_3_code 0 = .ok (.aload_n 0, 1) := by decide +kernel
theorem d2_1 : decode method_3_code 1 = .ok (.arraylength, 1) := by decide +kernel
theorem d2_2 : decode method_3_code 2 = .ok (.iload_n 1, 1) := by decide +kernel
theorem d2_3 : decode method_3_code 3 = .ok (.if_icmp .eq 5, 3) := by decide +kernel
theorem d2_8 : decode method_3_code 8 = .ok (.iload_n 1, 1) := by decide +kernel
theorem d2_9 : decode method_3_code 9 = .ok (.iconst 1, 1) := by decide +kernel
theorem d2_10 : decode method_3_code 10 = .ok (.if_icmp .le 12, 3) := by decide +kernel
theorem d2_13 : decode method_3_code 13 = .ok (.aload_n 0, 1) := by decide +kernel
theorem d2_14 : decode method_3_code 14 = .ok (.iconst 0, 1) := by decide +kernel
theorem d2_15 : decode method_3_code 15 = .ok (.baload, 1) := by decide +kernel
theorem d2_16 : decode method_3_code 16 = .ok (.iload_n 2, 1) := by decide +kernel
theorem d2_17 : decode method_3_code 17 = .ok (.if_icmp .eq 5, 3) := by decide +kernel
theorem d2_22 : decode method_3_code 22 = .ok (.iload_n 1, 1) := by decide +kernel
theorem d2_23 : decode method_3_code 23 = .ok (.iconst 2, 1) := by decide +kernel
theorem d2_24 : decode method_3_code 24 = .ok (.if_icmp .le 12, 3) := by decide +kernel
theorem d2_27 : decode method_3_code 27 = .ok (.aload_n 0, 1) := by decide +kernel
theorem d2_28 : decode method_3_code 28 = .ok (.iconst 1, 1) := by decide +kernel
theorem d2_29 : decode method_3_code 29 = .ok (.baload, 1) := by decide +kernel
theorem d2_30 : decode method_3_code 30 = .ok (.iload_n 3, 1) := by decide +kernel
theorem d2_31 : decode method_3_code 31 = .ok (.if_icmp .eq 5, 3) := by decide +kernel
theorem d2_36 : decode method_3_code 36 = .ok (.iload_n 1, 1) := by decide +kernel
theorem d2_37 : decode method_3_code 37 = .ok (.iconst 3, 1) := by decide +kernel
theorem d2_38 : decode method_3_code 38 = .ok (.if_icmp .le 13, 3) := by decide +kernel
theorem d2_41 : decode method_3_code 41 = .ok (.aload_n 0, 1) := by decide +kernel
theorem d2_42 : decode method_3_code 42 = .ok (.iconst 2, 1) := by decide +kernel
theorem d2_43 : decode method_3_code 43 = .ok (.baload, 1) := by decide +kernel
theorem d2_44 : decode method_3_code 44 = .ok (.iload 4, 2) := by decide +kernel
theorem d2_46 : decode method_3_code 46 = .ok (.if_icmp .eq 5, 3) := by decide +kernel
theorem d2_51 : decode method_3_code 51 = .ok (.aload_n 0, 1) := by decide +kernel
theorem d2_52 : decode method_3_code 52 = .ok (.iload_n 1, 1) := by decide +kernel
theorem d2_53 : decode method_3_code 53 = .ok (.iconst 1, 1) := by decide +kernel
theorem d2_54 : decode method_3_code 54 = .ok (.isub, 1) := by decide +kernel
theorem d2_55 : decode method_3_code 55 = .ok (.baload, 1) := by decide +kernel
theorem d2_56 : decode method_3_code 56 = .ok (.iload 5, 2) := by decide +kernel
theorem d2_58 : decode method_3_code 58 = .ok (.if_icmp .ne 7, 3) := by decide +kernel
theorem d2_61 : decode method_3_code 61 = .ok (.iconst 1, 1) := by decide +kernel
theorem d2_62 : decode method_3_code 62 = .ok (.goto 4, 3) := by decide +kernel
theorem d2_66 : decode method_3_code 66 = .ok (.ireturn, 1) := by decide +kernel
theorem pn_2 : plainName "com/example/treecreeper/treecreeper/store/RecordCodecPastStartPinLaw" = true := by first | (simp [plainName, overriddenIn]; done) | decide +kernel
theorem ef_2 (m : MethodId) (x0 : Addr) (x1 : Int32) (x2 : Int32) (x3 : Int32) (x4 : Int32) (x5 : Int32) : entryFrame m #[(.ref x0), (.int x1), (.int x2), (.int x3), (.int x4), (.int x5)] 6 = mkF m 0 #[.val (.ref x0), .val (.int x1), .val (.int x2), .val (.int x3), .val (.int x4), .val (.int x5)] [] := by first | (simp [entryFrame, mkF, argsToLocals, Value.category]; done) | rfl
def Q2_1 (Z : State) (a1 : Addr) (f : Nat → Int32) (q0 q1 q2 q3 : Int32) (h0 : Heap) (n0 : Nat) (v : Option Value) (h : Heap) (L : List Loc) : Prop := v = some (.int (1 : Int32)) ∧ Fr n0 L ∧ h = h0
set_option maxRecDepth 65536 in
set_option maxHeartbeats 40000000 in
theorem rm2_1 (l : Launch) (Z : State) (a0 : Array Value) (hw : ∀ d ∈ tables_1, d.before a0 Z = true) (ws : List Jvm.Cond) (a1 : Addr) (f : Nat → Int32) (q0 q1 q2 q3 : Int32) (h0 : Heap) (n0 : Nat) (Z0 : n0 ≤ h0.size) (B0 : BA Z h0 a1 1 f) (c9 : f 0 = q3) :
    MetFree l (⟨"com/example/treecreeper/treecreeper/store/RecordCodecPastStartPinLaw", "same", "([BIBBBB)Z"⟩ : MethodName) (head1 (Jvm.Cond.code (⟨"com/example/treecreeper/treecreeper/store/RecordCodecPastStartPinLaw", "same", "([BIBBBB)Z"⟩ : MethodName) method_3_code 6 (some .boolean) :: ws) ({ frames := 0, cells := 0, slots := 0, locals := 0 } : Room)) (fun a U => a = #[(.ref a1), (.int (1 : Int32)), (.int q0), (.int q1), (.int q2), (.int q3)] ∧ Z.Warmed39 U.vm ∧ U.heap = h0) (fun _ _ _ _ _ => True) (fun _ U ou U' => ∃ v L, ou = .returned v ∧ Q2_1 Z a1 f q0 q1 q2 q3 h0 n0 v U'.heap L ∧ FrameEnd U ou U' L ({ frames := 0, cells := 0, slots := 0, locals := 0 } : Room).cells ({ frames := 0, cells := 0, slots := 0, locals := 0 } : Room).slots) := by
  refine MetFree.of_bodySF (plainFor_of_name pn_2) hisR ?_
  intro p e s m args below meth c s₁ Bd hml0 hP hK
  obtain ⟨rfl, hZ, hh⟩ := hP
  have hx := Bd.exec
  have hby := Bd.bytes
  have hml : c.maxLocals = 6 := hml0
  have hown : s.vm.findClass "com/example/treecreeper/treecreeper/store/RecordCodecPastStartPinLaw" = some m.cls := findClass_of_methodNamed Bd.named
  have hnm := (name_of_methodNamed Bd.named Bd.method).1
  have X0 : Stand p l e ({ frames := 0, cells := 0, slots := 0, locals := 0 } : Room) s m #[(.ref a1), (.int (1 : Int32)), (.int q0), (.int q1), (.int q2), (.int q3)] below meth c s₁ [] 0 0 := Stand.of_body Bd
  have e0 : s₁.heap = h0 := by rw [← hh, Bd.state]; rfl
  have N0 := Fr.nil n0
  have pre0 : ∀ t, Steps p.tables e below (s₁.setTop (mkF m 0 #[.val (.ref a1), .val (.int (1 : Int32)), .val (.int q0), .val (.int q1), .val (.int q2), .val (.int q3)] [])) t → Steps p.tables e below (s₁.setTop (entryFrame m #[(.ref a1), (.int (1 : Int32)), (.int q0), (.int q1), (.int q2), (.int q3)] 6)) t := fun t k => castTop (ef_2 m (a1) ((1 : Int32)) (q0) (q1) (q2) (q3)) k
  have prek1_1 : ∀ t, Steps p.tables e below (s₁.setTop (mkF m 66 #[.val (.ref a1), .val (.int (1 : Int32)), .val (.int q0), .val (.int q1), .val (.int q2), .val (.int q3)] [(.int (1 : Int32))])) t → Steps p.tables e below (s₁.setTop (entryFrame m #[(.ref a1), (.int (1 : Int32)), (.int q0), (.int q1), (.int q2), (.int q3)] 6)) t := fun t kt => pre0 t (by
    show Steps p.tables e below (s₁.setTop (mkF m 0 #[.val (.ref a1), .val (.int (1 : Int32)), .val (.int q0), .val (.int q1), .val (.int q2), .val (.int q3)] [])) _
    refine XS.aloadN X0.here hx rfl (hb hby d2_0) rfl rfl ?_
    show Steps p.tables e below (s₁.setTop (mkF m 1 #[.val (.ref a1), .val (.int (1 : Int32)), .val (.int q0), .val (.int q1), .val (.int q2), .val (.int q3)] [(.ref a1)])) _
    refine own_blen X0 hx hZ e0 B0 (g := (mkF m 1 #[.val (.ref a1), .val (.int (1 : Int32)), .val (.int q0), .val (.int q1), .val (.int q2), .val (.int q3)] [(.ref a1)])) rfl rfl (hb hby d2_1) _ ?_
    show Steps p.tables e below (s₁.setTop (mkF m 2 #[.val (.ref a1), .val (.int (1 : Int32)), .val (.int q0), .val (.int q1), .val (.int q2), .val (.int q3)] [(.int (Int32.ofNat 1))])) _
    refine XS.iloadN X0.here hx rfl (hb hby d2_2) rfl ?_
    show Steps p.tables e below (s₁.setTop (mkF m 3 #[.val (.ref a1), .val (.int (1 : Int32)), .val (.int q0), .val (.int q1), .val (.int q2), .val (.int q3)] [(.int (1 : Int32)), (.int (Int32.ofNat 1))])) _
    refine XS.icmpYes X0.here hx rfl (pc0 := 3) (pc' := 8) rfl (hb hby d2_3) rfl (teq (by decide)).1 (by decide) (by decide) ?_
    show Steps p.tables e below (s₁.setTop (mkF m 8 #[.val (.ref a1), .val (.int (1 : Int32)), .val (.int q0), .val (.int q1), .val (.int q2), .val (.int q3)] [])) _
    refine XS.iloadN X0.here hx rfl (hb hby d2_8) rfl ?_
    show Steps p.tables e below (s₁.setTop (mkF m 9 #[.val (.ref a1), .val (.int (1 : Int32)), .val (.int q0), .val (.int q1), .val (.int q2), .val (.int q3)] [(.int (1 : Int32))])) _
    refine XS.iconst X0.here hx rfl (hb hby d2_9) ?_
    show Steps p.tables e below (s₁.setTop (mkF m 10 #[.val (.ref a1), .val (.int (1 : Int32)), .val (.int q0), .val (.int q1), .val (.int q2), .val (.int q3)] [(.int (1 : Int32)), (.int (1 : Int32))])) _
    refine XS.icmpYes X0.here hx rfl (pc0 := 10) (pc' := 22) rfl (hb hby d2_10) rfl (flt (by decide)).2.2.2 (by decide) (by decide) ?_
    show Steps p.tables e below (s₁.setTop (mkF m 22 #[.val (.ref a1), .val (.int (1 : Int32)), .val (.int q0), .val (.int q1), .val (.int q2), .val (.int q3)] [])) _
    refine XS.iloadN X0.here hx rfl (hb hby d2_22) rfl ?_
    show Steps p.tables e below (s₁.setTop (mkF m 23 #[.val (.ref a1), .val (.int (1 : Int32)), .val (.int q0), .val (.int q1), .val (.int q2), .val (.int q3)] [(.int (1 : Int32))])) _
    refine XS.iconst X0.here hx rfl (hb hby d2_23) ?_
    show Steps p.tables e below (s₁.setTop (mkF m 24 #[.val (.ref a1), .val (.int (1 : Int32)), .val (.int q0), .val (.int q1), .val (.int q2), .val (.int q3)] [(.int (2 : Int32)), (.int (1 : Int32))])) _
    refine XS.icmpYes X0.here hx rfl (pc0 := 24) (pc' := 36) rfl (hb hby d2_24) rfl (flt (by decide)).2.2.2 (by decide) (by decide) ?_
    show Steps p.tables e below (s₁.setTop (mkF m 36 #[.val (.ref a1), .val (.int (1 : Int32)), .val (.int q0), .val (.int q1), .val (.int q2), .val (.int q3)] [])) _
    refine XS.iloadN X0.here hx rfl (hb hby d2_36) rfl ?_
    show Steps p.tables e below (s₁.setTop (mkF m 37 #[.val (.ref a1), .val (.int (1 : Int32)), .val (.int q0), .val (.int q1), .val (.int q2), .val (.int q3)] [(.int (1 : Int32))])) _
    refine XS.iconst X0.here hx rfl (hb hby d2_37) ?_
    show Steps p.tables e below (s₁.setTop (mkF m 38 #[.val (.ref a1), .val (.int (1 : Int32)), .val (.int q0), .val (.int q1), .val (.int q2), .val (.int q3)] [(.int (3 : Int32)), (.int (1 : Int32))])) _
    refine XS.icmpYes X0.here hx rfl (pc0 := 38) (pc' := 51) rfl (hb hby d2_38) rfl (flt (by decide)).2.2.2 (by decide) (by decide) ?_
    show Steps p.tables e below (s₁.setTop (mkF m 51 #[.val (.ref a1), .val (.int (1 : Int32)), .val (.int q0), .val (.int q1), .val (.int q2), .val (.int q3)] [])) _
    refine XS.aloadN X0.here hx rfl (hb hby d2_51) rfl rfl ?_
    show Steps p.tables e below (s₁.setTop (mkF m 52 #[.val (.ref a1), .val (.int (1 : Int32)), .val (.int q0), .val (.int q1), .val (.int q2), .val (.int q3)] [(.ref a1)])) _
    refine XS.iloadN X0.here hx rfl (hb hby d2_52) rfl ?_
    show Steps p.tables e below (s₁.setTop (mkF m 53 #[.val (.ref a1), .val (.int (1 : Int32)), .val (.int q0), .val (.int q1), .val (.int q2), .val (.int q3)] [(.int (1 : Int32)), (.ref a1)])) _
    refine XS.iconst X0.here hx rfl (hb hby d2_53) ?_
    show Steps p.tables e below (s₁.setTop (mkF m 54 #[.val (.ref a1), .val (.int (1 : Int32)), .val (.int q0), .val (.int q1), .val (.int q2), .val (.int q3)] [(.int (1 : Int32)), (.int (1 : Int32)), (.ref a1)])) _
    refine XS.isub X0.here hx rfl (hb hby d2_54) rfl ?_
    show Steps p.tables e below (s₁.setTop (mkF m 55 #[.val (.ref a1), .val (.int (1 : Int32)), .val (.int q0), .val (.int q1), .val (.int q2), .val (.int q3)] [(.int ((1 : Int32) - (1 : Int32))), (.ref a1)])) _
    refine own_bload X0 hx hZ e0 B0 (k := 0) (by decide) (by decide) (g := (mkF m 55 #[.val (.ref a1), .val (.int (1 : Int32)), .val (.int q0), .val (.int q1), .val (.int q2), .val (.int q3)] [(.int ((1 : Int32) - (1 : Int32))), (.ref a1)])) rfl rfl (hb hby d2_55) _ ?_
    show Steps p.tables e below (s₁.setTop (mkF m 56 #[.val (.ref a1), .val (.int (1 : Int32)), .val (.int q0), .val (.int q1), .val (.int q2), .val (.int q3)] [(.int (f 0))])) _
    refine XS.iload X0.here hx rfl (hb hby d2_56) rfl ?_
    show Steps p.tables e below (s₁.setTop (mkF m 58 #[.val (.ref a1), .val (.int (1 : Int32)), .val (.int q0), .val (.int q1), .val (.int q2), .val (.int q3)] [(.int q3), (.int (f 0))])) _
    refine XS.icmpNo X0.here hx rfl (hb hby d2_58) rfl (teq c9).2 ?_
    show Steps p.tables e below (s₁.setTop (mkF m 61 #[.val (.ref a1), .val (.int (1 : Int32)), .val (.int q0), .val (.int q1), .val (.int q2), .val (.int q3)] [])) _
    refine XS.iconst X0.here hx rfl (hb hby d2_61) ?_
    show Steps p.tables e below (s₁.setTop (mkF m 62 #[.val (.ref a1), .val (.int (1 : Int32)), .val (.int q0), .val (.int q1), .val (.int q2), .val (.int q3)] [(.int (1 : Int32))])) _
    refine XS.goto X0.here hx rfl (pc0 := 62) (pc' := 66) rfl (hb hby d2_62) (by decide) (by decide) ?_
    exact kt)
  obtain ⟨fs, hr, hrun, hended, hW, hsame⟩ := X0.leave (v := some (.int (1 : Int32))) (fun h => by rw [Bd.returns] at h; cases h)
  refine ⟨_, _, prek1_1 _ ?_, hrun, hended, _, _, rfl, ?_, ⟨_, rfl⟩, hW, hsame.mono (by decide) (by decide)⟩
  · show Steps p.tables e below (s₁.setTop (mkF m 66 #[.val (.ref a1), .val (.int (1 : Int32)), .val (.int q0), .val (.int q1), .val (.int q2), .val (.int q3)] [(.int (1 : Int32))])) _
    exact retN X0 hx (t := .boolean) Bd.returns (by simp) (hb hby d2_66) hr
  · show Q2_1 Z a1 f q0 q1 q2 q3 h0 n0 _ s₁.heap _
    rw [e0]
    exact ⟨rfl, N0, rfl⟩
def Q2_2 (Z : State) (a1 : Addr) (f : Nat → Int32) (q0 q1 q2 q3 : Int32) (h0 : Heap) (n0 : Nat) (v : Option Value) (h : Heap) (L : List Loc) : Prop := v = some (.int (1 : Int32)) ∧ Fr n0 L ∧ h = h0
set_option maxRecDepth 65536 in
set_option maxHeartbeats 40000000 in
theorem rm2_2 (l : Launch) (Z : State) (a0 : Array Value) (hw : ∀ d ∈ tables_1, d.before a0 Z = true) (ws : List Jvm.Cond) (a1 : Addr) (f : Nat → Int32) (q0 q1 q2 q3 : Int32) (h0 : Heap) (n0 : Nat) (Z0 : n0 ≤ h0.size) (B0 : BA Z h0 a1 2 f) (c0 : f 0 = q0) (c9 : f 1 = q3) :
    MetFree l (⟨"com/example/treecreeper/treecreeper/store/RecordCodecPastStartPinLaw", "same", "([BIBBBB)Z"⟩ : MethodName) (head1 (Jvm.Cond.code (⟨"com/example/treecreeper/treecreeper/store/RecordCodecPastStartPinLaw", "same", "([BIBBBB)Z"⟩ : MethodName) method_3_code 6 (some .boolean) :: ws) ({ frames := 0, cells := 0, slots := 0, locals := 0 } : Room)) (fun a U => a = #[(.ref a1), (.int (2 : Int32)), (.int q0), (.int q1), (.int q2), (.int q3)] ∧ Z.Warmed39 U.vm ∧ U.heap = h0) (fun _ _ _ _ _ => True) (fun _ U ou U' => ∃ v L, ou = .returned v ∧ Q2_2 Z a1 f q0 q1 q2 q3 h0 n0 v U'.heap L ∧ FrameEnd U ou U' L ({ frames := 0, cells := 0, slots := 0, locals := 0 } : Room).cells ({ frames := 0, cells := 0, slots := 0, locals := 0 } : Room).slots) := by
  refine MetFree.of_bodySF (plainFor_of_name pn_2) hisR ?_
  intro p e s m args below meth c s₁ Bd hml0 hP hK
  obtain ⟨rfl, hZ, hh⟩ := hP
  have hx := Bd.exec
  have hby := Bd.bytes
  have hml : c.maxLocals = 6 := hml0
  have hown : s.vm.findClass "com/example/treecreeper/treecreeper/store/RecordCodecPastStartPinLaw" = some m.cls := findClass_of_methodNamed Bd.named
  have hnm := (name_of_methodNamed Bd.named Bd.method).1
  have X0 : Stand p l e ({ frames := 0, cells := 0, slots := 0, locals := 0 } : Room) s m #[(.ref a1), (.int (2 : Int32)), (.int q0), (.int q1), (.int q2), (.int q3)] below meth c s₁ [] 0 0 := Stand.of_body Bd
  have e0 : s₁.heap = h0 := by rw [← hh, Bd.state]; rfl
  have N0 := Fr.nil n0
  have pre0 : ∀ t, Steps p.tables e below (s₁.setTop (mkF m 0 #[.val (.ref a1), .val (.int (2 : Int32)), .val (.int q0), .val (.int q1), .val (.int q2), .val (.int q3)] [])) t → Steps p.tables e below (s₁.setTop (entryFrame m #[(.ref a1), (.int (2 : Int32)), (.int q0), (.int q1), (.int q2), (.int q3)] 6)) t := fun t k => castTop (ef_2 m (a1) ((2 : Int32)) (q0) (q1) (q2) (q3)) k
  have prek2_2 : ∀ t, Steps p.tables e below (s₁.setTop (mkF m 66 #[.val (.ref a1), .val (.int (2 : Int32)), .val (.int q0), .val (.int q1), .val (.int q2), .val (.int q3)] [(.int (1 : Int32))])) t → Steps p.tables e below (s₁.setTop (entryFrame m #[(.ref a1), (.int (2 : Int32)), (.int q0), (.int q1), (.int q2), (.int q3)] 6)) t := fun t kt => pre0 t (by
    show Steps p.tables e below (s₁.setTop (mkF m 0 #[.val (.ref a1), .val (.int (2 : Int32)), .val (.int q0), .val (.int q1), .val (.int q2), .val (.int q3)] [])) _
    refine XS.aloadN X0.here hx rfl (hb hby d2_0) rfl rfl ?_
    show Steps p.tables e below (s₁.setTop (mkF m 1 #[.val (.ref a1), .val (.int (2 : Int32)), .val (.int q0), .val (.int q1), .val (.int q2), .val (.int q3)] [(.ref a1)])) _
    refine own_blen X0 hx hZ e0 B0 (g := (mkF m 1 #[.val (.ref a1), .val (.int (2 : Int32)), .val (.int q0), .val (.int q1), .val (.int q2), .val (.int q3)] [(.ref a1)])) rfl rfl (hb hby d2_1) _ ?_
    show Steps p.tables e below (s₁.setTop (mkF m 2 #[.val (.ref a1), .val (.int (2 : Int32)), .val (.int q0), .val (.int q1), .val (.int q2), .val (.int q3)] [(.int (Int32.ofNat 2))])) _
    refine XS.iloadN X0.here hx rfl (hb hby d2_2) rfl ?_
    show Steps p.tables e below (s₁.setTop (mkF m 3 #[.val (.ref a1), .val (.int (2 : Int32)), .val (.int q0), .val (.int q1), .val (.int q2), .val (.int q3)] [(.int (2 : Int32)), (.int (Int32.ofNat 2))])) _
    refine XS.icmpYes X0.here hx rfl (pc0 := 3) (pc' := 8) rfl (hb hby d2_3) rfl (teq (by decide)).1 (by decide) (by decide) ?_
    show Steps p.tables e below (s₁.setTop (mkF m 8 #[.val (.ref a1), .val (.int (2 : Int32)), .val (.int q0), .val (.int q1), .val (.int q2), .val (.int q3)] [])) _
    refine XS.iloadN X0.here hx rfl (hb hby d2_8) rfl ?_
    show Steps p.tables e below (s₁.setTop (mkF m 9 #[.val (.ref a1), .val (.int (2 : Int32)), .val (.int q0), .val (.int q1), .val (.int q2), .val (.int q3)] [(.int (2 : Int32))])) _
    refine XS.iconst X0.here hx rfl (hb hby d2_9) ?_
    show Steps p.tables e below (s₁.setTop (mkF m 10 #[.val (.ref a1), .val (.int (2 : Int32)), .val (.int q0), .val (.int q1), .val (.int q2), .val (.int q3)] [(.int (1 : Int32)), (.int (2 : Int32))])) _
    refine XS.icmpNo X0.here hx rfl (hb hby d2_10) rfl (tlt (by decide)).2.2.2 ?_
    show Steps p.tables e below (s₁.setTop (mkF m 13 #[.val (.ref a1), .val (.int (2 : Int32)), .val (.int q0), .val (.int q1), .val (.int q2), .val (.int q3)] [])) _
    refine XS.aloadN X0.here hx rfl (hb hby d2_13) rfl rfl ?_
    show Steps p.tables e below (s₁.setTop (mkF m 14 #[.val (.ref a1), .val (.int (2 : Int32)), .val (.int q0), .val (.int q1), .val (.int q2), .val (.int q3)] [(.ref a1)])) _
    refine XS.iconst X0.here hx rfl (hb hby d2_14) ?_
    show Steps p.tables e below (s₁.setTop (mkF m 15 #[.val (.ref a1), .val (.int (2 : Int32)), .val (.int q0), .val (.int q1), .val (.int q2), .val (.int q3)] [(.int (0 : Int32)), (.ref a1)])) _
    refine own_bload X0 hx hZ e0 B0 (k := 0) (by decide) (by decide) (g := (mkF m 15 #[.val (.ref a1), .val (.int (2 : Int32)), .val (.int q0), .val (.int q1), .val (.int q2), .val (.int q3)] [(.int (0 : Int32)), (.ref a1)])) rfl rfl (hb hby d2_15) _ ?_
    show Steps p.tables e below (s₁.setTop (mkF m 16 #[.val (.ref a1), .val (.int (2 : Int32)), .val (.int q0), .val (.int q1), .val (.int q2), .val (.int q3)] [(.int (f 0))])) _
    refine XS.iloadN X0.here hx rfl (hb hby d2_16) rfl ?_
    show Steps p.tables e below (s₁.setTop (mkF m 17 #[.val (.ref a1), .val (.int (2 : Int32)), .val (.int q0), .val (.int q1), .val (.int q2), .val (.int q3)] [(.int q0), (.int (f 0))])) _
    refine XS.icmpYes X0.here hx rfl (pc0 := 17) (pc' := 22) rfl (hb hby d2_17) rfl (teq c0).1 (by decide) (by decide) ?_
    show Steps p.tables e below (s₁.setTop (mkF m 22 #[.val (.ref a1), .val (.int (2 : Int32)), .val (.int q0), .val (.int q1), .val (.int q2), .val (.int q3)] [])) _
    refine XS.iloadN X0.here hx rfl (hb hby d2_22) rfl ?_
    show Steps p.tables e below (s₁.setTop (mkF m 23 #[.val (.ref a1), .val (.int (2 : Int32)), .val (.int q0), .val (.int q1), .val (.int q2), .val (.int q3)] [(.int (2 : Int32))])) _
    refine XS.iconst X0.here hx rfl (hb hby d2_23) ?_
    show Steps p.tables e below (s₁.setTop (mkF m 24 #[.val (.ref a1), .val (.int (2 : Int32)), .val (.int q0), .val (.int q1), .val (.int q2), .val (.int q3)] [(.int (2 : Int32)), (.int (2 : Int32))])) _
    refine XS.icmpYes X0.here hx rfl (pc0 := 24) (pc' := 36) rfl (hb hby d2_24) rfl (flt (by decide)).2.2.2 (by decide) (by decide) ?_
    show Steps p.tables e below (s₁.setTop (mkF m 36 #[.val (.ref a1), .val (.int (2 : Int32)), .val (.int q0), .val (.int q1), .val (.int q2), .val (.int q3)] [])) _
    refine XS.iloadN X0.here hx rfl (hb hby d2_36) rfl ?_
    show Steps p.tables e below (s₁.setTop (mkF m 37 #[.val (.ref a1), .val (.int (2 : Int32)), .val (.int q0), .val (.int q1), .val (.int q2), .val (.int q3)] [(.int (2 : Int32))])) _
    refine XS.iconst X0.here hx rfl (hb hby d2_37) ?_
    show Steps p.tables e below (s₁.setTop (mkF m 38 #[.val (.ref a1), .val (.int (2 : Int32)), .val (.int q0), .val (.int q1), .val (.int q2), .val (.int q3)] [(.int (3 : Int32)), (.int (2 : Int32))])) _
    refine XS.icmpYes X0.here hx rfl (pc0 := 38) (pc' := 51) rfl (hb hby d2_38) rfl (flt (by decide)).2.2.2 (by decide) (by decide) ?_
    show Steps p.tables e below (s₁.setTop (mkF m 51 #[.val (.ref a1), .val (.int (2 : Int32)), .val (.int q0), .val (.int q1), .val (.int q2), .val (.int q3)] [])) _
    refine XS.aloadN X0.here hx rfl (hb hby d2_51) rfl rfl ?_
    show Steps p.tables e below (s₁.setTop (mkF m 52 #[.val (.ref a1), .val (.int (2 : Int32)), .val (.int q0), .val (.int q1), .val (.int q2), .val (.int q3)] [(.ref a1)])) _
    refine XS.iloadN X0.here hx rfl (hb hby d2_52) rfl ?_
    show Steps p.tables e below (s₁.setTop (mkF m 53 #[.val (.ref a1), .val (.int (2 : Int32)), .val (.int q0), .val (.int q1), .val (.int q2), .val (.int q3)] [(.int (2 : Int32)), (.ref a1)])) _
    refine XS.iconst X0.here hx rfl (hb hby d2_53) ?_
    show Steps p.tables e below (s₁.setTop (mkF m 54 #[.val (.ref a1), .val (.int (2 : Int32)), .val (.int q0), .val (.int q1), .val (.int q2), .val (.int q3)] [(.int (1 : Int32)), (.int (2 : Int32)), (.ref a1)])) _
    refine XS.isub X0.here hx rfl (hb hby d2_54) rfl ?_
    show Steps p.tables e below (s₁.setTop (mkF m 55 #[.val (.ref a1), .val (.int (2 : Int32)), .val (.int q0), .val (.int q1), .val (.int q2), .val (.int q3)] [(.int ((2 : Int32) - (1 : Int32))), (.ref a1)])) _
    refine own_bload X0 hx hZ e0 B0 (k := 1) (by decide) (by decide) (g := (mkF m 55 #[.val (.ref a1), .val (.int (2 : Int32)), .val (.int q0), .val (.int q1), .val (.int q2), .val (.int q3)] [(.int ((2 : Int32) - (1 : Int32))), (.ref a1)])) rfl rfl (hb hby d2_55) _ ?_
    show Steps p.tables e below (s₁.setTop (mkF m 56 #[.val (.ref a1), .val (.int (2 : Int32)), .val (.int q0), .val (.int q1), .val (.int q2), .val (.int q3)] [(.int (f 1))])) _
    refine XS.iload X0.here hx rfl (hb hby d2_56) rfl ?_
    show Steps p.tables e below (s₁.setTop (mkF m 58 #[.val (.ref a1), .val (.int (2 : Int32)), .val (.int q0), .val (.int q1), .val (.int q2), .val (.int q3)] [(.int q3), (.int (f 1))])) _
    refine XS.icmpNo X0.here hx rfl (hb hby d2_58) rfl (teq c9).2 ?_
    show Steps p.tables e below (s₁.setTop (mkF m 61 #[.val (.ref a1), .val (.int (2 : Int32)), .val (.int q0), .val (.int q1), .val (.int q2), .val (.int q3)] [])) _
    refine XS.iconst X0.here hx rfl (hb hby d2_61) ?_
    show Steps p.tables e below (s₁.setTop (mkF m 62 #[.val (.ref a1), .val (.int (2 : Int32)), .val (.int q0), .val (.int q1), .val (.int q2), .val (.int q3)] [(.int (1 : Int32))])) _
    refine XS.goto X0.here hx rfl (pc0 := 62) (pc' := 66) rfl (hb hby d2_62) (by decide) (by decide) ?_
    exact kt)
  obtain ⟨fs, hr, hrun, hended, hW, hsame⟩ := X0.leave (v := some (.int (1 : Int32))) (fun h => by rw [Bd.returns] at h; cases h)
  refine ⟨_, _, prek2_2 _ ?_, hrun, hended, _, _, rfl, ?_, ⟨_, rfl⟩, hW, hsame.mono (by decide) (by decide)⟩
  · show Steps p.tables e below (s₁.setTop (mkF m 66 #[.val (.ref a1), .val (.int (2 : Int32)), .val (.int q0), .val (.int q1), .val (.int q2), .val (.int q3)] [(.int (1 : Int32))])) _
    exact retN X0 hx (t := .boolean) Bd.returns (by simp) (hb hby d2_66) hr
  · show Q2_2 Z a1 f q0 q1 q2 q3 h0 n0 _ s₁.heap _
    rw [e0]
    exact ⟨rfl, N0, rfl⟩
def Q2_3 (Z : State) (a1 : Addr) (f : Nat → Int32) (q0 q1 q2 q3 : Int32) (h0 : Heap) (n0 : Nat) (v : Option Value) (h : Heap) (L : List Loc) : Prop := v = some (.int (1 : Int32)) ∧ Fr n0 L ∧ h = h0
set_option maxRecDepth 65536 in
set_option maxHeartbeats 40000000 in
theorem rm2_3 (l : Launch) (Z : State) (a0 : Array Value) (hw : ∀ d ∈ tables_1, d.before a0 Z = true) (ws : List Jvm.Cond) (a1 : Addr) (f : Nat → Int32) (q0 q1 q2 q3 : Int32) (h0 : Heap) (n0 : Nat) (Z0 : n0 ≤ h0.size) (B0 : BA Z h0 a1 3 f) (c0 : f 0 = q0) (c1 : f 1 = q1) (c9 : f 2 = q3) :
    MetFree l (⟨"com/example/treecreeper/treecreeper/store/RecordCodecPastStartPinLaw", "same", "([BIBBBB)Z"⟩ : MethodName) (head1 (Jvm.Cond.code (⟨"com/example/treecreeper/treecreeper/store/RecordCodecPastStartPinLaw", "same", "([BIBBBB)Z"⟩ : MethodName) method_3_code 6 (some .boolean) :: ws) ({ frames := 0, cells := 0, slots := 0, locals := 0 } : Room)) (fun a U => a = #[(.ref a1), (.int (3 : Int32)), (.int q0), (.int q1), (.int q2), (.int q3)] ∧ Z.Warmed39 U.vm ∧ U.heap = h0) (fun _ _ _ _ _ => True) (fun _ U ou U' => ∃ v L, ou = .returned v ∧ Q2_3 Z a1 f q0 q1 q2 q3 h0 n0 v U'.heap L ∧ FrameEnd U ou U' L ({ frames := 0, cells := 0, slots := 0, locals := 0 } : Room).cells ({ frames := 0, cells := 0, slots := 0, locals := 0 } : Room).slots) := by
  refine MetFree.of_bodySF (plainFor_of_name pn_2) hisR ?_
  intro p e s m args below meth c s₁ Bd hml0 hP hK
  obtain ⟨rfl, hZ, hh⟩ := hP
  have hx := Bd.exec
  have hby := Bd.bytes
  have hml : c.maxLocals = 6 := hml0
  have hown : s.vm.findClass "com/example/treecreeper/treecreeper/store/RecordCodecPastStartPinLaw" = some m.cls := findClass_of_methodNamed Bd.named
  have hnm := (name_of_methodNamed Bd.named Bd.method).1
  have X0 : Stand p l e ({ frames := 0, cells := 0, slots := 0, locals := 0 } : Room) s m #[(.ref a1), (.int (3 : Int32)), (.int q0), (.int q1), (.int q2), (.int q3)] below meth c s₁ [] 0 0 := Stand.of_body Bd
  have e0 : s₁.heap = h0 := by rw [← hh, Bd.state]; rfl
  have N0 := Fr.nil n0
  have pre0 : ∀ t, Steps p.tables e below (s₁.setTop (mkF m 0 #[.val (.ref a1), .val (.int (3 : Int32)), .val (.int q0), .val (.int q1), .val (.int q2), .val (.int q3)] [])) t → Steps p.tables e below (s₁.setTop (entryFrame m #[(.ref a1), (.int (3 : Int32)), (.int q0), (.int q1), (.int q2), (.int q3)] 6)) t := fun t k => castTop (ef_2 m (a1) ((3 : Int32)) (q0) (q1) (q2) (q3)) k
  have prek3_3 : ∀ t, Steps p.tables e below (s₁.setTop (mkF m 66 #[.val (.ref a1), .val (.int (3 : Int32)), .val (.int q0), .val (.int q1), .val (.int q2), .val (.int q3)] [(.int (1 : Int32))])) t → Steps p.tables e below (s₁.setTop (entryFrame m #[(.ref a1), (.int (3 : Int32)), (.int q0), (.int q1), (.int q2), (.int q3)] 6)) t := fun t kt => pre0 t (by
    show Steps p.tables e below (s₁.setTop (mkF m 0 #[.val (.ref a1), .val (.int (3 : Int32)), .val (.int q0), .val (.int q1), .val (.int q2), .val (.int q3)] [])) _
    refine XS.aloadN X0.here hx rfl (hb hby d2_0) rfl rfl ?_
    show Steps p.tables e below (s₁.setTop (mkF m 1 #[.val (.ref a1), .val (.int (3 : Int32)), .val (.int q0), .val (.int q1), .val (.int q2), .val (.int q3)] [(.ref a1)])) _
    refine own_blen X0 hx hZ e0 B0 (g := (mkF m 1 #[.val (.ref a1), .val (.int (3 : Int32)), .val (.int q0), .val (.int q1), .val (.int q2), .val (.int q3)] [(.ref a1)])) rfl rfl (hb hby d2_1) _ ?_
    show Steps p.tables e below (s₁.setTop (mkF m 2 #[.val (.ref a1), .val (.int (3 : Int32)), .val (.int q0), .val (.int q1), .val (.int q2), .val (.int q3)] [(.int (Int32.ofNat 3))])) _
    refine XS.iloadN X0.here hx rfl (hb hby d2_2) rfl ?_
    show Steps p.tables e below (s₁.setTop (mkF m 3 #[.val (.ref a1), .val (.int (3 : Int32)), .val (.int q0), .val (.int q1), .val (.int q2), .val (.int q3)] [(.int (3 : Int32)), (.int (Int32.ofNat 3))])) _
    refine XS.icmpYes X0.here hx rfl (pc0 := 3) (pc' := 8) rfl (hb hby d2_3) rfl (teq (by decide)).1 (by decide) (by decide) ?_
    show Steps p.tables e below (s₁.setTop (mkF m 8 #[.val (.ref a1), .val (.int (3 : Int32)), .val (.int q0), .val (.int q1), .val (.int q2), .val (.int q3)] [])) _
    refine XS.iloadN X0.here hx rfl (hb hby d2_8) rfl ?_
    show Steps p.tables e below (s₁.setTop (mkF m 9 #[.val (.ref a1), .val (.int (3 : Int32)), .val (.int q0), .val (.int q1), .val (.int q2), .val (.int q3)] [(.int (3 : Int32))])) _
    refine XS.iconst X0.here hx rfl (hb hby d2_9) ?_
    show Steps p.tables e below (s₁.setTop (mkF m 10 #[.val (.ref a1), .val (.int (3 : Int32)), .val (.int q0), .val (.int q1), .val (.int q2), .val (.int q3)] [(.int (1 : Int32)), (.int (3 : Int32))])) _
    refine XS.icmpNo X0.here hx rfl (hb hby d2_10) rfl (tlt (by decide)).2.2.2 ?_
    show Steps p.tables e below (s₁.setTop (mkF m 13 #[.val (.ref a1), .val (.int (3 : Int32)), .val (.int q0), .val (.int q1), .val (.int q2), .val (.int q3)] [])) _
    refine XS.aloadN X0.here hx rfl (hb hby d2_13) rfl rfl ?_
    show Steps p.tables e below (s₁.setTop (mkF m 14 #[.val (.ref a1), .val (.int (3 : Int32)), .val (.int q0), .val (.int q1), .val (.int q2), .val (.int q3)] [(.ref a1)])) _
    refine XS.iconst X0.here hx rfl (hb hby d2_14) ?_
    show Steps p.tables e below (s₁.setTop (mkF m 15 #[.val (.ref a1), .val (.int (3 : Int32)), .val (.int q0), .val (.int q1), .val (.int q2), .val (.int q3)] [(.int (0 : Int32)), (.ref a1)])) _
    refine own_bload X0 hx hZ e0 B0 (k := 0) (by decide) (by decide) (g := (mkF m 15 #[.val (.ref a1), .val (.int (3 : Int32)), .val (.int q0), .val (.int q1), .val (.int q2), .val (.int q3)] [(.int (0 : Int32)), (.ref a1)])) rfl rfl (hb hby d2_15) _ ?_
    show Steps p.tables e below (s₁.setTop (mkF m 16 #[.val (.ref a1), .val (.int (3 : Int32)), .val (.int q0), .val (.int q1), .val (.int q2), .val (.int q3)] [(.int (f 0))])) _
    refine XS.iloadN X0.here hx rfl (hb hby d2_16) rfl ?_
    show Steps p.tables e below (s₁.setTop (mkF m 17 #[.val (.ref a1), .val (.int (3 : Int32)), .val (.int q0), .val (.int q1), .val (.int q2), .val (.int q3)] [(.int q0), (.int (f 0))])) _
    refine XS.icmpYes X0.here hx rfl (pc0 := 17) (pc' := 22) rfl (hb hby d2_17) rfl (teq c0).1 (by decide) (by decide) ?_
    show Steps p.tables e below (s₁.setTop (mkF m 22 #[.val (.ref a1), .val (.int (3 : Int32)), .val (.int q0), .val (.int q1), .val (.int q2), .val (.int q3)] [])) _
    refine XS.iloadN X0.here hx rfl (hb hby d2_22) rfl ?_
    show Steps p.tables e below (s₁.setTop (mkF m 23 #[.val (.ref a1), .val (.int (3 : Int32)), .val (.int q0), .val (.int q1), .val (.int q2), .val (.int q3)] [(.int (3 : Int32))])) _
    refine XS.iconst X0.here hx rfl (hb hby d2_23) ?_
    show Steps p.tables e below (s₁.setTop (mkF m 24 #[.val (.ref a1), .val (.int (3 : Int32)), .val (.int q0), .val (.int q1), .val (.int q2), .val (.int q3)] [(.int (2 : Int32)), (.int (3 : Int32))])) _
    refine XS.icmpNo X0.here hx rfl (hb hby d2_24) rfl (tlt (by decide)).2.2.2 ?_
    show Steps p.tables e below (s₁.setTop (mkF m 27 #[.val (.ref a1), .val (.int (3 : Int32)), .val (.int q0), .val (.int q1), .val (.int q2), .val (.int q3)] [])) _
    refine XS.aloadN X0.here hx rfl (hb hby d2_27) rfl rfl ?_
    show Steps p.tables e below (s₁.setTop (mkF m 28 #[.val (.ref a1), .val (.int (3 : Int32)), .val (.int q0), .val (.int q1), .val (.int q2), .val (.int q3)] [(.ref a1)])) _
    refine XS.iconst X0.here hx rfl (hb hby d2_28) ?_
    show Steps p.tables e below (s₁.setTop (mkF m 29 #[.val (.ref a1), .val (.int (3 : Int32)), .val (.int q0), .val (.int q1), .val (.int q2), .val (.int q3)] [(.int (1 : Int32)), (.ref a1)])) _
    refine own_bload X0 hx hZ e0 B0 (k := 1) (by decide) (by decide) (g := (mkF m 29 #[.val (.ref a1), .val (.int (3 : Int32)), .val (.int q0), .val (.int q1), .val (.int q2), .val (.int q3)] [(.int (1 : Int32)), (.ref a1)])) rfl rfl (hb hby d2_29) _ ?_
    show Steps p.tables e below (s₁.setTop (mkF m 30 #[.val (.ref a1), .val (.int (3 : Int32)), .val (.int q0), .val (.int q1), .val (.int q2), .val (.int q3)] [(.int (f 1))])) _
    refine XS.iloadN X0.here hx rfl (hb hby d2_30) rfl ?_
    show Steps p.tables e below (s₁.setTop (mkF m 31 #[.val (.ref a1), .val (.int (3 : Int32)), .val (.int q0), .val (.int q1), .val (.int q2), .val (.int q3)] [(.int q1), (.int (f 1))])) _
    refine XS.icmpYes X0.here hx rfl (pc0 := 31) (pc' := 36) rfl (hb hby d2_31) rfl (teq c1).1 (by decide) (by decide) ?_
    show Steps p.tables e below (s₁.setTop (mkF m 36 #[.val (.ref a1), .val (.int (3 : Int32)), .val (.int q0), .val (.int q1), .val (.int q2), .val (.int q3)] [])) _
    refine XS.iloadN X0.here hx rfl (hb hby d2_36) rfl ?_
    show Steps p.tables e below (s₁.setTop (mkF m 37 #[.val (.ref a1), .val (.int (3 : Int32)), .val (.int q0), .val (.int q1), .val (.int q2), .val (.int q3)] [(.int (3 : Int32))])) _
    refine XS.iconst X0.here hx rfl (hb hby d2_37) ?_
    show Steps p.tables e below (s₁.setTop (mkF m 38 #[.val (.ref a1), .val (.int (3 : Int32)), .val (.int q0), .val (.int q1), .val (.int q2), .val (.int q3)] [(.int (3 : Int32)), (.int (3 : Int32))])) _
    refine XS.icmpYes X0.here hx rfl (pc0 := 38) (pc' := 51) rfl (hb hby d2_38) rfl (flt (by decide)).2.2.2 (by decide) (by decide) ?_
    show Steps p.tables e below (s₁.setTop (mkF m 51 #[.val (.ref a1), .val (.int (3 : Int32)), .val (.int q0), .val (.int q1), .val (.int q2), .val (.int q3)] [])) _
    refine XS.aloadN X0.here hx rfl (hb hby d2_51) rfl rfl ?_
    show Steps p.tables e below (s₁.setTop (mkF m 52 #[.val (.ref a1), .val (.int (3 : Int32)), .val (.int q0), .val (.int q1), .val (.int q2), .val (.int q3)] [(.ref a1)])) _
    refine XS.iloadN X0.here hx rfl (hb hby d2_52) rfl ?_
    show Steps p.tables e below (s₁.setTop (mkF m 53 #[.val (.ref a1), .val (.int (3 : Int32)), .val (.int q0), .val (.int q1), .val (.int q2), .val (.int q3)] [(.int (3 : Int32)), (.ref a1)])) _
    refine XS.iconst X0.here hx rfl (hb hby d2_53) ?_
    show Steps p.tables e below (s₁.setTop (mkF m 54 #[.val (.ref a1), .val (.int (3 : Int32)), .val (.int q0), .val (.int q1), .val (.int q2), .val (.int q3)] [(.int (1 : Int32)), (.int (3 : Int32)), (.ref a1)])) _
    refine XS.isub X0.here hx rfl (hb hby d2_54) rfl ?_
    show Steps p.tables e below (s₁.setTop (mkF m 55 #[.val (.ref a1), .val (.int (3 : Int32)), .val (.int q0), .val (.int q1), .val (.int q2), .val (.int q3)] [(.int ((3 : Int32) - (1 : Int32))), (.ref a1)])) _
    refine own_bload X0 hx hZ e0 B0 (k := 2) (by decide) (by decide) (g := (mkF m 55 #[.val (.ref a1), .val (.int (3 : Int32)), .val (.int q0), .val (.int q1), .val (.int q2), .val (.int q3)] [(.int ((3 : Int32) - (1 : Int32))), (.ref a1)])) rfl rfl (hb hby d2_55) _ ?_
    show Steps p.tables e below (s₁.setTop (mkF m 56 #[.val (.ref a1), .val (.int (3 : Int32)), .val (.int q0), .val (.int q1), .val (.int q2), .val (.int q3)] [(.int (f 2))])) _
    refine XS.iload X0.here hx rfl (hb hby d2_56) rfl ?_
    show Steps p.tables e below (s₁.setTop (mkF m 58 #[.val (.ref a1), .val (.int (3 : Int32)), .val (.int q0), .val (.int q1), .val (.int q2), .val (.int q3)] [(.int q3), (.int (f 2))])) _
    refine XS.icmpNo X0.here hx rfl (hb hby d2_58) rfl (teq c9).2 ?_
    show Steps p.tables e below (s₁.setTop (mkF m 61 #[.val (.ref a1), .val (.int (3 : Int32)), .val (.int q0), .val (.int q1), .val (.int q2), .val (.int q3)] [])) _
    refine XS.iconst X0.here hx rfl (hb hby d2_61) ?_
    show Steps p.tables e below (s₁.setTop (mkF m 62 #[.val (.ref a1), .val (.int (3 : Int32)), .val (.int q0), .val (.int q1), .val (.int q2), .val (.int q3)] [(.int (1 : Int32))])) _
    refine XS.goto X0.here hx rfl (pc0 := 62) (pc' := 66) rfl (hb hby d2_62) (by decide) (by decide) ?_
    exact kt)
  obtain ⟨fs, hr, hrun, hended, hW, hsame⟩ := X0.leave (v := some (.int (1 : Int32))) (fun h => by rw [Bd.returns] at h; cases h)
  refine ⟨_, _, prek3_3 _ ?_, hrun, hended, _, _, rfl, ?_, ⟨_, rfl⟩, hW, hsame.mono (by decide) (by decide)⟩
  · show Steps p.tables e below (s₁.setTop (mkF m 66 #[.val (.ref a1), .val (.int (3 : Int32)), .val (.int q0), .val (.int q1), .val (.int q2), .val (.int q3)] [(.int (1 : Int32))])) _
    exact retN X0 hx (t := .boolean) Bd.returns (by simp) (hb hby d2_66) hr
  · show Q2_3 Z a1 f q0 q1 q2 q3 h0 n0 _ s₁.heap _
    rw [e0]
    exact ⟨rfl, N0, rfl⟩
def Q2_4 (Z : State) (a1 : Addr) (f : Nat → Int32) (q0 q1 q2 q3 : Int32) (h0 : Heap) (n0 : Nat) (v : Option Value) (h : Heap) (L : List Loc) : Prop := v = some (.int (1 : Int32)) ∧ Fr n0 L ∧ h = h0
set_option maxRecDepth 65536 in
set_option maxHeartbeats 40000000 in
theorem rm2_4 (l : Launch) (Z : State) (a0 : Array Value) (hw : ∀ d ∈ tables_1, d.before a0 Z = true) (ws : List Jvm.Cond) (a1 : Addr) (f : Nat → Int32) (q0 q1 q2 q3 : Int32) (h0 : Heap) (n0 : Nat) (Z0 : n0 ≤ h0.size) (B0 : BA Z h0 a1 4 f) (c0 : f 0 = q0) (c1 : f 1 = q1) (c2 : f 2 = q2) (c9 : f 3 = q3) :
    MetFree l (⟨"com/example/treecreeper/treecreeper/store/RecordCodecPastStartPinLaw", "same", "([BIBBBB)Z"⟩ : MethodName) (head1 (Jvm.Cond.code (⟨"com/example/treecreeper/treecreeper/store/RecordCodecPastStartPinLaw", "same", "([BIBBBB)Z"⟩ : MethodName) method_3_code 6 (some .boolean) :: ws) ({ frames := 0, cells := 0, slots := 0, locals := 0 } : Room)) (fun a U => a = #[(.ref a1), (.int (4 : Int32)), (.int q0), (.int q1), (.int q2), (.int q3)] ∧ Z.Warmed39 U.vm ∧ U.heap = h0) (fun _ _ _ _ _ => True) (fun _ U ou U' => ∃ v L, ou = .returned v ∧ Q2_4 Z a1 f q0 q1 q2 q3 h0 n0 v U'.heap L ∧ FrameEnd U ou U' L ({ frames := 0, cells := 0, slots := 0, locals := 0 } : Room).cells ({ frames := 0, cells := 0, slots := 0, locals := 0 } : Room).slots) := by
  refine MetFree.of_bodySF (plainFor_of_name pn_2) hisR ?_
  intro p e s m args below meth c s₁ Bd hml0 hP hK
  obtain ⟨rfl, hZ, hh⟩ := hP
  have hx := Bd.exec
  have hby := Bd.bytes
  have hml : c.maxLocals = 6 := hml0
  have hown : s.vm.findClass "com/example/treecreeper/treecreeper/store/RecordCodecPastStartPinLaw" = some m.cls := findClass_of_methodNamed Bd.named
  have hnm := (name_of_methodNamed Bd.named Bd.method).1
  have X0 : Stand p l e ({ frames := 0, cells := 0, slots := 0, locals := 0 } : Room) s m #[(.ref a1), (.int (4 : Int32)), (.int q0), (.int q1), (.int q2), (.int q3)] below meth c s₁ [] 0 0 := Stand.of_body Bd
  have e0 : s₁.heap = h0 := by rw [← hh, Bd.state]; rfl
  have N0 := Fr.nil n0
  have pre0 : ∀ t, Steps p.tables e below (s₁.setTop (mkF m 0 #[.val (.ref a1), .val (.int (4 : Int32)), .val (.int q0), .val (.int q1), .val (.int q2), .val (.int q3)] [])) t → Steps p.tables e below (s₁.setTop (entryFrame m #[(.ref a1), (.int (4 : Int32)), (.int q0), (.int q1), (.int q2), (.int q3)] 6)) t := fun t k => castTop (ef_2 m (a1) ((4 : Int32)) (q0) (q1) (q2) (q3)) k
  have prek4_4 : ∀ t, Steps p.tables e below (s₁.setTop (mkF m 66 #[.val (.ref a1), .val (.int (4 : Int32)), .val (.int q0), .val (.int q1), .val (.int q2), .val (.int q3)] [(.int (1 : Int32))])) t → Steps p.tables e below (s₁.setTop (entryFrame m #[(.ref a1), (.int (4 : Int32)), (.int q0), (.int q1), (.int q2), (.int q3)] 6)) t := fun t kt => pre0 t (by
    show Steps p.tables e below (s₁.setTop (mkF m 0 #[.val (.ref a1), .val (.int (4 : Int32)), .val (.int q0), .val (.int q1), .val (.int q2), .val (.int q3)] [])) _
    refine XS.aloadN X0.here hx rfl (hb hby d2_0) rfl rfl ?_
    show Steps p.tables e below (s₁.setTop (mkF m 1 #[.val (.ref a1), .val (.int (4 : Int32)), .val (.int q0), .val (.int q1), .val (.int q2), .val (.int q3)] [(.ref a1)])) _
    refine own_blen X0 hx hZ e0 B0 (g := (mkF m 1 #[.val (.ref a1), .val (.int (4 : Int32)), .val (.int q0), .val (.int q1), .val (.int q2), .val (.int q3)] [(.ref a1)])) rfl rfl (hb hby d2_1) _ ?_
    show Steps p.tables e below (s₁.setTop (mkF m 2 #[.val (.ref a1), .val (.int (4 : Int32)), .val (.int q0), .val (.int q1), .val (.int q2), .val (.int q3)] [(.int (Int32.ofNat 4))])) _
    refine XS.iloadN X0.here hx rfl (hb hby d2_2) rfl ?_
    show Steps p.tables e below (s₁.setTop (mkF m 3 #[.val (.ref a1), .val (.int (4 : Int32)), .val (.int q0), .val (.int q1), .val (.int q2), .val (.int q3)] [(.int (4 : Int32)), (.int (Int32.ofNat 4))])) _
    refine XS.icmpYes X0.here hx rfl (pc0 := 3) (pc' := 8) rfl (hb hby d2_3) rfl (teq (by decide)).1 (by decide) (by decide) ?_
    show Steps p.tables e below (s₁.setTop (mkF m 8 #[.val (.ref a1), .val (.int (4 : Int32)), .val (.int q0), .val (.int q1), .val (.int q2), .val (.int q3)] [])) _
    refine XS.iloadN X0.here hx rfl (hb hby d2_8) rfl ?_
    show Steps p.tables e below (s₁.setTop (mkF m 9 #[.val (.ref a1), .val (.int (4 : Int32)), .val (.int q0), .val (.int q1), .val (.int q2), .val (.int q3)] [(.int (4 : Int32))])) _
    refine XS.iconst X0.here hx rfl (hb hby d2_9) ?_
    show Steps p.tables e below (s₁.setTop (mkF m 10 #[.val (.ref a1), .val (.int (4 : Int32)), .val (.int q0), .val (.int q1), .val (.int q2), .val (.int q3)] [(.int (1 : Int32)), (.int (4 : Int32))])) _
    refine XS.icmpNo X0.here hx rfl (hb hby d2_10) rfl (tlt (by decide)).2.2.2 ?_
    show Steps p.tables e below (s₁.setTop (mkF m 13 #[.val (.ref a1), .val (.int (4 : Int32)), .val (.int q0), .val (.int q1), .val (.int q2), .val (.int q3)] [])) _
    refine XS.aloadN X0.here hx rfl (hb hby d2_13) rfl rfl ?_
    show Steps p.tables e below (s₁.setTop (mkF m 14 #[.val (.ref a1), .val (.int (4 : Int32)), .val (.int q0), .val (.int q1), .val (.int q2), .val (.int q3)] [(.ref a1)])) _
    refine XS.iconst X0.here hx rfl (hb hby d2_14) ?_
    show Steps p.tables e below (s₁.setTop (mkF m 15 #[.val (.ref a1), .val (.int (4 : Int32)), .val (.int q0), .val (.int q1), .val (.int q2), .val (.int q3)] [(.int (0 : Int32)), (.ref a1)])) _
    refine own_bload X0 hx hZ e0 B0 (k := 0) (by decide) (by decide) (g := (mkF m 15 #[.val (.ref a1), .val (.int (4 : Int32)), .val (.int q0), .val (.int q1), .val (.int q2), .val (.int q3)] [(.int (0 : Int32)), (.ref a1)])) rfl rfl (hb hby d2_15) _ ?_
    show Steps p.tables e below (s₁.setTop (mkF m 16 #[.val (.ref a1), .val (.int (4 : Int32)), .val (.int q0), .val (.int q1), .val (.int q2), .val (.int q3)] [(.int (f 0))])) _
    refine XS.iloadN X0.here hx rfl (hb hby d2_16) rfl ?_
    show Steps p.tables e below (s₁.setTop (mkF m 17 #[.val (.ref a1), .val (.int (4 : Int32)), .val (.int q0), .val (.int q1), .val (.int q2), .val (.int q3)] [(.int q0), (.int (f 0))])) _
    refine XS.icmpYes X0.here hx rfl (pc0 := 17) (pc' := 22) rfl (hb hby d2_17) rfl (teq c0).1 (by decide) (by decide) ?_
    show Steps p.tables e below (s₁.setTop (mkF m 22 #[.val (.ref a1), .val (.int (4 : Int32)), .val (.int q0), .val (.int q1), .val (.int q2), .val (.int q3)] [])) _
    refine XS.iloadN X0.here hx rfl (hb hby d2_22) rfl ?_
    show Steps p.tables e below (s₁.setTop (mkF m 23 #[.val (.ref a1), .val (.int (4 : Int32)), .val (.int q0), .val (.int q1), .val (.int q2), .val (.int q3)] [(.int (4 : Int32))])) _
    refine XS.iconst X0.here hx rfl (hb hby d2_23) ?_
    show Steps p.tables e below (s₁.setTop (mkF m 24 #[.val (.ref a1), .val (.int (4 : Int32)), .val (.int q0), .val (.int q1), .val (.int q2), .val (.int q3)] [(.int (2 : Int32)), (.int (4 : Int32))])) _
    refine XS.icmpNo X0.here hx rfl (hb hby d2_24) rfl (tlt (by decide)).2.2.2 ?_
    show Steps p.tables e below (s₁.setTop (mkF m 27 #[.val (.ref a1), .val (.int (4 : Int32)), .val (.int q0), .val (.int q1), .val (.int q2), .val (.int q3)] [])) _
    refine XS.aloadN X0.here hx rfl (hb hby d2_27) rfl rfl ?_
    show Steps p.tables e below (s₁.setTop (mkF m 28 #[.val (.ref a1), .val (.int (4 : Int32)), .val (.int q0), .val (.int q1), .val (.int q2), .val (.int q3)] [(.ref a1)])) _
    refine XS.iconst X0.here hx rfl (hb hby d2_28) ?_
    show Steps p.tables e below (s₁.setTop (mkF m 29 #[.val (.ref a1), .val (.int (4 : Int32)), .val (.int q0), .val (.int q1), .val (.int q2), .val (.int q3)] [(.int (1 : Int32)), (.ref a1)])) _
    refine own_bload X0 hx hZ e0 B0 (k := 1) (by decide) (by decide) (g := (mkF m 29 #[.val (.ref a1), .val (.int (4 : Int32)), .val (.int q0), .val (.int q1), .val (.int q2), .val (.int q3)] [(.int (1 : Int32)), (.ref a1)])) rfl rfl (hb hby d2_29) _ ?_
    show Steps p.tables e below (s₁.setTop (mkF m 30 #[.val (.ref a1), .val (.int (4 : Int32)), .val (.int q0), .val (.int q1), .val (.int q2), .val (.int q3)] [(.int (f 1))])) _
    refine XS.iloadN X0.here hx rfl (hb hby d2_30) rfl ?_
    show Steps p.tables e below (s₁.setTop (mkF m 31 #[.val (.ref a1), .val (.int (4 : Int32)), .val (.int q0), .val (.int q1), .val (.int q2), .val (.int q3)] [(.int q1), (.int (f 1))])) _
    refine XS.icmpYes X0.here hx rfl (pc0 := 31) (pc' := 36) rfl (hb hby d2_31) rfl (teq c1).1 (by decide) (by decide) ?_
    show Steps p.tables e below (s₁.setTop (mkF m 36 #[.val (.ref a1), .val (.int (4 : Int32)), .val (.int q0), .val (.int q1), .val (.int q2), .val (.int q3)] [])) _
    refine XS.iloadN X0.here hx rfl (hb hby d2_36) rfl ?_
    show Steps p.tables e below (s₁.setTop (mkF m 37 #[.val (.ref a1), .val (.int (4 : Int32)), .val (.int q0), .val (.int q1), .val (.int q2), .val (.int q3)] [(.int (4 : Int32))])) _
    refine XS.iconst X0.here hx rfl (hb hby d2_37) ?_
    show Steps p.tables e below (s₁.setTop (mkF m 38 #[.val (.ref a1), .val (.int (4 : Int32)), .val (.int q0), .val (.int q1), .val (.int q2), .val (.int q3)] [(.int (3 : Int32)), (.int (4 : Int32))])) _
    refine XS.icmpNo X0.here hx rfl (hb hby d2_38) rfl (tlt (by decide)).2.2.2 ?_
    show Steps p.tables e below (s₁.setTop (mkF m 41 #[.val (.ref a1), .val (.int (4 : Int32)), .val (.int q0), .val (.int q1), .val (.int q2), .val (.int q3)] [])) _
    refine XS.aloadN X0.here hx rfl (hb hby d2_41) rfl rfl ?_
    show Steps p.tables e below (s₁.setTop (mkF m 42 #[.val (.ref a1), .val (.int (4 : Int32)), .val (.int q0), .val (.int q1), .val (.int q2), .val (.int q3)] [(.ref a1)])) _
    refine XS.iconst X0.here hx rfl (hb hby d2_42) ?_
    show Steps p.tables e below (s₁.setTop (mkF m 43 #[.val (.ref a1), .val (.int (4 : Int32)), .val (.int q0), .val (.int q1), .val (.int q2), .val (.int q3)] [(.int (2 : Int32)), (.ref a1)])) _
    refine own_bload X0 hx hZ e0 B0 (k := 2) (by decide) (by decide) (g := (mkF m 43 #[.val (.ref a1), .val (.int (4 : Int32)), .val (.int q0), .val (.int q1), .val (.int q2), .val (.int q3)] [(.int (2 : Int32)), (.ref a1)])) rfl rfl (hb hby d2_43) _ ?_
    show Steps p.tables e below (s₁.setTop (mkF m 44 #[.val (.ref a1), .val (.int (4 : Int32)), .val (.int q0), .val (.int q1), .val (.int q2), .val (.int q3)] [(.int (f 2))])) _
    refine XS.iload X0.here hx rfl (hb hby d2_44) rfl ?_
    show Steps p.tables e below (s₁.setTop (mkF m 46 #[.val (.ref a1), .val (.int (4 : Int32)), .val (.int q0), .val (.int q1), .val (.int q2), .val (.int q3)] [(.int q2), (.int (f 2))])) _
    refine XS.icmpYes X0.here hx rfl (pc0 := 46) (pc' := 51) rfl (hb hby d2_46) rfl (teq c2).1 (by decide) (by decide) ?_
    show Steps p.tables e below (s₁.setTop (mkF m 51 #[.val (.ref a1), .val (.int (4 : Int32)), .val (.int q0), .val (.int q1), .val (.int q2), .val (.int q3)] [])) _
    refine XS.aloadN X0.here hx rfl (hb hby d2_51) rfl rfl ?_
    show Steps p.tables e below (s₁.setTop (mkF m 52 #[.val (.ref a1), .val (.int (4 : Int32)), .val (.int q0), .val (.int q1), .val (.int q2), .val (.int q3)] [(.ref a1)])) _
    refine XS.iloadN X0.here hx rfl (hb hby d2_52) rfl ?_
    show Steps p.tables e below (s₁.setTop (mkF m 53 #[.val (.ref a1), .val (.int (4 : Int32)), .val (.int q0), .val (.int q1), .val (.int q2), .val (.int q3)] [(.int (4 : Int32)), (.ref a1)])) _
    refine XS.iconst X0.here hx rfl (hb hby d2_53) ?_
    show Steps p.tables e below (s₁.setTop (mkF m 54 #[.val (.ref a1), .val (.int (4 : Int32)), .val (.int q0), .val (.int q1), .val (.int q2), .val (.int q3)] [(.int (1 : Int32)), (.int (4 : Int32)), (.ref a1)])) _
    refine XS.isub X0.here hx rfl (hb hby d2_54) rfl ?_
    show Steps p.tables e below (s₁.setTop (mkF m 55 #[.val (.ref a1), .val (.int (4 : Int32)), .val (.int q0), .val (.int q1), .val (.int q2), .val (.int q3)] [(.int ((4 : Int32) - (1 : Int32))), (.ref a1)])) _
    refine own_bload X0 hx hZ e0 B0 (k := 3) (by decide) (by decide) (g := (mkF m 55 #[.val (.ref a1), .val (.int (4 : Int32)), .val (.int q0), .val (.int q1), .val (.int q2), .val (.int q3)] [(.int ((4 : Int32) - (1 : Int32))), (.ref a1)])) rfl rfl (hb hby d2_55) _ ?_
    show Steps p.tables e below (s₁.setTop (mkF m 56 #[.val (.ref a1), .val (.int (4 : Int32)), .val (.int q0), .val (.int q1), .val (.int q2), .val (.int q3)] [(.int (f 3))])) _
    refine XS.iload X0.here hx rfl (hb hby d2_56) rfl ?_
    show Steps p.tables e below (s₁.setTop (mkF m 58 #[.val (.ref a1), .val (.int (4 : Int32)), .val (.int q0), .val (.int q1), .val (.int q2), .val (.int q3)] [(.int q3), (.int (f 3))])) _
    refine XS.icmpNo X0.here hx rfl (hb hby d2_58) rfl (teq c9).2 ?_
    show Steps p.tables e below (s₁.setTop (mkF m 61 #[.val (.ref a1), .val (.int (4 : Int32)), .val (.int q0), .val (.int q1), .val (.int q2), .val (.int q3)] [])) _
    refine XS.iconst X0.here hx rfl (hb hby d2_61) ?_
    show Steps p.tables e below (s₁.setTop (mkF m 62 #[.val (.ref a1), .val (.int (4 : Int32)), .val (.int q0), .val (.int q1), .val (.int q2), .val (.int q3)] [(.int (1 : Int32))])) _
    refine XS.goto X0.here hx rfl (pc0 := 62) (pc' := 66) rfl (hb hby d2_62) (by decide) (by decide) ?_
    exact kt)
  obtain ⟨fs, hr, hrun, hended, hW, hsame⟩ := X0.leave (v := some (.int (1 : Int32))) (fun h => by rw [Bd.returns] at h; cases h)
  refine ⟨_, _, prek4_4 _ ?_, hrun, hended, _, _, rfl, ?_, ⟨_, rfl⟩, hW, hsame.mono (by decide) (by decide)⟩
  · show Steps p.tables e below (s₁.setTop (mkF m 66 #[.val (.ref a1), .val (.int (4 : Int32)), .val (.int q0), .val (.int q1), .val (.int q2), .val (.int q3)] [(.int (1 : Int32))])) _
    exact retN X0 hx (t := .boolean) Bd.returns (by simp) (hb hby d2_66) hr
  · show Q2_4 Z a1 f q0 q1 q2 q3 h0 n0 _ s₁.heap _
    rw [e0]
    exact ⟨rfl, N0, rfl⟩
theorem pn_0 : plainName "com/example/treecreeper/treecreeper/store/RecordCodecPastStartPinLaw" = true := by first | (simp [plainName, overriddenIn]; done) | decide +kernel
theorem pd_0_0 : parseMethodDescriptor "([B)[B" = some ⟨[(.array .byte)], some (.array .byte)⟩ := by decide +kernel
theorem pd_0_1 : parseMethodDescriptor "([BIBBBB)Z" = some ⟨[(.array .byte), .int, .byte, .byte, .byte, .byte], some .boolean⟩ := by decide +kernel
theorem ef_0 (m : MethodId) (x0 : Int32) (x1 : Int32) (x2 : Int32) : entryFrame m #[(.int x0), (.int x1), (.int x2)] maxLocals = mkF m 0 #[.val (.int x0), .val (.int x1), .val (.int x2), .unset, .unset, .unset, .unset, .unset, .unset, .unset] [] := by first | (simp [entryFrame, mkF, argsToLocals, Value.category, maxLocals]; done) | rfl
def Q0 (Z : State) (p1 : Int32) (p2 : Int32) (p3 : Int32) (h0 : Heap) (n0 : Nat) (v : Option Value) (h : Heap) (L : List Loc) : Prop := v = some (.int (1 : Int32)) ∧ Fr n0 L
set_option maxRecDepth 65536 in
set_option maxHeartbeats 40000000 in
theorem rm0 (l : Launch) (Z : State) (a0 : Array Value) (hw : ∀ d ∈ tables_1, d.before a0 Z = true) (ws : List Jvm.Cond) (p1 : Int32) (p2 : Int32) (p3 : Int32) (h0 : Heap) (n0 : Nat) (Z0 : n0 ≤ h0.size)  :
    MetFree l x (head1 (Jvm.Cond.code x code maxLocals ret :: ws) room_1) (fun a U => a = #[(.int p1), (.int p2), (.int p3)] ∧ Z.Warmed39 U.vm ∧ U.heap = h0) (fun _ _ _ _ _ => True) (fun _ U ou U' => ∃ v L, ou = .returned v ∧ Q0 Z p1 p2 p3 h0 n0 v U'.heap L ∧ FrameEnd U ou U' L room_1.cells room_1.slots) := by
  refine MetFree.of_bodySF (plainFor_of_name pn_0) hisR ?_
  intro p e s m args below meth c s₁ Bd hml0 hP hK
  obtain ⟨rfl, hZ, hh⟩ := hP
  have hx := Bd.exec
  have hby := Bd.bytes
  have hml : c.maxLocals = 10 := hml0
  have hown : s.vm.findClass "com/example/treecreeper/treecreeper/store/RecordCodecPastStartPinLaw" = some m.cls := findClass_of_methodNamed Bd.named
  have hnm := (name_of_methodNamed Bd.named Bd.method).1
  have X0 : Stand p l e room_1 s m #[(.int p1), (.int p2), (.int p3)] below meth c s₁ [] 0 0 := Stand.of_body Bd
  have e0 : s₁.heap = h0 := by rw [← hh, Bd.state]; rfl
  have N0 := Fr.nil n0
  have pre0 : ∀ t, Steps p.tables e below (s₁.setTop (mkF m 0 #[.val (.int p1), .val (.int p2), .val (.int p3), .unset, .unset, .unset, .unset, .unset, .unset, .unset] [])) t → Steps p.tables e below (s₁.setTop (entryFrame m #[(.int p1), (.int p2), (.int p3)] maxLocals)) t := fun t k => castTop (ef_0 m (p1) (p2) (p3)) k
  have pre1 : ∀ t, Steps p.tables e below (s₁.setTop (mkF m 35 #[.val (.int p1), .val (.int p2), .val (.int p3), .val (.int ((1 : Int32) + (p1 &&& (3 : Int32)))), .val (.int ((p3 &&& (255 : Int32)) % (192 : Int32))), .val (.int (p2.toInt8.toInt32)), .val (.int (((p2.toUInt32 >>> ((8 : Int32) &&& 31).toUInt32).toInt32).toInt8.toInt32)), .val (.int (((p2.toUInt32 >>> ((16 : Int32) &&& 31).toUInt32).toInt32).toInt8.toInt32)), .unset, .unset] [])) t → Steps p.tables e below (s₁.setTop (entryFrame m #[(.int p1), (.int p2), (.int p3)] maxLocals)) t := fun t kt => pre0 t (by
    show Steps p.tables e below (s₁.setTop (mkF m 0 #[.val (.int p1), .val (.int p2), .val (.int p3), .unset, .unset, .unset, .unset, .unset, .unset, .unset] [])) _
    refine XS.iconst X0.here hx rfl (hb hby at_0) ?_
    show Steps p.tables e below (s₁.setTop (mkF m 1 #[.val (.int p1), .val (.int p2), .val (.int p3), .unset, .unset, .unset, .unset, .unset, .unset, .unset] [(.int (1 : Int32))])) _
    refine XS.iloadN X0.here hx rfl (hb hby at_1) rfl ?_
    show Steps p.tables e below (s₁.setTop (mkF m 2 #[.val (.int p1), .val (.int p2), .val (.int p3), .unset, .unset, .unset, .unset, .unset, .unset, .unset] [(.int p1), (.int (1 : Int32))])) _
    refine XS.iconst X0.here hx rfl (hb hby at_2) ?_
    show Steps p.tables e below (s₁.setTop (mkF m 3 #[.val (.int p1), .val (.int p2), .val (.int p3), .unset, .unset, .unset, .unset, .unset, .unset, .unset] [(.int (3 : Int32)), (.int p1), (.int (1 : Int32))])) _
    refine XS.iand X0.here hx rfl (hb hby at_3) rfl ?_
    show Steps p.tables e below (s₁.setTop (mkF m 4 #[.val (.int p1), .val (.int p2), .val (.int p3), .unset, .unset, .unset, .unset, .unset, .unset, .unset] [(.int (p1 &&& (3 : Int32))), (.int (1 : Int32))])) _
    refine XS.iadd X0.here hx rfl (hb hby at_4) rfl ?_
    show Steps p.tables e below (s₁.setTop (mkF m 5 #[.val (.int p1), .val (.int p2), .val (.int p3), .unset, .unset, .unset, .unset, .unset, .unset, .unset] [(.int ((1 : Int32) + (p1 &&& (3 : Int32))))])) _
    refine XS.istoreN X0.here hx rfl (hb hby at_5) rfl (l' := #[.val (.int p1), .val (.int p2), .val (.int p3), .val (.int ((1 : Int32) + (p1 &&& (3 : Int32)))), .unset, .unset, .unset, .unset, .unset, .unset]) rfl ?_
    show Steps p.tables e below (s₁.setTop (mkF m 6 #[.val (.int p1), .val (.int p2), .val (.int p3), .val (.int ((1 : Int32) + (p1 &&& (3 : Int32)))), .unset, .unset, .unset, .unset, .unset, .unset] [])) _
    refine XS.iloadN X0.here hx rfl (hb hby at_6) rfl ?_
    show Steps p.tables e below (s₁.setTop (mkF m 7 #[.val (.int p1), .val (.int p2), .val (.int p3), .val (.int ((1 : Int32) + (p1 &&& (3 : Int32)))), .unset, .unset, .unset, .unset, .unset, .unset] [(.int p3)])) _
    refine XS.sipush X0.here hx rfl (hb hby at_7) ?_
    show Steps p.tables e below (s₁.setTop (mkF m 10 #[.val (.int p1), .val (.int p2), .val (.int p3), .val (.int ((1 : Int32) + (p1 &&& (3 : Int32)))), .unset, .unset, .unset, .unset, .unset, .unset] [(.int (255 : Int32)), (.int p3)])) _
    refine XS.iand X0.here hx rfl (hb hby at_10) rfl ?_
    show Steps p.tables e below (s₁.setTop (mkF m 11 #[.val (.int p1), .val (.int p2), .val (.int p3), .val (.int ((1 : Int32) + (p1 &&& (3 : Int32)))), .unset, .unset, .unset, .unset, .unset, .unset] [(.int (p3 &&& (255 : Int32)))])) _
    refine XS.sipush X0.here hx rfl (hb hby at_11) ?_
    show Steps p.tables e below (s₁.setTop (mkF m 14 #[.val (.int p1), .val (.int p2), .val (.int p3), .val (.int ((1 : Int32) + (p1 &&& (3 : Int32)))), .unset, .unset, .unset, .unset, .unset, .unset] [(.int (192 : Int32)), (.int (p3 &&& (255 : Int32)))])) _
    refine iremM X0 hx rfl (hb hby at_14) rfl (by decide) ?_
    show Steps p.tables e below (s₁.setTop (mkF m 15 #[.val (.int p1), .val (.int p2), .val (.int p3), .val (.int ((1 : Int32) + (p1 &&& (3 : Int32)))), .unset, .unset, .unset, .unset, .unset, .unset] [(.int ((p3 &&& (255 : Int32)) % (192 : Int32)))])) _
    refine XS.istore X0.here hx rfl (hb hby at_15) rfl (l' := #[.val (.int p1), .val (.int p2), .val (.int p3), .val (.int ((1 : Int32) + (p1 &&& (3 : Int32)))), .val (.int ((p3 &&& (255 : Int32)) % (192 : Int32))), .unset, .unset, .unset, .unset, .unset]) rfl ?_
    show Steps p.tables e below (s₁.setTop (mkF m 17 #[.val (.int p1), .val (.int p2), .val (.int p3), .val (.int ((1 : Int32) + (p1 &&& (3 : Int32)))), .val (.int ((p3 &&& (255 : Int32)) % (192 : Int32))), .unset, .unset, .unset, .unset, .unset] [])) _
    refine XS.iloadN X0.here hx rfl (hb hby at_17) rfl ?_
    show Steps p.tables e below (s₁.setTop (mkF m 18 #[.val (.int p1), .val (.int p2), .val (.int p3), .val (.int ((1 : Int32) + (p1 &&& (3 : Int32)))), .val (.int ((p3 &&& (255 : Int32)) % (192 : Int32))), .unset, .unset, .unset, .unset, .unset] [(.int p2)])) _
    refine XS.i2b X0.here hx rfl (hb hby at_18) rfl ?_
    show Steps p.tables e below (s₁.setTop (mkF m 19 #[.val (.int p1), .val (.int p2), .val (.int p3), .val (.int ((1 : Int32) + (p1 &&& (3 : Int32)))), .val (.int ((p3 &&& (255 : Int32)) % (192 : Int32))), .unset, .unset, .unset, .unset, .unset] [(.int (p2.toInt8.toInt32))])) _
    refine XS.istore X0.here hx rfl (hb hby at_19) rfl (l' := #[.val (.int p1), .val (.int p2), .val (.int p3), .val (.int ((1 : Int32) + (p1 &&& (3 : Int32)))), .val (.int ((p3 &&& (255 : Int32)) % (192 : Int32))), .val (.int (p2.toInt8.toInt32)), .unset, .unset, .unset, .unset]) rfl ?_
    show Steps p.tables e below (s₁.setTop (mkF m 21 #[.val (.int p1), .val (.int p2), .val (.int p3), .val (.int ((1 : Int32) + (p1 &&& (3 : Int32)))), .val (.int ((p3 &&& (255 : Int32)) % (192 : Int32))), .val (.int (p2.toInt8.toInt32)), .unset, .unset, .unset, .unset] [])) _
    refine XS.iloadN X0.here hx rfl (hb hby at_21) rfl ?_
    show Steps p.tables e below (s₁.setTop (mkF m 22 #[.val (.int p1), .val (.int p2), .val (.int p3), .val (.int ((1 : Int32) + (p1 &&& (3 : Int32)))), .val (.int ((p3 &&& (255 : Int32)) % (192 : Int32))), .val (.int (p2.toInt8.toInt32)), .unset, .unset, .unset, .unset] [(.int p2)])) _
    refine XS.bipush X0.here hx rfl (hb hby at_22) ?_
    show Steps p.tables e below (s₁.setTop (mkF m 24 #[.val (.int p1), .val (.int p2), .val (.int p3), .val (.int ((1 : Int32) + (p1 &&& (3 : Int32)))), .val (.int ((p3 &&& (255 : Int32)) % (192 : Int32))), .val (.int (p2.toInt8.toInt32)), .unset, .unset, .unset, .unset] [(.int (8 : Int32)), (.int p2)])) _
    refine XS.iushr X0.here hx rfl (hb hby at_24) rfl ?_
    show Steps p.tables e below (s₁.setTop (mkF m 25 #[.val (.int p1), .val (.int p2), .val (.int p3), .val (.int ((1 : Int32) + (p1 &&& (3 : Int32)))), .val (.int ((p3 &&& (255 : Int32)) % (192 : Int32))), .val (.int (p2.toInt8.toInt32)), .unset, .unset, .unset, .unset] [(.int ((p2.toUInt32 >>> ((8 : Int32) &&& 31).toUInt32).toInt32))])) _
    refine XS.i2b X0.here hx rfl (hb hby at_25) rfl ?_
    show Steps p.tables e below (s₁.setTop (mkF m 26 #[.val (.int p1), .val (.int p2), .val (.int p3), .val (.int ((1 : Int32) + (p1 &&& (3 : Int32)))), .val (.int ((p3 &&& (255 : Int32)) % (192 : Int32))), .val (.int (p2.toInt8.toInt32)), .unset, .unset, .unset, .unset] [(.int (((p2.toUInt32 >>> ((8 : Int32) &&& 31).toUInt32).toInt32).toInt8.toInt32))])) _
    refine XS.istore X0.here hx rfl (hb hby at_26) rfl (l' := #[.val (.int p1), .val (.int p2), .val (.int p3), .val (.int ((1 : Int32) + (p1 &&& (3 : Int32)))), .val (.int ((p3 &&& (255 : Int32)) % (192 : Int32))), .val (.int (p2.toInt8.toInt32)), .val (.int (((p2.toUInt32 >>> ((8 : Int32) &&& 31).toUInt32).toInt32).toInt8.toInt32)), .unset, .unset, .unset]) rfl ?_
    show Steps p.tables e below (s₁.setTop (mkF m 28 #[.val (.int p1), .val (.int p2), .val (.int p3), .val (.int ((1 : Int32) + (p1 &&& (3 : Int32)))), .val (.int ((p3 &&& (255 : Int32)) % (192 : Int32))), .val (.int (p2.toInt8.toInt32)), .val (.int (((p2.toUInt32 >>> ((8 : Int32) &&& 31).toUInt32).toInt32).toInt8.toInt32)), .unset, .unset, .unset] [])) _
    refine XS.iloadN X0.here hx rfl (hb hby at_28) rfl ?_
    show Steps p.tables e below (s₁.setTop (mkF m 29 #[.val (.int p1), .val (.int p2), .val (.int p3), .val (.int ((1 : Int32) + (p1 &&& (3 : Int32)))), .val (.int ((p3 &&& (255 : Int32)) % (192 : Int32))), .val (.int (p2.toInt8.toInt32)), .val (.int (((p2.toUInt32 >>> ((8 : Int32) &&& 31).toUInt32).toInt32).toInt8.toInt32)), .unset, .unset, .unset] [(.int p2)])) _
    refine XS.bipush X0.here hx rfl (hb hby at_29) ?_
    show Steps p.tables e below (s₁.setTop (mkF m 31 #[.val (.int p1), .val (.int p2), .val (.int p3), .val (.int ((1 : Int32) + (p1 &&& (3 : Int32)))), .val (.int ((p3 &&& (255 : Int32)) % (192 : Int32))), .val (.int (p2.toInt8.toInt32)), .val (.int (((p2.toUInt32 >>> ((8 : Int32) &&& 31).toUInt32).toInt32).toInt8.toInt32)), .unset, .unset, .unset] [(.int (16 : Int32)), (.int p2)])) _
    refine XS.iushr X0.here hx rfl (hb hby at_31) rfl ?_
    show Steps p.tables e below (s₁.setTop (mkF m 32 #[.val (.int p1), .val (.int p2), .val (.int p3), .val (.int ((1 : Int32) + (p1 &&& (3 : Int32)))), .val (.int ((p3 &&& (255 : Int32)) % (192 : Int32))), .val (.int (p2.toInt8.toInt32)), .val (.int (((p2.toUInt32 >>> ((8 : Int32) &&& 31).toUInt32).toInt32).toInt8.toInt32)), .unset, .unset, .unset] [(.int ((p2.toUInt32 >>> ((16 : Int32) &&& 31).toUInt32).toInt32))])) _
    refine XS.i2b X0.here hx rfl (hb hby at_32) rfl ?_
    show Steps p.tables e below (s₁.setTop (mkF m 33 #[.val (.int p1), .val (.int p2), .val (.int p3), .val (.int ((1 : Int32) + (p1 &&& (3 : Int32)))), .val (.int ((p3 &&& (255 : Int32)) % (192 : Int32))), .val (.int (p2.toInt8.toInt32)), .val (.int (((p2.toUInt32 >>> ((8 : Int32) &&& 31).toUInt32).toInt32).toInt8.toInt32)), .unset, .unset, .unset] [(.int (((p2.toUInt32 >>> ((16 : Int32) &&& 31).toUInt32).toInt32).toInt8.toInt32))])) _
    refine XS.istore X0.here hx rfl (hb hby at_33) rfl (l' := #[.val (.int p1), .val (.int p2), .val (.int p3), .val (.int ((1 : Int32) + (p1 &&& (3 : Int32)))), .val (.int ((p3 &&& (255 : Int32)) % (192 : Int32))), .val (.int (p2.toInt8.toInt32)), .val (.int (((p2.toUInt32 >>> ((8 : Int32) &&& 31).toUInt32).toInt32).toInt8.toInt32)), .val (.int (((p2.toUInt32 >>> ((16 : Int32) &&& 31).toUInt32).toInt32).toInt8.toInt32)), .unset, .unset]) rfl ?_
    exact kt)
  rcases own_len p1 with hl | hl | hl | hl
  · rw [hl] at pre1
    have pre2 : ∀ t, Steps p.tables e below (s₁.setTop (mkF m 36 #[.val (.int p1), .val (.int p2), .val (.int p3), .val (.int (1 : Int32)), .val (.int ((p3 &&& (255 : Int32)) % (192 : Int32))), .val (.int (p2.toInt8.toInt32)), .val (.int (((p2.toUInt32 >>> ((8 : Int32) &&& 31).toUInt32).toInt32).toInt8.toInt32)), .val (.int (((p2.toUInt32 >>> ((16 : Int32) &&& 31).toUInt32).toInt32).toInt8.toInt32)), .unset, .unset] [(.int (1 : Int32))])) t → Steps p.tables e below (s₁.setTop (entryFrame m #[(.int p1), (.int p2), (.int p3)] maxLocals)) t := fun t kt => pre1 t (by
      show Steps p.tables e below (s₁.setTop (mkF m 35 #[.val (.int p1), .val (.int p2), .val (.int p3), .val (.int (1 : Int32)), .val (.int ((p3 &&& (255 : Int32)) % (192 : Int32))), .val (.int (p2.toInt8.toInt32)), .val (.int (((p2.toUInt32 >>> ((8 : Int32) &&& 31).toUInt32).toInt32).toInt8.toInt32)), .val (.int (((p2.toUInt32 >>> ((16 : Int32) &&& 31).toUInt32).toInt32).toInt8.toInt32)), .unset, .unset] [])) _
      refine XS.iloadN X0.here hx rfl (hb hby at_35) rfl ?_
      exact kt)
    obtain ⟨T3, h3, X3, e3, E3, B3, A3, st3⟩ := own_bnew X0 hx hZ (hw _ (List.mem_of_getElem? (i := 0) rfl)) e0 (g := (mkF m 36 #[.val (.int p1), .val (.int p2), .val (.int p3), .val (.int (1 : Int32)), .val (.int ((p3 &&& (255 : Int32)) % (192 : Int32))), .val (.int (p2.toInt8.toInt32)), .val (.int (((p2.toUInt32 >>> ((8 : Int32) &&& 31).toUInt32).toInt32).toInt8.toInt32)), .val (.int (((p2.toUInt32 >>> ((16 : Int32) &&& 31).toUInt32).toInt32).toInt8.toInt32)), .unset, .unset] [(.int (1 : Int32))])) rfl (hb hby at_36) rfl (n := 1) (by decide) (by decide) (by decide) (by decide)
    obtain ⟨b3, g3⟩ : ∃ z, z = h0.size := ⟨_, rfl⟩
    rw [← g3] at B3 A3 st3
    have pre4 : ∀ t, Steps p.tables e below (T3.setTop (mkF m 38 #[.val (.int p1), .val (.int p2), .val (.int p3), .val (.int (1 : Int32)), .val (.int ((p3 &&& (255 : Int32)) % (192 : Int32))), .val (.int (p2.toInt8.toInt32)), .val (.int (((p2.toUInt32 >>> ((8 : Int32) &&& 31).toUInt32).toInt32).toInt8.toInt32)), .val (.int (((p2.toUInt32 >>> ((16 : Int32) &&& 31).toUInt32).toInt32).toInt8.toInt32)), .unset, .unset] [(.ref b3)])) t → Steps p.tables e below (s₁.setTop (entryFrame m #[(.int p1), (.int p2), (.int p3)] maxLocals)) t := fun t kt => pre2 t (st3 t kt)
    have gb : n0 ≤ b3 := Nat.le_trans Z0 (Nat.le_of_eq g3.symm)
    have ZZ3 : n0 ≤ h3.size := Nat.le_trans Z0 E3.1
    have pre5 : ∀ t, Steps p.tables e below (T3.setTop (mkF m 81 #[.val (.int p1), .val (.int p2), .val (.int p3), .val (.int (1 : Int32)), .val (.int ((p3 &&& (255 : Int32)) % (192 : Int32))), .val (.int (p2.toInt8.toInt32)), .val (.int (((p2.toUInt32 >>> ((8 : Int32) &&& 31).toUInt32).toInt32).toInt8.toInt32)), .val (.int (((p2.toUInt32 >>> ((16 : Int32) &&& 31).toUInt32).toInt32).toInt8.toInt32)), .val (.ref b3), .unset] [(.int (((p3 &&& (255 : Int32)) % (192 : Int32)).toInt8.toInt32)), (.int ((1 : Int32) - (1 : Int32))), (.ref b3)])) t → Steps p.tables e below (s₁.setTop (entryFrame m #[(.int p1), (.int p2), (.int p3)] maxLocals)) t := fun t kt => pre4 t (by
      show Steps p.tables e below (T3.setTop (mkF m 38 #[.val (.int p1), .val (.int p2), .val (.int p3), .val (.int (1 : Int32)), .val (.int ((p3 &&& (255 : Int32)) % (192 : Int32))), .val (.int (p2.toInt8.toInt32)), .val (.int (((p2.toUInt32 >>> ((8 : Int32) &&& 31).toUInt32).toInt32).toInt8.toInt32)), .val (.int (((p2.toUInt32 >>> ((16 : Int32) &&& 31).toUInt32).toInt32).toInt8.toInt32)), .unset, .unset] [(.ref b3)])) _
      refine XS.astore X3.here hx rfl (hb hby at_38) rfl rfl (l' := #[.val (.int p1), .val (.int p2), .val (.int p3), .val (.int (1 : Int32)), .val (.int ((p3 &&& (255 : Int32)) % (192 : Int32))), .val (.int (p2.toInt8.toInt32)), .val (.int (((p2.toUInt32 >>> ((8 : Int32) &&& 31).toUInt32).toInt32).toInt8.toInt32)), .val (.int (((p2.toUInt32 >>> ((16 : Int32) &&& 31).toUInt32).toInt32).toInt8.toInt32)), .val (.ref b3), .unset]) rfl ?_
      show Steps p.tables e below (T3.setTop (mkF m 40 #[.val (.int p1), .val (.int p2), .val (.int p3), .val (.int (1 : Int32)), .val (.int ((p3 &&& (255 : Int32)) % (192 : Int32))), .val (.int (p2.toInt8.toInt32)), .val (.int (((p2.toUInt32 >>> ((8 : Int32) &&& 31).toUInt32).toInt32).toInt8.toInt32)), .val (.int (((p2.toUInt32 >>> ((16 : Int32) &&& 31).toUInt32).toInt32).toInt8.toInt32)), .val (.ref b3), .unset] [])) _
      refine XS.iloadN X3.here hx rfl (hb hby at_40) rfl ?_
      show Steps p.tables e below (T3.setTop (mkF m 41 #[.val (.int p1), .val (.int p2), .val (.int p3), .val (.int (1 : Int32)), .val (.int ((p3 &&& (255 : Int32)) % (192 : Int32))), .val (.int (p2.toInt8.toInt32)), .val (.int (((p2.toUInt32 >>> ((8 : Int32) &&& 31).toUInt32).toInt32).toInt8.toInt32)), .val (.int (((p2.toUInt32 >>> ((16 : Int32) &&& 31).toUInt32).toInt32).toInt8.toInt32)), .val (.ref b3), .unset] [(.int (1 : Int32))])) _
      refine XS.iconst X3.here hx rfl (hb hby at_41) ?_
      show Steps p.tables e below (T3.setTop (mkF m 42 #[.val (.int p1), .val (.int p2), .val (.int p3), .val (.int (1 : Int32)), .val (.int ((p3 &&& (255 : Int32)) % (192 : Int32))), .val (.int (p2.toInt8.toInt32)), .val (.int (((p2.toUInt32 >>> ((8 : Int32) &&& 31).toUInt32).toInt32).toInt8.toInt32)), .val (.int (((p2.toUInt32 >>> ((16 : Int32) &&& 31).toUInt32).toInt32).toInt8.toInt32)), .val (.ref b3), .unset] [(.int (1 : Int32)), (.int (1 : Int32))])) _
      refine XS.icmpYes X3.here hx rfl (pc0 := 42) (pc' := 51) rfl (hb hby at_42) rfl (flt (by decide)).2.2.2 (by decide) (by decide) ?_
      show Steps p.tables e below (T3.setTop (mkF m 51 #[.val (.int p1), .val (.int p2), .val (.int p3), .val (.int (1 : Int32)), .val (.int ((p3 &&& (255 : Int32)) % (192 : Int32))), .val (.int (p2.toInt8.toInt32)), .val (.int (((p2.toUInt32 >>> ((8 : Int32) &&& 31).toUInt32).toInt32).toInt8.toInt32)), .val (.int (((p2.toUInt32 >>> ((16 : Int32) &&& 31).toUInt32).toInt32).toInt8.toInt32)), .val (.ref b3), .unset] [])) _
      refine XS.iloadN X3.here hx rfl (hb hby at_51) rfl ?_
      show Steps p.tables e below (T3.setTop (mkF m 52 #[.val (.int p1), .val (.int p2), .val (.int p3), .val (.int (1 : Int32)), .val (.int ((p3 &&& (255 : Int32)) % (192 : Int32))), .val (.int (p2.toInt8.toInt32)), .val (.int (((p2.toUInt32 >>> ((8 : Int32) &&& 31).toUInt32).toInt32).toInt8.toInt32)), .val (.int (((p2.toUInt32 >>> ((16 : Int32) &&& 31).toUInt32).toInt32).toInt8.toInt32)), .val (.ref b3), .unset] [(.int (1 : Int32))])) _
      refine XS.iconst X3.here hx rfl (hb hby at_52) ?_
      show Steps p.tables e below (T3.setTop (mkF m 53 #[.val (.int p1), .val (.int p2), .val (.int p3), .val (.int (1 : Int32)), .val (.int ((p3 &&& (255 : Int32)) % (192 : Int32))), .val (.int (p2.toInt8.toInt32)), .val (.int (((p2.toUInt32 >>> ((8 : Int32) &&& 31).toUInt32).toInt32).toInt8.toInt32)), .val (.int (((p2.toUInt32 >>> ((16 : Int32) &&& 31).toUInt32).toInt32).toInt8.toInt32)), .val (.ref b3), .unset] [(.int (2 : Int32)), (.int (1 : Int32))])) _
      refine XS.icmpYes X3.here hx rfl (pc0 := 53) (pc' := 62) rfl (hb hby at_53) rfl (flt (by decide)).2.2.2 (by decide) (by decide) ?_
      show Steps p.tables e below (T3.setTop (mkF m 62 #[.val (.int p1), .val (.int p2), .val (.int p3), .val (.int (1 : Int32)), .val (.int ((p3 &&& (255 : Int32)) % (192 : Int32))), .val (.int (p2.toInt8.toInt32)), .val (.int (((p2.toUInt32 >>> ((8 : Int32) &&& 31).toUInt32).toInt32).toInt8.toInt32)), .val (.int (((p2.toUInt32 >>> ((16 : Int32) &&& 31).toUInt32).toInt32).toInt8.toInt32)), .val (.ref b3), .unset] [])) _
      refine XS.iloadN X3.here hx rfl (hb hby at_62) rfl ?_
      show Steps p.tables e below (T3.setTop (mkF m 63 #[.val (.int p1), .val (.int p2), .val (.int p3), .val (.int (1 : Int32)), .val (.int ((p3 &&& (255 : Int32)) % (192 : Int32))), .val (.int (p2.toInt8.toInt32)), .val (.int (((p2.toUInt32 >>> ((8 : Int32) &&& 31).toUInt32).toInt32).toInt8.toInt32)), .val (.int (((p2.toUInt32 >>> ((16 : Int32) &&& 31).toUInt32).toInt32).toInt8.toInt32)), .val (.ref b3), .unset] [(.int (1 : Int32))])) _
      refine XS.iconst X3.here hx rfl (hb hby at_63) ?_
      show Steps p.tables e below (T3.setTop (mkF m 64 #[.val (.int p1), .val (.int p2), .val (.int p3), .val (.int (1 : Int32)), .val (.int ((p3 &&& (255 : Int32)) % (192 : Int32))), .val (.int (p2.toInt8.toInt32)), .val (.int (((p2.toUInt32 >>> ((8 : Int32) &&& 31).toUInt32).toInt32).toInt8.toInt32)), .val (.int (((p2.toUInt32 >>> ((16 : Int32) &&& 31).toUInt32).toInt32).toInt8.toInt32)), .val (.ref b3), .unset] [(.int (3 : Int32)), (.int (1 : Int32))])) _
      refine XS.icmpYes X3.here hx rfl (pc0 := 64) (pc' := 73) rfl (hb hby at_64) rfl (flt (by decide)).2.2.2 (by decide) (by decide) ?_
      show Steps p.tables e below (T3.setTop (mkF m 73 #[.val (.int p1), .val (.int p2), .val (.int p3), .val (.int (1 : Int32)), .val (.int ((p3 &&& (255 : Int32)) % (192 : Int32))), .val (.int (p2.toInt8.toInt32)), .val (.int (((p2.toUInt32 >>> ((8 : Int32) &&& 31).toUInt32).toInt32).toInt8.toInt32)), .val (.int (((p2.toUInt32 >>> ((16 : Int32) &&& 31).toUInt32).toInt32).toInt8.toInt32)), .val (.ref b3), .unset] [])) _
      refine XS.aload X3.here hx rfl (hb hby at_73) rfl rfl ?_
      show Steps p.tables e below (T3.setTop (mkF m 75 #[.val (.int p1), .val (.int p2), .val (.int p3), .val (.int (1 : Int32)), .val (.int ((p3 &&& (255 : Int32)) % (192 : Int32))), .val (.int (p2.toInt8.toInt32)), .val (.int (((p2.toUInt32 >>> ((8 : Int32) &&& 31).toUInt32).toInt32).toInt8.toInt32)), .val (.int (((p2.toUInt32 >>> ((16 : Int32) &&& 31).toUInt32).toInt32).toInt8.toInt32)), .val (.ref b3), .unset] [(.ref b3)])) _
      refine XS.iloadN X3.here hx rfl (hb hby at_75) rfl ?_
      show Steps p.tables e below (T3.setTop (mkF m 76 #[.val (.int p1), .val (.int p2), .val (.int p3), .val (.int (1 : Int32)), .val (.int ((p3 &&& (255 : Int32)) % (192 : Int32))), .val (.int (p2.toInt8.toInt32)), .val (.int (((p2.toUInt32 >>> ((8 : Int32) &&& 31).toUInt32).toInt32).toInt8.toInt32)), .val (.int (((p2.toUInt32 >>> ((16 : Int32) &&& 31).toUInt32).toInt32).toInt8.toInt32)), .val (.ref b3), .unset] [(.int (1 : Int32)), (.ref b3)])) _
      refine XS.iconst X3.here hx rfl (hb hby at_76) ?_
      show Steps p.tables e below (T3.setTop (mkF m 77 #[.val (.int p1), .val (.int p2), .val (.int p3), .val (.int (1 : Int32)), .val (.int ((p3 &&& (255 : Int32)) % (192 : Int32))), .val (.int (p2.toInt8.toInt32)), .val (.int (((p2.toUInt32 >>> ((8 : Int32) &&& 31).toUInt32).toInt32).toInt8.toInt32)), .val (.int (((p2.toUInt32 >>> ((16 : Int32) &&& 31).toUInt32).toInt32).toInt8.toInt32)), .val (.ref b3), .unset] [(.int (1 : Int32)), (.int (1 : Int32)), (.ref b3)])) _
      refine XS.isub X3.here hx rfl (hb hby at_77) rfl ?_
      show Steps p.tables e below (T3.setTop (mkF m 78 #[.val (.int p1), .val (.int p2), .val (.int p3), .val (.int (1 : Int32)), .val (.int ((p3 &&& (255 : Int32)) % (192 : Int32))), .val (.int (p2.toInt8.toInt32)), .val (.int (((p2.toUInt32 >>> ((8 : Int32) &&& 31).toUInt32).toInt32).toInt8.toInt32)), .val (.int (((p2.toUInt32 >>> ((16 : Int32) &&& 31).toUInt32).toInt32).toInt8.toInt32)), .val (.ref b3), .unset] [(.int ((1 : Int32) - (1 : Int32))), (.ref b3)])) _
      refine XS.iload X3.here hx rfl (hb hby at_78) rfl ?_
      show Steps p.tables e below (T3.setTop (mkF m 80 #[.val (.int p1), .val (.int p2), .val (.int p3), .val (.int (1 : Int32)), .val (.int ((p3 &&& (255 : Int32)) % (192 : Int32))), .val (.int (p2.toInt8.toInt32)), .val (.int (((p2.toUInt32 >>> ((8 : Int32) &&& 31).toUInt32).toInt32).toInt8.toInt32)), .val (.int (((p2.toUInt32 >>> ((16 : Int32) &&& 31).toUInt32).toInt32).toInt8.toInt32)), .val (.ref b3), .unset] [(.int ((p3 &&& (255 : Int32)) % (192 : Int32))), (.int ((1 : Int32) - (1 : Int32))), (.ref b3)])) _
      refine XS.i2b X3.here hx rfl (hb hby at_80) rfl ?_
      exact kt)
    obtain ⟨T6, h6, X6, e6, B6, W6, st6⟩ := own_bstore X3 hx hZ e3 B3 (j := ((1 : Int32) - (1 : Int32))) (x := (((p3 &&& (255 : Int32)) % (192 : Int32)).toInt8.toInt32)) (v := (((p3 &&& (255 : Int32)) % (192 : Int32)).toInt8.toInt32)) (k := 0) (by decide) (by decide) (own_b8 _) (g := (mkF m 81 #[.val (.int p1), .val (.int p2), .val (.int p3), .val (.int (1 : Int32)), .val (.int ((p3 &&& (255 : Int32)) % (192 : Int32))), .val (.int (p2.toInt8.toInt32)), .val (.int (((p2.toUInt32 >>> ((8 : Int32) &&& 31).toUInt32).toInt32).toInt8.toInt32)), .val (.int (((p2.toUInt32 >>> ((16 : Int32) &&& 31).toUInt32).toInt32).toInt8.toInt32)), .val (.ref b3), .unset] [(.int (((p3 &&& (255 : Int32)) % (192 : Int32)).toInt8.toInt32)), (.int ((1 : Int32) - (1 : Int32))), (.ref b3)])) rfl rfl (hb hby at_81)
    have N6 := Fr.snoc X6 N0 gb
    have pre7 : ∀ t, Steps p.tables e below (T6.setTop (mkF m 82 #[.val (.int p1), .val (.int p2), .val (.int p3), .val (.int (1 : Int32)), .val (.int ((p3 &&& (255 : Int32)) % (192 : Int32))), .val (.int (p2.toInt8.toInt32)), .val (.int (((p2.toUInt32 >>> ((8 : Int32) &&& 31).toUInt32).toInt32).toInt8.toInt32)), .val (.int (((p2.toUInt32 >>> ((16 : Int32) &&& 31).toUInt32).toInt32).toInt8.toInt32)), .val (.ref b3), .unset] [])) t → Steps p.tables e below (s₁.setTop (entryFrame m #[(.int p1), (.int p2), (.int p3)] maxLocals)) t := fun t kt => pre5 t (st6 t kt)
    have ZZ6 : n0 ≤ h6.size := by rw [W6.size]; exact ZZ3
    have A6 := A3.wr W6
    have pre8 : ∀ t, Steps p.tables e below (T6.setTop (mkF m 84 #[.val (.int p1), .val (.int p2), .val (.int p3), .val (.int (1 : Int32)), .val (.int ((p3 &&& (255 : Int32)) % (192 : Int32))), .val (.int (p2.toInt8.toInt32)), .val (.int (((p2.toUInt32 >>> ((8 : Int32) &&& 31).toUInt32).toInt32).toInt8.toInt32)), .val (.int (((p2.toUInt32 >>> ((16 : Int32) &&& 31).toUInt32).toInt32).toInt8.toInt32)), .val (.ref b3), .unset] [(.ref b3)])) t → Steps p.tables e below (s₁.setTop (entryFrame m #[(.int p1), (.int p2), (.int p3)] maxLocals)) t := fun t kt => pre7 t (by
      show Steps p.tables e below (T6.setTop (mkF m 82 #[.val (.int p1), .val (.int p2), .val (.int p3), .val (.int (1 : Int32)), .val (.int ((p3 &&& (255 : Int32)) % (192 : Int32))), .val (.int (p2.toInt8.toInt32)), .val (.int (((p2.toUInt32 >>> ((8 : Int32) &&& 31).toUInt32).toInt32).toInt8.toInt32)), .val (.int (((p2.toUInt32 >>> ((16 : Int32) &&& 31).toUInt32).toInt32).toInt8.toInt32)), .val (.ref b3), .unset] [])) _
      refine XS.aload X6.here hx rfl (hb hby at_82) rfl rfl ?_
      exact kt)
    obtain ⟨b9, g9⟩ : ∃ z, z = h6.size := ⟨_, rfl⟩
    have hne : ¬ (b9 = b3) := by rw [g9]; exact Nat.ne_of_gt B6.lt
    obtain ⟨_, _, ⟨T9, L9, k9, n9⟩, -, X9, ⟨Lc9, hQ9, l9, y9, z9⟩, st9⟩ := Jvm.LawKit.callS X6 hx (y := (⟨"com/example/treecreeper/treecreeper/store/RecordCodec", "pastStart", "([B)[B"⟩ : MethodName)) hown (mvT hZ (hw _ (List.mem_of_getElem? (i := 1) rfl))) (mvT hZ (hw _ (List.mem_of_getElem? (i := 2) rfl))) (mvT hZ (hw _ (List.mem_of_getElem? (i := 3) rfl))) (mvT hZ (hw _ (List.mem_of_getElem? (i := 4) rfl))) (by decide) (backOf (W := 0) (rm1_1 l Z a0 hw [] b3 b9 _ h6 n0 ZZ6 g9 B6 A6) hZ (hw _ (List.mem_of_getElem? (i := 4) rfl)) (hw _ (List.mem_of_getElem? (i := 3) rfl)) (by decide) (by decide)) (g := (mkF m 84 #[.val (.int p1), .val (.int p2), .val (.int p3), .val (.int (1 : Int32)), .val (.int ((p3 &&& (255 : Int32)) % (192 : Int32))), .val (.int (p2.toInt8.toInt32)), .val (.int (((p2.toUInt32 >>> ((8 : Int32) &&& 31).toUInt32).toInt32).toInt8.toInt32)), .val (.int (((p2.toUInt32 >>> ((16 : Int32) &&& 31).toUInt32).toInt32).toInt8.toInt32)), .val (.ref b3), .unset] [(.ref b3)])) rfl (by rw [hml]; rfl) (argsL := [(.ref b3)]) (rest := []) (lenOf pd_0_0 rfl) rfl (by show 2 * 0 + _ ≤ _; exact Nat.le_of_eq rfl) (hb hby at_84) (fun _ _ => ⟨rfl, e6, (by decide : 1 + 1 ≤ _), (by decide : 1 + 1 ≤ _)⟩)
    dsimp only [Pt.U, Pt.locs, Pt.cells, Pt.slots] at X9 l9 y9 z9 st9 hQ9
    subst l9 y9 z9
    obtain ⟨rfl, N9q, K9, B9⟩ := hQ9
    have N9 := Fr.app N6 N9q
    have pre10 : ∀ t, Steps p.tables e below (T9.setTop (mkF m 87 #[.val (.int p1), .val (.int p2), .val (.int p3), .val (.int (1 : Int32)), .val (.int ((p3 &&& (255 : Int32)) % (192 : Int32))), .val (.int (p2.toInt8.toInt32)), .val (.int (((p2.toUInt32 >>> ((8 : Int32) &&& 31).toUInt32).toInt32).toInt8.toInt32)), .val (.int (((p2.toUInt32 >>> ((16 : Int32) &&& 31).toUInt32).toInt32).toInt8.toInt32)), .val (.ref b3), .unset] [(.ref b9)])) t → Steps p.tables e below (s₁.setTop (entryFrame m #[(.int p1), (.int p2), (.int p3)] maxLocals)) t := fun t kt => pre8 t (st9 t kt)
    have Bs := B6.keep K9 nin0
    have Zs : n0 ≤ T9.heap.size := Nat.le_trans ZZ6 K9.1
    have pre11 : ∀ t, Steps p.tables e below (T9.setTop (mkF m 115 #[.val (.int p1), .val (.int p2), .val (.int p3), .val (.int (1 : Int32)), .val (.int ((p3 &&& (255 : Int32)) % (192 : Int32))), .val (.int (p2.toInt8.toInt32)), .val (.int (((p2.toUInt32 >>> ((8 : Int32) &&& 31).toUInt32).toInt32).toInt8.toInt32)), .val (.int (((p2.toUInt32 >>> ((16 : Int32) &&& 31).toUInt32).toInt32).toInt8.toInt32)), .val (.ref b3), .val (.ref b9)] [(.int (((p3 &&& (255 : Int32)) % (192 : Int32)).toInt8.toInt32)), (.int (((p2.toUInt32 >>> ((16 : Int32) &&& 31).toUInt32).toInt32).toInt8.toInt32)), (.int (((p2.toUInt32 >>> ((8 : Int32) &&& 31).toUInt32).toInt32).toInt8.toInt32)), (.int (p2.toInt8.toInt32)), (.int (1 : Int32)), (.ref b3)])) t → Steps p.tables e below (s₁.setTop (entryFrame m #[(.int p1), (.int p2), (.int p3)] maxLocals)) t := fun t kt => pre10 t (by
      show Steps p.tables e below (T9.setTop (mkF m 87 #[.val (.int p1), .val (.int p2), .val (.int p3), .val (.int (1 : Int32)), .val (.int ((p3 &&& (255 : Int32)) % (192 : Int32))), .val (.int (p2.toInt8.toInt32)), .val (.int (((p2.toUInt32 >>> ((8 : Int32) &&& 31).toUInt32).toInt32).toInt8.toInt32)), .val (.int (((p2.toUInt32 >>> ((16 : Int32) &&& 31).toUInt32).toInt32).toInt8.toInt32)), .val (.ref b3), .unset] [(.ref b9)])) _
      refine XS.astore X9.here hx rfl (hb hby at_87) rfl rfl (l' := #[.val (.int p1), .val (.int p2), .val (.int p3), .val (.int (1 : Int32)), .val (.int ((p3 &&& (255 : Int32)) % (192 : Int32))), .val (.int (p2.toInt8.toInt32)), .val (.int (((p2.toUInt32 >>> ((8 : Int32) &&& 31).toUInt32).toInt32).toInt8.toInt32)), .val (.int (((p2.toUInt32 >>> ((16 : Int32) &&& 31).toUInt32).toInt32).toInt8.toInt32)), .val (.ref b3), .val (.ref b9)]) rfl ?_
      show Steps p.tables e below (T9.setTop (mkF m 89 #[.val (.int p1), .val (.int p2), .val (.int p3), .val (.int (1 : Int32)), .val (.int ((p3 &&& (255 : Int32)) % (192 : Int32))), .val (.int (p2.toInt8.toInt32)), .val (.int (((p2.toUInt32 >>> ((8 : Int32) &&& 31).toUInt32).toInt32).toInt8.toInt32)), .val (.int (((p2.toUInt32 >>> ((16 : Int32) &&& 31).toUInt32).toInt32).toInt8.toInt32)), .val (.ref b3), .val (.ref b9)] [])) _
      refine XS.aload X9.here hx rfl (hb hby at_89) rfl rfl ?_
      show Steps p.tables e below (T9.setTop (mkF m 91 #[.val (.int p1), .val (.int p2), .val (.int p3), .val (.int (1 : Int32)), .val (.int ((p3 &&& (255 : Int32)) % (192 : Int32))), .val (.int (p2.toInt8.toInt32)), .val (.int (((p2.toUInt32 >>> ((8 : Int32) &&& 31).toUInt32).toInt32).toInt8.toInt32)), .val (.int (((p2.toUInt32 >>> ((16 : Int32) &&& 31).toUInt32).toInt32).toInt8.toInt32)), .val (.ref b3), .val (.ref b9)] [(.ref b9)])) _
      refine XS.ifnullNo X9.here hx rfl (hb hby at_91) rfl ?_
      show Steps p.tables e below (T9.setTop (mkF m 94 #[.val (.int p1), .val (.int p2), .val (.int p3), .val (.int (1 : Int32)), .val (.int ((p3 &&& (255 : Int32)) % (192 : Int32))), .val (.int (p2.toInt8.toInt32)), .val (.int (((p2.toUInt32 >>> ((8 : Int32) &&& 31).toUInt32).toInt32).toInt8.toInt32)), .val (.int (((p2.toUInt32 >>> ((16 : Int32) &&& 31).toUInt32).toInt32).toInt8.toInt32)), .val (.ref b3), .val (.ref b9)] [])) _
      refine XS.aload X9.here hx rfl (hb hby at_94) rfl rfl ?_
      show Steps p.tables e below (T9.setTop (mkF m 96 #[.val (.int p1), .val (.int p2), .val (.int p3), .val (.int (1 : Int32)), .val (.int ((p3 &&& (255 : Int32)) % (192 : Int32))), .val (.int (p2.toInt8.toInt32)), .val (.int (((p2.toUInt32 >>> ((8 : Int32) &&& 31).toUInt32).toInt32).toInt8.toInt32)), .val (.int (((p2.toUInt32 >>> ((16 : Int32) &&& 31).toUInt32).toInt32).toInt8.toInt32)), .val (.ref b3), .val (.ref b9)] [(.ref b9)])) _
      refine XS.aload X9.here hx rfl (hb hby at_96) rfl rfl ?_
      show Steps p.tables e below (T9.setTop (mkF m 98 #[.val (.int p1), .val (.int p2), .val (.int p3), .val (.int (1 : Int32)), .val (.int ((p3 &&& (255 : Int32)) % (192 : Int32))), .val (.int (p2.toInt8.toInt32)), .val (.int (((p2.toUInt32 >>> ((8 : Int32) &&& 31).toUInt32).toInt32).toInt8.toInt32)), .val (.int (((p2.toUInt32 >>> ((16 : Int32) &&& 31).toUInt32).toInt32).toInt8.toInt32)), .val (.ref b3), .val (.ref b9)] [(.ref b3), (.ref b9)])) _
      refine Jvm.RoadKit.acmp (g := (mkF m 98 #[.val (.int p1), .val (.int p2), .val (.int p3), .val (.int (1 : Int32)), .val (.int ((p3 &&& (255 : Int32)) % (192 : Int32))), .val (.int (p2.toInt8.toInt32)), .val (.int (((p2.toUInt32 >>> ((8 : Int32) &&& 31).toUInt32).toInt32).toInt8.toInt32)), .val (.int (((p2.toUInt32 >>> ((16 : Int32) &&& 31).toUInt32).toInt32).toInt8.toInt32)), .val (.ref b3), .val (.ref b9)] [(.ref b3), (.ref b9)])) X9 hx rfl rfl rfl (pc0 := 98) (pc' := 103) (same := false) rfl (hb hby at_98) rfl (decide_eq_false fun q => hne (Value.ref.inj q)) (by decide) (by decide) ?_
      show Steps p.tables e below (T9.setTop (mkF m 103 #[.val (.int p1), .val (.int p2), .val (.int p3), .val (.int (1 : Int32)), .val (.int ((p3 &&& (255 : Int32)) % (192 : Int32))), .val (.int (p2.toInt8.toInt32)), .val (.int (((p2.toUInt32 >>> ((8 : Int32) &&& 31).toUInt32).toInt32).toInt8.toInt32)), .val (.int (((p2.toUInt32 >>> ((16 : Int32) &&& 31).toUInt32).toInt32).toInt8.toInt32)), .val (.ref b3), .val (.ref b9)] [])) _
      refine XS.aload X9.here hx rfl (hb hby at_103) rfl rfl ?_
      show Steps p.tables e below (T9.setTop (mkF m 105 #[.val (.int p1), .val (.int p2), .val (.int p3), .val (.int (1 : Int32)), .val (.int ((p3 &&& (255 : Int32)) % (192 : Int32))), .val (.int (p2.toInt8.toInt32)), .val (.int (((p2.toUInt32 >>> ((8 : Int32) &&& 31).toUInt32).toInt32).toInt8.toInt32)), .val (.int (((p2.toUInt32 >>> ((16 : Int32) &&& 31).toUInt32).toInt32).toInt8.toInt32)), .val (.ref b3), .val (.ref b9)] [(.ref b3)])) _
      refine XS.iloadN X9.here hx rfl (hb hby at_105) rfl ?_
      show Steps p.tables e below (T9.setTop (mkF m 106 #[.val (.int p1), .val (.int p2), .val (.int p3), .val (.int (1 : Int32)), .val (.int ((p3 &&& (255 : Int32)) % (192 : Int32))), .val (.int (p2.toInt8.toInt32)), .val (.int (((p2.toUInt32 >>> ((8 : Int32) &&& 31).toUInt32).toInt32).toInt8.toInt32)), .val (.int (((p2.toUInt32 >>> ((16 : Int32) &&& 31).toUInt32).toInt32).toInt8.toInt32)), .val (.ref b3), .val (.ref b9)] [(.int (1 : Int32)), (.ref b3)])) _
      refine XS.iload X9.here hx rfl (hb hby at_106) rfl ?_
      show Steps p.tables e below (T9.setTop (mkF m 108 #[.val (.int p1), .val (.int p2), .val (.int p3), .val (.int (1 : Int32)), .val (.int ((p3 &&& (255 : Int32)) % (192 : Int32))), .val (.int (p2.toInt8.toInt32)), .val (.int (((p2.toUInt32 >>> ((8 : Int32) &&& 31).toUInt32).toInt32).toInt8.toInt32)), .val (.int (((p2.toUInt32 >>> ((16 : Int32) &&& 31).toUInt32).toInt32).toInt8.toInt32)), .val (.ref b3), .val (.ref b9)] [(.int (p2.toInt8.toInt32)), (.int (1 : Int32)), (.ref b3)])) _
      refine XS.iload X9.here hx rfl (hb hby at_108) rfl ?_
      show Steps p.tables e below (T9.setTop (mkF m 110 #[.val (.int p1), .val (.int p2), .val (.int p3), .val (.int (1 : Int32)), .val (.int ((p3 &&& (255 : Int32)) % (192 : Int32))), .val (.int (p2.toInt8.toInt32)), .val (.int (((p2.toUInt32 >>> ((8 : Int32) &&& 31).toUInt32).toInt32).toInt8.toInt32)), .val (.int (((p2.toUInt32 >>> ((16 : Int32) &&& 31).toUInt32).toInt32).toInt8.toInt32)), .val (.ref b3), .val (.ref b9)] [(.int (((p2.toUInt32 >>> ((8 : Int32) &&& 31).toUInt32).toInt32).toInt8.toInt32)), (.int (p2.toInt8.toInt32)), (.int (1 : Int32)), (.ref b3)])) _
      refine XS.iload X9.here hx rfl (hb hby at_110) rfl ?_
      show Steps p.tables e below (T9.setTop (mkF m 112 #[.val (.int p1), .val (.int p2), .val (.int p3), .val (.int (1 : Int32)), .val (.int ((p3 &&& (255 : Int32)) % (192 : Int32))), .val (.int (p2.toInt8.toInt32)), .val (.int (((p2.toUInt32 >>> ((8 : Int32) &&& 31).toUInt32).toInt32).toInt8.toInt32)), .val (.int (((p2.toUInt32 >>> ((16 : Int32) &&& 31).toUInt32).toInt32).toInt8.toInt32)), .val (.ref b3), .val (.ref b9)] [(.int (((p2.toUInt32 >>> ((16 : Int32) &&& 31).toUInt32).toInt32).toInt8.toInt32)), (.int (((p2.toUInt32 >>> ((8 : Int32) &&& 31).toUInt32).toInt32).toInt8.toInt32)), (.int (p2.toInt8.toInt32)), (.int (1 : Int32)), (.ref b3)])) _
      refine XS.iload X9.here hx rfl (hb hby at_112) rfl ?_
      show Steps p.tables e below (T9.setTop (mkF m 114 #[.val (.int p1), .val (.int p2), .val (.int p3), .val (.int (1 : Int32)), .val (.int ((p3 &&& (255 : Int32)) % (192 : Int32))), .val (.int (p2.toInt8.toInt32)), .val (.int (((p2.toUInt32 >>> ((8 : Int32) &&& 31).toUInt32).toInt32).toInt8.toInt32)), .val (.int (((p2.toUInt32 >>> ((16 : Int32) &&& 31).toUInt32).toInt32).toInt8.toInt32)), .val (.ref b3), .val (.ref b9)] [(.int ((p3 &&& (255 : Int32)) % (192 : Int32))), (.int (((p2.toUInt32 >>> ((16 : Int32) &&& 31).toUInt32).toInt32).toInt8.toInt32)), (.int (((p2.toUInt32 >>> ((8 : Int32) &&& 31).toUInt32).toInt32).toInt8.toInt32)), (.int (p2.toInt8.toInt32)), (.int (1 : Int32)), (.ref b3)])) _
      refine XS.i2b X9.here hx rfl (hb hby at_114) rfl ?_
      exact kt)
    obtain ⟨_, _, ⟨T12, L12, k12, n12⟩, -, X12, ⟨Lc12, hQ12, l12, y12, z12⟩, st12⟩ := Jvm.LawKit.callS X9 hx (y := (⟨"com/example/treecreeper/treecreeper/store/RecordCodecPastStartPinLaw", "same", "([BIBBBB)Z"⟩ : MethodName)) hown (mvT hZ (hw _ (List.mem_of_getElem? (i := 14) rfl))) (mvT hZ (hw _ (List.mem_of_getElem? (i := 15) rfl))) (mvT hZ (hw _ (List.mem_of_getElem? (i := 16) rfl))) (mvT hZ (hw _ (List.mem_of_getElem? (i := 17) rfl))) (by decide) (backOf (W := 0) (rm2_1 l Z a0 hw [] b3 _ (p2.toInt8.toInt32) (((p2.toUInt32 >>> ((8 : Int32) &&& 31).toUInt32).toInt32).toInt8.toInt32) (((p2.toUInt32 >>> ((16 : Int32) &&& 31).toUInt32).toInt32).toInt8.toInt32) (((p3 &&& (255 : Int32)) % (192 : Int32)).toInt8.toInt32) T9.heap n0 Zs Bs  (own_at _ _ _)) hZ (hw _ (List.mem_of_getElem? (i := 17) rfl)) (hw _ (List.mem_of_getElem? (i := 16) rfl)) (by decide) (by decide)) (g := (mkF m 115 #[.val (.int p1), .val (.int p2), .val (.int p3), .val (.int (1 : Int32)), .val (.int ((p3 &&& (255 : Int32)) % (192 : Int32))), .val (.int (p2.toInt8.toInt32)), .val (.int (((p2.toUInt32 >>> ((8 : Int32) &&& 31).toUInt32).toInt32).toInt8.toInt32)), .val (.int (((p2.toUInt32 >>> ((16 : Int32) &&& 31).toUInt32).toInt32).toInt8.toInt32)), .val (.ref b3), .val (.ref b9)] [(.int (((p3 &&& (255 : Int32)) % (192 : Int32)).toInt8.toInt32)), (.int (((p2.toUInt32 >>> ((16 : Int32) &&& 31).toUInt32).toInt32).toInt8.toInt32)), (.int (((p2.toUInt32 >>> ((8 : Int32) &&& 31).toUInt32).toInt32).toInt8.toInt32)), (.int (p2.toInt8.toInt32)), (.int (1 : Int32)), (.ref b3)])) rfl (by rw [hml]; rfl) (argsL := [(.ref b3), (.int (1 : Int32)), (.int (p2.toInt8.toInt32)), (.int (((p2.toUInt32 >>> ((8 : Int32) &&& 31).toUInt32).toInt32).toInt8.toInt32)), (.int (((p2.toUInt32 >>> ((16 : Int32) &&& 31).toUInt32).toInt32).toInt8.toInt32)), (.int (((p3 &&& (255 : Int32)) % (192 : Int32)).toInt8.toInt32))]) (rest := []) (lenOf pd_0_1 rfl) rfl (by show 2 * 0 + _ ≤ _; exact Nat.le_of_eq rfl) (hb hby at_115) (fun _ _ => ⟨rfl, rfl, (by decide : 2 + 0 ≤ _), (by decide : 2 + 0 ≤ _)⟩)
    dsimp only [Pt.U, Pt.locs, Pt.cells, Pt.slots] at X12 l12 y12 z12 st12 hQ12
    subst l12 y12 z12
    obtain ⟨rfl, N12q, e12⟩ := hQ12
    have N12 := Fr.app N9 N12q
    have pre13 : ∀ t, Steps p.tables e below (T12.setTop (mkF m 118 #[.val (.int p1), .val (.int p2), .val (.int p3), .val (.int (1 : Int32)), .val (.int ((p3 &&& (255 : Int32)) % (192 : Int32))), .val (.int (p2.toInt8.toInt32)), .val (.int (((p2.toUInt32 >>> ((8 : Int32) &&& 31).toUInt32).toInt32).toInt8.toInt32)), .val (.int (((p2.toUInt32 >>> ((16 : Int32) &&& 31).toUInt32).toInt32).toInt8.toInt32)), .val (.ref b3), .val (.ref b9)] [(.int (1 : Int32))])) t → Steps p.tables e below (s₁.setTop (entryFrame m #[(.int p1), (.int p2), (.int p3)] maxLocals)) t := fun t kt => pre11 t (st12 t kt)
    have pre14 : ∀ t, Steps p.tables e below (T12.setTop (mkF m 137 #[.val (.int p1), .val (.int p2), .val (.int p3), .val (.int (1 : Int32)), .val (.int ((p3 &&& (255 : Int32)) % (192 : Int32))), .val (.int (p2.toInt8.toInt32)), .val (.int (((p2.toUInt32 >>> ((8 : Int32) &&& 31).toUInt32).toInt32).toInt8.toInt32)), .val (.int (((p2.toUInt32 >>> ((16 : Int32) &&& 31).toUInt32).toInt32).toInt8.toInt32)), .val (.ref b3), .val (.ref b9)] [(.int ((((p3 &&& (255 : Int32)) % (192 : Int32)) + (1 : Int32)).toInt8.toInt32)), (.int (((p2.toUInt32 >>> ((16 : Int32) &&& 31).toUInt32).toInt32).toInt8.toInt32)), (.int (((p2.toUInt32 >>> ((8 : Int32) &&& 31).toUInt32).toInt32).toInt8.toInt32)), (.int (p2.toInt8.toInt32)), (.int (1 : Int32)), (.ref b9)])) t → Steps p.tables e below (s₁.setTop (entryFrame m #[(.int p1), (.int p2), (.int p3)] maxLocals)) t := fun t kt => pre13 t (by
      show Steps p.tables e below (T12.setTop (mkF m 118 #[.val (.int p1), .val (.int p2), .val (.int p3), .val (.int (1 : Int32)), .val (.int ((p3 &&& (255 : Int32)) % (192 : Int32))), .val (.int (p2.toInt8.toInt32)), .val (.int (((p2.toUInt32 >>> ((8 : Int32) &&& 31).toUInt32).toInt32).toInt8.toInt32)), .val (.int (((p2.toUInt32 >>> ((16 : Int32) &&& 31).toUInt32).toInt32).toInt8.toInt32)), .val (.ref b3), .val (.ref b9)] [(.int (1 : Int32))])) _
      refine XS.ifYes X12.here hx rfl (pc0 := 118) (pc' := 123) rfl (hb hby at_118) rfl ((if0 _ _).trans (feq (by decide)).2) (by decide) (by decide) ?_
      show Steps p.tables e below (T12.setTop (mkF m 123 #[.val (.int p1), .val (.int p2), .val (.int p3), .val (.int (1 : Int32)), .val (.int ((p3 &&& (255 : Int32)) % (192 : Int32))), .val (.int (p2.toInt8.toInt32)), .val (.int (((p2.toUInt32 >>> ((8 : Int32) &&& 31).toUInt32).toInt32).toInt8.toInt32)), .val (.int (((p2.toUInt32 >>> ((16 : Int32) &&& 31).toUInt32).toInt32).toInt8.toInt32)), .val (.ref b3), .val (.ref b9)] [])) _
      refine XS.aload X12.here hx rfl (hb hby at_123) rfl rfl ?_
      show Steps p.tables e below (T12.setTop (mkF m 125 #[.val (.int p1), .val (.int p2), .val (.int p3), .val (.int (1 : Int32)), .val (.int ((p3 &&& (255 : Int32)) % (192 : Int32))), .val (.int (p2.toInt8.toInt32)), .val (.int (((p2.toUInt32 >>> ((8 : Int32) &&& 31).toUInt32).toInt32).toInt8.toInt32)), .val (.int (((p2.toUInt32 >>> ((16 : Int32) &&& 31).toUInt32).toInt32).toInt8.toInt32)), .val (.ref b3), .val (.ref b9)] [(.ref b9)])) _
      refine XS.iloadN X12.here hx rfl (hb hby at_125) rfl ?_
      show Steps p.tables e below (T12.setTop (mkF m 126 #[.val (.int p1), .val (.int p2), .val (.int p3), .val (.int (1 : Int32)), .val (.int ((p3 &&& (255 : Int32)) % (192 : Int32))), .val (.int (p2.toInt8.toInt32)), .val (.int (((p2.toUInt32 >>> ((8 : Int32) &&& 31).toUInt32).toInt32).toInt8.toInt32)), .val (.int (((p2.toUInt32 >>> ((16 : Int32) &&& 31).toUInt32).toInt32).toInt8.toInt32)), .val (.ref b3), .val (.ref b9)] [(.int (1 : Int32)), (.ref b9)])) _
      refine XS.iload X12.here hx rfl (hb hby at_126) rfl ?_
      show Steps p.tables e below (T12.setTop (mkF m 128 #[.val (.int p1), .val (.int p2), .val (.int p3), .val (.int (1 : Int32)), .val (.int ((p3 &&& (255 : Int32)) % (192 : Int32))), .val (.int (p2.toInt8.toInt32)), .val (.int (((p2.toUInt32 >>> ((8 : Int32) &&& 31).toUInt32).toInt32).toInt8.toInt32)), .val (.int (((p2.toUInt32 >>> ((16 : Int32) &&& 31).toUInt32).toInt32).toInt8.toInt32)), .val (.ref b3), .val (.ref b9)] [(.int (p2.toInt8.toInt32)), (.int (1 : Int32)), (.ref b9)])) _
      refine XS.iload X12.here hx rfl (hb hby at_128) rfl ?_
      show Steps p.tables e below (T12.setTop (mkF m 130 #[.val (.int p1), .val (.int p2), .val (.int p3), .val (.int (1 : Int32)), .val (.int ((p3 &&& (255 : Int32)) % (192 : Int32))), .val (.int (p2.toInt8.toInt32)), .val (.int (((p2.toUInt32 >>> ((8 : Int32) &&& 31).toUInt32).toInt32).toInt8.toInt32)), .val (.int (((p2.toUInt32 >>> ((16 : Int32) &&& 31).toUInt32).toInt32).toInt8.toInt32)), .val (.ref b3), .val (.ref b9)] [(.int (((p2.toUInt32 >>> ((8 : Int32) &&& 31).toUInt32).toInt32).toInt8.toInt32)), (.int (p2.toInt8.toInt32)), (.int (1 : Int32)), (.ref b9)])) _
      refine XS.iload X12.here hx rfl (hb hby at_130) rfl ?_
      show Steps p.tables e below (T12.setTop (mkF m 132 #[.val (.int p1), .val (.int p2), .val (.int p3), .val (.int (1 : Int32)), .val (.int ((p3 &&& (255 : Int32)) % (192 : Int32))), .val (.int (p2.toInt8.toInt32)), .val (.int (((p2.toUInt32 >>> ((8 : Int32) &&& 31).toUInt32).toInt32).toInt8.toInt32)), .val (.int (((p2.toUInt32 >>> ((16 : Int32) &&& 31).toUInt32).toInt32).toInt8.toInt32)), .val (.ref b3), .val (.ref b9)] [(.int (((p2.toUInt32 >>> ((16 : Int32) &&& 31).toUInt32).toInt32).toInt8.toInt32)), (.int (((p2.toUInt32 >>> ((8 : Int32) &&& 31).toUInt32).toInt32).toInt8.toInt32)), (.int (p2.toInt8.toInt32)), (.int (1 : Int32)), (.ref b9)])) _
      refine XS.iload X12.here hx rfl (hb hby at_132) rfl ?_
      show Steps p.tables e below (T12.setTop (mkF m 134 #[.val (.int p1), .val (.int p2), .val (.int p3), .val (.int (1 : Int32)), .val (.int ((p3 &&& (255 : Int32)) % (192 : Int32))), .val (.int (p2.toInt8.toInt32)), .val (.int (((p2.toUInt32 >>> ((8 : Int32) &&& 31).toUInt32).toInt32).toInt8.toInt32)), .val (.int (((p2.toUInt32 >>> ((16 : Int32) &&& 31).toUInt32).toInt32).toInt8.toInt32)), .val (.ref b3), .val (.ref b9)] [(.int ((p3 &&& (255 : Int32)) % (192 : Int32))), (.int (((p2.toUInt32 >>> ((16 : Int32) &&& 31).toUInt32).toInt32).toInt8.toInt32)), (.int (((p2.toUInt32 >>> ((8 : Int32) &&& 31).toUInt32).toInt32).toInt8.toInt32)), (.int (p2.toInt8.toInt32)), (.int (1 : Int32)), (.ref b9)])) _
      refine XS.iconst X12.here hx rfl (hb hby at_134) ?_
      show Steps p.tables e below (T12.setTop (mkF m 135 #[.val (.int p1), .val (.int p2), .val (.int p3), .val (.int (1 : Int32)), .val (.int ((p3 &&& (255 : Int32)) % (192 : Int32))), .val (.int (p2.toInt8.toInt32)), .val (.int (((p2.toUInt32 >>> ((8 : Int32) &&& 31).toUInt32).toInt32).toInt8.toInt32)), .val (.int (((p2.toUInt32 >>> ((16 : Int32) &&& 31).toUInt32).toInt32).toInt8.toInt32)), .val (.ref b3), .val (.ref b9)] [(.int (1 : Int32)), (.int ((p3 &&& (255 : Int32)) % (192 : Int32))), (.int (((p2.toUInt32 >>> ((16 : Int32) &&& 31).toUInt32).toInt32).toInt8.toInt32)), (.int (((p2.toUInt32 >>> ((8 : Int32) &&& 31).toUInt32).toInt32).toInt8.toInt32)), (.int (p2.toInt8.toInt32)), (.int (1 : Int32)), (.ref b9)])) _
      refine XS.iadd X12.here hx rfl (hb hby at_135) rfl ?_
      show Steps p.tables e below (T12.setTop (mkF m 136 #[.val (.int p1), .val (.int p2), .val (.int p3), .val (.int (1 : Int32)), .val (.int ((p3 &&& (255 : Int32)) % (192 : Int32))), .val (.int (p2.toInt8.toInt32)), .val (.int (((p2.toUInt32 >>> ((8 : Int32) &&& 31).toUInt32).toInt32).toInt8.toInt32)), .val (.int (((p2.toUInt32 >>> ((16 : Int32) &&& 31).toUInt32).toInt32).toInt8.toInt32)), .val (.ref b3), .val (.ref b9)] [(.int (((p3 &&& (255 : Int32)) % (192 : Int32)) + (1 : Int32))), (.int (((p2.toUInt32 >>> ((16 : Int32) &&& 31).toUInt32).toInt32).toInt8.toInt32)), (.int (((p2.toUInt32 >>> ((8 : Int32) &&& 31).toUInt32).toInt32).toInt8.toInt32)), (.int (p2.toInt8.toInt32)), (.int (1 : Int32)), (.ref b9)])) _
      refine XS.i2b X12.here hx rfl (hb hby at_136) rfl ?_
      exact kt)
    obtain ⟨_, _, ⟨T15, L15, k15, n15⟩, -, X15, ⟨Lc15, hQ15, l15, y15, z15⟩, st15⟩ := Jvm.LawKit.callS X12 hx (y := (⟨"com/example/treecreeper/treecreeper/store/RecordCodecPastStartPinLaw", "same", "([BIBBBB)Z"⟩ : MethodName)) hown (mvT hZ (hw _ (List.mem_of_getElem? (i := 14) rfl))) (mvT hZ (hw _ (List.mem_of_getElem? (i := 15) rfl))) (mvT hZ (hw _ (List.mem_of_getElem? (i := 16) rfl))) (mvT hZ (hw _ (List.mem_of_getElem? (i := 17) rfl))) (by decide) (backOf (W := 0) (rm2_1 l Z a0 hw [] b9 _ (p2.toInt8.toInt32) (((p2.toUInt32 >>> ((8 : Int32) &&& 31).toUInt32).toInt32).toInt8.toInt32) (((p2.toUInt32 >>> ((16 : Int32) &&& 31).toUInt32).toInt32).toInt8.toInt32) ((((p3 &&& (255 : Int32)) % (192 : Int32)) + (1 : Int32)).toInt8.toInt32) T9.heap n0 Zs B9  ((own_at _ _ _).trans (own_inc (own_at _ _ _)))) hZ (hw _ (List.mem_of_getElem? (i := 17) rfl)) (hw _ (List.mem_of_getElem? (i := 16) rfl)) (by decide) (by decide)) (g := (mkF m 137 #[.val (.int p1), .val (.int p2), .val (.int p3), .val (.int (1 : Int32)), .val (.int ((p3 &&& (255 : Int32)) % (192 : Int32))), .val (.int (p2.toInt8.toInt32)), .val (.int (((p2.toUInt32 >>> ((8 : Int32) &&& 31).toUInt32).toInt32).toInt8.toInt32)), .val (.int (((p2.toUInt32 >>> ((16 : Int32) &&& 31).toUInt32).toInt32).toInt8.toInt32)), .val (.ref b3), .val (.ref b9)] [(.int ((((p3 &&& (255 : Int32)) % (192 : Int32)) + (1 : Int32)).toInt8.toInt32)), (.int (((p2.toUInt32 >>> ((16 : Int32) &&& 31).toUInt32).toInt32).toInt8.toInt32)), (.int (((p2.toUInt32 >>> ((8 : Int32) &&& 31).toUInt32).toInt32).toInt8.toInt32)), (.int (p2.toInt8.toInt32)), (.int (1 : Int32)), (.ref b9)])) rfl (by rw [hml]; rfl) (argsL := [(.ref b9), (.int (1 : Int32)), (.int (p2.toInt8.toInt32)), (.int (((p2.toUInt32 >>> ((8 : Int32) &&& 31).toUInt32).toInt32).toInt8.toInt32)), (.int (((p2.toUInt32 >>> ((16 : Int32) &&& 31).toUInt32).toInt32).toInt8.toInt32)), (.int ((((p3 &&& (255 : Int32)) % (192 : Int32)) + (1 : Int32)).toInt8.toInt32))]) (rest := []) (lenOf pd_0_1 rfl) rfl (by show 2 * 0 + _ ≤ _; exact Nat.le_of_eq rfl) (hb hby at_137) (fun _ _ => ⟨rfl, e12, (by decide : 2 + 0 ≤ _), (by decide : 2 + 0 ≤ _)⟩)
    dsimp only [Pt.U, Pt.locs, Pt.cells, Pt.slots] at X15 l15 y15 z15 st15 hQ15
    subst l15 y15 z15
    obtain ⟨rfl, N15q, e15⟩ := hQ15
    have N15 := Fr.app N12 N15q
    have pre16 : ∀ t, Steps p.tables e below (T15.setTop (mkF m 140 #[.val (.int p1), .val (.int p2), .val (.int p3), .val (.int (1 : Int32)), .val (.int ((p3 &&& (255 : Int32)) % (192 : Int32))), .val (.int (p2.toInt8.toInt32)), .val (.int (((p2.toUInt32 >>> ((8 : Int32) &&& 31).toUInt32).toInt32).toInt8.toInt32)), .val (.int (((p2.toUInt32 >>> ((16 : Int32) &&& 31).toUInt32).toInt32).toInt8.toInt32)), .val (.ref b3), .val (.ref b9)] [(.int (1 : Int32))])) t → Steps p.tables e below (s₁.setTop (entryFrame m #[(.int p1), (.int p2), (.int p3)] maxLocals)) t := fun t kt => pre14 t (st15 t kt)
    obtain ⟨fs, hr, hrun, hended, hW, hsame⟩ := X15.leave (v := some (.int (1 : Int32))) (fun h => by rw [Bd.returns] at h; cases h)
    refine ⟨_, _, pre16 _ ?_, hrun, hended, _, _, rfl, ?_, ⟨_, rfl⟩, hW, hsame.mono (by decide) (by decide)⟩
    · show Steps p.tables e below (T15.setTop (mkF m 140 #[.val (.int p1), .val (.int p2), .val (.int p3), .val (.int (1 : Int32)), .val (.int ((p3 &&& (255 : Int32)) % (192 : Int32))), .val (.int (p2.toInt8.toInt32)), .val (.int (((p2.toUInt32 >>> ((8 : Int32) &&& 31).toUInt32).toInt32).toInt8.toInt32)), .val (.int (((p2.toUInt32 >>> ((16 : Int32) &&& 31).toUInt32).toInt32).toInt8.toInt32)), .val (.ref b3), .val (.ref b9)] [(.int (1 : Int32))])) _
      exact retN X15 hx (t := .boolean) Bd.returns (by simp) (hb hby at_140) hr
    · show Q0 Z p1 p2 p3 h0 n0 _ T15.heap _
      rw [e15]
      exact ⟨rfl, N15⟩
  · rw [hl] at pre1
    have pre17 : ∀ t, Steps p.tables e below (s₁.setTop (mkF m 36 #[.val (.int p1), .val (.int p2), .val (.int p3), .val (.int (2 : Int32)), .val (.int ((p3 &&& (255 : Int32)) % (192 : Int32))), .val (.int (p2.toInt8.toInt32)), .val (.int (((p2.toUInt32 >>> ((8 : Int32) &&& 31).toUInt32).toInt32).toInt8.toInt32)), .val (.int (((p2.toUInt32 >>> ((16 : Int32) &&& 31).toUInt32).toInt32).toInt8.toInt32)), .unset, .unset] [(.int (2 : Int32))])) t → Steps p.tables e below (s₁.setTop (entryFrame m #[(.int p1), (.int p2), (.int p3)] maxLocals)) t := fun t kt => pre1 t (by
      show Steps p.tables e below (s₁.setTop (mkF m 35 #[.val (.int p1), .val (.int p2), .val (.int p3), .val (.int (2 : Int32)), .val (.int ((p3 &&& (255 : Int32)) % (192 : Int32))), .val (.int (p2.toInt8.toInt32)), .val (.int (((p2.toUInt32 >>> ((8 : Int32) &&& 31).toUInt32).toInt32).toInt8.toInt32)), .val (.int (((p2.toUInt32 >>> ((16 : Int32) &&& 31).toUInt32).toInt32).toInt8.toInt32)), .unset, .unset] [])) _
      refine XS.iloadN X0.here hx rfl (hb hby at_35) rfl ?_
      exact kt)
    obtain ⟨T18, h18, X18, e18, E18, B18, A18, st18⟩ := own_bnew X0 hx hZ (hw _ (List.mem_of_getElem? (i := 0) rfl)) e0 (g := (mkF m 36 #[.val (.int p1), .val (.int p2), .val (.int p3), .val (.int (2 : Int32)), .val (.int ((p3 &&& (255 : Int32)) % (192 : Int32))), .val (.int (p2.toInt8.toInt32)), .val (.int (((p2.toUInt32 >>> ((8 : Int32) &&& 31).toUInt32).toInt32).toInt8.toInt32)), .val (.int (((p2.toUInt32 >>> ((16 : Int32) &&& 31).toUInt32).toInt32).toInt8.toInt32)), .unset, .unset] [(.int (2 : Int32))])) rfl (hb hby at_36) rfl (n := 2) (by decide) (by decide) (by decide) (by decide)
    obtain ⟨b18, g18⟩ : ∃ z, z = h0.size := ⟨_, rfl⟩
    rw [← g18] at B18 A18 st18
    have pre19 : ∀ t, Steps p.tables e below (T18.setTop (mkF m 38 #[.val (.int p1), .val (.int p2), .val (.int p3), .val (.int (2 : Int32)), .val (.int ((p3 &&& (255 : Int32)) % (192 : Int32))), .val (.int (p2.toInt8.toInt32)), .val (.int (((p2.toUInt32 >>> ((8 : Int32) &&& 31).toUInt32).toInt32).toInt8.toInt32)), .val (.int (((p2.toUInt32 >>> ((16 : Int32) &&& 31).toUInt32).toInt32).toInt8.toInt32)), .unset, .unset] [(.ref b18)])) t → Steps p.tables e below (s₁.setTop (entryFrame m #[(.int p1), (.int p2), (.int p3)] maxLocals)) t := fun t kt => pre17 t (st18 t kt)
    have gb : n0 ≤ b18 := Nat.le_trans Z0 (Nat.le_of_eq g18.symm)
    have ZZ18 : n0 ≤ h18.size := Nat.le_trans Z0 E18.1
    have pre20 : ∀ t, Steps p.tables e below (T18.setTop (mkF m 50 #[.val (.int p1), .val (.int p2), .val (.int p3), .val (.int (2 : Int32)), .val (.int ((p3 &&& (255 : Int32)) % (192 : Int32))), .val (.int (p2.toInt8.toInt32)), .val (.int (((p2.toUInt32 >>> ((8 : Int32) &&& 31).toUInt32).toInt32).toInt8.toInt32)), .val (.int (((p2.toUInt32 >>> ((16 : Int32) &&& 31).toUInt32).toInt32).toInt8.toInt32)), .val (.ref b18), .unset] [(.int (p2.toInt8.toInt32)), (.int (0 : Int32)), (.ref b18)])) t → Steps p.tables e below (s₁.setTop (entryFrame m #[(.int p1), (.int p2), (.int p3)] maxLocals)) t := fun t kt => pre19 t (by
      show Steps p.tables e below (T18.setTop (mkF m 38 #[.val (.int p1), .val (.int p2), .val (.int p3), .val (.int (2 : Int32)), .val (.int ((p3 &&& (255 : Int32)) % (192 : Int32))), .val (.int (p2.toInt8.toInt32)), .val (.int (((p2.toUInt32 >>> ((8 : Int32) &&& 31).toUInt32).toInt32).toInt8.toInt32)), .val (.int (((p2.toUInt32 >>> ((16 : Int32) &&& 31).toUInt32).toInt32).toInt8.toInt32)), .unset, .unset] [(.ref b18)])) _
      refine XS.astore X18.here hx rfl (hb hby at_38) rfl rfl (l' := #[.val (.int p1), .val (.int p2), .val (.int p3), .val (.int (2 : Int32)), .val (.int ((p3 &&& (255 : Int32)) % (192 : Int32))), .val (.int (p2.toInt8.toInt32)), .val (.int (((p2.toUInt32 >>> ((8 : Int32) &&& 31).toUInt32).toInt32).toInt8.toInt32)), .val (.int (((p2.toUInt32 >>> ((16 : Int32) &&& 31).toUInt32).toInt32).toInt8.toInt32)), .val (.ref b18), .unset]) rfl ?_
      show Steps p.tables e below (T18.setTop (mkF m 40 #[.val (.int p1), .val (.int p2), .val (.int p3), .val (.int (2 : Int32)), .val (.int ((p3 &&& (255 : Int32)) % (192 : Int32))), .val (.int (p2.toInt8.toInt32)), .val (.int (((p2.toUInt32 >>> ((8 : Int32) &&& 31).toUInt32).toInt32).toInt8.toInt32)), .val (.int (((p2.toUInt32 >>> ((16 : Int32) &&& 31).toUInt32).toInt32).toInt8.toInt32)), .val (.ref b18), .unset] [])) _
      refine XS.iloadN X18.here hx rfl (hb hby at_40) rfl ?_
      show Steps p.tables e below (T18.setTop (mkF m 41 #[.val (.int p1), .val (.int p2), .val (.int p3), .val (.int (2 : Int32)), .val (.int ((p3 &&& (255 : Int32)) % (192 : Int32))), .val (.int (p2.toInt8.toInt32)), .val (.int (((p2.toUInt32 >>> ((8 : Int32) &&& 31).toUInt32).toInt32).toInt8.toInt32)), .val (.int (((p2.toUInt32 >>> ((16 : Int32) &&& 31).toUInt32).toInt32).toInt8.toInt32)), .val (.ref b18), .unset] [(.int (2 : Int32))])) _
      refine XS.iconst X18.here hx rfl (hb hby at_41) ?_
      show Steps p.tables e below (T18.setTop (mkF m 42 #[.val (.int p1), .val (.int p2), .val (.int p3), .val (.int (2 : Int32)), .val (.int ((p3 &&& (255 : Int32)) % (192 : Int32))), .val (.int (p2.toInt8.toInt32)), .val (.int (((p2.toUInt32 >>> ((8 : Int32) &&& 31).toUInt32).toInt32).toInt8.toInt32)), .val (.int (((p2.toUInt32 >>> ((16 : Int32) &&& 31).toUInt32).toInt32).toInt8.toInt32)), .val (.ref b18), .unset] [(.int (1 : Int32)), (.int (2 : Int32))])) _
      refine XS.icmpNo X18.here hx rfl (hb hby at_42) rfl (tlt (by decide)).2.2.2 ?_
      show Steps p.tables e below (T18.setTop (mkF m 45 #[.val (.int p1), .val (.int p2), .val (.int p3), .val (.int (2 : Int32)), .val (.int ((p3 &&& (255 : Int32)) % (192 : Int32))), .val (.int (p2.toInt8.toInt32)), .val (.int (((p2.toUInt32 >>> ((8 : Int32) &&& 31).toUInt32).toInt32).toInt8.toInt32)), .val (.int (((p2.toUInt32 >>> ((16 : Int32) &&& 31).toUInt32).toInt32).toInt8.toInt32)), .val (.ref b18), .unset] [])) _
      refine XS.aload X18.here hx rfl (hb hby at_45) rfl rfl ?_
      show Steps p.tables e below (T18.setTop (mkF m 47 #[.val (.int p1), .val (.int p2), .val (.int p3), .val (.int (2 : Int32)), .val (.int ((p3 &&& (255 : Int32)) % (192 : Int32))), .val (.int (p2.toInt8.toInt32)), .val (.int (((p2.toUInt32 >>> ((8 : Int32) &&& 31).toUInt32).toInt32).toInt8.toInt32)), .val (.int (((p2.toUInt32 >>> ((16 : Int32) &&& 31).toUInt32).toInt32).toInt8.toInt32)), .val (.ref b18), .unset] [(.ref b18)])) _
      refine XS.iconst X18.here hx rfl (hb hby at_47) ?_
      show Steps p.tables e below (T18.setTop (mkF m 48 #[.val (.int p1), .val (.int p2), .val (.int p3), .val (.int (2 : Int32)), .val (.int ((p3 &&& (255 : Int32)) % (192 : Int32))), .val (.int (p2.toInt8.toInt32)), .val (.int (((p2.toUInt32 >>> ((8 : Int32) &&& 31).toUInt32).toInt32).toInt8.toInt32)), .val (.int (((p2.toUInt32 >>> ((16 : Int32) &&& 31).toUInt32).toInt32).toInt8.toInt32)), .val (.ref b18), .unset] [(.int (0 : Int32)), (.ref b18)])) _
      refine XS.iload X18.here hx rfl (hb hby at_48) rfl ?_
      exact kt)
    obtain ⟨T21, h21, X21, e21, B21, W21, st21⟩ := own_bstore X18 hx hZ e18 B18 (j := (0 : Int32)) (x := (p2.toInt8.toInt32)) (v := (p2.toInt8.toInt32)) (k := 0) (by decide) (by decide) (own_b8 _) (g := (mkF m 50 #[.val (.int p1), .val (.int p2), .val (.int p3), .val (.int (2 : Int32)), .val (.int ((p3 &&& (255 : Int32)) % (192 : Int32))), .val (.int (p2.toInt8.toInt32)), .val (.int (((p2.toUInt32 >>> ((8 : Int32) &&& 31).toUInt32).toInt32).toInt8.toInt32)), .val (.int (((p2.toUInt32 >>> ((16 : Int32) &&& 31).toUInt32).toInt32).toInt8.toInt32)), .val (.ref b18), .unset] [(.int (p2.toInt8.toInt32)), (.int (0 : Int32)), (.ref b18)])) rfl rfl (hb hby at_50)
    have N21 := Fr.snoc X21 N0 gb
    have pre22 : ∀ t, Steps p.tables e below (T21.setTop (mkF m 51 #[.val (.int p1), .val (.int p2), .val (.int p3), .val (.int (2 : Int32)), .val (.int ((p3 &&& (255 : Int32)) % (192 : Int32))), .val (.int (p2.toInt8.toInt32)), .val (.int (((p2.toUInt32 >>> ((8 : Int32) &&& 31).toUInt32).toInt32).toInt8.toInt32)), .val (.int (((p2.toUInt32 >>> ((16 : Int32) &&& 31).toUInt32).toInt32).toInt8.toInt32)), .val (.ref b18), .unset] [])) t → Steps p.tables e below (s₁.setTop (entryFrame m #[(.int p1), (.int p2), (.int p3)] maxLocals)) t := fun t kt => pre20 t (st21 t kt)
    have ZZ21 : n0 ≤ h21.size := by rw [W21.size]; exact ZZ18
    have A21 := A18.wr W21
    have pre23 : ∀ t, Steps p.tables e below (T21.setTop (mkF m 81 #[.val (.int p1), .val (.int p2), .val (.int p3), .val (.int (2 : Int32)), .val (.int ((p3 &&& (255 : Int32)) % (192 : Int32))), .val (.int (p2.toInt8.toInt32)), .val (.int (((p2.toUInt32 >>> ((8 : Int32) &&& 31).toUInt32).toInt32).toInt8.toInt32)), .val (.int (((p2.toUInt32 >>> ((16 : Int32) &&& 31).toUInt32).toInt32).toInt8.toInt32)), .val (.ref b18), .unset] [(.int (((p3 &&& (255 : Int32)) % (192 : Int32)).toInt8.toInt32)), (.int ((2 : Int32) - (1 : Int32))), (.ref b18)])) t → Steps p.tables e below (s₁.setTop (entryFrame m #[(.int p1), (.int p2), (.int p3)] maxLocals)) t := fun t kt => pre22 t (by
      show Steps p.tables e below (T21.setTop (mkF m 51 #[.val (.int p1), .val (.int p2), .val (.int p3), .val (.int (2 : Int32)), .val (.int ((p3 &&& (255 : Int32)) % (192 : Int32))), .val (.int (p2.toInt8.toInt32)), .val (.int (((p2.toUInt32 >>> ((8 : Int32) &&& 31).toUInt32).toInt32).toInt8.toInt32)), .val (.int (((p2.toUInt32 >>> ((16 : Int32) &&& 31).toUInt32).toInt32).toInt8.toInt32)), .val (.ref b18), .unset] [])) _
      refine XS.iloadN X21.here hx rfl (hb hby at_51) rfl ?_
      show Steps p.tables e below (T21.setTop (mkF m 52 #[.val (.int p1), .val (.int p2), .val (.int p3), .val (.int (2 : Int32)), .val (.int ((p3 &&& (255 : Int32)) % (192 : Int32))), .val (.int (p2.toInt8.toInt32)), .val (.int (((p2.toUInt32 >>> ((8 : Int32) &&& 31).toUInt32).toInt32).toInt8.toInt32)), .val (.int (((p2.toUInt32 >>> ((16 : Int32) &&& 31).toUInt32).toInt32).toInt8.toInt32)), .val (.ref b18), .unset] [(.int (2 : Int32))])) _
      refine XS.iconst X21.here hx rfl (hb hby at_52) ?_
      show Steps p.tables e below (T21.setTop (mkF m 53 #[.val (.int p1), .val (.int p2), .val (.int p3), .val (.int (2 : Int32)), .val (.int ((p3 &&& (255 : Int32)) % (192 : Int32))), .val (.int (p2.toInt8.toInt32)), .val (.int (((p2.toUInt32 >>> ((8 : Int32) &&& 31).toUInt32).toInt32).toInt8.toInt32)), .val (.int (((p2.toUInt32 >>> ((16 : Int32) &&& 31).toUInt32).toInt32).toInt8.toInt32)), .val (.ref b18), .unset] [(.int (2 : Int32)), (.int (2 : Int32))])) _
      refine XS.icmpYes X21.here hx rfl (pc0 := 53) (pc' := 62) rfl (hb hby at_53) rfl (flt (by decide)).2.2.2 (by decide) (by decide) ?_
      show Steps p.tables e below (T21.setTop (mkF m 62 #[.val (.int p1), .val (.int p2), .val (.int p3), .val (.int (2 : Int32)), .val (.int ((p3 &&& (255 : Int32)) % (192 : Int32))), .val (.int (p2.toInt8.toInt32)), .val (.int (((p2.toUInt32 >>> ((8 : Int32) &&& 31).toUInt32).toInt32).toInt8.toInt32)), .val (.int (((p2.toUInt32 >>> ((16 : Int32) &&& 31).toUInt32).toInt32).toInt8.toInt32)), .val (.ref b18), .unset] [])) _
      refine XS.iloadN X21.here hx rfl (hb hby at_62) rfl ?_
      show Steps p.tables e below (T21.setTop (mkF m 63 #[.val (.int p1), .val (.int p2), .val (.int p3), .val (.int (2 : Int32)), .val (.int ((p3 &&& (255 : Int32)) % (192 : Int32))), .val (.int (p2.toInt8.toInt32)), .val (.int (((p2.toUInt32 >>> ((8 : Int32) &&& 31).toUInt32).toInt32).toInt8.toInt32)), .val (.int (((p2.toUInt32 >>> ((16 : Int32) &&& 31).toUInt32).toInt32).toInt8.toInt32)), .val (.ref b18), .unset] [(.int (2 : Int32))])) _
      refine XS.iconst X21.here hx rfl (hb hby at_63) ?_
      show Steps p.tables e below (T21.setTop (mkF m 64 #[.val (.int p1), .val (.int p2), .val (.int p3), .val (.int (2 : Int32)), .val (.int ((p3 &&& (255 : Int32)) % (192 : Int32))), .val (.int (p2.toInt8.toInt32)), .val (.int (((p2.toUInt32 >>> ((8 : Int32) &&& 31).toUInt32).toInt32).toInt8.toInt32)), .val (.int (((p2.toUInt32 >>> ((16 : Int32) &&& 31).toUInt32).toInt32).toInt8.toInt32)), .val (.ref b18), .unset] [(.int (3 : Int32)), (.int (2 : Int32))])) _
      refine XS.icmpYes X21.here hx rfl (pc0 := 64) (pc' := 73) rfl (hb hby at_64) rfl (flt (by decide)).2.2.2 (by decide) (by decide) ?_
      show Steps p.tables e below (T21.setTop (mkF m 73 #[.val (.int p1), .val (.int p2), .val (.int p3), .val (.int (2 : Int32)), .val (.int ((p3 &&& (255 : Int32)) % (192 : Int32))), .val (.int (p2.toInt8.toInt32)), .val (.int (((p2.toUInt32 >>> ((8 : Int32) &&& 31).toUInt32).toInt32).toInt8.toInt32)), .val (.int (((p2.toUInt32 >>> ((16 : Int32) &&& 31).toUInt32).toInt32).toInt8.toInt32)), .val (.ref b18), .unset] [])) _
      refine XS.aload X21.here hx rfl (hb hby at_73) rfl rfl ?_
      show Steps p.tables e below (T21.setTop (mkF m 75 #[.val (.int p1), .val (.int p2), .val (.int p3), .val (.int (2 : Int32)), .val (.int ((p3 &&& (255 : Int32)) % (192 : Int32))), .val (.int (p2.toInt8.toInt32)), .val (.int (((p2.toUInt32 >>> ((8 : Int32) &&& 31).toUInt32).toInt32).toInt8.toInt32)), .val (.int (((p2.toUInt32 >>> ((16 : Int32) &&& 31).toUInt32).toInt32).toInt8.toInt32)), .val (.ref b18), .unset] [(.ref b18)])) _
      refine XS.iloadN X21.here hx rfl (hb hby at_75) rfl ?_
      show Steps p.tables e below (T21.setTop (mkF m 76 #[.val (.int p1), .val (.int p2), .val (.int p3), .val (.int (2 : Int32)), .val (.int ((p3 &&& (255 : Int32)) % (192 : Int32))), .val (.int (p2.toInt8.toInt32)), .val (.int (((p2.toUInt32 >>> ((8 : Int32) &&& 31).toUInt32).toInt32).toInt8.toInt32)), .val (.int (((p2.toUInt32 >>> ((16 : Int32) &&& 31).toUInt32).toInt32).toInt8.toInt32)), .val (.ref b18), .unset] [(.int (2 : Int32)), (.ref b18)])) _
      refine XS.iconst X21.here hx rfl (hb hby at_76) ?_
      show Steps p.tables e below (T21.setTop (mkF m 77 #[.val (.int p1), .val (.int p2), .val (.int p3), .val (.int (2 : Int32)), .val (.int ((p3 &&& (255 : Int32)) % (192 : Int32))), .val (.int (p2.toInt8.toInt32)), .val (.int (((p2.toUInt32 >>> ((8 : Int32) &&& 31).toUInt32).toInt32).toInt8.toInt32)), .val (.int (((p2.toUInt32 >>> ((16 : Int32) &&& 31).toUInt32).toInt32).toInt8.toInt32)), .val (.ref b18), .unset] [(.int (1 : Int32)), (.int (2 : Int32)), (.ref b18)])) _
      refine XS.isub X21.here hx rfl (hb hby at_77) rfl ?_
      show Steps p.tables e below (T21.setTop (mkF m 78 #[.val (.int p1), .val (.int p2), .val (.int p3), .val (.int (2 : Int32)), .val (.int ((p3 &&& (255 : Int32)) % (192 : Int32))), .val (.int (p2.toInt8.toInt32)), .val (.int (((p2.toUInt32 >>> ((8 : Int32) &&& 31).toUInt32).toInt32).toInt8.toInt32)), .val (.int (((p2.toUInt32 >>> ((16 : Int32) &&& 31).toUInt32).toInt32).toInt8.toInt32)), .val (.ref b18), .unset] [(.int ((2 : Int32) - (1 : Int32))), (.ref b18)])) _
      refine XS.iload X21.here hx rfl (hb hby at_78) rfl ?_
      show Steps p.tables e below (T21.setTop (mkF m 80 #[.val (.int p1), .val (.int p2), .val (.int p3), .val (.int (2 : Int32)), .val (.int ((p3 &&& (255 : Int32)) % (192 : Int32))), .val (.int (p2.toInt8.toInt32)), .val (.int (((p2.toUInt32 >>> ((8 : Int32) &&& 31).toUInt32).toInt32).toInt8.toInt32)), .val (.int (((p2.toUInt32 >>> ((16 : Int32) &&& 31).toUInt32).toInt32).toInt8.toInt32)), .val (.ref b18), .unset] [(.int ((p3 &&& (255 : Int32)) % (192 : Int32))), (.int ((2 : Int32) - (1 : Int32))), (.ref b18)])) _
      refine XS.i2b X21.here hx rfl (hb hby at_80) rfl ?_
      exact kt)
    obtain ⟨T24, h24, X24, e24, B24, W24, st24⟩ := own_bstore X21 hx hZ e21 B21 (j := ((2 : Int32) - (1 : Int32))) (x := (((p3 &&& (255 : Int32)) % (192 : Int32)).toInt8.toInt32)) (v := (((p3 &&& (255 : Int32)) % (192 : Int32)).toInt8.toInt32)) (k := 1) (by decide) (by decide) (own_b8 _) (g := (mkF m 81 #[.val (.int p1), .val (.int p2), .val (.int p3), .val (.int (2 : Int32)), .val (.int ((p3 &&& (255 : Int32)) % (192 : Int32))), .val (.int (p2.toInt8.toInt32)), .val (.int (((p2.toUInt32 >>> ((8 : Int32) &&& 31).toUInt32).toInt32).toInt8.toInt32)), .val (.int (((p2.toUInt32 >>> ((16 : Int32) &&& 31).toUInt32).toInt32).toInt8.toInt32)), .val (.ref b18), .unset] [(.int (((p3 &&& (255 : Int32)) % (192 : Int32)).toInt8.toInt32)), (.int ((2 : Int32) - (1 : Int32))), (.ref b18)])) rfl rfl (hb hby at_81)
    have N24 := Fr.snoc X24 N21 gb
    have pre25 : ∀ t, Steps p.tables e below (T24.setTop (mkF m 82 #[.val (.int p1), .val (.int p2), .val (.int p3), .val (.int (2 : Int32)), .val (.int ((p3 &&& (255 : Int32)) % (192 : Int32))), .val (.int (p2.toInt8.toInt32)), .val (.int (((p2.toUInt32 >>> ((8 : Int32) &&& 31).toUInt32).toInt32).toInt8.toInt32)), .val (.int (((p2.toUInt32 >>> ((16 : Int32) &&& 31).toUInt32).toInt32).toInt8.toInt32)), .val (.ref b18), .unset] [])) t → Steps p.tables e below (s₁.setTop (entryFrame m #[(.int p1), (.int p2), (.int p3)] maxLocals)) t := fun t kt => pre23 t (st24 t kt)
    have ZZ24 : n0 ≤ h24.size := by rw [W24.size]; exact ZZ21
    have A24 := A21.wr W24
    have pre26 : ∀ t, Steps p.tables e below (T24.setTop (mkF m 84 #[.val (.int p1), .val (.int p2), .val (.int p3), .val (.int (2 : Int32)), .val (.int ((p3 &&& (255 : Int32)) % (192 : Int32))), .val (.int (p2.toInt8.toInt32)), .val (.int (((p2.toUInt32 >>> ((8 : Int32) &&& 31).toUInt32).toInt32).toInt8.toInt32)), .val (.int (((p2.toUInt32 >>> ((16 : Int32) &&& 31).toUInt32).toInt32).toInt8.toInt32)), .val (.ref b18), .unset] [(.ref b18)])) t → Steps p.tables e below (s₁.setTop (entryFrame m #[(.int p1), (.int p2), (.int p3)] maxLocals)) t := fun t kt => pre25 t (by
      show Steps p.tables e below (T24.setTop (mkF m 82 #[.val (.int p1), .val (.int p2), .val (.int p3), .val (.int (2 : Int32)), .val (.int ((p3 &&& (255 : Int32)) % (192 : Int32))), .val (.int (p2.toInt8.toInt32)), .val (.int (((p2.toUInt32 >>> ((8 : Int32) &&& 31).toUInt32).toInt32).toInt8.toInt32)), .val (.int (((p2.toUInt32 >>> ((16 : Int32) &&& 31).toUInt32).toInt32).toInt8.toInt32)), .val (.ref b18), .unset] [])) _
      refine XS.aload X24.here hx rfl (hb hby at_82) rfl rfl ?_
      exact kt)
    obtain ⟨b9, g9⟩ : ∃ z, z = h24.size := ⟨_, rfl⟩
    have hne : ¬ (b9 = b18) := by rw [g9]; exact Nat.ne_of_gt B24.lt
    obtain ⟨_, _, ⟨T27, L27, k27, n27⟩, -, X27, ⟨Lc27, hQ27, l27, y27, z27⟩, st27⟩ := Jvm.LawKit.callS X24 hx (y := (⟨"com/example/treecreeper/treecreeper/store/RecordCodec", "pastStart", "([B)[B"⟩ : MethodName)) hown (mvT hZ (hw _ (List.mem_of_getElem? (i := 1) rfl))) (mvT hZ (hw _ (List.mem_of_getElem? (i := 2) rfl))) (mvT hZ (hw _ (List.mem_of_getElem? (i := 3) rfl))) (mvT hZ (hw _ (List.mem_of_getElem? (i := 4) rfl))) (by decide) (backOf (W := 0) (rm1_2 l Z a0 hw [] b18 b9 _ h24 n0 ZZ24 g9 B24 A24) hZ (hw _ (List.mem_of_getElem? (i := 4) rfl)) (hw _ (List.mem_of_getElem? (i := 3) rfl)) (by decide) (by decide)) (g := (mkF m 84 #[.val (.int p1), .val (.int p2), .val (.int p3), .val (.int (2 : Int32)), .val (.int ((p3 &&& (255 : Int32)) % (192 : Int32))), .val (.int (p2.toInt8.toInt32)), .val (.int (((p2.toUInt32 >>> ((8 : Int32) &&& 31).toUInt32).toInt32).toInt8.toInt32)), .val (.int (((p2.toUInt32 >>> ((16 : Int32) &&& 31).toUInt32).toInt32).toInt8.toInt32)), .val (.ref b18), .unset] [(.ref b18)])) rfl (by rw [hml]; rfl) (argsL := [(.ref b18)]) (rest := []) (lenOf pd_0_0 rfl) rfl (by show 2 * 0 + _ ≤ _; exact Nat.le_of_eq rfl) (hb hby at_84) (fun _ _ => ⟨rfl, e24, (by decide : 1 + 1 ≤ _), (by decide : 2 + 2 ≤ _)⟩)
    dsimp only [Pt.U, Pt.locs, Pt.cells, Pt.slots] at X27 l27 y27 z27 st27 hQ27
    subst l27 y27 z27
    obtain ⟨rfl, N27q, K27, B27⟩ := hQ27
    have N27 := Fr.app N24 N27q
    have pre28 : ∀ t, Steps p.tables e below (T27.setTop (mkF m 87 #[.val (.int p1), .val (.int p2), .val (.int p3), .val (.int (2 : Int32)), .val (.int ((p3 &&& (255 : Int32)) % (192 : Int32))), .val (.int (p2.toInt8.toInt32)), .val (.int (((p2.toUInt32 >>> ((8 : Int32) &&& 31).toUInt32).toInt32).toInt8.toInt32)), .val (.int (((p2.toUInt32 >>> ((16 : Int32) &&& 31).toUInt32).toInt32).toInt8.toInt32)), .val (.ref b18), .unset] [(.ref b9)])) t → Steps p.tables e below (s₁.setTop (entryFrame m #[(.int p1), (.int p2), (.int p3)] maxLocals)) t := fun t kt => pre26 t (st27 t kt)
    have Bs := B24.keep K27 nin0
    have Zs : n0 ≤ T27.heap.size := Nat.le_trans ZZ24 K27.1
    have pre29 : ∀ t, Steps p.tables e below (T27.setTop (mkF m 115 #[.val (.int p1), .val (.int p2), .val (.int p3), .val (.int (2 : Int32)), .val (.int ((p3 &&& (255 : Int32)) % (192 : Int32))), .val (.int (p2.toInt8.toInt32)), .val (.int (((p2.toUInt32 >>> ((8 : Int32) &&& 31).toUInt32).toInt32).toInt8.toInt32)), .val (.int (((p2.toUInt32 >>> ((16 : Int32) &&& 31).toUInt32).toInt32).toInt8.toInt32)), .val (.ref b18), .val (.ref b9)] [(.int (((p3 &&& (255 : Int32)) % (192 : Int32)).toInt8.toInt32)), (.int (((p2.toUInt32 >>> ((16 : Int32) &&& 31).toUInt32).toInt32).toInt8.toInt32)), (.int (((p2.toUInt32 >>> ((8 : Int32) &&& 31).toUInt32).toInt32).toInt8.toInt32)), (.int (p2.toInt8.toInt32)), (.int (2 : Int32)), (.ref b18)])) t → Steps p.tables e below (s₁.setTop (entryFrame m #[(.int p1), (.int p2), (.int p3)] maxLocals)) t := fun t kt => pre28 t (by
      show Steps p.tables e below (T27.setTop (mkF m 87 #[.val (.int p1), .val (.int p2), .val (.int p3), .val (.int (2 : Int32)), .val (.int ((p3 &&& (255 : Int32)) % (192 : Int32))), .val (.int (p2.toInt8.toInt32)), .val (.int (((p2.toUInt32 >>> ((8 : Int32) &&& 31).toUInt32).toInt32).toInt8.toInt32)), .val (.int (((p2.toUInt32 >>> ((16 : Int32) &&& 31).toUInt32).toInt32).toInt8.toInt32)), .val (.ref b18), .unset] [(.ref b9)])) _
      refine XS.astore X27.here hx rfl (hb hby at_87) rfl rfl (l' := #[.val (.int p1), .val (.int p2), .val (.int p3), .val (.int (2 : Int32)), .val (.int ((p3 &&& (255 : Int32)) % (192 : Int32))), .val (.int (p2.toInt8.toInt32)), .val (.int (((p2.toUInt32 >>> ((8 : Int32) &&& 31).toUInt32).toInt32).toInt8.toInt32)), .val (.int (((p2.toUInt32 >>> ((16 : Int32) &&& 31).toUInt32).toInt32).toInt8.toInt32)), .val (.ref b18), .val (.ref b9)]) rfl ?_
      show Steps p.tables e below (T27.setTop (mkF m 89 #[.val (.int p1), .val (.int p2), .val (.int p3), .val (.int (2 : Int32)), .val (.int ((p3 &&& (255 : Int32)) % (192 : Int32))), .val (.int (p2.toInt8.toInt32)), .val (.int (((p2.toUInt32 >>> ((8 : Int32) &&& 31).toUInt32).toInt32).toInt8.toInt32)), .val (.int (((p2.toUInt32 >>> ((16 : Int32) &&& 31).toUInt32).toInt32).toInt8.toInt32)), .val (.ref b18), .val (.ref b9)] [])) _
      refine XS.aload X27.here hx rfl (hb hby at_89) rfl rfl ?_
      show Steps p.tables e below (T27.setTop (mkF m 91 #[.val (.int p1), .val (.int p2), .val (.int p3), .val (.int (2 : Int32)), .val (.int ((p3 &&& (255 : Int32)) % (192 : Int32))), .val (.int (p2.toInt8.toInt32)), .val (.int (((p2.toUInt32 >>> ((8 : Int32) &&& 31).toUInt32).toInt32).toInt8.toInt32)), .val (.int (((p2.toUInt32 >>> ((16 : Int32) &&& 31).toUInt32).toInt32).toInt8.toInt32)), .val (.ref b18), .val (.ref b9)] [(.ref b9)])) _
      refine XS.ifnullNo X27.here hx rfl (hb hby at_91) rfl ?_
      show Steps p.tables e below (T27.setTop (mkF m 94 #[.val (.int p1), .val (.int p2), .val (.int p3), .val (.int (2 : Int32)), .val (.int ((p3 &&& (255 : Int32)) % (192 : Int32))), .val (.int (p2.toInt8.toInt32)), .val (.int (((p2.toUInt32 >>> ((8 : Int32) &&& 31).toUInt32).toInt32).toInt8.toInt32)), .val (.int (((p2.toUInt32 >>> ((16 : Int32) &&& 31).toUInt32).toInt32).toInt8.toInt32)), .val (.ref b18), .val (.ref b9)] [])) _
      refine XS.aload X27.here hx rfl (hb hby at_94) rfl rfl ?_
      show Steps p.tables e below (T27.setTop (mkF m 96 #[.val (.int p1), .val (.int p2), .val (.int p3), .val (.int (2 : Int32)), .val (.int ((p3 &&& (255 : Int32)) % (192 : Int32))), .val (.int (p2.toInt8.toInt32)), .val (.int (((p2.toUInt32 >>> ((8 : Int32) &&& 31).toUInt32).toInt32).toInt8.toInt32)), .val (.int (((p2.toUInt32 >>> ((16 : Int32) &&& 31).toUInt32).toInt32).toInt8.toInt32)), .val (.ref b18), .val (.ref b9)] [(.ref b9)])) _
      refine XS.aload X27.here hx rfl (hb hby at_96) rfl rfl ?_
      show Steps p.tables e below (T27.setTop (mkF m 98 #[.val (.int p1), .val (.int p2), .val (.int p3), .val (.int (2 : Int32)), .val (.int ((p3 &&& (255 : Int32)) % (192 : Int32))), .val (.int (p2.toInt8.toInt32)), .val (.int (((p2.toUInt32 >>> ((8 : Int32) &&& 31).toUInt32).toInt32).toInt8.toInt32)), .val (.int (((p2.toUInt32 >>> ((16 : Int32) &&& 31).toUInt32).toInt32).toInt8.toInt32)), .val (.ref b18), .val (.ref b9)] [(.ref b18), (.ref b9)])) _
      refine Jvm.RoadKit.acmp (g := (mkF m 98 #[.val (.int p1), .val (.int p2), .val (.int p3), .val (.int (2 : Int32)), .val (.int ((p3 &&& (255 : Int32)) % (192 : Int32))), .val (.int (p2.toInt8.toInt32)), .val (.int (((p2.toUInt32 >>> ((8 : Int32) &&& 31).toUInt32).toInt32).toInt8.toInt32)), .val (.int (((p2.toUInt32 >>> ((16 : Int32) &&& 31).toUInt32).toInt32).toInt8.toInt32)), .val (.ref b18), .val (.ref b9)] [(.ref b18), (.ref b9)])) X27 hx rfl rfl rfl (pc0 := 98) (pc' := 103) (same := false) rfl (hb hby at_98) rfl (decide_eq_false fun q => hne (Value.ref.inj q)) (by decide) (by decide) ?_
      show Steps p.tables e below (T27.setTop (mkF m 103 #[.val (.int p1), .val (.int p2), .val (.int p3), .val (.int (2 : Int32)), .val (.int ((p3 &&& (255 : Int32)) % (192 : Int32))), .val (.int (p2.toInt8.toInt32)), .val (.int (((p2.toUInt32 >>> ((8 : Int32) &&& 31).toUInt32).toInt32).toInt8.toInt32)), .val (.int (((p2.toUInt32 >>> ((16 : Int32) &&& 31).toUInt32).toInt32).toInt8.toInt32)), .val (.ref b18), .val (.ref b9)] [])) _
      refine XS.aload X27.here hx rfl (hb hby at_103) rfl rfl ?_
      show Steps p.tables e below (T27.setTop (mkF m 105 #[.val (.int p1), .val (.int p2), .val (.int p3), .val (.int (2 : Int32)), .val (.int ((p3 &&& (255 : Int32)) % (192 : Int32))), .val (.int (p2.toInt8.toInt32)), .val (.int (((p2.toUInt32 >>> ((8 : Int32) &&& 31).toUInt32).toInt32).toInt8.toInt32)), .val (.int (((p2.toUInt32 >>> ((16 : Int32) &&& 31).toUInt32).toInt32).toInt8.toInt32)), .val (.ref b18), .val (.ref b9)] [(.ref b18)])) _
      refine XS.iloadN X27.here hx rfl (hb hby at_105) rfl ?_
      show Steps p.tables e below (T27.setTop (mkF m 106 #[.val (.int p1), .val (.int p2), .val (.int p3), .val (.int (2 : Int32)), .val (.int ((p3 &&& (255 : Int32)) % (192 : Int32))), .val (.int (p2.toInt8.toInt32)), .val (.int (((p2.toUInt32 >>> ((8 : Int32) &&& 31).toUInt32).toInt32).toInt8.toInt32)), .val (.int (((p2.toUInt32 >>> ((16 : Int32) &&& 31).toUInt32).toInt32).toInt8.toInt32)), .val (.ref b18), .val (.ref b9)] [(.int (2 : Int32)), (.ref b18)])) _
      refine XS.iload X27.here hx rfl (hb hby at_106) rfl ?_
      show Steps p.tables e below (T27.setTop (mkF m 108 #[.val (.int p1), .val (.int p2), .val (.int p3), .val (.int (2 : Int32)), .val (.int ((p3 &&& (255 : Int32)) % (192 : Int32))), .val (.int (p2.toInt8.toInt32)), .val (.int (((p2.toUInt32 >>> ((8 : Int32) &&& 31).toUInt32).toInt32).toInt8.toInt32)), .val (.int (((p2.toUInt32 >>> ((16 : Int32) &&& 31).toUInt32).toInt32).toInt8.toInt32)), .val (.ref b18), .val (.ref b9)] [(.int (p2.toInt8.toInt32)), (.int (2 : Int32)), (.ref b18)])) _
      refine XS.iload X27.here hx rfl (hb hby at_108) rfl ?_
      show Steps p.tables e below (T27.setTop (mkF m 110 #[.val (.int p1), .val (.int p2), .val (.int p3), .val (.int (2 : Int32)), .val (.int ((p3 &&& (255 : Int32)) % (192 : Int32))), .val (.int (p2.toInt8.toInt32)), .val (.int (((p2.toUInt32 >>> ((8 : Int32) &&& 31).toUInt32).toInt32).toInt8.toInt32)), .val (.int (((p2.toUInt32 >>> ((16 : Int32) &&& 31).toUInt32).toInt32).toInt8.toInt32)), .val (.ref b18), .val (.ref b9)] [(.int (((p2.toUInt32 >>> ((8 : Int32) &&& 31).toUInt32).toInt32).toInt8.toInt32)), (.int (p2.toInt8.toInt32)), (.int (2 : Int32)), (.ref b18)])) _
      refine XS.iload X27.here hx rfl (hb hby at_110) rfl ?_
      show Steps p.tables e below (T27.setTop (mkF m 112 #[.val (.int p1), .val (.int p2), .val (.int p3), .val (.int (2 : Int32)), .val (.int ((p3 &&& (255 : Int32)) % (192 : Int32))), .val (.int (p2.toInt8.toInt32)), .val (.int (((p2.toUInt32 >>> ((8 : Int32) &&& 31).toUInt32).toInt32).toInt8.toInt32)), .val (.int (((p2.toUInt32 >>> ((16 : Int32) &&& 31).toUInt32).toInt32).toInt8.toInt32)), .val (.ref b18), .val (.ref b9)] [(.int (((p2.toUInt32 >>> ((16 : Int32) &&& 31).toUInt32).toInt32).toInt8.toInt32)), (.int (((p2.toUInt32 >>> ((8 : Int32) &&& 31).toUInt32).toInt32).toInt8.toInt32)), (.int (p2.toInt8.toInt32)), (.int (2 : Int32)), (.ref b18)])) _
      refine XS.iload X27.here hx rfl (hb hby at_112) rfl ?_
      show Steps p.tables e below (T27.setTop (mkF m 114 #[.val (.int p1), .val (.int p2), .val (.int p3), .val (.int (2 : Int32)), .val (.int ((p3 &&& (255 : Int32)) % (192 : Int32))), .val (.int (p2.toInt8.toInt32)), .val (.int (((p2.toUInt32 >>> ((8 : Int32) &&& 31).toUInt32).toInt32).toInt8.toInt32)), .val (.int (((p2.toUInt32 >>> ((16 : Int32) &&& 31).toUInt32).toInt32).toInt8.toInt32)), .val (.ref b18), .val (.ref b9)] [(.int ((p3 &&& (255 : Int32)) % (192 : Int32))), (.int (((p2.toUInt32 >>> ((16 : Int32) &&& 31).toUInt32).toInt32).toInt8.toInt32)), (.int (((p2.toUInt32 >>> ((8 : Int32) &&& 31).toUInt32).toInt32).toInt8.toInt32)), (.int (p2.toInt8.toInt32)), (.int (2 : Int32)), (.ref b18)])) _
      refine XS.i2b X27.here hx rfl (hb hby at_114) rfl ?_
      exact kt)
    obtain ⟨_, _, ⟨T30, L30, k30, n30⟩, -, X30, ⟨Lc30, hQ30, l30, y30, z30⟩, st30⟩ := Jvm.LawKit.callS X27 hx (y := (⟨"com/example/treecreeper/treecreeper/store/RecordCodecPastStartPinLaw", "same", "([BIBBBB)Z"⟩ : MethodName)) hown (mvT hZ (hw _ (List.mem_of_getElem? (i := 14) rfl))) (mvT hZ (hw _ (List.mem_of_getElem? (i := 15) rfl))) (mvT hZ (hw _ (List.mem_of_getElem? (i := 16) rfl))) (mvT hZ (hw _ (List.mem_of_getElem? (i := 17) rfl))) (by decide) (backOf (W := 0) (rm2_2 l Z a0 hw [] b18 _ (p2.toInt8.toInt32) (((p2.toUInt32 >>> ((8 : Int32) &&& 31).toUInt32).toInt32).toInt8.toInt32) (((p2.toUInt32 >>> ((16 : Int32) &&& 31).toUInt32).toInt32).toInt8.toInt32) (((p3 &&& (255 : Int32)) % (192 : Int32)).toInt8.toInt32) T27.heap n0 Zs Bs (own_ne (by decide) (own_at _ _ _)) (own_at _ _ _)) hZ (hw _ (List.mem_of_getElem? (i := 17) rfl)) (hw _ (List.mem_of_getElem? (i := 16) rfl)) (by decide) (by decide)) (g := (mkF m 115 #[.val (.int p1), .val (.int p2), .val (.int p3), .val (.int (2 : Int32)), .val (.int ((p3 &&& (255 : Int32)) % (192 : Int32))), .val (.int (p2.toInt8.toInt32)), .val (.int (((p2.toUInt32 >>> ((8 : Int32) &&& 31).toUInt32).toInt32).toInt8.toInt32)), .val (.int (((p2.toUInt32 >>> ((16 : Int32) &&& 31).toUInt32).toInt32).toInt8.toInt32)), .val (.ref b18), .val (.ref b9)] [(.int (((p3 &&& (255 : Int32)) % (192 : Int32)).toInt8.toInt32)), (.int (((p2.toUInt32 >>> ((16 : Int32) &&& 31).toUInt32).toInt32).toInt8.toInt32)), (.int (((p2.toUInt32 >>> ((8 : Int32) &&& 31).toUInt32).toInt32).toInt8.toInt32)), (.int (p2.toInt8.toInt32)), (.int (2 : Int32)), (.ref b18)])) rfl (by rw [hml]; rfl) (argsL := [(.ref b18), (.int (2 : Int32)), (.int (p2.toInt8.toInt32)), (.int (((p2.toUInt32 >>> ((8 : Int32) &&& 31).toUInt32).toInt32).toInt8.toInt32)), (.int (((p2.toUInt32 >>> ((16 : Int32) &&& 31).toUInt32).toInt32).toInt8.toInt32)), (.int (((p3 &&& (255 : Int32)) % (192 : Int32)).toInt8.toInt32))]) (rest := []) (lenOf pd_0_1 rfl) rfl (by show 2 * 0 + _ ≤ _; exact Nat.le_of_eq rfl) (hb hby at_115) (fun _ _ => ⟨rfl, rfl, (by decide : 2 + 0 ≤ _), (by decide : 4 + 0 ≤ _)⟩)
    dsimp only [Pt.U, Pt.locs, Pt.cells, Pt.slots] at X30 l30 y30 z30 st30 hQ30
    subst l30 y30 z30
    obtain ⟨rfl, N30q, e30⟩ := hQ30
    have N30 := Fr.app N27 N30q
    have pre31 : ∀ t, Steps p.tables e below (T30.setTop (mkF m 118 #[.val (.int p1), .val (.int p2), .val (.int p3), .val (.int (2 : Int32)), .val (.int ((p3 &&& (255 : Int32)) % (192 : Int32))), .val (.int (p2.toInt8.toInt32)), .val (.int (((p2.toUInt32 >>> ((8 : Int32) &&& 31).toUInt32).toInt32).toInt8.toInt32)), .val (.int (((p2.toUInt32 >>> ((16 : Int32) &&& 31).toUInt32).toInt32).toInt8.toInt32)), .val (.ref b18), .val (.ref b9)] [(.int (1 : Int32))])) t → Steps p.tables e below (s₁.setTop (entryFrame m #[(.int p1), (.int p2), (.int p3)] maxLocals)) t := fun t kt => pre29 t (st30 t kt)
    have pre32 : ∀ t, Steps p.tables e below (T30.setTop (mkF m 137 #[.val (.int p1), .val (.int p2), .val (.int p3), .val (.int (2 : Int32)), .val (.int ((p3 &&& (255 : Int32)) % (192 : Int32))), .val (.int (p2.toInt8.toInt32)), .val (.int (((p2.toUInt32 >>> ((8 : Int32) &&& 31).toUInt32).toInt32).toInt8.toInt32)), .val (.int (((p2.toUInt32 >>> ((16 : Int32) &&& 31).toUInt32).toInt32).toInt8.toInt32)), .val (.ref b18), .val (.ref b9)] [(.int ((((p3 &&& (255 : Int32)) % (192 : Int32)) + (1 : Int32)).toInt8.toInt32)), (.int (((p2.toUInt32 >>> ((16 : Int32) &&& 31).toUInt32).toInt32).toInt8.toInt32)), (.int (((p2.toUInt32 >>> ((8 : Int32) &&& 31).toUInt32).toInt32).toInt8.toInt32)), (.int (p2.toInt8.toInt32)), (.int (2 : Int32)), (.ref b9)])) t → Steps p.tables e below (s₁.setTop (entryFrame m #[(.int p1), (.int p2), (.int p3)] maxLocals)) t := fun t kt => pre31 t (by
      show Steps p.tables e below (T30.setTop (mkF m 118 #[.val (.int p1), .val (.int p2), .val (.int p3), .val (.int (2 : Int32)), .val (.int ((p3 &&& (255 : Int32)) % (192 : Int32))), .val (.int (p2.toInt8.toInt32)), .val (.int (((p2.toUInt32 >>> ((8 : Int32) &&& 31).toUInt32).toInt32).toInt8.toInt32)), .val (.int (((p2.toUInt32 >>> ((16 : Int32) &&& 31).toUInt32).toInt32).toInt8.toInt32)), .val (.ref b18), .val (.ref b9)] [(.int (1 : Int32))])) _
      refine XS.ifYes X30.here hx rfl (pc0 := 118) (pc' := 123) rfl (hb hby at_118) rfl ((if0 _ _).trans (feq (by decide)).2) (by decide) (by decide) ?_
      show Steps p.tables e below (T30.setTop (mkF m 123 #[.val (.int p1), .val (.int p2), .val (.int p3), .val (.int (2 : Int32)), .val (.int ((p3 &&& (255 : Int32)) % (192 : Int32))), .val (.int (p2.toInt8.toInt32)), .val (.int (((p2.toUInt32 >>> ((8 : Int32) &&& 31).toUInt32).toInt32).toInt8.toInt32)), .val (.int (((p2.toUInt32 >>> ((16 : Int32) &&& 31).toUInt32).toInt32).toInt8.toInt32)), .val (.ref b18), .val (.ref b9)] [])) _
      refine XS.aload X30.here hx rfl (hb hby at_123) rfl rfl ?_
      show Steps p.tables e below (T30.setTop (mkF m 125 #[.val (.int p1), .val (.int p2), .val (.int p3), .val (.int (2 : Int32)), .val (.int ((p3 &&& (255 : Int32)) % (192 : Int32))), .val (.int (p2.toInt8.toInt32)), .val (.int (((p2.toUInt32 >>> ((8 : Int32) &&& 31).toUInt32).toInt32).toInt8.toInt32)), .val (.int (((p2.toUInt32 >>> ((16 : Int32) &&& 31).toUInt32).toInt32).toInt8.toInt32)), .val (.ref b18), .val (.ref b9)] [(.ref b9)])) _
      refine XS.iloadN X30.here hx rfl (hb hby at_125) rfl ?_
      show Steps p.tables e below (T30.setTop (mkF m 126 #[.val (.int p1), .val (.int p2), .val (.int p3), .val (.int (2 : Int32)), .val (.int ((p3 &&& (255 : Int32)) % (192 : Int32))), .val (.int (p2.toInt8.toInt32)), .val (.int (((p2.toUInt32 >>> ((8 : Int32) &&& 31).toUInt32).toInt32).toInt8.toInt32)), .val (.int (((p2.toUInt32 >>> ((16 : Int32) &&& 31).toUInt32).toInt32).toInt8.toInt32)), .val (.ref b18), .val (.ref b9)] [(.int (2 : Int32)), (.ref b9)])) _
      refine XS.iload X30.here hx rfl (hb hby at_126) rfl ?_
      show Steps p.tables e below (T30.setTop (mkF m 128 #[.val (.int p1), .val (.int p2), .val (.int p3), .val (.int (2 : Int32)), .val (.int ((p3 &&& (255 : Int32)) % (192 : Int32))), .val (.int (p2.toInt8.toInt32)), .val (.int (((p2.toUInt32 >>> ((8 : Int32) &&& 31).toUInt32).toInt32).toInt8.toInt32)), .val (.int (((p2.toUInt32 >>> ((16 : Int32) &&& 31).toUInt32).toInt32).toInt8.toInt32)), .val (.ref b18), .val (.ref b9)] [(.int (p2.toInt8.toInt32)), (.int (2 : Int32)), (.ref b9)])) _
      refine XS.iload X30.here hx rfl (hb hby at_128) rfl ?_
      show Steps p.tables e below (T30.setTop (mkF m 130 #[.val (.int p1), .val (.int p2), .val (.int p3), .val (.int (2 : Int32)), .val (.int ((p3 &&& (255 : Int32)) % (192 : Int32))), .val (.int (p2.toInt8.toInt32)), .val (.int (((p2.toUInt32 >>> ((8 : Int32) &&& 31).toUInt32).toInt32).toInt8.toInt32)), .val (.int (((p2.toUInt32 >>> ((16 : Int32) &&& 31).toUInt32).toInt32).toInt8.toInt32)), .val (.ref b18), .val (.ref b9)] [(.int (((p2.toUInt32 >>> ((8 : Int32) &&& 31).toUInt32).toInt32).toInt8.toInt32)), (.int (p2.toInt8.toInt32)), (.int (2 : Int32)), (.ref b9)])) _
      refine XS.iload X30.here hx rfl (hb hby at_130) rfl ?_
      show Steps p.tables e below (T30.setTop (mkF m 132 #[.val (.int p1), .val (.int p2), .val (.int p3), .val (.int (2 : Int32)), .val (.int ((p3 &&& (255 : Int32)) % (192 : Int32))), .val (.int (p2.toInt8.toInt32)), .val (.int (((p2.toUInt32 >>> ((8 : Int32) &&& 31).toUInt32).toInt32).toInt8.toInt32)), .val (.int (((p2.toUInt32 >>> ((16 : Int32) &&& 31).toUInt32).toInt32).toInt8.toInt32)), .val (.ref b18), .val (.ref b9)] [(.int (((p2.toUInt32 >>> ((16 : Int32) &&& 31).toUInt32).toInt32).toInt8.toInt32)), (.int (((p2.toUInt32 >>> ((8 : Int32) &&& 31).toUInt32).toInt32).toInt8.toInt32)), (.int (p2.toInt8.toInt32)), (.int (2 : Int32)), (.ref b9)])) _
      refine XS.iload X30.here hx rfl (hb hby at_132) rfl ?_
      show Steps p.tables e below (T30.setTop (mkF m 134 #[.val (.int p1), .val (.int p2), .val (.int p3), .val (.int (2 : Int32)), .val (.int ((p3 &&& (255 : Int32)) % (192 : Int32))), .val (.int (p2.toInt8.toInt32)), .val (.int (((p2.toUInt32 >>> ((8 : Int32) &&& 31).toUInt32).toInt32).toInt8.toInt32)), .val (.int (((p2.toUInt32 >>> ((16 : Int32) &&& 31).toUInt32).toInt32).toInt8.toInt32)), .val (.ref b18), .val (.ref b9)] [(.int ((p3 &&& (255 : Int32)) % (192 : Int32))), (.int (((p2.toUInt32 >>> ((16 : Int32) &&& 31).toUInt32).toInt32).toInt8.toInt32)), (.int (((p2.toUInt32 >>> ((8 : Int32) &&& 31).toUInt32).toInt32).toInt8.toInt32)), (.int (p2.toInt8.toInt32)), (.int (2 : Int32)), (.ref b9)])) _
      refine XS.iconst X30.here hx rfl (hb hby at_134) ?_
      show Steps p.tables e below (T30.setTop (mkF m 135 #[.val (.int p1), .val (.int p2), .val (.int p3), .val (.int (2 : Int32)), .val (.int ((p3 &&& (255 : Int32)) % (192 : Int32))), .val (.int (p2.toInt8.toInt32)), .val (.int (((p2.toUInt32 >>> ((8 : Int32) &&& 31).toUInt32).toInt32).toInt8.toInt32)), .val (.int (((p2.toUInt32 >>> ((16 : Int32) &&& 31).toUInt32).toInt32).toInt8.toInt32)), .val (.ref b18), .val (.ref b9)] [(.int (1 : Int32)), (.int ((p3 &&& (255 : Int32)) % (192 : Int32))), (.int (((p2.toUInt32 >>> ((16 : Int32) &&& 31).toUInt32).toInt32).toInt8.toInt32)), (.int (((p2.toUInt32 >>> ((8 : Int32) &&& 31).toUInt32).toInt32).toInt8.toInt32)), (.int (p2.toInt8.toInt32)), (.int (2 : Int32)), (.ref b9)])) _
      refine XS.iadd X30.here hx rfl (hb hby at_135) rfl ?_
      show Steps p.tables e below (T30.setTop (mkF m 136 #[.val (.int p1), .val (.int p2), .val (.int p3), .val (.int (2 : Int32)), .val (.int ((p3 &&& (255 : Int32)) % (192 : Int32))), .val (.int (p2.toInt8.toInt32)), .val (.int (((p2.toUInt32 >>> ((8 : Int32) &&& 31).toUInt32).toInt32).toInt8.toInt32)), .val (.int (((p2.toUInt32 >>> ((16 : Int32) &&& 31).toUInt32).toInt32).toInt8.toInt32)), .val (.ref b18), .val (.ref b9)] [(.int (((p3 &&& (255 : Int32)) % (192 : Int32)) + (1 : Int32))), (.int (((p2.toUInt32 >>> ((16 : Int32) &&& 31).toUInt32).toInt32).toInt8.toInt32)), (.int (((p2.toUInt32 >>> ((8 : Int32) &&& 31).toUInt32).toInt32).toInt8.toInt32)), (.int (p2.toInt8.toInt32)), (.int (2 : Int32)), (.ref b9)])) _
      refine XS.i2b X30.here hx rfl (hb hby at_136) rfl ?_
      exact kt)
    obtain ⟨_, _, ⟨T33, L33, k33, n33⟩, -, X33, ⟨Lc33, hQ33, l33, y33, z33⟩, st33⟩ := Jvm.LawKit.callS X30 hx (y := (⟨"com/example/treecreeper/treecreeper/store/RecordCodecPastStartPinLaw", "same", "([BIBBBB)Z"⟩ : MethodName)) hown (mvT hZ (hw _ (List.mem_of_getElem? (i := 14) rfl))) (mvT hZ (hw _ (List.mem_of_getElem? (i := 15) rfl))) (mvT hZ (hw _ (List.mem_of_getElem? (i := 16) rfl))) (mvT hZ (hw _ (List.mem_of_getElem? (i := 17) rfl))) (by decide) (backOf (W := 0) (rm2_2 l Z a0 hw [] b9 _ (p2.toInt8.toInt32) (((p2.toUInt32 >>> ((8 : Int32) &&& 31).toUInt32).toInt32).toInt8.toInt32) (((p2.toUInt32 >>> ((16 : Int32) &&& 31).toUInt32).toInt32).toInt8.toInt32) ((((p3 &&& (255 : Int32)) % (192 : Int32)) + (1 : Int32)).toInt8.toInt32) T27.heap n0 Zs B27 (own_ne (by decide) (own_ne (by decide) (own_at _ _ _))) ((own_at _ _ _).trans (own_inc (own_at _ _ _)))) hZ (hw _ (List.mem_of_getElem? (i := 17) rfl)) (hw _ (List.mem_of_getElem? (i := 16) rfl)) (by decide) (by decide)) (g := (mkF m 137 #[.val (.int p1), .val (.int p2), .val (.int p3), .val (.int (2 : Int32)), .val (.int ((p3 &&& (255 : Int32)) % (192 : Int32))), .val (.int (p2.toInt8.toInt32)), .val (.int (((p2.toUInt32 >>> ((8 : Int32) &&& 31).toUInt32).toInt32).toInt8.toInt32)), .val (.int (((p2.toUInt32 >>> ((16 : Int32) &&& 31).toUInt32).toInt32).toInt8.toInt32)), .val (.ref b18), .val (.ref b9)] [(.int ((((p3 &&& (255 : Int32)) % (192 : Int32)) + (1 : Int32)).toInt8.toInt32)), (.int (((p2.toUInt32 >>> ((16 : Int32) &&& 31).toUInt32).toInt32).toInt8.toInt32)), (.int (((p2.toUInt32 >>> ((8 : Int32) &&& 31).toUInt32).toInt32).toInt8.toInt32)), (.int (p2.toInt8.toInt32)), (.int (2 : Int32)), (.ref b9)])) rfl (by rw [hml]; rfl) (argsL := [(.ref b9), (.int (2 : Int32)), (.int (p2.toInt8.toInt32)), (.int (((p2.toUInt32 >>> ((8 : Int32) &&& 31).toUInt32).toInt32).toInt8.toInt32)), (.int (((p2.toUInt32 >>> ((16 : Int32) &&& 31).toUInt32).toInt32).toInt8.toInt32)), (.int ((((p3 &&& (255 : Int32)) % (192 : Int32)) + (1 : Int32)).toInt8.toInt32))]) (rest := []) (lenOf pd_0_1 rfl) rfl (by show 2 * 0 + _ ≤ _; exact Nat.le_of_eq rfl) (hb hby at_137) (fun _ _ => ⟨rfl, e30, (by decide : 2 + 0 ≤ _), (by decide : 4 + 0 ≤ _)⟩)
    dsimp only [Pt.U, Pt.locs, Pt.cells, Pt.slots] at X33 l33 y33 z33 st33 hQ33
    subst l33 y33 z33
    obtain ⟨rfl, N33q, e33⟩ := hQ33
    have N33 := Fr.app N30 N33q
    have pre34 : ∀ t, Steps p.tables e below (T33.setTop (mkF m 140 #[.val (.int p1), .val (.int p2), .val (.int p3), .val (.int (2 : Int32)), .val (.int ((p3 &&& (255 : Int32)) % (192 : Int32))), .val (.int (p2.toInt8.toInt32)), .val (.int (((p2.toUInt32 >>> ((8 : Int32) &&& 31).toUInt32).toInt32).toInt8.toInt32)), .val (.int (((p2.toUInt32 >>> ((16 : Int32) &&& 31).toUInt32).toInt32).toInt8.toInt32)), .val (.ref b18), .val (.ref b9)] [(.int (1 : Int32))])) t → Steps p.tables e below (s₁.setTop (entryFrame m #[(.int p1), (.int p2), (.int p3)] maxLocals)) t := fun t kt => pre32 t (st33 t kt)
    obtain ⟨fs, hr, hrun, hended, hW, hsame⟩ := X33.leave (v := some (.int (1 : Int32))) (fun h => by rw [Bd.returns] at h; cases h)
    refine ⟨_, _, pre34 _ ?_, hrun, hended, _, _, rfl, ?_, ⟨_, rfl⟩, hW, hsame.mono (by decide) (by decide)⟩
    · show Steps p.tables e below (T33.setTop (mkF m 140 #[.val (.int p1), .val (.int p2), .val (.int p3), .val (.int (2 : Int32)), .val (.int ((p3 &&& (255 : Int32)) % (192 : Int32))), .val (.int (p2.toInt8.toInt32)), .val (.int (((p2.toUInt32 >>> ((8 : Int32) &&& 31).toUInt32).toInt32).toInt8.toInt32)), .val (.int (((p2.toUInt32 >>> ((16 : Int32) &&& 31).toUInt32).toInt32).toInt8.toInt32)), .val (.ref b18), .val (.ref b9)] [(.int (1 : Int32))])) _
      exact retN X33 hx (t := .boolean) Bd.returns (by simp) (hb hby at_140) hr
    · show Q0 Z p1 p2 p3 h0 n0 _ T33.heap _
      rw [e33]
      exact ⟨rfl, N33⟩
  · rw [hl] at pre1
    have pre35 : ∀ t, Steps p.tables e below (s₁.setTop (mkF m 36 #[.val (.int p1), .val (.int p2), .val (.int p3), .val (.int (3 : Int32)), .val (.int ((p3 &&& (255 : Int32)) % (192 : Int32))), .val (.int (p2.toInt8.toInt32)), .val (.int (((p2.toUInt32 >>> ((8 : Int32) &&& 31).toUInt32).toInt32).toInt8.toInt32)), .val (.int (((p2.toUInt32 >>> ((16 : Int32) &&& 31).toUInt32).toInt32).toInt8.toInt32)), .unset, .unset] [(.int (3 : Int32))])) t → Steps p.tables e below (s₁.setTop (entryFrame m #[(.int p1), (.int p2), (.int p3)] maxLocals)) t := fun t kt => pre1 t (by
      show Steps p.tables e below (s₁.setTop (mkF m 35 #[.val (.int p1), .val (.int p2), .val (.int p3), .val (.int (3 : Int32)), .val (.int ((p3 &&& (255 : Int32)) % (192 : Int32))), .val (.int (p2.toInt8.toInt32)), .val (.int (((p2.toUInt32 >>> ((8 : Int32) &&& 31).toUInt32).toInt32).toInt8.toInt32)), .val (.int (((p2.toUInt32 >>> ((16 : Int32) &&& 31).toUInt32).toInt32).toInt8.toInt32)), .unset, .unset] [])) _
      refine XS.iloadN X0.here hx rfl (hb hby at_35) rfl ?_
      exact kt)
    obtain ⟨T36, h36, X36, e36, E36, B36, A36, st36⟩ := own_bnew X0 hx hZ (hw _ (List.mem_of_getElem? (i := 0) rfl)) e0 (g := (mkF m 36 #[.val (.int p1), .val (.int p2), .val (.int p3), .val (.int (3 : Int32)), .val (.int ((p3 &&& (255 : Int32)) % (192 : Int32))), .val (.int (p2.toInt8.toInt32)), .val (.int (((p2.toUInt32 >>> ((8 : Int32) &&& 31).toUInt32).toInt32).toInt8.toInt32)), .val (.int (((p2.toUInt32 >>> ((16 : Int32) &&& 31).toUInt32).toInt32).toInt8.toInt32)), .unset, .unset] [(.int (3 : Int32))])) rfl (hb hby at_36) rfl (n := 3) (by decide) (by decide) (by decide) (by decide)
    obtain ⟨b36, g36⟩ : ∃ z, z = h0.size := ⟨_, rfl⟩
    rw [← g36] at B36 A36 st36
    have pre37 : ∀ t, Steps p.tables e below (T36.setTop (mkF m 38 #[.val (.int p1), .val (.int p2), .val (.int p3), .val (.int (3 : Int32)), .val (.int ((p3 &&& (255 : Int32)) % (192 : Int32))), .val (.int (p2.toInt8.toInt32)), .val (.int (((p2.toUInt32 >>> ((8 : Int32) &&& 31).toUInt32).toInt32).toInt8.toInt32)), .val (.int (((p2.toUInt32 >>> ((16 : Int32) &&& 31).toUInt32).toInt32).toInt8.toInt32)), .unset, .unset] [(.ref b36)])) t → Steps p.tables e below (s₁.setTop (entryFrame m #[(.int p1), (.int p2), (.int p3)] maxLocals)) t := fun t kt => pre35 t (st36 t kt)
    have gb : n0 ≤ b36 := Nat.le_trans Z0 (Nat.le_of_eq g36.symm)
    have ZZ36 : n0 ≤ h36.size := Nat.le_trans Z0 E36.1
    have pre38 : ∀ t, Steps p.tables e below (T36.setTop (mkF m 50 #[.val (.int p1), .val (.int p2), .val (.int p3), .val (.int (3 : Int32)), .val (.int ((p3 &&& (255 : Int32)) % (192 : Int32))), .val (.int (p2.toInt8.toInt32)), .val (.int (((p2.toUInt32 >>> ((8 : Int32) &&& 31).toUInt32).toInt32).toInt8.toInt32)), .val (.int (((p2.toUInt32 >>> ((16 : Int32) &&& 31).toUInt32).toInt32).toInt8.toInt32)), .val (.ref b36), .unset] [(.int (p2.toInt8.toInt32)), (.int (0 : Int32)), (.ref b36)])) t → Steps p.tables e below (s₁.setTop (entryFrame m #[(.int p1), (.int p2), (.int p3)] maxLocals)) t := fun t kt => pre37 t (by
      show Steps p.tables e below (T36.setTop (mkF m 38 #[.val (.int p1), .val (.int p2), .val (.int p3), .val (.int (3 : Int32)), .val (.int ((p3 &&& (255 : Int32)) % (192 : Int32))), .val (.int (p2.toInt8.toInt32)), .val (.int (((p2.toUInt32 >>> ((8 : Int32) &&& 31).toUInt32).toInt32).toInt8.toInt32)), .val (.int (((p2.toUInt32 >>> ((16 : Int32) &&& 31).toUInt32).toInt32).toInt8.toInt32)), .unset, .unset] [(.ref b36)])) _
      refine XS.astore X36.here hx rfl (hb hby at_38) rfl rfl (l' := #[.val (.int p1), .val (.int p2), .val (.int p3), .val (.int (3 : Int32)), .val (.int ((p3 &&& (255 : Int32)) % (192 : Int32))), .val (.int (p2.toInt8.toInt32)), .val (.int (((p2.toUInt32 >>> ((8 : Int32) &&& 31).toUInt32).toInt32).toInt8.toInt32)), .val (.int (((p2.toUInt32 >>> ((16 : Int32) &&& 31).toUInt32).toInt32).toInt8.toInt32)), .val (.ref b36), .unset]) rfl ?_
      show Steps p.tables e below (T36.setTop (mkF m 40 #[.val (.int p1), .val (.int p2), .val (.int p3), .val (.int (3 : Int32)), .val (.int ((p3 &&& (255 : Int32)) % (192 : Int32))), .val (.int (p2.toInt8.toInt32)), .val (.int (((p2.toUInt32 >>> ((8 : Int32) &&& 31).toUInt32).toInt32).toInt8.toInt32)), .val (.int (((p2.toUInt32 >>> ((16 : Int32) &&& 31).toUInt32).toInt32).toInt8.toInt32)), .val (.ref b36), .unset] [])) _
      refine XS.iloadN X36.here hx rfl (hb hby at_40) rfl ?_
      show Steps p.tables e below (T36.setTop (mkF m 41 #[.val (.int p1), .val (.int p2), .val (.int p3), .val (.int (3 : Int32)), .val (.int ((p3 &&& (255 : Int32)) % (192 : Int32))), .val (.int (p2.toInt8.toInt32)), .val (.int (((p2.toUInt32 >>> ((8 : Int32) &&& 31).toUInt32).toInt32).toInt8.toInt32)), .val (.int (((p2.toUInt32 >>> ((16 : Int32) &&& 31).toUInt32).toInt32).toInt8.toInt32)), .val (.ref b36), .unset] [(.int (3 : Int32))])) _
      refine XS.iconst X36.here hx rfl (hb hby at_41) ?_
      show Steps p.tables e below (T36.setTop (mkF m 42 #[.val (.int p1), .val (.int p2), .val (.int p3), .val (.int (3 : Int32)), .val (.int ((p3 &&& (255 : Int32)) % (192 : Int32))), .val (.int (p2.toInt8.toInt32)), .val (.int (((p2.toUInt32 >>> ((8 : Int32) &&& 31).toUInt32).toInt32).toInt8.toInt32)), .val (.int (((p2.toUInt32 >>> ((16 : Int32) &&& 31).toUInt32).toInt32).toInt8.toInt32)), .val (.ref b36), .unset] [(.int (1 : Int32)), (.int (3 : Int32))])) _
      refine XS.icmpNo X36.here hx rfl (hb hby at_42) rfl (tlt (by decide)).2.2.2 ?_
      show Steps p.tables e below (T36.setTop (mkF m 45 #[.val (.int p1), .val (.int p2), .val (.int p3), .val (.int (3 : Int32)), .val (.int ((p3 &&& (255 : Int32)) % (192 : Int32))), .val (.int (p2.toInt8.toInt32)), .val (.int (((p2.toUInt32 >>> ((8 : Int32) &&& 31).toUInt32).toInt32).toInt8.toInt32)), .val (.int (((p2.toUInt32 >>> ((16 : Int32) &&& 31).toUInt32).toInt32).toInt8.toInt32)), .val (.ref b36), .unset] [])) _
      refine XS.aload X36.here hx rfl (hb hby at_45) rfl rfl ?_
      show Steps p.tables e below (T36.setTop (mkF m 47 #[.val (.int p1), .val (.int p2), .val (.int p3), .val (.int (3 : Int32)), .val (.int ((p3 &&& (255 : Int32)) % (192 : Int32))), .val (.int (p2.toInt8.toInt32)), .val (.int (((p2.toUInt32 >>> ((8 : Int32) &&& 31).toUInt32).toInt32).toInt8.toInt32)), .val (.int (((p2.toUInt32 >>> ((16 : Int32) &&& 31).toUInt32).toInt32).toInt8.toInt32)), .val (.ref b36), .unset] [(.ref b36)])) _
      refine XS.iconst X36.here hx rfl (hb hby at_47) ?_
      show Steps p.tables e below (T36.setTop (mkF m 48 #[.val (.int p1), .val (.int p2), .val (.int p3), .val (.int (3 : Int32)), .val (.int ((p3 &&& (255 : Int32)) % (192 : Int32))), .val (.int (p2.toInt8.toInt32)), .val (.int (((p2.toUInt32 >>> ((8 : Int32) &&& 31).toUInt32).toInt32).toInt8.toInt32)), .val (.int (((p2.toUInt32 >>> ((16 : Int32) &&& 31).toUInt32).toInt32).toInt8.toInt32)), .val (.ref b36), .unset] [(.int (0 : Int32)), (.ref b36)])) _
      refine XS.iload X36.here hx rfl (hb hby at_48) rfl ?_
      exact kt)
    obtain ⟨T39, h39, X39, e39, B39, W39, st39⟩ := own_bstore X36 hx hZ e36 B36 (j := (0 : Int32)) (x := (p2.toInt8.toInt32)) (v := (p2.toInt8.toInt32)) (k := 0) (by decide) (by decide) (own_b8 _) (g := (mkF m 50 #[.val (.int p1), .val (.int p2), .val (.int p3), .val (.int (3 : Int32)), .val (.int ((p3 &&& (255 : Int32)) % (192 : Int32))), .val (.int (p2.toInt8.toInt32)), .val (.int (((p2.toUInt32 >>> ((8 : Int32) &&& 31).toUInt32).toInt32).toInt8.toInt32)), .val (.int (((p2.toUInt32 >>> ((16 : Int32) &&& 31).toUInt32).toInt32).toInt8.toInt32)), .val (.ref b36), .unset] [(.int (p2.toInt8.toInt32)), (.int (0 : Int32)), (.ref b36)])) rfl rfl (hb hby at_50)
    have N39 := Fr.snoc X39 N0 gb
    have pre40 : ∀ t, Steps p.tables e below (T39.setTop (mkF m 51 #[.val (.int p1), .val (.int p2), .val (.int p3), .val (.int (3 : Int32)), .val (.int ((p3 &&& (255 : Int32)) % (192 : Int32))), .val (.int (p2.toInt8.toInt32)), .val (.int (((p2.toUInt32 >>> ((8 : Int32) &&& 31).toUInt32).toInt32).toInt8.toInt32)), .val (.int (((p2.toUInt32 >>> ((16 : Int32) &&& 31).toUInt32).toInt32).toInt8.toInt32)), .val (.ref b36), .unset] [])) t → Steps p.tables e below (s₁.setTop (entryFrame m #[(.int p1), (.int p2), (.int p3)] maxLocals)) t := fun t kt => pre38 t (st39 t kt)
    have ZZ39 : n0 ≤ h39.size := by rw [W39.size]; exact ZZ36
    have A39 := A36.wr W39
    have pre41 : ∀ t, Steps p.tables e below (T39.setTop (mkF m 61 #[.val (.int p1), .val (.int p2), .val (.int p3), .val (.int (3 : Int32)), .val (.int ((p3 &&& (255 : Int32)) % (192 : Int32))), .val (.int (p2.toInt8.toInt32)), .val (.int (((p2.toUInt32 >>> ((8 : Int32) &&& 31).toUInt32).toInt32).toInt8.toInt32)), .val (.int (((p2.toUInt32 >>> ((16 : Int32) &&& 31).toUInt32).toInt32).toInt8.toInt32)), .val (.ref b36), .unset] [(.int (((p2.toUInt32 >>> ((8 : Int32) &&& 31).toUInt32).toInt32).toInt8.toInt32)), (.int (1 : Int32)), (.ref b36)])) t → Steps p.tables e below (s₁.setTop (entryFrame m #[(.int p1), (.int p2), (.int p3)] maxLocals)) t := fun t kt => pre40 t (by
      show Steps p.tables e below (T39.setTop (mkF m 51 #[.val (.int p1), .val (.int p2), .val (.int p3), .val (.int (3 : Int32)), .val (.int ((p3 &&& (255 : Int32)) % (192 : Int32))), .val (.int (p2.toInt8.toInt32)), .val (.int (((p2.toUInt32 >>> ((8 : Int32) &&& 31).toUInt32).toInt32).toInt8.toInt32)), .val (.int (((p2.toUInt32 >>> ((16 : Int32) &&& 31).toUInt32).toInt32).toInt8.toInt32)), .val (.ref b36), .unset] [])) _
      refine XS.iloadN X39.here hx rfl (hb hby at_51) rfl ?_
      show Steps p.tables e below (T39.setTop (mkF m 52 #[.val (.int p1), .val (.int p2), .val (.int p3), .val (.int (3 : Int32)), .val (.int ((p3 &&& (255 : Int32)) % (192 : Int32))), .val (.int (p2.toInt8.toInt32)), .val (.int (((p2.toUInt32 >>> ((8 : Int32) &&& 31).toUInt32).toInt32).toInt8.toInt32)), .val (.int (((p2.toUInt32 >>> ((16 : Int32) &&& 31).toUInt32).toInt32).toInt8.toInt32)), .val (.ref b36), .unset] [(.int (3 : Int32))])) _
      refine XS.iconst X39.here hx rfl (hb hby at_52) ?_
      show Steps p.tables e below (T39.setTop (mkF m 53 #[.val (.int p1), .val (.int p2), .val (.int p3), .val (.int (3 : Int32)), .val (.int ((p3 &&& (255 : Int32)) % (192 : Int32))), .val (.int (p2.toInt8.toInt32)), .val (.int (((p2.toUInt32 >>> ((8 : Int32) &&& 31).toUInt32).toInt32).toInt8.toInt32)), .val (.int (((p2.toUInt32 >>> ((16 : Int32) &&& 31).toUInt32).toInt32).toInt8.toInt32)), .val (.ref b36), .unset] [(.int (2 : Int32)), (.int (3 : Int32))])) _
      refine XS.icmpNo X39.here hx rfl (hb hby at_53) rfl (tlt (by decide)).2.2.2 ?_
      show Steps p.tables e below (T39.setTop (mkF m 56 #[.val (.int p1), .val (.int p2), .val (.int p3), .val (.int (3 : Int32)), .val (.int ((p3 &&& (255 : Int32)) % (192 : Int32))), .val (.int (p2.toInt8.toInt32)), .val (.int (((p2.toUInt32 >>> ((8 : Int32) &&& 31).toUInt32).toInt32).toInt8.toInt32)), .val (.int (((p2.toUInt32 >>> ((16 : Int32) &&& 31).toUInt32).toInt32).toInt8.toInt32)), .val (.ref b36), .unset] [])) _
      refine XS.aload X39.here hx rfl (hb hby at_56) rfl rfl ?_
      show Steps p.tables e below (T39.setTop (mkF m 58 #[.val (.int p1), .val (.int p2), .val (.int p3), .val (.int (3 : Int32)), .val (.int ((p3 &&& (255 : Int32)) % (192 : Int32))), .val (.int (p2.toInt8.toInt32)), .val (.int (((p2.toUInt32 >>> ((8 : Int32) &&& 31).toUInt32).toInt32).toInt8.toInt32)), .val (.int (((p2.toUInt32 >>> ((16 : Int32) &&& 31).toUInt32).toInt32).toInt8.toInt32)), .val (.ref b36), .unset] [(.ref b36)])) _
      refine XS.iconst X39.here hx rfl (hb hby at_58) ?_
      show Steps p.tables e below (T39.setTop (mkF m 59 #[.val (.int p1), .val (.int p2), .val (.int p3), .val (.int (3 : Int32)), .val (.int ((p3 &&& (255 : Int32)) % (192 : Int32))), .val (.int (p2.toInt8.toInt32)), .val (.int (((p2.toUInt32 >>> ((8 : Int32) &&& 31).toUInt32).toInt32).toInt8.toInt32)), .val (.int (((p2.toUInt32 >>> ((16 : Int32) &&& 31).toUInt32).toInt32).toInt8.toInt32)), .val (.ref b36), .unset] [(.int (1 : Int32)), (.ref b36)])) _
      refine XS.iload X39.here hx rfl (hb hby at_59) rfl ?_
      exact kt)
    obtain ⟨T42, h42, X42, e42, B42, W42, st42⟩ := own_bstore X39 hx hZ e39 B39 (j := (1 : Int32)) (x := (((p2.toUInt32 >>> ((8 : Int32) &&& 31).toUInt32).toInt32).toInt8.toInt32)) (v := (((p2.toUInt32 >>> ((8 : Int32) &&& 31).toUInt32).toInt32).toInt8.toInt32)) (k := 1) (by decide) (by decide) (own_b8 _) (g := (mkF m 61 #[.val (.int p1), .val (.int p2), .val (.int p3), .val (.int (3 : Int32)), .val (.int ((p3 &&& (255 : Int32)) % (192 : Int32))), .val (.int (p2.toInt8.toInt32)), .val (.int (((p2.toUInt32 >>> ((8 : Int32) &&& 31).toUInt32).toInt32).toInt8.toInt32)), .val (.int (((p2.toUInt32 >>> ((16 : Int32) &&& 31).toUInt32).toInt32).toInt8.toInt32)), .val (.ref b36), .unset] [(.int (((p2.toUInt32 >>> ((8 : Int32) &&& 31).toUInt32).toInt32).toInt8.toInt32)), (.int (1 : Int32)), (.ref b36)])) rfl rfl (hb hby at_61)
    have N42 := Fr.snoc X42 N39 gb
    have pre43 : ∀ t, Steps p.tables e below (T42.setTop (mkF m 62 #[.val (.int p1), .val (.int p2), .val (.int p3), .val (.int (3 : Int32)), .val (.int ((p3 &&& (255 : Int32)) % (192 : Int32))), .val (.int (p2.toInt8.toInt32)), .val (.int (((p2.toUInt32 >>> ((8 : Int32) &&& 31).toUInt32).toInt32).toInt8.toInt32)), .val (.int (((p2.toUInt32 >>> ((16 : Int32) &&& 31).toUInt32).toInt32).toInt8.toInt32)), .val (.ref b36), .unset] [])) t → Steps p.tables e below (s₁.setTop (entryFrame m #[(.int p1), (.int p2), (.int p3)] maxLocals)) t := fun t kt => pre41 t (st42 t kt)
    have ZZ42 : n0 ≤ h42.size := by rw [W42.size]; exact ZZ39
    have A42 := A39.wr W42
    have pre44 : ∀ t, Steps p.tables e below (T42.setTop (mkF m 81 #[.val (.int p1), .val (.int p2), .val (.int p3), .val (.int (3 : Int32)), .val (.int ((p3 &&& (255 : Int32)) % (192 : Int32))), .val (.int (p2.toInt8.toInt32)), .val (.int (((p2.toUInt32 >>> ((8 : Int32) &&& 31).toUInt32).toInt32).toInt8.toInt32)), .val (.int (((p2.toUInt32 >>> ((16 : Int32) &&& 31).toUInt32).toInt32).toInt8.toInt32)), .val (.ref b36), .unset] [(.int (((p3 &&& (255 : Int32)) % (192 : Int32)).toInt8.toInt32)), (.int ((3 : Int32) - (1 : Int32))), (.ref b36)])) t → Steps p.tables e below (s₁.setTop (entryFrame m #[(.int p1), (.int p2), (.int p3)] maxLocals)) t := fun t kt => pre43 t (by
      show Steps p.tables e below (T42.setTop (mkF m 62 #[.val (.int p1), .val (.int p2), .val (.int p3), .val (.int (3 : Int32)), .val (.int ((p3 &&& (255 : Int32)) % (192 : Int32))), .val (.int (p2.toInt8.toInt32)), .val (.int (((p2.toUInt32 >>> ((8 : Int32) &&& 31).toUInt32).toInt32).toInt8.toInt32)), .val (.int (((p2.toUInt32 >>> ((16 : Int32) &&& 31).toUInt32).toInt32).toInt8.toInt32)), .val (.ref b36), .unset] [])) _
      refine XS.iloadN X42.here hx rfl (hb hby at_62) rfl ?_
      show Steps p.tables e below (T42.setTop (mkF m 63 #[.val (.int p1), .val (.int p2), .val (.int p3), .val (.int (3 : Int32)), .val (.int ((p3 &&& (255 : Int32)) % (192 : Int32))), .val (.int (p2.toInt8.toInt32)), .val (.int (((p2.toUInt32 >>> ((8 : Int32) &&& 31).toUInt32).toInt32).toInt8.toInt32)), .val (.int (((p2.toUInt32 >>> ((16 : Int32) &&& 31).toUInt32).toInt32).toInt8.toInt32)), .val (.ref b36), .unset] [(.int (3 : Int32))])) _
      refine XS.iconst X42.here hx rfl (hb hby at_63) ?_
      show Steps p.tables e below (T42.setTop (mkF m 64 #[.val (.int p1), .val (.int p2), .val (.int p3), .val (.int (3 : Int32)), .val (.int ((p3 &&& (255 : Int32)) % (192 : Int32))), .val (.int (p2.toInt8.toInt32)), .val (.int (((p2.toUInt32 >>> ((8 : Int32) &&& 31).toUInt32).toInt32).toInt8.toInt32)), .val (.int (((p2.toUInt32 >>> ((16 : Int32) &&& 31).toUInt32).toInt32).toInt8.toInt32)), .val (.ref b36), .unset] [(.int (3 : Int32)), (.int (3 : Int32))])) _
      refine XS.icmpYes X42.here hx rfl (pc0 := 64) (pc' := 73) rfl (hb hby at_64) rfl (flt (by decide)).2.2.2 (by decide) (by decide) ?_
      show Steps p.tables e below (T42.setTop (mkF m 73 #[.val (.int p1), .val (.int p2), .val (.int p3), .val (.int (3 : Int32)), .val (.int ((p3 &&& (255 : Int32)) % (192 : Int32))), .val (.int (p2.toInt8.toInt32)), .val (.int (((p2.toUInt32 >>> ((8 : Int32) &&& 31).toUInt32).toInt32).toInt8.toInt32)), .val (.int (((p2.toUInt32 >>> ((16 : Int32) &&& 31).toUInt32).toInt32).toInt8.toInt32)), .val (.ref b36), .unset] [])) _
      refine XS.aload X42.here hx rfl (hb hby at_73) rfl rfl ?_
      show Steps p.tables e below (T42.setTop (mkF m 75 #[.val (.int p1), .val (.int p2), .val (.int p3), .val (.int (3 : Int32)), .val (.int ((p3 &&& (255 : Int32)) % (192 : Int32))), .val (.int (p2.toInt8.toInt32)), .val (.int (((p2.toUInt32 >>> ((8 : Int32) &&& 31).toUInt32).toInt32).toInt8.toInt32)), .val (.int (((p2.toUInt32 >>> ((16 : Int32) &&& 31).toUInt32).toInt32).toInt8.toInt32)), .val (.ref b36), .unset] [(.ref b36)])) _
      refine XS.iloadN X42.here hx rfl (hb hby at_75) rfl ?_
      show Steps p.tables e below (T42.setTop (mkF m 76 #[.val (.int p1), .val (.int p2), .val (.int p3), .val (.int (3 : Int32)), .val (.int ((p3 &&& (255 : Int32)) % (192 : Int32))), .val (.int (p2.toInt8.toInt32)), .val (.int (((p2.toUInt32 >>> ((8 : Int32) &&& 31).toUInt32).toInt32).toInt8.toInt32)), .val (.int (((p2.toUInt32 >>> ((16 : Int32) &&& 31).toUInt32).toInt32).toInt8.toInt32)), .val (.ref b36), .unset] [(.int (3 : Int32)), (.ref b36)])) _
      refine XS.iconst X42.here hx rfl (hb hby at_76) ?_
      show Steps p.tables e below (T42.setTop (mkF m 77 #[.val (.int p1), .val (.int p2), .val (.int p3), .val (.int (3 : Int32)), .val (.int ((p3 &&& (255 : Int32)) % (192 : Int32))), .val (.int (p2.toInt8.toInt32)), .val (.int (((p2.toUInt32 >>> ((8 : Int32) &&& 31).toUInt32).toInt32).toInt8.toInt32)), .val (.int (((p2.toUInt32 >>> ((16 : Int32) &&& 31).toUInt32).toInt32).toInt8.toInt32)), .val (.ref b36), .unset] [(.int (1 : Int32)), (.int (3 : Int32)), (.ref b36)])) _
      refine XS.isub X42.here hx rfl (hb hby at_77) rfl ?_
      show Steps p.tables e below (T42.setTop (mkF m 78 #[.val (.int p1), .val (.int p2), .val (.int p3), .val (.int (3 : Int32)), .val (.int ((p3 &&& (255 : Int32)) % (192 : Int32))), .val (.int (p2.toInt8.toInt32)), .val (.int (((p2.toUInt32 >>> ((8 : Int32) &&& 31).toUInt32).toInt32).toInt8.toInt32)), .val (.int (((p2.toUInt32 >>> ((16 : Int32) &&& 31).toUInt32).toInt32).toInt8.toInt32)), .val (.ref b36), .unset] [(.int ((3 : Int32) - (1 : Int32))), (.ref b36)])) _
      refine XS.iload X42.here hx rfl (hb hby at_78) rfl ?_
      show Steps p.tables e below (T42.setTop (mkF m 80 #[.val (.int p1), .val (.int p2), .val (.int p3), .val (.int (3 : Int32)), .val (.int ((p3 &&& (255 : Int32)) % (192 : Int32))), .val (.int (p2.toInt8.toInt32)), .val (.int (((p2.toUInt32 >>> ((8 : Int32) &&& 31).toUInt32).toInt32).toInt8.toInt32)), .val (.int (((p2.toUInt32 >>> ((16 : Int32) &&& 31).toUInt32).toInt32).toInt8.toInt32)), .val (.ref b36), .unset] [(.int ((p3 &&& (255 : Int32)) % (192 : Int32))), (.int ((3 : Int32) - (1 : Int32))), (.ref b36)])) _
      refine XS.i2b X42.here hx rfl (hb hby at_80) rfl ?_
      exact kt)
    obtain ⟨T45, h45, X45, e45, B45, W45, st45⟩ := own_bstore X42 hx hZ e42 B42 (j := ((3 : Int32) - (1 : Int32))) (x := (((p3 &&& (255 : Int32)) % (192 : Int32)).toInt8.toInt32)) (v := (((p3 &&& (255 : Int32)) % (192 : Int32)).toInt8.toInt32)) (k := 2) (by decide) (by decide) (own_b8 _) (g := (mkF m 81 #[.val (.int p1), .val (.int p2), .val (.int p3), .val (.int (3 : Int32)), .val (.int ((p3 &&& (255 : Int32)) % (192 : Int32))), .val (.int (p2.toInt8.toInt32)), .val (.int (((p2.toUInt32 >>> ((8 : Int32) &&& 31).toUInt32).toInt32).toInt8.toInt32)), .val (.int (((p2.toUInt32 >>> ((16 : Int32) &&& 31).toUInt32).toInt32).toInt8.toInt32)), .val (.ref b36), .unset] [(.int (((p3 &&& (255 : Int32)) % (192 : Int32)).toInt8.toInt32)), (.int ((3 : Int32) - (1 : Int32))), (.ref b36)])) rfl rfl (hb hby at_81)
    have N45 := Fr.snoc X45 N42 gb
    have pre46 : ∀ t, Steps p.tables e below (T45.setTop (mkF m 82 #[.val (.int p1), .val (.int p2), .val (.int p3), .val (.int (3 : Int32)), .val (.int ((p3 &&& (255 : Int32)) % (192 : Int32))), .val (.int (p2.toInt8.toInt32)), .val (.int (((p2.toUInt32 >>> ((8 : Int32) &&& 31).toUInt32).toInt32).toInt8.toInt32)), .val (.int (((p2.toUInt32 >>> ((16 : Int32) &&& 31).toUInt32).toInt32).toInt8.toInt32)), .val (.ref b36), .unset] [])) t → Steps p.tables e below (s₁.setTop (entryFrame m #[(.int p1), (.int p2), (.int p3)] maxLocals)) t := fun t kt => pre44 t (st45 t kt)
    have ZZ45 : n0 ≤ h45.size := by rw [W45.size]; exact ZZ42
    have A45 := A42.wr W45
    have pre47 : ∀ t, Steps p.tables e below (T45.setTop (mkF m 84 #[.val (.int p1), .val (.int p2), .val (.int p3), .val (.int (3 : Int32)), .val (.int ((p3 &&& (255 : Int32)) % (192 : Int32))), .val (.int (p2.toInt8.toInt32)), .val (.int (((p2.toUInt32 >>> ((8 : Int32) &&& 31).toUInt32).toInt32).toInt8.toInt32)), .val (.int (((p2.toUInt32 >>> ((16 : Int32) &&& 31).toUInt32).toInt32).toInt8.toInt32)), .val (.ref b36), .unset] [(.ref b36)])) t → Steps p.tables e below (s₁.setTop (entryFrame m #[(.int p1), (.int p2), (.int p3)] maxLocals)) t := fun t kt => pre46 t (by
      show Steps p.tables e below (T45.setTop (mkF m 82 #[.val (.int p1), .val (.int p2), .val (.int p3), .val (.int (3 : Int32)), .val (.int ((p3 &&& (255 : Int32)) % (192 : Int32))), .val (.int (p2.toInt8.toInt32)), .val (.int (((p2.toUInt32 >>> ((8 : Int32) &&& 31).toUInt32).toInt32).toInt8.toInt32)), .val (.int (((p2.toUInt32 >>> ((16 : Int32) &&& 31).toUInt32).toInt32).toInt8.toInt32)), .val (.ref b36), .unset] [])) _
      refine XS.aload X45.here hx rfl (hb hby at_82) rfl rfl ?_
      exact kt)
    obtain ⟨b9, g9⟩ : ∃ z, z = h45.size := ⟨_, rfl⟩
    have hne : ¬ (b9 = b36) := by rw [g9]; exact Nat.ne_of_gt B45.lt
    obtain ⟨_, _, ⟨T48, L48, k48, n48⟩, -, X48, ⟨Lc48, hQ48, l48, y48, z48⟩, st48⟩ := Jvm.LawKit.callS X45 hx (y := (⟨"com/example/treecreeper/treecreeper/store/RecordCodec", "pastStart", "([B)[B"⟩ : MethodName)) hown (mvT hZ (hw _ (List.mem_of_getElem? (i := 1) rfl))) (mvT hZ (hw _ (List.mem_of_getElem? (i := 2) rfl))) (mvT hZ (hw _ (List.mem_of_getElem? (i := 3) rfl))) (mvT hZ (hw _ (List.mem_of_getElem? (i := 4) rfl))) (by decide) (backOf (W := 0) (rm1_3 l Z a0 hw [] b36 b9 _ h45 n0 ZZ45 g9 B45 A45) hZ (hw _ (List.mem_of_getElem? (i := 4) rfl)) (hw _ (List.mem_of_getElem? (i := 3) rfl)) (by decide) (by decide)) (g := (mkF m 84 #[.val (.int p1), .val (.int p2), .val (.int p3), .val (.int (3 : Int32)), .val (.int ((p3 &&& (255 : Int32)) % (192 : Int32))), .val (.int (p2.toInt8.toInt32)), .val (.int (((p2.toUInt32 >>> ((8 : Int32) &&& 31).toUInt32).toInt32).toInt8.toInt32)), .val (.int (((p2.toUInt32 >>> ((16 : Int32) &&& 31).toUInt32).toInt32).toInt8.toInt32)), .val (.ref b36), .unset] [(.ref b36)])) rfl (by rw [hml]; rfl) (argsL := [(.ref b36)]) (rest := []) (lenOf pd_0_0 rfl) rfl (by show 2 * 0 + _ ≤ _; exact Nat.le_of_eq rfl) (hb hby at_84) (fun _ _ => ⟨rfl, e45, (by decide : 1 + 1 ≤ _), (by decide : 3 + 3 ≤ _)⟩)
    dsimp only [Pt.U, Pt.locs, Pt.cells, Pt.slots] at X48 l48 y48 z48 st48 hQ48
    subst l48 y48 z48
    obtain ⟨rfl, N48q, K48, B48⟩ := hQ48
    have N48 := Fr.app N45 N48q
    have pre49 : ∀ t, Steps p.tables e below (T48.setTop (mkF m 87 #[.val (.int p1), .val (.int p2), .val (.int p3), .val (.int (3 : Int32)), .val (.int ((p3 &&& (255 : Int32)) % (192 : Int32))), .val (.int (p2.toInt8.toInt32)), .val (.int (((p2.toUInt32 >>> ((8 : Int32) &&& 31).toUInt32).toInt32).toInt8.toInt32)), .val (.int (((p2.toUInt32 >>> ((16 : Int32) &&& 31).toUInt32).toInt32).toInt8.toInt32)), .val (.ref b36), .unset] [(.ref b9)])) t → Steps p.tables e below (s₁.setTop (entryFrame m #[(.int p1), (.int p2), (.int p3)] maxLocals)) t := fun t kt => pre47 t (st48 t kt)
    have Bs := B45.keep K48 nin0
    have Zs : n0 ≤ T48.heap.size := Nat.le_trans ZZ45 K48.1
    have pre50 : ∀ t, Steps p.tables e below (T48.setTop (mkF m 115 #[.val (.int p1), .val (.int p2), .val (.int p3), .val (.int (3 : Int32)), .val (.int ((p3 &&& (255 : Int32)) % (192 : Int32))), .val (.int (p2.toInt8.toInt32)), .val (.int (((p2.toUInt32 >>> ((8 : Int32) &&& 31).toUInt32).toInt32).toInt8.toInt32)), .val (.int (((p2.toUInt32 >>> ((16 : Int32) &&& 31).toUInt32).toInt32).toInt8.toInt32)), .val (.ref b36), .val (.ref b9)] [(.int (((p3 &&& (255 : Int32)) % (192 : Int32)).toInt8.toInt32)), (.int (((p2.toUInt32 >>> ((16 : Int32) &&& 31).toUInt32).toInt32).toInt8.toInt32)), (.int (((p2.toUInt32 >>> ((8 : Int32) &&& 31).toUInt32).toInt32).toInt8.toInt32)), (.int (p2.toInt8.toInt32)), (.int (3 : Int32)), (.ref b36)])) t → Steps p.tables e below (s₁.setTop (entryFrame m #[(.int p1), (.int p2), (.int p3)] maxLocals)) t := fun t kt => pre49 t (by
      show Steps p.tables e below (T48.setTop (mkF m 87 #[.val (.int p1), .val (.int p2), .val (.int p3), .val (.int (3 : Int32)), .val (.int ((p3 &&& (255 : Int32)) % (192 : Int32))), .val (.int (p2.toInt8.toInt32)), .val (.int (((p2.toUInt32 >>> ((8 : Int32) &&& 31).toUInt32).toInt32).toInt8.toInt32)), .val (.int (((p2.toUInt32 >>> ((16 : Int32) &&& 31).toUInt32).toInt32).toInt8.toInt32)), .val (.ref b36), .unset] [(.ref b9)])) _
      refine XS.astore X48.here hx rfl (hb hby at_87) rfl rfl (l' := #[.val (.int p1), .val (.int p2), .val (.int p3), .val (.int (3 : Int32)), .val (.int ((p3 &&& (255 : Int32)) % (192 : Int32))), .val (.int (p2.toInt8.toInt32)), .val (.int (((p2.toUInt32 >>> ((8 : Int32) &&& 31).toUInt32).toInt32).toInt8.toInt32)), .val (.int (((p2.toUInt32 >>> ((16 : Int32) &&& 31).toUInt32).toInt32).toInt8.toInt32)), .val (.ref b36), .val (.ref b9)]) rfl ?_
      show Steps p.tables e below (T48.setTop (mkF m 89 #[.val (.int p1), .val (.int p2), .val (.int p3), .val (.int (3 : Int32)), .val (.int ((p3 &&& (255 : Int32)) % (192 : Int32))), .val (.int (p2.toInt8.toInt32)), .val (.int (((p2.toUInt32 >>> ((8 : Int32) &&& 31).toUInt32).toInt32).toInt8.toInt32)), .val (.int (((p2.toUInt32 >>> ((16 : Int32) &&& 31).toUInt32).toInt32).toInt8.toInt32)), .val (.ref b36), .val (.ref b9)] [])) _
      refine XS.aload X48.here hx rfl (hb hby at_89) rfl rfl ?_
      show Steps p.tables e below (T48.setTop (mkF m 91 #[.val (.int p1), .val (.int p2), .val (.int p3), .val (.int (3 : Int32)), .val (.int ((p3 &&& (255 : Int32)) % (192 : Int32))), .val (.int (p2.toInt8.toInt32)), .val (.int (((p2.toUInt32 >>> ((8 : Int32) &&& 31).toUInt32).toInt32).toInt8.toInt32)), .val (.int (((p2.toUInt32 >>> ((16 : Int32) &&& 31).toUInt32).toInt32).toInt8.toInt32)), .val (.ref b36), .val (.ref b9)] [(.ref b9)])) _
      refine XS.ifnullNo X48.here hx rfl (hb hby at_91) rfl ?_
      show Steps p.tables e below (T48.setTop (mkF m 94 #[.val (.int p1), .val (.int p2), .val (.int p3), .val (.int (3 : Int32)), .val (.int ((p3 &&& (255 : Int32)) % (192 : Int32))), .val (.int (p2.toInt8.toInt32)), .val (.int (((p2.toUInt32 >>> ((8 : Int32) &&& 31).toUInt32).toInt32).toInt8.toInt32)), .val (.int (((p2.toUInt32 >>> ((16 : Int32) &&& 31).toUInt32).toInt32).toInt8.toInt32)), .val (.ref b36), .val (.ref b9)] [])) _
      refine XS.aload X48.here hx rfl (hb hby at_94) rfl rfl ?_
      show Steps p.tables e below (T48.setTop (mkF m 96 #[.val (.int p1), .val (.int p2), .val (.int p3), .val (.int (3 : Int32)), .val (.int ((p3 &&& (255 : Int32)) % (192 : Int32))), .val (.int (p2.toInt8.toInt32)), .val (.int (((p2.toUInt32 >>> ((8 : Int32) &&& 31).toUInt32).toInt32).toInt8.toInt32)), .val (.int (((p2.toUInt32 >>> ((16 : Int32) &&& 31).toUInt32).toInt32).toInt8.toInt32)), .val (.ref b36), .val (.ref b9)] [(.ref b9)])) _
      refine XS.aload X48.here hx rfl (hb hby at_96) rfl rfl ?_
      show Steps p.tables e below (T48.setTop (mkF m 98 #[.val (.int p1), .val (.int p2), .val (.int p3), .val (.int (3 : Int32)), .val (.int ((p3 &&& (255 : Int32)) % (192 : Int32))), .val (.int (p2.toInt8.toInt32)), .val (.int (((p2.toUInt32 >>> ((8 : Int32) &&& 31).toUInt32).toInt32).toInt8.toInt32)), .val (.int (((p2.toUInt32 >>> ((16 : Int32) &&& 31).toUInt32).toInt32).toInt8.toInt32)), .val (.ref b36), .val (.ref b9)] [(.ref b36), (.ref b9)])) _
      refine Jvm.RoadKit.acmp (g := (mkF m 98 #[.val (.int p1), .val (.int p2), .val (.int p3), .val (.int (3 : Int32)), .val (.int ((p3 &&& (255 : Int32)) % (192 : Int32))), .val (.int (p2.toInt8.toInt32)), .val (.int (((p2.toUInt32 >>> ((8 : Int32) &&& 31).toUInt32).toInt32).toInt8.toInt32)), .val (.int (((p2.toUInt32 >>> ((16 : Int32) &&& 31).toUInt32).toInt32).toInt8.toInt32)), .val (.ref b36), .val (.ref b9)] [(.ref b36), (.ref b9)])) X48 hx rfl rfl rfl (pc0 := 98) (pc' := 103) (same := false) rfl (hb hby at_98) rfl (decide_eq_false fun q => hne (Value.ref.inj q)) (by decide) (by decide) ?_
      show Steps p.tables e below (T48.setTop (mkF m 103 #[.val (.int p1), .val (.int p2), .val (.int p3), .val (.int (3 : Int32)), .val (.int ((p3 &&& (255 : Int32)) % (192 : Int32))), .val (.int (p2.toInt8.toInt32)), .val (.int (((p2.toUInt32 >>> ((8 : Int32) &&& 31).toUInt32).toInt32).toInt8.toInt32)), .val (.int (((p2.toUInt32 >>> ((16 : Int32) &&& 31).toUInt32).toInt32).toInt8.toInt32)), .val (.ref b36), .val (.ref b9)] [])) _
      refine XS.aload X48.here hx rfl (hb hby at_103) rfl rfl ?_
      show Steps p.tables e below (T48.setTop (mkF m 105 #[.val (.int p1), .val (.int p2), .val (.int p3), .val (.int (3 : Int32)), .val (.int ((p3 &&& (255 : Int32)) % (192 : Int32))), .val (.int (p2.toInt8.toInt32)), .val (.int (((p2.toUInt32 >>> ((8 : Int32) &&& 31).toUInt32).toInt32).toInt8.toInt32)), .val (.int (((p2.toUInt32 >>> ((16 : Int32) &&& 31).toUInt32).toInt32).toInt8.toInt32)), .val (.ref b36), .val (.ref b9)] [(.ref b36)])) _
      refine XS.iloadN X48.here hx rfl (hb hby at_105) rfl ?_
      show Steps p.tables e below (T48.setTop (mkF m 106 #[.val (.int p1), .val (.int p2), .val (.int p3), .val (.int (3 : Int32)), .val (.int ((p3 &&& (255 : Int32)) % (192 : Int32))), .val (.int (p2.toInt8.toInt32)), .val (.int (((p2.toUInt32 >>> ((8 : Int32) &&& 31).toUInt32).toInt32).toInt8.toInt32)), .val (.int (((p2.toUInt32 >>> ((16 : Int32) &&& 31).toUInt32).toInt32).toInt8.toInt32)), .val (.ref b36), .val (.ref b9)] [(.int (3 : Int32)), (.ref b36)])) _
      refine XS.iload X48.here hx rfl (hb hby at_106) rfl ?_
      show Steps p.tables e below (T48.setTop (mkF m 108 #[.val (.int p1), .val (.int p2), .val (.int p3), .val (.int (3 : Int32)), .val (.int ((p3 &&& (255 : Int32)) % (192 : Int32))), .val (.int (p2.toInt8.toInt32)), .val (.int (((p2.toUInt32 >>> ((8 : Int32) &&& 31).toUInt32).toInt32).toInt8.toInt32)), .val (.int (((p2.toUInt32 >>> ((16 : Int32) &&& 31).toUInt32).toInt32).toInt8.toInt32)), .val (.ref b36), .val (.ref b9)] [(.int (p2.toInt8.toInt32)), (.int (3 : Int32)), (.ref b36)])) _
      refine XS.iload X48.here hx rfl (hb hby at_108) rfl ?_
      show Steps p.tables e below (T48.setTop (mkF m 110 #[.val (.int p1), .val (.int p2), .val (.int p3), .val (.int (3 : Int32)), .val (.int ((p3 &&& (255 : Int32)) % (192 : Int32))), .val (.int (p2.toInt8.toInt32)), .val (.int (((p2.toUInt32 >>> ((8 : Int32) &&& 31).toUInt32).toInt32).toInt8.toInt32)), .val (.int (((p2.toUInt32 >>> ((16 : Int32) &&& 31).toUInt32).toInt32).toInt8.toInt32)), .val (.ref b36), .val (.ref b9)] [(.int (((p2.toUInt32 >>> ((8 : Int32) &&& 31).toUInt32).toInt32).toInt8.toInt32)), (.int (p2.toInt8.toInt32)), (.int (3 : Int32)), (.ref b36)])) _
      refine XS.iload X48.here hx rfl (hb hby at_110) rfl ?_
      show Steps p.tables e below (T48.setTop (mkF m 112 #[.val (.int p1), .val (.int p2), .val (.int p3), .val (.int (3 : Int32)), .val (.int ((p3 &&& (255 : Int32)) % (192 : Int32))), .val (.int (p2.toInt8.toInt32)), .val (.int (((p2.toUInt32 >>> ((8 : Int32) &&& 31).toUInt32).toInt32).toInt8.toInt32)), .val (.int (((p2.toUInt32 >>> ((16 : Int32) &&& 31).toUInt32).toInt32).toInt8.toInt32)), .val (.ref b36), .val (.ref b9)] [(.int (((p2.toUInt32 >>> ((16 : Int32) &&& 31).toUInt32).toInt32).toInt8.toInt32)), (.int (((p2.toUInt32 >>> ((8 : Int32) &&& 31).toUInt32).toInt32).toInt8.toInt32)), (.int (p2.toInt8.toInt32)), (.int (3 : Int32)), (.ref b36)])) _
      refine XS.iload X48.here hx rfl (hb hby at_112) rfl ?_
      show Steps p.tables e below (T48.setTop (mkF m 114 #[.val (.int p1), .val (.int p2), .val (.int p3), .val (.int (3 : Int32)), .val (.int ((p3 &&& (255 : Int32)) % (192 : Int32))), .val (.int (p2.toInt8.toInt32)), .val (.int (((p2.toUInt32 >>> ((8 : Int32) &&& 31).toUInt32).toInt32).toInt8.toInt32)), .val (.int (((p2.toUInt32 >>> ((16 : Int32) &&& 31).toUInt32).toInt32).toInt8.toInt32)), .val (.ref b36), .val (.ref b9)] [(.int ((p3 &&& (255 : Int32)) % (192 : Int32))), (.int (((p2.toUInt32 >>> ((16 : Int32) &&& 31).toUInt32).toInt32).toInt8.toInt32)), (.int (((p2.toUInt32 >>> ((8 : Int32) &&& 31).toUInt32).toInt32).toInt8.toInt32)), (.int (p2.toInt8.toInt32)), (.int (3 : Int32)), (.ref b36)])) _
      refine XS.i2b X48.here hx rfl (hb hby at_114) rfl ?_
      exact kt)
    obtain ⟨_, _, ⟨T51, L51, k51, n51⟩, -, X51, ⟨Lc51, hQ51, l51, y51, z51⟩, st51⟩ := Jvm.LawKit.callS X48 hx (y := (⟨"com/example/treecreeper/treecreeper/store/RecordCodecPastStartPinLaw", "same", "([BIBBBB)Z"⟩ : MethodName)) hown (mvT hZ (hw _ (List.mem_of_getElem? (i := 14) rfl))) (mvT hZ (hw _ (List.mem_of_getElem? (i := 15) rfl))) (mvT hZ (hw _ (List.mem_of_getElem? (i := 16) rfl))) (mvT hZ (hw _ (List.mem_of_getElem? (i := 17) rfl))) (by decide) (backOf (W := 0) (rm2_3 l Z a0 hw [] b36 _ (p2.toInt8.toInt32) (((p2.toUInt32 >>> ((8 : Int32) &&& 31).toUInt32).toInt32).toInt8.toInt32) (((p2.toUInt32 >>> ((16 : Int32) &&& 31).toUInt32).toInt32).toInt8.toInt32) (((p3 &&& (255 : Int32)) % (192 : Int32)).toInt8.toInt32) T48.heap n0 Zs Bs (own_ne (by decide) (own_ne (by decide) (own_at _ _ _))) (own_ne (by decide) (own_at _ _ _)) (own_at _ _ _)) hZ (hw _ (List.mem_of_getElem? (i := 17) rfl)) (hw _ (List.mem_of_getElem? (i := 16) rfl)) (by decide) (by decide)) (g := (mkF m 115 #[.val (.int p1), .val (.int p2), .val (.int p3), .val (.int (3 : Int32)), .val (.int ((p3 &&& (255 : Int32)) % (192 : Int32))), .val (.int (p2.toInt8.toInt32)), .val (.int (((p2.toUInt32 >>> ((8 : Int32) &&& 31).toUInt32).toInt32).toInt8.toInt32)), .val (.int (((p2.toUInt32 >>> ((16 : Int32) &&& 31).toUInt32).toInt32).toInt8.toInt32)), .val (.ref b36), .val (.ref b9)] [(.int (((p3 &&& (255 : Int32)) % (192 : Int32)).toInt8.toInt32)), (.int (((p2.toUInt32 >>> ((16 : Int32) &&& 31).toUInt32).toInt32).toInt8.toInt32)), (.int (((p2.toUInt32 >>> ((8 : Int32) &&& 31).toUInt32).toInt32).toInt8.toInt32)), (.int (p2.toInt8.toInt32)), (.int (3 : Int32)), (.ref b36)])) rfl (by rw [hml]; rfl) (argsL := [(.ref b36), (.int (3 : Int32)), (.int (p2.toInt8.toInt32)), (.int (((p2.toUInt32 >>> ((8 : Int32) &&& 31).toUInt32).toInt32).toInt8.toInt32)), (.int (((p2.toUInt32 >>> ((16 : Int32) &&& 31).toUInt32).toInt32).toInt8.toInt32)), (.int (((p3 &&& (255 : Int32)) % (192 : Int32)).toInt8.toInt32))]) (rest := []) (lenOf pd_0_1 rfl) rfl (by show 2 * 0 + _ ≤ _; exact Nat.le_of_eq rfl) (hb hby at_115) (fun _ _ => ⟨rfl, rfl, (by decide : 2 + 0 ≤ _), (by decide : 6 + 0 ≤ _)⟩)
    dsimp only [Pt.U, Pt.locs, Pt.cells, Pt.slots] at X51 l51 y51 z51 st51 hQ51
    subst l51 y51 z51
    obtain ⟨rfl, N51q, e51⟩ := hQ51
    have N51 := Fr.app N48 N51q
    have pre52 : ∀ t, Steps p.tables e below (T51.setTop (mkF m 118 #[.val (.int p1), .val (.int p2), .val (.int p3), .val (.int (3 : Int32)), .val (.int ((p3 &&& (255 : Int32)) % (192 : Int32))), .val (.int (p2.toInt8.toInt32)), .val (.int (((p2.toUInt32 >>> ((8 : Int32) &&& 31).toUInt32).toInt32).toInt8.toInt32)), .val (.int (((p2.toUInt32 >>> ((16 : Int32) &&& 31).toUInt32).toInt32).toInt8.toInt32)), .val (.ref b36), .val (.ref b9)] [(.int (1 : Int32))])) t → Steps p.tables e below (s₁.setTop (entryFrame m #[(.int p1), (.int p2), (.int p3)] maxLocals)) t := fun t kt => pre50 t (st51 t kt)
    have pre53 : ∀ t, Steps p.tables e below (T51.setTop (mkF m 137 #[.val (.int p1), .val (.int p2), .val (.int p3), .val (.int (3 : Int32)), .val (.int ((p3 &&& (255 : Int32)) % (192 : Int32))), .val (.int (p2.toInt8.toInt32)), .val (.int (((p2.toUInt32 >>> ((8 : Int32) &&& 31).toUInt32).toInt32).toInt8.toInt32)), .val (.int (((p2.toUInt32 >>> ((16 : Int32) &&& 31).toUInt32).toInt32).toInt8.toInt32)), .val (.ref b36), .val (.ref b9)] [(.int ((((p3 &&& (255 : Int32)) % (192 : Int32)) + (1 : Int32)).toInt8.toInt32)), (.int (((p2.toUInt32 >>> ((16 : Int32) &&& 31).toUInt32).toInt32).toInt8.toInt32)), (.int (((p2.toUInt32 >>> ((8 : Int32) &&& 31).toUInt32).toInt32).toInt8.toInt32)), (.int (p2.toInt8.toInt32)), (.int (3 : Int32)), (.ref b9)])) t → Steps p.tables e below (s₁.setTop (entryFrame m #[(.int p1), (.int p2), (.int p3)] maxLocals)) t := fun t kt => pre52 t (by
      show Steps p.tables e below (T51.setTop (mkF m 118 #[.val (.int p1), .val (.int p2), .val (.int p3), .val (.int (3 : Int32)), .val (.int ((p3 &&& (255 : Int32)) % (192 : Int32))), .val (.int (p2.toInt8.toInt32)), .val (.int (((p2.toUInt32 >>> ((8 : Int32) &&& 31).toUInt32).toInt32).toInt8.toInt32)), .val (.int (((p2.toUInt32 >>> ((16 : Int32) &&& 31).toUInt32).toInt32).toInt8.toInt32)), .val (.ref b36), .val (.ref b9)] [(.int (1 : Int32))])) _
      refine XS.ifYes X51.here hx rfl (pc0 := 118) (pc' := 123) rfl (hb hby at_118) rfl ((if0 _ _).trans (feq (by decide)).2) (by decide) (by decide) ?_
      show Steps p.tables e below (T51.setTop (mkF m 123 #[.val (.int p1), .val (.int p2), .val (.int p3), .val (.int (3 : Int32)), .val (.int ((p3 &&& (255 : Int32)) % (192 : Int32))), .val (.int (p2.toInt8.toInt32)), .val (.int (((p2.toUInt32 >>> ((8 : Int32) &&& 31).toUInt32).toInt32).toInt8.toInt32)), .val (.int (((p2.toUInt32 >>> ((16 : Int32) &&& 31).toUInt32).toInt32).toInt8.toInt32)), .val (.ref b36), .val (.ref b9)] [])) _
      refine XS.aload X51.here hx rfl (hb hby at_123) rfl rfl ?_
      show Steps p.tables e below (T51.setTop (mkF m 125 #[.val (.int p1), .val (.int p2), .val (.int p3), .val (.int (3 : Int32)), .val (.int ((p3 &&& (255 : Int32)) % (192 : Int32))), .val (.int (p2.toInt8.toInt32)), .val (.int (((p2.toUInt32 >>> ((8 : Int32) &&& 31).toUInt32).toInt32).toInt8.toInt32)), .val (.int (((p2.toUInt32 >>> ((16 : Int32) &&& 31).toUInt32).toInt32).toInt8.toInt32)), .val (.ref b36), .val (.ref b9)] [(.ref b9)])) _
      refine XS.iloadN X51.here hx rfl (hb hby at_125) rfl ?_
      show Steps p.tables e below (T51.setTop (mkF m 126 #[.val (.int p1), .val (.int p2), .val (.int p3), .val (.int (3 : Int32)), .val (.int ((p3 &&& (255 : Int32)) % (192 : Int32))), .val (.int (p2.toInt8.toInt32)), .val (.int (((p2.toUInt32 >>> ((8 : Int32) &&& 31).toUInt32).toInt32).toInt8.toInt32)), .val (.int (((p2.toUInt32 >>> ((16 : Int32) &&& 31).toUInt32).toInt32).toInt8.toInt32)), .val (.ref b36), .val (.ref b9)] [(.int (3 : Int32)), (.ref b9)])) _
      refine XS.iload X51.here hx rfl (hb hby at_126) rfl ?_
      show Steps p.tables e below (T51.setTop (mkF m 128 #[.val (.int p1), .val (.int p2), .val (.int p3), .val (.int (3 : Int32)), .val (.int ((p3 &&& (255 : Int32)) % (192 : Int32))), .val (.int (p2.toInt8.toInt32)), .val (.int (((p2.toUInt32 >>> ((8 : Int32) &&& 31).toUInt32).toInt32).toInt8.toInt32)), .val (.int (((p2.toUInt32 >>> ((16 : Int32) &&& 31).toUInt32).toInt32).toInt8.toInt32)), .val (.ref b36), .val (.ref b9)] [(.int (p2.toInt8.toInt32)), (.int (3 : Int32)), (.ref b9)])) _
      refine XS.iload X51.here hx rfl (hb hby at_128) rfl ?_
      show Steps p.tables e below (T51.setTop (mkF m 130 #[.val (.int p1), .val (.int p2), .val (.int p3), .val (.int (3 : Int32)), .val (.int ((p3 &&& (255 : Int32)) % (192 : Int32))), .val (.int (p2.toInt8.toInt32)), .val (.int (((p2.toUInt32 >>> ((8 : Int32) &&& 31).toUInt32).toInt32).toInt8.toInt32)), .val (.int (((p2.toUInt32 >>> ((16 : Int32) &&& 31).toUInt32).toInt32).toInt8.toInt32)), .val (.ref b36), .val (.ref b9)] [(.int (((p2.toUInt32 >>> ((8 : Int32) &&& 31).toUInt32).toInt32).toInt8.toInt32)), (.int (p2.toInt8.toInt32)), (.int (3 : Int32)), (.ref b9)])) _
      refine XS.iload X51.here hx rfl (hb hby at_130) rfl ?_
      show Steps p.tables e below (T51.setTop (mkF m 132 #[.val (.int p1), .val (.int p2), .val (.int p3), .val (.int (3 : Int32)), .val (.int ((p3 &&& (255 : Int32)) % (192 : Int32))), .val (.int (p2.toInt8.toInt32)), .val (.int (((p2.toUInt32 >>> ((8 : Int32) &&& 31).toUInt32).toInt32).toInt8.toInt32)), .val (.int (((p2.toUInt32 >>> ((16 : Int32) &&& 31).toUInt32).toInt32).toInt8.toInt32)), .val (.ref b36), .val (.ref b9)] [(.int (((p2.toUInt32 >>> ((16 : Int32) &&& 31).toUInt32).toInt32).toInt8.toInt32)), (.int (((p2.toUInt32 >>> ((8 : Int32) &&& 31).toUInt32).toInt32).toInt8.toInt32)), (.int (p2.toInt8.toInt32)), (.int (3 : Int32)), (.ref b9)])) _
      refine XS.iload X51.here hx rfl (hb hby at_132) rfl ?_
      show Steps p.tables e below (T51.setTop (mkF m 134 #[.val (.int p1), .val (.int p2), .val (.int p3), .val (.int (3 : Int32)), .val (.int ((p3 &&& (255 : Int32)) % (192 : Int32))), .val (.int (p2.toInt8.toInt32)), .val (.int (((p2.toUInt32 >>> ((8 : Int32) &&& 31).toUInt32).toInt32).toInt8.toInt32)), .val (.int (((p2.toUInt32 >>> ((16 : Int32) &&& 31).toUInt32).toInt32).toInt8.toInt32)), .val (.ref b36), .val (.ref b9)] [(.int ((p3 &&& (255 : Int32)) % (192 : Int32))), (.int (((p2.toUInt32 >>> ((16 : Int32) &&& 31).toUInt32).toInt32).toInt8.toInt32)), (.int (((p2.toUInt32 >>> ((8 : Int32) &&& 31).toUInt32).toInt32).toInt8.toInt32)), (.int (p2.toInt8.toInt32)), (.int (3 : Int32)), (.ref b9)])) _
      refine XS.iconst X51.here hx rfl (hb hby at_134) ?_
      show Steps p.tables e below (T51.setTop (mkF m 135 #[.val (.int p1), .val (.int p2), .val (.int p3), .val (.int (3 : Int32)), .val (.int ((p3 &&& (255 : Int32)) % (192 : Int32))), .val (.int (p2.toInt8.toInt32)), .val (.int (((p2.toUInt32 >>> ((8 : Int32) &&& 31).toUInt32).toInt32).toInt8.toInt32)), .val (.int (((p2.toUInt32 >>> ((16 : Int32) &&& 31).toUInt32).toInt32).toInt8.toInt32)), .val (.ref b36), .val (.ref b9)] [(.int (1 : Int32)), (.int ((p3 &&& (255 : Int32)) % (192 : Int32))), (.int (((p2.toUInt32 >>> ((16 : Int32) &&& 31).toUInt32).toInt32).toInt8.toInt32)), (.int (((p2.toUInt32 >>> ((8 : Int32) &&& 31).toUInt32).toInt32).toInt8.toInt32)), (.int (p2.toInt8.toInt32)), (.int (3 : Int32)), (.ref b9)])) _
      refine XS.iadd X51.here hx rfl (hb hby at_135) rfl ?_
      show Steps p.tables e below (T51.setTop (mkF m 136 #[.val (.int p1), .val (.int p2), .val (.int p3), .val (.int (3 : Int32)), .val (.int ((p3 &&& (255 : Int32)) % (192 : Int32))), .val (.int (p2.toInt8.toInt32)), .val (.int (((p2.toUInt32 >>> ((8 : Int32) &&& 31).toUInt32).toInt32).toInt8.toInt32)), .val (.int (((p2.toUInt32 >>> ((16 : Int32) &&& 31).toUInt32).toInt32).toInt8.toInt32)), .val (.ref b36), .val (.ref b9)] [(.int (((p3 &&& (255 : Int32)) % (192 : Int32)) + (1 : Int32))), (.int (((p2.toUInt32 >>> ((16 : Int32) &&& 31).toUInt32).toInt32).toInt8.toInt32)), (.int (((p2.toUInt32 >>> ((8 : Int32) &&& 31).toUInt32).toInt32).toInt8.toInt32)), (.int (p2.toInt8.toInt32)), (.int (3 : Int32)), (.ref b9)])) _
      refine XS.i2b X51.here hx rfl (hb hby at_136) rfl ?_
      exact kt)
    obtain ⟨_, _, ⟨T54, L54, k54, n54⟩, -, X54, ⟨Lc54, hQ54, l54, y54, z54⟩, st54⟩ := Jvm.LawKit.callS X51 hx (y := (⟨"com/example/treecreeper/treecreeper/store/RecordCodecPastStartPinLaw", "same", "([BIBBBB)Z"⟩ : MethodName)) hown (mvT hZ (hw _ (List.mem_of_getElem? (i := 14) rfl))) (mvT hZ (hw _ (List.mem_of_getElem? (i := 15) rfl))) (mvT hZ (hw _ (List.mem_of_getElem? (i := 16) rfl))) (mvT hZ (hw _ (List.mem_of_getElem? (i := 17) rfl))) (by decide) (backOf (W := 0) (rm2_3 l Z a0 hw [] b9 _ (p2.toInt8.toInt32) (((p2.toUInt32 >>> ((8 : Int32) &&& 31).toUInt32).toInt32).toInt8.toInt32) (((p2.toUInt32 >>> ((16 : Int32) &&& 31).toUInt32).toInt32).toInt8.toInt32) ((((p3 &&& (255 : Int32)) % (192 : Int32)) + (1 : Int32)).toInt8.toInt32) T48.heap n0 Zs B48 (own_ne (by decide) (own_ne (by decide) (own_ne (by decide) (own_at _ _ _)))) (own_ne (by decide) (own_ne (by decide) (own_at _ _ _))) ((own_at _ _ _).trans (own_inc (own_at _ _ _)))) hZ (hw _ (List.mem_of_getElem? (i := 17) rfl)) (hw _ (List.mem_of_getElem? (i := 16) rfl)) (by decide) (by decide)) (g := (mkF m 137 #[.val (.int p1), .val (.int p2), .val (.int p3), .val (.int (3 : Int32)), .val (.int ((p3 &&& (255 : Int32)) % (192 : Int32))), .val (.int (p2.toInt8.toInt32)), .val (.int (((p2.toUInt32 >>> ((8 : Int32) &&& 31).toUInt32).toInt32).toInt8.toInt32)), .val (.int (((p2.toUInt32 >>> ((16 : Int32) &&& 31).toUInt32).toInt32).toInt8.toInt32)), .val (.ref b36), .val (.ref b9)] [(.int ((((p3 &&& (255 : Int32)) % (192 : Int32)) + (1 : Int32)).toInt8.toInt32)), (.int (((p2.toUInt32 >>> ((16 : Int32) &&& 31).toUInt32).toInt32).toInt8.toInt32)), (.int (((p2.toUInt32 >>> ((8 : Int32) &&& 31).toUInt32).toInt32).toInt8.toInt32)), (.int (p2.toInt8.toInt32)), (.int (3 : Int32)), (.ref b9)])) rfl (by rw [hml]; rfl) (argsL := [(.ref b9), (.int (3 : Int32)), (.int (p2.toInt8.toInt32)), (.int (((p2.toUInt32 >>> ((8 : Int32) &&& 31).toUInt32).toInt32).toInt8.toInt32)), (.int (((p2.toUInt32 >>> ((16 : Int32) &&& 31).toUInt32).toInt32).toInt8.toInt32)), (.int ((((p3 &&& (255 : Int32)) % (192 : Int32)) + (1 : Int32)).toInt8.toInt32))]) (rest := []) (lenOf pd_0_1 rfl) rfl (by show 2 * 0 + _ ≤ _; exact Nat.le_of_eq rfl) (hb hby at_137) (fun _ _ => ⟨rfl, e51, (by decide : 2 + 0 ≤ _), (by decide : 6 + 0 ≤ _)⟩)
    dsimp only [Pt.U, Pt.locs, Pt.cells, Pt.slots] at X54 l54 y54 z54 st54 hQ54
    subst l54 y54 z54
    obtain ⟨rfl, N54q, e54⟩ := hQ54
    have N54 := Fr.app N51 N54q
    have pre55 : ∀ t, Steps p.tables e below (T54.setTop (mkF m 140 #[.val (.int p1), .val (.int p2), .val (.int p3), .val (.int (3 : Int32)), .val (.int ((p3 &&& (255 : Int32)) % (192 : Int32))), .val (.int (p2.toInt8.toInt32)), .val (.int (((p2.toUInt32 >>> ((8 : Int32) &&& 31).toUInt32).toInt32).toInt8.toInt32)), .val (.int (((p2.toUInt32 >>> ((16 : Int32) &&& 31).toUInt32).toInt32).toInt8.toInt32)), .val (.ref b36), .val (.ref b9)] [(.int (1 : Int32))])) t → Steps p.tables e below (s₁.setTop (entryFrame m #[(.int p1), (.int p2), (.int p3)] maxLocals)) t := fun t kt => pre53 t (st54 t kt)
    obtain ⟨fs, hr, hrun, hended, hW, hsame⟩ := X54.leave (v := some (.int (1 : Int32))) (fun h => by rw [Bd.returns] at h; cases h)
    refine ⟨_, _, pre55 _ ?_, hrun, hended, _, _, rfl, ?_, ⟨_, rfl⟩, hW, hsame.mono (by decide) (by decide)⟩
    · show Steps p.tables e below (T54.setTop (mkF m 140 #[.val (.int p1), .val (.int p2), .val (.int p3), .val (.int (3 : Int32)), .val (.int ((p3 &&& (255 : Int32)) % (192 : Int32))), .val (.int (p2.toInt8.toInt32)), .val (.int (((p2.toUInt32 >>> ((8 : Int32) &&& 31).toUInt32).toInt32).toInt8.toInt32)), .val (.int (((p2.toUInt32 >>> ((16 : Int32) &&& 31).toUInt32).toInt32).toInt8.toInt32)), .val (.ref b36), .val (.ref b9)] [(.int (1 : Int32))])) _
      exact retN X54 hx (t := .boolean) Bd.returns (by simp) (hb hby at_140) hr
    · show Q0 Z p1 p2 p3 h0 n0 _ T54.heap _
      rw [e54]
      exact ⟨rfl, N54⟩
  · rw [hl] at pre1
    have pre56 : ∀ t, Steps p.tables e below (s₁.setTop (mkF m 36 #[.val (.int p1), .val (.int p2), .val (.int p3), .val (.int (4 : Int32)), .val (.int ((p3 &&& (255 : Int32)) % (192 : Int32))), .val (.int (p2.toInt8.toInt32)), .val (.int (((p2.toUInt32 >>> ((8 : Int32) &&& 31).toUInt32).toInt32).toInt8.toInt32)), .val (.int (((p2.toUInt32 >>> ((16 : Int32) &&& 31).toUInt32).toInt32).toInt8.toInt32)), .unset, .unset] [(.int (4 : Int32))])) t → Steps p.tables e below (s₁.setTop (entryFrame m #[(.int p1), (.int p2), (.int p3)] maxLocals)) t := fun t kt => pre1 t (by
      show Steps p.tables e below (s₁.setTop (mkF m 35 #[.val (.int p1), .val (.int p2), .val (.int p3), .val (.int (4 : Int32)), .val (.int ((p3 &&& (255 : Int32)) % (192 : Int32))), .val (.int (p2.toInt8.toInt32)), .val (.int (((p2.toUInt32 >>> ((8 : Int32) &&& 31).toUInt32).toInt32).toInt8.toInt32)), .val (.int (((p2.toUInt32 >>> ((16 : Int32) &&& 31).toUInt32).toInt32).toInt8.toInt32)), .unset, .unset] [])) _
      refine XS.iloadN X0.here hx rfl (hb hby at_35) rfl ?_
      exact kt)
    obtain ⟨T57, h57, X57, e57, E57, B57, A57, st57⟩ := own_bnew X0 hx hZ (hw _ (List.mem_of_getElem? (i := 0) rfl)) e0 (g := (mkF m 36 #[.val (.int p1), .val (.int p2), .val (.int p3), .val (.int (4 : Int32)), .val (.int ((p3 &&& (255 : Int32)) % (192 : Int32))), .val (.int (p2.toInt8.toInt32)), .val (.int (((p2.toUInt32 >>> ((8 : Int32) &&& 31).toUInt32).toInt32).toInt8.toInt32)), .val (.int (((p2.toUInt32 >>> ((16 : Int32) &&& 31).toUInt32).toInt32).toInt8.toInt32)), .unset, .unset] [(.int (4 : Int32))])) rfl (hb hby at_36) rfl (n := 4) (by decide) (by decide) (by decide) (by decide)
    obtain ⟨b57, g57⟩ : ∃ z, z = h0.size := ⟨_, rfl⟩
    rw [← g57] at B57 A57 st57
    have pre58 : ∀ t, Steps p.tables e below (T57.setTop (mkF m 38 #[.val (.int p1), .val (.int p2), .val (.int p3), .val (.int (4 : Int32)), .val (.int ((p3 &&& (255 : Int32)) % (192 : Int32))), .val (.int (p2.toInt8.toInt32)), .val (.int (((p2.toUInt32 >>> ((8 : Int32) &&& 31).toUInt32).toInt32).toInt8.toInt32)), .val (.int (((p2.toUInt32 >>> ((16 : Int32) &&& 31).toUInt32).toInt32).toInt8.toInt32)), .unset, .unset] [(.ref b57)])) t → Steps p.tables e below (s₁.setTop (entryFrame m #[(.int p1), (.int p2), (.int p3)] maxLocals)) t := fun t kt => pre56 t (st57 t kt)
    have gb : n0 ≤ b57 := Nat.le_trans Z0 (Nat.le_of_eq g57.symm)
    have ZZ57 : n0 ≤ h57.size := Nat.le_trans Z0 E57.1
    have pre59 : ∀ t, Steps p.tables e below (T57.setTop (mkF m 50 #[.val (.int p1), .val (.int p2), .val (.int p3), .val (.int (4 : Int32)), .val (.int ((p3 &&& (255 : Int32)) % (192 : Int32))), .val (.int (p2.toInt8.toInt32)), .val (.int (((p2.toUInt32 >>> ((8 : Int32) &&& 31).toUInt32).toInt32).toInt8.toInt32)), .val (.int (((p2.toUInt32 >>> ((16 : Int32) &&& 31).toUInt32).toInt32).toInt8.toInt32)), .val (.ref b57), .unset] [(.int (p2.toInt8.toInt32)), (.int (0 : Int32)), (.ref b57)])) t → Steps p.tables e below (s₁.setTop (entryFrame m #[(.int p1), (.int p2), (.int p3)] maxLocals)) t := fun t kt => pre58 t (by
      show Steps p.tables e below (T57.setTop (mkF m 38 #[.val (.int p1), .val (.int p2), .val (.int p3), .val (.int (4 : Int32)), .val (.int ((p3 &&& (255 : Int32)) % (192 : Int32))), .val (.int (p2.toInt8.toInt32)), .val (.int (((p2.toUInt32 >>> ((8 : Int32) &&& 31).toUInt32).toInt32).toInt8.toInt32)), .val (.int (((p2.toUInt32 >>> ((16 : Int32) &&& 31).toUInt32).toInt32).toInt8.toInt32)), .unset, .unset] [(.ref b57)])) _
      refine XS.astore X57.here hx rfl (hb hby at_38) rfl rfl (l' := #[.val (.int p1), .val (.int p2), .val (.int p3), .val (.int (4 : Int32)), .val (.int ((p3 &&& (255 : Int32)) % (192 : Int32))), .val (.int (p2.toInt8.toInt32)), .val (.int (((p2.toUInt32 >>> ((8 : Int32) &&& 31).toUInt32).toInt32).toInt8.toInt32)), .val (.int (((p2.toUInt32 >>> ((16 : Int32) &&& 31).toUInt32).toInt32).toInt8.toInt32)), .val (.ref b57), .unset]) rfl ?_
      show Steps p.tables e below (T57.setTop (mkF m 40 #[.val (.int p1), .val (.int p2), .val (.int p3), .val (.int (4 : Int32)), .val (.int ((p3 &&& (255 : Int32)) % (192 : Int32))), .val (.int (p2.toInt8.toInt32)), .val (.int (((p2.toUInt32 >>> ((8 : Int32) &&& 31).toUInt32).toInt32).toInt8.toInt32)), .val (.int (((p2.toUInt32 >>> ((16 : Int32) &&& 31).toUInt32).toInt32).toInt8.toInt32)), .val (.ref b57), .unset] [])) _
      refine XS.iloadN X57.here hx rfl (hb hby at_40) rfl ?_
      show Steps p.tables e below (T57.setTop (mkF m 41 #[.val (.int p1), .val (.int p2), .val (.int p3), .val (.int (4 : Int32)), .val (.int ((p3 &&& (255 : Int32)) % (192 : Int32))), .val (.int (p2.toInt8.toInt32)), .val (.int (((p2.toUInt32 >>> ((8 : Int32) &&& 31).toUInt32).toInt32).toInt8.toInt32)), .val (.int (((p2.toUInt32 >>> ((16 : Int32) &&& 31).toUInt32).toInt32).toInt8.toInt32)), .val (.ref b57), .unset] [(.int (4 : Int32))])) _
      refine XS.iconst X57.here hx rfl (hb hby at_41) ?_
      show Steps p.tables e below (T57.setTop (mkF m 42 #[.val (.int p1), .val (.int p2), .val (.int p3), .val (.int (4 : Int32)), .val (.int ((p3 &&& (255 : Int32)) % (192 : Int32))), .val (.int (p2.toInt8.toInt32)), .val (.int (((p2.toUInt32 >>> ((8 : Int32) &&& 31).toUInt32).toInt32).toInt8.toInt32)), .val (.int (((p2.toUInt32 >>> ((16 : Int32) &&& 31).toUInt32).toInt32).toInt8.toInt32)), .val (.ref b57), .unset] [(.int (1 : Int32)), (.int (4 : Int32))])) _
      refine XS.icmpNo X57.here hx rfl (hb hby at_42) rfl (tlt (by decide)).2.2.2 ?_
      show Steps p.tables e below (T57.setTop (mkF m 45 #[.val (.int p1), .val (.int p2), .val (.int p3), .val (.int (4 : Int32)), .val (.int ((p3 &&& (255 : Int32)) % (192 : Int32))), .val (.int (p2.toInt8.toInt32)), .val (.int (((p2.toUInt32 >>> ((8 : Int32) &&& 31).toUInt32).toInt32).toInt8.toInt32)), .val (.int (((p2.toUInt32 >>> ((16 : Int32) &&& 31).toUInt32).toInt32).toInt8.toInt32)), .val (.ref b57), .unset] [])) _
      refine XS.aload X57.here hx rfl (hb hby at_45) rfl rfl ?_
      show Steps p.tables e below (T57.setTop (mkF m 47 #[.val (.int p1), .val (.int p2), .val (.int p3), .val (.int (4 : Int32)), .val (.int ((p3 &&& (255 : Int32)) % (192 : Int32))), .val (.int (p2.toInt8.toInt32)), .val (.int (((p2.toUInt32 >>> ((8 : Int32) &&& 31).toUInt32).toInt32).toInt8.toInt32)), .val (.int (((p2.toUInt32 >>> ((16 : Int32) &&& 31).toUInt32).toInt32).toInt8.toInt32)), .val (.ref b57), .unset] [(.ref b57)])) _
      refine XS.iconst X57.here hx rfl (hb hby at_47) ?_
      show Steps p.tables e below (T57.setTop (mkF m 48 #[.val (.int p1), .val (.int p2), .val (.int p3), .val (.int (4 : Int32)), .val (.int ((p3 &&& (255 : Int32)) % (192 : Int32))), .val (.int (p2.toInt8.toInt32)), .val (.int (((p2.toUInt32 >>> ((8 : Int32) &&& 31).toUInt32).toInt32).toInt8.toInt32)), .val (.int (((p2.toUInt32 >>> ((16 : Int32) &&& 31).toUInt32).toInt32).toInt8.toInt32)), .val (.ref b57), .unset] [(.int (0 : Int32)), (.ref b57)])) _
      refine XS.iload X57.here hx rfl (hb hby at_48) rfl ?_
      exact kt)
    obtain ⟨T60, h60, X60, e60, B60, W60, st60⟩ := own_bstore X57 hx hZ e57 B57 (j := (0 : Int32)) (x := (p2.toInt8.toInt32)) (v := (p2.toInt8.toInt32)) (k := 0) (by decide) (by decide) (own_b8 _) (g := (mkF m 50 #[.val (.int p1), .val (.int p2), .val (.int p3), .val (.int (4 : Int32)), .val (.int ((p3 &&& (255 : Int32)) % (192 : Int32))), .val (.int (p2.toInt8.toInt32)), .val (.int (((p2.toUInt32 >>> ((8 : Int32) &&& 31).toUInt32).toInt32).toInt8.toInt32)), .val (.int (((p2.toUInt32 >>> ((16 : Int32) &&& 31).toUInt32).toInt32).toInt8.toInt32)), .val (.ref b57), .unset] [(.int (p2.toInt8.toInt32)), (.int (0 : Int32)), (.ref b57)])) rfl rfl (hb hby at_50)
    have N60 := Fr.snoc X60 N0 gb
    have pre61 : ∀ t, Steps p.tables e below (T60.setTop (mkF m 51 #[.val (.int p1), .val (.int p2), .val (.int p3), .val (.int (4 : Int32)), .val (.int ((p3 &&& (255 : Int32)) % (192 : Int32))), .val (.int (p2.toInt8.toInt32)), .val (.int (((p2.toUInt32 >>> ((8 : Int32) &&& 31).toUInt32).toInt32).toInt8.toInt32)), .val (.int (((p2.toUInt32 >>> ((16 : Int32) &&& 31).toUInt32).toInt32).toInt8.toInt32)), .val (.ref b57), .unset] [])) t → Steps p.tables e below (s₁.setTop (entryFrame m #[(.int p1), (.int p2), (.int p3)] maxLocals)) t := fun t kt => pre59 t (st60 t kt)
    have ZZ60 : n0 ≤ h60.size := by rw [W60.size]; exact ZZ57
    have A60 := A57.wr W60
    have pre62 : ∀ t, Steps p.tables e below (T60.setTop (mkF m 61 #[.val (.int p1), .val (.int p2), .val (.int p3), .val (.int (4 : Int32)), .val (.int ((p3 &&& (255 : Int32)) % (192 : Int32))), .val (.int (p2.toInt8.toInt32)), .val (.int (((p2.toUInt32 >>> ((8 : Int32) &&& 31).toUInt32).toInt32).toInt8.toInt32)), .val (.int (((p2.toUInt32 >>> ((16 : Int32) &&& 31).toUInt32).toInt32).toInt8.toInt32)), .val (.ref b57), .unset] [(.int (((p2.toUInt32 >>> ((8 : Int32) &&& 31).toUInt32).toInt32).toInt8.toInt32)), (.int (1 : Int32)), (.ref b57)])) t → Steps p.tables e below (s₁.setTop (entryFrame m #[(.int p1), (.int p2), (.int p3)] maxLocals)) t := fun t kt => pre61 t (by
      show Steps p.tables e below (T60.setTop (mkF m 51 #[.val (.int p1), .val (.int p2), .val (.int p3), .val (.int (4 : Int32)), .val (.int ((p3 &&& (255 : Int32)) % (192 : Int32))), .val (.int (p2.toInt8.toInt32)), .val (.int (((p2.toUInt32 >>> ((8 : Int32) &&& 31).toUInt32).toInt32).toInt8.toInt32)), .val (.int (((p2.toUInt32 >>> ((16 : Int32) &&& 31).toUInt32).toInt32).toInt8.toInt32)), .val (.ref b57), .unset] [])) _
      refine XS.iloadN X60.here hx rfl (hb hby at_51) rfl ?_
      show Steps p.tables e below (T60.setTop (mkF m 52 #[.val (.int p1), .val (.int p2), .val (.int p3), .val (.int (4 : Int32)), .val (.int ((p3 &&& (255 : Int32)) % (192 : Int32))), .val (.int (p2.toInt8.toInt32)), .val (.int (((p2.toUInt32 >>> ((8 : Int32) &&& 31).toUInt32).toInt32).toInt8.toInt32)), .val (.int (((p2.toUInt32 >>> ((16 : Int32) &&& 31).toUInt32).toInt32).toInt8.toInt32)), .val (.ref b57), .unset] [(.int (4 : Int32))])) _
      refine XS.iconst X60.here hx rfl (hb hby at_52) ?_
      show Steps p.tables e below (T60.setTop (mkF m 53 #[.val (.int p1), .val (.int p2), .val (.int p3), .val (.int (4 : Int32)), .val (.int ((p3 &&& (255 : Int32)) % (192 : Int32))), .val (.int (p2.toInt8.toInt32)), .val (.int (((p2.toUInt32 >>> ((8 : Int32) &&& 31).toUInt32).toInt32).toInt8.toInt32)), .val (.int (((p2.toUInt32 >>> ((16 : Int32) &&& 31).toUInt32).toInt32).toInt8.toInt32)), .val (.ref b57), .unset] [(.int (2 : Int32)), (.int (4 : Int32))])) _
      refine XS.icmpNo X60.here hx rfl (hb hby at_53) rfl (tlt (by decide)).2.2.2 ?_
      show Steps p.tables e below (T60.setTop (mkF m 56 #[.val (.int p1), .val (.int p2), .val (.int p3), .val (.int (4 : Int32)), .val (.int ((p3 &&& (255 : Int32)) % (192 : Int32))), .val (.int (p2.toInt8.toInt32)), .val (.int (((p2.toUInt32 >>> ((8 : Int32) &&& 31).toUInt32).toInt32).toInt8.toInt32)), .val (.int (((p2.toUInt32 >>> ((16 : Int32) &&& 31).toUInt32).toInt32).toInt8.toInt32)), .val (.ref b57), .unset] [])) _
      refine XS.aload X60.here hx rfl (hb hby at_56) rfl rfl ?_
      show Steps p.tables e below (T60.setTop (mkF m 58 #[.val (.int p1), .val (.int p2), .val (.int p3), .val (.int (4 : Int32)), .val (.int ((p3 &&& (255 : Int32)) % (192 : Int32))), .val (.int (p2.toInt8.toInt32)), .val (.int (((p2.toUInt32 >>> ((8 : Int32) &&& 31).toUInt32).toInt32).toInt8.toInt32)), .val (.int (((p2.toUInt32 >>> ((16 : Int32) &&& 31).toUInt32).toInt32).toInt8.toInt32)), .val (.ref b57), .unset] [(.ref b57)])) _
      refine XS.iconst X60.here hx rfl (hb hby at_58) ?_
      show Steps p.tables e below (T60.setTop (mkF m 59 #[.val (.int p1), .val (.int p2), .val (.int p3), .val (.int (4 : Int32)), .val (.int ((p3 &&& (255 : Int32)) % (192 : Int32))), .val (.int (p2.toInt8.toInt32)), .val (.int (((p2.toUInt32 >>> ((8 : Int32) &&& 31).toUInt32).toInt32).toInt8.toInt32)), .val (.int (((p2.toUInt32 >>> ((16 : Int32) &&& 31).toUInt32).toInt32).toInt8.toInt32)), .val (.ref b57), .unset] [(.int (1 : Int32)), (.ref b57)])) _
      refine XS.iload X60.here hx rfl (hb hby at_59) rfl ?_
      exact kt)
    obtain ⟨T63, h63, X63, e63, B63, W63, st63⟩ := own_bstore X60 hx hZ e60 B60 (j := (1 : Int32)) (x := (((p2.toUInt32 >>> ((8 : Int32) &&& 31).toUInt32).toInt32).toInt8.toInt32)) (v := (((p2.toUInt32 >>> ((8 : Int32) &&& 31).toUInt32).toInt32).toInt8.toInt32)) (k := 1) (by decide) (by decide) (own_b8 _) (g := (mkF m 61 #[.val (.int p1), .val (.int p2), .val (.int p3), .val (.int (4 : Int32)), .val (.int ((p3 &&& (255 : Int32)) % (192 : Int32))), .val (.int (p2.toInt8.toInt32)), .val (.int (((p2.toUInt32 >>> ((8 : Int32) &&& 31).toUInt32).toInt32).toInt8.toInt32)), .val (.int (((p2.toUInt32 >>> ((16 : Int32) &&& 31).toUInt32).toInt32).toInt8.toInt32)), .val (.ref b57), .unset] [(.int (((p2.toUInt32 >>> ((8 : Int32) &&& 31).toUInt32).toInt32).toInt8.toInt32)), (.int (1 : Int32)), (.ref b57)])) rfl rfl (hb hby at_61)
    have N63 := Fr.snoc X63 N60 gb
    have pre64 : ∀ t, Steps p.tables e below (T63.setTop (mkF m 62 #[.val (.int p1), .val (.int p2), .val (.int p3), .val (.int (4 : Int32)), .val (.int ((p3 &&& (255 : Int32)) % (192 : Int32))), .val (.int (p2.toInt8.toInt32)), .val (.int (((p2.toUInt32 >>> ((8 : Int32) &&& 31).toUInt32).toInt32).toInt8.toInt32)), .val (.int (((p2.toUInt32 >>> ((16 : Int32) &&& 31).toUInt32).toInt32).toInt8.toInt32)), .val (.ref b57), .unset] [])) t → Steps p.tables e below (s₁.setTop (entryFrame m #[(.int p1), (.int p2), (.int p3)] maxLocals)) t := fun t kt => pre62 t (st63 t kt)
    have ZZ63 : n0 ≤ h63.size := by rw [W63.size]; exact ZZ60
    have A63 := A60.wr W63
    have pre65 : ∀ t, Steps p.tables e below (T63.setTop (mkF m 72 #[.val (.int p1), .val (.int p2), .val (.int p3), .val (.int (4 : Int32)), .val (.int ((p3 &&& (255 : Int32)) % (192 : Int32))), .val (.int (p2.toInt8.toInt32)), .val (.int (((p2.toUInt32 >>> ((8 : Int32) &&& 31).toUInt32).toInt32).toInt8.toInt32)), .val (.int (((p2.toUInt32 >>> ((16 : Int32) &&& 31).toUInt32).toInt32).toInt8.toInt32)), .val (.ref b57), .unset] [(.int (((p2.toUInt32 >>> ((16 : Int32) &&& 31).toUInt32).toInt32).toInt8.toInt32)), (.int (2 : Int32)), (.ref b57)])) t → Steps p.tables e below (s₁.setTop (entryFrame m #[(.int p1), (.int p2), (.int p3)] maxLocals)) t := fun t kt => pre64 t (by
      show Steps p.tables e below (T63.setTop (mkF m 62 #[.val (.int p1), .val (.int p2), .val (.int p3), .val (.int (4 : Int32)), .val (.int ((p3 &&& (255 : Int32)) % (192 : Int32))), .val (.int (p2.toInt8.toInt32)), .val (.int (((p2.toUInt32 >>> ((8 : Int32) &&& 31).toUInt32).toInt32).toInt8.toInt32)), .val (.int (((p2.toUInt32 >>> ((16 : Int32) &&& 31).toUInt32).toInt32).toInt8.toInt32)), .val (.ref b57), .unset] [])) _
      refine XS.iloadN X63.here hx rfl (hb hby at_62) rfl ?_
      show Steps p.tables e below (T63.setTop (mkF m 63 #[.val (.int p1), .val (.int p2), .val (.int p3), .val (.int (4 : Int32)), .val (.int ((p3 &&& (255 : Int32)) % (192 : Int32))), .val (.int (p2.toInt8.toInt32)), .val (.int (((p2.toUInt32 >>> ((8 : Int32) &&& 31).toUInt32).toInt32).toInt8.toInt32)), .val (.int (((p2.toUInt32 >>> ((16 : Int32) &&& 31).toUInt32).toInt32).toInt8.toInt32)), .val (.ref b57), .unset] [(.int (4 : Int32))])) _
      refine XS.iconst X63.here hx rfl (hb hby at_63) ?_
      show Steps p.tables e below (T63.setTop (mkF m 64 #[.val (.int p1), .val (.int p2), .val (.int p3), .val (.int (4 : Int32)), .val (.int ((p3 &&& (255 : Int32)) % (192 : Int32))), .val (.int (p2.toInt8.toInt32)), .val (.int (((p2.toUInt32 >>> ((8 : Int32) &&& 31).toUInt32).toInt32).toInt8.toInt32)), .val (.int (((p2.toUInt32 >>> ((16 : Int32) &&& 31).toUInt32).toInt32).toInt8.toInt32)), .val (.ref b57), .unset] [(.int (3 : Int32)), (.int (4 : Int32))])) _
      refine XS.icmpNo X63.here hx rfl (hb hby at_64) rfl (tlt (by decide)).2.2.2 ?_
      show Steps p.tables e below (T63.setTop (mkF m 67 #[.val (.int p1), .val (.int p2), .val (.int p3), .val (.int (4 : Int32)), .val (.int ((p3 &&& (255 : Int32)) % (192 : Int32))), .val (.int (p2.toInt8.toInt32)), .val (.int (((p2.toUInt32 >>> ((8 : Int32) &&& 31).toUInt32).toInt32).toInt8.toInt32)), .val (.int (((p2.toUInt32 >>> ((16 : Int32) &&& 31).toUInt32).toInt32).toInt8.toInt32)), .val (.ref b57), .unset] [])) _
      refine XS.aload X63.here hx rfl (hb hby at_67) rfl rfl ?_
      show Steps p.tables e below (T63.setTop (mkF m 69 #[.val (.int p1), .val (.int p2), .val (.int p3), .val (.int (4 : Int32)), .val (.int ((p3 &&& (255 : Int32)) % (192 : Int32))), .val (.int (p2.toInt8.toInt32)), .val (.int (((p2.toUInt32 >>> ((8 : Int32) &&& 31).toUInt32).toInt32).toInt8.toInt32)), .val (.int (((p2.toUInt32 >>> ((16 : Int32) &&& 31).toUInt32).toInt32).toInt8.toInt32)), .val (.ref b57), .unset] [(.ref b57)])) _
      refine XS.iconst X63.here hx rfl (hb hby at_69) ?_
      show Steps p.tables e below (T63.setTop (mkF m 70 #[.val (.int p1), .val (.int p2), .val (.int p3), .val (.int (4 : Int32)), .val (.int ((p3 &&& (255 : Int32)) % (192 : Int32))), .val (.int (p2.toInt8.toInt32)), .val (.int (((p2.toUInt32 >>> ((8 : Int32) &&& 31).toUInt32).toInt32).toInt8.toInt32)), .val (.int (((p2.toUInt32 >>> ((16 : Int32) &&& 31).toUInt32).toInt32).toInt8.toInt32)), .val (.ref b57), .unset] [(.int (2 : Int32)), (.ref b57)])) _
      refine XS.iload X63.here hx rfl (hb hby at_70) rfl ?_
      exact kt)
    obtain ⟨T66, h66, X66, e66, B66, W66, st66⟩ := own_bstore X63 hx hZ e63 B63 (j := (2 : Int32)) (x := (((p2.toUInt32 >>> ((16 : Int32) &&& 31).toUInt32).toInt32).toInt8.toInt32)) (v := (((p2.toUInt32 >>> ((16 : Int32) &&& 31).toUInt32).toInt32).toInt8.toInt32)) (k := 2) (by decide) (by decide) (own_b8 _) (g := (mkF m 72 #[.val (.int p1), .val (.int p2), .val (.int p3), .val (.int (4 : Int32)), .val (.int ((p3 &&& (255 : Int32)) % (192 : Int32))), .val (.int (p2.toInt8.toInt32)), .val (.int (((p2.toUInt32 >>> ((8 : Int32) &&& 31).toUInt32).toInt32).toInt8.toInt32)), .val (.int (((p2.toUInt32 >>> ((16 : Int32) &&& 31).toUInt32).toInt32).toInt8.toInt32)), .val (.ref b57), .unset] [(.int (((p2.toUInt32 >>> ((16 : Int32) &&& 31).toUInt32).toInt32).toInt8.toInt32)), (.int (2 : Int32)), (.ref b57)])) rfl rfl (hb hby at_72)
    have N66 := Fr.snoc X66 N63 gb
    have pre67 : ∀ t, Steps p.tables e below (T66.setTop (mkF m 73 #[.val (.int p1), .val (.int p2), .val (.int p3), .val (.int (4 : Int32)), .val (.int ((p3 &&& (255 : Int32)) % (192 : Int32))), .val (.int (p2.toInt8.toInt32)), .val (.int (((p2.toUInt32 >>> ((8 : Int32) &&& 31).toUInt32).toInt32).toInt8.toInt32)), .val (.int (((p2.toUInt32 >>> ((16 : Int32) &&& 31).toUInt32).toInt32).toInt8.toInt32)), .val (.ref b57), .unset] [])) t → Steps p.tables e below (s₁.setTop (entryFrame m #[(.int p1), (.int p2), (.int p3)] maxLocals)) t := fun t kt => pre65 t (st66 t kt)
    have ZZ66 : n0 ≤ h66.size := by rw [W66.size]; exact ZZ63
    have A66 := A63.wr W66
    have pre68 : ∀ t, Steps p.tables e below (T66.setTop (mkF m 81 #[.val (.int p1), .val (.int p2), .val (.int p3), .val (.int (4 : Int32)), .val (.int ((p3 &&& (255 : Int32)) % (192 : Int32))), .val (.int (p2.toInt8.toInt32)), .val (.int (((p2.toUInt32 >>> ((8 : Int32) &&& 31).toUInt32).toInt32).toInt8.toInt32)), .val (.int (((p2.toUInt32 >>> ((16 : Int32) &&& 31).toUInt32).toInt32).toInt8.toInt32)), .val (.ref b57), .unset] [(.int (((p3 &&& (255 : Int32)) % (192 : Int32)).toInt8.toInt32)), (.int ((4 : Int32) - (1 : Int32))), (.ref b57)])) t → Steps p.tables e below (s₁.setTop (entryFrame m #[(.int p1), (.int p2), (.int p3)] maxLocals)) t := fun t kt => pre67 t (by
      show Steps p.tables e below (T66.setTop (mkF m 73 #[.val (.int p1), .val (.int p2), .val (.int p3), .val (.int (4 : Int32)), .val (.int ((p3 &&& (255 : Int32)) % (192 : Int32))), .val (.int (p2.toInt8.toInt32)), .val (.int (((p2.toUInt32 >>> ((8 : Int32) &&& 31).toUInt32).toInt32).toInt8.toInt32)), .val (.int (((p2.toUInt32 >>> ((16 : Int32) &&& 31).toUInt32).toInt32).toInt8.toInt32)), .val (.ref b57), .unset] [])) _
      refine XS.aload X66.here hx rfl (hb hby at_73) rfl rfl ?_
      show Steps p.tables e below (T66.setTop (mkF m 75 #[.val (.int p1), .val (.int p2), .val (.int p3), .val (.int (4 : Int32)), .val (.int ((p3 &&& (255 : Int32)) % (192 : Int32))), .val (.int (p2.toInt8.toInt32)), .val (.int (((p2.toUInt32 >>> ((8 : Int32) &&& 31).toUInt32).toInt32).toInt8.toInt32)), .val (.int (((p2.toUInt32 >>> ((16 : Int32) &&& 31).toUInt32).toInt32).toInt8.toInt32)), .val (.ref b57), .unset] [(.ref b57)])) _
      refine XS.iloadN X66.here hx rfl (hb hby at_75) rfl ?_
      show Steps p.tables e below (T66.setTop (mkF m 76 #[.val (.int p1), .val (.int p2), .val (.int p3), .val (.int (4 : Int32)), .val (.int ((p3 &&& (255 : Int32)) % (192 : Int32))), .val (.int (p2.toInt8.toInt32)), .val (.int (((p2.toUInt32 >>> ((8 : Int32) &&& 31).toUInt32).toInt32).toInt8.toInt32)), .val (.int (((p2.toUInt32 >>> ((16 : Int32) &&& 31).toUInt32).toInt32).toInt8.toInt32)), .val (.ref b57), .unset] [(.int (4 : Int32)), (.ref b57)])) _
      refine XS.iconst X66.here hx rfl (hb hby at_76) ?_
      show Steps p.tables e below (T66.setTop (mkF m 77 #[.val (.int p1), .val (.int p2), .val (.int p3), .val (.int (4 : Int32)), .val (.int ((p3 &&& (255 : Int32)) % (192 : Int32))), .val (.int (p2.toInt8.toInt32)), .val (.int (((p2.toUInt32 >>> ((8 : Int32) &&& 31).toUInt32).toInt32).toInt8.toInt32)), .val (.int (((p2.toUInt32 >>> ((16 : Int32) &&& 31).toUInt32).toInt32).toInt8.toInt32)), .val (.ref b57), .unset] [(.int (1 : Int32)), (.int (4 : Int32)), (.ref b57)])) _
      refine XS.isub X66.here hx rfl (hb hby at_77) rfl ?_
      show Steps p.tables e below (T66.setTop (mkF m 78 #[.val (.int p1), .val (.int p2), .val (.int p3), .val (.int (4 : Int32)), .val (.int ((p3 &&& (255 : Int32)) % (192 : Int32))), .val (.int (p2.toInt8.toInt32)), .val (.int (((p2.toUInt32 >>> ((8 : Int32) &&& 31).toUInt32).toInt32).toInt8.toInt32)), .val (.int (((p2.toUInt32 >>> ((16 : Int32) &&& 31).toUInt32).toInt32).toInt8.toInt32)), .val (.ref b57), .unset] [(.int ((4 : Int32) - (1 : Int32))), (.ref b57)])) _
      refine XS.iload X66.here hx rfl (hb hby at_78) rfl ?_
      show Steps p.tables e below (T66.setTop (mkF m 80 #[.val (.int p1), .val (.int p2), .val (.int p3), .val (.int (4 : Int32)), .val (.int ((p3 &&& (255 : Int32)) % (192 : Int32))), .val (.int (p2.toInt8.toInt32)), .val (.int (((p2.toUInt32 >>> ((8 : Int32) &&& 31).toUInt32).toInt32).toInt8.toInt32)), .val (.int (((p2.toUInt32 >>> ((16 : Int32) &&& 31).toUInt32).toInt32).toInt8.toInt32)), .val (.ref b57), .unset] [(.int ((p3 &&& (255 : Int32)) % (192 : Int32))), (.int ((4 : Int32) - (1 : Int32))), (.ref b57)])) _
      refine XS.i2b X66.here hx rfl (hb hby at_80) rfl ?_
      exact kt)
    obtain ⟨T69, h69, X69, e69, B69, W69, st69⟩ := own_bstore X66 hx hZ e66 B66 (j := ((4 : Int32) - (1 : Int32))) (x := (((p3 &&& (255 : Int32)) % (192 : Int32)).toInt8.toInt32)) (v := (((p3 &&& (255 : Int32)) % (192 : Int32)).toInt8.toInt32)) (k := 3) (by decide) (by decide) (own_b8 _) (g := (mkF m 81 #[.val (.int p1), .val (.int p2), .val (.int p3), .val (.int (4 : Int32)), .val (.int ((p3 &&& (255 : Int32)) % (192 : Int32))), .val (.int (p2.toInt8.toInt32)), .val (.int (((p2.toUInt32 >>> ((8 : Int32) &&& 31).toUInt32).toInt32).toInt8.toInt32)), .val (.int (((p2.toUInt32 >>> ((16 : Int32) &&& 31).toUInt32).toInt32).toInt8.toInt32)), .val (.ref b57), .unset] [(.int (((p3 &&& (255 : Int32)) % (192 : Int32)).toInt8.toInt32)), (.int ((4 : Int32) - (1 : Int32))), (.ref b57)])) rfl rfl (hb hby at_81)
    have N69 := Fr.snoc X69 N66 gb
    have pre70 : ∀ t, Steps p.tables e below (T69.setTop (mkF m 82 #[.val (.int p1), .val (.int p2), .val (.int p3), .val (.int (4 : Int32)), .val (.int ((p3 &&& (255 : Int32)) % (192 : Int32))), .val (.int (p2.toInt8.toInt32)), .val (.int (((p2.toUInt32 >>> ((8 : Int32) &&& 31).toUInt32).toInt32).toInt8.toInt32)), .val (.int (((p2.toUInt32 >>> ((16 : Int32) &&& 31).toUInt32).toInt32).toInt8.toInt32)), .val (.ref b57), .unset] [])) t → Steps p.tables e below (s₁.setTop (entryFrame m #[(.int p1), (.int p2), (.int p3)] maxLocals)) t := fun t kt => pre68 t (st69 t kt)
    have ZZ69 : n0 ≤ h69.size := by rw [W69.size]; exact ZZ66
    have A69 := A66.wr W69
    have pre71 : ∀ t, Steps p.tables e below (T69.setTop (mkF m 84 #[.val (.int p1), .val (.int p2), .val (.int p3), .val (.int (4 : Int32)), .val (.int ((p3 &&& (255 : Int32)) % (192 : Int32))), .val (.int (p2.toInt8.toInt32)), .val (.int (((p2.toUInt32 >>> ((8 : Int32) &&& 31).toUInt32).toInt32).toInt8.toInt32)), .val (.int (((p2.toUInt32 >>> ((16 : Int32) &&& 31).toUInt32).toInt32).toInt8.toInt32)), .val (.ref b57), .unset] [(.ref b57)])) t → Steps p.tables e below (s₁.setTop (entryFrame m #[(.int p1), (.int p2), (.int p3)] maxLocals)) t := fun t kt => pre70 t (by
      show Steps p.tables e below (T69.setTop (mkF m 82 #[.val (.int p1), .val (.int p2), .val (.int p3), .val (.int (4 : Int32)), .val (.int ((p3 &&& (255 : Int32)) % (192 : Int32))), .val (.int (p2.toInt8.toInt32)), .val (.int (((p2.toUInt32 >>> ((8 : Int32) &&& 31).toUInt32).toInt32).toInt8.toInt32)), .val (.int (((p2.toUInt32 >>> ((16 : Int32) &&& 31).toUInt32).toInt32).toInt8.toInt32)), .val (.ref b57), .unset] [])) _
      refine XS.aload X69.here hx rfl (hb hby at_82) rfl rfl ?_
      exact kt)
    obtain ⟨b9, g9⟩ : ∃ z, z = h69.size := ⟨_, rfl⟩
    have hne : ¬ (b9 = b57) := by rw [g9]; exact Nat.ne_of_gt B69.lt
    obtain ⟨_, _, ⟨T72, L72, k72, n72⟩, -, X72, ⟨Lc72, hQ72, l72, y72, z72⟩, st72⟩ := Jvm.LawKit.callS X69 hx (y := (⟨"com/example/treecreeper/treecreeper/store/RecordCodec", "pastStart", "([B)[B"⟩ : MethodName)) hown (mvT hZ (hw _ (List.mem_of_getElem? (i := 1) rfl))) (mvT hZ (hw _ (List.mem_of_getElem? (i := 2) rfl))) (mvT hZ (hw _ (List.mem_of_getElem? (i := 3) rfl))) (mvT hZ (hw _ (List.mem_of_getElem? (i := 4) rfl))) (by decide) (backOf (W := 0) (rm1_4 l Z a0 hw [] b57 b9 _ h69 n0 ZZ69 g9 B69 A69) hZ (hw _ (List.mem_of_getElem? (i := 4) rfl)) (hw _ (List.mem_of_getElem? (i := 3) rfl)) (by decide) (by decide)) (g := (mkF m 84 #[.val (.int p1), .val (.int p2), .val (.int p3), .val (.int (4 : Int32)), .val (.int ((p3 &&& (255 : Int32)) % (192 : Int32))), .val (.int (p2.toInt8.toInt32)), .val (.int (((p2.toUInt32 >>> ((8 : Int32) &&& 31).toUInt32).toInt32).toInt8.toInt32)), .val (.int (((p2.toUInt32 >>> ((16 : Int32) &&& 31).toUInt32).toInt32).toInt8.toInt32)), .val (.ref b57), .unset] [(.ref b57)])) rfl (by rw [hml]; rfl) (argsL := [(.ref b57)]) (rest := []) (lenOf pd_0_0 rfl) rfl (by show 2 * 0 + _ ≤ _; exact Nat.le_of_eq rfl) (hb hby at_84) (fun _ _ => ⟨rfl, e69, (by decide : 1 + 1 ≤ _), (by decide : 4 + 4 ≤ _)⟩)
    dsimp only [Pt.U, Pt.locs, Pt.cells, Pt.slots] at X72 l72 y72 z72 st72 hQ72
    subst l72 y72 z72
    obtain ⟨rfl, N72q, K72, B72⟩ := hQ72
    have N72 := Fr.app N69 N72q
    have pre73 : ∀ t, Steps p.tables e below (T72.setTop (mkF m 87 #[.val (.int p1), .val (.int p2), .val (.int p3), .val (.int (4 : Int32)), .val (.int ((p3 &&& (255 : Int32)) % (192 : Int32))), .val (.int (p2.toInt8.toInt32)), .val (.int (((p2.toUInt32 >>> ((8 : Int32) &&& 31).toUInt32).toInt32).toInt8.toInt32)), .val (.int (((p2.toUInt32 >>> ((16 : Int32) &&& 31).toUInt32).toInt32).toInt8.toInt32)), .val (.ref b57), .unset] [(.ref b9)])) t → Steps p.tables e below (s₁.setTop (entryFrame m #[(.int p1), (.int p2), (.int p3)] maxLocals)) t := fun t kt => pre71 t (st72 t kt)
    have Bs := B69.keep K72 nin0
    have Zs : n0 ≤ T72.heap.size := Nat.le_trans ZZ69 K72.1
    have pre74 : ∀ t, Steps p.tables e below (T72.setTop (mkF m 115 #[.val (.int p1), .val (.int p2), .val (.int p3), .val (.int (4 : Int32)), .val (.int ((p3 &&& (255 : Int32)) % (192 : Int32))), .val (.int (p2.toInt8.toInt32)), .val (.int (((p2.toUInt32 >>> ((8 : Int32) &&& 31).toUInt32).toInt32).toInt8.toInt32)), .val (.int (((p2.toUInt32 >>> ((16 : Int32) &&& 31).toUInt32).toInt32).toInt8.toInt32)), .val (.ref b57), .val (.ref b9)] [(.int (((p3 &&& (255 : Int32)) % (192 : Int32)).toInt8.toInt32)), (.int (((p2.toUInt32 >>> ((16 : Int32) &&& 31).toUInt32).toInt32).toInt8.toInt32)), (.int (((p2.toUInt32 >>> ((8 : Int32) &&& 31).toUInt32).toInt32).toInt8.toInt32)), (.int (p2.toInt8.toInt32)), (.int (4 : Int32)), (.ref b57)])) t → Steps p.tables e below (s₁.setTop (entryFrame m #[(.int p1), (.int p2), (.int p3)] maxLocals)) t := fun t kt => pre73 t (by
      show Steps p.tables e below (T72.setTop (mkF m 87 #[.val (.int p1), .val (.int p2), .val (.int p3), .val (.int (4 : Int32)), .val (.int ((p3 &&& (255 : Int32)) % (192 : Int32))), .val (.int (p2.toInt8.toInt32)), .val (.int (((p2.toUInt32 >>> ((8 : Int32) &&& 31).toUInt32).toInt32).toInt8.toInt32)), .val (.int (((p2.toUInt32 >>> ((16 : Int32) &&& 31).toUInt32).toInt32).toInt8.toInt32)), .val (.ref b57), .unset] [(.ref b9)])) _
      refine XS.astore X72.here hx rfl (hb hby at_87) rfl rfl (l' := #[.val (.int p1), .val (.int p2), .val (.int p3), .val (.int (4 : Int32)), .val (.int ((p3 &&& (255 : Int32)) % (192 : Int32))), .val (.int (p2.toInt8.toInt32)), .val (.int (((p2.toUInt32 >>> ((8 : Int32) &&& 31).toUInt32).toInt32).toInt8.toInt32)), .val (.int (((p2.toUInt32 >>> ((16 : Int32) &&& 31).toUInt32).toInt32).toInt8.toInt32)), .val (.ref b57), .val (.ref b9)]) rfl ?_
      show Steps p.tables e below (T72.setTop (mkF m 89 #[.val (.int p1), .val (.int p2), .val (.int p3), .val (.int (4 : Int32)), .val (.int ((p3 &&& (255 : Int32)) % (192 : Int32))), .val (.int (p2.toInt8.toInt32)), .val (.int (((p2.toUInt32 >>> ((8 : Int32) &&& 31).toUInt32).toInt32).toInt8.toInt32)), .val (.int (((p2.toUInt32 >>> ((16 : Int32) &&& 31).toUInt32).toInt32).toInt8.toInt32)), .val (.ref b57), .val (.ref b9)] [])) _
      refine XS.aload X72.here hx rfl (hb hby at_89) rfl rfl ?_
      show Steps p.tables e below (T72.setTop (mkF m 91 #[.val (.int p1), .val (.int p2), .val (.int p3), .val (.int (4 : Int32)), .val (.int ((p3 &&& (255 : Int32)) % (192 : Int32))), .val (.int (p2.toInt8.toInt32)), .val (.int (((p2.toUInt32 >>> ((8 : Int32) &&& 31).toUInt32).toInt32).toInt8.toInt32)), .val (.int (((p2.toUInt32 >>> ((16 : Int32) &&& 31).toUInt32).toInt32).toInt8.toInt32)), .val (.ref b57), .val (.ref b9)] [(.ref b9)])) _
      refine XS.ifnullNo X72.here hx rfl (hb hby at_91) rfl ?_
      show Steps p.tables e below (T72.setTop (mkF m 94 #[.val (.int p1), .val (.int p2), .val (.int p3), .val (.int (4 : Int32)), .val (.int ((p3 &&& (255 : Int32)) % (192 : Int32))), .val (.int (p2.toInt8.toInt32)), .val (.int (((p2.toUInt32 >>> ((8 : Int32) &&& 31).toUInt32).toInt32).toInt8.toInt32)), .val (.int (((p2.toUInt32 >>> ((16 : Int32) &&& 31).toUInt32).toInt32).toInt8.toInt32)), .val (.ref b57), .val (.ref b9)] [])) _
      refine XS.aload X72.here hx rfl (hb hby at_94) rfl rfl ?_
      show Steps p.tables e below (T72.setTop (mkF m 96 #[.val (.int p1), .val (.int p2), .val (.int p3), .val (.int (4 : Int32)), .val (.int ((p3 &&& (255 : Int32)) % (192 : Int32))), .val (.int (p2.toInt8.toInt32)), .val (.int (((p2.toUInt32 >>> ((8 : Int32) &&& 31).toUInt32).toInt32).toInt8.toInt32)), .val (.int (((p2.toUInt32 >>> ((16 : Int32) &&& 31).toUInt32).toInt32).toInt8.toInt32)), .val (.ref b57), .val (.ref b9)] [(.ref b9)])) _
      refine XS.aload X72.here hx rfl (hb hby at_96) rfl rfl ?_
      show Steps p.tables e below (T72.setTop (mkF m 98 #[.val (.int p1), .val (.int p2), .val (.int p3), .val (.int (4 : Int32)), .val (.int ((p3 &&& (255 : Int32)) % (192 : Int32))), .val (.int (p2.toInt8.toInt32)), .val (.int (((p2.toUInt32 >>> ((8 : Int32) &&& 31).toUInt32).toInt32).toInt8.toInt32)), .val (.int (((p2.toUInt32 >>> ((16 : Int32) &&& 31).toUInt32).toInt32).toInt8.toInt32)), .val (.ref b57), .val (.ref b9)] [(.ref b57), (.ref b9)])) _
      refine Jvm.RoadKit.acmp (g := (mkF m 98 #[.val (.int p1), .val (.int p2), .val (.int p3), .val (.int (4 : Int32)), .val (.int ((p3 &&& (255 : Int32)) % (192 : Int32))), .val (.int (p2.toInt8.toInt32)), .val (.int (((p2.toUInt32 >>> ((8 : Int32) &&& 31).toUInt32).toInt32).toInt8.toInt32)), .val (.int (((p2.toUInt32 >>> ((16 : Int32) &&& 31).toUInt32).toInt32).toInt8.toInt32)), .val (.ref b57), .val (.ref b9)] [(.ref b57), (.ref b9)])) X72 hx rfl rfl rfl (pc0 := 98) (pc' := 103) (same := false) rfl (hb hby at_98) rfl (decide_eq_false fun q => hne (Value.ref.inj q)) (by decide) (by decide) ?_
      show Steps p.tables e below (T72.setTop (mkF m 103 #[.val (.int p1), .val (.int p2), .val (.int p3), .val (.int (4 : Int32)), .val (.int ((p3 &&& (255 : Int32)) % (192 : Int32))), .val (.int (p2.toInt8.toInt32)), .val (.int (((p2.toUInt32 >>> ((8 : Int32) &&& 31).toUInt32).toInt32).toInt8.toInt32)), .val (.int (((p2.toUInt32 >>> ((16 : Int32) &&& 31).toUInt32).toInt32).toInt8.toInt32)), .val (.ref b57), .val (.ref b9)] [])) _
      refine XS.aload X72.here hx rfl (hb hby at_103) rfl rfl ?_
      show Steps p.tables e below (T72.setTop (mkF m 105 #[.val (.int p1), .val (.int p2), .val (.int p3), .val (.int (4 : Int32)), .val (.int ((p3 &&& (255 : Int32)) % (192 : Int32))), .val (.int (p2.toInt8.toInt32)), .val (.int (((p2.toUInt32 >>> ((8 : Int32) &&& 31).toUInt32).toInt32).toInt8.toInt32)), .val (.int (((p2.toUInt32 >>> ((16 : Int32) &&& 31).toUInt32).toInt32).toInt8.toInt32)), .val (.ref b57), .val (.ref b9)] [(.ref b57)])) _
      refine XS.iloadN X72.here hx rfl (hb hby at_105) rfl ?_
      show Steps p.tables e below (T72.setTop (mkF m 106 #[.val (.int p1), .val (.int p2), .val (.int p3), .val (.int (4 : Int32)), .val (.int ((p3 &&& (255 : Int32)) % (192 : Int32))), .val (.int (p2.toInt8.toInt32)), .val (.int (((p2.toUInt32 >>> ((8 : Int32) &&& 31).toUInt32).toInt32).toInt8.toInt32)), .val (.int (((p2.toUInt32 >>> ((16 : Int32) &&& 31).toUInt32).toInt32).toInt8.toInt32)), .val (.ref b57), .val (.ref b9)] [(.int (4 : Int32)), (.ref b57)])) _
      refine XS.iload X72.here hx rfl (hb hby at_106) rfl ?_
      show Steps p.tables e below (T72.setTop (mkF m 108 #[.val (.int p1), .val (.int p2), .val (.int p3), .val (.int (4 : Int32)), .val (.int ((p3 &&& (255 : Int32)) % (192 : Int32))), .val (.int (p2.toInt8.toInt32)), .val (.int (((p2.toUInt32 >>> ((8 : Int32) &&& 31).toUInt32).toInt32).toInt8.toInt32)), .val (.int (((p2.toUInt32 >>> ((16 : Int32) &&& 31).toUInt32).toInt32).toInt8.toInt32)), .val (.ref b57), .val (.ref b9)] [(.int (p2.toInt8.toInt32)), (.int (4 : Int32)), (.ref b57)])) _
      refine XS.iload X72.here hx rfl (hb hby at_108) rfl ?_
      show Steps p.tables e below (T72.setTop (mkF m 110 #[.val (.int p1), .val (.int p2), .val (.int p3), .val (.int (4 : Int32)), .val (.int ((p3 &&& (255 : Int32)) % (192 : Int32))), .val (.int (p2.toInt8.toInt32)), .val (.int (((p2.toUInt32 >>> ((8 : Int32) &&& 31).toUInt32).toInt32).toInt8.toInt32)), .val (.int (((p2.toUInt32 >>> ((16 : Int32) &&& 31).toUInt32).toInt32).toInt8.toInt32)), .val (.ref b57), .val (.ref b9)] [(.int (((p2.toUInt32 >>> ((8 : Int32) &&& 31).toUInt32).toInt32).toInt8.toInt32)), (.int (p2.toInt8.toInt32)), (.int (4 : Int32)), (.ref b57)])) _
      refine XS.iload X72.here hx rfl (hb hby at_110) rfl ?_
      show Steps p.tables e below (T72.setTop (mkF m 112 #[.val (.int p1), .val (.int p2), .val (.int p3), .val (.int (4 : Int32)), .val (.int ((p3 &&& (255 : Int32)) % (192 : Int32))), .val (.int (p2.toInt8.toInt32)), .val (.int (((p2.toUInt32 >>> ((8 : Int32) &&& 31).toUInt32).toInt32).toInt8.toInt32)), .val (.int (((p2.toUInt32 >>> ((16 : Int32) &&& 31).toUInt32).toInt32).toInt8.toInt32)), .val (.ref b57), .val (.ref b9)] [(.int (((p2.toUInt32 >>> ((16 : Int32) &&& 31).toUInt32).toInt32).toInt8.toInt32)), (.int (((p2.toUInt32 >>> ((8 : Int32) &&& 31).toUInt32).toInt32).toInt8.toInt32)), (.int (p2.toInt8.toInt32)), (.int (4 : Int32)), (.ref b57)])) _
      refine XS.iload X72.here hx rfl (hb hby at_112) rfl ?_
      show Steps p.tables e below (T72.setTop (mkF m 114 #[.val (.int p1), .val (.int p2), .val (.int p3), .val (.int (4 : Int32)), .val (.int ((p3 &&& (255 : Int32)) % (192 : Int32))), .val (.int (p2.toInt8.toInt32)), .val (.int (((p2.toUInt32 >>> ((8 : Int32) &&& 31).toUInt32).toInt32).toInt8.toInt32)), .val (.int (((p2.toUInt32 >>> ((16 : Int32) &&& 31).toUInt32).toInt32).toInt8.toInt32)), .val (.ref b57), .val (.ref b9)] [(.int ((p3 &&& (255 : Int32)) % (192 : Int32))), (.int (((p2.toUInt32 >>> ((16 : Int32) &&& 31).toUInt32).toInt32).toInt8.toInt32)), (.int (((p2.toUInt32 >>> ((8 : Int32) &&& 31).toUInt32).toInt32).toInt8.toInt32)), (.int (p2.toInt8.toInt32)), (.int (4 : Int32)), (.ref b57)])) _
      refine XS.i2b X72.here hx rfl (hb hby at_114) rfl ?_
      exact kt)
    obtain ⟨_, _, ⟨T75, L75, k75, n75⟩, -, X75, ⟨Lc75, hQ75, l75, y75, z75⟩, st75⟩ := Jvm.LawKit.callS X72 hx (y := (⟨"com/example/treecreeper/treecreeper/store/RecordCodecPastStartPinLaw", "same", "([BIBBBB)Z"⟩ : MethodName)) hown (mvT hZ (hw _ (List.mem_of_getElem? (i := 14) rfl))) (mvT hZ (hw _ (List.mem_of_getElem? (i := 15) rfl))) (mvT hZ (hw _ (List.mem_of_getElem? (i := 16) rfl))) (mvT hZ (hw _ (List.mem_of_getElem? (i := 17) rfl))) (by decide) (backOf (W := 0) (rm2_4 l Z a0 hw [] b57 _ (p2.toInt8.toInt32) (((p2.toUInt32 >>> ((8 : Int32) &&& 31).toUInt32).toInt32).toInt8.toInt32) (((p2.toUInt32 >>> ((16 : Int32) &&& 31).toUInt32).toInt32).toInt8.toInt32) (((p3 &&& (255 : Int32)) % (192 : Int32)).toInt8.toInt32) T72.heap n0 Zs Bs (own_ne (by decide) (own_ne (by decide) (own_ne (by decide) (own_at _ _ _)))) (own_ne (by decide) (own_ne (by decide) (own_at _ _ _))) (own_ne (by decide) (own_at _ _ _)) (own_at _ _ _)) hZ (hw _ (List.mem_of_getElem? (i := 17) rfl)) (hw _ (List.mem_of_getElem? (i := 16) rfl)) (by decide) (by decide)) (g := (mkF m 115 #[.val (.int p1), .val (.int p2), .val (.int p3), .val (.int (4 : Int32)), .val (.int ((p3 &&& (255 : Int32)) % (192 : Int32))), .val (.int (p2.toInt8.toInt32)), .val (.int (((p2.toUInt32 >>> ((8 : Int32) &&& 31).toUInt32).toInt32).toInt8.toInt32)), .val (.int (((p2.toUInt32 >>> ((16 : Int32) &&& 31).toUInt32).toInt32).toInt8.toInt32)), .val (.ref b57), .val (.ref b9)] [(.int (((p3 &&& (255 : Int32)) % (192 : Int32)).toInt8.toInt32)), (.int (((p2.toUInt32 >>> ((16 : Int32) &&& 31).toUInt32).toInt32).toInt8.toInt32)), (.int (((p2.toUInt32 >>> ((8 : Int32) &&& 31).toUInt32).toInt32).toInt8.toInt32)), (.int (p2.toInt8.toInt32)), (.int (4 : Int32)), (.ref b57)])) rfl (by rw [hml]; rfl) (argsL := [(.ref b57), (.int (4 : Int32)), (.int (p2.toInt8.toInt32)), (.int (((p2.toUInt32 >>> ((8 : Int32) &&& 31).toUInt32).toInt32).toInt8.toInt32)), (.int (((p2.toUInt32 >>> ((16 : Int32) &&& 31).toUInt32).toInt32).toInt8.toInt32)), (.int (((p3 &&& (255 : Int32)) % (192 : Int32)).toInt8.toInt32))]) (rest := []) (lenOf pd_0_1 rfl) rfl (by show 2 * 0 + _ ≤ _; exact Nat.le_of_eq rfl) (hb hby at_115) (fun _ _ => ⟨rfl, rfl, (by decide : 2 + 0 ≤ _), (by decide : 8 + 0 ≤ _)⟩)
    dsimp only [Pt.U, Pt.locs, Pt.cells, Pt.slots] at X75 l75 y75 z75 st75 hQ75
    subst l75 y75 z75
    obtain ⟨rfl, N75q, e75⟩ := hQ75
    have N75 := Fr.app N72 N75q
    have pre76 : ∀ t, Steps p.tables e below (T75.setTop (mkF m 118 #[.val (.int p1), .val (.int p2), .val (.int p3), .val (.int (4 : Int32)), .val (.int ((p3 &&& (255 : Int32)) % (192 : Int32))), .val (.int (p2.toInt8.toInt32)), .val (.int (((p2.toUInt32 >>> ((8 : Int32) &&& 31).toUInt32).toInt32).toInt8.toInt32)), .val (.int (((p2.toUInt32 >>> ((16 : Int32) &&& 31).toUInt32).toInt32).toInt8.toInt32)), .val (.ref b57), .val (.ref b9)] [(.int (1 : Int32))])) t → Steps p.tables e below (s₁.setTop (entryFrame m #[(.int p1), (.int p2), (.int p3)] maxLocals)) t := fun t kt => pre74 t (st75 t kt)
    have pre77 : ∀ t, Steps p.tables e below (T75.setTop (mkF m 137 #[.val (.int p1), .val (.int p2), .val (.int p3), .val (.int (4 : Int32)), .val (.int ((p3 &&& (255 : Int32)) % (192 : Int32))), .val (.int (p2.toInt8.toInt32)), .val (.int (((p2.toUInt32 >>> ((8 : Int32) &&& 31).toUInt32).toInt32).toInt8.toInt32)), .val (.int (((p2.toUInt32 >>> ((16 : Int32) &&& 31).toUInt32).toInt32).toInt8.toInt32)), .val (.ref b57), .val (.ref b9)] [(.int ((((p3 &&& (255 : Int32)) % (192 : Int32)) + (1 : Int32)).toInt8.toInt32)), (.int (((p2.toUInt32 >>> ((16 : Int32) &&& 31).toUInt32).toInt32).toInt8.toInt32)), (.int (((p2.toUInt32 >>> ((8 : Int32) &&& 31).toUInt32).toInt32).toInt8.toInt32)), (.int (p2.toInt8.toInt32)), (.int (4 : Int32)), (.ref b9)])) t → Steps p.tables e below (s₁.setTop (entryFrame m #[(.int p1), (.int p2), (.int p3)] maxLocals)) t := fun t kt => pre76 t (by
      show Steps p.tables e below (T75.setTop (mkF m 118 #[.val (.int p1), .val (.int p2), .val (.int p3), .val (.int (4 : Int32)), .val (.int ((p3 &&& (255 : Int32)) % (192 : Int32))), .val (.int (p2.toInt8.toInt32)), .val (.int (((p2.toUInt32 >>> ((8 : Int32) &&& 31).toUInt32).toInt32).toInt8.toInt32)), .val (.int (((p2.toUInt32 >>> ((16 : Int32) &&& 31).toUInt32).toInt32).toInt8.toInt32)), .val (.ref b57), .val (.ref b9)] [(.int (1 : Int32))])) _
      refine XS.ifYes X75.here hx rfl (pc0 := 118) (pc' := 123) rfl (hb hby at_118) rfl ((if0 _ _).trans (feq (by decide)).2) (by decide) (by decide) ?_
      show Steps p.tables e below (T75.setTop (mkF m 123 #[.val (.int p1), .val (.int p2), .val (.int p3), .val (.int (4 : Int32)), .val (.int ((p3 &&& (255 : Int32)) % (192 : Int32))), .val (.int (p2.toInt8.toInt32)), .val (.int (((p2.toUInt32 >>> ((8 : Int32) &&& 31).toUInt32).toInt32).toInt8.toInt32)), .val (.int (((p2.toUInt32 >>> ((16 : Int32) &&& 31).toUInt32).toInt32).toInt8.toInt32)), .val (.ref b57), .val (.ref b9)] [])) _
      refine XS.aload X75.here hx rfl (hb hby at_123) rfl rfl ?_
      show Steps p.tables e below (T75.setTop (mkF m 125 #[.val (.int p1), .val (.int p2), .val (.int p3), .val (.int (4 : Int32)), .val (.int ((p3 &&& (255 : Int32)) % (192 : Int32))), .val (.int (p2.toInt8.toInt32)), .val (.int (((p2.toUInt32 >>> ((8 : Int32) &&& 31).toUInt32).toInt32).toInt8.toInt32)), .val (.int (((p2.toUInt32 >>> ((16 : Int32) &&& 31).toUInt32).toInt32).toInt8.toInt32)), .val (.ref b57), .val (.ref b9)] [(.ref b9)])) _
      refine XS.iloadN X75.here hx rfl (hb hby at_125) rfl ?_
      show Steps p.tables e below (T75.setTop (mkF m 126 #[.val (.int p1), .val (.int p2), .val (.int p3), .val (.int (4 : Int32)), .val (.int ((p3 &&& (255 : Int32)) % (192 : Int32))), .val (.int (p2.toInt8.toInt32)), .val (.int (((p2.toUInt32 >>> ((8 : Int32) &&& 31).toUInt32).toInt32).toInt8.toInt32)), .val (.int (((p2.toUInt32 >>> ((16 : Int32) &&& 31).toUInt32).toInt32).toInt8.toInt32)), .val (.ref b57), .val (.ref b9)] [(.int (4 : Int32)), (.ref b9)])) _
      refine XS.iload X75.here hx rfl (hb hby at_126) rfl ?_
      show Steps p.tables e below (T75.setTop (mkF m 128 #[.val (.int p1), .val (.int p2), .val (.int p3), .val (.int (4 : Int32)), .val (.int ((p3 &&& (255 : Int32)) % (192 : Int32))), .val (.int (p2.toInt8.toInt32)), .val (.int (((p2.toUInt32 >>> ((8 : Int32) &&& 31).toUInt32).toInt32).toInt8.toInt32)), .val (.int (((p2.toUInt32 >>> ((16 : Int32) &&& 31).toUInt32).toInt32).toInt8.toInt32)), .val (.ref b57), .val (.ref b9)] [(.int (p2.toInt8.toInt32)), (.int (4 : Int32)), (.ref b9)])) _
      refine XS.iload X75.here hx rfl (hb hby at_128) rfl ?_
      show Steps p.tables e below (T75.setTop (mkF m 130 #[.val (.int p1), .val (.int p2), .val (.int p3), .val (.int (4 : Int32)), .val (.int ((p3 &&& (255 : Int32)) % (192 : Int32))), .val (.int (p2.toInt8.toInt32)), .val (.int (((p2.toUInt32 >>> ((8 : Int32) &&& 31).toUInt32).toInt32).toInt8.toInt32)), .val (.int (((p2.toUInt32 >>> ((16 : Int32) &&& 31).toUInt32).toInt32).toInt8.toInt32)), .val (.ref b57), .val (.ref b9)] [(.int (((p2.toUInt32 >>> ((8 : Int32) &&& 31).toUInt32).toInt32).toInt8.toInt32)), (.int (p2.toInt8.toInt32)), (.int (4 : Int32)), (.ref b9)])) _
      refine XS.iload X75.here hx rfl (hb hby at_130) rfl ?_
      show Steps p.tables e below (T75.setTop (mkF m 132 #[.val (.int p1), .val (.int p2), .val (.int p3), .val (.int (4 : Int32)), .val (.int ((p3 &&& (255 : Int32)) % (192 : Int32))), .val (.int (p2.toInt8.toInt32)), .val (.int (((p2.toUInt32 >>> ((8 : Int32) &&& 31).toUInt32).toInt32).toInt8.toInt32)), .val (.int (((p2.toUInt32 >>> ((16 : Int32) &&& 31).toUInt32).toInt32).toInt8.toInt32)), .val (.ref b57), .val (.ref b9)] [(.int (((p2.toUInt32 >>> ((16 : Int32) &&& 31).toUInt32).toInt32).toInt8.toInt32)), (.int (((p2.toUInt32 >>> ((8 : Int32) &&& 31).toUInt32).toInt32).toInt8.toInt32)), (.int (p2.toInt8.toInt32)), (.int (4 : Int32)), (.ref b9)])) _
      refine XS.iload X75.here hx rfl (hb hby at_132) rfl ?_
      show Steps p.tables e below (T75.setTop (mkF m 134 #[.val (.int p1), .val (.int p2), .val (.int p3), .val (.int (4 : Int32)), .val (.int ((p3 &&& (255 : Int32)) % (192 : Int32))), .val (.int (p2.toInt8.toInt32)), .val (.int (((p2.toUInt32 >>> ((8 : Int32) &&& 31).toUInt32).toInt32).toInt8.toInt32)), .val (.int (((p2.toUInt32 >>> ((16 : Int32) &&& 31).toUInt32).toInt32).toInt8.toInt32)), .val (.ref b57), .val (.ref b9)] [(.int ((p3 &&& (255 : Int32)) % (192 : Int32))), (.int (((p2.toUInt32 >>> ((16 : Int32) &&& 31).toUInt32).toInt32).toInt8.toInt32)), (.int (((p2.toUInt32 >>> ((8 : Int32) &&& 31).toUInt32).toInt32).toInt8.toInt32)), (.int (p2.toInt8.toInt32)), (.int (4 : Int32)), (.ref b9)])) _
      refine XS.iconst X75.here hx rfl (hb hby at_134) ?_
      show Steps p.tables e below (T75.setTop (mkF m 135 #[.val (.int p1), .val (.int p2), .val (.int p3), .val (.int (4 : Int32)), .val (.int ((p3 &&& (255 : Int32)) % (192 : Int32))), .val (.int (p2.toInt8.toInt32)), .val (.int (((p2.toUInt32 >>> ((8 : Int32) &&& 31).toUInt32).toInt32).toInt8.toInt32)), .val (.int (((p2.toUInt32 >>> ((16 : Int32) &&& 31).toUInt32).toInt32).toInt8.toInt32)), .val (.ref b57), .val (.ref b9)] [(.int (1 : Int32)), (.int ((p3 &&& (255 : Int32)) % (192 : Int32))), (.int (((p2.toUInt32 >>> ((16 : Int32) &&& 31).toUInt32).toInt32).toInt8.toInt32)), (.int (((p2.toUInt32 >>> ((8 : Int32) &&& 31).toUInt32).toInt32).toInt8.toInt32)), (.int (p2.toInt8.toInt32)), (.int (4 : Int32)), (.ref b9)])) _
      refine XS.iadd X75.here hx rfl (hb hby at_135) rfl ?_
      show Steps p.tables e below (T75.setTop (mkF m 136 #[.val (.int p1), .val (.int p2), .val (.int p3), .val (.int (4 : Int32)), .val (.int ((p3 &&& (255 : Int32)) % (192 : Int32))), .val (.int (p2.toInt8.toInt32)), .val (.int (((p2.toUInt32 >>> ((8 : Int32) &&& 31).toUInt32).toInt32).toInt8.toInt32)), .val (.int (((p2.toUInt32 >>> ((16 : Int32) &&& 31).toUInt32).toInt32).toInt8.toInt32)), .val (.ref b57), .val (.ref b9)] [(.int (((p3 &&& (255 : Int32)) % (192 : Int32)) + (1 : Int32))), (.int (((p2.toUInt32 >>> ((16 : Int32) &&& 31).toUInt32).toInt32).toInt8.toInt32)), (.int (((p2.toUInt32 >>> ((8 : Int32) &&& 31).toUInt32).toInt32).toInt8.toInt32)), (.int (p2.toInt8.toInt32)), (.int (4 : Int32)), (.ref b9)])) _
      refine XS.i2b X75.here hx rfl (hb hby at_136) rfl ?_
      exact kt)
    obtain ⟨_, _, ⟨T78, L78, k78, n78⟩, -, X78, ⟨Lc78, hQ78, l78, y78, z78⟩, st78⟩ := Jvm.LawKit.callS X75 hx (y := (⟨"com/example/treecreeper/treecreeper/store/RecordCodecPastStartPinLaw", "same", "([BIBBBB)Z"⟩ : MethodName)) hown (mvT hZ (hw _ (List.mem_of_getElem? (i := 14) rfl))) (mvT hZ (hw _ (List.mem_of_getElem? (i := 15) rfl))) (mvT hZ (hw _ (List.mem_of_getElem? (i := 16) rfl))) (mvT hZ (hw _ (List.mem_of_getElem? (i := 17) rfl))) (by decide) (backOf (W := 0) (rm2_4 l Z a0 hw [] b9 _ (p2.toInt8.toInt32) (((p2.toUInt32 >>> ((8 : Int32) &&& 31).toUInt32).toInt32).toInt8.toInt32) (((p2.toUInt32 >>> ((16 : Int32) &&& 31).toUInt32).toInt32).toInt8.toInt32) ((((p3 &&& (255 : Int32)) % (192 : Int32)) + (1 : Int32)).toInt8.toInt32) T72.heap n0 Zs B72 (own_ne (by decide) (own_ne (by decide) (own_ne (by decide) (own_ne (by decide) (own_at _ _ _))))) (own_ne (by decide) (own_ne (by decide) (own_ne (by decide) (own_at _ _ _)))) (own_ne (by decide) (own_ne (by decide) (own_at _ _ _))) ((own_at _ _ _).trans (own_inc (own_at _ _ _)))) hZ (hw _ (List.mem_of_getElem? (i := 17) rfl)) (hw _ (List.mem_of_getElem? (i := 16) rfl)) (by decide) (by decide)) (g := (mkF m 137 #[.val (.int p1), .val (.int p2), .val (.int p3), .val (.int (4 : Int32)), .val (.int ((p3 &&& (255 : Int32)) % (192 : Int32))), .val (.int (p2.toInt8.toInt32)), .val (.int (((p2.toUInt32 >>> ((8 : Int32) &&& 31).toUInt32).toInt32).toInt8.toInt32)), .val (.int (((p2.toUInt32 >>> ((16 : Int32) &&& 31).toUInt32).toInt32).toInt8.toInt32)), .val (.ref b57), .val (.ref b9)] [(.int ((((p3 &&& (255 : Int32)) % (192 : Int32)) + (1 : Int32)).toInt8.toInt32)), (.int (((p2.toUInt32 >>> ((16 : Int32) &&& 31).toUInt32).toInt32).toInt8.toInt32)), (.int (((p2.toUInt32 >>> ((8 : Int32) &&& 31).toUInt32).toInt32).toInt8.toInt32)), (.int (p2.toInt8.toInt32)), (.int (4 : Int32)), (.ref b9)])) rfl (by rw [hml]; rfl) (argsL := [(.ref b9), (.int (4 : Int32)), (.int (p2.toInt8.toInt32)), (.int (((p2.toUInt32 >>> ((8 : Int32) &&& 31).toUInt32).toInt32).toInt8.toInt32)), (.int (((p2.toUInt32 >>> ((16 : Int32) &&& 31).toUInt32).toInt32).toInt8.toInt32)), (.int ((((p3 &&& (255 : Int32)) % (192 : Int32)) + (1 : Int32)).toInt8.toInt32))]) (rest := []) (lenOf pd_0_1 rfl) rfl (by show 2 * 0 + _ ≤ _; exact Nat.le_of_eq rfl) (hb hby at_137) (fun _ _ => ⟨rfl, e75, (by decide : 2 + 0 ≤ _), (by decide : 8 + 0 ≤ _)⟩)
    dsimp only [Pt.U, Pt.locs, Pt.cells, Pt.slots] at X78 l78 y78 z78 st78 hQ78
    subst l78 y78 z78
    obtain ⟨rfl, N78q, e78⟩ := hQ78
    have N78 := Fr.app N75 N78q
    have pre79 : ∀ t, Steps p.tables e below (T78.setTop (mkF m 140 #[.val (.int p1), .val (.int p2), .val (.int p3), .val (.int (4 : Int32)), .val (.int ((p3 &&& (255 : Int32)) % (192 : Int32))), .val (.int (p2.toInt8.toInt32)), .val (.int (((p2.toUInt32 >>> ((8 : Int32) &&& 31).toUInt32).toInt32).toInt8.toInt32)), .val (.int (((p2.toUInt32 >>> ((16 : Int32) &&& 31).toUInt32).toInt32).toInt8.toInt32)), .val (.ref b57), .val (.ref b9)] [(.int (1 : Int32))])) t → Steps p.tables e below (s₁.setTop (entryFrame m #[(.int p1), (.int p2), (.int p3)] maxLocals)) t := fun t kt => pre77 t (st78 t kt)
    obtain ⟨fs, hr, hrun, hended, hW, hsame⟩ := X78.leave (v := some (.int (1 : Int32))) (fun h => by rw [Bd.returns] at h; cases h)
    refine ⟨_, _, pre79 _ ?_, hrun, hended, _, _, rfl, ?_, ⟨_, rfl⟩, hW, hsame.mono (by decide) (by decide)⟩
    · show Steps p.tables e below (T78.setTop (mkF m 140 #[.val (.int p1), .val (.int p2), .val (.int p3), .val (.int (4 : Int32)), .val (.int ((p3 &&& (255 : Int32)) % (192 : Int32))), .val (.int (p2.toInt8.toInt32)), .val (.int (((p2.toUInt32 >>> ((8 : Int32) &&& 31).toUInt32).toInt32).toInt8.toInt32)), .val (.int (((p2.toUInt32 >>> ((16 : Int32) &&& 31).toUInt32).toInt32).toInt8.toInt32)), .val (.ref b57), .val (.ref b9)] [(.int (1 : Int32))])) _
      exact retN X78 hx (t := .boolean) Bd.returns (by simp) (hb hby at_140) hr
    · show Q0 Z p1 p2 p3 h0 n0 _ T78.heap _
      rw [e78]
      exact ⟨rfl, N78⟩
set_option maxRecDepth 65536 in
set_option maxHeartbeats 40000000 in
theorem comes_1 {Post : Tables → Env → Array Value → State → Outcome → State → Prop} (hpost : ∀ tb e args s v u, (limb_1_1.after args s (.returned v) u = true ∧ limb_1_2.after args s (.returned v) u = true ∧ True) → FrameEnd s (.returned v) u (Jvm.fieldLocs frame_1_writes args s ++ Jvm.arrayLocs frame_1_arrays args s ++ Jvm.staticLocs frame_1_statics s) 16 128 → Post tb e args s (.returned v) u) :
    ArmFor flags0 classFile x code maxLocals ret World_1 tables_1 room_1 Calls_1 rest_1 Pre_1 Post := by
  intro l hfl _ _ p e ha hc hk s m args below hf hA hF happ hP
  obtain ⟨hcalls, hrest, hpre⟩ := hP
  obtain ⟨-, -, -, hnamed, -, -, -, hat⟩ := (Spec.applies_iff hf).mp happ
  obtain ⟨hg, hn⟩ := and_e (Cond.before_iff.mp (show (Jvm.Cond.and given_1 narrow_1).before args s = true from hpre))
  obtain ⟨hcnt, g0⟩ := and_e hg
  obtain ⟨ha0, g1⟩ := and_e g0
  obtain ⟨ha1, g2⟩ := and_e g1
  obtain ⟨w0, w1, w2, rfl⟩ : ∃ w0 w1 w2 : Value, args = #[w0, w1, w2] := by
    have hs : args.size = 3 := by simpa [Cond.value, given_1] using hcnt
    obtain ⟨L⟩ := args
    match L, hs with
    | [w0, w1, w2], _ => exact ⟨w0, w1, w2, rfl⟩
  have hw := fun d (hd : d ∈ tables_1) => atoms_spec (ws := Jvm.Cond.code x code maxLocals ret :: tables_1) hat d (List.mem_cons_of_mem _ hd)
  obtain ⟨i0, ei0⟩ := is_v ha0
  obtain rfl : w0 = (.int i0) := Option.some.inj ei0
  obtain ⟨i1, ei1⟩ := is_v ha1
  obtain rfl : w1 = (.int i1) := Option.some.inj ei1
  obtain ⟨i2, ei2⟩ := is_v g2
  obtain rfl : w2 = (.int i2) := Option.some.inj ei2
  obtain ⟨n, o, h1, h2, h3, _, L, rfl, ⟨rfl, N⟩, hq⟩ := rm0 l s _ hw tables_1 i0 i1 i2 s.heap s.heap.size (Nat.le_refl _)  p e ha hc hk s m _ below hf ((Spec.applies_iff_loose hf).mp happ).1 ⟨rfl, State.Warmed39.refl s, rfl⟩ trivial
  refine ⟨n, _, h1, h2, h3, hpost _ _ _ _ _ _ ⟨Cond.after_iff.mpr rfl, Cond.after_iff.mpr (eq_i res_at (Term.int_eval (1)) rfl), trivial⟩ ⟨hq.1, hq.2.1, (hq.2.2.sift fun y hy => Or.inr (N y hy)).mono (by decide) (by decide)⟩⟩
theorem main_1_1 : Claimed_1_1 := comes_1 fun _ _ _ _ _ _ h hF => ⟨h.1, hF⟩
theorem main_1_2 : Claimed_1_2 := comes_1 fun _ _ _ _ _ _ h hF => ⟨h.2.1, hF⟩
end Jvm.Pilot.@@N@@
namespace Jvm.Pilot.@@N@@
open Jvm Jvm.ClassFile Sem Op Lib Jvm.Free Jvm.Stand Jvm.Pilot.@@N@@.Jvm.D
/-! MADE BY PROGRAM (witnessworld.py) out of the Statement's table words and the real class files: 9 classes; the members and pool entries that the words name. The judged class is class 1, her method 1. -/
namespace start1
open Jvm.ClassFile
def u (s : String) : CpInfo := .utf8 (stringToUtf16 s)
/-- a pool by its gaps: so many unusable entries, then the entry; so many at the end -/
def gap : Nat → List CpInfo → List CpInfo
  | 0, r => r
  | n + 1, r => .unusable :: gap n r
def poolList (es : List (Nat × CpInfo)) (last : Nat) : List CpInfo := es.foldr (fun e r => gap e.1 (e.2 :: r)) (gap last [])
def pool (es : List (Nat × CpInfo)) (last : Nat) : Array CpInfo := ⟨poolList es last⟩
def fileOf (pool : Array CpInfo) (this : Nat) (attrs : Array Attribute := #[]) (ms : Array MethodInfo := #[]) (fl : Nat := 33) (sup : Nat := 0) (ifs : Array Nat := #[]) (fds : Array FieldInfo := #[]) : ClassFile where
  minorVersion := 0
  majorVersion := 65
  constantPool := pool
  accessFlags := fl
  thisClass := this
  superClass := sup
  interfaces := ifs
  fields := fds
  methods := ms
  attributes := attrs
def plain (name : String) (sup : Option ClassId) : Class where
  name := name
  kind := .ordinary
  loader := none
  accessFlags := 33
  super := sup
  interfaces := #[]
  cf := none
  fields := #[]
  methods := #[]
  instanceTypes := #[]
  staticTypes := #[]
  resolved := #[]
  callSites := []
  init := .initialized
  statics := none
  mirror := none

def pool0 : Array CpInfo := pool [(5, u "<init>"), (0, u "()V"), (1, .class_ 10), (1, u "java/lang/Object"), (85, u "clone"), (0, u "()Ljava/lang/Object;")] 26

def k0m0 : Method := { name := "<init>", desc := "()V", sig := { parameters := [], returnType := none }, accessFlags := 1, code := none }
def k0m1 : Method := { name := "clone", desc := "()Ljava/lang/Object;", sig := { parameters := [], returnType := some (.object "java/lang/Object") }, accessFlags := 260, code := none }
/-- java/lang/Object -/
def k0 : Class := { plain "java/lang/Object" none with
  accessFlags := 33
  interfaces := #[]
  cf := some (fileOf pool0 8 #[] #[{ accessFlags := 1, nameIndex := 5, descriptorIndex := 6, attributes := #[] }, { accessFlags := 260, nameIndex := 96, descriptorIndex := 97, attributes := #[] }] 33 0 #[] #[])
  fields := #[]
  methods := #[k0m0, k0m1]
  instanceTypes := #[]
  staticTypes := #[]
  resolved := Array.replicate 124 none
  statics := none }

def pool1 : Array CpInfo := pool [(2, .class_ 4), (1, u "java/lang/Object"), (0, u "<init>"), (0, u "()V"), (0, .methodref 8 9), (0, .class_ 10), (0, .nameAndType 11 12), (0, u "com/example/treecreeper/treecreeper/store/RecordCodec"), (0, u "pastStart"), (0, u "([B)[B"), (0, .methodref 14 15), (0, .class_ 16), (0, .nameAndType 17 18), (0, u "com/example/treecreeper/treecreeper/store/RecordCodecPastStartPinLaw"), (0, u "same"), (0, u "([BIBBBB)Z"), (2, u "law"), (0, u "(III)Z")] 5

def k1m0 : Method := { name := "<init>", desc := "()V", sig := { parameters := [], returnType := none }, accessFlags := 2, code := none }
def k1c1 : Code := { maxStack := 7, maxLocals := 10, code := code, exceptionTable := #[], attributes := #[] }
def k1m1 : Method := { name := "law", desc := "(III)Z", sig := { parameters := [.int, .int, .int], returnType := some .boolean }, accessFlags := 9, code := some k1c1 }
def k1c2 : Code := { maxStack := 3, maxLocals := 6, code := method_3_code, exceptionTable := #[], attributes := #[] }
def k1m2 : Method := { name := "same", desc := "([BIBBBB)Z", sig := { parameters := [(.array .byte), .int, .byte, .byte, .byte, .byte], returnType := some .boolean }, accessFlags := 10, code := some k1c2 }
/-- com/example/treecreeper/treecreeper/store/RecordCodecPastStartPinLaw -/
def k1 : Class := { plain "com/example/treecreeper/treecreeper/store/RecordCodecPastStartPinLaw" (some 0) with
  accessFlags := 49
  interfaces := #[]
  cf := some (fileOf pool1 14 #[] #[{ accessFlags := 2, nameIndex := 5, descriptorIndex := 6, attributes := #[] }, { accessFlags := 9, nameIndex := 21, descriptorIndex := 22, attributes := #[] }, { accessFlags := 10, nameIndex := 17, descriptorIndex := 18, attributes := #[] }] 49 2 #[] #[])
  fields := #[]
  methods := #[k1m0, k1m1, k1m2]
  instanceTypes := #[]
  staticTypes := #[]
  resolved := Array.replicate 28 none
  statics := none }

def pool2 : Array CpInfo := pool [(1, .class_ 2), (0, u "com/example/treecreeper/treecreeper/store/RecordCodec"), (1, .class_ 6), (1, u "java/lang/Object"), (0, u "<init>"), (0, u "()V"), (31, .methodref 41 42), (0, .class_ 43), (0, .nameAndType 44 45), (0, u "[B"), (0, u "clone"), (0, u "()Ljava/lang/Object;"), (45, .class_ 93), (1, u "com/example/treecreeper/treecreeper/store/RecordCodec$ValueWriter"), (249, .class_ 345), (1, u "com/example/treecreeper/treecreeper/store/RecordCodec$FieldWriter"), (20, u "COUNTED"), (0, u "[Lcom/example/treecreeper/treecreeper/store/Change;"), (133, u "RECORD_FORMAT"), (0, u "B"), (2, u "RECORD_FORMAT_WITHOUT_PROVENANCE"), (1, u "HARVEST_FORMAT"), (1, u "UNFINISHED_FORMAT"), (0, u "ATTEMPT_FORMAT"), (0, u "FEED_FORMAT"), (0, u "SEPARATOR"), (1, u "HARVEST_VALUE_LENGTH"), (0, u "I"), (1, u "DELETED_HEAD_BYTES"), (0, u "CHANGED_OFFSET"), (7, u "([B)[B"), (0, u "pastStart")] 120

def k2m0 : Method := { name := "<init>", desc := "()V", sig := { parameters := [], returnType := none }, accessFlags := 2, code := none }
def k2c1 : Code := { maxStack := 4, maxLocals := 2, code := prog_58_method_8_code, exceptionTable := #[], attributes := #[] }
def k2m1 : Method := { name := "pastStart", desc := "([B)[B", sig := { parameters := [(.array .byte)], returnType := some (.array .byte) }, accessFlags := 8, code := some k2c1 }
/-- com/example/treecreeper/treecreeper/store/RecordCodec -/
def k2 : Class := { plain "com/example/treecreeper/treecreeper/store/RecordCodec" (some 0) with
  accessFlags := 48
  interfaces := #[]
  cf := some (fileOf pool2 1 #[.nestMembers #[91, 343]] #[{ accessFlags := 2, nameIndex := 7, descriptorIndex := 8, attributes := #[] }, { accessFlags := 8, nameIndex := 527, descriptorIndex := 526, attributes := #[] }] 48 4 #[] #[{ accessFlags := 26, nameIndex := 501, descriptorIndex := 502, attributes := #[] }, { accessFlags := 26, nameIndex := 505, descriptorIndex := 502, attributes := #[] }, { accessFlags := 26, nameIndex := 507, descriptorIndex := 502, attributes := #[] }, { accessFlags := 26, nameIndex := 509, descriptorIndex := 502, attributes := #[] }, { accessFlags := 26, nameIndex := 510, descriptorIndex := 502, attributes := #[] }, { accessFlags := 26, nameIndex := 511, descriptorIndex := 502, attributes := #[] }, { accessFlags := 26, nameIndex := 512, descriptorIndex := 502, attributes := #[] }, { accessFlags := 26, nameIndex := 514, descriptorIndex := 515, attributes := #[] }, { accessFlags := 24, nameIndex := 517, descriptorIndex := 515, attributes := #[] }, { accessFlags := 26, nameIndex := 518, descriptorIndex := 515, attributes := #[] }, { accessFlags := 26, nameIndex := 366, descriptorIndex := 367, attributes := #[] }])
  fields := #[{ name := "RECORD_FORMAT", type := .byte, accessFlags := 26, slot := 0, constantValue := 0 }, { name := "RECORD_FORMAT_WITHOUT_PROVENANCE", type := .byte, accessFlags := 26, slot := 1, constantValue := 0 }, { name := "HARVEST_FORMAT", type := .byte, accessFlags := 26, slot := 2, constantValue := 0 }, { name := "UNFINISHED_FORMAT", type := .byte, accessFlags := 26, slot := 3, constantValue := 0 }, { name := "ATTEMPT_FORMAT", type := .byte, accessFlags := 26, slot := 4, constantValue := 0 }, { name := "FEED_FORMAT", type := .byte, accessFlags := 26, slot := 5, constantValue := 0 }, { name := "SEPARATOR", type := .byte, accessFlags := 26, slot := 6, constantValue := 0 }, { name := "HARVEST_VALUE_LENGTH", type := .int, accessFlags := 26, slot := 7, constantValue := 0 }, { name := "DELETED_HEAD_BYTES", type := .int, accessFlags := 24, slot := 8, constantValue := 0 }, { name := "CHANGED_OFFSET", type := .int, accessFlags := 26, slot := 9, constantValue := 0 }, { name := "COUNTED", type := (.array (.object "com/example/treecreeper/treecreeper/store/Change")), accessFlags := 26, slot := 10, constantValue := 0 }]
  methods := #[k2m0, k2m1]
  instanceTypes := #[]
  staticTypes := #[.byte, .byte, .byte, .byte, .byte, .byte, .byte, .int, .int, .int, (.array (.object "com/example/treecreeper/treecreeper/store/Change"))]
  resolved := Array.replicate 648 none
  statics := none }

def pool3 : Array CpInfo := pool [(1, .class_ 2), (0, u "java/lang/Cloneable"), (0, .class_ 4), (0, u "java/lang/Object")] 2

/-- java/lang/Cloneable -/
def k3 : Class := { plain "java/lang/Cloneable" (some 0) with
  accessFlags := 1537
  interfaces := #[]
  cf := some (fileOf pool3 1 #[] #[] 1537 3 #[] #[])
  fields := #[]
  methods := #[]
  instanceTypes := #[]
  staticTypes := #[]
  resolved := Array.replicate 7 none
  statics := none }

def pool4 : Array CpInfo := pool [(1, u "java/io/Serializable"), (0, .class_ 1), (0, u "java/lang/Object"), (0, .class_ 3)] 3

/-- java/io/Serializable -/
def k4 : Class := { plain "java/io/Serializable" (some 0) with
  accessFlags := 1537
  interfaces := #[]
  cf := some (fileOf pool4 2 #[] #[] 1537 4 #[] #[])
  fields := #[]
  methods := #[]
  instanceTypes := #[]
  staticTypes := #[]
  resolved := Array.replicate 8 none
  statics := none }

/-- the primitive byte -/
def k5 : Class := { plain "byte" none with kind := .primitive 'B', accessFlags := 0x411 }
/-- [B -/
def k6 : Class := { plain "[B" (some 0) with kind := .array 5 .byte, interfaces := #[3, 4], accessFlags := 1041 }

/-- the primitive int -/
def k7 : Class := { plain "int" none with kind := .primitive 'I', accessFlags := 0x411 }
/-- [I -/
def k8 : Class := { plain "[I" (some 0) with kind := .array 7 .int, interfaces := #[3, 4], accessFlags := 1041 }

def heap : Heap := #[]
def classes : Array Class := #[k0, k1, k2, k3, k4, k5, k6, k7, k8]
def interned : List (Array UInt16 × Addr) := []
def slotsUsed : Nat := 0
def theMethod : MethodId := ⟨1, 1⟩
def args0 : Array Value := #[.int 5, .int 300, .int 7]
def aboutOver (below : List Frame) : State where
  vm := { classes := classes, interned := interned.toArray }
  heap := heap
  slotsUsed := slotsUsed
  threads := #[{ frames := .invoking theMethod args0 :: below }]
def below0 : List Frame := [.native { method := ⟨0, 0⟩, args := #[] }]
def about1 : State := aboutOver below0
def p0 : Program := .bare "" "" ""
def e0 : Env := launch0.env 0 0 0
theorem w_frames : about1.frames = Frame.invoking theMethod args0 :: below0 := rfl
set_option maxRecDepth 65536 in
theorem w_args : argsFit about1.vm theMethod args0 = true := by decide +kernel
set_option maxRecDepth 65536 in
theorem w_heap : heapFits about1 = true := by decide +kernel
set_option maxRecDepth 65536 in
theorem w_runnable : about1.curStatus? = some .runnable := by decide +kernel
set_option maxRecDepth 65536 in
theorem w_alone : about1.alone = true := by decide +kernel
set_option maxRecDepth 65536 in
theorem w_named : about1.methodNamed? x = some theMethod := by decide +kernel
set_option maxRecDepth 65536 in
theorem w_hears : about1.hears theMethod below0 = true := by decide +kernel
set_option maxRecDepth 65536 in
theorem w_ripe : about1.ripe theMethod args0 below0 = true := by decide +kernel
theorem w_running : about1.status = .running := rfl
set_option maxRecDepth 65536 in
theorem w_room : about1.hasRoom e0.platform room_1 = true :=
  launch0.hasRoom_least _ room_1 (by decide +kernel) (by decide +kernel) (by decide +kernel) (by decide +kernel) (by decide +kernel) (by decide +kernel)
theorem allAtoms_all (ts : List Jvm.Cond) (a : Array Jvm.Value) (st : Jvm.State) : (allAtoms ts).before a st = ts.all (fun c => c.before a st) := by
  induction ts with
  | nil => rfl
  | cons c t ih =>
    show (Jvm.Cond.and c (allAtoms t)).before a st = _
    rw [Jvm.Cond.before_and, ih, List.all_cons]
def words1 : List Jvm.Cond := Jvm.Cond.code x code maxLocals ret :: tables_1
/-- a 'code' word, met by the world's own term for the bytes: nothing is compared byte by byte -/
theorem code_word {y : MethodName} {bytes : ByteArray} {mx : Nat} {rt : Option FieldType} {a : Array Value} {s : State} {m : MethodId} {meth : Method} {c : Code} (h1 : s.methodNamed? y = some m) (h2 : s.vm.method? m = some meth) (h3 : meth.code = some c) (h4 : c.code = bytes)
    (h5 : (c.maxLocals == mx && c.exceptionTable.isEmpty && decide (c.maxStack ≤ mostOperands) && decide (meth.sig.returnType = rt) && !meth.locks && decide (parseMethodDescriptor y.desc = some meth.sig)) = true) : (Jvm.Cond.code y bytes mx rt).before a s = true := by
  simp only [Bool.and_eq_true, beq_iff_eq, Bool.not_eq_true', decide_eq_true_eq] at h5
  obtain ⟨⟨⟨⟨⟨g1, g2⟩, g3⟩, g4⟩, g5⟩, g6⟩ := h5
  simp [Cond.before, Cond.holds, Cond.value, h1, h2, h3, h4, g1, g2, g3, g4, g5, g6]
def isCode : Jvm.Cond → Bool
  | .code _ _ _ _ => true
  | _ => false
theorem all_split {L : List Jvm.Cond} {P : Jvm.Cond → Bool} (h1 : L.all (fun c => isCode c || P c) = true) (h2 : ∀ c ∈ L.filter isCode, P c = true) : L.all P = true := by
  refine List.all_eq_true.mpr fun c hc => ?_
  have h := List.all_eq_true.mp h1 c hc
  rcases Bool.eq_false_or_eq_true (isCode c) with hi | hi
  · exact h2 c (List.mem_filter.mpr ⟨hc, hi⟩)
  · simpa [hi] using h
set_option maxRecDepth 65536 in
theorem w_c0 : (Jvm.Cond.code x code maxLocals ret).before args0 about1 = true := code_word (m := ⟨1, 1⟩) (meth := k1m1) (c := k1c1) (by decide +kernel) rfl rfl rfl (by decide +kernel)
set_option maxRecDepth 65536 in
theorem w_c1 : (Jvm.Cond.code ({ cls := "com/example/treecreeper/treecreeper/store/RecordCodec", name := "pastStart", desc := "([B)[B" } : Jvm.MethodName) prog_58_method_8_code (2 : Nat) (Option.some (Jvm.ClassFile.FieldType.array Jvm.ClassFile.FieldType.byte))).before args0 about1 = true := code_word (m := ⟨2, 1⟩) (meth := k2m1) (c := k2c1) (by decide +kernel) rfl rfl rfl (by decide +kernel)
set_option maxRecDepth 65536 in
theorem w_c2 : (Jvm.Cond.code ({ cls := "com/example/treecreeper/treecreeper/store/RecordCodecPastStartPinLaw", name := "same", desc := "([BIBBBB)Z" } : Jvm.MethodName) method_3_code (6 : Nat) (Option.some Jvm.ClassFile.FieldType.boolean)).before args0 about1 = true := code_word (m := ⟨1, 2⟩) (meth := k1m2) (c := k1c2) (by decide +kernel) rfl rfl rfl (by decide +kernel)
def codes1 : List Jvm.Cond := [Jvm.Cond.code x code maxLocals ret, Jvm.Cond.code ({ cls := "com/example/treecreeper/treecreeper/store/RecordCodec", name := "pastStart", desc := "([B)[B" } : Jvm.MethodName) prog_58_method_8_code (2 : Nat) (Option.some (Jvm.ClassFile.FieldType.array Jvm.ClassFile.FieldType.byte)), Jvm.Cond.code ({ cls := "com/example/treecreeper/treecreeper/store/RecordCodecPastStartPinLaw", name := "same", desc := "([BIBBBB)Z" } : Jvm.MethodName) method_3_code (6 : Nat) (Option.some Jvm.ClassFile.FieldType.boolean)]
set_option maxRecDepth 65536 in
theorem codes_eq : words1.filter isCode = codes1 := rfl
theorem w_codes : ∀ c ∈ words1.filter isCode, c.before args0 about1 = true := by
  rw [codes_eq]
  intro c hc
  simp only [codes1, List.mem_cons, List.not_mem_nil, or_false] at hc
  rcases hc with rfl | rfl | rfl
  · exact w_c0
  · exact w_c1
  · exact w_c2
set_option maxRecDepth 65536 in
theorem w_t1 : words1.all (fun c => isCode c || c.before args0 about1) = true := by decide +kernel
theorem w_tables : (allAtoms (Jvm.Cond.code x code maxLocals ret :: tables_1)).before args0 about1 = true := by
  rw [allAtoms_all]
  show words1.all (fun c => c.before args0 about1) = true
  refine all_split ?_ w_codes
  rw [w_t1]
set_option maxRecDepth 65536 in
theorem w_case : (Jvm.Cond.and given_1 narrow_1).before args0 about1 = true := by decide +kernel
theorem w_applies : (headSpec (Jvm.Cond.code x code maxLocals ret :: tables_1) room_1).applies x e0.platform about1 = true :=
  (Spec.applies_iff w_frames).mpr ⟨w_running, w_runnable, w_alone, w_named, w_hears, w_ripe, w_room, w_tables⟩
theorem atStart : AtStart classFile x code maxLocals ret World_1 tables_1 room_1 Calls_1 rest_1 Pre_1 launch0 p0 e0 about1 theMethod args0 below0 :=
  ⟨lists_1, trivial, launch0.admits_env _ _ _, launch0.least_env, fairChoices_fair.cas, fairChoices_fair.clock, w_frames, w_args, w_heap, w_applies, trivial, trivial, w_case⟩
end start1
theorem witness_1 : WitnessClaimed_1 := ⟨start1.p0, start1.e0, start1.about1, start1.theMethod, start1.args0, start1.below0, start1.atStart⟩
end Jvm.Pilot.@@N@@
