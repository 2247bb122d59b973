import JvmDerived
import JvmDerived.Pilot.@@N@@Statement
import JvmDerived.Pilot.@@N@@Code
set_option linter.unusedVariables false
set_option linter.unusedSimpArgs false
namespace Jvm.RoadKit
open Sem ClassFile Op Lib Jvm.Stand Jvm.Free Jvm.LawKit
section New
variable {p : Program} {l : Launch} {e : Env} {R : Room} {s : State} {m : MethodId} {args : Array Value} {below : List Frame} {meth : Method} {c : Code} {T : State} {locs : List Loc} {cells slots : Nat}
theorem retI (X : Stand p l e R s m args below meth c T locs cells slots) (hx : p.tables.exec = Jvm.exec) {pc : Nat} {Ls : Array Slot} {z : Int32} {rest : List Value} (hret : meth.sig.returnType = some .int) (hd : decode c.code pc = .ok (.ireturn, 1)) {fs : List Frame}
    (hl : ∀ (f : JFrame) (acts : List Action), f.method = m → f.locked = none → f.entered = [] → (doReturn e (T.setTop f) acts (some (.int z))).1 = T.setFrames fs) : Steps p.tables e below (T.setTop (mkF m pc Ls (.int z :: rest))) (T.setFrames fs) := by
  have hm' : T.vm.method? m = some meth := X.method'
  have hn : narrow .int (.int z) = .int z := rfl
  show Steps p.tables e below (T.setTop { method := m, pc := pc, locals := Ls, stack := _ :: rest, locked := none }) _
  jvm_step X.here [X.here.top, hx, hd, hm', hret, hn]
  first | (intro acts; rw [hl _ acts rfl rfl rfl]) | rw [hl _ _ rfl rfl rfl]
  exact Steps.refl _
end New
end Jvm.RoadKit
namespace Jvm.Pilot.@@N@@
open Jvm Jvm.ClassFile Sem Op Lib Jvm.Free Jvm.Stand Jvm.LawKit Jvm.RoadKit Bundle Jvm.Pilot.@@N@@.Jvm.D

/-! byte arrays by a function of the place -/
def own_upd (f : Nat → Int32) (k : Nat) (v : Int32) : Nat → Int32 := fun j => if j = k then v else f j
def BA (Z : State) (h : Heap) (a : Addr) (n : Nat) (f : Nat → Int32) : Prop := ∃ c : Cell, Arr Z h a c .byte ∧ c.slots.size = n ∧ n < 2147483648 ∧ (∀ j, j < n → c.slots[j]? = some (.int (f j))) ∧ ∀ j, j < n → fits .byte (.int (f j)) = true
theorem BA.ext {Z : State} {h h' : Heap} {a : Addr} {n : Nat} {f : Nat → Int32} (B : BA Z h a n f) (E : Ext h h') : BA Z h' a n f := by obtain ⟨c, A, r⟩ := B; exact ⟨c, A.ext E, r⟩
theorem BA.other {Z : State} {h h' : Heap} {a b : Addr} {n sl : Nat} {v : Value} {f : Nat → Int32} (B : BA Z h b n f) (W : Wr h h' a sl v) (q : b ≠ a) : BA Z h' b n f := by obtain ⟨c, A, r⟩ := B; exact ⟨c, A.other W q, r⟩
theorem BA.keep {Z : State} {h h' : Heap} {a : Addr} {n : Nat} {ws : List Addr} {f : Nat → Int32} (B : BA Z h a n f) (K : Keep h h' ws) (q : a ∉ ws) : BA Z h' a n f := by obtain ⟨c, A, r⟩ := B; exact ⟨c, ⟨K.2.1 a c A.1 q, A.2⟩, r⟩
theorem BA.lt {Z : State} {h : Heap} {a : Addr} {n : Nat} {f : Nat → Int32} (B : BA Z h a n f) : a < h.size := by obtain ⟨c, A, r⟩ := B; exact A.lt
theorem BA.congr {Z : State} {h : Heap} {a : Addr} {n : Nat} {f g : Nat → Int32} (B : BA Z h a n f) (q : ∀ j, j < n → f j = g j) : BA Z h a n g := by
  obtain ⟨c, A, S, M, H, G⟩ := B
  exact ⟨c, A, S, M, fun j hj => by rw [← q j hj]; exact H j hj, fun j hj => by rw [← q j hj]; exact G j hj⟩
theorem BA.fits {Z : State} {h : Heap} {a : Addr} {n : Nat} {f : Nat → Int32} (B : BA Z h a n f) {j : Nat} (hj : j < n) : fits .byte (.int (f j)) = true := by
  obtain ⟨c, A, S, M, H, G⟩ := B
  exact G j hj
theorem BA.new {Z : State} {h : Heap} {a : Addr} {k : ClassId} {z : Int32} {n : Nat} (A : Arr Z h a (newA k .byte z) .byte) (hz : z.toInt = (n : Int)) : BA Z h a n (fun _ => 0) := by
  have e : z.toNatClampNeg = n := by show z.toInt.toNat = n; omega
  have hr := rng32 z
  refine ⟨_, A, by rw [sz_new, e], by omega, fun j hj => ?_, fun j hj => (by decide : Jvm.fits .byte (.int (0 : Int32)) = true)⟩
  show (Array.replicate z.toNatClampNeg (defaultValue .byte))[j]? = _
  rw [e, Array.getElem?_replicate, if_pos hj]; rfl
theorem own_in {z : Int32} {k n sz : Nat} (hj : z.toInt = (k : Int)) (hk : k < n) (S : sz = n) : z.toNatClampNeg = k ∧ ¬ (z < 0 ∨ sz ≤ z.toNatClampNeg) := by
  have e1 : z.toNatClampNeg = k := by show z.toInt.toNat = k; omega
  refine ⟨e1, ?_⟩
  rw [e1, S, Int32.lt_iff_toInt_lt]
  have e0 : (0 : Int32).toInt = 0 := by decide
  omega
section Own
variable {p : Program} {l : Launch} {e : Env} {R : Room} {s : State} {m : MethodId} {args : Array Value} {below : List Frame} {meth : Method} {c : Code} {T : State} {locs : List Loc} {cells slots : Nat} {Z : State} {h : Heap} {a : Addr} {n : Nat} {f : Nat → Int32}
theorem own_bload (X : Stand p l e R s m args below meth c T locs cells slots) (hx : p.tables.exec = Jvm.exec) (hZ : Z.Warmed39 s.vm) (eT : T.heap = h) (B : BA Z h a n f) {j : Int32} {k : Nat} (hj : j.toInt = (k : Int)) (hk : k < n) {g : JFrame} (hg : g.method = m) {rest : List Value} (hs : g.stack = .int j :: .ref a :: rest) (hd : decode c.code g.pc = .ok (.baload, 1)) (target : State)
    (hrest : Steps p.tables e below (T.setTop { g with pc := g.pc + 1, stack := .int (f k) :: rest }) target) : Steps p.tables e below (T.setTop g) target := by
  obtain ⟨cl, A, S, -, H, -⟩ := B
  obtain ⟨e1, e2⟩ := own_in hj hk S
  exact X.baloadBytes hx (j := j) (v := .int (f k)) (by rw [eT]; exact A.1) (State.isArrayOf_alike hZ.alike A.2.1) A.2.2 e2 (by rw [e1]; exact H k hk) hg hs hd target hrest
theorem own_blen (X : Stand p l e R s m args below meth c T locs cells slots) (hx : p.tables.exec = Jvm.exec) (hZ : Z.Warmed39 s.vm) (eT : T.heap = h) (B : BA Z h a n f) {g : JFrame} (hg : g.method = m) {rest : List Value} (hs : g.stack = .ref a :: rest) (hd : decode c.code g.pc = .ok (.arraylength, 1)) (target : State)
    (hrest : Steps p.tables e below (T.setTop { g with pc := g.pc + 1, stack := .int (Int32.ofNat n) :: rest }) target) : Steps p.tables e below (T.setTop g) target := by
  obtain ⟨cl, A, S, -, H, -⟩ := B
  refine X.arraylength hx (by rw [eT]; exact A.1) (State.isArrayOf_alike hZ.alike A.2.1) hg hs hd target ?_
  rw [S]; exact hrest
theorem own_bstore (X : Stand p l e R s m args below meth c T locs cells slots) (hx : p.tables.exec = Jvm.exec) (hZ : Z.Warmed39 s.vm) (eT : T.heap = h) (B : BA Z h a n f) {j x v : Int32} {k : Nat} (hj : j.toInt = (k : Int)) (hk : k < n) (hv : x.toInt8.toInt32 = v) {g : JFrame} (hg : g.method = m) {rest : List Value} (hs : g.stack = .int x :: .int j :: .ref a :: rest) (hd : decode c.code g.pc = .ok (.bastore, 1)) :
    ∃ T' h', Stand p l e R s m args below meth c T' (locs ++ [⟨a, k⟩]) cells slots ∧ T'.heap = h' ∧ BA Z h' a n (own_upd f k v) ∧ Wr h h' a k (.int v) ∧ ∀ target, Steps p.tables e below (T'.setTop { g with pc := g.pc + 1, stack := rest }) target → Steps p.tables e below (T.setTop g) target := by
  obtain ⟨cl, A, S, M, H, G⟩ := B
  obtain ⟨e1, e2⟩ := own_in hj hk S
  obtain ⟨T', h', X', e', W, st⟩ := stB X hx hZ eT A (j := j) e2 hg hs hd
  have hn : nar .byte x = v := hv
  rw [e1] at X'
  rw [e1, hn] at W
  refine ⟨T', h', X', e', ⟨_, A.same W, by rw [sz_set, S], M, fun i hi => ?_, fun i hi => ?_⟩, W, st⟩
  · show (cl.slots.setIfInBounds k (.int v))[i]? = _
    rw [Array.getElem?_setIfInBounds]
    unfold own_upd
    by_cases q : k = i
    · subst q; rw [if_pos rfl, if_pos (by rw [S]; exact hk), if_pos rfl]
    · rw [if_neg q, if_neg (fun z => q z.symm)]; exact H i hi
  · unfold own_upd
    by_cases q : i = k
    · rw [if_pos q, ← hv]; exact fits_nar_byte x
    · rw [if_neg q]; exact G i hi
theorem own_bnew (X : Stand p l e R s m args below meth c T locs cells slots) (hx : p.tables.exec = Jvm.exec) (hZ : Z.Warmed39 s.vm) {a0 : Array Value} (w : (Cond.arrayClass .byte).before a0 Z = true) (eT : T.heap = h) {g : JFrame} (hg : g.method = m) (hd : decode c.code g.pc = .ok (.newarray .byte, 2)) {z : Int32} {rest : List Value} (hs : g.stack = .int z :: rest)
    (hz : z.toInt = (n : Int)) (hb : n * 8 ≤ 536870912) (hc : cells + 1 ≤ R.cells) (hl : slots + n ≤ R.slots) :
    ∃ T' h', Stand p l e R s m args below meth c T' locs (cells + 1) (slots + n) ∧ T'.heap = h' ∧ Ext h h' ∧ BA Z h' h.size n (fun _ => 0) ∧ Exa Z h' h.size "[B" ∧
      ∀ target, Steps p.tables e below (T'.setTop { g with pc := g.pc + 2, stack := .ref h.size :: rest }) target → Steps p.tables e below (T.setTop g) target := by
  have e1 : z.toNatClampNeg = n := by show z.toInt.toNat = n; omega
  have e0 : (0 : Int32).toInt = 0 := by decide
  obtain ⟨T', h', cA, X', e', E, A, Ex, st⟩ := newPE X hx hZ (aty := .byte) w eT hg hd hs (by rw [Int32.lt_iff_toInt_lt]; omega) (cap := n) (by omega) hb hc hl (ad := "[B") (by decide)
  exact ⟨T', h', X', e', E, BA.new A hz, Ex, st⟩
end Own
theorem own_b8 (x : Int32) : x.toInt8.toInt32.toInt8.toInt32 = x.toInt8.toInt32 := by simp

/-! the texts -/
def own_txt : Jvm.Cond → String
  | .stringLink _ _ t => t
  | _ => ""
/-- the text that the i-th word names -/
def own_w (i : Nat) : String := own_txt (tables_1.getD i Jvm.Cond.tt)
def own_t : Nat → String
  | 0 => own_w 24
  | 1 => own_w 61
  | 2 => own_w 32
  | 3 => own_w 32
  | _ => own_w 24
def own_g : Nat → Int32
  | 1 => 0
  | 2 => 1
  | 3 => 1
  | _ => 2
def own_cs (t : String) : List Int32 := t.toList.map (fun c => Jvm.Lit.byteI c.toNat.toUInt16)
theorem own_cs_len (t : String) : (own_cs t).length = t.toList.length := by simp [own_cs]
theorem own_5 {j : Nat} (h : j < 5) : j = 0 ∨ j = 1 ∨ j = 2 ∨ j = 3 ∨ j = 4 := by omega
theorem own_t_same {i j : Nat} (hi : i < 5) (hj : j < 5) (h : own_g i = own_g j) : own_t i = own_t j := by
  rcases own_5 hi with rfl | rfl | rfl | rfl | rfl <;> rcases own_5 hj with rfl | rfl | rfl | rfl | rfl <;> first | rfl | exact absurd h (by decide)
theorem own_t_diff {i j : Nat} (hi : i < 5) (hj : j < 5) (h : ¬ own_g i = own_g j) : ¬ (Int32.ofNat (own_t i).toList.length) = (Int32.ofNat (own_t j).toList.length) := by
  rcases own_5 hi with rfl | rfl | rfl | rfl | rfl <;> rcases own_5 hj with rfl | rfl | rfl | rfl | rfl <;> first | exact absurd rfl h | decide
theorem own_t_lt {j : Nat} (hj : j < 5) : (own_t j).toList.length < 100 := by
  rcases own_5 hj with rfl | rfl | rfl | rfl | rfl <;> decide
def own_j (x : Int32) : Nat := ((x &&& (2147483647 : Int32)) % (5 : Int32)).toInt.toNat
theorem own_j_lt (x : Int32) : own_j x < 5 ∧ ((x &&& (2147483647 : Int32)) % (5 : Int32)) = Int32.ofInt (own_j x) := by
  have h1 := c_and x 2147483647 (by decide)
  have h2 := (c_irem (x &&& 2147483647) 5 5 (by decide)).1 h1.1
  refine ⟨by unfold own_j; omega, ?_⟩
  rw [show ((own_j x : Nat) : Int) = ((x &&& (2147483647 : Int32)) % (5 : Int32)).toInt from by unfold own_j; omega]
  exact (Int32.ofInt_toInt _).symm
theorem own_ext {h h1 h2 : Heap} (E : Ext h h1) (E' : Ext h1 h2) : Ext h h2 := ⟨Nat.le_trans E.1 E'.1, fun a c q => E'.2 a c (E.2 a c q)⟩
theorem own_ext0 (h : Heap) : Ext h h := ⟨Nat.le_refl _, fun _ _ q => q⟩
theorem own_exteq {h h' : Heap} (e : h' = h) : Ext h h' := e ▸ own_ext0 h
def own_f (t : String) : Nat → Int32 := fun j => (own_cs t).getD j 0
/-- the String at a bears the text t -/
def own_S (Z : State) (h : Heap) (a : Addr) (t : String) : Prop := ∃ b : Addr, Exa Z h a "java/lang/String" ∧ Fld Z h a "java/lang/String" "coder" "B" (.int 0) ∧ Fld Z h a "java/lang/String" "value" "[B" (.ref b) ∧ BA Z h b t.toList.length (own_f t)
theorem own_S.ext {Z : State} {h h' : Heap} {a : Addr} {t : String} (S : own_S Z h a t) (E : Ext h h') : own_S Z h' a t := by
  obtain ⟨b, h1, h2, h3, h4⟩ := S
  exact ⟨b, h1.ext E, h2.ext E, h3.ext E, h4.ext E⟩
theorem own_S.of {Z : State} {h : Heap} {a b : Addr} {k : ClassId} {t : String} {z : Int32} (h1 : Exa Z h a "java/lang/String") (h2 : Fld Z h a "java/lang/String" "coder" "B" (.int 0)) (h3 : Fld Z h a "java/lang/String" "value" "[B" (.ref b)) (h4 : Arv Z h b k .byte z ((own_cs t).map Value.int) (.int 0)) (hl : t.toList.length < 100) (hz : z.toNatClampNeg = ((own_cs t).map Value.int).length) : own_S Z h a t := by
  obtain ⟨c, A, -, S, -, H, G⟩ := h4
  have hsz : c.slots.size = t.toList.length := by rw [S, hz, List.length_map, own_cs_len]
  have hget : ∀ j, ((own_cs t).map Value.int).getD j (.int 0) = .int ((own_cs t).getD j 0) := fun j => by simp only [List.getD_eq_getElem?_getD, List.getElem?_map]; cases (own_cs t)[j]? <;> rfl
  refine ⟨b, h1, h2, h3, c, A, hsz, by omega, fun j hj => ?_, fun j hj => ?_⟩
  · rw [H j (by omega), hget]; rfl
  · have := G j (by omega); rw [hget] at this; exact this
theorem own_BA_ne {Z : State} {h : Heap} {a b : Addr} {n k : Nat} {f g : Nat → Int32} (B : BA Z h a n f) (B' : BA Z h b k g) (q : ¬ n = k) : a ≠ b := fun e => by
  subst e
  obtain ⟨c, A, S, -⟩ := B
  obtain ⟨c', A', S', -⟩ := B'
  have := Option.some.inj (A.1.symm.trans A'.1)
  subst this
  exact q (S.symm.trans S')
theorem own_EW {Z : State} {a0 : Array Value} (hw : ∀ d ∈ tables_1, d.before a0 Z = true) : EW Z a0 consts_1 :=
  (EW.cons (hw _ (List.mem_of_getElem? (i := 61) rfl)) (by decide) (EW.cons (hw _ (List.mem_of_getElem? (i := 32) rfl)) (by decide) (EW.cons (hw _ (List.mem_of_getElem? (i := 24) rfl)) (by decide) (EW.cons (hw _ (List.mem_of_getElem? (i := 62) rfl)) (by decide) (EW.cons (hw _ (List.mem_of_getElem? (i := 49) rfl)) (by decide) (EW.cons (hw _ (List.mem_of_getElem? (i := 43) rfl)) (by decide) EW.nil))))))
theorem own_wS {Z : State} {a0 : Array Value} (hw : ∀ d ∈ tables_1, d.before a0 Z = true) : ∀ a ∈ Bundle.stringAtoms, a.before a0 Z = true := fun d hd => by
  simp only [Bundle.stringAtoms, List.mem_cons, List.not_mem_nil, or_false] at hd
  rcases hd with rfl | rfl | rfl | rfl | rfl | rfl | rfl
  · exact (hw _ (List.mem_of_getElem? (i := 25) rfl))
  · exact (hw _ (List.mem_of_getElem? (i := 26) rfl))
  · exact (hw _ (List.mem_of_getElem? (i := 27) rfl))
  · exact (hw _ (List.mem_of_getElem? (i := 28) rfl))
  · exact (hw _ (List.mem_of_getElem? (i := 29) rfl))
  · exact (hw _ (List.mem_of_getElem? (i := 30) rfl))
  · exact (hw _ (List.mem_of_getElem? (i := 31) rfl))
theorem d1_0 : decode method_2_code 0 = .ok (.iload_n 0, 1) := by decide +kernel
theorem d1_1 : decode method_2_code 1 = .ok (.ldc 7, 2) := by decide +kernel
theorem d1_3 : decode method_2_code 3 = .ok (.iand, 1) := by decide +kernel
theorem d1_4 : decode method_2_code 4 = .ok (.iconst 5, 1) := by decide +kernel
theorem d1_5 : decode method_2_code 5 = .ok (.irem, 1) := by decide +kernel
theorem d1_6 : decode method_2_code 6 = .ok (.istore_n 1, 1) := by decide +kernel
theorem d1_7 : decode method_2_code 7 = .ok (.iload_n 1, 1) := by decide +kernel
theorem d1_8 : decode method_2_code 8 = .ok (.ifCond .ne 7, 3) := by decide +kernel
theorem d1_11 : decode method_2_code 11 = .ok (.getstatic 8, 3) := by decide +kernel
theorem d1_14 : decode method_2_code 14 = .ok (.areturn, 1) := by decide +kernel
theorem d1_15 : decode method_2_code 15 = .ok (.iload_n 1, 1) := by decide +kernel
theorem d1_16 : decode method_2_code 16 = .ok (.iconst 1, 1) := by decide +kernel
theorem d1_17 : decode method_2_code 17 = .ok (.if_icmp .ne 7, 3) := by decide +kernel
theorem d1_20 : decode method_2_code 20 = .ok (.getstatic 14, 3) := by decide +kernel
theorem d1_23 : decode method_2_code 23 = .ok (.areturn, 1) := by decide +kernel
theorem d1_24 : decode method_2_code 24 = .ok (.iload_n 1, 1) := by decide +kernel
theorem d1_25 : decode method_2_code 25 = .ok (.iconst 2, 1) := by decide +kernel
theorem d1_26 : decode method_2_code 26 = .ok (.if_icmp .ne 7, 3) := by decide +kernel
theorem d1_29 : decode method_2_code 29 = .ok (.getstatic 17, 3) := by decide +kernel
theorem d1_32 : decode method_2_code 32 = .ok (.areturn, 1) := by decide +kernel
theorem d1_33 : decode method_2_code 33 = .ok (.iload_n 1, 1) := by decide +kernel
theorem d1_34 : decode method_2_code 34 = .ok (.iconst 3, 1) := by decide +kernel
theorem d1_35 : decode method_2_code 35 = .ok (.if_icmp .ne 7, 3) := by decide +kernel
theorem d1_38 : decode method_2_code 38 = .ok (.getstatic 20, 3) := by decide +kernel
theorem d1_41 : decode method_2_code 41 = .ok (.areturn, 1) := by decide +kernel
theorem d1_42 : decode method_2_code 42 = .ok (.getstatic 23, 3) := by decide +kernel
theorem d1_45 : decode method_2_code 45 = .ok (.areturn, 1) := by decide +kernel
theorem pn_1 : plainName "com/example/quillet/quillet/jpql/AggregateFunctionArgumentPinLaw" = true := by first | (simp [plainName, overriddenIn]; done) | decide +kernel
theorem ef_1 (m : MethodId) (x0 : Int32) : entryFrame m #[(.int x0)] 2 = mkF m 0 #[.val (.int x0), .unset] [] := by first | (simp [entryFrame, mkF, argsToLocals, Value.category]; done) | rfl
def Q1 (Z : State) (p1 : Int32) (ad : Nat → Addr) (h0 : Heap) (n0 : Nat) (v : Option Value) (h : Heap) (L : List Loc) : Prop := v = some (.ref (ad (own_j p1))) ∧ L = [] ∧ h = h0
set_option maxRecDepth 65536 in
set_option maxHeartbeats 40000000 in
theorem rm1 (l : Launch) (Z : State) (a0 : Array Value) (hw : ∀ d ∈ tables_1, d.before a0 Z = true) (ws : List Jvm.Cond) (p1 : Int32) (ad : Nat → Addr) (h0 : Heap) (n0 : Nat) (Z0 : n0 ≤ h0.size) (S0 : Sta Z h0 "com/example/quillet/quillet/jpql/AggregateFunction" "AVG" "Lcom/example/quillet/quillet/jpql/AggregateFunction;" (.ref (ad 0))) (S1 : Sta Z h0 "com/example/quillet/quillet/jpql/AggregateFunction" "COUNT" "Lcom/example/quillet/quillet/jpql/AggregateFunction;" (.ref (ad 1))) (S2 : Sta Z h0 "com/example/quillet/quillet/jpql/AggregateFunction" "MAX" "Lcom/example/quillet/quillet/jpql/AggregateFunction;" (.ref (ad 2))) (S3 : Sta Z h0 "com/example/quillet/quillet/jpql/AggregateFunction" "MIN" "Lcom/example/quillet/quillet/jpql/AggregateFunction;" (.ref (ad 3))) (S4 : Sta Z h0 "com/example/quillet/quillet/jpql/AggregateFunction" "SUM" "Lcom/example/quillet/quillet/jpql/AggregateFunction;" (.ref (ad 4))) :
    MetFree l (⟨"com/example/quillet/quillet/jpql/AggregateFunctionArgumentPinLaw", "pick", "(I)Lcom/example/quillet/quillet/jpql/AggregateFunction;"⟩ : MethodName) (head1 (Jvm.Cond.code (⟨"com/example/quillet/quillet/jpql/AggregateFunctionArgumentPinLaw", "pick", "(I)Lcom/example/quillet/quillet/jpql/AggregateFunction;"⟩ : MethodName) method_2_code 2 (some (.object "com/example/quillet/quillet/jpql/AggregateFunction")) :: ws) ({ frames := 0, cells := 0, slots := 0, locals := 0 } : Room)) (fun a U => a = #[(.int p1)] ∧ Z.Warmed39 U.vm ∧ U.heap = h0) (fun _ _ _ _ _ => True) (fun _ U ou U' => ∃ v L, ou = .returned v ∧ Q1 Z p1 ad h0 n0 v U'.heap L ∧ FrameEnd U ou U' L ({ frames := 0, cells := 0, slots := 0, locals := 0 } : Room).cells ({ frames := 0, cells := 0, slots := 0, locals := 0 } : Room).slots) := by
  refine MetFree.of_bodySF (plainFor_of_name pn_1) hisR ?_
  intro p e s m args below meth c s₁ Bd hml0 hP hK
  obtain ⟨rfl, hZ, hh⟩ := hP
  have hx := Bd.exec
  have hby := Bd.bytes
  have hml : c.maxLocals = 2 := hml0
  have hown : s.vm.findClass "com/example/quillet/quillet/jpql/AggregateFunctionArgumentPinLaw" = some m.cls := findClass_of_methodNamed Bd.named
  have hnm := (name_of_methodNamed Bd.named Bd.method).1
  have X0 : Stand p l e ({ frames := 0, cells := 0, slots := 0, locals := 0 } : Room) s m #[(.int p1)] below meth c s₁ [] 0 0 := Stand.of_body Bd
  have e0 : s₁.heap = h0 := by rw [← hh, Bd.state]; rfl
  have N0 := Fr.nil n0
  have pre0 : ∀ t, Steps p.tables e below (s₁.setTop (mkF m 0 #[.val (.int p1), .unset] [])) t → Steps p.tables e below (s₁.setTop (entryFrame m #[(.int p1)] 2)) t := fun t k => castTop (ef_1 m (p1)) k
  have pre1 : ∀ t, Steps p.tables e below (s₁.setTop (mkF m 7 #[.val (.int p1), .val (.int ((p1 &&& (2147483647 : Int32)) % (5 : Int32)))] [])) t → Steps p.tables e below (s₁.setTop (entryFrame m #[(.int p1)] 2)) t := fun t kt => pre0 t (by
    show Steps p.tables e below (s₁.setTop (mkF m 0 #[.val (.int p1), .unset] [])) _
    refine XS.iloadN X0.here hx rfl (hb hby d1_0) rfl ?_
    show Steps p.tables e below (s₁.setTop (mkF m 1 #[.val (.int p1), .unset] [(.int p1)])) _
    refine X0.ldcInt hx hown (mvT hZ (hw _ (List.mem_of_getElem? (i := 4) rfl))) (g := (mkF m 1 #[.val (.int p1), .unset] [(.int p1)])) rfl (hb hby d1_1) _ ?_
    show Steps p.tables e below (s₁.setTop (mkF m 3 #[.val (.int p1), .unset] [(.int (2147483647 : Int32)), (.int p1)])) _
    refine XS.iand X0.here hx rfl (hb hby d1_3) rfl ?_
    show Steps p.tables e below (s₁.setTop (mkF m 4 #[.val (.int p1), .unset] [(.int (p1 &&& (2147483647 : Int32)))])) _
    refine XS.iconst X0.here hx rfl (hb hby d1_4) ?_
    show Steps p.tables e below (s₁.setTop (mkF m 5 #[.val (.int p1), .unset] [(.int (5 : Int32)), (.int (p1 &&& (2147483647 : Int32)))])) _
    refine iremM X0 hx rfl (hb hby d1_5) rfl (by decide) ?_
    show Steps p.tables e below (s₁.setTop (mkF m 6 #[.val (.int p1), .unset] [(.int ((p1 &&& (2147483647 : Int32)) % (5 : Int32)))])) _
    refine XS.istoreN X0.here hx rfl (hb hby d1_6) rfl (l' := #[.val (.int p1), .val (.int ((p1 &&& (2147483647 : Int32)) % (5 : Int32)))]) rfl ?_
    exact kt)
  obtain ⟨hj5, hj⟩ := own_j_lt p1
  rcases own_5 hj5 with h5 | h5 | h5 | h5 | h5
  · rw [h5] at hj
    rw [hj] at pre1
    have pre2 : ∀ t, Steps p.tables e below (s₁.setTop (mkF m 11 #[.val (.int p1), .val (.int (Int32.ofInt ((0 : Nat) : Int)))] [])) t → Steps p.tables e below (s₁.setTop (entryFrame m #[(.int p1)] 2)) t := fun t kt => pre1 t (by
      show Steps p.tables e below (s₁.setTop (mkF m 7 #[.val (.int p1), .val (.int (Int32.ofInt ((0 : Nat) : Int)))] [])) _
      refine XS.iloadN X0.here hx rfl (hb hby d1_7) rfl ?_
      show Steps p.tables e below (s₁.setTop (mkF m 8 #[.val (.int p1), .val (.int (Int32.ofInt ((0 : Nat) : Int)))] [(.int (Int32.ofInt ((0 : Nat) : Int)))])) _
      refine XS.ifNo X0.here hx rfl (hb hby d1_8) rfl ((if0 _ _).trans (teq (by decide)).2) ?_
      exact kt)
    obtain ⟨T3, X3, e3, st3⟩ := getS2 X0 hx hZ hown (host := "") (Or.inl (hw _ (List.mem_of_getElem? (i := 5) rfl))) Via.refl e0 S0 (g := (mkF m 11 #[.val (.int p1), .val (.int (Int32.ofInt ((0 : Nat) : Int)))] [])) rfl (hb hby d1_11)
    have pre4 : ∀ t, Steps p.tables e below (T3.setTop (mkF m 14 #[.val (.int p1), .val (.int (Int32.ofInt ((0 : Nat) : Int)))] [(.ref (ad 0))])) t → Steps p.tables e below (s₁.setTop (entryFrame m #[(.int p1)] 2)) t := fun t kt => pre2 t (st3 t kt)
    obtain ⟨fs, hr, hrun, hended, hW, hsame⟩ := X3.leave (v := some (.ref (ad 0))) (fun h => by rw [Bd.returns] at h; cases h)
    refine ⟨_, _, pre4 _ ?_, hrun, hended, _, _, rfl, ?_, ⟨_, rfl⟩, hW, hsame.mono (by decide) (by decide)⟩
    · show Steps p.tables e below (T3.setTop (mkF m 14 #[.val (.int p1), .val (.int (Int32.ofInt ((0 : Nat) : Int)))] [(.ref (ad 0))])) _
      jvm_step X3.here [X3.here.top, hx, (hb hby d1_14), X3.method', Bd.returns, Value.isRef, FieldType.isReference]
      first | (intro acts; rw [hr _ acts rfl rfl rfl]) | rw [hr _ _ rfl rfl rfl]
      exact Steps.refl _
    · show Q1 Z p1 ad h0 n0 _ T3.heap _
      rw [e3]
      exact ⟨by rw [h5], rfl, rfl⟩
  · rw [h5] at hj
    rw [hj] at pre1
    have pre5 : ∀ t, Steps p.tables e below (s₁.setTop (mkF m 20 #[.val (.int p1), .val (.int (Int32.ofInt ((1 : Nat) : Int)))] [])) t → Steps p.tables e below (s₁.setTop (entryFrame m #[(.int p1)] 2)) t := fun t kt => pre1 t (by
      show Steps p.tables e below (s₁.setTop (mkF m 7 #[.val (.int p1), .val (.int (Int32.ofInt ((1 : Nat) : Int)))] [])) _
      refine XS.iloadN X0.here hx rfl (hb hby d1_7) rfl ?_
      show Steps p.tables e below (s₁.setTop (mkF m 8 #[.val (.int p1), .val (.int (Int32.ofInt ((1 : Nat) : Int)))] [(.int (Int32.ofInt ((1 : Nat) : Int)))])) _
      refine XS.ifYes X0.here hx rfl (pc0 := 8) (pc' := 15) rfl (hb hby d1_8) rfl ((if0 _ _).trans (feq (by decide)).2) (by decide) (by decide) ?_
      show Steps p.tables e below (s₁.setTop (mkF m 15 #[.val (.int p1), .val (.int (Int32.ofInt ((1 : Nat) : Int)))] [])) _
      refine XS.iloadN X0.here hx rfl (hb hby d1_15) rfl ?_
      show Steps p.tables e below (s₁.setTop (mkF m 16 #[.val (.int p1), .val (.int (Int32.ofInt ((1 : Nat) : Int)))] [(.int (Int32.ofInt ((1 : Nat) : Int)))])) _
      refine XS.iconst X0.here hx rfl (hb hby d1_16) ?_
      show Steps p.tables e below (s₁.setTop (mkF m 17 #[.val (.int p1), .val (.int (Int32.ofInt ((1 : Nat) : Int)))] [(.int (1 : Int32)), (.int (Int32.ofInt ((1 : Nat) : Int)))])) _
      refine XS.icmpNo X0.here hx rfl (hb hby d1_17) rfl (teq (by decide)).2 ?_
      exact kt)
    obtain ⟨T6, X6, e6, st6⟩ := getS2 X0 hx hZ hown (host := "") (Or.inl (hw _ (List.mem_of_getElem? (i := 36) rfl))) Via.refl e0 S1 (g := (mkF m 20 #[.val (.int p1), .val (.int (Int32.ofInt ((1 : Nat) : Int)))] [])) rfl (hb hby d1_20)
    have pre7 : ∀ t, Steps p.tables e below (T6.setTop (mkF m 23 #[.val (.int p1), .val (.int (Int32.ofInt ((1 : Nat) : Int)))] [(.ref (ad 1))])) t → Steps p.tables e below (s₁.setTop (entryFrame m #[(.int p1)] 2)) t := fun t kt => pre5 t (st6 t kt)
    obtain ⟨fs, hr, hrun, hended, hW, hsame⟩ := X6.leave (v := some (.ref (ad 1))) (fun h => by rw [Bd.returns] at h; cases h)
    refine ⟨_, _, pre7 _ ?_, hrun, hended, _, _, rfl, ?_, ⟨_, rfl⟩, hW, hsame.mono (by decide) (by decide)⟩
    · show Steps p.tables e below (T6.setTop (mkF m 23 #[.val (.int p1), .val (.int (Int32.ofInt ((1 : Nat) : Int)))] [(.ref (ad 1))])) _
      jvm_step X6.here [X6.here.top, hx, (hb hby d1_23), X6.method', Bd.returns, Value.isRef, FieldType.isReference]
      first | (intro acts; rw [hr _ acts rfl rfl rfl]) | rw [hr _ _ rfl rfl rfl]
      exact Steps.refl _
    · show Q1 Z p1 ad h0 n0 _ T6.heap _
      rw [e6]
      exact ⟨by rw [h5], rfl, rfl⟩
  · rw [h5] at hj
    rw [hj] at pre1
    have pre8 : ∀ t, Steps p.tables e below (s₁.setTop (mkF m 29 #[.val (.int p1), .val (.int (Int32.ofInt ((2 : Nat) : Int)))] [])) t → Steps p.tables e below (s₁.setTop (entryFrame m #[(.int p1)] 2)) t := fun t kt => pre1 t (by
      show Steps p.tables e below (s₁.setTop (mkF m 7 #[.val (.int p1), .val (.int (Int32.ofInt ((2 : Nat) : Int)))] [])) _
      refine XS.iloadN X0.here hx rfl (hb hby d1_7) rfl ?_
      show Steps p.tables e below (s₁.setTop (mkF m 8 #[.val (.int p1), .val (.int (Int32.ofInt ((2 : Nat) : Int)))] [(.int (Int32.ofInt ((2 : Nat) : Int)))])) _
      refine XS.ifYes X0.here hx rfl (pc0 := 8) (pc' := 15) rfl (hb hby d1_8) rfl ((if0 _ _).trans (feq (by decide)).2) (by decide) (by decide) ?_
      show Steps p.tables e below (s₁.setTop (mkF m 15 #[.val (.int p1), .val (.int (Int32.ofInt ((2 : Nat) : Int)))] [])) _
      refine XS.iloadN X0.here hx rfl (hb hby d1_15) rfl ?_
      show Steps p.tables e below (s₁.setTop (mkF m 16 #[.val (.int p1), .val (.int (Int32.ofInt ((2 : Nat) : Int)))] [(.int (Int32.ofInt ((2 : Nat) : Int)))])) _
      refine XS.iconst X0.here hx rfl (hb hby d1_16) ?_
      show Steps p.tables e below (s₁.setTop (mkF m 17 #[.val (.int p1), .val (.int (Int32.ofInt ((2 : Nat) : Int)))] [(.int (1 : Int32)), (.int (Int32.ofInt ((2 : Nat) : Int)))])) _
      refine XS.icmpYes X0.here hx rfl (pc0 := 17) (pc' := 24) rfl (hb hby d1_17) rfl (feq (by decide)).2 (by decide) (by decide) ?_
      show Steps p.tables e below (s₁.setTop (mkF m 24 #[.val (.int p1), .val (.int (Int32.ofInt ((2 : Nat) : Int)))] [])) _
      refine XS.iloadN X0.here hx rfl (hb hby d1_24) rfl ?_
      show Steps p.tables e below (s₁.setTop (mkF m 25 #[.val (.int p1), .val (.int (Int32.ofInt ((2 : Nat) : Int)))] [(.int (Int32.ofInt ((2 : Nat) : Int)))])) _
      refine XS.iconst X0.here hx rfl (hb hby d1_25) ?_
      show Steps p.tables e below (s₁.setTop (mkF m 26 #[.val (.int p1), .val (.int (Int32.ofInt ((2 : Nat) : Int)))] [(.int (2 : Int32)), (.int (Int32.ofInt ((2 : Nat) : Int)))])) _
      refine XS.icmpNo X0.here hx rfl (hb hby d1_26) rfl (teq (by decide)).2 ?_
      exact kt)
    obtain ⟨T9, X9, e9, st9⟩ := getS2 X0 hx hZ hown (host := "") (Or.inl (hw _ (List.mem_of_getElem? (i := 38) rfl))) Via.refl e0 S2 (g := (mkF m 29 #[.val (.int p1), .val (.int (Int32.ofInt ((2 : Nat) : Int)))] [])) rfl (hb hby d1_29)
    have pre10 : ∀ t, Steps p.tables e below (T9.setTop (mkF m 32 #[.val (.int p1), .val (.int (Int32.ofInt ((2 : Nat) : Int)))] [(.ref (ad 2))])) t → Steps p.tables e below (s₁.setTop (entryFrame m #[(.int p1)] 2)) t := fun t kt => pre8 t (st9 t kt)
    obtain ⟨fs, hr, hrun, hended, hW, hsame⟩ := X9.leave (v := some (.ref (ad 2))) (fun h => by rw [Bd.returns] at h; cases h)
    refine ⟨_, _, pre10 _ ?_, hrun, hended, _, _, rfl, ?_, ⟨_, rfl⟩, hW, hsame.mono (by decide) (by decide)⟩
    · show Steps p.tables e below (T9.setTop (mkF m 32 #[.val (.int p1), .val (.int (Int32.ofInt ((2 : Nat) : Int)))] [(.ref (ad 2))])) _
      jvm_step X9.here [X9.here.top, hx, (hb hby d1_32), X9.method', Bd.returns, Value.isRef, FieldType.isReference]
      first | (intro acts; rw [hr _ acts rfl rfl rfl]) | rw [hr _ _ rfl rfl rfl]
      exact Steps.refl _
    · show Q1 Z p1 ad h0 n0 _ T9.heap _
      rw [e9]
      exact ⟨by rw [h5], rfl, rfl⟩
  · rw [h5] at hj
    rw [hj] at pre1
    have pre11 : ∀ t, Steps p.tables e below (s₁.setTop (mkF m 38 #[.val (.int p1), .val (.int (Int32.ofInt ((3 : Nat) : Int)))] [])) t → Steps p.tables e below (s₁.setTop (entryFrame m #[(.int p1)] 2)) t := fun t kt => pre1 t (by
      show Steps p.tables e below (s₁.setTop (mkF m 7 #[.val (.int p1), .val (.int (Int32.ofInt ((3 : Nat) : Int)))] [])) _
      refine XS.iloadN X0.here hx rfl (hb hby d1_7) rfl ?_
      show Steps p.tables e below (s₁.setTop (mkF m 8 #[.val (.int p1), .val (.int (Int32.ofInt ((3 : Nat) : Int)))] [(.int (Int32.ofInt ((3 : Nat) : Int)))])) _
      refine XS.ifYes X0.here hx rfl (pc0 := 8) (pc' := 15) rfl (hb hby d1_8) rfl ((if0 _ _).trans (feq (by decide)).2) (by decide) (by decide) ?_
      show Steps p.tables e below (s₁.setTop (mkF m 15 #[.val (.int p1), .val (.int (Int32.ofInt ((3 : Nat) : Int)))] [])) _
      refine XS.iloadN X0.here hx rfl (hb hby d1_15) rfl ?_
      show Steps p.tables e below (s₁.setTop (mkF m 16 #[.val (.int p1), .val (.int (Int32.ofInt ((3 : Nat) : Int)))] [(.int (Int32.ofInt ((3 : Nat) : Int)))])) _
      refine XS.iconst X0.here hx rfl (hb hby d1_16) ?_
      show Steps p.tables e below (s₁.setTop (mkF m 17 #[.val (.int p1), .val (.int (Int32.ofInt ((3 : Nat) : Int)))] [(.int (1 : Int32)), (.int (Int32.ofInt ((3 : Nat) : Int)))])) _
      refine XS.icmpYes X0.here hx rfl (pc0 := 17) (pc' := 24) rfl (hb hby d1_17) rfl (feq (by decide)).2 (by decide) (by decide) ?_
      show Steps p.tables e below (s₁.setTop (mkF m 24 #[.val (.int p1), .val (.int (Int32.ofInt ((3 : Nat) : Int)))] [])) _
      refine XS.iloadN X0.here hx rfl (hb hby d1_24) rfl ?_
      show Steps p.tables e below (s₁.setTop (mkF m 25 #[.val (.int p1), .val (.int (Int32.ofInt ((3 : Nat) : Int)))] [(.int (Int32.ofInt ((3 : Nat) : Int)))])) _
      refine XS.iconst X0.here hx rfl (hb hby d1_25) ?_
      show Steps p.tables e below (s₁.setTop (mkF m 26 #[.val (.int p1), .val (.int (Int32.ofInt ((3 : Nat) : Int)))] [(.int (2 : Int32)), (.int (Int32.ofInt ((3 : Nat) : Int)))])) _
      refine XS.icmpYes X0.here hx rfl (pc0 := 26) (pc' := 33) rfl (hb hby d1_26) rfl (feq (by decide)).2 (by decide) (by decide) ?_
      show Steps p.tables e below (s₁.setTop (mkF m 33 #[.val (.int p1), .val (.int (Int32.ofInt ((3 : Nat) : Int)))] [])) _
      refine XS.iloadN X0.here hx rfl (hb hby d1_33) rfl ?_
      show Steps p.tables e below (s₁.setTop (mkF m 34 #[.val (.int p1), .val (.int (Int32.ofInt ((3 : Nat) : Int)))] [(.int (Int32.ofInt ((3 : Nat) : Int)))])) _
      refine XS.iconst X0.here hx rfl (hb hby d1_34) ?_
      show Steps p.tables e below (s₁.setTop (mkF m 35 #[.val (.int p1), .val (.int (Int32.ofInt ((3 : Nat) : Int)))] [(.int (3 : Int32)), (.int (Int32.ofInt ((3 : Nat) : Int)))])) _
      refine XS.icmpNo X0.here hx rfl (hb hby d1_35) rfl (teq (by decide)).2 ?_
      exact kt)
    obtain ⟨T12, X12, e12, st12⟩ := getS2 X0 hx hZ hown (host := "") (Or.inl (hw _ (List.mem_of_getElem? (i := 8) rfl))) Via.refl e0 S3 (g := (mkF m 38 #[.val (.int p1), .val (.int (Int32.ofInt ((3 : Nat) : Int)))] [])) rfl (hb hby d1_38)
    have pre13 : ∀ t, Steps p.tables e below (T12.setTop (mkF m 41 #[.val (.int p1), .val (.int (Int32.ofInt ((3 : Nat) : Int)))] [(.ref (ad 3))])) t → Steps p.tables e below (s₁.setTop (entryFrame m #[(.int p1)] 2)) t := fun t kt => pre11 t (st12 t kt)
    obtain ⟨fs, hr, hrun, hended, hW, hsame⟩ := X12.leave (v := some (.ref (ad 3))) (fun h => by rw [Bd.returns] at h; cases h)
    refine ⟨_, _, pre13 _ ?_, hrun, hended, _, _, rfl, ?_, ⟨_, rfl⟩, hW, hsame.mono (by decide) (by decide)⟩
    · show Steps p.tables e below (T12.setTop (mkF m 41 #[.val (.int p1), .val (.int (Int32.ofInt ((3 : Nat) : Int)))] [(.ref (ad 3))])) _
      jvm_step X12.here [X12.here.top, hx, (hb hby d1_41), X12.method', Bd.returns, Value.isRef, FieldType.isReference]
      first | (intro acts; rw [hr _ acts rfl rfl rfl]) | rw [hr _ _ rfl rfl rfl]
      exact Steps.refl _
    · show Q1 Z p1 ad h0 n0 _ T12.heap _
      rw [e12]
      exact ⟨by rw [h5], rfl, rfl⟩
  · rw [h5] at hj
    rw [hj] at pre1
    have pre14 : ∀ t, Steps p.tables e below (s₁.setTop (mkF m 42 #[.val (.int p1), .val (.int (Int32.ofInt ((4 : Nat) : Int)))] [])) t → Steps p.tables e below (s₁.setTop (entryFrame m #[(.int p1)] 2)) t := fun t kt => pre1 t (by
      show Steps p.tables e below (s₁.setTop (mkF m 7 #[.val (.int p1), .val (.int (Int32.ofInt ((4 : Nat) : Int)))] [])) _
      refine XS.iloadN X0.here hx rfl (hb hby d1_7) rfl ?_
      show Steps p.tables e below (s₁.setTop (mkF m 8 #[.val (.int p1), .val (.int (Int32.ofInt ((4 : Nat) : Int)))] [(.int (Int32.ofInt ((4 : Nat) : Int)))])) _
      refine XS.ifYes X0.here hx rfl (pc0 := 8) (pc' := 15) rfl (hb hby d1_8) rfl ((if0 _ _).trans (feq (by decide)).2) (by decide) (by decide) ?_
      show Steps p.tables e below (s₁.setTop (mkF m 15 #[.val (.int p1), .val (.int (Int32.ofInt ((4 : Nat) : Int)))] [])) _
      refine XS.iloadN X0.here hx rfl (hb hby d1_15) rfl ?_
      show Steps p.tables e below (s₁.setTop (mkF m 16 #[.val (.int p1), .val (.int (Int32.ofInt ((4 : Nat) : Int)))] [(.int (Int32.ofInt ((4 : Nat) : Int)))])) _
      refine XS.iconst X0.here hx rfl (hb hby d1_16) ?_
      show Steps p.tables e below (s₁.setTop (mkF m 17 #[.val (.int p1), .val (.int (Int32.ofInt ((4 : Nat) : Int)))] [(.int (1 : Int32)), (.int (Int32.ofInt ((4 : Nat) : Int)))])) _
      refine XS.icmpYes X0.here hx rfl (pc0 := 17) (pc' := 24) rfl (hb hby d1_17) rfl (feq (by decide)).2 (by decide) (by decide) ?_
      show Steps p.tables e below (s₁.setTop (mkF m 24 #[.val (.int p1), .val (.int (Int32.ofInt ((4 : Nat) : Int)))] [])) _
      refine XS.iloadN X0.here hx rfl (hb hby d1_24) rfl ?_
      show Steps p.tables e below (s₁.setTop (mkF m 25 #[.val (.int p1), .val (.int (Int32.ofInt ((4 : Nat) : Int)))] [(.int (Int32.ofInt ((4 : Nat) : Int)))])) _
      refine XS.iconst X0.here hx rfl (hb hby d1_25) ?_
      show Steps p.tables e below (s₁.setTop (mkF m 26 #[.val (.int p1), .val (.int (Int32.ofInt ((4 : Nat) : Int)))] [(.int (2 : Int32)), (.int (Int32.ofInt ((4 : Nat) : Int)))])) _
      refine XS.icmpYes X0.here hx rfl (pc0 := 26) (pc' := 33) rfl (hb hby d1_26) rfl (feq (by decide)).2 (by decide) (by decide) ?_
      show Steps p.tables e below (s₁.setTop (mkF m 33 #[.val (.int p1), .val (.int (Int32.ofInt ((4 : Nat) : Int)))] [])) _
      refine XS.iloadN X0.here hx rfl (hb hby d1_33) rfl ?_
      show Steps p.tables e below (s₁.setTop (mkF m 34 #[.val (.int p1), .val (.int (Int32.ofInt ((4 : Nat) : Int)))] [(.int (Int32.ofInt ((4 : Nat) : Int)))])) _
      refine XS.iconst X0.here hx rfl (hb hby d1_34) ?_
      show Steps p.tables e below (s₁.setTop (mkF m 35 #[.val (.int p1), .val (.int (Int32.ofInt ((4 : Nat) : Int)))] [(.int (3 : Int32)), (.int (Int32.ofInt ((4 : Nat) : Int)))])) _
      refine XS.icmpYes X0.here hx rfl (pc0 := 35) (pc' := 42) rfl (hb hby d1_35) rfl (feq (by decide)).2 (by decide) (by decide) ?_
      exact kt)
    obtain ⟨T15, X15, e15, st15⟩ := getS2 X0 hx hZ hown (host := "") (Or.inl (hw _ (List.mem_of_getElem? (i := 59) rfl))) Via.refl e0 S4 (g := (mkF m 42 #[.val (.int p1), .val (.int (Int32.ofInt ((4 : Nat) : Int)))] [])) rfl (hb hby d1_42)
    have pre16 : ∀ t, Steps p.tables e below (T15.setTop (mkF m 45 #[.val (.int p1), .val (.int (Int32.ofInt ((4 : Nat) : Int)))] [(.ref (ad 4))])) t → Steps p.tables e below (s₁.setTop (entryFrame m #[(.int p1)] 2)) t := fun t kt => pre14 t (st15 t kt)
    obtain ⟨fs, hr, hrun, hended, hW, hsame⟩ := X15.leave (v := some (.ref (ad 4))) (fun h => by rw [Bd.returns] at h; cases h)
    refine ⟨_, _, pre16 _ ?_, hrun, hended, _, _, rfl, ?_, ⟨_, rfl⟩, hW, hsame.mono (by decide) (by decide)⟩
    · show Steps p.tables e below (T15.setTop (mkF m 45 #[.val (.int p1), .val (.int (Int32.ofInt ((4 : Nat) : Int)))] [(.ref (ad 4))])) _
      jvm_step X15.here [X15.here.top, hx, (hb hby d1_45), X15.method', Bd.returns, Value.isRef, FieldType.isReference]
      first | (intro acts; rw [hr _ acts rfl rfl rfl]) | rw [hr _ _ rfl rfl rfl]
      exact Steps.refl _
    · show Q1 Z p1 ad h0 n0 _ T15.heap _
      rw [e15]
      exact ⟨by rw [h5], rfl, rfl⟩
theorem d3_0 : decode jdk_37_method_2_code 0 = .ok (.aload_n 0, 1) := by decide +kernel
theorem d3_1 : decode jdk_37_method_2_code 1 = .ok (.getfield 7, 3) := by decide +kernel
theorem d3_4 : decode jdk_37_method_2_code 4 = .ok (.ireturn, 1) := by decide +kernel
theorem pn_3 : plainName "java/lang/Enum" = true := by first | (simp [plainName, overriddenIn]; done) | decide +kernel
theorem ef_3 (m : MethodId) (x0 : Addr) : entryFrame m #[(.ref x0)] 1 = mkF m 0 #[.val (.ref x0)] [] := by first | (simp [entryFrame, mkF, argsToLocals, Value.category]; done) | rfl
def Q3 (Z : State) (a1 : Addr) (x : Int32) (h0 : Heap) (n0 : Nat) (v : Option Value) (h : Heap) (L : List Loc) : Prop := v = some (.int x) ∧ L = [] ∧ h = h0
set_option maxRecDepth 65536 in
set_option maxHeartbeats 40000000 in
theorem rm3 (l : Launch) (Z : State) (a0 : Array Value) (hw : ∀ d ∈ tables_1, d.before a0 Z = true) (ws : List Jvm.Cond) (a1 : Addr) (x : Int32) (h0 : Heap) (n0 : Nat) (Z0 : n0 ≤ h0.size) (Fo : Fld Z h0 a1 "java/lang/Enum" "ordinal" "I" (.int x)) :
    MetFree l (⟨"java/lang/Enum", "ordinal", "()I"⟩ : MethodName) (head1 (Jvm.Cond.code (⟨"java/lang/Enum", "ordinal", "()I"⟩ : MethodName) jdk_37_method_2_code 1 (some .int) :: ws) ({ frames := 0, cells := 0, slots := 0, locals := 0 } : Room)) (fun a U => a = #[(.ref a1)] ∧ Z.Warmed39 U.vm ∧ U.heap = h0) (fun _ _ _ _ _ => True) (fun _ U ou U' => ∃ v L, ou = .returned v ∧ Q3 Z a1 x h0 n0 v U'.heap L ∧ FrameEnd U ou U' L ({ frames := 0, cells := 0, slots := 0, locals := 0 } : Room).cells ({ frames := 0, cells := 0, slots := 0, locals := 0 } : Room).slots) := by
  refine MetFree.of_bodySF (plainFor_of_name pn_3) hisR ?_
  intro p e s m args below meth c s₁ Bd hml0 hP hK
  obtain ⟨rfl, hZ, hh⟩ := hP
  have hx := Bd.exec
  have hby := Bd.bytes
  have hml : c.maxLocals = 1 := hml0
  have hown : s.vm.findClass "java/lang/Enum" = some m.cls := findClass_of_methodNamed Bd.named
  have hnm := (name_of_methodNamed Bd.named Bd.method).1
  have X0 : Stand p l e ({ frames := 0, cells := 0, slots := 0, locals := 0 } : Room) s m #[(.ref a1)] below meth c s₁ [] 0 0 := Stand.of_body Bd
  have e0 : s₁.heap = h0 := by rw [← hh, Bd.state]; rfl
  have N0 := Fr.nil n0
  have pre0 : ∀ t, Steps p.tables e below (s₁.setTop (mkF m 0 #[.val (.ref a1)] [])) t → Steps p.tables e below (s₁.setTop (entryFrame m #[(.ref a1)] 1)) t := fun t k => castTop (ef_3 m (a1)) k
  have pre1 : ∀ t, Steps p.tables e below (s₁.setTop (mkF m 1 #[.val (.ref a1)] [(.ref a1)])) t → Steps p.tables e below (s₁.setTop (entryFrame m #[(.ref a1)] 1)) t := fun t kt => pre0 t (by
    show Steps p.tables e below (s₁.setTop (mkF m 0 #[.val (.ref a1)] [])) _
    refine XS.aloadN X0.here hx rfl (hb hby d3_0) rfl rfl ?_
    exact kt)
  obtain ⟨T2, X2, e2, st2⟩ := getF X0 hx hZ hown (host := "") (Or.inl (hw _ (List.mem_of_getElem? (i := 22) rfl))) Via.refl e0 Fo (g := (mkF m 1 #[.val (.ref a1)] [(.ref a1)])) rfl rfl (hb hby d3_1)
  have pre3 : ∀ t, Steps p.tables e below (T2.setTop (mkF m 4 #[.val (.ref a1)] [(.int x)])) t → Steps p.tables e below (s₁.setTop (entryFrame m #[(.ref a1)] 1)) t := fun t kt => pre1 t (st2 t kt)
  obtain ⟨fs, hr, hrun, hended, hW, hsame⟩ := X2.leave (v := some (.int x)) (fun h => by rw [Bd.returns] at h; cases h)
  refine ⟨_, _, pre3 _ ?_, hrun, hended, _, _, rfl, ?_, ⟨_, rfl⟩, hW, hsame.mono (by decide) (by decide)⟩
  · show Steps p.tables e below (T2.setTop (mkF m 4 #[.val (.ref a1)] [(.int x)])) _
    exact retI X2 hx Bd.returns (hb hby d3_4) hr
  · show Q3 Z a1 x h0 n0 _ T2.heap _
    rw [e2]
    exact ⟨rfl, rfl, rfl⟩
theorem d4_0 : decode method_3_code 0 = .ok (.aload_n 0, 1) := by decide +kernel
theorem d4_1 : decode method_3_code 1 = .ok (.getstatic 14, 3) := by decide +kernel
theorem d4_4 : decode method_3_code 4 = .ok (.if_acmp .ne 5, 3) := by decide +kernel
theorem d4_7 : decode method_3_code 7 = .ok (.iconst 0, 1) := by decide +kernel
theorem d4_8 : decode method_3_code 8 = .ok (.ireturn, 1) := by decide +kernel
theorem d4_9 : decode method_3_code 9 = .ok (.aload_n 0, 1) := by decide +kernel
theorem d4_10 : decode method_3_code 10 = .ok (.getstatic 17, 3) := by decide +kernel
theorem d4_13 : decode method_3_code 13 = .ok (.if_acmp .eq 10, 3) := by decide +kernel
theorem d4_16 : decode method_3_code 16 = .ok (.aload_n 0, 1) := by decide +kernel
theorem d4_17 : decode method_3_code 17 = .ok (.getstatic 20, 3) := by decide +kernel
theorem d4_20 : decode method_3_code 20 = .ok (.if_acmp .ne 5, 3) := by decide +kernel
theorem d4_23 : decode method_3_code 23 = .ok (.iconst 1, 1) := by decide +kernel
theorem d4_24 : decode method_3_code 24 = .ok (.ireturn, 1) := by decide +kernel
theorem d4_25 : decode method_3_code 25 = .ok (.iconst 2, 1) := by decide +kernel
theorem d4_26 : decode method_3_code 26 = .ok (.ireturn, 1) := by decide +kernel
theorem pn_4 : plainName "com/example/quillet/quillet/jpql/AggregateFunctionArgumentPinLaw" = true := by first | (simp [plainName, overriddenIn]; done) | decide +kernel
theorem ef_4 (m : MethodId) (x0 : Addr) : entryFrame m #[(.ref x0)] 1 = mkF m 0 #[.val (.ref x0)] [] := by first | (simp [entryFrame, mkF, argsToLocals, Value.category]; done) | rfl
def Q4 (Z : State) (j : Nat) (ad : Nat → Addr) (h0 : Heap) (n0 : Nat) (v : Option Value) (h : Heap) (L : List Loc) : Prop := v = some (.int (own_g j)) ∧ L = [] ∧ h = h0
set_option maxRecDepth 65536 in
set_option maxHeartbeats 40000000 in
theorem rm4 (l : Launch) (Z : State) (a0 : Array Value) (hw : ∀ d ∈ tables_1, d.before a0 Z = true) (ws : List Jvm.Cond) (j : Nat) (ad : Nat → Addr) (h0 : Heap) (n0 : Nat) (Z0 : n0 ≤ h0.size) (S0 : Sta Z h0 "com/example/quillet/quillet/jpql/AggregateFunction" "AVG" "Lcom/example/quillet/quillet/jpql/AggregateFunction;" (.ref (ad 0))) (S1 : Sta Z h0 "com/example/quillet/quillet/jpql/AggregateFunction" "COUNT" "Lcom/example/quillet/quillet/jpql/AggregateFunction;" (.ref (ad 1))) (S2 : Sta Z h0 "com/example/quillet/quillet/jpql/AggregateFunction" "MAX" "Lcom/example/quillet/quillet/jpql/AggregateFunction;" (.ref (ad 2))) (S3 : Sta Z h0 "com/example/quillet/quillet/jpql/AggregateFunction" "MIN" "Lcom/example/quillet/quillet/jpql/AggregateFunction;" (.ref (ad 3))) (S4 : Sta Z h0 "com/example/quillet/quillet/jpql/AggregateFunction" "SUM" "Lcom/example/quillet/quillet/jpql/AggregateFunction;" (.ref (ad 4))) (hj5 : j < 5) (inj : ∀ i k, i < 5 → k < 5 → ad i = ad k → i = k) :
    MetFree l (⟨"com/example/quillet/quillet/jpql/AggregateFunctionArgumentPinLaw", "group", "(Lcom/example/quillet/quillet/jpql/AggregateFunction;)I"⟩ : MethodName) (head1 (Jvm.Cond.code (⟨"com/example/quillet/quillet/jpql/AggregateFunctionArgumentPinLaw", "group", "(Lcom/example/quillet/quillet/jpql/AggregateFunction;)I"⟩ : MethodName) method_3_code 1 (some .int) :: ws) ({ frames := 0, cells := 0, slots := 0, locals := 0 } : Room)) (fun a U => a = #[(.ref (ad j))] ∧ Z.Warmed39 U.vm ∧ U.heap = h0) (fun _ _ _ _ _ => True) (fun _ U ou U' => ∃ v L, ou = .returned v ∧ Q4 Z j ad h0 n0 v U'.heap L ∧ FrameEnd U ou U' L ({ frames := 0, cells := 0, slots := 0, locals := 0 } : Room).cells ({ frames := 0, cells := 0, slots := 0, locals := 0 } : Room).slots) := by
  refine MetFree.of_bodySF (plainFor_of_name pn_4) hisR ?_
  intro p e s m args below meth c s₁ Bd hml0 hP hK
  obtain ⟨rfl, hZ, hh⟩ := hP
  have hx := Bd.exec
  have hby := Bd.bytes
  have hml : c.maxLocals = 1 := hml0
  have hown : s.vm.findClass "com/example/quillet/quillet/jpql/AggregateFunctionArgumentPinLaw" = some m.cls := findClass_of_methodNamed Bd.named
  have hnm := (name_of_methodNamed Bd.named Bd.method).1
  have X0 : Stand p l e ({ frames := 0, cells := 0, slots := 0, locals := 0 } : Room) s m #[(.ref (ad j))] below meth c s₁ [] 0 0 := Stand.of_body Bd
  have e0 : s₁.heap = h0 := by rw [← hh, Bd.state]; rfl
  have N0 := Fr.nil n0
  have pre0 : ∀ t, Steps p.tables e below (s₁.setTop (mkF m 0 #[.val (.ref (ad j))] [])) t → Steps p.tables e below (s₁.setTop (entryFrame m #[(.ref (ad j))] 1)) t := fun t k => castTop (ef_4 m ((ad j))) k
  rcases own_5 hj5 with h5 | h5 | h5 | h5 | h5
  · subst h5
    have pre1 : ∀ t, Steps p.tables e below (s₁.setTop (mkF m 1 #[.val (.ref (ad 0))] [(.ref (ad 0))])) t → Steps p.tables e below (s₁.setTop (entryFrame m #[(.ref (ad 0))] 1)) t := fun t kt => pre0 t (by
      show Steps p.tables e below (s₁.setTop (mkF m 0 #[.val (.ref (ad 0))] [])) _
      refine XS.aloadN X0.here hx rfl (hb hby d4_0) rfl rfl ?_
      exact kt)
    obtain ⟨T2, X2, e2, st2⟩ := getS2 X0 hx hZ hown (host := "") (Or.inl (hw _ (List.mem_of_getElem? (i := 36) rfl))) Via.refl e0 S1 (g := (mkF m 1 #[.val (.ref (ad 0))] [(.ref (ad 0))])) rfl (hb hby d4_1)
    have pre3 : ∀ t, Steps p.tables e below (T2.setTop (mkF m 4 #[.val (.ref (ad 0))] [(.ref (ad 1)), (.ref (ad 0))])) t → Steps p.tables e below (s₁.setTop (entryFrame m #[(.ref (ad 0))] 1)) t := fun t kt => pre1 t (st2 t kt)
    have pre4 : ∀ t, Steps p.tables e below (T2.setTop (mkF m 10 #[.val (.ref (ad 0))] [(.ref (ad 0))])) t → Steps p.tables e below (s₁.setTop (entryFrame m #[(.ref (ad 0))] 1)) t := fun t kt => pre3 t (by
      show Steps p.tables e below (T2.setTop (mkF m 4 #[.val (.ref (ad 0))] [(.ref (ad 1)), (.ref (ad 0))])) _
      refine Jvm.RoadKit.acmp (g := (mkF m 4 #[.val (.ref (ad 0))] [(.ref (ad 1)), (.ref (ad 0))])) X2 hx rfl rfl rfl (pc0 := 4) (pc' := 9) (same := false) rfl (hb hby d4_4) rfl (decide_eq_false fun q => (fun q => absurd (inj 0 1 (by decide) (by decide) q) (by decide)) (Value.ref.inj q)) (by decide) (by decide) ?_
      show Steps p.tables e below (T2.setTop (mkF m 9 #[.val (.ref (ad 0))] [])) _
      refine XS.aloadN X2.here hx rfl (hb hby d4_9) rfl rfl ?_
      exact kt)
    obtain ⟨T5, X5, e5, st5⟩ := getS2 X2 hx hZ hown (host := "") (Or.inl (hw _ (List.mem_of_getElem? (i := 38) rfl))) Via.refl e2 S2 (g := (mkF m 10 #[.val (.ref (ad 0))] [(.ref (ad 0))])) rfl (hb hby d4_10)
    have pre6 : ∀ t, Steps p.tables e below (T5.setTop (mkF m 13 #[.val (.ref (ad 0))] [(.ref (ad 2)), (.ref (ad 0))])) t → Steps p.tables e below (s₁.setTop (entryFrame m #[(.ref (ad 0))] 1)) t := fun t kt => pre4 t (st5 t kt)
    have pre7 : ∀ t, Steps p.tables e below (T5.setTop (mkF m 17 #[.val (.ref (ad 0))] [(.ref (ad 0))])) t → Steps p.tables e below (s₁.setTop (entryFrame m #[(.ref (ad 0))] 1)) t := fun t kt => pre6 t (by
      show Steps p.tables e below (T5.setTop (mkF m 13 #[.val (.ref (ad 0))] [(.ref (ad 2)), (.ref (ad 0))])) _
      refine Jvm.RoadKit.acmp (g := (mkF m 13 #[.val (.ref (ad 0))] [(.ref (ad 2)), (.ref (ad 0))])) X5 hx rfl rfl rfl (pc0 := 13) (pc' := 16) (same := false) rfl (hb hby d4_13) rfl (decide_eq_false fun q => (fun q => absurd (inj 0 2 (by decide) (by decide) q) (by decide)) (Value.ref.inj q)) (by decide) (by decide) ?_
      show Steps p.tables e below (T5.setTop (mkF m 16 #[.val (.ref (ad 0))] [])) _
      refine XS.aloadN X5.here hx rfl (hb hby d4_16) rfl rfl ?_
      exact kt)
    obtain ⟨T8, X8, e8, st8⟩ := getS2 X5 hx hZ hown (host := "") (Or.inl (hw _ (List.mem_of_getElem? (i := 8) rfl))) Via.refl e5 S3 (g := (mkF m 17 #[.val (.ref (ad 0))] [(.ref (ad 0))])) rfl (hb hby d4_17)
    have pre9 : ∀ t, Steps p.tables e below (T8.setTop (mkF m 20 #[.val (.ref (ad 0))] [(.ref (ad 3)), (.ref (ad 0))])) t → Steps p.tables e below (s₁.setTop (entryFrame m #[(.ref (ad 0))] 1)) t := fun t kt => pre7 t (st8 t kt)
    have pre10 : ∀ t, Steps p.tables e below (T8.setTop (mkF m 26 #[.val (.ref (ad 0))] [(.int (2 : Int32))])) t → Steps p.tables e below (s₁.setTop (entryFrame m #[(.ref (ad 0))] 1)) t := fun t kt => pre9 t (by
      show Steps p.tables e below (T8.setTop (mkF m 20 #[.val (.ref (ad 0))] [(.ref (ad 3)), (.ref (ad 0))])) _
      refine Jvm.RoadKit.acmp (g := (mkF m 20 #[.val (.ref (ad 0))] [(.ref (ad 3)), (.ref (ad 0))])) X8 hx rfl rfl rfl (pc0 := 20) (pc' := 25) (same := false) rfl (hb hby d4_20) rfl (decide_eq_false fun q => (fun q => absurd (inj 0 3 (by decide) (by decide) q) (by decide)) (Value.ref.inj q)) (by decide) (by decide) ?_
      show Steps p.tables e below (T8.setTop (mkF m 25 #[.val (.ref (ad 0))] [])) _
      refine XS.iconst X8.here hx rfl (hb hby d4_25) ?_
      exact kt)
    obtain ⟨fs, hr, hrun, hended, hW, hsame⟩ := X8.leave (v := some (.int (2 : Int32))) (fun h => by rw [Bd.returns] at h; cases h)
    refine ⟨_, _, pre10 _ ?_, hrun, hended, _, _, rfl, ?_, ⟨_, rfl⟩, hW, hsame.mono (by decide) (by decide)⟩
    · show Steps p.tables e below (T8.setTop (mkF m 26 #[.val (.ref (ad 0))] [(.int (2 : Int32))])) _
      exact retI X8 hx Bd.returns (hb hby d4_26) hr
    · show Q4 Z 0 ad h0 n0 _ T8.heap _
      rw [e8]
      exact ⟨rfl, rfl, rfl⟩
  · subst h5
    have pre11 : ∀ t, Steps p.tables e below (s₁.setTop (mkF m 1 #[.val (.ref (ad 1))] [(.ref (ad 1))])) t → Steps p.tables e below (s₁.setTop (entryFrame m #[(.ref (ad 1))] 1)) t := fun t kt => pre0 t (by
      show Steps p.tables e below (s₁.setTop (mkF m 0 #[.val (.ref (ad 1))] [])) _
      refine XS.aloadN X0.here hx rfl (hb hby d4_0) rfl rfl ?_
      exact kt)
    obtain ⟨T12, X12, e12, st12⟩ := getS2 X0 hx hZ hown (host := "") (Or.inl (hw _ (List.mem_of_getElem? (i := 36) rfl))) Via.refl e0 S1 (g := (mkF m 1 #[.val (.ref (ad 1))] [(.ref (ad 1))])) rfl (hb hby d4_1)
    have pre13 : ∀ t, Steps p.tables e below (T12.setTop (mkF m 4 #[.val (.ref (ad 1))] [(.ref (ad 1)), (.ref (ad 1))])) t → Steps p.tables e below (s₁.setTop (entryFrame m #[(.ref (ad 1))] 1)) t := fun t kt => pre11 t (st12 t kt)
    have pre14 : ∀ t, Steps p.tables e below (T12.setTop (mkF m 8 #[.val (.ref (ad 1))] [(.int (0 : Int32))])) t → Steps p.tables e below (s₁.setTop (entryFrame m #[(.ref (ad 1))] 1)) t := fun t kt => pre13 t (by
      show Steps p.tables e below (T12.setTop (mkF m 4 #[.val (.ref (ad 1))] [(.ref (ad 1)), (.ref (ad 1))])) _
      refine Jvm.RoadKit.acmp (g := (mkF m 4 #[.val (.ref (ad 1))] [(.ref (ad 1)), (.ref (ad 1))])) X12 hx rfl rfl rfl (pc0 := 4) (pc' := 7) (same := true) rfl (hb hby d4_4) rfl (decide_eq_true rfl) (by decide) (by decide) ?_
      show Steps p.tables e below (T12.setTop (mkF m 7 #[.val (.ref (ad 1))] [])) _
      refine XS.iconst X12.here hx rfl (hb hby d4_7) ?_
      exact kt)
    obtain ⟨fs, hr, hrun, hended, hW, hsame⟩ := X12.leave (v := some (.int (0 : Int32))) (fun h => by rw [Bd.returns] at h; cases h)
    refine ⟨_, _, pre14 _ ?_, hrun, hended, _, _, rfl, ?_, ⟨_, rfl⟩, hW, hsame.mono (by decide) (by decide)⟩
    · show Steps p.tables e below (T12.setTop (mkF m 8 #[.val (.ref (ad 1))] [(.int (0 : Int32))])) _
      exact retI X12 hx Bd.returns (hb hby d4_8) hr
    · show Q4 Z 1 ad h0 n0 _ T12.heap _
      rw [e12]
      exact ⟨rfl, rfl, rfl⟩
  · subst h5
    have pre15 : ∀ t, Steps p.tables e below (s₁.setTop (mkF m 1 #[.val (.ref (ad 2))] [(.ref (ad 2))])) t → Steps p.tables e below (s₁.setTop (entryFrame m #[(.ref (ad 2))] 1)) t := fun t kt => pre0 t (by
      show Steps p.tables e below (s₁.setTop (mkF m 0 #[.val (.ref (ad 2))] [])) _
      refine XS.aloadN X0.here hx rfl (hb hby d4_0) rfl rfl ?_
      exact kt)
    obtain ⟨T16, X16, e16, st16⟩ := getS2 X0 hx hZ hown (host := "") (Or.inl (hw _ (List.mem_of_getElem? (i := 36) rfl))) Via.refl e0 S1 (g := (mkF m 1 #[.val (.ref (ad 2))] [(.ref (ad 2))])) rfl (hb hby d4_1)
    have pre17 : ∀ t, Steps p.tables e below (T16.setTop (mkF m 4 #[.val (.ref (ad 2))] [(.ref (ad 1)), (.ref (ad 2))])) t → Steps p.tables e below (s₁.setTop (entryFrame m #[(.ref (ad 2))] 1)) t := fun t kt => pre15 t (st16 t kt)
    have pre18 : ∀ t, Steps p.tables e below (T16.setTop (mkF m 10 #[.val (.ref (ad 2))] [(.ref (ad 2))])) t → Steps p.tables e below (s₁.setTop (entryFrame m #[(.ref (ad 2))] 1)) t := fun t kt => pre17 t (by
      show Steps p.tables e below (T16.setTop (mkF m 4 #[.val (.ref (ad 2))] [(.ref (ad 1)), (.ref (ad 2))])) _
      refine Jvm.RoadKit.acmp (g := (mkF m 4 #[.val (.ref (ad 2))] [(.ref (ad 1)), (.ref (ad 2))])) X16 hx rfl rfl rfl (pc0 := 4) (pc' := 9) (same := false) rfl (hb hby d4_4) rfl (decide_eq_false fun q => (fun q => absurd (inj 2 1 (by decide) (by decide) q) (by decide)) (Value.ref.inj q)) (by decide) (by decide) ?_
      show Steps p.tables e below (T16.setTop (mkF m 9 #[.val (.ref (ad 2))] [])) _
      refine XS.aloadN X16.here hx rfl (hb hby d4_9) rfl rfl ?_
      exact kt)
    obtain ⟨T19, X19, e19, st19⟩ := getS2 X16 hx hZ hown (host := "") (Or.inl (hw _ (List.mem_of_getElem? (i := 38) rfl))) Via.refl e16 S2 (g := (mkF m 10 #[.val (.ref (ad 2))] [(.ref (ad 2))])) rfl (hb hby d4_10)
    have pre20 : ∀ t, Steps p.tables e below (T19.setTop (mkF m 13 #[.val (.ref (ad 2))] [(.ref (ad 2)), (.ref (ad 2))])) t → Steps p.tables e below (s₁.setTop (entryFrame m #[(.ref (ad 2))] 1)) t := fun t kt => pre18 t (st19 t kt)
    have pre21 : ∀ t, Steps p.tables e below (T19.setTop (mkF m 24 #[.val (.ref (ad 2))] [(.int (1 : Int32))])) t → Steps p.tables e below (s₁.setTop (entryFrame m #[(.ref (ad 2))] 1)) t := fun t kt => pre20 t (by
      show Steps p.tables e below (T19.setTop (mkF m 13 #[.val (.ref (ad 2))] [(.ref (ad 2)), (.ref (ad 2))])) _
      refine Jvm.RoadKit.acmp (g := (mkF m 13 #[.val (.ref (ad 2))] [(.ref (ad 2)), (.ref (ad 2))])) X19 hx rfl rfl rfl (pc0 := 13) (pc' := 23) (same := true) rfl (hb hby d4_13) rfl (decide_eq_true rfl) (by decide) (by decide) ?_
      show Steps p.tables e below (T19.setTop (mkF m 23 #[.val (.ref (ad 2))] [])) _
      refine XS.iconst X19.here hx rfl (hb hby d4_23) ?_
      exact kt)
    obtain ⟨fs, hr, hrun, hended, hW, hsame⟩ := X19.leave (v := some (.int (1 : Int32))) (fun h => by rw [Bd.returns] at h; cases h)
    refine ⟨_, _, pre21 _ ?_, hrun, hended, _, _, rfl, ?_, ⟨_, rfl⟩, hW, hsame.mono (by decide) (by decide)⟩
    · show Steps p.tables e below (T19.setTop (mkF m 24 #[.val (.ref (ad 2))] [(.int (1 : Int32))])) _
      exact retI X19 hx Bd.returns (hb hby d4_24) hr
    · show Q4 Z 2 ad h0 n0 _ T19.heap _
      rw [e19]
      exact ⟨rfl, rfl, rfl⟩
  · subst h5
    have pre22 : ∀ t, Steps p.tables e below (s₁.setTop (mkF m 1 #[.val (.ref (ad 3))] [(.ref (ad 3))])) t → Steps p.tables e below (s₁.setTop (entryFrame m #[(.ref (ad 3))] 1)) t := fun t kt => pre0 t (by
      show Steps p.tables e below (s₁.setTop (mkF m 0 #[.val (.ref (ad 3))] [])) _
      refine XS.aloadN X0.here hx rfl (hb hby d4_0) rfl rfl ?_
      exact kt)
    obtain ⟨T23, X23, e23, st23⟩ := getS2 X0 hx hZ hown (host := "") (Or.inl (hw _ (List.mem_of_getElem? (i := 36) rfl))) Via.refl e0 S1 (g := (mkF m 1 #[.val (.ref (ad 3))] [(.ref (ad 3))])) rfl (hb hby d4_1)
    have pre24 : ∀ t, Steps p.tables e below (T23.setTop (mkF m 4 #[.val (.ref (ad 3))] [(.ref (ad 1)), (.ref (ad 3))])) t → Steps p.tables e below (s₁.setTop (entryFrame m #[(.ref (ad 3))] 1)) t := fun t kt => pre22 t (st23 t kt)
    have pre25 : ∀ t, Steps p.tables e below (T23.setTop (mkF m 10 #[.val (.ref (ad 3))] [(.ref (ad 3))])) t → Steps p.tables e below (s₁.setTop (entryFrame m #[(.ref (ad 3))] 1)) t := fun t kt => pre24 t (by
      show Steps p.tables e below (T23.setTop (mkF m 4 #[.val (.ref (ad 3))] [(.ref (ad 1)), (.ref (ad 3))])) _
      refine Jvm.RoadKit.acmp (g := (mkF m 4 #[.val (.ref (ad 3))] [(.ref (ad 1)), (.ref (ad 3))])) X23 hx rfl rfl rfl (pc0 := 4) (pc' := 9) (same := false) rfl (hb hby d4_4) rfl (decide_eq_false fun q => (fun q => absurd (inj 3 1 (by decide) (by decide) q) (by decide)) (Value.ref.inj q)) (by decide) (by decide) ?_
      show Steps p.tables e below (T23.setTop (mkF m 9 #[.val (.ref (ad 3))] [])) _
      refine XS.aloadN X23.here hx rfl (hb hby d4_9) rfl rfl ?_
      exact kt)
    obtain ⟨T26, X26, e26, st26⟩ := getS2 X23 hx hZ hown (host := "") (Or.inl (hw _ (List.mem_of_getElem? (i := 38) rfl))) Via.refl e23 S2 (g := (mkF m 10 #[.val (.ref (ad 3))] [(.ref (ad 3))])) rfl (hb hby d4_10)
    have pre27 : ∀ t, Steps p.tables e below (T26.setTop (mkF m 13 #[.val (.ref (ad 3))] [(.ref (ad 2)), (.ref (ad 3))])) t → Steps p.tables e below (s₁.setTop (entryFrame m #[(.ref (ad 3))] 1)) t := fun t kt => pre25 t (st26 t kt)
    have pre28 : ∀ t, Steps p.tables e below (T26.setTop (mkF m 17 #[.val (.ref (ad 3))] [(.ref (ad 3))])) t → Steps p.tables e below (s₁.setTop (entryFrame m #[(.ref (ad 3))] 1)) t := fun t kt => pre27 t (by
      show Steps p.tables e below (T26.setTop (mkF m 13 #[.val (.ref (ad 3))] [(.ref (ad 2)), (.ref (ad 3))])) _
      refine Jvm.RoadKit.acmp (g := (mkF m 13 #[.val (.ref (ad 3))] [(.ref (ad 2)), (.ref (ad 3))])) X26 hx rfl rfl rfl (pc0 := 13) (pc' := 16) (same := false) rfl (hb hby d4_13) rfl (decide_eq_false fun q => (fun q => absurd (inj 3 2 (by decide) (by decide) q) (by decide)) (Value.ref.inj q)) (by decide) (by decide) ?_
      show Steps p.tables e below (T26.setTop (mkF m 16 #[.val (.ref (ad 3))] [])) _
      refine XS.aloadN X26.here hx rfl (hb hby d4_16) rfl rfl ?_
      exact kt)
    obtain ⟨T29, X29, e29, st29⟩ := getS2 X26 hx hZ hown (host := "") (Or.inl (hw _ (List.mem_of_getElem? (i := 8) rfl))) Via.refl e26 S3 (g := (mkF m 17 #[.val (.ref (ad 3))] [(.ref (ad 3))])) rfl (hb hby d4_17)
    have pre30 : ∀ t, Steps p.tables e below (T29.setTop (mkF m 20 #[.val (.ref (ad 3))] [(.ref (ad 3)), (.ref (ad 3))])) t → Steps p.tables e below (s₁.setTop (entryFrame m #[(.ref (ad 3))] 1)) t := fun t kt => pre28 t (st29 t kt)
    have pre31 : ∀ t, Steps p.tables e below (T29.setTop (mkF m 24 #[.val (.ref (ad 3))] [(.int (1 : Int32))])) t → Steps p.tables e below (s₁.setTop (entryFrame m #[(.ref (ad 3))] 1)) t := fun t kt => pre30 t (by
      show Steps p.tables e below (T29.setTop (mkF m 20 #[.val (.ref (ad 3))] [(.ref (ad 3)), (.ref (ad 3))])) _
      refine Jvm.RoadKit.acmp (g := (mkF m 20 #[.val (.ref (ad 3))] [(.ref (ad 3)), (.ref (ad 3))])) X29 hx rfl rfl rfl (pc0 := 20) (pc' := 23) (same := true) rfl (hb hby d4_20) rfl (decide_eq_true rfl) (by decide) (by decide) ?_
      show Steps p.tables e below (T29.setTop (mkF m 23 #[.val (.ref (ad 3))] [])) _
      refine XS.iconst X29.here hx rfl (hb hby d4_23) ?_
      exact kt)
    obtain ⟨fs, hr, hrun, hended, hW, hsame⟩ := X29.leave (v := some (.int (1 : Int32))) (fun h => by rw [Bd.returns] at h; cases h)
    refine ⟨_, _, pre31 _ ?_, hrun, hended, _, _, rfl, ?_, ⟨_, rfl⟩, hW, hsame.mono (by decide) (by decide)⟩
    · show Steps p.tables e below (T29.setTop (mkF m 24 #[.val (.ref (ad 3))] [(.int (1 : Int32))])) _
      exact retI X29 hx Bd.returns (hb hby d4_24) hr
    · show Q4 Z 3 ad h0 n0 _ T29.heap _
      rw [e29]
      exact ⟨rfl, rfl, rfl⟩
  · subst h5
    have pre32 : ∀ t, Steps p.tables e below (s₁.setTop (mkF m 1 #[.val (.ref (ad 4))] [(.ref (ad 4))])) t → Steps p.tables e below (s₁.setTop (entryFrame m #[(.ref (ad 4))] 1)) t := fun t kt => pre0 t (by
      show Steps p.tables e below (s₁.setTop (mkF m 0 #[.val (.ref (ad 4))] [])) _
      refine XS.aloadN X0.here hx rfl (hb hby d4_0) rfl rfl ?_
      exact kt)
    obtain ⟨T33, X33, e33, st33⟩ := getS2 X0 hx hZ hown (host := "") (Or.inl (hw _ (List.mem_of_getElem? (i := 36) rfl))) Via.refl e0 S1 (g := (mkF m 1 #[.val (.ref (ad 4))] [(.ref (ad 4))])) rfl (hb hby d4_1)
    have pre34 : ∀ t, Steps p.tables e below (T33.setTop (mkF m 4 #[.val (.ref (ad 4))] [(.ref (ad 1)), (.ref (ad 4))])) t → Steps p.tables e below (s₁.setTop (entryFrame m #[(.ref (ad 4))] 1)) t := fun t kt => pre32 t (st33 t kt)
    have pre35 : ∀ t, Steps p.tables e below (T33.setTop (mkF m 10 #[.val (.ref (ad 4))] [(.ref (ad 4))])) t → Steps p.tables e below (s₁.setTop (entryFrame m #[(.ref (ad 4))] 1)) t := fun t kt => pre34 t (by
      show Steps p.tables e below (T33.setTop (mkF m 4 #[.val (.ref (ad 4))] [(.ref (ad 1)), (.ref (ad 4))])) _
      refine Jvm.RoadKit.acmp (g := (mkF m 4 #[.val (.ref (ad 4))] [(.ref (ad 1)), (.ref (ad 4))])) X33 hx rfl rfl rfl (pc0 := 4) (pc' := 9) (same := false) rfl (hb hby d4_4) rfl (decide_eq_false fun q => (fun q => absurd (inj 4 1 (by decide) (by decide) q) (by decide)) (Value.ref.inj q)) (by decide) (by decide) ?_
      show Steps p.tables e below (T33.setTop (mkF m 9 #[.val (.ref (ad 4))] [])) _
      refine XS.aloadN X33.here hx rfl (hb hby d4_9) rfl rfl ?_
      exact kt)
    obtain ⟨T36, X36, e36, st36⟩ := getS2 X33 hx hZ hown (host := "") (Or.inl (hw _ (List.mem_of_getElem? (i := 38) rfl))) Via.refl e33 S2 (g := (mkF m 10 #[.val (.ref (ad 4))] [(.ref (ad 4))])) rfl (hb hby d4_10)
    have pre37 : ∀ t, Steps p.tables e below (T36.setTop (mkF m 13 #[.val (.ref (ad 4))] [(.ref (ad 2)), (.ref (ad 4))])) t → Steps p.tables e below (s₁.setTop (entryFrame m #[(.ref (ad 4))] 1)) t := fun t kt => pre35 t (st36 t kt)
    have pre38 : ∀ t, Steps p.tables e below (T36.setTop (mkF m 17 #[.val (.ref (ad 4))] [(.ref (ad 4))])) t → Steps p.tables e below (s₁.setTop (entryFrame m #[(.ref (ad 4))] 1)) t := fun t kt => pre37 t (by
      show Steps p.tables e below (T36.setTop (mkF m 13 #[.val (.ref (ad 4))] [(.ref (ad 2)), (.ref (ad 4))])) _
      refine Jvm.RoadKit.acmp (g := (mkF m 13 #[.val (.ref (ad 4))] [(.ref (ad 2)), (.ref (ad 4))])) X36 hx rfl rfl rfl (pc0 := 13) (pc' := 16) (same := false) rfl (hb hby d4_13) rfl (decide_eq_false fun q => (fun q => absurd (inj 4 2 (by decide) (by decide) q) (by decide)) (Value.ref.inj q)) (by decide) (by decide) ?_
      show Steps p.tables e below (T36.setTop (mkF m 16 #[.val (.ref (ad 4))] [])) _
      refine XS.aloadN X36.here hx rfl (hb hby d4_16) rfl rfl ?_
      exact kt)
    obtain ⟨T39, X39, e39, st39⟩ := getS2 X36 hx hZ hown (host := "") (Or.inl (hw _ (List.mem_of_getElem? (i := 8) rfl))) Via.refl e36 S3 (g := (mkF m 17 #[.val (.ref (ad 4))] [(.ref (ad 4))])) rfl (hb hby d4_17)
    have pre40 : ∀ t, Steps p.tables e below (T39.setTop (mkF m 20 #[.val (.ref (ad 4))] [(.ref (ad 3)), (.ref (ad 4))])) t → Steps p.tables e below (s₁.setTop (entryFrame m #[(.ref (ad 4))] 1)) t := fun t kt => pre38 t (st39 t kt)
    have pre41 : ∀ t, Steps p.tables e below (T39.setTop (mkF m 26 #[.val (.ref (ad 4))] [(.int (2 : Int32))])) t → Steps p.tables e below (s₁.setTop (entryFrame m #[(.ref (ad 4))] 1)) t := fun t kt => pre40 t (by
      show Steps p.tables e below (T39.setTop (mkF m 20 #[.val (.ref (ad 4))] [(.ref (ad 3)), (.ref (ad 4))])) _
      refine Jvm.RoadKit.acmp (g := (mkF m 20 #[.val (.ref (ad 4))] [(.ref (ad 3)), (.ref (ad 4))])) X39 hx rfl rfl rfl (pc0 := 20) (pc' := 25) (same := false) rfl (hb hby d4_20) rfl (decide_eq_false fun q => (fun q => absurd (inj 4 3 (by decide) (by decide) q) (by decide)) (Value.ref.inj q)) (by decide) (by decide) ?_
      show Steps p.tables e below (T39.setTop (mkF m 25 #[.val (.ref (ad 4))] [])) _
      refine XS.iconst X39.here hx rfl (hb hby d4_25) ?_
      exact kt)
    obtain ⟨fs, hr, hrun, hended, hW, hsame⟩ := X39.leave (v := some (.int (2 : Int32))) (fun h => by rw [Bd.returns] at h; cases h)
    refine ⟨_, _, pre41 _ ?_, hrun, hended, _, _, rfl, ?_, ⟨_, rfl⟩, hW, hsame.mono (by decide) (by decide)⟩
    · show Steps p.tables e below (T39.setTop (mkF m 26 #[.val (.ref (ad 4))] [(.int (2 : Int32))])) _
      exact retI X39 hx Bd.returns (hb hby d4_26) hr
    · show Q4 Z 4 ad h0 n0 _ T39.heap _
      rw [e39]
      exact ⟨rfl, rfl, rfl⟩
theorem d7_0 : decode jdk_43_method_13_code 0 = .ok (.aload_n 0, 1) := by decide +kernel
theorem d7_1 : decode jdk_43_method_13_code 1 = .ok (.arraylength, 1) := by decide +kernel
theorem d7_2 : decode jdk_43_method_13_code 2 = .ok (.aload_n 1, 1) := by decide +kernel
theorem d7_3 : decode jdk_43_method_13_code 3 = .ok (.arraylength, 1) := by decide +kernel
theorem d7_4 : decode jdk_43_method_13_code 4 = .ok (.if_icmp .ne 30, 3) := by decide +kernel
theorem d7_7 : decode jdk_43_method_13_code 7 = .ok (.iconst 0, 1) := by decide +kernel
theorem d7_8 : decode jdk_43_method_13_code 8 = .ok (.istore_n 2, 1) := by decide +kernel
theorem d7_9 : decode jdk_43_method_13_code 9 = .ok (.iload_n 2, 1) := by decide +kernel
theorem d7_10 : decode jdk_43_method_13_code 10 = .ok (.aload_n 0, 1) := by decide +kernel
theorem d7_11 : decode jdk_43_method_13_code 11 = .ok (.arraylength, 1) := by decide +kernel
theorem d7_12 : decode jdk_43_method_13_code 12 = .ok (.if_icmp .ge 20, 3) := by decide +kernel
theorem d7_15 : decode jdk_43_method_13_code 15 = .ok (.aload_n 0, 1) := by decide +kernel
theorem d7_16 : decode jdk_43_method_13_code 16 = .ok (.iload_n 2, 1) := by decide +kernel
theorem d7_17 : decode jdk_43_method_13_code 17 = .ok (.baload, 1) := by decide +kernel
theorem d7_18 : decode jdk_43_method_13_code 18 = .ok (.aload_n 1, 1) := by decide +kernel
theorem d7_19 : decode jdk_43_method_13_code 19 = .ok (.iload_n 2, 1) := by decide +kernel
theorem d7_20 : decode jdk_43_method_13_code 20 = .ok (.baload, 1) := by decide +kernel
theorem d7_21 : decode jdk_43_method_13_code 21 = .ok (.if_icmp .eq 5, 3) := by decide +kernel
theorem d7_26 : decode jdk_43_method_13_code 26 = .ok (.iinc 2 1, 3) := by decide +kernel
theorem d7_29 : decode jdk_43_method_13_code 29 = .ok (.goto (-20), 3) := by decide +kernel
theorem d7_32 : decode jdk_43_method_13_code 32 = .ok (.iconst 1, 1) := by decide +kernel
theorem d7_33 : decode jdk_43_method_13_code 33 = .ok (.ireturn, 1) := by decide +kernel
theorem d7_34 : decode jdk_43_method_13_code 34 = .ok (.iconst 0, 1) := by decide +kernel
theorem d7_35 : decode jdk_43_method_13_code 35 = .ok (.ireturn, 1) := by decide +kernel
theorem pn_7 : plainName "java/lang/StringLatin1" = true := by first | (simp [plainName, overriddenIn]; done) | decide +kernel
theorem ef_7 (m : MethodId) (x0 : Addr) (x1 : Addr) : entryFrame m #[(.ref x0), (.ref x1)] 3 = mkF m 0 #[.val (.ref x0), .val (.ref x1), .unset] [] := by first | (simp [entryFrame, mkF, argsToLocals, Value.category]; done) | rfl
def Q7a (Z : State) (a1 a2 : Addr) (n : Nat) (f g : Nat → Int32) (h0 : Heap) (n0 : Nat) (v : Option Value) (h : Heap) (L : List Loc) : Prop := v = some (.int (1 : Int32)) ∧ L = [] ∧ h = h0
set_option maxRecDepth 65536 in
set_option maxHeartbeats 40000000 in
theorem rm7a (l : Launch) (Z : State) (a0 : Array Value) (hw : ∀ d ∈ tables_1, d.before a0 Z = true) (ws : List Jvm.Cond) (a1 a2 : Addr) (n : Nat) (f g : Nat → Int32) (h0 : Heap) (n0 : Nat) (Z0 : n0 ≤ h0.size) (B1 : BA Z h0 a1 n f) (B2 : BA Z h0 a2 n g) (hn : n < 100) (hfg : ∀ j, j < n → f j = g j) :
    MetFree l (⟨"java/lang/StringLatin1", "equals", "([B[B)Z"⟩ : MethodName) (head1 (Jvm.Cond.code (⟨"java/lang/StringLatin1", "equals", "([B[B)Z"⟩ : MethodName) jdk_43_method_13_code 3 (some .boolean) :: ws) ({ frames := 0, cells := 0, slots := 0, locals := 0 } : Room)) (fun a U => a = #[(.ref a1), (.ref a2)] ∧ Z.Warmed39 U.vm ∧ U.heap = h0) (fun _ _ _ _ _ => True) (fun _ U ou U' => ∃ v L, ou = .returned v ∧ Q7a Z a1 a2 n f g h0 n0 v U'.heap L ∧ FrameEnd U ou U' L ({ frames := 0, cells := 0, slots := 0, locals := 0 } : Room).cells ({ frames := 0, cells := 0, slots := 0, locals := 0 } : Room).slots) := by
  refine MetFree.of_bodySF (plainFor_of_name pn_7) hisR ?_
  intro p e s m args below meth c s₁ Bd hml0 hP hK
  obtain ⟨rfl, hZ, hh⟩ := hP
  have hx := Bd.exec
  have hby := Bd.bytes
  have hml : c.maxLocals = 3 := hml0
  have hown : s.vm.findClass "java/lang/StringLatin1" = some m.cls := findClass_of_methodNamed Bd.named
  have hnm := (name_of_methodNamed Bd.named Bd.method).1
  have X0 : Stand p l e ({ frames := 0, cells := 0, slots := 0, locals := 0 } : Room) s m #[(.ref a1), (.ref a2)] below meth c s₁ [] 0 0 := Stand.of_body Bd
  have e0 : s₁.heap = h0 := by rw [← hh, Bd.state]; rfl
  have N0 := Fr.nil n0
  have pre0 : ∀ t, Steps p.tables e below (s₁.setTop (mkF m 0 #[.val (.ref a1), .val (.ref a2), .unset] [])) t → Steps p.tables e below (s₁.setTop (entryFrame m #[(.ref a1), (.ref a2)] 3)) t := fun t k => castTop (ef_7 m (a1) (a2)) k
  have hval : ∀ k : Nat, k ≤ 100 → (Int32.ofNat k).toInt = (k : Int) := fun k hk => Int32.toInt_ofNat_of_lt (by omega)
  have loop : ∀ (k i : Nat), i + k = n → ∀ t, Steps p.tables e below (s₁.setTop (mkF m 32 #[.val (.ref a1), .val (.ref a2), .val (.int (Int32.ofNat n))] [])) t → Steps p.tables e below (s₁.setTop (mkF m 9 #[.val (.ref a1), .val (.ref a2), .val (.int (Int32.ofNat i))] [])) t := by
    intro k
    induction k with
    | zero =>
      intro i hi t kt
      have hi' : i = n := by omega
      rw [hi']
      show Steps p.tables e below (s₁.setTop (mkF m 9 #[.val (.ref a1), .val (.ref a2), .val (.int (Int32.ofNat n))] [])) _
      refine XS.iloadN X0.here hx rfl (hb hby d7_9) rfl ?_
      show Steps p.tables e below (s₁.setTop (mkF m 10 #[.val (.ref a1), .val (.ref a2), .val (.int (Int32.ofNat n))] [(.int (Int32.ofNat n))])) _
      refine XS.aloadN X0.here hx rfl (hb hby d7_10) rfl rfl ?_
      show Steps p.tables e below (s₁.setTop (mkF m 11 #[.val (.ref a1), .val (.ref a2), .val (.int (Int32.ofNat n))] [(.ref a1), (.int (Int32.ofNat n))])) _
      refine own_blen X0 hx hZ e0 B1 (g := (mkF m 11 #[.val (.ref a1), .val (.ref a2), .val (.int (Int32.ofNat n))] [(.ref a1), (.int (Int32.ofNat n))])) rfl rfl (hb hby d7_11) _ ?_
      show Steps p.tables e below (s₁.setTop (mkF m 12 #[.val (.ref a1), .val (.ref a2), .val (.int (Int32.ofNat n))] [(.int (Int32.ofNat n)), (.int (Int32.ofNat n))])) _
      refine XS.icmpYes X0.here hx rfl (pc0 := 12) (pc' := 32) rfl (hb hby d7_12) rfl (flt Int32.lt_irrefl).2.1 (by decide) (by decide) ?_
      exact kt
    | succ k ih =>
      intro i hi t kt
      have hlt : (Int32.ofNat i) < (Int32.ofNat n) := by rw [Int32.lt_iff_toInt_lt, hval i (by omega), hval n (by omega)]; omega
      have hnx : (Int32.ofNat i) + (1 : Int32) = Int32.ofNat (i + 1) := (Int32.ofNat_add i 1).symm
      show Steps p.tables e below (s₁.setTop (mkF m 9 #[.val (.ref a1), .val (.ref a2), .val (.int (Int32.ofNat i))] [])) _
      refine XS.iloadN X0.here hx rfl (hb hby d7_9) rfl ?_
      show Steps p.tables e below (s₁.setTop (mkF m 10 #[.val (.ref a1), .val (.ref a2), .val (.int (Int32.ofNat i))] [(.int (Int32.ofNat i))])) _
      refine XS.aloadN X0.here hx rfl (hb hby d7_10) rfl rfl ?_
      show Steps p.tables e below (s₁.setTop (mkF m 11 #[.val (.ref a1), .val (.ref a2), .val (.int (Int32.ofNat i))] [(.ref a1), (.int (Int32.ofNat i))])) _
      refine own_blen X0 hx hZ e0 B1 (g := (mkF m 11 #[.val (.ref a1), .val (.ref a2), .val (.int (Int32.ofNat i))] [(.ref a1), (.int (Int32.ofNat i))])) rfl rfl (hb hby d7_11) _ ?_
      show Steps p.tables e below (s₁.setTop (mkF m 12 #[.val (.ref a1), .val (.ref a2), .val (.int (Int32.ofNat i))] [(.int (Int32.ofNat n)), (.int (Int32.ofNat i))])) _
      refine XS.icmpNo X0.here hx rfl (hb hby d7_12) rfl (tlt hlt).2.1 ?_
      show Steps p.tables e below (s₁.setTop (mkF m 15 #[.val (.ref a1), .val (.ref a2), .val (.int (Int32.ofNat i))] [])) _
      refine XS.aloadN X0.here hx rfl (hb hby d7_15) rfl rfl ?_
      show Steps p.tables e below (s₁.setTop (mkF m 16 #[.val (.ref a1), .val (.ref a2), .val (.int (Int32.ofNat i))] [(.ref a1)])) _
      refine XS.iloadN X0.here hx rfl (hb hby d7_16) rfl ?_
      show Steps p.tables e below (s₁.setTop (mkF m 17 #[.val (.ref a1), .val (.ref a2), .val (.int (Int32.ofNat i))] [(.int (Int32.ofNat i)), (.ref a1)])) _
      refine own_bload X0 hx hZ e0 B1 (k := i) (hval i (by omega)) (by omega) (g := (mkF m 17 #[.val (.ref a1), .val (.ref a2), .val (.int (Int32.ofNat i))] [(.int (Int32.ofNat i)), (.ref a1)])) rfl rfl (hb hby d7_17) _ ?_
      show Steps p.tables e below (s₁.setTop (mkF m 18 #[.val (.ref a1), .val (.ref a2), .val (.int (Int32.ofNat i))] [(.int (f i))])) _
      refine XS.aloadN X0.here hx rfl (hb hby d7_18) rfl rfl ?_
      show Steps p.tables e below (s₁.setTop (mkF m 19 #[.val (.ref a1), .val (.ref a2), .val (.int (Int32.ofNat i))] [(.ref a2), (.int (f i))])) _
      refine XS.iloadN X0.here hx rfl (hb hby d7_19) rfl ?_
      show Steps p.tables e below (s₁.setTop (mkF m 20 #[.val (.ref a1), .val (.ref a2), .val (.int (Int32.ofNat i))] [(.int (Int32.ofNat i)), (.ref a2), (.int (f i))])) _
      refine own_bload X0 hx hZ e0 B2 (k := i) (hval i (by omega)) (by omega) (g := (mkF m 20 #[.val (.ref a1), .val (.ref a2), .val (.int (Int32.ofNat i))] [(.int (Int32.ofNat i)), (.ref a2), (.int (f i))])) rfl rfl (hb hby d7_20) _ ?_
      show Steps p.tables e below (s₁.setTop (mkF m 21 #[.val (.ref a1), .val (.ref a2), .val (.int (Int32.ofNat i))] [(.int (g i)), (.int (f i))])) _
      refine XS.icmpYes X0.here hx rfl (pc0 := 21) (pc' := 26) rfl (hb hby d7_21) rfl (teq (hfg i (by omega))).1 (by decide) (by decide) ?_
      show Steps p.tables e below (s₁.setTop (mkF m 26 #[.val (.ref a1), .val (.ref a2), .val (.int (Int32.ofNat i))] [])) _
      refine XS.iinc X0.here hx rfl (hb hby d7_26) rfl (l' := #[.val (.ref a1), .val (.ref a2), .val (.int ((Int32.ofNat i) + (1 : Int32)))]) rfl ?_
      show Steps p.tables e below (s₁.setTop (mkF m 29 #[.val (.ref a1), .val (.ref a2), .val (.int ((Int32.ofNat i) + (1 : Int32)))] [])) _
      refine XS.goto X0.here hx rfl (pc0 := 29) (pc' := 9) rfl (hb hby d7_29) (by decide) (by decide) ?_
      rw [hnx]
      exact ih (i + 1) (by omega) t kt
  have pre1 : ∀ t, Steps p.tables e below (s₁.setTop (mkF m 9 #[.val (.ref a1), .val (.ref a2), .val (.int (0 : Int32))] [])) t → Steps p.tables e below (s₁.setTop (entryFrame m #[(.ref a1), (.ref a2)] 3)) t := fun t kt => pre0 t (by
    show Steps p.tables e below (s₁.setTop (mkF m 0 #[.val (.ref a1), .val (.ref a2), .unset] [])) _
    refine XS.aloadN X0.here hx rfl (hb hby d7_0) rfl rfl ?_
    show Steps p.tables e below (s₁.setTop (mkF m 1 #[.val (.ref a1), .val (.ref a2), .unset] [(.ref a1)])) _
    refine own_blen X0 hx hZ e0 B1 (g := (mkF m 1 #[.val (.ref a1), .val (.ref a2), .unset] [(.ref a1)])) rfl rfl (hb hby d7_1) _ ?_
    show Steps p.tables e below (s₁.setTop (mkF m 2 #[.val (.ref a1), .val (.ref a2), .unset] [(.int (Int32.ofNat n))])) _
    refine XS.aloadN X0.here hx rfl (hb hby d7_2) rfl rfl ?_
    show Steps p.tables e below (s₁.setTop (mkF m 3 #[.val (.ref a1), .val (.ref a2), .unset] [(.ref a2), (.int (Int32.ofNat n))])) _
    refine own_blen X0 hx hZ e0 B2 (g := (mkF m 3 #[.val (.ref a1), .val (.ref a2), .unset] [(.ref a2), (.int (Int32.ofNat n))])) rfl rfl (hb hby d7_3) _ ?_
    show Steps p.tables e below (s₁.setTop (mkF m 4 #[.val (.ref a1), .val (.ref a2), .unset] [(.int (Int32.ofNat n)), (.int (Int32.ofNat n))])) _
    refine XS.icmpNo X0.here hx rfl (hb hby d7_4) rfl (teq rfl).2 ?_
    show Steps p.tables e below (s₁.setTop (mkF m 7 #[.val (.ref a1), .val (.ref a2), .unset] [])) _
    refine XS.iconst X0.here hx rfl (hb hby d7_7) ?_
    show Steps p.tables e below (s₁.setTop (mkF m 8 #[.val (.ref a1), .val (.ref a2), .unset] [(.int (0 : Int32))])) _
    refine XS.istoreN X0.here hx rfl (hb hby d7_8) rfl (l' := #[.val (.ref a1), .val (.ref a2), .val (.int (0 : Int32))]) rfl ?_
    exact kt)
  have st := loop n 0 (by omega)
  have pre2 : ∀ t, Steps p.tables e below (s₁.setTop (mkF m 32 #[.val (.ref a1), .val (.ref a2), .val (.int (Int32.ofNat n))] [])) t → Steps p.tables e below (s₁.setTop (entryFrame m #[(.ref a1), (.ref a2)] 3)) t := fun t kt => pre1 t (st t kt)
  have pre3 : ∀ t, Steps p.tables e below (s₁.setTop (mkF m 33 #[.val (.ref a1), .val (.ref a2), .val (.int (Int32.ofNat n))] [(.int (1 : Int32))])) t → Steps p.tables e below (s₁.setTop (entryFrame m #[(.ref a1), (.ref a2)] 3)) t := fun t kt => pre2 t (by
    show Steps p.tables e below (s₁.setTop (mkF m 32 #[.val (.ref a1), .val (.ref a2), .val (.int (Int32.ofNat n))] [])) _
    refine XS.iconst X0.here hx rfl (hb hby d7_32) ?_
    exact kt)
  obtain ⟨fs, hr, hrun, hended, hW, hsame⟩ := X0.leave (v := some (.int (1 : Int32))) (fun h => by rw [Bd.returns] at h; cases h)
  refine ⟨_, _, pre3 _ ?_, hrun, hended, _, _, rfl, ?_, ⟨_, rfl⟩, hW, hsame.mono (by decide) (by decide)⟩
  · show Steps p.tables e below (s₁.setTop (mkF m 33 #[.val (.ref a1), .val (.ref a2), .val (.int (Int32.ofNat n))] [(.int (1 : Int32))])) _
    exact retN X0 hx (t := .boolean) Bd.returns (by simp) (hb hby d7_33) hr
  · show Q7a Z a1 a2 n f g h0 n0 _ s₁.heap _
    rw [e0]
    exact ⟨rfl, rfl, rfl⟩
def Q7b (Z : State) (a1 a2 : Addr) (n k : Nat) (f g : Nat → Int32) (h0 : Heap) (n0 : Nat) (v : Option Value) (h : Heap) (L : List Loc) : Prop := v = some (.int (0 : Int32)) ∧ L = [] ∧ h = h0
set_option maxRecDepth 65536 in
set_option maxHeartbeats 40000000 in
theorem rm7b (l : Launch) (Z : State) (a0 : Array Value) (hw : ∀ d ∈ tables_1, d.before a0 Z = true) (ws : List Jvm.Cond) (a1 a2 : Addr) (n k : Nat) (f g : Nat → Int32) (h0 : Heap) (n0 : Nat) (Z0 : n0 ≤ h0.size) (B1 : BA Z h0 a1 n f) (B2 : BA Z h0 a2 k g) (hn : ¬ Int32.ofNat n = Int32.ofNat k) :
    MetFree l (⟨"java/lang/StringLatin1", "equals", "([B[B)Z"⟩ : MethodName) (head1 (Jvm.Cond.code (⟨"java/lang/StringLatin1", "equals", "([B[B)Z"⟩ : MethodName) jdk_43_method_13_code 3 (some .boolean) :: ws) ({ frames := 0, cells := 0, slots := 0, locals := 0 } : Room)) (fun a U => a = #[(.ref a1), (.ref a2)] ∧ Z.Warmed39 U.vm ∧ U.heap = h0) (fun _ _ _ _ _ => True) (fun _ U ou U' => ∃ v L, ou = .returned v ∧ Q7b Z a1 a2 n k f g h0 n0 v U'.heap L ∧ FrameEnd U ou U' L ({ frames := 0, cells := 0, slots := 0, locals := 0 } : Room).cells ({ frames := 0, cells := 0, slots := 0, locals := 0 } : Room).slots) := by
  refine MetFree.of_bodySF (plainFor_of_name pn_7) hisR ?_
  intro p e s m args below meth c s₁ Bd hml0 hP hK
  obtain ⟨rfl, hZ, hh⟩ := hP
  have hx := Bd.exec
  have hby := Bd.bytes
  have hml : c.maxLocals = 3 := hml0
  have hown : s.vm.findClass "java/lang/StringLatin1" = some m.cls := findClass_of_methodNamed Bd.named
  have hnm := (name_of_methodNamed Bd.named Bd.method).1
  have X0 : Stand p l e ({ frames := 0, cells := 0, slots := 0, locals := 0 } : Room) s m #[(.ref a1), (.ref a2)] below meth c s₁ [] 0 0 := Stand.of_body Bd
  have e0 : s₁.heap = h0 := by rw [← hh, Bd.state]; rfl
  have N0 := Fr.nil n0
  have pre0 : ∀ t, Steps p.tables e below (s₁.setTop (mkF m 0 #[.val (.ref a1), .val (.ref a2), .unset] [])) t → Steps p.tables e below (s₁.setTop (entryFrame m #[(.ref a1), (.ref a2)] 3)) t := fun t k => castTop (ef_7 m (a1) (a2)) k
  have pre4 : ∀ t, Steps p.tables e below (s₁.setTop (mkF m 35 #[.val (.ref a1), .val (.ref a2), .unset] [(.int (0 : Int32))])) t → Steps p.tables e below (s₁.setTop (entryFrame m #[(.ref a1), (.ref a2)] 3)) t := fun t kt => pre0 t (by
    show Steps p.tables e below (s₁.setTop (mkF m 0 #[.val (.ref a1), .val (.ref a2), .unset] [])) _
    refine XS.aloadN X0.here hx rfl (hb hby d7_0) rfl rfl ?_
    show Steps p.tables e below (s₁.setTop (mkF m 1 #[.val (.ref a1), .val (.ref a2), .unset] [(.ref a1)])) _
    refine own_blen X0 hx hZ e0 B1 (g := (mkF m 1 #[.val (.ref a1), .val (.ref a2), .unset] [(.ref a1)])) rfl rfl (hb hby d7_1) _ ?_
    show Steps p.tables e below (s₁.setTop (mkF m 2 #[.val (.ref a1), .val (.ref a2), .unset] [(.int (Int32.ofNat n))])) _
    refine XS.aloadN X0.here hx rfl (hb hby d7_2) rfl rfl ?_
    show Steps p.tables e below (s₁.setTop (mkF m 3 #[.val (.ref a1), .val (.ref a2), .unset] [(.ref a2), (.int (Int32.ofNat n))])) _
    refine own_blen X0 hx hZ e0 B2 (g := (mkF m 3 #[.val (.ref a1), .val (.ref a2), .unset] [(.ref a2), (.int (Int32.ofNat n))])) rfl rfl (hb hby d7_3) _ ?_
    show Steps p.tables e below (s₁.setTop (mkF m 4 #[.val (.ref a1), .val (.ref a2), .unset] [(.int (Int32.ofNat k)), (.int (Int32.ofNat n))])) _
    refine XS.icmpYes X0.here hx rfl (pc0 := 4) (pc' := 34) rfl (hb hby d7_4) rfl (feq hn).2 (by decide) (by decide) ?_
    show Steps p.tables e below (s₁.setTop (mkF m 34 #[.val (.ref a1), .val (.ref a2), .unset] [])) _
    refine XS.iconst X0.here hx rfl (hb hby d7_34) ?_
    exact kt)
  obtain ⟨fs, hr, hrun, hended, hW, hsame⟩ := X0.leave (v := some (.int (0 : Int32))) (fun h => by rw [Bd.returns] at h; cases h)
  refine ⟨_, _, pre4 _ ?_, hrun, hended, _, _, rfl, ?_, ⟨_, rfl⟩, hW, hsame.mono (by decide) (by decide)⟩
  · show Steps p.tables e below (s₁.setTop (mkF m 35 #[.val (.ref a1), .val (.ref a2), .unset] [(.int (0 : Int32))])) _
    exact retN X0 hx (t := .boolean) Bd.returns (by simp) (hb hby d7_35) hr
  · show Q7b Z a1 a2 n k f g h0 n0 _ s₁.heap _
    rw [e0]
    exact ⟨rfl, rfl, rfl⟩
theorem d6_0 : decode jdk_42_method_66_code 0 = .ok (.aload_n 0, 1) := by decide +kernel
theorem d6_1 : decode jdk_42_method_66_code 1 = .ok (.aload_n 1, 1) := by decide +kernel
theorem d6_2 : decode jdk_42_method_66_code 2 = .ok (.if_acmp .ne 5, 3) := by decide +kernel
theorem d6_5 : decode jdk_42_method_66_code 5 = .ok (.iconst 1, 1) := by decide +kernel
theorem d6_6 : decode jdk_42_method_66_code 6 = .ok (.ireturn, 1) := by decide +kernel
theorem d6_7 : decode jdk_42_method_66_code 7 = .ok (.aload_n 1, 1) := by decide +kernel
theorem d6_8 : decode jdk_42_method_66_code 8 = .ok (.instanceof 10, 3) := by decide +kernel
theorem d6_11 : decode jdk_42_method_66_code 11 = .ok (.ifCond .eq 43, 3) := by decide +kernel
theorem d6_14 : decode jdk_42_method_66_code 14 = .ok (.aload_n 1, 1) := by decide +kernel
theorem d6_15 : decode jdk_42_method_66_code 15 = .ok (.checkcast 10, 3) := by decide +kernel
theorem d6_18 : decode jdk_42_method_66_code 18 = .ok (.astore_n 2, 1) := by decide +kernel
theorem d6_19 : decode jdk_42_method_66_code 19 = .ok (.getstatic 38, 3) := by decide +kernel
theorem d6_22 : decode jdk_42_method_66_code 22 = .ok (.ifCond .eq 14, 3) := by decide +kernel
theorem d6_25 : decode jdk_42_method_66_code 25 = .ok (.aload_n 0, 1) := by decide +kernel
theorem d6_26 : decode jdk_42_method_66_code 26 = .ok (.getfield 15, 3) := by decide +kernel
theorem d6_29 : decode jdk_42_method_66_code 29 = .ok (.aload_n 2, 1) := by decide +kernel
theorem d6_30 : decode jdk_42_method_66_code 30 = .ok (.getfield 15, 3) := by decide +kernel
theorem d6_33 : decode jdk_42_method_66_code 33 = .ok (.if_icmp .ne 21, 3) := by decide +kernel
theorem d6_36 : decode jdk_42_method_66_code 36 = .ok (.aload_n 0, 1) := by decide +kernel
theorem d6_37 : decode jdk_42_method_66_code 37 = .ok (.getfield 9, 3) := by decide +kernel
theorem d6_40 : decode jdk_42_method_66_code 40 = .ok (.aload_n 2, 1) := by decide +kernel
theorem d6_41 : decode jdk_42_method_66_code 41 = .ok (.getfield 9, 3) := by decide +kernel
theorem d6_44 : decode jdk_42_method_66_code 44 = .ok (.invokestatic 541, 3) := by decide +kernel
theorem d6_47 : decode jdk_42_method_66_code 47 = .ok (.ifCond .eq 7, 3) := by decide +kernel
theorem d6_50 : decode jdk_42_method_66_code 50 = .ok (.iconst 1, 1) := by decide +kernel
theorem d6_51 : decode jdk_42_method_66_code 51 = .ok (.goto 4, 3) := by decide +kernel
theorem d6_54 : decode jdk_42_method_66_code 54 = .ok (.iconst 0, 1) := by decide +kernel
theorem d6_55 : decode jdk_42_method_66_code 55 = .ok (.ireturn, 1) := by decide +kernel
theorem pn_6 : plainName "java/lang/String" = true := by first | (simp [plainName, overriddenIn]; done) | decide +kernel
theorem pd_6_0 : parseMethodDescriptor "([B[B)Z" = some ⟨[(.array .byte), (.array .byte)], some .boolean⟩ := by decide +kernel
theorem ef_6 (m : MethodId) (x0 : Addr) (x1 : Addr) : entryFrame m #[(.ref x0), (.ref x1)] 3 = mkF m 0 #[.val (.ref x0), .val (.ref x1), .unset] [] := by first | (simp [entryFrame, mkF, argsToLocals, Value.category]; done) | rfl
def Q6a (Z : State) (a1 a2 : Addr) (t t' : String) (zc : Int32) (h0 : Heap) (n0 : Nat) (v : Option Value) (h : Heap) (L : List Loc) : Prop := v = some (.int (1 : Int32)) ∧ L = [] ∧ h = h0
set_option maxRecDepth 65536 in
set_option maxHeartbeats 40000000 in
theorem rm6a (l : Launch) (Z : State) (a0 : Array Value) (hw : ∀ d ∈ tables_1, d.before a0 Z = true) (ws : List Jvm.Cond) (a1 a2 : Addr) (t t' : String) (zc : Int32) (h0 : Heap) (n0 : Nat) (Z0 : n0 ≤ h0.size) (S1 : own_S Z h0 a1 t) (S2 : own_S Z h0 a2 t') (Sc : Sta Z h0 "java/lang/String" "COMPACT_STRINGS" "Z" (.int zc)) (hzc : ¬ zc = 0) (hq : t = t') (hl : t.toList.length < 100) :
    MetFree l (⟨"java/lang/String", "equals", "(Ljava/lang/Object;)Z"⟩ : MethodName) (head1 (Jvm.Cond.code (⟨"java/lang/String", "equals", "(Ljava/lang/Object;)Z"⟩ : MethodName) jdk_42_method_66_code 3 (some .boolean) :: ws) ({ frames := 1, cells := 0, slots := 0, locals := 14 } : Room)) (fun a U => a = #[(.ref a1), (.ref a2)] ∧ Z.Warmed39 U.vm ∧ U.heap = h0) (fun _ _ _ _ _ => True) (fun _ U ou U' => ∃ v L, ou = .returned v ∧ Q6a Z a1 a2 t t' zc h0 n0 v U'.heap L ∧ FrameEnd U ou U' L ({ frames := 1, cells := 0, slots := 0, locals := 14 } : Room).cells ({ frames := 1, cells := 0, slots := 0, locals := 14 } : Room).slots) := by
  refine MetFree.of_bodySF (plainFor_of_name pn_6) hisR ?_
  intro p e s m args below meth c s₁ Bd hml0 hP hK
  obtain ⟨rfl, hZ, hh⟩ := hP
  have hx := Bd.exec
  have hby := Bd.bytes
  have hml : c.maxLocals = 3 := hml0
  have hown : s.vm.findClass "java/lang/String" = some m.cls := findClass_of_methodNamed Bd.named
  have hnm := (name_of_methodNamed Bd.named Bd.method).1
  have X0 : Stand p l e ({ frames := 1, cells := 0, slots := 0, locals := 14 } : Room) s m #[(.ref a1), (.ref a2)] below meth c s₁ [] 0 0 := Stand.of_body Bd
  have e0 : s₁.heap = h0 := by rw [← hh, Bd.state]; rfl
  have N0 := Fr.nil n0
  have pre0 : ∀ t, Steps p.tables e below (s₁.setTop (mkF m 0 #[.val (.ref a1), .val (.ref a2), .unset] [])) t → Steps p.tables e below (s₁.setTop (entryFrame m #[(.ref a1), (.ref a2)] 3)) t := fun t k => castTop (ef_6 m (a1) (a2)) k
  obtain ⟨b1, E1, C1, V1, B1⟩ := S1
  obtain ⟨b2, E2, C2, V2, B2⟩ := S2
  subst hq
  by_cases hne : a1 = a2
  · have pre1 : ∀ t, Steps p.tables e below (s₁.setTop (mkF m 6 #[.val (.ref a1), .val (.ref a2), .unset] [(.int (1 : Int32))])) t → Steps p.tables e below (s₁.setTop (entryFrame m #[(.ref a1), (.ref a2)] 3)) t := fun t kt => pre0 t (by
      show Steps p.tables e below (s₁.setTop (mkF m 0 #[.val (.ref a1), .val (.ref a2), .unset] [])) _
      refine XS.aloadN X0.here hx rfl (hb hby d6_0) rfl rfl ?_
      show Steps p.tables e below (s₁.setTop (mkF m 1 #[.val (.ref a1), .val (.ref a2), .unset] [(.ref a1)])) _
      refine XS.aloadN X0.here hx rfl (hb hby d6_1) rfl rfl ?_
      show Steps p.tables e below (s₁.setTop (mkF m 2 #[.val (.ref a1), .val (.ref a2), .unset] [(.ref a2), (.ref a1)])) _
      refine Jvm.RoadKit.acmp (g := (mkF m 2 #[.val (.ref a1), .val (.ref a2), .unset] [(.ref a2), (.ref a1)])) X0 hx rfl rfl rfl (pc0 := 2) (pc' := 5) (same := true) rfl (hb hby d6_2) rfl (decide_eq_true (congrArg Value.ref hne)) (by decide) (by decide) ?_
      show Steps p.tables e below (s₁.setTop (mkF m 5 #[.val (.ref a1), .val (.ref a2), .unset] [])) _
      refine XS.iconst X0.here hx rfl (hb hby d6_5) ?_
      exact kt)
    obtain ⟨fs, hr, hrun, hended, hW, hsame⟩ := X0.leave (v := some (.int (1 : Int32))) (fun h => by rw [Bd.returns] at h; cases h)
    refine ⟨_, _, pre1 _ ?_, hrun, hended, _, _, rfl, ?_, ⟨_, rfl⟩, hW, hsame.mono (by decide) (by decide)⟩
    · show Steps p.tables e below (s₁.setTop (mkF m 6 #[.val (.ref a1), .val (.ref a2), .unset] [(.int (1 : Int32))])) _
      exact retN X0 hx (t := .boolean) Bd.returns (by simp) (hb hby d6_6) hr
    · show Q6a Z a1 a2 t t zc h0 n0 _ s₁.heap _
      rw [e0]
      exact ⟨rfl, rfl, rfl⟩
  · have pre2 : ∀ t, Steps p.tables e below (s₁.setTop (mkF m 8 #[.val (.ref a1), .val (.ref a2), .unset] [(.ref a2)])) t → Steps p.tables e below (s₁.setTop (entryFrame m #[(.ref a1), (.ref a2)] 3)) t := fun t kt => pre0 t (by
      show Steps p.tables e below (s₁.setTop (mkF m 0 #[.val (.ref a1), .val (.ref a2), .unset] [])) _
      refine XS.aloadN X0.here hx rfl (hb hby d6_0) rfl rfl ?_
      show Steps p.tables e below (s₁.setTop (mkF m 1 #[.val (.ref a1), .val (.ref a2), .unset] [(.ref a1)])) _
      refine XS.aloadN X0.here hx rfl (hb hby d6_1) rfl rfl ?_
      show Steps p.tables e below (s₁.setTop (mkF m 2 #[.val (.ref a1), .val (.ref a2), .unset] [(.ref a2), (.ref a1)])) _
      refine Jvm.RoadKit.acmp (g := (mkF m 2 #[.val (.ref a1), .val (.ref a2), .unset] [(.ref a2), (.ref a1)])) X0 hx rfl rfl rfl (pc0 := 2) (pc' := 7) (same := false) rfl (hb hby d6_2) rfl (decide_eq_false fun q => hne (Value.ref.inj q)) (by decide) (by decide) ?_
      show Steps p.tables e below (s₁.setTop (mkF m 7 #[.val (.ref a1), .val (.ref a2), .unset] [])) _
      refine XS.aloadN X0.here hx rfl (hb hby d6_7) rfl rfl ?_
      exact kt)
    obtain ⟨T3, X3, e3, st3⟩ := instY X0 hx hZ hown (hw _ (List.mem_of_getElem? (i := 50) rfl)) e0 (Ins.self E2) (g := (mkF m 8 #[.val (.ref a1), .val (.ref a2), .unset] [(.ref a2)])) rfl rfl (hb hby d6_8)
    have pre4 : ∀ t, Steps p.tables e below (T3.setTop (mkF m 11 #[.val (.ref a1), .val (.ref a2), .unset] [(.int (1 : Int32))])) t → Steps p.tables e below (s₁.setTop (entryFrame m #[(.ref a1), (.ref a2)] 3)) t := fun t kt => pre2 t (st3 t kt)
    have pre5 : ∀ t, Steps p.tables e below (T3.setTop (mkF m 15 #[.val (.ref a1), .val (.ref a2), .unset] [(.ref a2)])) t → Steps p.tables e below (s₁.setTop (entryFrame m #[(.ref a1), (.ref a2)] 3)) t := fun t kt => pre4 t (by
      show Steps p.tables e below (T3.setTop (mkF m 11 #[.val (.ref a1), .val (.ref a2), .unset] [(.int (1 : Int32))])) _
      refine XS.ifNo X3.here hx rfl (hb hby d6_11) rfl ((if0 _ _).trans (feq (by decide)).1) ?_
      show Steps p.tables e below (T3.setTop (mkF m 14 #[.val (.ref a1), .val (.ref a2), .unset] [])) _
      refine XS.aloadN X3.here hx rfl (hb hby d6_14) rfl rfl ?_
      exact kt)
    obtain ⟨T6, X6, e6, st6⟩ := castY X3 hx hZ hown (hw _ (List.mem_of_getElem? (i := 50) rfl)) e3 (Ins.self E2) (g := (mkF m 15 #[.val (.ref a1), .val (.ref a2), .unset] [(.ref a2)])) rfl rfl (hb hby d6_15)
    have pre7 : ∀ t, Steps p.tables e below (T6.setTop (mkF m 18 #[.val (.ref a1), .val (.ref a2), .unset] [(.ref a2)])) t → Steps p.tables e below (s₁.setTop (entryFrame m #[(.ref a1), (.ref a2)] 3)) t := fun t kt => pre5 t (st6 t kt)
    have pre8 : ∀ t, Steps p.tables e below (T6.setTop (mkF m 19 #[.val (.ref a1), .val (.ref a2), .val (.ref a2)] [])) t → Steps p.tables e below (s₁.setTop (entryFrame m #[(.ref a1), (.ref a2)] 3)) t := fun t kt => pre7 t (by
      show Steps p.tables e below (T6.setTop (mkF m 18 #[.val (.ref a1), .val (.ref a2), .unset] [(.ref a2)])) _
      refine XS.astoreN X6.here hx rfl (hb hby d6_18) rfl rfl (l' := #[.val (.ref a1), .val (.ref a2), .val (.ref a2)]) rfl ?_
      exact kt)
    obtain ⟨T9, X9, e9, st9⟩ := getS2 X6 hx hZ hown (host := "") (Or.inl (hw _ (List.mem_of_getElem? (i := 52) rfl))) Via.refl e6 Sc (g := (mkF m 19 #[.val (.ref a1), .val (.ref a2), .val (.ref a2)] [])) rfl (hb hby d6_19)
    have pre10 : ∀ t, Steps p.tables e below (T9.setTop (mkF m 22 #[.val (.ref a1), .val (.ref a2), .val (.ref a2)] [(.int zc)])) t → Steps p.tables e below (s₁.setTop (entryFrame m #[(.ref a1), (.ref a2)] 3)) t := fun t kt => pre8 t (st9 t kt)
    have pre11 : ∀ t, Steps p.tables e below (T9.setTop (mkF m 26 #[.val (.ref a1), .val (.ref a2), .val (.ref a2)] [(.ref a1)])) t → Steps p.tables e below (s₁.setTop (entryFrame m #[(.ref a1), (.ref a2)] 3)) t := fun t kt => pre10 t (by
      show Steps p.tables e below (T9.setTop (mkF m 22 #[.val (.ref a1), .val (.ref a2), .val (.ref a2)] [(.int zc)])) _
      refine XS.ifNo X9.here hx rfl (hb hby d6_22) rfl ((if0 _ _).trans (feq hzc).1) ?_
      show Steps p.tables e below (T9.setTop (mkF m 25 #[.val (.ref a1), .val (.ref a2), .val (.ref a2)] [])) _
      refine XS.aloadN X9.here hx rfl (hb hby d6_25) rfl rfl ?_
      exact kt)
    obtain ⟨T12, X12, e12, st12⟩ := getF X9 hx hZ hown (host := "") (Or.inl (hw _ (List.mem_of_getElem? (i := 53) rfl))) Via.refl e9 C1 (g := (mkF m 26 #[.val (.ref a1), .val (.ref a2), .val (.ref a2)] [(.ref a1)])) rfl rfl (hb hby d6_26)
    have pre13 : ∀ t, Steps p.tables e below (T12.setTop (mkF m 29 #[.val (.ref a1), .val (.ref a2), .val (.ref a2)] [(.int (0 : Int32))])) t → Steps p.tables e below (s₁.setTop (entryFrame m #[(.ref a1), (.ref a2)] 3)) t := fun t kt => pre11 t (st12 t kt)
    have pre14 : ∀ t, Steps p.tables e below (T12.setTop (mkF m 30 #[.val (.ref a1), .val (.ref a2), .val (.ref a2)] [(.ref a2), (.int (0 : Int32))])) t → Steps p.tables e below (s₁.setTop (entryFrame m #[(.ref a1), (.ref a2)] 3)) t := fun t kt => pre13 t (by
      show Steps p.tables e below (T12.setTop (mkF m 29 #[.val (.ref a1), .val (.ref a2), .val (.ref a2)] [(.int (0 : Int32))])) _
      refine XS.aloadN X12.here hx rfl (hb hby d6_29) rfl rfl ?_
      exact kt)
    obtain ⟨T15, X15, e15, st15⟩ := getF X12 hx hZ hown (host := "") (Or.inl (hw _ (List.mem_of_getElem? (i := 53) rfl))) Via.refl e12 C2 (g := (mkF m 30 #[.val (.ref a1), .val (.ref a2), .val (.ref a2)] [(.ref a2), (.int (0 : Int32))])) rfl rfl (hb hby d6_30)
    have pre16 : ∀ t, Steps p.tables e below (T15.setTop (mkF m 33 #[.val (.ref a1), .val (.ref a2), .val (.ref a2)] [(.int (0 : Int32)), (.int (0 : Int32))])) t → Steps p.tables e below (s₁.setTop (entryFrame m #[(.ref a1), (.ref a2)] 3)) t := fun t kt => pre14 t (st15 t kt)
    have pre17 : ∀ t, Steps p.tables e below (T15.setTop (mkF m 37 #[.val (.ref a1), .val (.ref a2), .val (.ref a2)] [(.ref a1)])) t → Steps p.tables e below (s₁.setTop (entryFrame m #[(.ref a1), (.ref a2)] 3)) t := fun t kt => pre16 t (by
      show Steps p.tables e below (T15.setTop (mkF m 33 #[.val (.ref a1), .val (.ref a2), .val (.ref a2)] [(.int (0 : Int32)), (.int (0 : Int32))])) _
      refine XS.icmpNo X15.here hx rfl (hb hby d6_33) rfl (teq rfl).2 ?_
      show Steps p.tables e below (T15.setTop (mkF m 36 #[.val (.ref a1), .val (.ref a2), .val (.ref a2)] [])) _
      refine XS.aloadN X15.here hx rfl (hb hby d6_36) rfl rfl ?_
      exact kt)
    obtain ⟨T18, X18, e18, st18⟩ := getF X15 hx hZ hown (host := "") (Or.inl (hw _ (List.mem_of_getElem? (i := 54) rfl))) Via.refl e15 V1 (g := (mkF m 37 #[.val (.ref a1), .val (.ref a2), .val (.ref a2)] [(.ref a1)])) rfl rfl (hb hby d6_37)
    have pre19 : ∀ t, Steps p.tables e below (T18.setTop (mkF m 40 #[.val (.ref a1), .val (.ref a2), .val (.ref a2)] [(.ref b1)])) t → Steps p.tables e below (s₁.setTop (entryFrame m #[(.ref a1), (.ref a2)] 3)) t := fun t kt => pre17 t (st18 t kt)
    have pre20 : ∀ t, Steps p.tables e below (T18.setTop (mkF m 41 #[.val (.ref a1), .val (.ref a2), .val (.ref a2)] [(.ref a2), (.ref b1)])) t → Steps p.tables e below (s₁.setTop (entryFrame m #[(.ref a1), (.ref a2)] 3)) t := fun t kt => pre19 t (by
      show Steps p.tables e below (T18.setTop (mkF m 40 #[.val (.ref a1), .val (.ref a2), .val (.ref a2)] [(.ref b1)])) _
      refine XS.aloadN X18.here hx rfl (hb hby d6_40) rfl rfl ?_
      exact kt)
    obtain ⟨T21, X21, e21, st21⟩ := getF X18 hx hZ hown (host := "") (Or.inl (hw _ (List.mem_of_getElem? (i := 54) rfl))) Via.refl e18 V2 (g := (mkF m 41 #[.val (.ref a1), .val (.ref a2), .val (.ref a2)] [(.ref a2), (.ref b1)])) rfl rfl (hb hby d6_41)
    have pre22 : ∀ t, Steps p.tables e below (T21.setTop (mkF m 44 #[.val (.ref a1), .val (.ref a2), .val (.ref a2)] [(.ref b2), (.ref b1)])) t → Steps p.tables e below (s₁.setTop (entryFrame m #[(.ref a1), (.ref a2)] 3)) t := fun t kt => pre20 t (st21 t kt)
    obtain ⟨_, _, ⟨T23, L23, k23, n23⟩, -, X23, ⟨Lc23, hQ23, l23, y23, z23⟩, st23⟩ := Jvm.LawKit.callS X21 hx (y := (⟨"java/lang/StringLatin1", "equals", "([B[B)Z"⟩ : MethodName)) hown (mvT hZ (hw _ (List.mem_of_getElem? (i := 55) rfl))) (mvT hZ (hw _ (List.mem_of_getElem? (i := 56) rfl))) (mvT hZ (hw _ (List.mem_of_getElem? (i := 57) rfl))) (mvT hZ (hw _ (List.mem_of_getElem? (i := 58) rfl))) (by decide) (backOf (W := 0) (rm7a l Z a0 hw [] b1 b2 _ _ _ h0 n0 Z0 B1 B2 hl (fun _ _ => rfl)) hZ (hw _ (List.mem_of_getElem? (i := 58) rfl)) (hw _ (List.mem_of_getElem? (i := 57) rfl)) (by decide) (by decide)) (g := (mkF m 44 #[.val (.ref a1), .val (.ref a2), .val (.ref a2)] [(.ref b2), (.ref b1)])) rfl (by rw [hml]; rfl) (argsL := [(.ref b1), (.ref b2)]) (rest := []) (lenOf pd_6_0 rfl) rfl (by show 2 * 0 + _ ≤ _; exact Nat.le_of_eq rfl) (hb hby d6_44) (fun _ _ => ⟨rfl, e21, (by decide : 0 + 0 ≤ _), (by decide : 0 + 0 ≤ _)⟩)
    dsimp only [Pt.U, Pt.locs, Pt.cells, Pt.slots] at X23 l23 y23 z23 st23 hQ23
    subst l23 y23 z23
    obtain ⟨rfl, rfl, e23⟩ := hQ23
    try rw [List.append_nil] at X23
    have pre24 : ∀ t, Steps p.tables e below (T23.setTop (mkF m 47 #[.val (.ref a1), .val (.ref a2), .val (.ref a2)] [(.int (1 : Int32))])) t → Steps p.tables e below (s₁.setTop (entryFrame m #[(.ref a1), (.ref a2)] 3)) t := fun t kt => pre22 t (st23 t kt)
    have pre25 : ∀ t, Steps p.tables e below (T23.setTop (mkF m 55 #[.val (.ref a1), .val (.ref a2), .val (.ref a2)] [(.int (1 : Int32))])) t → Steps p.tables e below (s₁.setTop (entryFrame m #[(.ref a1), (.ref a2)] 3)) t := fun t kt => pre24 t (by
      show Steps p.tables e below (T23.setTop (mkF m 47 #[.val (.ref a1), .val (.ref a2), .val (.ref a2)] [(.int (1 : Int32))])) _
      refine XS.ifNo X23.here hx rfl (hb hby d6_47) rfl ((if0 _ _).trans (feq (by decide)).1) ?_
      show Steps p.tables e below (T23.setTop (mkF m 50 #[.val (.ref a1), .val (.ref a2), .val (.ref a2)] [])) _
      refine XS.iconst X23.here hx rfl (hb hby d6_50) ?_
      show Steps p.tables e below (T23.setTop (mkF m 51 #[.val (.ref a1), .val (.ref a2), .val (.ref a2)] [(.int (1 : Int32))])) _
      refine XS.goto X23.here hx rfl (pc0 := 51) (pc' := 55) rfl (hb hby d6_51) (by decide) (by decide) ?_
      exact kt)
    obtain ⟨fs, hr, hrun, hended, hW, hsame⟩ := X23.leave (v := some (.int (1 : Int32))) (fun h => by rw [Bd.returns] at h; cases h)
    refine ⟨_, _, pre25 _ ?_, hrun, hended, _, _, rfl, ?_, ⟨_, rfl⟩, hW, hsame.mono (by decide) (by decide)⟩
    · show Steps p.tables e below (T23.setTop (mkF m 55 #[.val (.ref a1), .val (.ref a2), .val (.ref a2)] [(.int (1 : Int32))])) _
      exact retN X23 hx (t := .boolean) Bd.returns (by simp) (hb hby d6_55) hr
    · show Q6a Z a1 a2 t t zc h0 n0 _ T23.heap _
      rw [e23]
      exact ⟨rfl, rfl, rfl⟩
def Q6b (Z : State) (a1 a2 : Addr) (t t' : String) (zc : Int32) (h0 : Heap) (n0 : Nat) (v : Option Value) (h : Heap) (L : List Loc) : Prop := v = some (.int (0 : Int32)) ∧ L = [] ∧ h = h0
set_option maxRecDepth 65536 in
set_option maxHeartbeats 40000000 in
theorem rm6b (l : Launch) (Z : State) (a0 : Array Value) (hw : ∀ d ∈ tables_1, d.before a0 Z = true) (ws : List Jvm.Cond) (a1 a2 : Addr) (t t' : String) (zc : Int32) (h0 : Heap) (n0 : Nat) (Z0 : n0 ≤ h0.size) (S1 : own_S Z h0 a1 t) (S2 : own_S Z h0 a2 t') (Sc : Sta Z h0 "java/lang/String" "COMPACT_STRINGS" "Z" (.int zc)) (hzc : ¬ zc = 0) (hq : ¬ Int32.ofNat t.toList.length = Int32.ofNat t'.toList.length) :
    MetFree l (⟨"java/lang/String", "equals", "(Ljava/lang/Object;)Z"⟩ : MethodName) (head1 (Jvm.Cond.code (⟨"java/lang/String", "equals", "(Ljava/lang/Object;)Z"⟩ : MethodName) jdk_42_method_66_code 3 (some .boolean) :: ws) ({ frames := 1, cells := 0, slots := 0, locals := 14 } : Room)) (fun a U => a = #[(.ref a1), (.ref a2)] ∧ Z.Warmed39 U.vm ∧ U.heap = h0) (fun _ _ _ _ _ => True) (fun _ U ou U' => ∃ v L, ou = .returned v ∧ Q6b Z a1 a2 t t' zc h0 n0 v U'.heap L ∧ FrameEnd U ou U' L ({ frames := 1, cells := 0, slots := 0, locals := 14 } : Room).cells ({ frames := 1, cells := 0, slots := 0, locals := 14 } : Room).slots) := by
  refine MetFree.of_bodySF (plainFor_of_name pn_6) hisR ?_
  intro p e s m args below meth c s₁ Bd hml0 hP hK
  obtain ⟨rfl, hZ, hh⟩ := hP
  have hx := Bd.exec
  have hby := Bd.bytes
  have hml : c.maxLocals = 3 := hml0
  have hown : s.vm.findClass "java/lang/String" = some m.cls := findClass_of_methodNamed Bd.named
  have hnm := (name_of_methodNamed Bd.named Bd.method).1
  have X0 : Stand p l e ({ frames := 1, cells := 0, slots := 0, locals := 14 } : Room) s m #[(.ref a1), (.ref a2)] below meth c s₁ [] 0 0 := Stand.of_body Bd
  have e0 : s₁.heap = h0 := by rw [← hh, Bd.state]; rfl
  have N0 := Fr.nil n0
  have pre0 : ∀ t, Steps p.tables e below (s₁.setTop (mkF m 0 #[.val (.ref a1), .val (.ref a2), .unset] [])) t → Steps p.tables e below (s₁.setTop (entryFrame m #[(.ref a1), (.ref a2)] 3)) t := fun t k => castTop (ef_6 m (a1) (a2)) k
  obtain ⟨b1, E1, C1, V1, B1⟩ := S1
  obtain ⟨b2, E2, C2, V2, B2⟩ := S2
  have hne : ¬ a1 = a2 := V1.ne V2 (fun q => own_BA_ne B1 B2 (fun z => hq (by rw [z])) (Value.ref.inj q))
  have pre26 : ∀ t, Steps p.tables e below (s₁.setTop (mkF m 8 #[.val (.ref a1), .val (.ref a2), .unset] [(.ref a2)])) t → Steps p.tables e below (s₁.setTop (entryFrame m #[(.ref a1), (.ref a2)] 3)) t := fun t kt => pre0 t (by
    show Steps p.tables e below (s₁.setTop (mkF m 0 #[.val (.ref a1), .val (.ref a2), .unset] [])) _
    refine XS.aloadN X0.here hx rfl (hb hby d6_0) rfl rfl ?_
    show Steps p.tables e below (s₁.setTop (mkF m 1 #[.val (.ref a1), .val (.ref a2), .unset] [(.ref a1)])) _
    refine XS.aloadN X0.here hx rfl (hb hby d6_1) rfl rfl ?_
    show Steps p.tables e below (s₁.setTop (mkF m 2 #[.val (.ref a1), .val (.ref a2), .unset] [(.ref a2), (.ref a1)])) _
    refine Jvm.RoadKit.acmp (g := (mkF m 2 #[.val (.ref a1), .val (.ref a2), .unset] [(.ref a2), (.ref a1)])) X0 hx rfl rfl rfl (pc0 := 2) (pc' := 7) (same := false) rfl (hb hby d6_2) rfl (decide_eq_false fun q => hne (Value.ref.inj q)) (by decide) (by decide) ?_
    show Steps p.tables e below (s₁.setTop (mkF m 7 #[.val (.ref a1), .val (.ref a2), .unset] [])) _
    refine XS.aloadN X0.here hx rfl (hb hby d6_7) rfl rfl ?_
    exact kt)
  obtain ⟨T27, X27, e27, st27⟩ := instY X0 hx hZ hown (hw _ (List.mem_of_getElem? (i := 50) rfl)) e0 (Ins.self E2) (g := (mkF m 8 #[.val (.ref a1), .val (.ref a2), .unset] [(.ref a2)])) rfl rfl (hb hby d6_8)
  have pre28 : ∀ t, Steps p.tables e below (T27.setTop (mkF m 11 #[.val (.ref a1), .val (.ref a2), .unset] [(.int (1 : Int32))])) t → Steps p.tables e below (s₁.setTop (entryFrame m #[(.ref a1), (.ref a2)] 3)) t := fun t kt => pre26 t (st27 t kt)
  have pre29 : ∀ t, Steps p.tables e below (T27.setTop (mkF m 15 #[.val (.ref a1), .val (.ref a2), .unset] [(.ref a2)])) t → Steps p.tables e below (s₁.setTop (entryFrame m #[(.ref a1), (.ref a2)] 3)) t := fun t kt => pre28 t (by
    show Steps p.tables e below (T27.setTop (mkF m 11 #[.val (.ref a1), .val (.ref a2), .unset] [(.int (1 : Int32))])) _
    refine XS.ifNo X27.here hx rfl (hb hby d6_11) rfl ((if0 _ _).trans (feq (by decide)).1) ?_
    show Steps p.tables e below (T27.setTop (mkF m 14 #[.val (.ref a1), .val (.ref a2), .unset] [])) _
    refine XS.aloadN X27.here hx rfl (hb hby d6_14) rfl rfl ?_
    exact kt)
  obtain ⟨T30, X30, e30, st30⟩ := castY X27 hx hZ hown (hw _ (List.mem_of_getElem? (i := 50) rfl)) e27 (Ins.self E2) (g := (mkF m 15 #[.val (.ref a1), .val (.ref a2), .unset] [(.ref a2)])) rfl rfl (hb hby d6_15)
  have pre31 : ∀ t, Steps p.tables e below (T30.setTop (mkF m 18 #[.val (.ref a1), .val (.ref a2), .unset] [(.ref a2)])) t → Steps p.tables e below (s₁.setTop (entryFrame m #[(.ref a1), (.ref a2)] 3)) t := fun t kt => pre29 t (st30 t kt)
  have pre32 : ∀ t, Steps p.tables e below (T30.setTop (mkF m 19 #[.val (.ref a1), .val (.ref a2), .val (.ref a2)] [])) t → Steps p.tables e below (s₁.setTop (entryFrame m #[(.ref a1), (.ref a2)] 3)) t := fun t kt => pre31 t (by
    show Steps p.tables e below (T30.setTop (mkF m 18 #[.val (.ref a1), .val (.ref a2), .unset] [(.ref a2)])) _
    refine XS.astoreN X30.here hx rfl (hb hby d6_18) rfl rfl (l' := #[.val (.ref a1), .val (.ref a2), .val (.ref a2)]) rfl ?_
    exact kt)
  obtain ⟨T33, X33, e33, st33⟩ := getS2 X30 hx hZ hown (host := "") (Or.inl (hw _ (List.mem_of_getElem? (i := 52) rfl))) Via.refl e30 Sc (g := (mkF m 19 #[.val (.ref a1), .val (.ref a2), .val (.ref a2)] [])) rfl (hb hby d6_19)
  have pre34 : ∀ t, Steps p.tables e below (T33.setTop (mkF m 22 #[.val (.ref a1), .val (.ref a2), .val (.ref a2)] [(.int zc)])) t → Steps p.tables e below (s₁.setTop (entryFrame m #[(.ref a1), (.ref a2)] 3)) t := fun t kt => pre32 t (st33 t kt)
  have pre35 : ∀ t, Steps p.tables e below (T33.setTop (mkF m 26 #[.val (.ref a1), .val (.ref a2), .val (.ref a2)] [(.ref a1)])) t → Steps p.tables e below (s₁.setTop (entryFrame m #[(.ref a1), (.ref a2)] 3)) t := fun t kt => pre34 t (by
    show Steps p.tables e below (T33.setTop (mkF m 22 #[.val (.ref a1), .val (.ref a2), .val (.ref a2)] [(.int zc)])) _
    refine XS.ifNo X33.here hx rfl (hb hby d6_22) rfl ((if0 _ _).trans (feq hzc).1) ?_
    show Steps p.tables e below (T33.setTop (mkF m 25 #[.val (.ref a1), .val (.ref a2), .val (.ref a2)] [])) _
    refine XS.aloadN X33.here hx rfl (hb hby d6_25) rfl rfl ?_
    exact kt)
  obtain ⟨T36, X36, e36, st36⟩ := getF X33 hx hZ hown (host := "") (Or.inl (hw _ (List.mem_of_getElem? (i := 53) rfl))) Via.refl e33 C1 (g := (mkF m 26 #[.val (.ref a1), .val (.ref a2), .val (.ref a2)] [(.ref a1)])) rfl rfl (hb hby d6_26)
  have pre37 : ∀ t, Steps p.tables e below (T36.setTop (mkF m 29 #[.val (.ref a1), .val (.ref a2), .val (.ref a2)] [(.int (0 : Int32))])) t → Steps p.tables e below (s₁.setTop (entryFrame m #[(.ref a1), (.ref a2)] 3)) t := fun t kt => pre35 t (st36 t kt)
  have pre38 : ∀ t, Steps p.tables e below (T36.setTop (mkF m 30 #[.val (.ref a1), .val (.ref a2), .val (.ref a2)] [(.ref a2), (.int (0 : Int32))])) t → Steps p.tables e below (s₁.setTop (entryFrame m #[(.ref a1), (.ref a2)] 3)) t := fun t kt => pre37 t (by
    show Steps p.tables e below (T36.setTop (mkF m 29 #[.val (.ref a1), .val (.ref a2), .val (.ref a2)] [(.int (0 : Int32))])) _
    refine XS.aloadN X36.here hx rfl (hb hby d6_29) rfl rfl ?_
    exact kt)
  obtain ⟨T39, X39, e39, st39⟩ := getF X36 hx hZ hown (host := "") (Or.inl (hw _ (List.mem_of_getElem? (i := 53) rfl))) Via.refl e36 C2 (g := (mkF m 30 #[.val (.ref a1), .val (.ref a2), .val (.ref a2)] [(.ref a2), (.int (0 : Int32))])) rfl rfl (hb hby d6_30)
  have pre40 : ∀ t, Steps p.tables e below (T39.setTop (mkF m 33 #[.val (.ref a1), .val (.ref a2), .val (.ref a2)] [(.int (0 : Int32)), (.int (0 : Int32))])) t → Steps p.tables e below (s₁.setTop (entryFrame m #[(.ref a1), (.ref a2)] 3)) t := fun t kt => pre38 t (st39 t kt)
  have pre41 : ∀ t, Steps p.tables e below (T39.setTop (mkF m 37 #[.val (.ref a1), .val (.ref a2), .val (.ref a2)] [(.ref a1)])) t → Steps p.tables e below (s₁.setTop (entryFrame m #[(.ref a1), (.ref a2)] 3)) t := fun t kt => pre40 t (by
    show Steps p.tables e below (T39.setTop (mkF m 33 #[.val (.ref a1), .val (.ref a2), .val (.ref a2)] [(.int (0 : Int32)), (.int (0 : Int32))])) _
    refine XS.icmpNo X39.here hx rfl (hb hby d6_33) rfl (teq rfl).2 ?_
    show Steps p.tables e below (T39.setTop (mkF m 36 #[.val (.ref a1), .val (.ref a2), .val (.ref a2)] [])) _
    refine XS.aloadN X39.here hx rfl (hb hby d6_36) rfl rfl ?_
    exact kt)
  obtain ⟨T42, X42, e42, st42⟩ := getF X39 hx hZ hown (host := "") (Or.inl (hw _ (List.mem_of_getElem? (i := 54) rfl))) Via.refl e39 V1 (g := (mkF m 37 #[.val (.ref a1), .val (.ref a2), .val (.ref a2)] [(.ref a1)])) rfl rfl (hb hby d6_37)
  have pre43 : ∀ t, Steps p.tables e below (T42.setTop (mkF m 40 #[.val (.ref a1), .val (.ref a2), .val (.ref a2)] [(.ref b1)])) t → Steps p.tables e below (s₁.setTop (entryFrame m #[(.ref a1), (.ref a2)] 3)) t := fun t kt => pre41 t (st42 t kt)
  have pre44 : ∀ t, Steps p.tables e below (T42.setTop (mkF m 41 #[.val (.ref a1), .val (.ref a2), .val (.ref a2)] [(.ref a2), (.ref b1)])) t → Steps p.tables e below (s₁.setTop (entryFrame m #[(.ref a1), (.ref a2)] 3)) t := fun t kt => pre43 t (by
    show Steps p.tables e below (T42.setTop (mkF m 40 #[.val (.ref a1), .val (.ref a2), .val (.ref a2)] [(.ref b1)])) _
    refine XS.aloadN X42.here hx rfl (hb hby d6_40) rfl rfl ?_
    exact kt)
  obtain ⟨T45, X45, e45, st45⟩ := getF X42 hx hZ hown (host := "") (Or.inl (hw _ (List.mem_of_getElem? (i := 54) rfl))) Via.refl e42 V2 (g := (mkF m 41 #[.val (.ref a1), .val (.ref a2), .val (.ref a2)] [(.ref a2), (.ref b1)])) rfl rfl (hb hby d6_41)
  have pre46 : ∀ t, Steps p.tables e below (T45.setTop (mkF m 44 #[.val (.ref a1), .val (.ref a2), .val (.ref a2)] [(.ref b2), (.ref b1)])) t → Steps p.tables e below (s₁.setTop (entryFrame m #[(.ref a1), (.ref a2)] 3)) t := fun t kt => pre44 t (st45 t kt)
  obtain ⟨_, _, ⟨T47, L47, k47, n47⟩, -, X47, ⟨Lc47, hQ47, l47, y47, z47⟩, st47⟩ := Jvm.LawKit.callS X45 hx (y := (⟨"java/lang/StringLatin1", "equals", "([B[B)Z"⟩ : MethodName)) hown (mvT hZ (hw _ (List.mem_of_getElem? (i := 55) rfl))) (mvT hZ (hw _ (List.mem_of_getElem? (i := 56) rfl))) (mvT hZ (hw _ (List.mem_of_getElem? (i := 57) rfl))) (mvT hZ (hw _ (List.mem_of_getElem? (i := 58) rfl))) (by decide) (backOf (W := 0) (rm7b l Z a0 hw [] b1 b2 _ _ _ _ h0 n0 Z0 B1 B2 hq) hZ (hw _ (List.mem_of_getElem? (i := 58) rfl)) (hw _ (List.mem_of_getElem? (i := 57) rfl)) (by decide) (by decide)) (g := (mkF m 44 #[.val (.ref a1), .val (.ref a2), .val (.ref a2)] [(.ref b2), (.ref b1)])) rfl (by rw [hml]; rfl) (argsL := [(.ref b1), (.ref b2)]) (rest := []) (lenOf pd_6_0 rfl) rfl (by show 2 * 0 + _ ≤ _; exact Nat.le_of_eq rfl) (hb hby d6_44) (fun _ _ => ⟨rfl, e45, (by decide : 0 + 0 ≤ _), (by decide : 0 + 0 ≤ _)⟩)
  dsimp only [Pt.U, Pt.locs, Pt.cells, Pt.slots] at X47 l47 y47 z47 st47 hQ47
  subst l47 y47 z47
  obtain ⟨rfl, rfl, e47⟩ := hQ47
  try rw [List.append_nil] at X47
  have pre48 : ∀ t, Steps p.tables e below (T47.setTop (mkF m 47 #[.val (.ref a1), .val (.ref a2), .val (.ref a2)] [(.int (0 : Int32))])) t → Steps p.tables e below (s₁.setTop (entryFrame m #[(.ref a1), (.ref a2)] 3)) t := fun t kt => pre46 t (st47 t kt)
  have pre49 : ∀ t, Steps p.tables e below (T47.setTop (mkF m 55 #[.val (.ref a1), .val (.ref a2), .val (.ref a2)] [(.int (0 : Int32))])) t → Steps p.tables e below (s₁.setTop (entryFrame m #[(.ref a1), (.ref a2)] 3)) t := fun t kt => pre48 t (by
    show Steps p.tables e below (T47.setTop (mkF m 47 #[.val (.ref a1), .val (.ref a2), .val (.ref a2)] [(.int (0 : Int32))])) _
    refine XS.ifYes X47.here hx rfl (pc0 := 47) (pc' := 54) rfl (hb hby d6_47) rfl ((if0 _ _).trans (teq (by decide)).1) (by decide) (by decide) ?_
    show Steps p.tables e below (T47.setTop (mkF m 54 #[.val (.ref a1), .val (.ref a2), .val (.ref a2)] [])) _
    refine XS.iconst X47.here hx rfl (hb hby d6_54) ?_
    exact kt)
  obtain ⟨fs, hr, hrun, hended, hW, hsame⟩ := X47.leave (v := some (.int (0 : Int32))) (fun h => by rw [Bd.returns] at h; cases h)
  refine ⟨_, _, pre49 _ ?_, hrun, hended, _, _, rfl, ?_, ⟨_, rfl⟩, hW, hsame.mono (by decide) (by decide)⟩
  · show Steps p.tables e below (T47.setTop (mkF m 55 #[.val (.ref a1), .val (.ref a2), .val (.ref a2)] [(.int (0 : Int32))])) _
    exact retN X47 hx (t := .boolean) Bd.returns (by simp) (hb hby d6_55) hr
  · show Q6b Z a1 a2 t t' zc h0 n0 _ T47.heap _
    rw [e47]
    exact ⟨rfl, rfl, rfl⟩
theorem d2_0 : decode prog_1_method_6_code 0 = .ok (.aload_n 0, 1) := by decide +kernel
theorem d2_1 : decode prog_1_method_6_code 1 = .ok (.invokevirtual 72, 3) := by decide +kernel
theorem d2_4 : decode prog_1_method_6_code 4 = .ok (.tableswitch 36 0 4 #[56, 46, 51, 51, 56], 36) := by decide +kernel
theorem d2_50 : decode prog_1_method_6_code 50 = .ok (.ldc 98, 2) := by decide +kernel
theorem d2_52 : decode prog_1_method_6_code 52 = .ok (.goto 10, 3) := by decide +kernel
theorem d2_55 : decode prog_1_method_6_code 55 = .ok (.ldc 100, 2) := by decide +kernel
theorem d2_57 : decode prog_1_method_6_code 57 = .ok (.goto 5, 3) := by decide +kernel
theorem d2_60 : decode prog_1_method_6_code 60 = .ok (.ldc 102, 2) := by decide +kernel
theorem d2_62 : decode prog_1_method_6_code 62 = .ok (.areturn, 1) := by decide +kernel
theorem pn_2 : plainName "com/example/quillet/quillet/jpql/AggregateFunction" = true := by first | (simp [plainName, overriddenIn]; done) | decide +kernel
theorem pd_2_0 : parseMethodDescriptor "()I" = some ⟨[], some .int⟩ := by decide +kernel
theorem ef_2 (m : MethodId) (x0 : Addr) : entryFrame m #[(.ref x0)] 1 = mkF m 0 #[.val (.ref x0)] [] := by first | (simp [entryFrame, mkF, argsToLocals, Value.category]; done) | rfl
def Q2 (Z : State) (a1 : Addr) (j : Nat) (h0 : Heap) (n0 : Nat) (v : Option Value) (h : Heap) (L : List Loc) : Prop := ∃ a : Addr, v = some (.ref a) ∧ L = [] ∧ Ext h0 h ∧ own_S Z h a (own_t j)
set_option maxRecDepth 65536 in
set_option maxHeartbeats 40000000 in
theorem rm2 (l : Launch) (Z : State) (a0 : Array Value) (hw : ∀ d ∈ tables_1, d.before a0 Z = true) (ws : List Jvm.Cond) (a1 : Addr) (j : Nat) (h0 : Heap) (n0 : Nat) (Z0 : n0 ≤ h0.size) (E0 : Exa Z h0 a1 "com/example/quillet/quillet/jpql/AggregateFunction") (Fo : Fld Z h0 a1 "java/lang/Enum" "ordinal" "I" (.int (Int32.ofNat j))) (hj5 : j < 5) :
    MetFree l (⟨"com/example/quillet/quillet/jpql/AggregateFunction", "argument", "()Ljava/lang/String;"⟩ : MethodName) (head1 (Jvm.Cond.code (⟨"com/example/quillet/quillet/jpql/AggregateFunction", "argument", "()Ljava/lang/String;"⟩ : MethodName) prog_1_method_6_code 1 (some (.object "java/lang/String")) :: ws) ({ frames := 1, cells := 2, slots := 204, locals := 12 } : Room)) (fun a U => a = #[(.ref a1)] ∧ Z.Warmed39 U.vm ∧ U.heap = h0 ∧ CHv Z consts_1 U.vm h0) (fun _ _ _ _ _ => True) (fun _ U ou U' => ∃ v L, ou = .returned v ∧ Q2 Z a1 j h0 n0 v U'.heap L ∧ CHr Z consts_1 U.vm U.heap U'.vm U'.heap ∧ ReturnedEndW U ou U' L ({ frames := 1, cells := 2, slots := 204, locals := 12 } : Room).cells ({ frames := 1, cells := 2, slots := 204, locals := 12 } : Room).slots) := by
  refine MetFree.of_bodySF (plainFor_of_name pn_2) hisR ?_
  intro p e s m args below meth c s₁ Bd hml0 hP hK
  obtain ⟨rfl, hZ0, hh, hCH0⟩ := hP
  have hx := Bd.exec
  have hby := Bd.bytes
  have hml : c.maxLocals = 1 := hml0
  have hown : (s.setVm s.vm).vm.findClass "com/example/quillet/quillet/jpql/AggregateFunction" = some m.cls := findClass_of_methodNamed Bd.named
  have hnm := (name_of_methodNamed Bd.named Bd.method).1
  have X0 : Stand p l e ({ frames := 1, cells := 2, slots := 204, locals := 12 } : Room) (s.setVm s.vm) m #[(.ref a1)] below meth c s₁ [] 0 0 := Stand.of_body Bd
  have e0 : s₁.heap = h0 := by rw [← hh, Bd.state]; rfl
  have N0 := Fr.nil n0
  have pre0 : ∀ t, Steps p.tables e below (s₁.setTop (mkF m 0 #[.val (.ref a1)] [])) t → Steps p.tables e below (s₁.setTop (entryFrame m #[(.ref a1)] 1)) t := fun t k => castTop (ef_2 m (a1)) k
  have hZ : Z.Warmed39 (s.setVm s.vm).vm := hZ0
  have hS0 : s.Since s.vm 0 := (State.WarmedH.refl s).since 0
  have hCr0 : CHr Z consts_1 s.vm h0 s.vm h0 := CHr.refl hCH0
  have pre1 : ∀ t, Steps p.tables e below (s₁.setTop (mkF m 1 #[.val (.ref a1)] [(.ref a1)])) t → Steps p.tables e below (s₁.setTop (entryFrame m #[(.ref a1)] 1)) t := fun t kt => pre0 t (by
    show Steps p.tables e below (s₁.setTop (mkF m 0 #[.val (.ref a1)] [])) _
    refine XS.aloadN X0.here hx rfl (hb hby d2_0) rfl rfl ?_
    exact kt)
  obtain ⟨cq2, kq2, q2a, q2b, q2c⟩ := isOf hZ e0 E0
  obtain ⟨_, _, ⟨T2, L2, k2, n2⟩, -, X2, ⟨Lc2, hQ2, l2, y2, z2⟩, st2⟩ := X0.virtualBackUp hx (x := (⟨"com/example/quillet/quillet/jpql/AggregateFunction", "ordinal", "()I"⟩ : MethodName)) (y := (⟨"java/lang/Enum", "ordinal", "()I"⟩ : MethodName)) hown (mvT hZ (hw _ (List.mem_of_getElem? (i := 15) rfl))) (mvT hZ (hw _ (List.mem_of_getElem? (i := 16) rfl))) (mvT hZ (hw _ (List.mem_of_getElem? (i := 17) rfl))) (by decide) (mvT hZ (hw _ (List.mem_of_getElem? (i := 19) rfl))) (mvT hZ (hw _ (List.mem_of_getElem? (i := 18) rfl))) (backOf (W := 0) (rm3 l Z a0 hw [] a1 (Int32.ofNat j) h0 n0 Z0 Fo) hZ (hw _ (List.mem_of_getElem? (i := 21) rfl)) (hw _ (List.mem_of_getElem? (i := 20) rfl)) (by decide) (by decide)) q2a q2c (g := (mkF m 1 #[.val (.ref a1)] [(.ref a1)])) rfl (by rw [hml]; rfl) (Steps.refl _) (argsL := []) (rest := []) (lenOf pd_2_0 rfl) rfl (by show 2 * 0 + _ ≤ _; exact Nat.le_of_eq rfl) (hb hby d2_1) (fun _ _ => ⟨rfl, e0, (by decide : 0 + 0 ≤ _), (by decide : 0 + 0 ≤ _)⟩)
  dsimp only [Pt.U, Pt.locs, Pt.cells, Pt.slots] at X2 l2 y2 z2 st2 hQ2
  subst l2 y2 z2
  obtain ⟨rfl, rfl, e2⟩ := hQ2
  try rw [List.append_nil] at X2
  have pre3 : ∀ t, Steps p.tables e below (T2.setTop (mkF m 4 #[.val (.ref a1)] [(.int (Int32.ofNat j))])) t → Steps p.tables e below (s₁.setTop (entryFrame m #[(.ref a1)] 1)) t := fun t kt => pre1 t (st2.trans kt)
  rcases own_5 hj5 with h5 | h5 | h5 | h5 | h5
  · subst h5
    have pre4 : ∀ t, Steps p.tables e below (T2.setTop (mkF m 60 #[.val (.ref a1)] [])) t → Steps p.tables e below (s₁.setTop (entryFrame m #[(.ref a1)] 1)) t := fun t kt => pre3 t (by
      show Steps p.tables e below (T2.setTop (mkF m 4 #[.val (.ref a1)] [(.int (Int32.ofNat 0))])) _
      refine XS.tswIn X2.here hx rfl (o := 56) (pc0 := 4) (pc' := 60) rfl (hb hby d2_4) rfl (by decide) (by decide) (by decide) (by decide) ?_
      exact kt)
    obtain ⟨a5, T5, h5, k15, b5, c5, X5, e5, E5, hS5, hk5, hZ, hown, E15, C15, V15, R15, -, -, hCr5, -, -, st5⟩ := ldcCH X2 hx hZ hown (hw _ (List.mem_of_getElem? (i := 24) rfl)) (own_wS hw) e2 hS0 (Nat.zero_le _) (own_EW hw) (List.mem_of_getElem? (i := 2) rfl) hCH0 (vs := (own_cs (own_t 0)).map Value.int) (z := (21 : Int32)) ⟨by decide, by rw [own_cs, List.map_map]; rfl⟩ (by decide) (by decide) (g := (mkF m 60 #[.val (.ref a1)] [])) rfl (hb hby d2_60) (n := 200) (by decide) (by decide) (by decide) (by decide)
    have SS5 := own_S.of E15 C15 V15 R15 (by decide) (by decide)
    have hCr5 := hCr0.trans hCr5
    have pre6 : ∀ t, Steps p.tables e below (T5.setTop (mkF m 62 #[.val (.ref a1)] [(.ref a5)])) t → Steps p.tables e below (s₁.setTop (entryFrame m #[(.ref a1)] 1)) t := fun t kt => pre4 t (st5 t kt)
    obtain ⟨fs, hr, hrun, hended, hEnd⟩ := X5.leaveW hS5 (Nat.le_trans hk5 (Nat.le_of_eq (congrArg Array.size (e5).symm))) (v := some (.ref a5)) (fun h => by rw [Bd.returns] at h; cases h)
    refine ⟨_, _, pre6 _ ?_, hrun, hended, _, _, rfl, ?_, ?_, hEnd.1, hEnd.2.1, hEnd.2.2.1, hEnd.2.2.2.mono (by decide) (by decide)⟩
    · show Steps p.tables e below (T5.setTop (mkF m 62 #[.val (.ref a1)] [(.ref a5)])) _
      jvm_step X5.here [X5.here.top, hx, (hb hby d2_62), X5.method', Bd.returns, Value.isRef, FieldType.isReference]
      first | (intro acts; rw [hr _ acts rfl rfl rfl]) | rw [hr _ _ rfl rfl rfl]
      exact Steps.refl _
    · show Q2 Z a1 0 h0 n0 _ T5.heap _
      rw [e5]
      exact ⟨_, rfl, rfl, E5, SS5⟩
    · show CHr Z consts_1 s.vm s.heap T5.vm T5.heap
      rw [hh, e5]
      exact hCr5.trans (CHv.at X5 hZ (own_EW hw) hCr5.1)
  · subst h5
    have pre7 : ∀ t, Steps p.tables e below (T2.setTop (mkF m 50 #[.val (.ref a1)] [])) t → Steps p.tables e below (s₁.setTop (entryFrame m #[(.ref a1)] 1)) t := fun t kt => pre3 t (by
      show Steps p.tables e below (T2.setTop (mkF m 4 #[.val (.ref a1)] [(.int (Int32.ofNat 1))])) _
      refine XS.tswIn X2.here hx rfl (o := 46) (pc0 := 4) (pc' := 50) rfl (hb hby d2_4) rfl (by decide) (by decide) (by decide) (by decide) ?_
      exact kt)
    obtain ⟨a8, T8, h8, k18, b8, c8, X8, e8, E8, hS8, hk8, hZ, hown, E18, C18, V18, R18, -, -, hCr8, -, -, st8⟩ := ldcCH X2 hx hZ hown (hw _ (List.mem_of_getElem? (i := 61) rfl)) (own_wS hw) e2 hS0 (Nat.zero_le _) (own_EW hw) (List.mem_of_getElem? (i := 0) rfl) hCH0 (vs := (own_cs (own_t 1)).map Value.int) (z := (50 : Int32)) ⟨by decide, by rw [own_cs, List.map_map]; rfl⟩ (by decide) (by decide) (g := (mkF m 50 #[.val (.ref a1)] [])) rfl (hb hby d2_50) (n := 200) (by decide) (by decide) (by decide) (by decide)
    have SS8 := own_S.of E18 C18 V18 R18 (by decide) (by decide)
    have hCr8 := hCr0.trans hCr8
    have pre9 : ∀ t, Steps p.tables e below (T8.setTop (mkF m 52 #[.val (.ref a1)] [(.ref a8)])) t → Steps p.tables e below (s₁.setTop (entryFrame m #[(.ref a1)] 1)) t := fun t kt => pre7 t (st8 t kt)
    have pre10 : ∀ t, Steps p.tables e below (T8.setTop (mkF m 62 #[.val (.ref a1)] [(.ref a8)])) t → Steps p.tables e below (s₁.setTop (entryFrame m #[(.ref a1)] 1)) t := fun t kt => pre9 t (by
      show Steps p.tables e below (T8.setTop (mkF m 52 #[.val (.ref a1)] [(.ref a8)])) _
      refine XS.goto X8.here hx rfl (pc0 := 52) (pc' := 62) rfl (hb hby d2_52) (by decide) (by decide) ?_
      exact kt)
    obtain ⟨fs, hr, hrun, hended, hEnd⟩ := X8.leaveW hS8 (Nat.le_trans hk8 (Nat.le_of_eq (congrArg Array.size (e8).symm))) (v := some (.ref a8)) (fun h => by rw [Bd.returns] at h; cases h)
    refine ⟨_, _, pre10 _ ?_, hrun, hended, _, _, rfl, ?_, ?_, hEnd.1, hEnd.2.1, hEnd.2.2.1, hEnd.2.2.2.mono (by decide) (by decide)⟩
    · show Steps p.tables e below (T8.setTop (mkF m 62 #[.val (.ref a1)] [(.ref a8)])) _
      jvm_step X8.here [X8.here.top, hx, (hb hby d2_62), X8.method', Bd.returns, Value.isRef, FieldType.isReference]
      first | (intro acts; rw [hr _ acts rfl rfl rfl]) | rw [hr _ _ rfl rfl rfl]
      exact Steps.refl _
    · show Q2 Z a1 1 h0 n0 _ T8.heap _
      rw [e8]
      exact ⟨_, rfl, rfl, E8, SS8⟩
    · show CHr Z consts_1 s.vm s.heap T8.vm T8.heap
      rw [hh, e8]
      exact hCr8.trans (CHv.at X8 hZ (own_EW hw) hCr8.1)
  · subst h5
    have pre11 : ∀ t, Steps p.tables e below (T2.setTop (mkF m 55 #[.val (.ref a1)] [])) t → Steps p.tables e below (s₁.setTop (entryFrame m #[(.ref a1)] 1)) t := fun t kt => pre3 t (by
      show Steps p.tables e below (T2.setTop (mkF m 4 #[.val (.ref a1)] [(.int (Int32.ofNat 2))])) _
      refine XS.tswIn X2.here hx rfl (o := 51) (pc0 := 4) (pc' := 55) rfl (hb hby d2_4) rfl (by decide) (by decide) (by decide) (by decide) ?_
      exact kt)
    obtain ⟨a12, T12, h12, k112, b12, c12, X12, e12, E12, hS12, hk12, hZ, hown, E112, C112, V112, R112, -, -, hCr12, -, -, st12⟩ := ldcCH X2 hx hZ hown (hw _ (List.mem_of_getElem? (i := 32) rfl)) (own_wS hw) e2 hS0 (Nat.zero_le _) (own_EW hw) (List.mem_of_getElem? (i := 1) rfl) hCH0 (vs := (own_cs (own_t 2)).map Value.int) (z := (37 : Int32)) ⟨by decide, by rw [own_cs, List.map_map]; rfl⟩ (by decide) (by decide) (g := (mkF m 55 #[.val (.ref a1)] [])) rfl (hb hby d2_55) (n := 200) (by decide) (by decide) (by decide) (by decide)
    have SS12 := own_S.of E112 C112 V112 R112 (by decide) (by decide)
    have hCr12 := hCr0.trans hCr12
    have pre13 : ∀ t, Steps p.tables e below (T12.setTop (mkF m 57 #[.val (.ref a1)] [(.ref a12)])) t → Steps p.tables e below (s₁.setTop (entryFrame m #[(.ref a1)] 1)) t := fun t kt => pre11 t (st12 t kt)
    have pre14 : ∀ t, Steps p.tables e below (T12.setTop (mkF m 62 #[.val (.ref a1)] [(.ref a12)])) t → Steps p.tables e below (s₁.setTop (entryFrame m #[(.ref a1)] 1)) t := fun t kt => pre13 t (by
      show Steps p.tables e below (T12.setTop (mkF m 57 #[.val (.ref a1)] [(.ref a12)])) _
      refine XS.goto X12.here hx rfl (pc0 := 57) (pc' := 62) rfl (hb hby d2_57) (by decide) (by decide) ?_
      exact kt)
    obtain ⟨fs, hr, hrun, hended, hEnd⟩ := X12.leaveW hS12 (Nat.le_trans hk12 (Nat.le_of_eq (congrArg Array.size (e12).symm))) (v := some (.ref a12)) (fun h => by rw [Bd.returns] at h; cases h)
    refine ⟨_, _, pre14 _ ?_, hrun, hended, _, _, rfl, ?_, ?_, hEnd.1, hEnd.2.1, hEnd.2.2.1, hEnd.2.2.2.mono (by decide) (by decide)⟩
    · show Steps p.tables e below (T12.setTop (mkF m 62 #[.val (.ref a1)] [(.ref a12)])) _
      jvm_step X12.here [X12.here.top, hx, (hb hby d2_62), X12.method', Bd.returns, Value.isRef, FieldType.isReference]
      first | (intro acts; rw [hr _ acts rfl rfl rfl]) | rw [hr _ _ rfl rfl rfl]
      exact Steps.refl _
    · show Q2 Z a1 2 h0 n0 _ T12.heap _
      rw [e12]
      exact ⟨_, rfl, rfl, E12, SS12⟩
    · show CHr Z consts_1 s.vm s.heap T12.vm T12.heap
      rw [hh, e12]
      exact hCr12.trans (CHv.at X12 hZ (own_EW hw) hCr12.1)
  · subst h5
    have pre15 : ∀ t, Steps p.tables e below (T2.setTop (mkF m 55 #[.val (.ref a1)] [])) t → Steps p.tables e below (s₁.setTop (entryFrame m #[(.ref a1)] 1)) t := fun t kt => pre3 t (by
      show Steps p.tables e below (T2.setTop (mkF m 4 #[.val (.ref a1)] [(.int (Int32.ofNat 3))])) _
      refine XS.tswIn X2.here hx rfl (o := 51) (pc0 := 4) (pc' := 55) rfl (hb hby d2_4) rfl (by decide) (by decide) (by decide) (by decide) ?_
      exact kt)
    obtain ⟨a16, T16, h16, k116, b16, c16, X16, e16, E16, hS16, hk16, hZ, hown, E116, C116, V116, R116, -, -, hCr16, -, -, st16⟩ := ldcCH X2 hx hZ hown (hw _ (List.mem_of_getElem? (i := 32) rfl)) (own_wS hw) e2 hS0 (Nat.zero_le _) (own_EW hw) (List.mem_of_getElem? (i := 1) rfl) hCH0 (vs := (own_cs (own_t 3)).map Value.int) (z := (37 : Int32)) ⟨by decide, by rw [own_cs, List.map_map]; rfl⟩ (by decide) (by decide) (g := (mkF m 55 #[.val (.ref a1)] [])) rfl (hb hby d2_55) (n := 200) (by decide) (by decide) (by decide) (by decide)
    have SS16 := own_S.of E116 C116 V116 R116 (by decide) (by decide)
    have hCr16 := hCr0.trans hCr16
    have pre17 : ∀ t, Steps p.tables e below (T16.setTop (mkF m 57 #[.val (.ref a1)] [(.ref a16)])) t → Steps p.tables e below (s₁.setTop (entryFrame m #[(.ref a1)] 1)) t := fun t kt => pre15 t (st16 t kt)
    have pre18 : ∀ t, Steps p.tables e below (T16.setTop (mkF m 62 #[.val (.ref a1)] [(.ref a16)])) t → Steps p.tables e below (s₁.setTop (entryFrame m #[(.ref a1)] 1)) t := fun t kt => pre17 t (by
      show Steps p.tables e below (T16.setTop (mkF m 57 #[.val (.ref a1)] [(.ref a16)])) _
      refine XS.goto X16.here hx rfl (pc0 := 57) (pc' := 62) rfl (hb hby d2_57) (by decide) (by decide) ?_
      exact kt)
    obtain ⟨fs, hr, hrun, hended, hEnd⟩ := X16.leaveW hS16 (Nat.le_trans hk16 (Nat.le_of_eq (congrArg Array.size (e16).symm))) (v := some (.ref a16)) (fun h => by rw [Bd.returns] at h; cases h)
    refine ⟨_, _, pre18 _ ?_, hrun, hended, _, _, rfl, ?_, ?_, hEnd.1, hEnd.2.1, hEnd.2.2.1, hEnd.2.2.2.mono (by decide) (by decide)⟩
    · show Steps p.tables e below (T16.setTop (mkF m 62 #[.val (.ref a1)] [(.ref a16)])) _
      jvm_step X16.here [X16.here.top, hx, (hb hby d2_62), X16.method', Bd.returns, Value.isRef, FieldType.isReference]
      first | (intro acts; rw [hr _ acts rfl rfl rfl]) | rw [hr _ _ rfl rfl rfl]
      exact Steps.refl _
    · show Q2 Z a1 3 h0 n0 _ T16.heap _
      rw [e16]
      exact ⟨_, rfl, rfl, E16, SS16⟩
    · show CHr Z consts_1 s.vm s.heap T16.vm T16.heap
      rw [hh, e16]
      exact hCr16.trans (CHv.at X16 hZ (own_EW hw) hCr16.1)
  · subst h5
    have pre19 : ∀ t, Steps p.tables e below (T2.setTop (mkF m 60 #[.val (.ref a1)] [])) t → Steps p.tables e below (s₁.setTop (entryFrame m #[(.ref a1)] 1)) t := fun t kt => pre3 t (by
      show Steps p.tables e below (T2.setTop (mkF m 4 #[.val (.ref a1)] [(.int (Int32.ofNat 4))])) _
      refine XS.tswIn X2.here hx rfl (o := 56) (pc0 := 4) (pc' := 60) rfl (hb hby d2_4) rfl (by decide) (by decide) (by decide) (by decide) ?_
      exact kt)
    obtain ⟨a20, T20, h20, k120, b20, c20, X20, e20, E20, hS20, hk20, hZ, hown, E120, C120, V120, R120, -, -, hCr20, -, -, st20⟩ := ldcCH X2 hx hZ hown (hw _ (List.mem_of_getElem? (i := 24) rfl)) (own_wS hw) e2 hS0 (Nat.zero_le _) (own_EW hw) (List.mem_of_getElem? (i := 2) rfl) hCH0 (vs := (own_cs (own_t 4)).map Value.int) (z := (21 : Int32)) ⟨by decide, by rw [own_cs, List.map_map]; rfl⟩ (by decide) (by decide) (g := (mkF m 60 #[.val (.ref a1)] [])) rfl (hb hby d2_60) (n := 200) (by decide) (by decide) (by decide) (by decide)
    have SS20 := own_S.of E120 C120 V120 R120 (by decide) (by decide)
    have hCr20 := hCr0.trans hCr20
    have pre21 : ∀ t, Steps p.tables e below (T20.setTop (mkF m 62 #[.val (.ref a1)] [(.ref a20)])) t → Steps p.tables e below (s₁.setTop (entryFrame m #[(.ref a1)] 1)) t := fun t kt => pre19 t (st20 t kt)
    obtain ⟨fs, hr, hrun, hended, hEnd⟩ := X20.leaveW hS20 (Nat.le_trans hk20 (Nat.le_of_eq (congrArg Array.size (e20).symm))) (v := some (.ref a20)) (fun h => by rw [Bd.returns] at h; cases h)
    refine ⟨_, _, pre21 _ ?_, hrun, hended, _, _, rfl, ?_, ?_, hEnd.1, hEnd.2.1, hEnd.2.2.1, hEnd.2.2.2.mono (by decide) (by decide)⟩
    · show Steps p.tables e below (T20.setTop (mkF m 62 #[.val (.ref a1)] [(.ref a20)])) _
      jvm_step X20.here [X20.here.top, hx, (hb hby d2_62), X20.method', Bd.returns, Value.isRef, FieldType.isReference]
      first | (intro acts; rw [hr _ acts rfl rfl rfl]) | rw [hr _ _ rfl rfl rfl]
      exact Steps.refl _
    · show Q2 Z a1 4 h0 n0 _ T20.heap _
      rw [e20]
      exact ⟨_, rfl, rfl, E20, SS20⟩
    · show CHr Z consts_1 s.vm s.heap T20.vm T20.heap
      rw [hh, e20]
      exact hCr20.trans (CHv.at X20 hZ (own_EW hw) hCr20.1)
theorem d5_0 : decode method_4_code 0 = .ok (.aload_n 0, 1) := by decide +kernel
theorem d5_1 : decode method_4_code 1 = .ok (.invokestatic 26, 3) := by decide +kernel
theorem d5_4 : decode method_4_code 4 = .ok (.istore_n 1, 1) := by decide +kernel
theorem d5_5 : decode method_4_code 5 = .ok (.iload_n 1, 1) := by decide +kernel
theorem d5_6 : decode method_4_code 6 = .ok (.ifCond .ne 6, 3) := by decide +kernel
theorem d5_9 : decode method_4_code 9 = .ok (.ldc 32, 2) := by decide +kernel
theorem d5_11 : decode method_4_code 11 = .ok (.areturn, 1) := by decide +kernel
theorem d5_12 : decode method_4_code 12 = .ok (.iload_n 1, 1) := by decide +kernel
theorem d5_13 : decode method_4_code 13 = .ok (.iconst 1, 1) := by decide +kernel
theorem d5_14 : decode method_4_code 14 = .ok (.if_icmp .ne 6, 3) := by decide +kernel
theorem d5_17 : decode method_4_code 17 = .ok (.ldc 34, 2) := by decide +kernel
theorem d5_19 : decode method_4_code 19 = .ok (.areturn, 1) := by decide +kernel
theorem d5_20 : decode method_4_code 20 = .ok (.ldc 36, 2) := by decide +kernel
theorem d5_22 : decode method_4_code 22 = .ok (.areturn, 1) := by decide +kernel
theorem pn_5 : plainName "com/example/quillet/quillet/jpql/AggregateFunctionArgumentPinLaw" = true := by first | (simp [plainName, overriddenIn]; done) | decide +kernel
theorem pd_5_0 : parseMethodDescriptor "(Lcom/example/quillet/quillet/jpql/AggregateFunction;)I" = some ⟨[(.object "com/example/quillet/quillet/jpql/AggregateFunction")], some .int⟩ := by decide +kernel
theorem ef_5 (m : MethodId) (x0 : Addr) : entryFrame m #[(.ref x0)] 2 = mkF m 0 #[.val (.ref x0), .unset] [] := by first | (simp [entryFrame, mkF, argsToLocals, Value.category]; done) | rfl
def Q5 (Z : State) (j : Nat) (ad : Nat → Addr) (h0 : Heap) (n0 : Nat) (v : Option Value) (h : Heap) (L : List Loc) : Prop := ∃ a : Addr, v = some (.ref a) ∧ L = [] ∧ Ext h0 h ∧ own_S Z h a (own_t j)
set_option maxRecDepth 65536 in
set_option maxHeartbeats 40000000 in
theorem rm5 (l : Launch) (Z : State) (a0 : Array Value) (hw : ∀ d ∈ tables_1, d.before a0 Z = true) (ws : List Jvm.Cond) (j : Nat) (ad : Nat → Addr) (h0 : Heap) (n0 : Nat) (Z0 : n0 ≤ h0.size) (S0 : Sta Z h0 "com/example/quillet/quillet/jpql/AggregateFunction" "AVG" "Lcom/example/quillet/quillet/jpql/AggregateFunction;" (.ref (ad 0))) (S1 : Sta Z h0 "com/example/quillet/quillet/jpql/AggregateFunction" "COUNT" "Lcom/example/quillet/quillet/jpql/AggregateFunction;" (.ref (ad 1))) (S2 : Sta Z h0 "com/example/quillet/quillet/jpql/AggregateFunction" "MAX" "Lcom/example/quillet/quillet/jpql/AggregateFunction;" (.ref (ad 2))) (S3 : Sta Z h0 "com/example/quillet/quillet/jpql/AggregateFunction" "MIN" "Lcom/example/quillet/quillet/jpql/AggregateFunction;" (.ref (ad 3))) (S4 : Sta Z h0 "com/example/quillet/quillet/jpql/AggregateFunction" "SUM" "Lcom/example/quillet/quillet/jpql/AggregateFunction;" (.ref (ad 4))) (hj5 : j < 5) (inj : ∀ i k, i < 5 → k < 5 → ad i = ad k → i = k) :
    MetFree l (⟨"com/example/quillet/quillet/jpql/AggregateFunctionArgumentPinLaw", "expected", "(Lcom/example/quillet/quillet/jpql/AggregateFunction;)Ljava/lang/String;"⟩ : MethodName) (head1 (Jvm.Cond.code (⟨"com/example/quillet/quillet/jpql/AggregateFunctionArgumentPinLaw", "expected", "(Lcom/example/quillet/quillet/jpql/AggregateFunction;)Ljava/lang/String;"⟩ : MethodName) method_4_code 2 (some (.object "java/lang/String")) :: ws) ({ frames := 1, cells := 2, slots := 204, locals := 12 } : Room)) (fun a U => a = #[(.ref (ad j))] ∧ Z.Warmed39 U.vm ∧ U.heap = h0 ∧ CHv Z consts_1 U.vm h0) (fun _ _ _ _ _ => True) (fun _ U ou U' => ∃ v L, ou = .returned v ∧ Q5 Z j ad h0 n0 v U'.heap L ∧ CHr Z consts_1 U.vm U.heap U'.vm U'.heap ∧ ReturnedEndW U ou U' L ({ frames := 1, cells := 2, slots := 204, locals := 12 } : Room).cells ({ frames := 1, cells := 2, slots := 204, locals := 12 } : Room).slots) := by
  refine MetFree.of_bodySF (plainFor_of_name pn_5) hisR ?_
  intro p e s m args below meth c s₁ Bd hml0 hP hK
  obtain ⟨rfl, hZ0, hh, hCH0⟩ := hP
  have hx := Bd.exec
  have hby := Bd.bytes
  have hml : c.maxLocals = 2 := hml0
  have hown : (s.setVm s.vm).vm.findClass "com/example/quillet/quillet/jpql/AggregateFunctionArgumentPinLaw" = some m.cls := findClass_of_methodNamed Bd.named
  have hnm := (name_of_methodNamed Bd.named Bd.method).1
  have X0 : Stand p l e ({ frames := 1, cells := 2, slots := 204, locals := 12 } : Room) (s.setVm s.vm) m #[(.ref (ad j))] below meth c s₁ [] 0 0 := Stand.of_body Bd
  have e0 : s₁.heap = h0 := by rw [← hh, Bd.state]; rfl
  have N0 := Fr.nil n0
  have pre0 : ∀ t, Steps p.tables e below (s₁.setTop (mkF m 0 #[.val (.ref (ad j)), .unset] [])) t → Steps p.tables e below (s₁.setTop (entryFrame m #[(.ref (ad j))] 2)) t := fun t k => castTop (ef_5 m ((ad j))) k
  have hZ : Z.Warmed39 (s.setVm s.vm).vm := hZ0
  have hS0 : s.Since s.vm 0 := (State.WarmedH.refl s).since 0
  have hCr0 : CHr Z consts_1 s.vm h0 s.vm h0 := CHr.refl hCH0
  have pre1 : ∀ t, Steps p.tables e below (s₁.setTop (mkF m 1 #[.val (.ref (ad j)), .unset] [(.ref (ad j))])) t → Steps p.tables e below (s₁.setTop (entryFrame m #[(.ref (ad j))] 2)) t := fun t kt => pre0 t (by
    show Steps p.tables e below (s₁.setTop (mkF m 0 #[.val (.ref (ad j)), .unset] [])) _
    refine XS.aloadN X0.here hx rfl (hb hby d5_0) rfl rfl ?_
    exact kt)
  obtain ⟨_, _, ⟨T2, L2, k2, n2⟩, -, X2, ⟨Lc2, hQ2, l2, y2, z2⟩, st2⟩ := Jvm.LawKit.callS X0 hx (y := (⟨"com/example/quillet/quillet/jpql/AggregateFunctionArgumentPinLaw", "group", "(Lcom/example/quillet/quillet/jpql/AggregateFunction;)I"⟩ : MethodName)) hown (mvT hZ (hw _ (List.mem_of_getElem? (i := 33) rfl))) (mvT hZ (hw _ (List.mem_of_getElem? (i := 34) rfl))) (mvT hZ (hw _ (List.mem_of_getElem? (i := 2) rfl))) (mvT hZ (hw _ (List.mem_of_getElem? (i := 35) rfl))) (by decide) (backOf (W := 0) (rm4 l Z a0 hw [] j ad h0 n0 Z0 S0 S1 S2 S3 S4 hj5 inj) hZ (hw _ (List.mem_of_getElem? (i := 35) rfl)) (hw _ (List.mem_of_getElem? (i := 2) rfl)) (by decide) (by decide)) (g := (mkF m 1 #[.val (.ref (ad j)), .unset] [(.ref (ad j))])) rfl (by rw [hml]; rfl) (argsL := [(.ref (ad j))]) (rest := []) (lenOf pd_5_0 rfl) rfl (by show 2 * 0 + _ ≤ _; exact Nat.le_of_eq rfl) (hb hby d5_1) (fun _ _ => ⟨rfl, e0, (by decide : 0 + 0 ≤ _), (by decide : 0 + 0 ≤ _)⟩)
  dsimp only [Pt.U, Pt.locs, Pt.cells, Pt.slots] at X2 l2 y2 z2 st2 hQ2
  subst l2 y2 z2
  obtain ⟨rfl, rfl, e2⟩ := hQ2
  try rw [List.append_nil] at X2
  have pre3 : ∀ t, Steps p.tables e below (T2.setTop (mkF m 4 #[.val (.ref (ad j)), .unset] [(.int (own_g j))])) t → Steps p.tables e below (s₁.setTop (entryFrame m #[(.ref (ad j))] 2)) t := fun t kt => pre1 t (st2 t kt)
  have pre4 : ∀ t, Steps p.tables e below (T2.setTop (mkF m 5 #[.val (.ref (ad j)), .val (.int (own_g j))] [])) t → Steps p.tables e below (s₁.setTop (entryFrame m #[(.ref (ad j))] 2)) t := fun t kt => pre3 t (by
    show Steps p.tables e below (T2.setTop (mkF m 4 #[.val (.ref (ad j)), .unset] [(.int (own_g j))])) _
    refine XS.istoreN X2.here hx rfl (hb hby d5_4) rfl (l' := #[.val (.ref (ad j)), .val (.int (own_g j))]) rfl ?_
    exact kt)
  rcases own_5 hj5 with h5 | h5 | h5 | h5 | h5
  · subst h5
    have pre5 : ∀ t, Steps p.tables e below (T2.setTop (mkF m 20 #[.val (.ref (ad 0)), .val (.int (own_g 0))] [])) t → Steps p.tables e below (s₁.setTop (entryFrame m #[(.ref (ad 0))] 2)) t := fun t kt => pre4 t (by
      show Steps p.tables e below (T2.setTop (mkF m 5 #[.val (.ref (ad 0)), .val (.int (own_g 0))] [])) _
      refine XS.iloadN X2.here hx rfl (hb hby d5_5) rfl ?_
      show Steps p.tables e below (T2.setTop (mkF m 6 #[.val (.ref (ad 0)), .val (.int (own_g 0))] [(.int (own_g 0))])) _
      refine XS.ifYes X2.here hx rfl (pc0 := 6) (pc' := 12) rfl (hb hby d5_6) rfl ((if0 _ _).trans (feq (by decide)).2) (by decide) (by decide) ?_
      show Steps p.tables e below (T2.setTop (mkF m 12 #[.val (.ref (ad 0)), .val (.int (own_g 0))] [])) _
      refine XS.iloadN X2.here hx rfl (hb hby d5_12) rfl ?_
      show Steps p.tables e below (T2.setTop (mkF m 13 #[.val (.ref (ad 0)), .val (.int (own_g 0))] [(.int (own_g 0))])) _
      refine XS.iconst X2.here hx rfl (hb hby d5_13) ?_
      show Steps p.tables e below (T2.setTop (mkF m 14 #[.val (.ref (ad 0)), .val (.int (own_g 0))] [(.int (1 : Int32)), (.int (own_g 0))])) _
      refine XS.icmpYes X2.here hx rfl (pc0 := 14) (pc' := 20) rfl (hb hby d5_14) rfl (feq (by decide)).2 (by decide) (by decide) ?_
      exact kt)
    obtain ⟨a6, T6, h6, k16, b6, c6, X6, e6, E6, hS6, hk6, hZ, hown, E16, C16, V16, R16, -, -, hCr6, -, -, st6⟩ := ldcCH X2 hx hZ hown (hw _ (List.mem_of_getElem? (i := 43) rfl)) (own_wS hw) e2 hS0 (Nat.zero_le _) (own_EW hw) (List.mem_of_getElem? (i := 5) rfl) hCH0 (vs := (own_cs (own_t 0)).map Value.int) (z := (21 : Int32)) ⟨by decide, by rw [own_cs, List.map_map]; rfl⟩ (by decide) (by decide) (g := (mkF m 20 #[.val (.ref (ad 0)), .val (.int (own_g 0))] [])) rfl (hb hby d5_20) (n := 200) (by decide) (by decide) (by decide) (by decide)
    have SS6 := own_S.of E16 C16 V16 R16 (by decide) (by decide)
    have hCr6 := hCr0.trans hCr6
    have pre7 : ∀ t, Steps p.tables e below (T6.setTop (mkF m 22 #[.val (.ref (ad 0)), .val (.int (own_g 0))] [(.ref a6)])) t → Steps p.tables e below (s₁.setTop (entryFrame m #[(.ref (ad 0))] 2)) t := fun t kt => pre5 t (st6 t kt)
    obtain ⟨fs, hr, hrun, hended, hEnd⟩ := X6.leaveW hS6 (Nat.le_trans hk6 (Nat.le_of_eq (congrArg Array.size (e6).symm))) (v := some (.ref a6)) (fun h => by rw [Bd.returns] at h; cases h)
    refine ⟨_, _, pre7 _ ?_, hrun, hended, _, _, rfl, ?_, ?_, hEnd.1, hEnd.2.1, hEnd.2.2.1, hEnd.2.2.2.mono (by decide) (by decide)⟩
    · show Steps p.tables e below (T6.setTop (mkF m 22 #[.val (.ref (ad 0)), .val (.int (own_g 0))] [(.ref a6)])) _
      jvm_step X6.here [X6.here.top, hx, (hb hby d5_22), X6.method', Bd.returns, Value.isRef, FieldType.isReference]
      first | (intro acts; rw [hr _ acts rfl rfl rfl]) | rw [hr _ _ rfl rfl rfl]
      exact Steps.refl _
    · show Q5 Z 0 ad h0 n0 _ T6.heap _
      rw [e6]
      exact ⟨_, rfl, rfl, E6, SS6⟩
    · show CHr Z consts_1 s.vm s.heap T6.vm T6.heap
      rw [hh, e6]
      exact hCr6.trans (CHv.at X6 hZ (own_EW hw) hCr6.1)
  · subst h5
    have pre8 : ∀ t, Steps p.tables e below (T2.setTop (mkF m 9 #[.val (.ref (ad 1)), .val (.int (own_g 1))] [])) t → Steps p.tables e below (s₁.setTop (entryFrame m #[(.ref (ad 1))] 2)) t := fun t kt => pre4 t (by
      show Steps p.tables e below (T2.setTop (mkF m 5 #[.val (.ref (ad 1)), .val (.int (own_g 1))] [])) _
      refine XS.iloadN X2.here hx rfl (hb hby d5_5) rfl ?_
      show Steps p.tables e below (T2.setTop (mkF m 6 #[.val (.ref (ad 1)), .val (.int (own_g 1))] [(.int (own_g 1))])) _
      refine XS.ifNo X2.here hx rfl (hb hby d5_6) rfl ((if0 _ _).trans (teq (by decide)).2) ?_
      exact kt)
    obtain ⟨a9, T9, h9, k19, b9, c9, X9, e9, E9, hS9, hk9, hZ, hown, E19, C19, V19, R19, -, -, hCr9, -, -, st9⟩ := ldcCH X2 hx hZ hown (hw _ (List.mem_of_getElem? (i := 62) rfl)) (own_wS hw) e2 hS0 (Nat.zero_le _) (own_EW hw) (List.mem_of_getElem? (i := 3) rfl) hCH0 (vs := (own_cs (own_t 1)).map Value.int) (z := (50 : Int32)) ⟨by decide, by rw [own_cs, List.map_map]; rfl⟩ (by decide) (by decide) (g := (mkF m 9 #[.val (.ref (ad 1)), .val (.int (own_g 1))] [])) rfl (hb hby d5_9) (n := 200) (by decide) (by decide) (by decide) (by decide)
    have SS9 := own_S.of E19 C19 V19 R19 (by decide) (by decide)
    have hCr9 := hCr0.trans hCr9
    have pre10 : ∀ t, Steps p.tables e below (T9.setTop (mkF m 11 #[.val (.ref (ad 1)), .val (.int (own_g 1))] [(.ref a9)])) t → Steps p.tables e below (s₁.setTop (entryFrame m #[(.ref (ad 1))] 2)) t := fun t kt => pre8 t (st9 t kt)
    obtain ⟨fs, hr, hrun, hended, hEnd⟩ := X9.leaveW hS9 (Nat.le_trans hk9 (Nat.le_of_eq (congrArg Array.size (e9).symm))) (v := some (.ref a9)) (fun h => by rw [Bd.returns] at h; cases h)
    refine ⟨_, _, pre10 _ ?_, hrun, hended, _, _, rfl, ?_, ?_, hEnd.1, hEnd.2.1, hEnd.2.2.1, hEnd.2.2.2.mono (by decide) (by decide)⟩
    · show Steps p.tables e below (T9.setTop (mkF m 11 #[.val (.ref (ad 1)), .val (.int (own_g 1))] [(.ref a9)])) _
      jvm_step X9.here [X9.here.top, hx, (hb hby d5_11), X9.method', Bd.returns, Value.isRef, FieldType.isReference]
      first | (intro acts; rw [hr _ acts rfl rfl rfl]) | rw [hr _ _ rfl rfl rfl]
      exact Steps.refl _
    · show Q5 Z 1 ad h0 n0 _ T9.heap _
      rw [e9]
      exact ⟨_, rfl, rfl, E9, SS9⟩
    · show CHr Z consts_1 s.vm s.heap T9.vm T9.heap
      rw [hh, e9]
      exact hCr9.trans (CHv.at X9 hZ (own_EW hw) hCr9.1)
  · subst h5
    have pre11 : ∀ t, Steps p.tables e below (T2.setTop (mkF m 17 #[.val (.ref (ad 2)), .val (.int (own_g 2))] [])) t → Steps p.tables e below (s₁.setTop (entryFrame m #[(.ref (ad 2))] 2)) t := fun t kt => pre4 t (by
      show Steps p.tables e below (T2.setTop (mkF m 5 #[.val (.ref (ad 2)), .val (.int (own_g 2))] [])) _
      refine XS.iloadN X2.here hx rfl (hb hby d5_5) rfl ?_
      show Steps p.tables e below (T2.setTop (mkF m 6 #[.val (.ref (ad 2)), .val (.int (own_g 2))] [(.int (own_g 2))])) _
      refine XS.ifYes X2.here hx rfl (pc0 := 6) (pc' := 12) rfl (hb hby d5_6) rfl ((if0 _ _).trans (feq (by decide)).2) (by decide) (by decide) ?_
      show Steps p.tables e below (T2.setTop (mkF m 12 #[.val (.ref (ad 2)), .val (.int (own_g 2))] [])) _
      refine XS.iloadN X2.here hx rfl (hb hby d5_12) rfl ?_
      show Steps p.tables e below (T2.setTop (mkF m 13 #[.val (.ref (ad 2)), .val (.int (own_g 2))] [(.int (own_g 2))])) _
      refine XS.iconst X2.here hx rfl (hb hby d5_13) ?_
      show Steps p.tables e below (T2.setTop (mkF m 14 #[.val (.ref (ad 2)), .val (.int (own_g 2))] [(.int (1 : Int32)), (.int (own_g 2))])) _
      refine XS.icmpNo X2.here hx rfl (hb hby d5_14) rfl (teq (by decide)).2 ?_
      exact kt)
    obtain ⟨a12, T12, h12, k112, b12, c12, X12, e12, E12, hS12, hk12, hZ, hown, E112, C112, V112, R112, -, -, hCr12, -, -, st12⟩ := ldcCH X2 hx hZ hown (hw _ (List.mem_of_getElem? (i := 49) rfl)) (own_wS hw) e2 hS0 (Nat.zero_le _) (own_EW hw) (List.mem_of_getElem? (i := 4) rfl) hCH0 (vs := (own_cs (own_t 2)).map Value.int) (z := (37 : Int32)) ⟨by decide, by rw [own_cs, List.map_map]; rfl⟩ (by decide) (by decide) (g := (mkF m 17 #[.val (.ref (ad 2)), .val (.int (own_g 2))] [])) rfl (hb hby d5_17) (n := 200) (by decide) (by decide) (by decide) (by decide)
    have SS12 := own_S.of E112 C112 V112 R112 (by decide) (by decide)
    have hCr12 := hCr0.trans hCr12
    have pre13 : ∀ t, Steps p.tables e below (T12.setTop (mkF m 19 #[.val (.ref (ad 2)), .val (.int (own_g 2))] [(.ref a12)])) t → Steps p.tables e below (s₁.setTop (entryFrame m #[(.ref (ad 2))] 2)) t := fun t kt => pre11 t (st12 t kt)
    obtain ⟨fs, hr, hrun, hended, hEnd⟩ := X12.leaveW hS12 (Nat.le_trans hk12 (Nat.le_of_eq (congrArg Array.size (e12).symm))) (v := some (.ref a12)) (fun h => by rw [Bd.returns] at h; cases h)
    refine ⟨_, _, pre13 _ ?_, hrun, hended, _, _, rfl, ?_, ?_, hEnd.1, hEnd.2.1, hEnd.2.2.1, hEnd.2.2.2.mono (by decide) (by decide)⟩
    · show Steps p.tables e below (T12.setTop (mkF m 19 #[.val (.ref (ad 2)), .val (.int (own_g 2))] [(.ref a12)])) _
      jvm_step X12.here [X12.here.top, hx, (hb hby d5_19), X12.method', Bd.returns, Value.isRef, FieldType.isReference]
      first | (intro acts; rw [hr _ acts rfl rfl rfl]) | rw [hr _ _ rfl rfl rfl]
      exact Steps.refl _
    · show Q5 Z 2 ad h0 n0 _ T12.heap _
      rw [e12]
      exact ⟨_, rfl, rfl, E12, SS12⟩
    · show CHr Z consts_1 s.vm s.heap T12.vm T12.heap
      rw [hh, e12]
      exact hCr12.trans (CHv.at X12 hZ (own_EW hw) hCr12.1)
  · subst h5
    have pre14 : ∀ t, Steps p.tables e below (T2.setTop (mkF m 17 #[.val (.ref (ad 3)), .val (.int (own_g 3))] [])) t → Steps p.tables e below (s₁.setTop (entryFrame m #[(.ref (ad 3))] 2)) t := fun t kt => pre4 t (by
      show Steps p.tables e below (T2.setTop (mkF m 5 #[.val (.ref (ad 3)), .val (.int (own_g 3))] [])) _
      refine XS.iloadN X2.here hx rfl (hb hby d5_5) rfl ?_
      show Steps p.tables e below (T2.setTop (mkF m 6 #[.val (.ref (ad 3)), .val (.int (own_g 3))] [(.int (own_g 3))])) _
      refine XS.ifYes X2.here hx rfl (pc0 := 6) (pc' := 12) rfl (hb hby d5_6) rfl ((if0 _ _).trans (feq (by decide)).2) (by decide) (by decide) ?_
      show Steps p.tables e below (T2.setTop (mkF m 12 #[.val (.ref (ad 3)), .val (.int (own_g 3))] [])) _
      refine XS.iloadN X2.here hx rfl (hb hby d5_12) rfl ?_
      show Steps p.tables e below (T2.setTop (mkF m 13 #[.val (.ref (ad 3)), .val (.int (own_g 3))] [(.int (own_g 3))])) _
      refine XS.iconst X2.here hx rfl (hb hby d5_13) ?_
      show Steps p.tables e below (T2.setTop (mkF m 14 #[.val (.ref (ad 3)), .val (.int (own_g 3))] [(.int (1 : Int32)), (.int (own_g 3))])) _
      refine XS.icmpNo X2.here hx rfl (hb hby d5_14) rfl (teq (by decide)).2 ?_
      exact kt)
    obtain ⟨a15, T15, h15, k115, b15, c15, X15, e15, E15, hS15, hk15, hZ, hown, E115, C115, V115, R115, -, -, hCr15, -, -, st15⟩ := ldcCH X2 hx hZ hown (hw _ (List.mem_of_getElem? (i := 49) rfl)) (own_wS hw) e2 hS0 (Nat.zero_le _) (own_EW hw) (List.mem_of_getElem? (i := 4) rfl) hCH0 (vs := (own_cs (own_t 3)).map Value.int) (z := (37 : Int32)) ⟨by decide, by rw [own_cs, List.map_map]; rfl⟩ (by decide) (by decide) (g := (mkF m 17 #[.val (.ref (ad 3)), .val (.int (own_g 3))] [])) rfl (hb hby d5_17) (n := 200) (by decide) (by decide) (by decide) (by decide)
    have SS15 := own_S.of E115 C115 V115 R115 (by decide) (by decide)
    have hCr15 := hCr0.trans hCr15
    have pre16 : ∀ t, Steps p.tables e below (T15.setTop (mkF m 19 #[.val (.ref (ad 3)), .val (.int (own_g 3))] [(.ref a15)])) t → Steps p.tables e below (s₁.setTop (entryFrame m #[(.ref (ad 3))] 2)) t := fun t kt => pre14 t (st15 t kt)
    obtain ⟨fs, hr, hrun, hended, hEnd⟩ := X15.leaveW hS15 (Nat.le_trans hk15 (Nat.le_of_eq (congrArg Array.size (e15).symm))) (v := some (.ref a15)) (fun h => by rw [Bd.returns] at h; cases h)
    refine ⟨_, _, pre16 _ ?_, hrun, hended, _, _, rfl, ?_, ?_, hEnd.1, hEnd.2.1, hEnd.2.2.1, hEnd.2.2.2.mono (by decide) (by decide)⟩
    · show Steps p.tables e below (T15.setTop (mkF m 19 #[.val (.ref (ad 3)), .val (.int (own_g 3))] [(.ref a15)])) _
      jvm_step X15.here [X15.here.top, hx, (hb hby d5_19), X15.method', Bd.returns, Value.isRef, FieldType.isReference]
      first | (intro acts; rw [hr _ acts rfl rfl rfl]) | rw [hr _ _ rfl rfl rfl]
      exact Steps.refl _
    · show Q5 Z 3 ad h0 n0 _ T15.heap _
      rw [e15]
      exact ⟨_, rfl, rfl, E15, SS15⟩
    · show CHr Z consts_1 s.vm s.heap T15.vm T15.heap
      rw [hh, e15]
      exact hCr15.trans (CHv.at X15 hZ (own_EW hw) hCr15.1)
  · subst h5
    have pre17 : ∀ t, Steps p.tables e below (T2.setTop (mkF m 20 #[.val (.ref (ad 4)), .val (.int (own_g 4))] [])) t → Steps p.tables e below (s₁.setTop (entryFrame m #[(.ref (ad 4))] 2)) t := fun t kt => pre4 t (by
      show Steps p.tables e below (T2.setTop (mkF m 5 #[.val (.ref (ad 4)), .val (.int (own_g 4))] [])) _
      refine XS.iloadN X2.here hx rfl (hb hby d5_5) rfl ?_
      show Steps p.tables e below (T2.setTop (mkF m 6 #[.val (.ref (ad 4)), .val (.int (own_g 4))] [(.int (own_g 4))])) _
      refine XS.ifYes X2.here hx rfl (pc0 := 6) (pc' := 12) rfl (hb hby d5_6) rfl ((if0 _ _).trans (feq (by decide)).2) (by decide) (by decide) ?_
      show Steps p.tables e below (T2.setTop (mkF m 12 #[.val (.ref (ad 4)), .val (.int (own_g 4))] [])) _
      refine XS.iloadN X2.here hx rfl (hb hby d5_12) rfl ?_
      show Steps p.tables e below (T2.setTop (mkF m 13 #[.val (.ref (ad 4)), .val (.int (own_g 4))] [(.int (own_g 4))])) _
      refine XS.iconst X2.here hx rfl (hb hby d5_13) ?_
      show Steps p.tables e below (T2.setTop (mkF m 14 #[.val (.ref (ad 4)), .val (.int (own_g 4))] [(.int (1 : Int32)), (.int (own_g 4))])) _
      refine XS.icmpYes X2.here hx rfl (pc0 := 14) (pc' := 20) rfl (hb hby d5_14) rfl (feq (by decide)).2 (by decide) (by decide) ?_
      exact kt)
    obtain ⟨a18, T18, h18, k118, b18, c18, X18, e18, E18, hS18, hk18, hZ, hown, E118, C118, V118, R118, -, -, hCr18, -, -, st18⟩ := ldcCH X2 hx hZ hown (hw _ (List.mem_of_getElem? (i := 43) rfl)) (own_wS hw) e2 hS0 (Nat.zero_le _) (own_EW hw) (List.mem_of_getElem? (i := 5) rfl) hCH0 (vs := (own_cs (own_t 4)).map Value.int) (z := (21 : Int32)) ⟨by decide, by rw [own_cs, List.map_map]; rfl⟩ (by decide) (by decide) (g := (mkF m 20 #[.val (.ref (ad 4)), .val (.int (own_g 4))] [])) rfl (hb hby d5_20) (n := 200) (by decide) (by decide) (by decide) (by decide)
    have SS18 := own_S.of E118 C118 V118 R118 (by decide) (by decide)
    have hCr18 := hCr0.trans hCr18
    have pre19 : ∀ t, Steps p.tables e below (T18.setTop (mkF m 22 #[.val (.ref (ad 4)), .val (.int (own_g 4))] [(.ref a18)])) t → Steps p.tables e below (s₁.setTop (entryFrame m #[(.ref (ad 4))] 2)) t := fun t kt => pre17 t (st18 t kt)
    obtain ⟨fs, hr, hrun, hended, hEnd⟩ := X18.leaveW hS18 (Nat.le_trans hk18 (Nat.le_of_eq (congrArg Array.size (e18).symm))) (v := some (.ref a18)) (fun h => by rw [Bd.returns] at h; cases h)
    refine ⟨_, _, pre19 _ ?_, hrun, hended, _, _, rfl, ?_, ?_, hEnd.1, hEnd.2.1, hEnd.2.2.1, hEnd.2.2.2.mono (by decide) (by decide)⟩
    · show Steps p.tables e below (T18.setTop (mkF m 22 #[.val (.ref (ad 4)), .val (.int (own_g 4))] [(.ref a18)])) _
      jvm_step X18.here [X18.here.top, hx, (hb hby d5_22), X18.method', Bd.returns, Value.isRef, FieldType.isReference]
      first | (intro acts; rw [hr _ acts rfl rfl rfl]) | rw [hr _ _ rfl rfl rfl]
      exact Steps.refl _
    · show Q5 Z 4 ad h0 n0 _ T18.heap _
      rw [e18]
      exact ⟨_, rfl, rfl, E18, SS18⟩
    · show CHr Z consts_1 s.vm s.heap T18.vm T18.heap
      rw [hh, e18]
      exact hCr18.trans (CHv.at X18 hZ (own_EW hw) hCr18.1)

theorem own_S.exa {Z : State} {h : Heap} {a : Addr} {t : String} (S : own_S Z h a t) : Exa Z h a "java/lang/String" := by obtain ⟨b, h1, -⟩ := S; exact h1
theorem own_inj {Z : State} {h : Heap} {ad : Nat → Addr} (Fo : ∀ j, j < 5 → Fld Z h (ad j) "java/lang/Enum" "ordinal" "I" (.int (Int32.ofNat j))) : ∀ i k, i < 5 → k < 5 → ad i = ad k → i = k := by
  intro i k hi hk q
  refine Classical.byContradiction fun hne => (Fo i hi).ne (Fo k hk) (fun z => hne ?_) q
  have z' := Value.int.inj z
  rcases own_5 hi with rfl | rfl | rfl | rfl | rfl <;> rcases own_5 hk with rfl | rfl | rfl | rfl | rfl <;> first | rfl | exact absurd z' (by decide)
theorem pn_0 : plainName "com/example/quillet/quillet/jpql/AggregateFunctionArgumentPinLaw" = true := by first | (simp [plainName, overriddenIn]; done) | decide +kernel
theorem pd_0_0 : parseMethodDescriptor "(I)Lcom/example/quillet/quillet/jpql/AggregateFunction;" = some ⟨[.int], some (.object "com/example/quillet/quillet/jpql/AggregateFunction")⟩ := by decide +kernel
theorem pd_0_1 : parseMethodDescriptor "()Ljava/lang/String;" = some ⟨[], some (.object "java/lang/String")⟩ := by decide +kernel
theorem pd_0_2 : parseMethodDescriptor "(Lcom/example/quillet/quillet/jpql/AggregateFunction;)I" = some ⟨[(.object "com/example/quillet/quillet/jpql/AggregateFunction")], some .int⟩ := by decide +kernel
theorem pd_0_3 : parseMethodDescriptor "(Lcom/example/quillet/quillet/jpql/AggregateFunction;)Ljava/lang/String;" = some ⟨[(.object "com/example/quillet/quillet/jpql/AggregateFunction")], some (.object "java/lang/String")⟩ := by decide +kernel
theorem pd_0_4 : parseMethodDescriptor "(Ljava/lang/Object;)Z" = some ⟨[(.object "java/lang/Object")], some .boolean⟩ := by decide +kernel
theorem ef_0 (m : MethodId) (x0 : Int32) (x1 : Int32) : entryFrame m #[(.int x0), (.int x1)] maxLocals = mkF m 0 #[.val (.int x0), .val (.int x1), .unset, .unset, .unset, .unset, .unset] [] := by first | (simp [entryFrame, mkF, argsToLocals, Value.category, maxLocals]; done) | rfl
def Q0 (Z : State) (p1 : Int32) (p2 : Int32) (ad : Nat → Addr) (zc : Int32) (h0 : Heap) (n0 : Nat) (v : Option Value) (h : Heap) (L : List Loc) : Prop := v = some (.int (1 : Int32)) ∧ L = []
set_option maxRecDepth 65536 in
set_option maxHeartbeats 40000000 in
theorem rm0 (l : Launch) (Z : State) (a0 : Array Value) (hw : ∀ d ∈ tables_1, d.before a0 Z = true) (ws : List Jvm.Cond) (p1 : Int32) (p2 : Int32) (ad : Nat → Addr) (zc : Int32) (h0 : Heap) (n0 : Nat) (Z0 : n0 ≤ h0.size) (S0 : Sta Z h0 "com/example/quillet/quillet/jpql/AggregateFunction" "AVG" "Lcom/example/quillet/quillet/jpql/AggregateFunction;" (.ref (ad 0))) (S1 : Sta Z h0 "com/example/quillet/quillet/jpql/AggregateFunction" "COUNT" "Lcom/example/quillet/quillet/jpql/AggregateFunction;" (.ref (ad 1))) (S2 : Sta Z h0 "com/example/quillet/quillet/jpql/AggregateFunction" "MAX" "Lcom/example/quillet/quillet/jpql/AggregateFunction;" (.ref (ad 2))) (S3 : Sta Z h0 "com/example/quillet/quillet/jpql/AggregateFunction" "MIN" "Lcom/example/quillet/quillet/jpql/AggregateFunction;" (.ref (ad 3))) (S4 : Sta Z h0 "com/example/quillet/quillet/jpql/AggregateFunction" "SUM" "Lcom/example/quillet/quillet/jpql/AggregateFunction;" (.ref (ad 4))) (Eo : ∀ j, j < 5 → Exa Z h0 (ad j) "com/example/quillet/quillet/jpql/AggregateFunction") (Fo : ∀ j, j < 5 → Fld Z h0 (ad j) "java/lang/Enum" "ordinal" "I" (.int (Int32.ofNat j))) (Sc : Sta Z h0 "java/lang/String" "COMPACT_STRINGS" "Z" (.int zc)) (hzc : ¬ zc = 0) :
    MetFree l x (head1 (Jvm.Cond.code x code maxLocals ret :: ws) room_1) (fun a U => a = #[(.int p1), (.int p2)] ∧ Z.Warmed39 U.vm ∧ U.heap = h0 ∧ CHv Z consts_1 U.vm h0) (fun _ _ _ _ _ => True) (fun _ U ou U' => ∃ v L, ou = .returned v ∧ Q0 Z p1 p2 ad zc h0 n0 v U'.heap L ∧ ReturnedEndW U ou U' L room_1.cells room_1.slots) := by
  refine MetFree.of_bodySF (plainFor_of_name pn_0) hisR ?_
  intro p e s m args below meth c s₁ Bd hml0 hP hK
  obtain ⟨rfl, hZ0, hh, hCH0⟩ := hP
  have hx := Bd.exec
  have hby := Bd.bytes
  have hml : c.maxLocals = 7 := hml0
  have hown : (s.setVm s.vm).vm.findClass "com/example/quillet/quillet/jpql/AggregateFunctionArgumentPinLaw" = some m.cls := findClass_of_methodNamed Bd.named
  have hnm := (name_of_methodNamed Bd.named Bd.method).1
  have X0 : Stand p l e room_1 (s.setVm s.vm) m #[(.int p1), (.int p2)] below meth c s₁ [] 0 0 := Stand.of_body Bd
  have e0 : s₁.heap = h0 := by rw [← hh, Bd.state]; rfl
  have N0 := Fr.nil n0
  have pre0 : ∀ t, Steps p.tables e below (s₁.setTop (mkF m 0 #[.val (.int p1), .val (.int p2), .unset, .unset, .unset, .unset, .unset] [])) t → Steps p.tables e below (s₁.setTop (entryFrame m #[(.int p1), (.int p2)] maxLocals)) t := fun t k => castTop (ef_0 m (p1) (p2)) k
  have hZ : Z.Warmed39 (s.setVm s.vm).vm := hZ0
  have hS0 : s.Since s.vm 0 := (State.WarmedH.refl s).since 0
  have hCr0 : CHr Z consts_1 s.vm h0 s.vm h0 := CHr.refl hCH0
  have ja5 := (own_j_lt p1).1
  have jb5 := (own_j_lt p2).1
  have inj := own_inj Fo
  have pre1 : ∀ t, Steps p.tables e below (s₁.setTop (mkF m 1 #[.val (.int p1), .val (.int p2), .unset, .unset, .unset, .unset, .unset] [(.int p1)])) t → Steps p.tables e below (s₁.setTop (entryFrame m #[(.int p1), (.int p2)] maxLocals)) t := fun t kt => pre0 t (by
    show Steps p.tables e below (s₁.setTop (mkF m 0 #[.val (.int p1), .val (.int p2), .unset, .unset, .unset, .unset, .unset] [])) _
    refine XS.iloadN X0.here hx rfl (hb hby at_0) rfl ?_
    exact kt)
  obtain ⟨_, _, ⟨T2, L2, k2, n2⟩, -, X2, ⟨Lc2, hQ2, l2, y2, z2⟩, st2⟩ := Jvm.LawKit.callS X0 hx (y := (⟨"com/example/quillet/quillet/jpql/AggregateFunctionArgumentPinLaw", "pick", "(I)Lcom/example/quillet/quillet/jpql/AggregateFunction;"⟩ : MethodName)) hown (mvT hZ (hw _ (List.mem_of_getElem? (i := 0) rfl))) (mvT hZ (hw _ (List.mem_of_getElem? (i := 1) rfl))) (mvT hZ (hw _ (List.mem_of_getElem? (i := 2) rfl))) (mvT hZ (hw _ (List.mem_of_getElem? (i := 3) rfl))) (by decide) (backOf (W := 0) (rm1 l Z a0 hw [] p1 ad h0 n0 Z0 S0 S1 S2 S3 S4) hZ (hw _ (List.mem_of_getElem? (i := 3) rfl)) (hw _ (List.mem_of_getElem? (i := 2) rfl)) (by decide) (by decide)) (g := (mkF m 1 #[.val (.int p1), .val (.int p2), .unset, .unset, .unset, .unset, .unset] [(.int p1)])) rfl (by rw [hml]; rfl) (argsL := [(.int p1)]) (rest := []) (lenOf pd_0_0 rfl) rfl (by show 2 * 0 + _ ≤ _; exact Nat.le_of_eq rfl) (hb hby at_1) (fun _ _ => ⟨rfl, e0, (by decide : 0 + 0 ≤ _), (by decide : 0 + 0 ≤ _)⟩)
  dsimp only [Pt.U, Pt.locs, Pt.cells, Pt.slots] at X2 l2 y2 z2 st2 hQ2
  subst l2 y2 z2
  obtain ⟨rfl, rfl, e2⟩ := hQ2
  try rw [List.append_nil] at X2
  have pre3 : ∀ t, Steps p.tables e below (T2.setTop (mkF m 4 #[.val (.int p1), .val (.int p2), .unset, .unset, .unset, .unset, .unset] [(.ref (ad (own_j p1)))])) t → Steps p.tables e below (s₁.setTop (entryFrame m #[(.int p1), (.int p2)] maxLocals)) t := fun t kt => pre1 t (st2 t kt)
  have pre4 : ∀ t, Steps p.tables e below (T2.setTop (mkF m 6 #[.val (.int p1), .val (.int p2), .val (.ref (ad (own_j p1))), .unset, .unset, .unset, .unset] [(.int p2)])) t → Steps p.tables e below (s₁.setTop (entryFrame m #[(.int p1), (.int p2)] maxLocals)) t := fun t kt => pre3 t (by
    show Steps p.tables e below (T2.setTop (mkF m 4 #[.val (.int p1), .val (.int p2), .unset, .unset, .unset, .unset, .unset] [(.ref (ad (own_j p1)))])) _
    refine XS.astoreN X2.here hx rfl (hb hby at_4) rfl rfl (l' := #[.val (.int p1), .val (.int p2), .val (.ref (ad (own_j p1))), .unset, .unset, .unset, .unset]) rfl ?_
    show Steps p.tables e below (T2.setTop (mkF m 5 #[.val (.int p1), .val (.int p2), .val (.ref (ad (own_j p1))), .unset, .unset, .unset, .unset] [])) _
    refine XS.iloadN X2.here hx rfl (hb hby at_5) rfl ?_
    exact kt)
  obtain ⟨_, _, ⟨T5, L5, k5, n5⟩, -, X5, ⟨Lc5, hQ5, l5, y5, z5⟩, st5⟩ := Jvm.LawKit.callS X2 hx (y := (⟨"com/example/quillet/quillet/jpql/AggregateFunctionArgumentPinLaw", "pick", "(I)Lcom/example/quillet/quillet/jpql/AggregateFunction;"⟩ : MethodName)) hown (mvT hZ (hw _ (List.mem_of_getElem? (i := 0) rfl))) (mvT hZ (hw _ (List.mem_of_getElem? (i := 1) rfl))) (mvT hZ (hw _ (List.mem_of_getElem? (i := 2) rfl))) (mvT hZ (hw _ (List.mem_of_getElem? (i := 3) rfl))) (by decide) (backOf (W := 0) (rm1 l Z a0 hw [] p2 ad h0 n0 Z0 S0 S1 S2 S3 S4) hZ (hw _ (List.mem_of_getElem? (i := 3) rfl)) (hw _ (List.mem_of_getElem? (i := 2) rfl)) (by decide) (by decide)) (g := (mkF m 6 #[.val (.int p1), .val (.int p2), .val (.ref (ad (own_j p1))), .unset, .unset, .unset, .unset] [(.int p2)])) rfl (by rw [hml]; rfl) (argsL := [(.int p2)]) (rest := []) (lenOf pd_0_0 rfl) rfl (by show 2 * 0 + _ ≤ _; exact Nat.le_of_eq rfl) (hb hby at_6) (fun _ _ => ⟨rfl, e2, (by decide : 0 + 0 ≤ _), (by decide : 0 + 0 ≤ _)⟩)
  dsimp only [Pt.U, Pt.locs, Pt.cells, Pt.slots] at X5 l5 y5 z5 st5 hQ5
  subst l5 y5 z5
  obtain ⟨rfl, rfl, e5⟩ := hQ5
  try rw [List.append_nil] at X5
  have pre6 : ∀ t, Steps p.tables e below (T5.setTop (mkF m 9 #[.val (.int p1), .val (.int p2), .val (.ref (ad (own_j p1))), .unset, .unset, .unset, .unset] [(.ref (ad (own_j p2)))])) t → Steps p.tables e below (s₁.setTop (entryFrame m #[(.int p1), (.int p2)] maxLocals)) t := fun t kt => pre4 t (st5 t kt)
  have pre7 : ∀ t, Steps p.tables e below (T5.setTop (mkF m 11 #[.val (.int p1), .val (.int p2), .val (.ref (ad (own_j p1))), .val (.ref (ad (own_j p2))), .unset, .unset, .unset] [(.ref (ad (own_j p1)))])) t → Steps p.tables e below (s₁.setTop (entryFrame m #[(.int p1), (.int p2)] maxLocals)) t := fun t kt => pre6 t (by
    show Steps p.tables e below (T5.setTop (mkF m 9 #[.val (.int p1), .val (.int p2), .val (.ref (ad (own_j p1))), .unset, .unset, .unset, .unset] [(.ref (ad (own_j p2)))])) _
    refine XS.astoreN X5.here hx rfl (hb hby at_9) rfl rfl (l' := #[.val (.int p1), .val (.int p2), .val (.ref (ad (own_j p1))), .val (.ref (ad (own_j p2))), .unset, .unset, .unset]) rfl ?_
    show Steps p.tables e below (T5.setTop (mkF m 10 #[.val (.int p1), .val (.int p2), .val (.ref (ad (own_j p1))), .val (.ref (ad (own_j p2))), .unset, .unset, .unset] [])) _
    refine XS.aloadN X5.here hx rfl (hb hby at_10) rfl rfl ?_
    exact kt)
  obtain ⟨cq8, kq8, q8a, q8b, q8c⟩ := isOf hZ e5 (Eo _ ja5)
  obtain ⟨_, _, ⟨T8, L8, k8, n8⟩, -, X8, hS8, hg8, ⟨Lc8, hQ8, l8, y8, z8, hCr8⟩, st8⟩ := X5.virtualBackS hx (y := (⟨"com/example/quillet/quillet/jpql/AggregateFunction", "argument", "()Ljava/lang/String;"⟩ : MethodName)) (z := (⟨"com/example/quillet/quillet/jpql/AggregateFunction", "argument", "()Ljava/lang/String;"⟩ : MethodName)) hown (mvT hZ (hw _ (List.mem_of_getElem? (i := 10) rfl))) (mvT hZ (hw _ (List.mem_of_getElem? (i := 11) rfl))) (notFace_of_selects (args := #[]) (mvT hZ (hw _ (List.mem_of_getElem? (i := 13) rfl)))) (mvT hZ (hw _ (List.mem_of_getElem? (i := 13) rfl))) (mvT hZ (hw _ (List.mem_of_getElem? (i := 12) rfl))) (by decide) (backOfSH (W := 0) (rm2 l Z a0 hw [] (ad (own_j p1)) (own_j p1) h0 n0 Z0 (Eo _ ja5) (Fo _ ja5) ja5) hZ (hw _ (List.mem_of_getElem? (i := 14) rfl)) (hw _ (List.mem_of_getElem? (i := 6) rfl)) (by decide) (by decide) (own_EW hw) hCH0) q8a q8c (g := (mkF m 11 #[.val (.int p1), .val (.int p2), .val (.ref (ad (own_j p1))), .val (.ref (ad (own_j p2))), .unset, .unset, .unset] [(.ref (ad (own_j p1)))])) rfl (by rw [hml]; rfl) (Steps.refl _) (argsL := []) (rest := []) (lenOf pd_0_1 rfl) rfl (by show 2 * 0 + _ ≤ _; exact Nat.le_of_eq rfl) (hb hby at_11) (fun _ _ => ⟨rfl, e5, (by decide : 0 + 2 ≤ _), (by decide : 0 + 204 ≤ _)⟩)
  dsimp only [Pt.U, Pt.locs, Pt.cells, Pt.slots] at X8 hS8 hg8 l8 y8 z8 hCr8 st8 hQ8
  subst l8 y8 z8
  obtain ⟨a8, rfl, rfl, E8, SA8⟩ := hQ8
  try rw [List.append_nil] at X8
  obtain ⟨X8, hS8, hZ, hown⟩ := rebS hS0 (Nat.zero_le _) X8 hS8 hg8 hZ hown
  have hCr8 := hCr0.trans hCr8
  have pre9 : ∀ t, Steps p.tables e below (T8.setTop (mkF m 14 #[.val (.int p1), .val (.int p2), .val (.ref (ad (own_j p1))), .val (.ref (ad (own_j p2))), .unset, .unset, .unset] [(.ref a8)])) t → Steps p.tables e below (s₁.setTop (entryFrame m #[(.int p1), (.int p2)] maxLocals)) t := fun t kt => pre7 t (st8.trans kt)
  have pre10 : ∀ t, Steps p.tables e below (T8.setTop (mkF m 17 #[.val (.int p1), .val (.int p2), .val (.ref (ad (own_j p1))), .val (.ref (ad (own_j p2))), .val (.ref a8), .unset, .unset] [(.ref (ad (own_j p2)))])) t → Steps p.tables e below (s₁.setTop (entryFrame m #[(.int p1), (.int p2)] maxLocals)) t := fun t kt => pre9 t (by
    show Steps p.tables e below (T8.setTop (mkF m 14 #[.val (.int p1), .val (.int p2), .val (.ref (ad (own_j p1))), .val (.ref (ad (own_j p2))), .unset, .unset, .unset] [(.ref a8)])) _
    refine XS.astore X8.here hx rfl (hb hby at_14) rfl rfl (l' := #[.val (.int p1), .val (.int p2), .val (.ref (ad (own_j p1))), .val (.ref (ad (own_j p2))), .val (.ref a8), .unset, .unset]) rfl ?_
    show Steps p.tables e below (T8.setTop (mkF m 16 #[.val (.int p1), .val (.int p2), .val (.ref (ad (own_j p1))), .val (.ref (ad (own_j p2))), .val (.ref a8), .unset, .unset] [])) _
    refine XS.aloadN X8.here hx rfl (hb hby at_16) rfl rfl ?_
    exact kt)
  obtain ⟨cq11, kq11, q11a, q11b, q11c⟩ := isOf hZ rfl ((Eo _ jb5).ext E8)
  obtain ⟨_, _, ⟨T11, L11, k11, n11⟩, -, X11, hS11, hg11, ⟨Lc11, hQ11, l11, y11, z11, hCr11⟩, st11⟩ := X8.virtualBackS hx (y := (⟨"com/example/quillet/quillet/jpql/AggregateFunction", "argument", "()Ljava/lang/String;"⟩ : MethodName)) (z := (⟨"com/example/quillet/quillet/jpql/AggregateFunction", "argument", "()Ljava/lang/String;"⟩ : MethodName)) hown (mvT hZ (hw _ (List.mem_of_getElem? (i := 10) rfl))) (mvT hZ (hw _ (List.mem_of_getElem? (i := 11) rfl))) (notFace_of_selects (args := #[]) (mvT hZ (hw _ (List.mem_of_getElem? (i := 13) rfl)))) (mvT hZ (hw _ (List.mem_of_getElem? (i := 13) rfl))) (mvT hZ (hw _ (List.mem_of_getElem? (i := 12) rfl))) (by decide) (backOfSH (W := 0) (rm2 l Z a0 hw [] (ad (own_j p2)) (own_j p2) T8.heap n0 (Nat.le_trans Z0 E8.1) ((Eo _ jb5).ext E8) ((Fo _ jb5).ext E8) jb5) hZ (hw _ (List.mem_of_getElem? (i := 14) rfl)) (hw _ (List.mem_of_getElem? (i := 6) rfl)) (by decide) (by decide) (own_EW hw) hCr8.1) q11a q11c (g := (mkF m 17 #[.val (.int p1), .val (.int p2), .val (.ref (ad (own_j p1))), .val (.ref (ad (own_j p2))), .val (.ref a8), .unset, .unset] [(.ref (ad (own_j p2)))])) rfl (by rw [hml]; rfl) (Steps.refl _) (argsL := []) (rest := []) (lenOf pd_0_1 rfl) rfl (by show 2 * 0 + _ ≤ _; exact Nat.le_of_eq rfl) (hb hby at_17) (fun _ _ => ⟨rfl, rfl, (by decide : 2 + 2 ≤ _), (by decide : 204 + 204 ≤ _)⟩)
  dsimp only [Pt.U, Pt.locs, Pt.cells, Pt.slots] at X11 hS11 hg11 l11 y11 z11 hCr11 st11 hQ11
  subst l11 y11 z11
  obtain ⟨a11, rfl, rfl, E11, SB11⟩ := hQ11
  try rw [List.append_nil] at X11
  obtain ⟨X11, hS11, hZ, hown⟩ := rebS hS8 (Nat.le_trans (Nat.le_refl _) (Nat.le_of_eq (congrArg Array.size (rfl).symm))) X11 hS11 hg11 hZ hown
  have hCr11 := hCr8.trans hCr11
  have pre12 : ∀ t, Steps p.tables e below (T11.setTop (mkF m 20 #[.val (.int p1), .val (.int p2), .val (.ref (ad (own_j p1))), .val (.ref (ad (own_j p2))), .val (.ref a8), .unset, .unset] [(.ref a11)])) t → Steps p.tables e below (s₁.setTop (entryFrame m #[(.int p1), (.int p2)] maxLocals)) t := fun t kt => pre10 t (st11.trans kt)
  have Ex := own_ext E8 E11
  have SA := SA8.ext E11
  have SB := SB11
  have pre13 : ∀ t, Steps p.tables e below (T11.setTop (mkF m 35 #[.val (.int p1), .val (.int p2), .val (.ref (ad (own_j p1))), .val (.ref (ad (own_j p2))), .val (.ref a8), .val (.ref a11), .unset] [(.ref (ad (own_j p1)))])) t → Steps p.tables e below (s₁.setTop (entryFrame m #[(.int p1), (.int p2)] maxLocals)) t := fun t kt => pre12 t (by
    show Steps p.tables e below (T11.setTop (mkF m 20 #[.val (.int p1), .val (.int p2), .val (.ref (ad (own_j p1))), .val (.ref (ad (own_j p2))), .val (.ref a8), .unset, .unset] [(.ref a11)])) _
    refine XS.astore X11.here hx rfl (hb hby at_20) rfl rfl (l' := #[.val (.int p1), .val (.int p2), .val (.ref (ad (own_j p1))), .val (.ref (ad (own_j p2))), .val (.ref a8), .val (.ref a11), .unset]) rfl ?_
    show Steps p.tables e below (T11.setTop (mkF m 22 #[.val (.int p1), .val (.int p2), .val (.ref (ad (own_j p1))), .val (.ref (ad (own_j p2))), .val (.ref a8), .val (.ref a11), .unset] [])) _
    refine XS.aload X11.here hx rfl (hb hby at_22) rfl rfl ?_
    show Steps p.tables e below (T11.setTop (mkF m 24 #[.val (.int p1), .val (.int p2), .val (.ref (ad (own_j p1))), .val (.ref (ad (own_j p2))), .val (.ref a8), .val (.ref a11), .unset] [(.ref a8)])) _
    refine XS.ifnullNo X11.here hx rfl (hb hby at_24) rfl ?_
    show Steps p.tables e below (T11.setTop (mkF m 27 #[.val (.int p1), .val (.int p2), .val (.ref (ad (own_j p1))), .val (.ref (ad (own_j p2))), .val (.ref a8), .val (.ref a11), .unset] [])) _
    refine XS.aload X11.here hx rfl (hb hby at_27) rfl rfl ?_
    show Steps p.tables e below (T11.setTop (mkF m 29 #[.val (.int p1), .val (.int p2), .val (.ref (ad (own_j p1))), .val (.ref (ad (own_j p2))), .val (.ref a8), .val (.ref a11), .unset] [(.ref a11)])) _
    refine XS.ifnonnullYes X11.here hx rfl (pc0 := 29) (pc' := 34) rfl (hb hby at_29) rfl (by decide) (by decide) ?_
    show Steps p.tables e below (T11.setTop (mkF m 34 #[.val (.int p1), .val (.int p2), .val (.ref (ad (own_j p1))), .val (.ref (ad (own_j p2))), .val (.ref a8), .val (.ref a11), .unset] [])) _
    refine XS.aloadN X11.here hx rfl (hb hby at_34) rfl rfl ?_
    exact kt)
  obtain ⟨_, _, ⟨T14, L14, k14, n14⟩, -, X14, ⟨Lc14, hQ14, l14, y14, z14⟩, st14⟩ := Jvm.LawKit.callS X11 hx (y := (⟨"com/example/quillet/quillet/jpql/AggregateFunctionArgumentPinLaw", "group", "(Lcom/example/quillet/quillet/jpql/AggregateFunction;)I"⟩ : MethodName)) hown (mvT hZ (hw _ (List.mem_of_getElem? (i := 33) rfl))) (mvT hZ (hw _ (List.mem_of_getElem? (i := 34) rfl))) (mvT hZ (hw _ (List.mem_of_getElem? (i := 2) rfl))) (mvT hZ (hw _ (List.mem_of_getElem? (i := 35) rfl))) (by decide) (backOf (W := 0) (rm4 l Z a0 hw [] (own_j p1) ad T11.heap n0 (Nat.le_trans Z0 Ex.1) (S0.ext Ex) (S1.ext Ex) (S2.ext Ex) (S3.ext Ex) (S4.ext Ex) ja5 inj) hZ (hw _ (List.mem_of_getElem? (i := 35) rfl)) (hw _ (List.mem_of_getElem? (i := 2) rfl)) (by decide) (by decide)) (g := (mkF m 35 #[.val (.int p1), .val (.int p2), .val (.ref (ad (own_j p1))), .val (.ref (ad (own_j p2))), .val (.ref a8), .val (.ref a11), .unset] [(.ref (ad (own_j p1)))])) rfl (by rw [hml]; rfl) (argsL := [(.ref (ad (own_j p1)))]) (rest := []) (lenOf pd_0_2 rfl) rfl (by show 2 * 0 + _ ≤ _; exact Nat.le_of_eq rfl) (hb hby at_35) (fun _ _ => ⟨rfl, rfl, (by decide : 4 + 0 ≤ _), (by decide : 408 + 0 ≤ _)⟩)
  dsimp only [Pt.U, Pt.locs, Pt.cells, Pt.slots] at X14 l14 y14 z14 st14 hQ14
  subst l14 y14 z14
  obtain ⟨rfl, rfl, e14⟩ := hQ14
  try rw [List.append_nil] at X14
  have pre15 : ∀ t, Steps p.tables e below (T14.setTop (mkF m 38 #[.val (.int p1), .val (.int p2), .val (.ref (ad (own_j p1))), .val (.ref (ad (own_j p2))), .val (.ref a8), .val (.ref a11), .unset] [(.int (own_g (own_j p1)))])) t → Steps p.tables e below (s₁.setTop (entryFrame m #[(.int p1), (.int p2)] maxLocals)) t := fun t kt => pre13 t (st14 t kt)
  have pre16 : ∀ t, Steps p.tables e below (T14.setTop (mkF m 39 #[.val (.int p1), .val (.int p2), .val (.ref (ad (own_j p1))), .val (.ref (ad (own_j p2))), .val (.ref a8), .val (.ref a11), .unset] [(.ref (ad (own_j p2))), (.int (own_g (own_j p1)))])) t → Steps p.tables e below (s₁.setTop (entryFrame m #[(.int p1), (.int p2)] maxLocals)) t := fun t kt => pre15 t (by
    show Steps p.tables e below (T14.setTop (mkF m 38 #[.val (.int p1), .val (.int p2), .val (.ref (ad (own_j p1))), .val (.ref (ad (own_j p2))), .val (.ref a8), .val (.ref a11), .unset] [(.int (own_g (own_j p1)))])) _
    refine XS.aloadN X14.here hx rfl (hb hby at_38) rfl rfl ?_
    exact kt)
  obtain ⟨_, _, ⟨T17, L17, k17, n17⟩, -, X17, ⟨Lc17, hQ17, l17, y17, z17⟩, st17⟩ := Jvm.LawKit.callS X14 hx (y := (⟨"com/example/quillet/quillet/jpql/AggregateFunctionArgumentPinLaw", "group", "(Lcom/example/quillet/quillet/jpql/AggregateFunction;)I"⟩ : MethodName)) hown (mvT hZ (hw _ (List.mem_of_getElem? (i := 33) rfl))) (mvT hZ (hw _ (List.mem_of_getElem? (i := 34) rfl))) (mvT hZ (hw _ (List.mem_of_getElem? (i := 2) rfl))) (mvT hZ (hw _ (List.mem_of_getElem? (i := 35) rfl))) (by decide) (backOf (W := 1) (rm4 l Z a0 hw [] (own_j p2) ad T11.heap n0 (Nat.le_trans Z0 Ex.1) (S0.ext Ex) (S1.ext Ex) (S2.ext Ex) (S3.ext Ex) (S4.ext Ex) jb5 inj) hZ (hw _ (List.mem_of_getElem? (i := 35) rfl)) (hw _ (List.mem_of_getElem? (i := 2) rfl)) (by decide) (by decide)) (g := (mkF m 39 #[.val (.int p1), .val (.int p2), .val (.ref (ad (own_j p1))), .val (.ref (ad (own_j p2))), .val (.ref a8), .val (.ref a11), .unset] [(.ref (ad (own_j p2))), (.int (own_g (own_j p1)))])) rfl (by rw [hml]; rfl) (argsL := [(.ref (ad (own_j p2)))]) (rest := [(.int (own_g (own_j p1)))]) (lenOf pd_0_2 rfl) rfl (by show 2 * 0 + _ ≤ _; exact Nat.le_of_eq rfl) (hb hby at_39) (fun _ _ => ⟨rfl, e14, (by decide : 4 + 0 ≤ _), (by decide : 408 + 0 ≤ _)⟩)
  dsimp only [Pt.U, Pt.locs, Pt.cells, Pt.slots] at X17 l17 y17 z17 st17 hQ17
  subst l17 y17 z17
  obtain ⟨rfl, rfl, e17⟩ := hQ17
  try rw [List.append_nil] at X17
  have pre18 : ∀ t, Steps p.tables e below (T17.setTop (mkF m 42 #[.val (.int p1), .val (.int p2), .val (.ref (ad (own_j p1))), .val (.ref (ad (own_j p2))), .val (.ref a8), .val (.ref a11), .unset] [(.int (own_g (own_j p2))), (.int (own_g (own_j p1)))])) t → Steps p.tables e below (s₁.setTop (entryFrame m #[(.int p1), (.int p2)] maxLocals)) t := fun t kt => pre16 t (st17 t kt)
  by_cases hg : own_g (own_j p1) = own_g (own_j p2)
  · have pre19 : ∀ t, Steps p.tables e below (T17.setTop (mkF m 55 #[.val (.int p1), .val (.int p2), .val (.ref (ad (own_j p1))), .val (.ref (ad (own_j p2))), .val (.ref a8), .val (.ref a11), .val (.int (1 : Int32))] [(.ref (ad (own_j p1))), (.ref a8)])) t → Steps p.tables e below (s₁.setTop (entryFrame m #[(.int p1), (.int p2)] maxLocals)) t := fun t kt => pre18 t (by
      show Steps p.tables e below (T17.setTop (mkF m 42 #[.val (.int p1), .val (.int p2), .val (.ref (ad (own_j p1))), .val (.ref (ad (own_j p2))), .val (.ref a8), .val (.ref a11), .unset] [(.int (own_g (own_j p2))), (.int (own_g (own_j p1)))])) _
      refine XS.icmpNo X17.here hx rfl (hb hby at_42) rfl (teq hg).2 ?_
      show Steps p.tables e below (T17.setTop (mkF m 45 #[.val (.int p1), .val (.int p2), .val (.ref (ad (own_j p1))), .val (.ref (ad (own_j p2))), .val (.ref a8), .val (.ref a11), .unset] [])) _
      refine XS.iconst X17.here hx rfl (hb hby at_45) ?_
      show Steps p.tables e below (T17.setTop (mkF m 46 #[.val (.int p1), .val (.int p2), .val (.ref (ad (own_j p1))), .val (.ref (ad (own_j p2))), .val (.ref a8), .val (.ref a11), .unset] [(.int (1 : Int32))])) _
      refine XS.goto X17.here hx rfl (pc0 := 46) (pc' := 50) rfl (hb hby at_46) (by decide) (by decide) ?_
      show Steps p.tables e below (T17.setTop (mkF m 50 #[.val (.int p1), .val (.int p2), .val (.ref (ad (own_j p1))), .val (.ref (ad (own_j p2))), .val (.ref a8), .val (.ref a11), .unset] [(.int (1 : Int32))])) _
      refine XS.istore X17.here hx rfl (hb hby at_50) rfl (l' := #[.val (.int p1), .val (.int p2), .val (.ref (ad (own_j p1))), .val (.ref (ad (own_j p2))), .val (.ref a8), .val (.ref a11), .val (.int (1 : Int32))]) rfl ?_
      show Steps p.tables e below (T17.setTop (mkF m 52 #[.val (.int p1), .val (.int p2), .val (.ref (ad (own_j p1))), .val (.ref (ad (own_j p2))), .val (.ref a8), .val (.ref a11), .val (.int (1 : Int32))] [])) _
      refine XS.aload X17.here hx rfl (hb hby at_52) rfl rfl ?_
      show Steps p.tables e below (T17.setTop (mkF m 54 #[.val (.int p1), .val (.int p2), .val (.ref (ad (own_j p1))), .val (.ref (ad (own_j p2))), .val (.ref a8), .val (.ref a11), .val (.int (1 : Int32))] [(.ref a8)])) _
      refine XS.aloadN X17.here hx rfl (hb hby at_54) rfl rfl ?_
      exact kt)
    obtain ⟨_, _, ⟨T20, L20, k20, n20⟩, -, X20, hS20, hg20, ⟨Lc20, hQ20, l20, y20, z20, hCr20⟩, st20⟩ := callSS X17 hx (y := (⟨"com/example/quillet/quillet/jpql/AggregateFunctionArgumentPinLaw", "expected", "(Lcom/example/quillet/quillet/jpql/AggregateFunction;)Ljava/lang/String;"⟩ : MethodName)) hown (mvT hZ (hw _ (List.mem_of_getElem? (i := 40) rfl))) (mvT hZ (hw _ (List.mem_of_getElem? (i := 41) rfl))) (mvT hZ (hw _ (List.mem_of_getElem? (i := 2) rfl))) (mvT hZ (hw _ (List.mem_of_getElem? (i := 42) rfl))) (by decide) (backOfSH (W := 1) (rm5 l Z a0 hw [] (own_j p1) ad T11.heap n0 (Nat.le_trans Z0 Ex.1) (S0.ext Ex) (S1.ext Ex) (S2.ext Ex) (S3.ext Ex) (S4.ext Ex) ja5 inj) hZ (hw _ (List.mem_of_getElem? (i := 42) rfl)) (hw _ (List.mem_of_getElem? (i := 2) rfl)) (by decide) (by decide) (own_EW hw) hCr11.1) (g := (mkF m 55 #[.val (.int p1), .val (.int p2), .val (.ref (ad (own_j p1))), .val (.ref (ad (own_j p2))), .val (.ref a8), .val (.ref a11), .val (.int (1 : Int32))] [(.ref (ad (own_j p1))), (.ref a8)])) rfl (by rw [hml]; rfl) (argsL := [(.ref (ad (own_j p1)))]) (rest := [(.ref a8)]) (lenOf pd_0_3 rfl) rfl (by show 2 * 0 + _ ≤ _; exact Nat.le_of_eq rfl) (hb hby at_55) (fun _ _ => ⟨rfl, e17, (by decide : 4 + 2 ≤ _), (by decide : 408 + 204 ≤ _)⟩)
    dsimp only [Pt.U, Pt.locs, Pt.cells, Pt.slots] at X20 hS20 hg20 l20 y20 z20 hCr20 st20 hQ20
    subst l20 y20 z20
    obtain ⟨a20, rfl, rfl, E20, SE20⟩ := hQ20
    try rw [List.append_nil] at X20
    obtain ⟨X20, hS20, hZ, hown⟩ := rebS hS11 (Nat.le_trans (Nat.le_refl _) (Nat.le_of_eq (congrArg Array.size (e17).symm))) X20 hS20 hg20 hZ hown
    have hCr20 := hCr11.trans hCr20
    have pre21 : ∀ t, Steps p.tables e below (T20.setTop (mkF m 58 #[.val (.int p1), .val (.int p2), .val (.ref (ad (own_j p1))), .val (.ref (ad (own_j p2))), .val (.ref a8), .val (.ref a11), .val (.int (1 : Int32))] [(.ref a20), (.ref a8)])) t → Steps p.tables e below (s₁.setTop (entryFrame m #[(.int p1), (.int p2)] maxLocals)) t := fun t kt => pre19 t (st20.trans kt)
    have Ex3 := own_ext Ex E20
    have SA3 := SA.ext E20
    have SB3 := SB.ext E20
    obtain ⟨cq22, kq22, q22a, q22b, q22c⟩ := isOf hZ rfl SA3.exa
    obtain ⟨_, _, ⟨T22, L22, k22, n22⟩, -, X22, ⟨Lc22, hQ22, l22, y22, z22⟩, st22⟩ := X20.virtualBack hx (y := (⟨"java/lang/String", "equals", "(Ljava/lang/Object;)Z"⟩ : MethodName)) (z := (⟨"java/lang/String", "equals", "(Ljava/lang/Object;)Z"⟩ : MethodName)) hown (mvT hZ (hw _ (List.mem_of_getElem? (i := 44) rfl))) (mvT hZ (hw _ (List.mem_of_getElem? (i := 45) rfl))) (notFace_of_selects (args := #[]) (mvT hZ (hw _ (List.mem_of_getElem? (i := 47) rfl)))) (mvT hZ (hw _ (List.mem_of_getElem? (i := 47) rfl))) (mvT hZ (hw _ (List.mem_of_getElem? (i := 46) rfl))) (by decide) (backOf (W := 0) (rm6a l Z a0 hw [] a8 a20 _ _ zc T20.heap n0 (Nat.le_trans Z0 Ex3.1) SA3 SE20 (Sc.ext Ex3) hzc rfl (own_t_lt ja5)) hZ (hw _ (List.mem_of_getElem? (i := 48) rfl)) (hw _ (List.mem_of_getElem? (i := 25) rfl)) (by decide) (by decide)) q22a q22c (g := (mkF m 58 #[.val (.int p1), .val (.int p2), .val (.ref (ad (own_j p1))), .val (.ref (ad (own_j p2))), .val (.ref a8), .val (.ref a11), .val (.int (1 : Int32))] [(.ref a20), (.ref a8)])) rfl (by rw [hml]; rfl) (Steps.refl _) (argsL := [(.ref a20)]) (rest := []) (lenOf pd_0_4 rfl) rfl (by show 2 * 0 + _ ≤ _; exact Nat.le_of_eq rfl) (hb hby at_58) (fun _ _ => ⟨rfl, rfl, (by decide : 6 + 0 ≤ _), (by decide : 612 + 0 ≤ _)⟩)
    dsimp only [Pt.U, Pt.locs, Pt.cells, Pt.slots] at X22 l22 y22 z22 st22 hQ22
    subst l22 y22 z22
    obtain ⟨rfl, rfl, e22⟩ := hQ22
    try rw [List.append_nil] at X22
    have pre23 : ∀ t, Steps p.tables e below (T22.setTop (mkF m 61 #[.val (.int p1), .val (.int p2), .val (.ref (ad (own_j p1))), .val (.ref (ad (own_j p2))), .val (.ref a8), .val (.ref a11), .val (.int (1 : Int32))] [(.int (1 : Int32))])) t → Steps p.tables e below (s₁.setTop (entryFrame m #[(.int p1), (.int p2)] maxLocals)) t := fun t kt => pre21 t (st22.trans kt)
    have pre24 : ∀ t, Steps p.tables e below (T22.setTop (mkF m 67 #[.val (.int p1), .val (.int p2), .val (.ref (ad (own_j p1))), .val (.ref (ad (own_j p2))), .val (.ref a8), .val (.ref a11), .val (.int (1 : Int32))] [(.ref (ad (own_j p2))), (.ref a11)])) t → Steps p.tables e below (s₁.setTop (entryFrame m #[(.int p1), (.int p2)] maxLocals)) t := fun t kt => pre23 t (by
      show Steps p.tables e below (T22.setTop (mkF m 61 #[.val (.int p1), .val (.int p2), .val (.ref (ad (own_j p1))), .val (.ref (ad (own_j p2))), .val (.ref a8), .val (.ref a11), .val (.int (1 : Int32))] [(.int (1 : Int32))])) _
      refine XS.ifNo X22.here hx rfl (hb hby at_61) rfl ((if0 _ _).trans (feq (by decide)).1) ?_
      show Steps p.tables e below (T22.setTop (mkF m 64 #[.val (.int p1), .val (.int p2), .val (.ref (ad (own_j p1))), .val (.ref (ad (own_j p2))), .val (.ref a8), .val (.ref a11), .val (.int (1 : Int32))] [])) _
      refine XS.aload X22.here hx rfl (hb hby at_64) rfl rfl ?_
      show Steps p.tables e below (T22.setTop (mkF m 66 #[.val (.int p1), .val (.int p2), .val (.ref (ad (own_j p1))), .val (.ref (ad (own_j p2))), .val (.ref a8), .val (.ref a11), .val (.int (1 : Int32))] [(.ref a11)])) _
      refine XS.aloadN X22.here hx rfl (hb hby at_66) rfl rfl ?_
      exact kt)
    obtain ⟨_, _, ⟨T25, L25, k25, n25⟩, -, X25, hS25, hg25, ⟨Lc25, hQ25, l25, y25, z25, hCr25⟩, st25⟩ := callSS X22 hx (y := (⟨"com/example/quillet/quillet/jpql/AggregateFunctionArgumentPinLaw", "expected", "(Lcom/example/quillet/quillet/jpql/AggregateFunction;)Ljava/lang/String;"⟩ : MethodName)) hown (mvT hZ (hw _ (List.mem_of_getElem? (i := 40) rfl))) (mvT hZ (hw _ (List.mem_of_getElem? (i := 41) rfl))) (mvT hZ (hw _ (List.mem_of_getElem? (i := 2) rfl))) (mvT hZ (hw _ (List.mem_of_getElem? (i := 42) rfl))) (by decide) (backOfSH (W := 1) (rm5 l Z a0 hw [] (own_j p2) ad T20.heap n0 (Nat.le_trans Z0 Ex3.1) (S0.ext Ex3) (S1.ext Ex3) (S2.ext Ex3) (S3.ext Ex3) (S4.ext Ex3) jb5 inj) hZ (hw _ (List.mem_of_getElem? (i := 42) rfl)) (hw _ (List.mem_of_getElem? (i := 2) rfl)) (by decide) (by decide) (own_EW hw) hCr20.1) (g := (mkF m 67 #[.val (.int p1), .val (.int p2), .val (.ref (ad (own_j p1))), .val (.ref (ad (own_j p2))), .val (.ref a8), .val (.ref a11), .val (.int (1 : Int32))] [(.ref (ad (own_j p2))), (.ref a11)])) rfl (by rw [hml]; rfl) (argsL := [(.ref (ad (own_j p2)))]) (rest := [(.ref a11)]) (lenOf pd_0_3 rfl) rfl (by show 2 * 0 + _ ≤ _; exact Nat.le_of_eq rfl) (hb hby at_67) (fun _ _ => ⟨rfl, e22, (by decide : 6 + 2 ≤ _), (by decide : 612 + 204 ≤ _)⟩)
    dsimp only [Pt.U, Pt.locs, Pt.cells, Pt.slots] at X25 hS25 hg25 l25 y25 z25 hCr25 st25 hQ25
    subst l25 y25 z25
    obtain ⟨a25, rfl, rfl, E25, SE25⟩ := hQ25
    try rw [List.append_nil] at X25
    obtain ⟨X25, hS25, hZ, hown⟩ := rebS hS20 (Nat.le_trans (Nat.le_refl _) (Nat.le_of_eq (congrArg Array.size (e22).symm))) X25 hS25 hg25 hZ hown
    have hCr25 := hCr20.trans hCr25
    have pre26 : ∀ t, Steps p.tables e below (T25.setTop (mkF m 70 #[.val (.int p1), .val (.int p2), .val (.ref (ad (own_j p1))), .val (.ref (ad (own_j p2))), .val (.ref a8), .val (.ref a11), .val (.int (1 : Int32))] [(.ref a25), (.ref a11)])) t → Steps p.tables e below (s₁.setTop (entryFrame m #[(.int p1), (.int p2)] maxLocals)) t := fun t kt => pre24 t (st25.trans kt)
    have Ex4 := own_ext Ex3 E25
    have SA4 := SA3.ext E25
    have SB4 := SB3.ext E25
    obtain ⟨cq27, kq27, q27a, q27b, q27c⟩ := isOf hZ rfl SB4.exa
    obtain ⟨_, _, ⟨T27, L27, k27, n27⟩, -, X27, ⟨Lc27, hQ27, l27, y27, z27⟩, st27⟩ := X25.virtualBack hx (y := (⟨"java/lang/String", "equals", "(Ljava/lang/Object;)Z"⟩ : MethodName)) (z := (⟨"java/lang/String", "equals", "(Ljava/lang/Object;)Z"⟩ : MethodName)) hown (mvT hZ (hw _ (List.mem_of_getElem? (i := 44) rfl))) (mvT hZ (hw _ (List.mem_of_getElem? (i := 45) rfl))) (notFace_of_selects (args := #[]) (mvT hZ (hw _ (List.mem_of_getElem? (i := 47) rfl)))) (mvT hZ (hw _ (List.mem_of_getElem? (i := 47) rfl))) (mvT hZ (hw _ (List.mem_of_getElem? (i := 46) rfl))) (by decide) (backOf (W := 0) (rm6a l Z a0 hw [] a11 a25 _ _ zc T25.heap n0 (Nat.le_trans Z0 Ex4.1) SB4 SE25 (Sc.ext Ex4) hzc rfl (own_t_lt jb5)) hZ (hw _ (List.mem_of_getElem? (i := 48) rfl)) (hw _ (List.mem_of_getElem? (i := 25) rfl)) (by decide) (by decide)) q27a q27c (g := (mkF m 70 #[.val (.int p1), .val (.int p2), .val (.ref (ad (own_j p1))), .val (.ref (ad (own_j p2))), .val (.ref a8), .val (.ref a11), .val (.int (1 : Int32))] [(.ref a25), (.ref a11)])) rfl (by rw [hml]; rfl) (Steps.refl _) (argsL := [(.ref a25)]) (rest := []) (lenOf pd_0_4 rfl) rfl (by show 2 * 0 + _ ≤ _; exact Nat.le_of_eq rfl) (hb hby at_70) (fun _ _ => ⟨rfl, rfl, (by decide : 8 + 0 ≤ _), (by decide : 816 + 0 ≤ _)⟩)
    dsimp only [Pt.U, Pt.locs, Pt.cells, Pt.slots] at X27 l27 y27 z27 st27 hQ27
    subst l27 y27 z27
    obtain ⟨rfl, rfl, e27⟩ := hQ27
    try rw [List.append_nil] at X27
    have pre28 : ∀ t, Steps p.tables e below (T27.setTop (mkF m 73 #[.val (.int p1), .val (.int p2), .val (.ref (ad (own_j p1))), .val (.ref (ad (own_j p2))), .val (.ref a8), .val (.ref a11), .val (.int (1 : Int32))] [(.int (1 : Int32))])) t → Steps p.tables e below (s₁.setTop (entryFrame m #[(.int p1), (.int p2)] maxLocals)) t := fun t kt => pre26 t (st27.trans kt)
    have pre29 : ∀ t, Steps p.tables e below (T27.setTop (mkF m 80 #[.val (.int p1), .val (.int p2), .val (.ref (ad (own_j p1))), .val (.ref (ad (own_j p2))), .val (.ref a8), .val (.ref a11), .val (.int (1 : Int32))] [(.ref a11), (.ref a8)])) t → Steps p.tables e below (s₁.setTop (entryFrame m #[(.int p1), (.int p2)] maxLocals)) t := fun t kt => pre28 t (by
      show Steps p.tables e below (T27.setTop (mkF m 73 #[.val (.int p1), .val (.int p2), .val (.ref (ad (own_j p1))), .val (.ref (ad (own_j p2))), .val (.ref a8), .val (.ref a11), .val (.int (1 : Int32))] [(.int (1 : Int32))])) _
      refine XS.ifNo X27.here hx rfl (hb hby at_73) rfl ((if0 _ _).trans (feq (by decide)).1) ?_
      show Steps p.tables e below (T27.setTop (mkF m 76 #[.val (.int p1), .val (.int p2), .val (.ref (ad (own_j p1))), .val (.ref (ad (own_j p2))), .val (.ref a8), .val (.ref a11), .val (.int (1 : Int32))] [])) _
      refine XS.aload X27.here hx rfl (hb hby at_76) rfl rfl ?_
      show Steps p.tables e below (T27.setTop (mkF m 78 #[.val (.int p1), .val (.int p2), .val (.ref (ad (own_j p1))), .val (.ref (ad (own_j p2))), .val (.ref a8), .val (.ref a11), .val (.int (1 : Int32))] [(.ref a8)])) _
      refine XS.aload X27.here hx rfl (hb hby at_78) rfl rfl ?_
      exact kt)
    obtain ⟨cq30, kq30, q30a, q30b, q30c⟩ := isOf hZ e27 SA4.exa
    obtain ⟨_, _, ⟨T30, L30, k30, n30⟩, -, X30, ⟨Lc30, hQ30, l30, y30, z30⟩, st30⟩ := X27.virtualBack hx (y := (⟨"java/lang/String", "equals", "(Ljava/lang/Object;)Z"⟩ : MethodName)) (z := (⟨"java/lang/String", "equals", "(Ljava/lang/Object;)Z"⟩ : MethodName)) hown (mvT hZ (hw _ (List.mem_of_getElem? (i := 44) rfl))) (mvT hZ (hw _ (List.mem_of_getElem? (i := 45) rfl))) (notFace_of_selects (args := #[]) (mvT hZ (hw _ (List.mem_of_getElem? (i := 47) rfl)))) (mvT hZ (hw _ (List.mem_of_getElem? (i := 47) rfl))) (mvT hZ (hw _ (List.mem_of_getElem? (i := 46) rfl))) (by decide) (backOf (W := 0) (rm6a l Z a0 hw [] a8 a11 _ _ zc T25.heap n0 (Nat.le_trans Z0 Ex4.1) SA4 SB4 (Sc.ext Ex4) hzc (own_t_same ja5 jb5 hg) (own_t_lt ja5)) hZ (hw _ (List.mem_of_getElem? (i := 48) rfl)) (hw _ (List.mem_of_getElem? (i := 25) rfl)) (by decide) (by decide)) q30a q30c (g := (mkF m 80 #[.val (.int p1), .val (.int p2), .val (.ref (ad (own_j p1))), .val (.ref (ad (own_j p2))), .val (.ref a8), .val (.ref a11), .val (.int (1 : Int32))] [(.ref a11), (.ref a8)])) rfl (by rw [hml]; rfl) (Steps.refl _) (argsL := [(.ref a11)]) (rest := []) (lenOf pd_0_4 rfl) rfl (by show 2 * 0 + _ ≤ _; exact Nat.le_of_eq rfl) (hb hby at_80) (fun _ _ => ⟨rfl, e27, (by decide : 8 + 0 ≤ _), (by decide : 816 + 0 ≤ _)⟩)
    dsimp only [Pt.U, Pt.locs, Pt.cells, Pt.slots] at X30 l30 y30 z30 st30 hQ30
    subst l30 y30 z30
    obtain ⟨rfl, rfl, e30⟩ := hQ30
    try rw [List.append_nil] at X30
    have pre31 : ∀ t, Steps p.tables e below (T30.setTop (mkF m 83 #[.val (.int p1), .val (.int p2), .val (.ref (ad (own_j p1))), .val (.ref (ad (own_j p2))), .val (.ref a8), .val (.ref a11), .val (.int (1 : Int32))] [(.int (1 : Int32))])) t → Steps p.tables e below (s₁.setTop (entryFrame m #[(.int p1), (.int p2)] maxLocals)) t := fun t kt => pre29 t (st30.trans kt)
    have pre32 : ∀ t, Steps p.tables e below (T30.setTop (mkF m 93 #[.val (.int p1), .val (.int p2), .val (.ref (ad (own_j p1))), .val (.ref (ad (own_j p2))), .val (.ref a8), .val (.ref a11), .val (.int (1 : Int32))] [(.int (1 : Int32))])) t → Steps p.tables e below (s₁.setTop (entryFrame m #[(.int p1), (.int p2)] maxLocals)) t := fun t kt => pre31 t (by
      show Steps p.tables e below (T30.setTop (mkF m 83 #[.val (.int p1), .val (.int p2), .val (.ref (ad (own_j p1))), .val (.ref (ad (own_j p2))), .val (.ref a8), .val (.ref a11), .val (.int (1 : Int32))] [(.int (1 : Int32))])) _
      refine XS.iload X30.here hx rfl (hb hby at_83) rfl ?_
      show Steps p.tables e below (T30.setTop (mkF m 85 #[.val (.int p1), .val (.int p2), .val (.ref (ad (own_j p1))), .val (.ref (ad (own_j p2))), .val (.ref a8), .val (.ref a11), .val (.int (1 : Int32))] [(.int (1 : Int32)), (.int (1 : Int32))])) _
      refine XS.icmpNo X30.here hx rfl (hb hby at_85) rfl (teq rfl).2 ?_
      show Steps p.tables e below (T30.setTop (mkF m 88 #[.val (.int p1), .val (.int p2), .val (.ref (ad (own_j p1))), .val (.ref (ad (own_j p2))), .val (.ref a8), .val (.ref a11), .val (.int (1 : Int32))] [])) _
      refine XS.iconst X30.here hx rfl (hb hby at_88) ?_
      show Steps p.tables e below (T30.setTop (mkF m 89 #[.val (.int p1), .val (.int p2), .val (.ref (ad (own_j p1))), .val (.ref (ad (own_j p2))), .val (.ref a8), .val (.ref a11), .val (.int (1 : Int32))] [(.int (1 : Int32))])) _
      refine XS.goto X30.here hx rfl (pc0 := 89) (pc' := 93) rfl (hb hby at_89) (by decide) (by decide) ?_
      exact kt)
    obtain ⟨fs, hr, hrun, hended, hEnd⟩ := X30.leaveW hS25 (Nat.le_trans (Nat.le_refl _) (Nat.le_of_eq (congrArg Array.size (e30).symm))) (v := some (.int (1 : Int32))) (fun h => by rw [Bd.returns] at h; cases h)
    refine ⟨_, _, pre32 _ ?_, hrun, hended, _, _, rfl, ?_, hEnd.1, hEnd.2.1, hEnd.2.2.1, hEnd.2.2.2.mono (by decide) (by decide)⟩
    · show Steps p.tables e below (T30.setTop (mkF m 93 #[.val (.int p1), .val (.int p2), .val (.ref (ad (own_j p1))), .val (.ref (ad (own_j p2))), .val (.ref a8), .val (.ref a11), .val (.int (1 : Int32))] [(.int (1 : Int32))])) _
      exact retN X30 hx (t := .boolean) Bd.returns (by simp) (hb hby at_93) hr
    · show Q0 Z p1 p2 ad zc h0 n0 _ T30.heap _
      rw [e30]
      exact ⟨rfl, rfl⟩
  · have pre33 : ∀ t, Steps p.tables e below (T17.setTop (mkF m 55 #[.val (.int p1), .val (.int p2), .val (.ref (ad (own_j p1))), .val (.ref (ad (own_j p2))), .val (.ref a8), .val (.ref a11), .val (.int (0 : Int32))] [(.ref (ad (own_j p1))), (.ref a8)])) t → Steps p.tables e below (s₁.setTop (entryFrame m #[(.int p1), (.int p2)] maxLocals)) t := fun t kt => pre18 t (by
      show Steps p.tables e below (T17.setTop (mkF m 42 #[.val (.int p1), .val (.int p2), .val (.ref (ad (own_j p1))), .val (.ref (ad (own_j p2))), .val (.ref a8), .val (.ref a11), .unset] [(.int (own_g (own_j p2))), (.int (own_g (own_j p1)))])) _
      refine XS.icmpYes X17.here hx rfl (pc0 := 42) (pc' := 49) rfl (hb hby at_42) rfl (feq hg).2 (by decide) (by decide) ?_
      show Steps p.tables e below (T17.setTop (mkF m 49 #[.val (.int p1), .val (.int p2), .val (.ref (ad (own_j p1))), .val (.ref (ad (own_j p2))), .val (.ref a8), .val (.ref a11), .unset] [])) _
      refine XS.iconst X17.here hx rfl (hb hby at_49) ?_
      show Steps p.tables e below (T17.setTop (mkF m 50 #[.val (.int p1), .val (.int p2), .val (.ref (ad (own_j p1))), .val (.ref (ad (own_j p2))), .val (.ref a8), .val (.ref a11), .unset] [(.int (0 : Int32))])) _
      refine XS.istore X17.here hx rfl (hb hby at_50) rfl (l' := #[.val (.int p1), .val (.int p2), .val (.ref (ad (own_j p1))), .val (.ref (ad (own_j p2))), .val (.ref a8), .val (.ref a11), .val (.int (0 : Int32))]) rfl ?_
      show Steps p.tables e below (T17.setTop (mkF m 52 #[.val (.int p1), .val (.int p2), .val (.ref (ad (own_j p1))), .val (.ref (ad (own_j p2))), .val (.ref a8), .val (.ref a11), .val (.int (0 : Int32))] [])) _
      refine XS.aload X17.here hx rfl (hb hby at_52) rfl rfl ?_
      show Steps p.tables e below (T17.setTop (mkF m 54 #[.val (.int p1), .val (.int p2), .val (.ref (ad (own_j p1))), .val (.ref (ad (own_j p2))), .val (.ref a8), .val (.ref a11), .val (.int (0 : Int32))] [(.ref a8)])) _
      refine XS.aloadN X17.here hx rfl (hb hby at_54) rfl rfl ?_
      exact kt)
    obtain ⟨_, _, ⟨T34, L34, k34, n34⟩, -, X34, hS34, hg34, ⟨Lc34, hQ34, l34, y34, z34, hCr34⟩, st34⟩ := callSS X17 hx (y := (⟨"com/example/quillet/quillet/jpql/AggregateFunctionArgumentPinLaw", "expected", "(Lcom/example/quillet/quillet/jpql/AggregateFunction;)Ljava/lang/String;"⟩ : MethodName)) hown (mvT hZ (hw _ (List.mem_of_getElem? (i := 40) rfl))) (mvT hZ (hw _ (List.mem_of_getElem? (i := 41) rfl))) (mvT hZ (hw _ (List.mem_of_getElem? (i := 2) rfl))) (mvT hZ (hw _ (List.mem_of_getElem? (i := 42) rfl))) (by decide) (backOfSH (W := 1) (rm5 l Z a0 hw [] (own_j p1) ad T11.heap n0 (Nat.le_trans Z0 Ex.1) (S0.ext Ex) (S1.ext Ex) (S2.ext Ex) (S3.ext Ex) (S4.ext Ex) ja5 inj) hZ (hw _ (List.mem_of_getElem? (i := 42) rfl)) (hw _ (List.mem_of_getElem? (i := 2) rfl)) (by decide) (by decide) (own_EW hw) hCr11.1) (g := (mkF m 55 #[.val (.int p1), .val (.int p2), .val (.ref (ad (own_j p1))), .val (.ref (ad (own_j p2))), .val (.ref a8), .val (.ref a11), .val (.int (0 : Int32))] [(.ref (ad (own_j p1))), (.ref a8)])) rfl (by rw [hml]; rfl) (argsL := [(.ref (ad (own_j p1)))]) (rest := [(.ref a8)]) (lenOf pd_0_3 rfl) rfl (by show 2 * 0 + _ ≤ _; exact Nat.le_of_eq rfl) (hb hby at_55) (fun _ _ => ⟨rfl, e17, (by decide : 4 + 2 ≤ _), (by decide : 408 + 204 ≤ _)⟩)
    dsimp only [Pt.U, Pt.locs, Pt.cells, Pt.slots] at X34 hS34 hg34 l34 y34 z34 hCr34 st34 hQ34
    subst l34 y34 z34
    obtain ⟨a34, rfl, rfl, E34, SE34⟩ := hQ34
    try rw [List.append_nil] at X34
    obtain ⟨X34, hS34, hZ, hown⟩ := rebS hS11 (Nat.le_trans (Nat.le_refl _) (Nat.le_of_eq (congrArg Array.size (e17).symm))) X34 hS34 hg34 hZ hown
    have hCr34 := hCr11.trans hCr34
    have pre35 : ∀ t, Steps p.tables e below (T34.setTop (mkF m 58 #[.val (.int p1), .val (.int p2), .val (.ref (ad (own_j p1))), .val (.ref (ad (own_j p2))), .val (.ref a8), .val (.ref a11), .val (.int (0 : Int32))] [(.ref a34), (.ref a8)])) t → Steps p.tables e below (s₁.setTop (entryFrame m #[(.int p1), (.int p2)] maxLocals)) t := fun t kt => pre33 t (st34.trans kt)
    have Ex3 := own_ext Ex E34
    have SA3 := SA.ext E34
    have SB3 := SB.ext E34
    obtain ⟨cq36, kq36, q36a, q36b, q36c⟩ := isOf hZ rfl SA3.exa
    obtain ⟨_, _, ⟨T36, L36, k36, n36⟩, -, X36, ⟨Lc36, hQ36, l36, y36, z36⟩, st36⟩ := X34.virtualBack hx (y := (⟨"java/lang/String", "equals", "(Ljava/lang/Object;)Z"⟩ : MethodName)) (z := (⟨"java/lang/String", "equals", "(Ljava/lang/Object;)Z"⟩ : MethodName)) hown (mvT hZ (hw _ (List.mem_of_getElem? (i := 44) rfl))) (mvT hZ (hw _ (List.mem_of_getElem? (i := 45) rfl))) (notFace_of_selects (args := #[]) (mvT hZ (hw _ (List.mem_of_getElem? (i := 47) rfl)))) (mvT hZ (hw _ (List.mem_of_getElem? (i := 47) rfl))) (mvT hZ (hw _ (List.mem_of_getElem? (i := 46) rfl))) (by decide) (backOf (W := 0) (rm6a l Z a0 hw [] a8 a34 _ _ zc T34.heap n0 (Nat.le_trans Z0 Ex3.1) SA3 SE34 (Sc.ext Ex3) hzc rfl (own_t_lt ja5)) hZ (hw _ (List.mem_of_getElem? (i := 48) rfl)) (hw _ (List.mem_of_getElem? (i := 25) rfl)) (by decide) (by decide)) q36a q36c (g := (mkF m 58 #[.val (.int p1), .val (.int p2), .val (.ref (ad (own_j p1))), .val (.ref (ad (own_j p2))), .val (.ref a8), .val (.ref a11), .val (.int (0 : Int32))] [(.ref a34), (.ref a8)])) rfl (by rw [hml]; rfl) (Steps.refl _) (argsL := [(.ref a34)]) (rest := []) (lenOf pd_0_4 rfl) rfl (by show 2 * 0 + _ ≤ _; exact Nat.le_of_eq rfl) (hb hby at_58) (fun _ _ => ⟨rfl, rfl, (by decide : 6 + 0 ≤ _), (by decide : 612 + 0 ≤ _)⟩)
    dsimp only [Pt.U, Pt.locs, Pt.cells, Pt.slots] at X36 l36 y36 z36 st36 hQ36
    subst l36 y36 z36
    obtain ⟨rfl, rfl, e36⟩ := hQ36
    try rw [List.append_nil] at X36
    have pre37 : ∀ t, Steps p.tables e below (T36.setTop (mkF m 61 #[.val (.int p1), .val (.int p2), .val (.ref (ad (own_j p1))), .val (.ref (ad (own_j p2))), .val (.ref a8), .val (.ref a11), .val (.int (0 : Int32))] [(.int (1 : Int32))])) t → Steps p.tables e below (s₁.setTop (entryFrame m #[(.int p1), (.int p2)] maxLocals)) t := fun t kt => pre35 t (st36.trans kt)
    have pre38 : ∀ t, Steps p.tables e below (T36.setTop (mkF m 67 #[.val (.int p1), .val (.int p2), .val (.ref (ad (own_j p1))), .val (.ref (ad (own_j p2))), .val (.ref a8), .val (.ref a11), .val (.int (0 : Int32))] [(.ref (ad (own_j p2))), (.ref a11)])) t → Steps p.tables e below (s₁.setTop (entryFrame m #[(.int p1), (.int p2)] maxLocals)) t := fun t kt => pre37 t (by
      show Steps p.tables e below (T36.setTop (mkF m 61 #[.val (.int p1), .val (.int p2), .val (.ref (ad (own_j p1))), .val (.ref (ad (own_j p2))), .val (.ref a8), .val (.ref a11), .val (.int (0 : Int32))] [(.int (1 : Int32))])) _
      refine XS.ifNo X36.here hx rfl (hb hby at_61) rfl ((if0 _ _).trans (feq (by decide)).1) ?_
      show Steps p.tables e below (T36.setTop (mkF m 64 #[.val (.int p1), .val (.int p2), .val (.ref (ad (own_j p1))), .val (.ref (ad (own_j p2))), .val (.ref a8), .val (.ref a11), .val (.int (0 : Int32))] [])) _
      refine XS.aload X36.here hx rfl (hb hby at_64) rfl rfl ?_
      show Steps p.tables e below (T36.setTop (mkF m 66 #[.val (.int p1), .val (.int p2), .val (.ref (ad (own_j p1))), .val (.ref (ad (own_j p2))), .val (.ref a8), .val (.ref a11), .val (.int (0 : Int32))] [(.ref a11)])) _
      refine XS.aloadN X36.here hx rfl (hb hby at_66) rfl rfl ?_
      exact kt)
    obtain ⟨_, _, ⟨T39, L39, k39, n39⟩, -, X39, hS39, hg39, ⟨Lc39, hQ39, l39, y39, z39, hCr39⟩, st39⟩ := callSS X36 hx (y := (⟨"com/example/quillet/quillet/jpql/AggregateFunctionArgumentPinLaw", "expected", "(Lcom/example/quillet/quillet/jpql/AggregateFunction;)Ljava/lang/String;"⟩ : MethodName)) hown (mvT hZ (hw _ (List.mem_of_getElem? (i := 40) rfl))) (mvT hZ (hw _ (List.mem_of_getElem? (i := 41) rfl))) (mvT hZ (hw _ (List.mem_of_getElem? (i := 2) rfl))) (mvT hZ (hw _ (List.mem_of_getElem? (i := 42) rfl))) (by decide) (backOfSH (W := 1) (rm5 l Z a0 hw [] (own_j p2) ad T34.heap n0 (Nat.le_trans Z0 Ex3.1) (S0.ext Ex3) (S1.ext Ex3) (S2.ext Ex3) (S3.ext Ex3) (S4.ext Ex3) jb5 inj) hZ (hw _ (List.mem_of_getElem? (i := 42) rfl)) (hw _ (List.mem_of_getElem? (i := 2) rfl)) (by decide) (by decide) (own_EW hw) hCr34.1) (g := (mkF m 67 #[.val (.int p1), .val (.int p2), .val (.ref (ad (own_j p1))), .val (.ref (ad (own_j p2))), .val (.ref a8), .val (.ref a11), .val (.int (0 : Int32))] [(.ref (ad (own_j p2))), (.ref a11)])) rfl (by rw [hml]; rfl) (argsL := [(.ref (ad (own_j p2)))]) (rest := [(.ref a11)]) (lenOf pd_0_3 rfl) rfl (by show 2 * 0 + _ ≤ _; exact Nat.le_of_eq rfl) (hb hby at_67) (fun _ _ => ⟨rfl, e36, (by decide : 6 + 2 ≤ _), (by decide : 612 + 204 ≤ _)⟩)
    dsimp only [Pt.U, Pt.locs, Pt.cells, Pt.slots] at X39 hS39 hg39 l39 y39 z39 hCr39 st39 hQ39
    subst l39 y39 z39
    obtain ⟨a39, rfl, rfl, E39, SE39⟩ := hQ39
    try rw [List.append_nil] at X39
    obtain ⟨X39, hS39, hZ, hown⟩ := rebS hS34 (Nat.le_trans (Nat.le_refl _) (Nat.le_of_eq (congrArg Array.size (e36).symm))) X39 hS39 hg39 hZ hown
    have hCr39 := hCr34.trans hCr39
    have pre40 : ∀ t, Steps p.tables e below (T39.setTop (mkF m 70 #[.val (.int p1), .val (.int p2), .val (.ref (ad (own_j p1))), .val (.ref (ad (own_j p2))), .val (.ref a8), .val (.ref a11), .val (.int (0 : Int32))] [(.ref a39), (.ref a11)])) t → Steps p.tables e below (s₁.setTop (entryFrame m #[(.int p1), (.int p2)] maxLocals)) t := fun t kt => pre38 t (st39.trans kt)
    have Ex4 := own_ext Ex3 E39
    have SA4 := SA3.ext E39
    have SB4 := SB3.ext E39
    obtain ⟨cq41, kq41, q41a, q41b, q41c⟩ := isOf hZ rfl SB4.exa
    obtain ⟨_, _, ⟨T41, L41, k41, n41⟩, -, X41, ⟨Lc41, hQ41, l41, y41, z41⟩, st41⟩ := X39.virtualBack hx (y := (⟨"java/lang/String", "equals", "(Ljava/lang/Object;)Z"⟩ : MethodName)) (z := (⟨"java/lang/String", "equals", "(Ljava/lang/Object;)Z"⟩ : MethodName)) hown (mvT hZ (hw _ (List.mem_of_getElem? (i := 44) rfl))) (mvT hZ (hw _ (List.mem_of_getElem? (i := 45) rfl))) (notFace_of_selects (args := #[]) (mvT hZ (hw _ (List.mem_of_getElem? (i := 47) rfl)))) (mvT hZ (hw _ (List.mem_of_getElem? (i := 47) rfl))) (mvT hZ (hw _ (List.mem_of_getElem? (i := 46) rfl))) (by decide) (backOf (W := 0) (rm6a l Z a0 hw [] a11 a39 _ _ zc T39.heap n0 (Nat.le_trans Z0 Ex4.1) SB4 SE39 (Sc.ext Ex4) hzc rfl (own_t_lt jb5)) hZ (hw _ (List.mem_of_getElem? (i := 48) rfl)) (hw _ (List.mem_of_getElem? (i := 25) rfl)) (by decide) (by decide)) q41a q41c (g := (mkF m 70 #[.val (.int p1), .val (.int p2), .val (.ref (ad (own_j p1))), .val (.ref (ad (own_j p2))), .val (.ref a8), .val (.ref a11), .val (.int (0 : Int32))] [(.ref a39), (.ref a11)])) rfl (by rw [hml]; rfl) (Steps.refl _) (argsL := [(.ref a39)]) (rest := []) (lenOf pd_0_4 rfl) rfl (by show 2 * 0 + _ ≤ _; exact Nat.le_of_eq rfl) (hb hby at_70) (fun _ _ => ⟨rfl, rfl, (by decide : 8 + 0 ≤ _), (by decide : 816 + 0 ≤ _)⟩)
    dsimp only [Pt.U, Pt.locs, Pt.cells, Pt.slots] at X41 l41 y41 z41 st41 hQ41
    subst l41 y41 z41
    obtain ⟨rfl, rfl, e41⟩ := hQ41
    try rw [List.append_nil] at X41
    have pre42 : ∀ t, Steps p.tables e below (T41.setTop (mkF m 73 #[.val (.int p1), .val (.int p2), .val (.ref (ad (own_j p1))), .val (.ref (ad (own_j p2))), .val (.ref a8), .val (.ref a11), .val (.int (0 : Int32))] [(.int (1 : Int32))])) t → Steps p.tables e below (s₁.setTop (entryFrame m #[(.int p1), (.int p2)] maxLocals)) t := fun t kt => pre40 t (st41.trans kt)
    have pre43 : ∀ t, Steps p.tables e below (T41.setTop (mkF m 80 #[.val (.int p1), .val (.int p2), .val (.ref (ad (own_j p1))), .val (.ref (ad (own_j p2))), .val (.ref a8), .val (.ref a11), .val (.int (0 : Int32))] [(.ref a11), (.ref a8)])) t → Steps p.tables e below (s₁.setTop (entryFrame m #[(.int p1), (.int p2)] maxLocals)) t := fun t kt => pre42 t (by
      show Steps p.tables e below (T41.setTop (mkF m 73 #[.val (.int p1), .val (.int p2), .val (.ref (ad (own_j p1))), .val (.ref (ad (own_j p2))), .val (.ref a8), .val (.ref a11), .val (.int (0 : Int32))] [(.int (1 : Int32))])) _
      refine XS.ifNo X41.here hx rfl (hb hby at_73) rfl ((if0 _ _).trans (feq (by decide)).1) ?_
      show Steps p.tables e below (T41.setTop (mkF m 76 #[.val (.int p1), .val (.int p2), .val (.ref (ad (own_j p1))), .val (.ref (ad (own_j p2))), .val (.ref a8), .val (.ref a11), .val (.int (0 : Int32))] [])) _
      refine XS.aload X41.here hx rfl (hb hby at_76) rfl rfl ?_
      show Steps p.tables e below (T41.setTop (mkF m 78 #[.val (.int p1), .val (.int p2), .val (.ref (ad (own_j p1))), .val (.ref (ad (own_j p2))), .val (.ref a8), .val (.ref a11), .val (.int (0 : Int32))] [(.ref a8)])) _
      refine XS.aload X41.here hx rfl (hb hby at_78) rfl rfl ?_
      exact kt)
    obtain ⟨cq44, kq44, q44a, q44b, q44c⟩ := isOf hZ e41 SA4.exa
    obtain ⟨_, _, ⟨T44, L44, k44, n44⟩, -, X44, ⟨Lc44, hQ44, l44, y44, z44⟩, st44⟩ := X41.virtualBack hx (y := (⟨"java/lang/String", "equals", "(Ljava/lang/Object;)Z"⟩ : MethodName)) (z := (⟨"java/lang/String", "equals", "(Ljava/lang/Object;)Z"⟩ : MethodName)) hown (mvT hZ (hw _ (List.mem_of_getElem? (i := 44) rfl))) (mvT hZ (hw _ (List.mem_of_getElem? (i := 45) rfl))) (notFace_of_selects (args := #[]) (mvT hZ (hw _ (List.mem_of_getElem? (i := 47) rfl)))) (mvT hZ (hw _ (List.mem_of_getElem? (i := 47) rfl))) (mvT hZ (hw _ (List.mem_of_getElem? (i := 46) rfl))) (by decide) (backOf (W := 0) (rm6b l Z a0 hw [] a8 a11 _ _ zc T39.heap n0 (Nat.le_trans Z0 Ex4.1) SA4 SB4 (Sc.ext Ex4) hzc (own_t_diff ja5 jb5 hg)) hZ (hw _ (List.mem_of_getElem? (i := 48) rfl)) (hw _ (List.mem_of_getElem? (i := 25) rfl)) (by decide) (by decide)) q44a q44c (g := (mkF m 80 #[.val (.int p1), .val (.int p2), .val (.ref (ad (own_j p1))), .val (.ref (ad (own_j p2))), .val (.ref a8), .val (.ref a11), .val (.int (0 : Int32))] [(.ref a11), (.ref a8)])) rfl (by rw [hml]; rfl) (Steps.refl _) (argsL := [(.ref a11)]) (rest := []) (lenOf pd_0_4 rfl) rfl (by show 2 * 0 + _ ≤ _; exact Nat.le_of_eq rfl) (hb hby at_80) (fun _ _ => ⟨rfl, e41, (by decide : 8 + 0 ≤ _), (by decide : 816 + 0 ≤ _)⟩)
    dsimp only [Pt.U, Pt.locs, Pt.cells, Pt.slots] at X44 l44 y44 z44 st44 hQ44
    subst l44 y44 z44
    obtain ⟨rfl, rfl, e44⟩ := hQ44
    try rw [List.append_nil] at X44
    have pre45 : ∀ t, Steps p.tables e below (T44.setTop (mkF m 83 #[.val (.int p1), .val (.int p2), .val (.ref (ad (own_j p1))), .val (.ref (ad (own_j p2))), .val (.ref a8), .val (.ref a11), .val (.int (0 : Int32))] [(.int (0 : Int32))])) t → Steps p.tables e below (s₁.setTop (entryFrame m #[(.int p1), (.int p2)] maxLocals)) t := fun t kt => pre43 t (st44.trans kt)
    have pre46 : ∀ t, Steps p.tables e below (T44.setTop (mkF m 93 #[.val (.int p1), .val (.int p2), .val (.ref (ad (own_j p1))), .val (.ref (ad (own_j p2))), .val (.ref a8), .val (.ref a11), .val (.int (0 : Int32))] [(.int (1 : Int32))])) t → Steps p.tables e below (s₁.setTop (entryFrame m #[(.int p1), (.int p2)] maxLocals)) t := fun t kt => pre45 t (by
      show Steps p.tables e below (T44.setTop (mkF m 83 #[.val (.int p1), .val (.int p2), .val (.ref (ad (own_j p1))), .val (.ref (ad (own_j p2))), .val (.ref a8), .val (.ref a11), .val (.int (0 : Int32))] [(.int (0 : Int32))])) _
      refine XS.iload X44.here hx rfl (hb hby at_83) rfl ?_
      show Steps p.tables e below (T44.setTop (mkF m 85 #[.val (.int p1), .val (.int p2), .val (.ref (ad (own_j p1))), .val (.ref (ad (own_j p2))), .val (.ref a8), .val (.ref a11), .val (.int (0 : Int32))] [(.int (0 : Int32)), (.int (0 : Int32))])) _
      refine XS.icmpNo X44.here hx rfl (hb hby at_85) rfl (teq rfl).2 ?_
      show Steps p.tables e below (T44.setTop (mkF m 88 #[.val (.int p1), .val (.int p2), .val (.ref (ad (own_j p1))), .val (.ref (ad (own_j p2))), .val (.ref a8), .val (.ref a11), .val (.int (0 : Int32))] [])) _
      refine XS.iconst X44.here hx rfl (hb hby at_88) ?_
      show Steps p.tables e below (T44.setTop (mkF m 89 #[.val (.int p1), .val (.int p2), .val (.ref (ad (own_j p1))), .val (.ref (ad (own_j p2))), .val (.ref a8), .val (.ref a11), .val (.int (0 : Int32))] [(.int (1 : Int32))])) _
      refine XS.goto X44.here hx rfl (pc0 := 89) (pc' := 93) rfl (hb hby at_89) (by decide) (by decide) ?_
      exact kt)
    obtain ⟨fs, hr, hrun, hended, hEnd⟩ := X44.leaveW hS39 (Nat.le_trans (Nat.le_refl _) (Nat.le_of_eq (congrArg Array.size (e44).symm))) (v := some (.int (1 : Int32))) (fun h => by rw [Bd.returns] at h; cases h)
    refine ⟨_, _, pre46 _ ?_, hrun, hended, _, _, rfl, ?_, hEnd.1, hEnd.2.1, hEnd.2.2.1, hEnd.2.2.2.mono (by decide) (by decide)⟩
    · show Steps p.tables e below (T44.setTop (mkF m 93 #[.val (.int p1), .val (.int p2), .val (.ref (ad (own_j p1))), .val (.ref (ad (own_j p2))), .val (.ref a8), .val (.ref a11), .val (.int (0 : Int32))] [(.int (1 : Int32))])) _
      exact retN X44 hx (t := .boolean) Bd.returns (by simp) (hb hby at_93) hr
    · show Q0 Z p1 p2 ad zc h0 n0 _ T44.heap _
      rw [e44]
      exact ⟨rfl, rfl⟩

def own_ad (x0 x1 x2 x3 x4 : Addr) : Nat → Addr
  | 0 => x0
  | 1 => x1
  | 2 => x2
  | 3 => x3
  | _ => x4
set_option maxRecDepth 65536 in
set_option maxHeartbeats 40000000 in
theorem comes_1 {Post : Tables → Env → Array Value → State → Outcome → State → Prop} (hpost : ∀ tb e args s v u, (limb_1_1.after args s (.returned v) u = true ∧ limb_1_2.after args s (.returned v) u = true) → ReturnedEndW s (.returned v) u (Jvm.fieldLocs frame_1_writes args s ++ Jvm.arrayLocs frame_1_arrays args s ++ Jvm.staticLocs frame_1_statics s) 16 6208 → Post tb e args s (.returned v) u) :
    ArmFor flags0 classFile x code maxLocals ret World_1 tables_1 room_1 Calls_1 rest_1 Pre_1 Post := by
  intro l hfl _ _ p e ha hc hk s m args below hf hA hF happ hP
  obtain ⟨hcalls, hrest, hpre⟩ := hP
  obtain ⟨-, -, -, hnamed, -, -, -, hat⟩ := (Spec.applies_iff hf).mp happ
  obtain ⟨hg, hn⟩ := and_e (Cond.before_iff.mp (show (Jvm.Cond.and given_1 narrow_1).before args s = true from hpre))
  obtain ⟨hcnt, g0⟩ := and_e hg
  obtain ⟨ha0, g1⟩ := and_e g0
  obtain ⟨w0, w1, rfl⟩ : ∃ w0 w1 : Value, args = #[w0, w1] := by
    have hs : args.size = 2 := by simpa [Cond.value, given_1] using hcnt
    obtain ⟨L⟩ := args
    match L, hs with
    | [w0, w1], _ => exact ⟨w0, w1, rfl⟩
  have hw := fun d (hd : d ∈ tables_1) => atoms_spec (ws := Jvm.Cond.code x code maxLocals ret :: tables_1) hat d (List.mem_cons_of_mem _ hd)
  obtain ⟨i0, ei0⟩ := is_v ha0
  obtain rfl : w0 = (.int i0) := Option.some.inj ei0
  obtain ⟨i1, ei1⟩ := is_v g1
  obtain rfl : w1 = (.int i1) := Option.some.inj ei1
  obtain ⟨hsets, hown0⟩ := atoms_of _ (rest_1_c_eq ▸ (show rest_1_c.before _ s = true from hrest))
  obtain ⟨xAVG, n1⟩ := and_e hn
  obtain ⟨xMIN, n2⟩ := and_e n1
  obtain ⟨oAVG, n3⟩ := and_e n2
  obtain ⟨oMIN, n4⟩ := and_e n3
  obtain ⟨xCOUNT, n5⟩ := and_e n4
  obtain ⟨oCOUNT, n6⟩ := and_e n5
  obtain ⟨xMAX, n7⟩ := and_e n6
  obtain ⟨oMAX, n8⟩ := and_e n7
  obtain ⟨xSUM, oSUM⟩ := and_e n8
  obtain ⟨x0, v0⟩ := exa_v xAVG
  have E0 := Exa.start v0 xAVG
  have S0 : Sta s s.heap "com/example/quillet/quillet/jpql/AggregateFunction" "AVG" "Lcom/example/quillet/quillet/jpql/AggregateFunction;" (.ref x0) := Sta.start v0 (Or.inr ⟨(hw _ (List.mem_of_getElem? (i := 6) rfl)), (hw _ (List.mem_of_getElem? (i := 7) rfl))⟩)
  have F0 : Fld s s.heap x0 "java/lang/Enum" "ordinal" "I" (.int (0 : Int32)) := Fld.start ((fld_at v0).symm.trans (eqv_i (Term.int_eval (0)) oAVG))
  obtain ⟨x1, v1⟩ := exa_v xCOUNT
  have E1 := Exa.start v1 xCOUNT
  have S1 : Sta s s.heap "com/example/quillet/quillet/jpql/AggregateFunction" "COUNT" "Lcom/example/quillet/quillet/jpql/AggregateFunction;" (.ref x1) := Sta.start v1 (Or.inr ⟨(hw _ (List.mem_of_getElem? (i := 6) rfl)), (hw _ (List.mem_of_getElem? (i := 37) rfl))⟩)
  have F1 : Fld s s.heap x1 "java/lang/Enum" "ordinal" "I" (.int (1 : Int32)) := Fld.start ((fld_at v1).symm.trans (eqv_i (Term.int_eval (1)) oCOUNT))
  obtain ⟨x2, v2⟩ := exa_v xMAX
  have E2 := Exa.start v2 xMAX
  have S2 : Sta s s.heap "com/example/quillet/quillet/jpql/AggregateFunction" "MAX" "Lcom/example/quillet/quillet/jpql/AggregateFunction;" (.ref x2) := Sta.start v2 (Or.inr ⟨(hw _ (List.mem_of_getElem? (i := 6) rfl)), (hw _ (List.mem_of_getElem? (i := 39) rfl))⟩)
  have F2 : Fld s s.heap x2 "java/lang/Enum" "ordinal" "I" (.int (2 : Int32)) := Fld.start ((fld_at v2).symm.trans (eqv_i (Term.int_eval (2)) oMAX))
  obtain ⟨x3, v3⟩ := exa_v xMIN
  have E3 := Exa.start v3 xMIN
  have S3 : Sta s s.heap "com/example/quillet/quillet/jpql/AggregateFunction" "MIN" "Lcom/example/quillet/quillet/jpql/AggregateFunction;" (.ref x3) := Sta.start v3 (Or.inr ⟨(hw _ (List.mem_of_getElem? (i := 6) rfl)), (hw _ (List.mem_of_getElem? (i := 9) rfl))⟩)
  have F3 : Fld s s.heap x3 "java/lang/Enum" "ordinal" "I" (.int (3 : Int32)) := Fld.start ((fld_at v3).symm.trans (eqv_i (Term.int_eval (3)) oMIN))
  obtain ⟨x4, v4⟩ := exa_v xSUM
  have E4 := Exa.start v4 xSUM
  have S4 : Sta s s.heap "com/example/quillet/quillet/jpql/AggregateFunction" "SUM" "Lcom/example/quillet/quillet/jpql/AggregateFunction;" (.ref x4) := Sta.start v4 (Or.inr ⟨(hw _ (List.mem_of_getElem? (i := 6) rfl)), (hw _ (List.mem_of_getElem? (i := 60) rfl))⟩)
  have F4 : Fld s s.heap x4 "java/lang/Enum" "ordinal" "I" (.int (4 : Int32)) := Fld.start ((fld_at v4).symm.trans (eqv_i (Term.int_eval (4)) oSUM))
  have hcW := hsets _ (List.mem_of_getElem? (i := 2) rfl)
  obtain ⟨zc, evc⟩ := is_v (Cond.before_iff.mp (hsets _ (List.mem_of_getElem? (i := 1) rfl)))
  have Sc : Sta s s.heap "java/lang/String" "COMPACT_STRINGS" "Z" (.int zc) := Sta.start evc (Or.inl (hsets _ (List.mem_of_getElem? (i := 0) rfl)))
  have hzc : ¬ zc = 0 := fun z => by
    have q := not_v (Cond.before_iff.mp hcW)
    rw [eq_i evc (Term.int_eval (0)) (by rw [z])] at q
    cases q
  have hCH : CHv s consts_1 s.vm s.heap := CHv.start (own_EW hw) (fun p hp => hcalls.1 p hp) hcW (hw _ (List.mem_of_getElem? (i := 27) rfl)) (hw _ (List.mem_of_getElem? (i := 26) rfl))
  obtain ⟨n, o, h1, h2, h3, _, L, rfl, ⟨rfl, rfl⟩, hq⟩ := rm0 l s _ hw tables_1 i0 i1 (own_ad x0 x1 x2 x3 x4) zc s.heap s.heap.size (Nat.le_refl _) S0 S1 S2 S3 S4
    (fun j hj => by rcases own_5 hj with rfl | rfl | rfl | rfl | rfl <;> assumption) (fun j hj => by rcases own_5 hj with rfl | rfl | rfl | rfl | rfl <;> assumption) Sc hzc p e ha hc hk s m _ below hf ((Spec.applies_iff_loose hf).mp happ).1 ⟨rfl, State.Warmed39.refl s, rfl, hCH⟩ trivial
  exact ⟨n, _, h1, h2, h3, hpost _ _ _ _ _ _ ⟨Cond.after_iff.mpr rfl, Cond.after_iff.mpr (eq_i res_at (Term.int_eval (1)) rfl)⟩ ⟨hq.1, hq.2.1, hq.2.2.1, hq.2.2.2⟩⟩
theorem main_1_1 : Claimed_1_1 := comes_1 fun _ _ _ _ _ _ h hF => ⟨h.1, hF⟩
theorem main_1_2 : Claimed_1_2 := comes_1 fun _ _ _ _ _ _ h hF => ⟨h.2, hF⟩
end Jvm.Pilot.@@N@@
namespace Jvm.Pilot.@@N@@
open Jvm Jvm.ClassFile Sem Op Lib Jvm.Free Jvm.Stand Jvm.Pilot.@@N@@.Jvm.D
/-! MADE BY PROGRAM (witnessworld.py) out of the Statement's table words and the real class files: 18 classes; the members and pool entries that the words name. The judged class is class 1, her method 4. -/
namespace start1
open Jvm.ClassFile
def u (s : String) : CpInfo := .utf8 (stringToUtf16 s)
/-- a pool by its gaps: so many unusable entries, then the entry; so many at the end -/
def gap : Nat → List CpInfo → List CpInfo
  | 0, r => r
  | n + 1, r => .unusable :: gap n r
def poolList (es : List (Nat × CpInfo)) (last : Nat) : List CpInfo := es.foldr (fun e r => gap e.1 (e.2 :: r)) (gap last [])
def pool (es : List (Nat × CpInfo)) (last : Nat) : Array CpInfo := ⟨poolList es last⟩
def fileOf (pool : Array CpInfo) (this : Nat) (attrs : Array Attribute := #[]) (ms : Array MethodInfo := #[]) (fl : Nat := 33) (sup : Nat := 0) (ifs : Array Nat := #[]) (fds : Array FieldInfo := #[]) : ClassFile where
  minorVersion := 0
  majorVersion := 65
  constantPool := pool
  accessFlags := fl
  thisClass := this
  superClass := sup
  interfaces := ifs
  fields := fds
  methods := ms
  attributes := attrs
def plain (name : String) (sup : Option ClassId) : Class where
  name := name
  kind := .ordinary
  loader := none
  accessFlags := 33
  super := sup
  interfaces := #[]
  cf := none
  fields := #[]
  methods := #[]
  instanceTypes := #[]
  staticTypes := #[]
  resolved := #[]
  callSites := []
  init := .initialized
  statics := none
  mirror := none

def pool0 : Array CpInfo := pool [(5, u "<init>"), (0, u "()V"), (1, .class_ 10), (1, u "java/lang/Object")] 113

def k0m0 : Method := { name := "<init>", desc := "()V", sig := { parameters := [], returnType := none }, accessFlags := 1, code := none }
/-- java/lang/Object -/
def k0 : Class := { plain "java/lang/Object" none with
  accessFlags := 33
  interfaces := #[]
  cf := some (fileOf pool0 8 #[] #[{ accessFlags := 1, nameIndex := 5, descriptorIndex := 6, attributes := #[] }] 33 0 #[] #[])
  fields := #[]
  methods := #[k0m0]
  instanceTypes := #[]
  staticTypes := #[]
  resolved := Array.replicate 124 none
  statics := none }

def pool1 : Array CpInfo := pool [(2, .class_ 4), (1, u "java/lang/Object"), (0, u "<init>"), (0, u "()V"), (0, .integer 2147483647), (0, .fieldref 9 10), (0, .class_ 11), (0, .nameAndType 12 13), (0, u "com/example/quillet/quillet/jpql/AggregateFunction"), (0, u "AVG"), (0, u "Lcom/example/quillet/quillet/jpql/AggregateFunction;"), (0, .fieldref 9 15), (0, .nameAndType 16 13), (0, u "COUNT"), (0, .fieldref 9 18), (0, .nameAndType 19 13), (0, u "MAX"), (0, .fieldref 9 21), (0, .nameAndType 22 13), (0, u "MIN"), (0, .fieldref 9 24), (0, .nameAndType 25 13), (0, u "SUM"), (0, .methodref 27 28), (0, .class_ 29), (0, .nameAndType 30 31), (0, u "com/example/quillet/quillet/jpql/AggregateFunctionArgumentPinLaw"), (0, u "group"), (0, u "(Lcom/example/quillet/quillet/jpql/AggregateFunction;)I"), (0, .string 33), (0, u "an identification variable or a single-valued path"), (0, .string 35), (0, u "a numeric, string or date state field"), (0, .string 37), (0, u "a numeric state field"), (0, .methodref 27 39), (0, .nameAndType 40 41), (0, u "pick"), (0, u "(I)Lcom/example/quillet/quillet/jpql/AggregateFunction;"), (0, .methodref 9 43), (0, .nameAndType 44 45), (0, u "argument"), (0, u "()Ljava/lang/String;"), (0, .methodref 27 47), (0, .nameAndType 48 49), (0, u "expected"), (0, u "(Lcom/example/quillet/quillet/jpql/AggregateFunction;)Ljava/lang/String;"), (0, .methodref 51 52), (0, .class_ 53), (0, .nameAndType 54 55), (0, u "java/lang/String"), (0, u "equals"), (0, u "(Ljava/lang/Object;)Z"), (3, u "law"), (0, u "(II)Z")] 2

def k1m0 : Method := { name := "<init>", desc := "()V", sig := { parameters := [], returnType := none }, accessFlags := 1, code := none }
def k1c1 : Code := { maxStack := 2, maxLocals := 2, code := method_2_code, exceptionTable := #[], attributes := #[] }
def k1m1 : Method := { name := "pick", desc := "(I)Lcom/example/quillet/quillet/jpql/AggregateFunction;", sig := { parameters := [.int], returnType := some (.object "com/example/quillet/quillet/jpql/AggregateFunction") }, accessFlags := 10, code := some k1c1 }
def k1c2 : Code := { maxStack := 2, maxLocals := 1, code := method_3_code, exceptionTable := #[], attributes := #[] }
def k1m2 : Method := { name := "group", desc := "(Lcom/example/quillet/quillet/jpql/AggregateFunction;)I", sig := { parameters := [(.object "com/example/quillet/quillet/jpql/AggregateFunction")], returnType := some .int }, accessFlags := 10, code := some k1c2 }
def k1c3 : Code := { maxStack := 2, maxLocals := 2, code := method_4_code, exceptionTable := #[], attributes := #[] }
def k1m3 : Method := { name := "expected", desc := "(Lcom/example/quillet/quillet/jpql/AggregateFunction;)Ljava/lang/String;", sig := { parameters := [(.object "com/example/quillet/quillet/jpql/AggregateFunction")], returnType := some (.object "java/lang/String") }, accessFlags := 10, code := some k1c3 }
def k1c4 : Code := { maxStack := 2, maxLocals := 7, code := code, exceptionTable := #[], attributes := #[] }
def k1m4 : Method := { name := "law", desc := "(II)Z", sig := { parameters := [.int, .int], returnType := some .boolean }, accessFlags := 9, code := some k1c4 }
/-- com/example/quillet/quillet/jpql/AggregateFunctionArgumentPinLaw -/
def k1 : Class := { plain "com/example/quillet/quillet/jpql/AggregateFunctionArgumentPinLaw" (some 0) with
  accessFlags := 49
  interfaces := #[]
  cf := some (fileOf pool1 27 #[] #[{ accessFlags := 1, nameIndex := 5, descriptorIndex := 6, attributes := #[] }, { accessFlags := 10, nameIndex := 40, descriptorIndex := 41, attributes := #[] }, { accessFlags := 10, nameIndex := 30, descriptorIndex := 31, attributes := #[] }, { accessFlags := 10, nameIndex := 48, descriptorIndex := 49, attributes := #[] }, { accessFlags := 9, nameIndex := 59, descriptorIndex := 60, attributes := #[] }] 49 2 #[] #[])
  fields := #[]
  methods := #[k1m0, k1m1, k1m2, k1m3, k1m4]
  instanceTypes := #[]
  staticTypes := #[]
  resolved := Array.replicate 63 none
  statics := none }

def pool2 : Array CpInfo := pool [(1, .class_ 2), (0, u "java/lang/constant/Constable"), (0, .class_ 4), (0, u "java/lang/Object")] 6

/-- java/lang/constant/Constable -/
def k2 : Class := { plain "java/lang/constant/Constable" (some 0) with
  accessFlags := 1537
  interfaces := #[]
  cf := some (fileOf pool2 1 #[] #[] 1537 3 #[] #[])
  fields := #[]
  methods := #[]
  instanceTypes := #[]
  staticTypes := #[]
  resolved := Array.replicate 11 none
  statics := none }

def pool3 : Array CpInfo := pool [(1, .class_ 2), (0, u "java/lang/Comparable"), (0, .class_ 4), (0, u "java/lang/Object")] 7

/-- java/lang/Comparable -/
def k3 : Class := { plain "java/lang/Comparable" (some 0) with
  accessFlags := 1537
  interfaces := #[]
  cf := some (fileOf pool3 1 #[] #[] 1537 3 #[] #[])
  fields := #[]
  methods := #[]
  instanceTypes := #[]
  staticTypes := #[]
  resolved := Array.replicate 12 none
  statics := none }

def pool4 : Array CpInfo := pool [(1, .class_ 2), (0, u "java/io/Serializable"), (0, .class_ 4), (0, u "java/lang/Object")] 2

/-- java/io/Serializable -/
def k4 : Class := { plain "java/io/Serializable" (some 0) with
  accessFlags := 1537
  interfaces := #[]
  cf := some (fileOf pool4 1 #[] #[] 1537 3 #[] #[])
  fields := #[]
  methods := #[]
  instanceTypes := #[]
  staticTypes := #[]
  resolved := Array.replicate 7 none
  statics := none }

def pool5 : Array CpInfo := pool [(2, .class_ 4), (1, u "java/lang/Enum"), (0, u "name"), (0, u "Ljava/lang/String;"), (0, .fieldref 2 8), (0, .nameAndType 9 10), (0, u "ordinal"), (0, u "I"), (1, .class_ 14), (1, u "java/lang/Object"), (4, u "hash"), (86, .class_ 108), (1, u "java/lang/Enum$EnumDesc"), (2, .class_ 112), (0, u "java/lang/constant/Constable"), (0, .class_ 114), (0, u "java/lang/Comparable"), (0, .class_ 116), (0, u "java/io/Serializable"), (9, u "()I")] 77

def k5c0 : Code := { maxStack := 1, maxLocals := 1, code := jdk_37_method_2_code, exceptionTable := #[], attributes := #[] }
def k5m0 : Method := { name := "ordinal", desc := "()I", sig := { parameters := [], returnType := some .int }, accessFlags := 17, code := some k5c0 }
/-- java/lang/Enum -/
def k5 : Class := { plain "java/lang/Enum" (some 0) with
  accessFlags := 1057
  interfaces := #[2, 3, 4]
  cf := some (fileOf pool5 2 #[.nestMembers #[106]] #[{ accessFlags := 17, nameIndex := 9, descriptorIndex := 126, attributes := #[] }] 1057 12 #[111, 113, 115] #[{ accessFlags := 18, nameIndex := 5, descriptorIndex := 6, attributes := #[] }, { accessFlags := 18, nameIndex := 9, descriptorIndex := 10, attributes := #[] }, { accessFlags := 2, nameIndex := 19, descriptorIndex := 10, attributes := #[] }])
  fields := #[{ name := "name", type := (.object "java/lang/String"), accessFlags := 18, slot := 0, constantValue := 0 }, { name := "ordinal", type := .int, accessFlags := 18, slot := 1, constantValue := 0 }, { name := "hash", type := .int, accessFlags := 2, slot := 2, constantValue := 0 }]
  methods := #[k5m0]
  instanceTypes := #[(.object "java/lang/String"), .int, .int]
  staticTypes := #[]
  resolved := Array.replicate 204 none
  statics := none }

def pool6 : Array CpInfo := pool [(1, .class_ 2), (0, u "com/example/quillet/quillet/jpql/AggregateFunction"), (2, u "AVG"), (0, u "Lcom/example/quillet/quillet/jpql/AggregateFunction;"), (2, u "COUNT"), (2, u "MAX"), (2, u "MIN"), (2, u "SUM"), (2, u "$VALUES"), (0, u "[Lcom/example/quillet/quillet/jpql/AggregateFunction;"), (6, .class_ 31), (1, u "java/lang/Enum"), (8, u "word"), (0, u "Lcom/example/quillet/quillet/jpql/ReservedWord;"), (30, .methodref 1 73), (0, .nameAndType 74 75), (0, u "ordinal"), (0, u "()I"), (22, .string 99), (0, u "an identification variable or a single-valued path"), (0, .string 101), (0, u "a numeric, string or date state field"), (0, .string 103), (0, u "a numeric state field"), (55, u "argument"), (0, u "()Ljava/lang/String;")] 33

def k6c0 : Code := { maxStack := 4, maxLocals := 1, code := prog_1_method_6_code, exceptionTable := #[], attributes := #[] }
def k6m0 : Method := { name := "argument", desc := "()Ljava/lang/String;", sig := { parameters := [], returnType := some (.object "java/lang/String") }, accessFlags := 0, code := some k6c0 }
/-- com/example/quillet/quillet/jpql/AggregateFunction -/
def k6 : Class := { plain "com/example/quillet/quillet/jpql/AggregateFunction" (some 5) with
  accessFlags := 16432
  interfaces := #[]
  cf := some (fileOf pool6 1 #[] #[{ accessFlags := 0, nameIndex := 159, descriptorIndex := 160, attributes := #[] }] 16432 29 #[] #[{ accessFlags := 16409, nameIndex := 5, descriptorIndex := 6, attributes := #[] }, { accessFlags := 16409, nameIndex := 9, descriptorIndex := 6, attributes := #[] }, { accessFlags := 16409, nameIndex := 12, descriptorIndex := 6, attributes := #[] }, { accessFlags := 16409, nameIndex := 15, descriptorIndex := 6, attributes := #[] }, { accessFlags := 16409, nameIndex := 18, descriptorIndex := 6, attributes := #[] }, { accessFlags := 18, nameIndex := 40, descriptorIndex := 41, attributes := #[] }, { accessFlags := 4122, nameIndex := 21, descriptorIndex := 22, attributes := #[] }])
  fields := #[{ name := "AVG", type := (.object "com/example/quillet/quillet/jpql/AggregateFunction"), accessFlags := 16409, slot := 0, constantValue := 0 }, { name := "COUNT", type := (.object "com/example/quillet/quillet/jpql/AggregateFunction"), accessFlags := 16409, slot := 1, constantValue := 0 }, { name := "MAX", type := (.object "com/example/quillet/quillet/jpql/AggregateFunction"), accessFlags := 16409, slot := 2, constantValue := 0 }, { name := "MIN", type := (.object "com/example/quillet/quillet/jpql/AggregateFunction"), accessFlags := 16409, slot := 3, constantValue := 0 }, { name := "SUM", type := (.object "com/example/quillet/quillet/jpql/AggregateFunction"), accessFlags := 16409, slot := 4, constantValue := 0 }, { name := "word", type := (.object "com/example/quillet/quillet/jpql/ReservedWord"), accessFlags := 18, slot := 3, constantValue := 0 }, { name := "$VALUES", type := (.array (.object "com/example/quillet/quillet/jpql/AggregateFunction")), accessFlags := 4122, slot := 5, constantValue := 0 }]
  methods := #[k6m0]
  instanceTypes := #[(.object "java/lang/String"), .int, .int, (.object "com/example/quillet/quillet/jpql/ReservedWord")]
  staticTypes := #[(.object "com/example/quillet/quillet/jpql/AggregateFunction"), (.object "com/example/quillet/quillet/jpql/AggregateFunction"), (.object "com/example/quillet/quillet/jpql/AggregateFunction"), (.object "com/example/quillet/quillet/jpql/AggregateFunction"), (.object "com/example/quillet/quillet/jpql/AggregateFunction"), (.array (.object "com/example/quillet/quillet/jpql/AggregateFunction"))]
  resolved := Array.replicate 194 none
  statics := some 0 }

def pool7 : Array CpInfo := pool [(2, .class_ 4), (1, u "java/lang/CharSequence"), (42, .class_ 48), (0, u "java/lang/CharSequence$1CodePointIterator"), (10, .class_ 60), (0, u "java/lang/CharSequence$1CharIterator"), (5, .class_ 67), (0, u "java/lang/Object")] 63

/-- java/lang/CharSequence -/
def k7 : Class := { plain "java/lang/CharSequence" (some 0) with
  accessFlags := 1537
  interfaces := #[]
  cf := some (fileOf pool7 2 #[.nestMembers #[47, 59]] #[] 1537 66 #[] #[])
  fields := #[]
  methods := #[]
  instanceTypes := #[]
  staticTypes := #[]
  resolved := Array.replicate 131 none
  statics := none }

def pool8 : Array CpInfo := pool [(1, .class_ 2), (0, u "java/lang/constant/ConstantDesc"), (0, .class_ 4), (0, u "java/lang/Object")] 32

/-- java/lang/constant/ConstantDesc -/
def k8 : Class := { plain "java/lang/constant/ConstantDesc" (some 0) with
  accessFlags := 1537
  interfaces := #[]
  cf := some (fileOf pool8 1 #[] #[] 1537 3 #[] #[])
  fields := #[]
  methods := #[]
  instanceTypes := #[]
  staticTypes := #[]
  resolved := Array.replicate 37 none
  statics := none }

def pool9 : Array CpInfo := pool [(2, .class_ 4), (1, u "java/lang/Object"), (0, u "<init>"), (0, u "()V"), (2, .fieldref 10 11), (0, .class_ 12), (0, .nameAndType 13 14), (0, u "java/lang/String"), (0, u "value"), (0, u "[B"), (0, .fieldref 10 16), (0, .nameAndType 17 18), (0, u "coder"), (0, u "B"), (2, u "hash"), (0, u "I"), (2, u "hashIsZero"), (0, u "Z"), (11, .fieldref 10 39), (0, .nameAndType 40 26), (0, u "COMPACT_STRINGS"), (66, .class_ 109), (1, u "java/lang/StringLatin1"), (431, .methodref 107 542), (0, .nameAndType 543 544), (0, u "equals"), (0, u "([B[B)Z"), (28, u "(Ljava/lang/Object;)Z"), (1, .class_ 576), (0, u "java/lang/CharSequence"), (22, u "CASE_INSENSITIVE_ORDER"), (0, u "Ljava/util/Comparator;"), (500, u "serialPersistentFields"), (0, u "[Ljava/io/ObjectStreamField;"), (0, .class_ 1104), (0, u "java/lang/String$CaseInsensitiveComparator"), (1, .class_ 1107), (0, u "java/io/Serializable"), (0, .class_ 1109), (0, u "java/lang/Comparable"), (0, .class_ 1111), (0, u "java/lang/constant/Constable"), (0, .class_ 1113), (0, u "java/lang/constant/ConstantDesc"), (2, u "serialVersionUID"), (0, u "J"), (3, u "REPL"), (0, u "C"), (2, u "LATIN1"), (1, u "UTF16")] 323

def k9m0 : Method := { name := "<init>", desc := "()V", sig := { parameters := [], returnType := none }, accessFlags := 1, code := none }
def k9c1 : Code := { maxStack := 2, maxLocals := 3, code := jdk_42_method_66_code, exceptionTable := #[], attributes := #[] }
def k9m1 : Method := { name := "equals", desc := "(Ljava/lang/Object;)Z", sig := { parameters := [(.object "java/lang/Object")], returnType := some .boolean }, accessFlags := 1, code := some k9c1 }
/-- java/lang/String -/
def k9 : Class := { plain "java/lang/String" (some 0) with
  accessFlags := 49
  interfaces := #[4, 3, 7, 2, 8]
  cf := some (fileOf pool9 10 #[.nestMembers #[1103]] #[{ accessFlags := 1, nameIndex := 5, descriptorIndex := 6, attributes := #[] }, { accessFlags := 1, nameIndex := 543, descriptorIndex := 573, attributes := #[] }] 49 2 #[1106, 1108, 575, 1110, 1112] #[{ accessFlags := 18, nameIndex := 13, descriptorIndex := 14, attributes := #[] }, { accessFlags := 18, nameIndex := 17, descriptorIndex := 18, attributes := #[] }, { accessFlags := 2, nameIndex := 21, descriptorIndex := 22, attributes := #[] }, { accessFlags := 2, nameIndex := 25, descriptorIndex := 26, attributes := #[] }, { accessFlags := 26, nameIndex := 1116, descriptorIndex := 1117, attributes := #[] }, { accessFlags := 24, nameIndex := 40, descriptorIndex := 26, attributes := #[] }, { accessFlags := 26, nameIndex := 1101, descriptorIndex := 1102, attributes := #[] }, { accessFlags := 26, nameIndex := 1121, descriptorIndex := 1122, attributes := #[] }, { accessFlags := 25, nameIndex := 599, descriptorIndex := 600, attributes := #[] }, { accessFlags := 24, nameIndex := 1125, descriptorIndex := 18, attributes := #[] }, { accessFlags := 24, nameIndex := 1127, descriptorIndex := 18, attributes := #[] }])
  fields := #[{ name := "value", type := (.array .byte), accessFlags := 18, slot := 0, constantValue := 0 }, { name := "coder", type := .byte, accessFlags := 18, slot := 1, constantValue := 0 }, { name := "hash", type := .int, accessFlags := 2, slot := 2, constantValue := 0 }, { name := "hashIsZero", type := .boolean, accessFlags := 2, slot := 3, constantValue := 0 }, { name := "serialVersionUID", type := .long, accessFlags := 26, slot := 0, constantValue := 0 }, { name := "COMPACT_STRINGS", type := .boolean, accessFlags := 24, slot := 1, constantValue := 0 }, { name := "serialPersistentFields", type := (.array (.object "java/io/ObjectStreamField")), accessFlags := 26, slot := 2, constantValue := 0 }, { name := "REPL", type := .char, accessFlags := 26, slot := 3, constantValue := 0 }, { name := "CASE_INSENSITIVE_ORDER", type := (.object "java/util/Comparator"), accessFlags := 25, slot := 4, constantValue := 0 }, { name := "LATIN1", type := .byte, accessFlags := 24, slot := 5, constantValue := 0 }, { name := "UTF16", type := .byte, accessFlags := 24, slot := 6, constantValue := 0 }]
  methods := #[k9m0, k9m1]
  instanceTypes := #[(.array .byte), .byte, .int, .boolean]
  staticTypes := #[.long, .boolean, (.array (.object "java/io/ObjectStreamField")), .char, (.object "java/util/Comparator"), .byte, .byte]
  resolved := Array.replicate 1451 none
  statics := some 1 }

def pool10 : Array CpInfo := pool [(4, .class_ 6), (1, u "java/lang/Object"), (0, u "<init>"), (0, u "()V"), (5, .class_ 16), (1, u "java/lang/StringLatin1"), (104, u "$assertionsDisabled"), (0, u "Z"), (98, .class_ 223), (1, u "java/lang/StringLatin1$LinesSpliterator"), (57, u "equals"), (0, u "([B[B)Z"), (107, .class_ 391), (0, u "java/lang/StringLatin1$CharsSpliterator")] 3

def k10m0 : Method := { name := "<init>", desc := "()V", sig := { parameters := [], returnType := none }, accessFlags := 0, code := none }
def k10c1 : Code := { maxStack := 3, maxLocals := 3, code := jdk_43_method_13_code, exceptionTable := #[], attributes := #[] }
def k10m1 : Method := { name := "equals", desc := "([B[B)Z", sig := { parameters := [(.array .byte), (.array .byte)], returnType := some .boolean }, accessFlags := 9, code := some k10c1 }
/-- java/lang/StringLatin1 -/
def k10 : Class := { plain "java/lang/StringLatin1" (some 0) with
  accessFlags := 48
  interfaces := #[]
  cf := some (fileOf pool10 14 #[.nestMembers #[390, 221]] #[{ accessFlags := 0, nameIndex := 7, descriptorIndex := 8, attributes := #[] }, { accessFlags := 9, nameIndex := 281, descriptorIndex := 282, attributes := #[] }] 48 4 #[] #[{ accessFlags := 4120, nameIndex := 121, descriptorIndex := 122, attributes := #[] }])
  fields := #[{ name := "$assertionsDisabled", type := .boolean, accessFlags := 4120, slot := 0, constantValue := 0 }]
  methods := #[k10m0, k10m1]
  instanceTypes := #[]
  staticTypes := #[.boolean]
  resolved := Array.replicate 395 none
  statics := none }

def pool11 : Array CpInfo := pool [(2, .class_ 4), (1, u "java/lang/Object"), (0, u "<init>"), (0, u "()V"), (17, .class_ 26), (1, u "jdk/internal/util/Preconditions"), (28, .class_ 56), (0, u "jdk/internal/util/Preconditions$4"), (57, .class_ 115), (0, u "jdk/internal/util/Preconditions$1"), (7, u "SIOOBE_FORMATTER"), (0, u "Ljava/util/function/BiFunction;"), (0, .class_ 126), (0, u "jdk/internal/util/Preconditions$2"), (3, u "AIOOBE_FORMATTER"), (0, .class_ 132), (0, u "jdk/internal/util/Preconditions$3"), (3, u "IOOBE_FORMATTER")] 57

def k11m0 : Method := { name := "<init>", desc := "()V", sig := { parameters := [], returnType := none }, accessFlags := 1, code := none }
/-- jdk/internal/util/Preconditions -/
def k11 : Class := { plain "jdk/internal/util/Preconditions" (some 0) with
  accessFlags := 33
  interfaces := #[]
  cf := some (fileOf pool11 24 #[.nestMembers #[55, 131, 125, 114]] #[{ accessFlags := 1, nameIndex := 5, descriptorIndex := 6, attributes := #[] }] 33 2 #[] #[{ accessFlags := 25, nameIndex := 123, descriptorIndex := 124, attributes := #[] }, { accessFlags := 25, nameIndex := 130, descriptorIndex := 124, attributes := #[] }, { accessFlags := 25, nameIndex := 136, descriptorIndex := 124, attributes := #[] }])
  fields := #[{ name := "SIOOBE_FORMATTER", type := (.object "java/util/function/BiFunction"), accessFlags := 25, slot := 0, constantValue := 0 }, { name := "AIOOBE_FORMATTER", type := (.object "java/util/function/BiFunction"), accessFlags := 25, slot := 1, constantValue := 0 }, { name := "IOOBE_FORMATTER", type := (.object "java/util/function/BiFunction"), accessFlags := 25, slot := 2, constantValue := 0 }]
  methods := #[k11m0]
  instanceTypes := #[]
  staticTypes := #[(.object "java/util/function/BiFunction"), (.object "java/util/function/BiFunction"), (.object "java/util/function/BiFunction")]
  resolved := Array.replicate 194 none
  statics := some 2 }

def pool12 : Array CpInfo := pool [(9, u "<init>"), (6, .class_ 18), (1, u "java/lang/Object"), (0, u "()V"), (1, .class_ 23), (1, u "jdk/internal/util/ArraysSupport"), (0, u "LOG2_ARRAY_LONG_INDEX_SCALE"), (0, u "I"), (2, u "U"), (0, u "Ljdk/internal/misc/Unsafe;"), (8, u "BIG_ENDIAN"), (0, u "Z"), (8, u "LOG2_BYTE_BIT_SIZE"), (4, u "LOG2_ARRAY_INT_INDEX_SCALE"), (54, u "JLA"), (0, u "Ljdk/internal/access/JavaLangAccess;"), (11, u "LOG2_ARRAY_BOOLEAN_INDEX_SCALE"), (9, u "LOG2_ARRAY_BYTE_INDEX_SCALE"), (5, u "LOG2_ARRAY_CHAR_INDEX_SCALE"), (5, u "LOG2_ARRAY_SHORT_INDEX_SCALE"), (18, u "LOG2_ARRAY_FLOAT_INDEX_SCALE"), (24, u "LOG2_ARRAY_DOUBLE_INDEX_SCALE"), (89, u "T_BOOLEAN"), (2, u "T_CHAR"), (1, u "T_FLOAT"), (1, u "T_DOUBLE"), (1, u "T_BYTE"), (1, u "T_SHORT"), (1, u "T_INT"), (1, u "T_LONG"), (1, u "SOFT_MAX_ARRAY_LENGTH")] 83

def k12m0 : Method := { name := "<init>", desc := "()V", sig := { parameters := [], returnType := none }, accessFlags := 2, code := none }
/-- jdk/internal/util/ArraysSupport -/
def k12 : Class := { plain "jdk/internal/util/ArraysSupport" (some 0) with
  accessFlags := 33
  interfaces := #[]
  cf := some (fileOf pool12 21 #[] #[{ accessFlags := 2, nameIndex := 9, descriptorIndex := 19, attributes := #[] }] 33 16 #[] #[{ accessFlags := 24, nameIndex := 28, descriptorIndex := 29, attributes := #[] }, { accessFlags := 26, nameIndex := 38, descriptorIndex := 39, attributes := #[] }, { accessFlags := 25, nameIndex := 121, descriptorIndex := 25, attributes := #[] }, { accessFlags := 25, nameIndex := 131, descriptorIndex := 25, attributes := #[] }, { accessFlags := 25, nameIndex := 137, descriptorIndex := 25, attributes := #[] }, { accessFlags := 25, nameIndex := 143, descriptorIndex := 25, attributes := #[] }, { accessFlags := 25, nameIndex := 53, descriptorIndex := 25, attributes := #[] }, { accessFlags := 25, nameIndex := 24, descriptorIndex := 25, attributes := #[] }, { accessFlags := 25, nameIndex := 162, descriptorIndex := 25, attributes := #[] }, { accessFlags := 25, nameIndex := 187, descriptorIndex := 25, attributes := #[] }, { accessFlags := 26, nameIndex := 48, descriptorIndex := 25, attributes := #[] }, { accessFlags := 25, nameIndex := 277, descriptorIndex := 25, attributes := #[] }, { accessFlags := 25, nameIndex := 280, descriptorIndex := 25, attributes := #[] }, { accessFlags := 25, nameIndex := 282, descriptorIndex := 25, attributes := #[] }, { accessFlags := 25, nameIndex := 284, descriptorIndex := 25, attributes := #[] }, { accessFlags := 25, nameIndex := 286, descriptorIndex := 25, attributes := #[] }, { accessFlags := 25, nameIndex := 288, descriptorIndex := 25, attributes := #[] }, { accessFlags := 25, nameIndex := 290, descriptorIndex := 25, attributes := #[] }, { accessFlags := 25, nameIndex := 292, descriptorIndex := 25, attributes := #[] }, { accessFlags := 26, nameIndex := 108, descriptorIndex := 109, attributes := #[] }, { accessFlags := 25, nameIndex := 294, descriptorIndex := 25, attributes := #[] }])
  fields := #[{ name := "U", type := (.object "jdk/internal/misc/Unsafe"), accessFlags := 24, slot := 0, constantValue := 0 }, { name := "BIG_ENDIAN", type := .boolean, accessFlags := 26, slot := 1, constantValue := 0 }, { name := "LOG2_ARRAY_BOOLEAN_INDEX_SCALE", type := .int, accessFlags := 25, slot := 2, constantValue := 0 }, { name := "LOG2_ARRAY_BYTE_INDEX_SCALE", type := .int, accessFlags := 25, slot := 3, constantValue := 0 }, { name := "LOG2_ARRAY_CHAR_INDEX_SCALE", type := .int, accessFlags := 25, slot := 4, constantValue := 0 }, { name := "LOG2_ARRAY_SHORT_INDEX_SCALE", type := .int, accessFlags := 25, slot := 5, constantValue := 0 }, { name := "LOG2_ARRAY_INT_INDEX_SCALE", type := .int, accessFlags := 25, slot := 6, constantValue := 0 }, { name := "LOG2_ARRAY_LONG_INDEX_SCALE", type := .int, accessFlags := 25, slot := 7, constantValue := 0 }, { name := "LOG2_ARRAY_FLOAT_INDEX_SCALE", type := .int, accessFlags := 25, slot := 8, constantValue := 0 }, { name := "LOG2_ARRAY_DOUBLE_INDEX_SCALE", type := .int, accessFlags := 25, slot := 9, constantValue := 0 }, { name := "LOG2_BYTE_BIT_SIZE", type := .int, accessFlags := 26, slot := 10, constantValue := 0 }, { name := "T_BOOLEAN", type := .int, accessFlags := 25, slot := 11, constantValue := 0 }, { name := "T_CHAR", type := .int, accessFlags := 25, slot := 12, constantValue := 0 }, { name := "T_FLOAT", type := .int, accessFlags := 25, slot := 13, constantValue := 0 }, { name := "T_DOUBLE", type := .int, accessFlags := 25, slot := 14, constantValue := 0 }, { name := "T_BYTE", type := .int, accessFlags := 25, slot := 15, constantValue := 0 }, { name := "T_SHORT", type := .int, accessFlags := 25, slot := 16, constantValue := 0 }, { name := "T_INT", type := .int, accessFlags := 25, slot := 17, constantValue := 0 }, { name := "T_LONG", type := .int, accessFlags := 25, slot := 18, constantValue := 0 }, { name := "JLA", type := (.object "jdk/internal/access/JavaLangAccess"), accessFlags := 26, slot := 19, constantValue := 0 }, { name := "SOFT_MAX_ARRAY_LENGTH", type := .int, accessFlags := 25, slot := 20, constantValue := 0 }]
  methods := #[k12m0]
  instanceTypes := #[]
  staticTypes := #[(.object "jdk/internal/misc/Unsafe"), .boolean, .int, .int, .int, .int, .int, .int, .int, .int, .int, .int, .int, .int, .int, .int, .int, .int, .int, (.object "jdk/internal/access/JavaLangAccess"), .int]
  resolved := Array.replicate 378 none
  statics := none }

def pool13 : Array CpInfo := pool [(1, u "java/lang/Cloneable"), (0, .class_ 1), (0, u "java/lang/Object"), (0, .class_ 3)] 3

/-- java/lang/Cloneable -/
def k13 : Class := { plain "java/lang/Cloneable" (some 0) with
  accessFlags := 1537
  interfaces := #[]
  cf := some (fileOf pool13 2 #[] #[] 1537 4 #[] #[])
  fields := #[]
  methods := #[]
  instanceTypes := #[]
  staticTypes := #[]
  resolved := Array.replicate 8 none
  statics := none }

/-- the primitive byte -/
def k14 : Class := { plain "byte" none with kind := .primitive 'B', accessFlags := 0x411 }
/-- [B -/
def k15 : Class := { plain "[B" (some 0) with kind := .array 14 .byte, interfaces := #[13, 4], accessFlags := 1041 }

/-- the primitive int -/
def k16 : Class := { plain "int" none with kind := .primitive 'I', accessFlags := 0x411 }
/-- [I -/
def k17 : Class := { plain "[I" (some 0) with kind := .array 16 .int, interfaces := #[13, 4], accessFlags := 1041 }

def heap : Heap := #[{ cls := 6, slots := #[.ref 3, .ref 4, .ref 5, .ref 6, .ref 7, .null], vm := .statics 6 },
  { cls := 9, slots := #[.long 0, .int 1, .null, .int 0, .null, .int 0, .int 0], vm := .statics 9 },
  { cls := 11, slots := #[.null, .null, .null], vm := .statics 11 },
  { cls := 6, slots := #[.null, .int 0, .int 0, .null], vm := .none },
  { cls := 6, slots := #[.null, .int 1, .int 0, .null], vm := .none },
  { cls := 6, slots := #[.null, .int 2, .int 0, .null], vm := .none },
  { cls := 6, slots := #[.null, .int 3, .int 0, .null], vm := .none },
  { cls := 6, slots := #[.null, .int 4, .int 0, .null], vm := .none }]
def classes : Array Class := #[k0, k1, k2, k3, k4, k5, k6, k7, k8, k9, k10, k11, k12, k13, k14, k15, k16, k17]
def interned : List (Array UInt16 × Addr) := []
def slotsUsed : Nat := 36
def theMethod : MethodId := ⟨1, 4⟩
def args0 : Array Value := #[.int 5, .int 3]
def aboutOver (below : List Frame) : State where
  vm := { classes := classes, interned := interned.toArray }
  heap := heap
  slotsUsed := slotsUsed
  threads := #[{ frames := .invoking theMethod args0 :: below }]
def below0 : List Frame := [.native { method := ⟨0, 0⟩, args := #[] }]
def about1 : State := aboutOver below0
def p0 : Program := .bare "" "" ""
def e0 : Env := launch0.env 0 0 0
theorem w_frames : about1.frames = Frame.invoking theMethod args0 :: below0 := rfl
set_option maxRecDepth 65536 in
theorem w_args : argsFit about1.vm theMethod args0 = true := by decide +kernel
set_option maxRecDepth 65536 in
theorem w_heap : heapFits about1 = true := by decide +kernel
set_option maxRecDepth 65536 in
theorem w_runnable : about1.curStatus? = some .runnable := by decide +kernel
set_option maxRecDepth 65536 in
theorem w_alone : about1.alone = true := by decide +kernel
set_option maxRecDepth 65536 in
theorem w_named : about1.methodNamed? x = some theMethod := by decide +kernel
set_option maxRecDepth 65536 in
theorem w_hears : about1.hears theMethod below0 = true := by decide +kernel
set_option maxRecDepth 65536 in
theorem w_ripe : about1.ripe theMethod args0 below0 = true := by decide +kernel
theorem w_running : about1.status = .running := rfl
set_option maxRecDepth 65536 in
theorem w_room : about1.hasRoom e0.platform room_1 = true :=
  launch0.hasRoom_least _ room_1 (by decide +kernel) (by decide +kernel) (by decide +kernel) (by decide +kernel) (by decide +kernel) (by decide +kernel)
theorem allAtoms_all (ts : List Jvm.Cond) (a : Array Jvm.Value) (st : Jvm.State) : (allAtoms ts).before a st = ts.all (fun c => c.before a st) := by
  induction ts with
  | nil => rfl
  | cons c t ih =>
    show (Jvm.Cond.and c (allAtoms t)).before a st = _
    rw [Jvm.Cond.before_and, ih, List.all_cons]
def words1 : List Jvm.Cond := Jvm.Cond.code x code maxLocals ret :: tables_1
/-- a 'code' word, met by the world's own term for the bytes: nothing is compared byte by byte -/
theorem code_word {y : MethodName} {bytes : ByteArray} {mx : Nat} {rt : Option FieldType} {a : Array Value} {s : State} {m : MethodId} {meth : Method} {c : Code} (h1 : s.methodNamed? y = some m) (h2 : s.vm.method? m = some meth) (h3 : meth.code = some c) (h4 : c.code = bytes)
    (h5 : (c.maxLocals == mx && c.exceptionTable.isEmpty && decide (c.maxStack ≤ mostOperands) && decide (meth.sig.returnType = rt) && !meth.locks && decide (parseMethodDescriptor y.desc = some meth.sig)) = true) : (Jvm.Cond.code y bytes mx rt).before a s = true := by
  simp only [Bool.and_eq_true, beq_iff_eq, Bool.not_eq_true', decide_eq_true_eq] at h5
  obtain ⟨⟨⟨⟨⟨g1, g2⟩, g3⟩, g4⟩, g5⟩, g6⟩ := h5
  simp [Cond.before, Cond.holds, Cond.value, h1, h2, h3, h4, g1, g2, g3, g4, g5, g6]
def isCode : Jvm.Cond → Bool
  | .code _ _ _ _ => true
  | _ => false
theorem all_split {L : List Jvm.Cond} {P : Jvm.Cond → Bool} (h1 : L.all (fun c => isCode c || P c) = true) (h2 : ∀ c ∈ L.filter isCode, P c = true) : L.all P = true := by
  refine List.all_eq_true.mpr fun c hc => ?_
  have h := List.all_eq_true.mp h1 c hc
  rcases Bool.eq_false_or_eq_true (isCode c) with hi | hi
  · exact h2 c (List.mem_filter.mpr ⟨hc, hi⟩)
  · simpa [hi] using h
set_option maxRecDepth 65536 in
theorem w_c0 : (Jvm.Cond.code x code maxLocals ret).before args0 about1 = true := code_word (m := ⟨1, 4⟩) (meth := k1m4) (c := k1c4) (by decide +kernel) rfl rfl rfl (by decide +kernel)
set_option maxRecDepth 65536 in
theorem w_c1 : (Jvm.Cond.code ({ cls := "com/example/quillet/quillet/jpql/AggregateFunctionArgumentPinLaw", name := "pick", desc := "(I)Lcom/example/quillet/quillet/jpql/AggregateFunction;" } : Jvm.MethodName) method_2_code (2 : Nat) (Option.some (Jvm.ClassFile.FieldType.object "com/example/quillet/quillet/jpql/AggregateFunction"))).before args0 about1 = true := code_word (m := ⟨1, 1⟩) (meth := k1m1) (c := k1c1) (by decide +kernel) rfl rfl rfl (by decide +kernel)
set_option maxRecDepth 65536 in
theorem w_c2 : (Jvm.Cond.code ({ cls := "com/example/quillet/quillet/jpql/AggregateFunction", name := "argument", desc := "()Ljava/lang/String;" } : Jvm.MethodName) prog_1_method_6_code (1 : Nat) (Option.some (Jvm.ClassFile.FieldType.object "java/lang/String"))).before args0 about1 = true := code_word (m := ⟨6, 0⟩) (meth := k6m0) (c := k6c0) (by decide +kernel) rfl rfl rfl (by decide +kernel)
set_option maxRecDepth 65536 in
theorem w_c3 : (Jvm.Cond.code ({ cls := "java/lang/Enum", name := "ordinal", desc := "()I" } : Jvm.MethodName) jdk_37_method_2_code (1 : Nat) (Option.some Jvm.ClassFile.FieldType.int)).before args0 about1 = true := code_word (m := ⟨5, 0⟩) (meth := k5m0) (c := k5c0) (by decide +kernel) rfl rfl rfl (by decide +kernel)
set_option maxRecDepth 65536 in
theorem w_c4 : (Jvm.Cond.code ({ cls := "com/example/quillet/quillet/jpql/AggregateFunctionArgumentPinLaw", name := "group", desc := "(Lcom/example/quillet/quillet/jpql/AggregateFunction;)I" } : Jvm.MethodName) method_3_code (1 : Nat) (Option.some Jvm.ClassFile.FieldType.int)).before args0 about1 = true := code_word (m := ⟨1, 2⟩) (meth := k1m2) (c := k1c2) (by decide +kernel) rfl rfl rfl (by decide +kernel)
set_option maxRecDepth 65536 in
theorem w_c5 : (Jvm.Cond.code ({ cls := "com/example/quillet/quillet/jpql/AggregateFunctionArgumentPinLaw", name := "expected", desc := "(Lcom/example/quillet/quillet/jpql/AggregateFunction;)Ljava/lang/String;" } : Jvm.MethodName) method_4_code (2 : Nat) (Option.some (Jvm.ClassFile.FieldType.object "java/lang/String"))).before args0 about1 = true := code_word (m := ⟨1, 3⟩) (meth := k1m3) (c := k1c3) (by decide +kernel) rfl rfl rfl (by decide +kernel)
set_option maxRecDepth 65536 in
theorem w_c6 : (Jvm.Cond.code ({ cls := "java/lang/String", name := "equals", desc := "(Ljava/lang/Object;)Z" } : Jvm.MethodName) jdk_42_method_66_code (3 : Nat) (Option.some Jvm.ClassFile.FieldType.boolean)).before args0 about1 = true := code_word (m := ⟨9, 1⟩) (meth := k9m1) (c := k9c1) (by decide +kernel) rfl rfl rfl (by decide +kernel)
set_option maxRecDepth 65536 in
theorem w_c7 : (Jvm.Cond.code ({ cls := "java/lang/StringLatin1", name := "equals", desc := "([B[B)Z" } : Jvm.MethodName) jdk_43_method_13_code (3 : Nat) (Option.some Jvm.ClassFile.FieldType.boolean)).before args0 about1 = true := code_word (m := ⟨10, 1⟩) (meth := k10m1) (c := k10c1) (by decide +kernel) rfl rfl rfl (by decide +kernel)
def codes1 : List Jvm.Cond := [Jvm.Cond.code x code maxLocals ret, Jvm.Cond.code ({ cls := "com/example/quillet/quillet/jpql/AggregateFunctionArgumentPinLaw", name := "pick", desc := "(I)Lcom/example/quillet/quillet/jpql/AggregateFunction;" } : Jvm.MethodName) method_2_code (2 : Nat) (Option.some (Jvm.ClassFile.FieldType.object "com/example/quillet/quillet/jpql/AggregateFunction")), Jvm.Cond.code ({ cls := "com/example/quillet/quillet/jpql/AggregateFunction", name := "argument", desc := "()Ljava/lang/String;" } : Jvm.MethodName) prog_1_method_6_code (1 : Nat) (Option.some (Jvm.ClassFile.FieldType.object "java/lang/String")), Jvm.Cond.code ({ cls := "java/lang/Enum", name := "ordinal", desc := "()I" } : Jvm.MethodName) jdk_37_method_2_code (1 : Nat) (Option.some Jvm.ClassFile.FieldType.int), Jvm.Cond.code ({ cls := "com/example/quillet/quillet/jpql/AggregateFunctionArgumentPinLaw", name := "group", desc := "(Lcom/example/quillet/quillet/jpql/AggregateFunction;)I" } : Jvm.MethodName) method_3_code (1 : Nat) (Option.some Jvm.ClassFile.FieldType.int), Jvm.Cond.code ({ cls := "com/example/quillet/quillet/jpql/AggregateFunctionArgumentPinLaw", name := "expected", desc := "(Lcom/example/quillet/quillet/jpql/AggregateFunction;)Ljava/lang/String;" } : Jvm.MethodName) method_4_code (2 : Nat) (Option.some (Jvm.ClassFile.FieldType.object "java/lang/String")), Jvm.Cond.code ({ cls := "java/lang/String", name := "equals", desc := "(Ljava/lang/Object;)Z" } : Jvm.MethodName) jdk_42_method_66_code (3 : Nat) (Option.some Jvm.ClassFile.FieldType.boolean), Jvm.Cond.code ({ cls := "java/lang/StringLatin1", name := "equals", desc := "([B[B)Z" } : Jvm.MethodName) jdk_43_method_13_code (3 : Nat) (Option.some Jvm.ClassFile.FieldType.boolean)]
set_option maxRecDepth 65536 in
theorem codes_eq : words1.filter isCode = codes1 := rfl
theorem w_codes : ∀ c ∈ words1.filter isCode, c.before args0 about1 = true := by
  rw [codes_eq]
  intro c hc
  simp only [codes1, List.mem_cons, List.not_mem_nil, or_false] at hc
  rcases hc with rfl | rfl | rfl | rfl | rfl | rfl | rfl | rfl
  · exact w_c0
  · exact w_c1
  · exact w_c2
  · exact w_c3
  · exact w_c4
  · exact w_c5
  · exact w_c6
  · exact w_c7
set_option maxRecDepth 65536 in
theorem w_t1 : (words1.take 24).all (fun c => isCode c || c.before args0 about1) = true := by decide +kernel
set_option maxRecDepth 65536 in
theorem w_t2 : ((words1.drop 24).take 24).all (fun c => isCode c || c.before args0 about1) = true := by decide +kernel
set_option maxRecDepth 65536 in
theorem w_t3 : ((words1.drop 24).drop 24).all (fun c => isCode c || c.before args0 about1) = true := by decide +kernel
theorem w_tables : (allAtoms (Jvm.Cond.code x code maxLocals ret :: tables_1)).before args0 about1 = true := by
  rw [allAtoms_all]
  show words1.all (fun c => c.before args0 about1) = true
  refine all_split ?_ w_codes
  rw [← List.take_append_drop 24 words1, List.all_append, w_t1, ← List.take_append_drop 24 (words1.drop 24), List.all_append, w_t2, w_t3]
  rfl
set_option maxRecDepth 65536 in
theorem w_rest : rest_1_c.before args0 about1 = true := by decide +kernel
set_option maxRecDepth 65536 in
theorem w_case : (Jvm.Cond.and given_1 narrow_1).before args0 about1 = true := by decide +kernel
set_option maxRecDepth 65536 in
theorem w_consts : constsHeld consts_1 about1 := Jvm.Lit.constsHeldB_iff.mp (by decide +kernel)
theorem w_applies : (headSpec (Jvm.Cond.code x code maxLocals ret :: tables_1) room_1).applies x e0.platform about1 = true :=
  (Spec.applies_iff w_frames).mpr ⟨w_running, w_runnable, w_alone, w_named, w_hears, w_ripe, w_room, w_tables⟩
theorem atStart : AtStart classFile x code maxLocals ret World_1 tables_1 room_1 Calls_1 rest_1 Pre_1 launch0 p0 e0 about1 theMethod args0 below0 :=
  ⟨lists_1, trivial, launch0.admits_env _ _ _, launch0.least_env, fairChoices_fair.cas, fairChoices_fair.clock, w_frames, w_args, w_heap, w_applies, ⟨w_consts, trivial⟩, w_rest, w_case⟩
end start1
theorem witness_1 : WitnessClaimed_1 := ⟨start1.p0, start1.e0, start1.about1, start1.theMethod, start1.args0, start1.below0, start1.atStart⟩
end Jvm.Pilot.@@N@@
