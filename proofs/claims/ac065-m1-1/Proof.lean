import JvmDerived
import JvmDerived.Pilot.@@N@@Statement
import JvmDerived.Pilot.@@N@@Code
set_option linter.unusedVariables false
set_option linter.unusedSimpArgs false
namespace Jvm.RoadKit
open Sem ClassFile Op Lib Jvm.Stand Jvm.Free Jvm.LawKit
section New
variable {p : Program} {l : Launch} {e : Env} {R : Room} {s : State} {m : MethodId} {args : Array Value} {below : List Frame} {meth : Method} {c : Code} {T : State} {locs : List Loc} {cells slots : Nat}
theorem retI (X : Stand p l e R s m args below meth c T locs cells slots) (hx : p.tables.exec = Jvm.exec) {pc : Nat} {Ls : Array Slot} {z : Int32} {rest : List Value} (hret : meth.sig.returnType = some .int) (hd : decode c.code pc = .ok (.ireturn, 1)) {fs : List Frame}
    (hl : ∀ (f : JFrame) (acts : List Action), f.method = m → f.locked = none → f.entered = [] → (doReturn e (T.setTop f) acts (some (.int z))).1 = T.setFrames fs) : Steps p.tables e below (T.setTop (mkF m pc Ls (.int z :: rest))) (T.setFrames fs) := by
  have hm' : T.vm.method? m = some meth := X.method'
  have hn : narrow .int (.int z) = .int z := rfl
  show Steps p.tables e below (T.setTop { method := m, pc := pc, locals := Ls, stack := _ :: rest, locked := none }) _
  jvm_step X.here [X.here.top, hx, hd, hm', hret, hn]
  first | (intro acts; rw [hl _ acts rfl rfl rfl]) | rw [hl _ _ rfl rfl rfl]
  exact Steps.refl _
end New
end Jvm.RoadKit
namespace Jvm.Pilot.@@N@@
open Jvm Jvm.ClassFile Sem Op Lib Jvm.Free Jvm.Stand Jvm.LawKit Jvm.RoadKit Bundle Jvm.Pilot.@@N@@.Jvm.D

/-! numbers -/
theorem own_mul {x y : Int32} {a b c : Int} (hx : x.toInt = a) (hy : y.toInt = b) (hc : a * b = c) (h1 : 0 ≤ c) (h2 : c < 2147483648) : (x * y).toInt = c := by
  have h3 := c_imul x y
  have h4 := rng32 (x * y)
  rw [hx, hy, hc] at h3
  omega
theorem own_add {x y : Int32} {a b : Int} (hx : x.toInt = a) (hy : y.toInt = b) (h1 : -2147483648 ≤ a + b) (h2 : a + b < 2147483648) : (x + y).toInt = a + b := by
  have h3 := c_iadd x y
  have h4 := rng32 (x + y)
  rw [hx, hy] at h3
  omega
theorem own_sub {x y : Int32} {a b : Int} (hx : x.toInt = a) (hy : y.toInt = b) (h1 : -2147483648 ≤ a - b) (h2 : a - b < 2147483648) : (x - y).toInt = a - b := by
  have h3 := c_isub x y
  have h4 := rng32 (x - y)
  rw [hx, hy] at h3
  omega
def own_q2 (r h : Int32) : Int32 := if r < h then 0 else 2
def own_q1 (r h : Int32) : Int32 := if r < h then 0 else 1
theorem own_q2_at {r h : Int32} {a b : Int} (hr : r.toInt = a) (hh : h.toInt = b) : (own_q2 r h).toInt = if a < b then 0 else 2 := by
  unfold own_q2
  subst hr hh
  by_cases q : r < h
  · rw [if_pos q, if_pos (Int32.lt_iff_toInt_lt.mp q)]; decide
  · rw [if_neg q, if_neg (fun z => q (Int32.lt_iff_toInt_lt.mpr z))]; decide
theorem own_q1_at {r h : Int32} {a b : Int} (hr : r.toInt = a) (hh : h.toInt = b) : (own_q1 r h).toInt = if a < b then 0 else 1 := by
  unfold own_q1
  subst hr hh
  by_cases q : r < h
  · rw [if_pos q, if_pos (Int32.lt_iff_toInt_lt.mp q)]; decide
  · rw [if_neg q, if_neg (fun z => q (Int32.lt_iff_toInt_lt.mpr z))]; decide
def own_qd (r c H : Int) : Int := (if r < H then 0 else 2) + (if c < H then 0 else 1)
theorem own_qd_rng (r c H : Int) : 0 ≤ own_qd r c H ∧ own_qd r c H ≤ 3 := by unfold own_qd; split <;> split <;> omega
def own_ix : Nat → Int → Int → Int → Int
  | 0, S, r, c => r * S + c
  | t + 1, S, r, c => own_qd r c (S / 2) * ((S / 2) * (S / 2)) + own_ix t (S / 2) (r % (S / 2)) (c % (S / 2))
def own_good : Nat → Int → Prop
  | 0, S => 1 ≤ S ∧ S ≤ 64
  | t + 1, S => 64 < S ∧ S % 2 = 0 ∧ own_good t (S / 2)
theorem own_qmul (q P : Int) (h0 : 0 ≤ q) (h3 : q ≤ 3) (hP : 0 ≤ P) : 0 ≤ q * P ∧ q * P ≤ 3 * P := ⟨Int.mul_nonneg h0 hP, Int.mul_le_mul_of_nonneg_right h3 hP⟩
theorem own_sq {S H : Int} (h : S = 2 * H) : S * S = 4 * (H * H) := by subst h; rw [show (2 * H) * (2 * H) = (2 * 2) * (H * H) from by rw [Int.mul_assoc, Int.mul_left_comm H 2 H, ← Int.mul_assoc]]; omega
theorem own_ix_rng : ∀ (t : Nat) (S r c : Int), own_good t S → 0 ≤ r → r < S → 0 ≤ c → c < S → 0 ≤ own_ix t S r c ∧ own_ix t S r c < S * S := by
  intro t
  induction t with
  | zero =>
    intro S r c hg h1 h2 h3 h4
    show 0 ≤ r * S + c ∧ r * S + c < S * S
    have h5 : 0 ≤ r * S := Int.mul_nonneg h1 (by omega)
    have h6 : r * S ≤ (S - 1) * S := Int.mul_le_mul_of_nonneg_right (by omega) (by omega)
    rw [Int.sub_mul, Int.one_mul] at h6
    omega
  | succ t ih =>
    intro S r c hg h1 h2 h3 h4
    obtain ⟨g1, g2, g3⟩ := hg
    show 0 ≤ own_qd r c (S / 2) * ((S / 2) * (S / 2)) + own_ix t (S / 2) (r % (S / 2)) (c % (S / 2)) ∧ own_qd r c (S / 2) * ((S / 2) * (S / 2)) + own_ix t (S / 2) (r % (S / 2)) (c % (S / 2)) < S * S
    obtain ⟨H, hH⟩ : ∃ H, H = S / 2 := ⟨_, rfl⟩
    rw [← hH] at g3 ⊢
    have hS : S = 2 * H := by omega
    have hH0 : 0 < H := by omega
    have i1 := ih H (r % H) (c % H) g3 (Int.emod_nonneg _ (by omega)) (Int.emod_lt_of_pos _ hH0) (Int.emod_nonneg _ (by omega)) (Int.emod_lt_of_pos _ hH0)
    have h5 := own_sq hS
    have h6 : 0 ≤ H * H := Int.mul_nonneg (by omega) (by omega)
    have h7 := own_qd_rng r c H
    have h8 := own_qmul (own_qd r c H) (H * H) h7.1 h7.2 h6
    show 0 ≤ own_qd r c H * (H * H) + own_ix t H (r % H) (c % H) ∧ own_qd r c H * (H * H) + own_ix t H (r % H) (c % H) < S * S
    omega
theorem own_sqle {S : Int} (h0 : 0 ≤ S) (h : S ≤ 32768) : 0 ≤ S * S ∧ S * S ≤ 1073741824 := by
  have h1 : S * S ≤ 32768 * 32768 := Int.mul_le_mul h h h0 (by omega)
  exact ⟨Int.mul_nonneg h0 h0, by omega⟩
theorem own_good_pos : ∀ (t : Nat) (S : Int), own_good t S → 1 ≤ S := by
  intro t S h
  cases t with
  | zero => exact h.1
  | succ t => have := h.1; omega
theorem own_ofInt {z : Int} (h1 : -2147483648 ≤ z) (h2 : z < 2147483648) : (Int32.ofInt z).toInt = z := Int32.toInt_ofInt_of_le (by omega) (by omega)
theorem own_store7 {z0 z1 z2 z3 z4 z5 z6 : Value} {s7 s8 : Slot} {v : Int32} (h : One s7) : storeLocals #[.val z0, .val z1, .val z2, .val z3, .val z4, .val z5, .val z6, s7, s8] 7 (.int v) = some #[.val z0, .val z1, .val z2, .val z3, .val z4, .val z5, .val z6, .val (.int v), s8] := by
  rcases h with rfl | ⟨w, rfl, hw⟩
  · rfl
  · cases w <;> first | rfl | (simp [Value.category] at hw)
theorem own_store8 {z0 z1 z2 z3 z4 z5 z6 z7 : Value} {s8 : Slot} {v : Int32} (h : One s8) : storeLocals #[.val z0, .val z1, .val z2, .val z3, .val z4, .val z5, .val z6, .val z7, s8] 8 (.int v) = some #[.val z0, .val z1, .val z2, .val z3, .val z4, .val z5, .val z6, .val z7, .val (.int v)] := by
  rcases h with rfl | ⟨w, rfl, hw⟩
  · rfl
  · cases w <;> first | rfl | (simp [Value.category] at hw)
/-- one turn's numbers -/
theorem own_turn {t : Nat} {off row col size : Int32} (hg : own_good (t + 1) size.toInt) (hs : size.toInt ≤ 32768) (r0 : 0 ≤ row.toInt) (r1 : row.toInt < size.toInt) (c0 : 0 ≤ col.toInt) (c1 : col.toInt < size.toInt) (o0 : 0 ≤ off.toInt) (o1 : off.toInt + size.toInt * size.toInt ≤ 1073741824) :
    ¬ (size / (2 : Int32)) = 0 ∧ own_good t (size / (2 : Int32)).toInt ∧ (size / (2 : Int32)).toInt ≤ 32768 ∧ 0 ≤ (row % (size / (2 : Int32))).toInt ∧ (row % (size / (2 : Int32))).toInt < (size / (2 : Int32)).toInt ∧ 0 ≤ (col % (size / (2 : Int32))).toInt ∧ (col % (size / (2 : Int32))).toInt < (size / (2 : Int32)).toInt ∧
    0 ≤ (off + (((own_q2 row (size / (2 : Int32)) + own_q1 col (size / (2 : Int32))) * (size / (2 : Int32))) * (size / (2 : Int32)))).toInt ∧
    (off + (((own_q2 row (size / (2 : Int32)) + own_q1 col (size / (2 : Int32))) * (size / (2 : Int32))) * (size / (2 : Int32)))).toInt + (size / (2 : Int32)).toInt * (size / (2 : Int32)).toInt ≤ 1073741824 ∧
    (off + (((own_q2 row (size / (2 : Int32)) + own_q1 col (size / (2 : Int32))) * (size / (2 : Int32))) * (size / (2 : Int32)))).toInt + own_ix t (size / (2 : Int32)).toInt (row % (size / (2 : Int32))).toInt (col % (size / (2 : Int32))).toInt = off.toInt + own_ix (t + 1) size.toInt row.toInt col.toInt := by
  obtain ⟨g1, g2, g3⟩ := hg
  obtain ⟨H, hH⟩ : ∃ H, H = size.toInt / 2 := ⟨_, rfl⟩
  have hS : size.toInt = 2 * H := by omega
  have hd : (size / (2 : Int32)).toInt = H := by rw [(c_idiv size 2 2 (by decide) (by decide)).1 (by omega)]; exact hH.symm
  have hr : (row % (size / (2 : Int32))).toInt = row.toInt % H := (c_irem row _ H hd).1 r0
  have hc : (col % (size / (2 : Int32))).toInt = col.toInt % H := (c_irem col _ H hd).1 c0
  have hsq := own_sq hS
  have hHH : 0 ≤ H * H := Int.mul_nonneg (by omega) (by omega)
  have q2 := own_q2_at (rfl : row.toInt = row.toInt) hd
  have q1 := own_q1_at (rfl : col.toInt = col.toInt) hd
  have hq := own_qd_rng row.toInt col.toInt H
  have qa : (own_q2 row (size / (2 : Int32)) + own_q1 col (size / (2 : Int32))).toInt = own_qd row.toInt col.toInt H := own_add q2 q1 (by unfold own_qd at hq; omega) (by unfold own_qd at hq; omega)
  have hb := own_qmul _ H hq.1 hq.2 (by omega)
  have hb2 := own_qmul _ (H * H) hq.1 hq.2 hHH
  have m1 := own_mul qa hd rfl hb.1 (by omega)
  have m2 := own_mul m1 hd (c := own_qd row.toInt col.toInt H * (H * H)) (by rw [Int.mul_assoc]) hb2.1 (by omega)
  have a1 := own_add (x := off) rfl m2 (by omega) (by omega)
  rw [a1, hd, hr, hc]
  refine ⟨fun z => ?_, ?_, by omega, Int.emod_nonneg _ (by omega), Int.emod_lt_of_pos _ (by omega), Int.emod_nonneg _ (by omega), Int.emod_lt_of_pos _ (by omega), by omega, by omega, ?_⟩
  · have : (0 : Int32).toInt = 0 := by decide
    rw [z, this] at hd; omega
  · rw [hH]; exact g3
  · show _ = off.toInt + (own_qd row.toInt col.toInt (size.toInt / 2) * ((size.toInt / 2) * (size.toInt / 2)) + own_ix t (size.toInt / 2) (row.toInt % (size.toInt / 2)) (col.toInt % (size.toInt / 2)))
    rw [← hH]; omega
/-- the end's numbers -/
theorem own_end {off row col size : Int32} (hg : own_good 0 size.toInt) (r0 : 0 ≤ row.toInt) (r1 : row.toInt < size.toInt) (c0 : 0 ≤ col.toInt) (c1 : col.toInt < size.toInt) (o0 : 0 ≤ off.toInt) (o1 : off.toInt + size.toInt * size.toInt ≤ 1073741824) :
    ((off + (row * size)) + col).toInt = off.toInt + own_ix 0 size.toInt row.toInt col.toInt := by
  have h := own_ix_rng 0 _ _ _ hg r0 r1 c0 c1
  have h' : own_ix 0 size.toInt row.toInt col.toInt = row.toInt * size.toInt + col.toInt := rfl
  have h0 : 0 ≤ row.toInt * size.toInt := Int.mul_nonneg r0 (by omega)
  have m1 := own_mul (x := row) (y := size) rfl rfl rfl h0 (by omega)
  have a1 := own_add (x := off) rfl m1 (by omega) (by omega)
  rw [own_add a1 rfl (by omega) (by omega)]
  omega
theorem d1_0 : decode prog_95_method_2_code 0 = .ok (.iconst 0, 1) := by decide +kernel
theorem d1_1 : decode prog_95_method_2_code 1 = .ok (.istore_n 3, 1) := by decide +kernel
theorem d1_2 : decode prog_95_method_2_code 2 = .ok (.iload_n 1, 1) := by decide +kernel
theorem d1_3 : decode prog_95_method_2_code 3 = .ok (.istore 4, 2) := by decide +kernel
theorem d1_5 : decode prog_95_method_2_code 5 = .ok (.iload_n 2, 1) := by decide +kernel
theorem d1_6 : decode prog_95_method_2_code 6 = .ok (.istore 5, 2) := by decide +kernel
theorem d1_8 : decode prog_95_method_2_code 8 = .ok (.iload_n 0, 1) := by decide +kernel
theorem d1_9 : decode prog_95_method_2_code 9 = .ok (.istore 6, 2) := by decide +kernel
theorem d1_11 : decode prog_95_method_2_code 11 = .ok (.iload 6, 2) := by decide +kernel
theorem d1_13 : decode prog_95_method_2_code 13 = .ok (.bipush 64, 2) := by decide +kernel
theorem d1_15 : decode prog_95_method_2_code 15 = .ok (.if_icmp .le 70, 3) := by decide +kernel
theorem d1_18 : decode prog_95_method_2_code 18 = .ok (.iload 6, 2) := by decide +kernel
theorem d1_20 : decode prog_95_method_2_code 20 = .ok (.iconst 2, 1) := by decide +kernel
theorem d1_21 : decode prog_95_method_2_code 21 = .ok (.idiv, 1) := by decide +kernel
theorem d1_22 : decode prog_95_method_2_code 22 = .ok (.istore 7, 2) := by decide +kernel
theorem d1_24 : decode prog_95_method_2_code 24 = .ok (.iload 4, 2) := by decide +kernel
theorem d1_26 : decode prog_95_method_2_code 26 = .ok (.iload 7, 2) := by decide +kernel
theorem d1_28 : decode prog_95_method_2_code 28 = .ok (.if_icmp .ge 7, 3) := by decide +kernel
theorem d1_31 : decode prog_95_method_2_code 31 = .ok (.iconst 0, 1) := by decide +kernel
theorem d1_32 : decode prog_95_method_2_code 32 = .ok (.goto 4, 3) := by decide +kernel
theorem d1_35 : decode prog_95_method_2_code 35 = .ok (.iconst 2, 1) := by decide +kernel
theorem d1_36 : decode prog_95_method_2_code 36 = .ok (.iload 5, 2) := by decide +kernel
theorem d1_38 : decode prog_95_method_2_code 38 = .ok (.iload 7, 2) := by decide +kernel
theorem d1_40 : decode prog_95_method_2_code 40 = .ok (.if_icmp .ge 7, 3) := by decide +kernel
theorem d1_43 : decode prog_95_method_2_code 43 = .ok (.iconst 0, 1) := by decide +kernel
theorem d1_44 : decode prog_95_method_2_code 44 = .ok (.goto 4, 3) := by decide +kernel
theorem d1_47 : decode prog_95_method_2_code 47 = .ok (.iconst 1, 1) := by decide +kernel
theorem d1_48 : decode prog_95_method_2_code 48 = .ok (.iadd, 1) := by decide +kernel
theorem d1_49 : decode prog_95_method_2_code 49 = .ok (.istore 8, 2) := by decide +kernel
theorem d1_51 : decode prog_95_method_2_code 51 = .ok (.iload_n 3, 1) := by decide +kernel
theorem d1_52 : decode prog_95_method_2_code 52 = .ok (.iload 8, 2) := by decide +kernel
theorem d1_54 : decode prog_95_method_2_code 54 = .ok (.iload 7, 2) := by decide +kernel
theorem d1_56 : decode prog_95_method_2_code 56 = .ok (.imul, 1) := by decide +kernel
theorem d1_57 : decode prog_95_method_2_code 57 = .ok (.iload 7, 2) := by decide +kernel
theorem d1_59 : decode prog_95_method_2_code 59 = .ok (.imul, 1) := by decide +kernel
theorem d1_60 : decode prog_95_method_2_code 60 = .ok (.iadd, 1) := by decide +kernel
theorem d1_61 : decode prog_95_method_2_code 61 = .ok (.istore_n 3, 1) := by decide +kernel
theorem d1_62 : decode prog_95_method_2_code 62 = .ok (.iload 4, 2) := by decide +kernel
theorem d1_64 : decode prog_95_method_2_code 64 = .ok (.iload 7, 2) := by decide +kernel
theorem d1_66 : decode prog_95_method_2_code 66 = .ok (.irem, 1) := by decide +kernel
theorem d1_67 : decode prog_95_method_2_code 67 = .ok (.istore 4, 2) := by decide +kernel
theorem d1_69 : decode prog_95_method_2_code 69 = .ok (.iload 5, 2) := by decide +kernel
theorem d1_71 : decode prog_95_method_2_code 71 = .ok (.iload 7, 2) := by decide +kernel
theorem d1_73 : decode prog_95_method_2_code 73 = .ok (.irem, 1) := by decide +kernel
theorem d1_74 : decode prog_95_method_2_code 74 = .ok (.istore 5, 2) := by decide +kernel
theorem d1_76 : decode prog_95_method_2_code 76 = .ok (.iload 6, 2) := by decide +kernel
theorem d1_78 : decode prog_95_method_2_code 78 = .ok (.iconst 2, 1) := by decide +kernel
theorem d1_79 : decode prog_95_method_2_code 79 = .ok (.idiv, 1) := by decide +kernel
theorem d1_80 : decode prog_95_method_2_code 80 = .ok (.istore 6, 2) := by decide +kernel
theorem d1_82 : decode prog_95_method_2_code 82 = .ok (.goto (-71), 3) := by decide +kernel
theorem d1_85 : decode prog_95_method_2_code 85 = .ok (.iload_n 3, 1) := by decide +kernel
theorem d1_86 : decode prog_95_method_2_code 86 = .ok (.iload 4, 2) := by decide +kernel
theorem d1_88 : decode prog_95_method_2_code 88 = .ok (.iload 6, 2) := by decide +kernel
theorem d1_90 : decode prog_95_method_2_code 90 = .ok (.imul, 1) := by decide +kernel
theorem d1_91 : decode prog_95_method_2_code 91 = .ok (.iadd, 1) := by decide +kernel
theorem d1_92 : decode prog_95_method_2_code 92 = .ok (.iload 5, 2) := by decide +kernel
theorem d1_94 : decode prog_95_method_2_code 94 = .ok (.iadd, 1) := by decide +kernel
theorem d1_95 : decode prog_95_method_2_code 95 = .ok (.ireturn, 1) := by decide +kernel
theorem pn_1 : plainName "com/example/cleave/cleave/tool/QuadrantOrder" = true := by first | (simp [plainName, overriddenIn]; done) | decide +kernel
theorem ef_1 (m : MethodId) (x0 : Int32) (x1 : Int32) (x2 : Int32) : entryFrame m #[(.int x0), (.int x1), (.int x2)] 9 = mkF m 0 #[.val (.int x0), .val (.int x1), .val (.int x2), .unset, .unset, .unset, .unset, .unset, .unset] [] := by first | (simp [entryFrame, mkF, argsToLocals, Value.category]; done) | rfl
def Q1 (Z : State) (t : Nat) (p1 : Int32) (p2 : Int32) (p3 : Int32) (h0 : Heap) (n0 : Nat) (v : Option Value) (h : Heap) (L : List Loc) : Prop := v = some (.int (Int32.ofInt (own_ix t p1.toInt p2.toInt p3.toInt))) ∧ Fr n0 L ∧ h = h0
set_option maxRecDepth 65536 in
set_option maxHeartbeats 40000000 in
theorem rm1 (l : Launch) (Z : State) (a0 : Array Value) (hw : ∀ d ∈ tables_1, d.before a0 Z = true) (ws : List Jvm.Cond) (t : Nat) (p1 : Int32) (p2 : Int32) (p3 : Int32) (h0 : Heap) (n0 : Nat) (Z0 : n0 ≤ h0.size) (hg : own_good t p1.toInt) (hs : p1.toInt ≤ 32768) (r0 : 0 ≤ p2.toInt) (r1 : p2.toInt < p1.toInt) (c0 : 0 ≤ p3.toInt) (c1 : p3.toInt < p1.toInt) :
    MetFree l (⟨"com/example/cleave/cleave/tool/QuadrantOrder", "index", "(III)I"⟩ : MethodName) (head1 (Jvm.Cond.code (⟨"com/example/cleave/cleave/tool/QuadrantOrder", "index", "(III)I"⟩ : MethodName) prog_95_method_2_code 9 (some .int) :: ws) ({ frames := 0, cells := 0, slots := 0, locals := 0 } : Room)) (fun a U => a = #[(.int p1), (.int p2), (.int p3)] ∧ Z.Warmed39 U.vm ∧ U.heap = h0) (fun _ _ _ _ _ => True) (fun _ U ou U' => ∃ v L, ou = .returned v ∧ Q1 Z t p1 p2 p3 h0 n0 v U'.heap L ∧ FrameEnd U ou U' L ({ frames := 0, cells := 0, slots := 0, locals := 0 } : Room).cells ({ frames := 0, cells := 0, slots := 0, locals := 0 } : Room).slots) := by
  refine MetFree.of_bodySF (plainFor_of_name pn_1) hisR ?_
  intro p e s m args below meth c s₁ Bd hml0 hP hK
  obtain ⟨rfl, hZ, hh⟩ := hP
  have hx := Bd.exec
  have hby := Bd.bytes
  have hml : c.maxLocals = 9 := hml0
  have hown : s.vm.findClass "com/example/cleave/cleave/tool/QuadrantOrder" = some m.cls := findClass_of_methodNamed Bd.named
  have hnm := (name_of_methodNamed Bd.named Bd.method).1
  have X0 : Stand p l e ({ frames := 0, cells := 0, slots := 0, locals := 0 } : Room) s m #[(.int p1), (.int p2), (.int p3)] below meth c s₁ [] 0 0 := Stand.of_body Bd
  have e0 : s₁.heap = h0 := by rw [← hh, Bd.state]; rfl
  have N0 := Fr.nil n0
  have pre0 : ∀ t, Steps p.tables e below (s₁.setTop (mkF m 0 #[.val (.int p1), .val (.int p2), .val (.int p3), .unset, .unset, .unset, .unset, .unset, .unset] [])) t → Steps p.tables e below (s₁.setTop (entryFrame m #[(.int p1), (.int p2), (.int p3)] 9)) t := fun t k => castTop (ef_1 m (p1) (p2) (p3)) k
  have loop : ∀ (t : Nat) (off row col size : Int32) (s7 s8 : Slot), One s7 → One s8 → own_good t size.toInt → size.toInt ≤ 32768 → 0 ≤ row.toInt → row.toInt < size.toInt → 0 ≤ col.toInt → col.toInt < size.toInt → 0 ≤ off.toInt → off.toInt + size.toInt * size.toInt ≤ 1073741824 →
      ∃ (Ls : Array Slot) (res : Int32), res.toInt = off.toInt + own_ix t size.toInt row.toInt col.toInt ∧ ∀ tt, Steps p.tables e below (s₁.setTop (mkF m 95 Ls [.int res])) tt → Steps p.tables e below (s₁.setTop (mkF m 11 #[.val (.int p1), .val (.int p2), .val (.int p3), .val (.int off), .val (.int row), .val (.int col), .val (.int size), s7, s8] [])) tt := by
    intro t
    induction t with
    | zero =>
      intro off row col size s7 s8 h7 h8 hg hs r0 r1 c0 c1 o0 o1
      have hle : ¬ (64 : Int32) < size := by rw [Int32.lt_iff_toInt_lt]; have := hg.2; have e64 : (64 : Int32).toInt = 64 := by decide
                                             omega
      refine ⟨#[.val (.int p1), .val (.int p2), .val (.int p3), .val (.int off), .val (.int row), .val (.int col), .val (.int size), s7, s8], _, own_end hg r0 r1 c0 c1 o0 o1, fun tt kt => ?_⟩
      show Steps p.tables e below (s₁.setTop (mkF m 11 #[.val (.int p1), .val (.int p2), .val (.int p3), .val (.int off), .val (.int row), .val (.int col), .val (.int size), s7, s8] [])) _
      refine XS.iload X0.here hx rfl (hb hby d1_11) rfl ?_
      show Steps p.tables e below (s₁.setTop (mkF m 13 #[.val (.int p1), .val (.int p2), .val (.int p3), .val (.int off), .val (.int row), .val (.int col), .val (.int size), s7, s8] [(.int size)])) _
      refine XS.bipush X0.here hx rfl (hb hby d1_13) ?_
      show Steps p.tables e below (s₁.setTop (mkF m 15 #[.val (.int p1), .val (.int p2), .val (.int p3), .val (.int off), .val (.int row), .val (.int col), .val (.int size), s7, s8] [(.int (64 : Int32)), (.int size)])) _
      refine XS.icmpYes X0.here hx rfl (pc0 := 15) (pc' := 85) rfl (hb hby d1_15) rfl (flt hle).2.2.2 (by decide) (by decide) ?_
      show Steps p.tables e below (s₁.setTop (mkF m 85 #[.val (.int p1), .val (.int p2), .val (.int p3), .val (.int off), .val (.int row), .val (.int col), .val (.int size), s7, s8] [])) _
      refine XS.iloadN X0.here hx rfl (hb hby d1_85) rfl ?_
      show Steps p.tables e below (s₁.setTop (mkF m 86 #[.val (.int p1), .val (.int p2), .val (.int p3), .val (.int off), .val (.int row), .val (.int col), .val (.int size), s7, s8] [(.int off)])) _
      refine XS.iload X0.here hx rfl (hb hby d1_86) rfl ?_
      show Steps p.tables e below (s₁.setTop (mkF m 88 #[.val (.int p1), .val (.int p2), .val (.int p3), .val (.int off), .val (.int row), .val (.int col), .val (.int size), s7, s8] [(.int row), (.int off)])) _
      refine XS.iload X0.here hx rfl (hb hby d1_88) rfl ?_
      show Steps p.tables e below (s₁.setTop (mkF m 90 #[.val (.int p1), .val (.int p2), .val (.int p3), .val (.int off), .val (.int row), .val (.int col), .val (.int size), s7, s8] [(.int size), (.int row), (.int off)])) _
      refine XS.imul X0.here hx rfl (hb hby d1_90) rfl ?_
      show Steps p.tables e below (s₁.setTop (mkF m 91 #[.val (.int p1), .val (.int p2), .val (.int p3), .val (.int off), .val (.int row), .val (.int col), .val (.int size), s7, s8] [(.int (row * size)), (.int off)])) _
      refine XS.iadd X0.here hx rfl (hb hby d1_91) rfl ?_
      show Steps p.tables e below (s₁.setTop (mkF m 92 #[.val (.int p1), .val (.int p2), .val (.int p3), .val (.int off), .val (.int row), .val (.int col), .val (.int size), s7, s8] [(.int (off + (row * size)))])) _
      refine XS.iload X0.here hx rfl (hb hby d1_92) rfl ?_
      show Steps p.tables e below (s₁.setTop (mkF m 94 #[.val (.int p1), .val (.int p2), .val (.int p3), .val (.int off), .val (.int row), .val (.int col), .val (.int size), s7, s8] [(.int col), (.int (off + (row * size)))])) _
      refine XS.iadd X0.here hx rfl (hb hby d1_94) rfl ?_
      exact kt
    | succ t ih =>
      intro off row col size s7 s8 h7 h8 hg hs r0 r1 c0 c1 o0 o1
      have hgt : (64 : Int32) < size := by rw [Int32.lt_iff_toInt_lt]; have := hg.1; have e64 : (64 : Int32).toInt = 64 := by decide
                                           omega
      obtain ⟨hnz, hg', hs', r0', r1', c0', c1', o0', o1', hsum⟩ := own_turn hg hs r0 r1 c0 c1 o0 o1
      obtain ⟨Ls, res, hres, st⟩ := ih _ _ _ _ (.val (.int (size / (2 : Int32)))) (.val (.int (own_q2 row (size / (2 : Int32)) + own_q1 col (size / (2 : Int32))))) (One.val rfl) (One.val rfl) hg' hs' r0' r1' c0' c1' o0' o1'
      refine ⟨Ls, res, hres.trans hsum, fun tt kt => ?_⟩
      show Steps p.tables e below (s₁.setTop (mkF m 11 #[.val (.int p1), .val (.int p2), .val (.int p3), .val (.int off), .val (.int row), .val (.int col), .val (.int size), s7, s8] [])) _
      refine XS.iload X0.here hx rfl (hb hby d1_11) rfl ?_
      show Steps p.tables e below (s₁.setTop (mkF m 13 #[.val (.int p1), .val (.int p2), .val (.int p3), .val (.int off), .val (.int row), .val (.int col), .val (.int size), s7, s8] [(.int size)])) _
      refine XS.bipush X0.here hx rfl (hb hby d1_13) ?_
      show Steps p.tables e below (s₁.setTop (mkF m 15 #[.val (.int p1), .val (.int p2), .val (.int p3), .val (.int off), .val (.int row), .val (.int col), .val (.int size), s7, s8] [(.int (64 : Int32)), (.int size)])) _
      refine XS.icmpNo X0.here hx rfl (hb hby d1_15) rfl (tlt hgt).2.2.2 ?_
      show Steps p.tables e below (s₁.setTop (mkF m 18 #[.val (.int p1), .val (.int p2), .val (.int p3), .val (.int off), .val (.int row), .val (.int col), .val (.int size), s7, s8] [])) _
      refine XS.iload X0.here hx rfl (hb hby d1_18) rfl ?_
      show Steps p.tables e below (s₁.setTop (mkF m 20 #[.val (.int p1), .val (.int p2), .val (.int p3), .val (.int off), .val (.int row), .val (.int col), .val (.int size), s7, s8] [(.int size)])) _
      refine XS.iconst X0.here hx rfl (hb hby d1_20) ?_
      show Steps p.tables e below (s₁.setTop (mkF m 21 #[.val (.int p1), .val (.int p2), .val (.int p3), .val (.int off), .val (.int row), .val (.int col), .val (.int size), s7, s8] [(.int (2 : Int32)), (.int size)])) _
      refine XS.idiv X0.here hx rfl (hb hby d1_21) rfl (by decide) ?_
      show Steps p.tables e below (s₁.setTop (mkF m 22 #[.val (.int p1), .val (.int p2), .val (.int p3), .val (.int off), .val (.int row), .val (.int col), .val (.int size), s7, s8] [(.int (size / (2 : Int32)))])) _
      refine XS.istore X0.here hx rfl (hb hby d1_22) rfl (l' := #[.val (.int p1), .val (.int p2), .val (.int p3), .val (.int off), .val (.int row), .val (.int col), .val (.int size), .val (.int (size / (2 : Int32))), s8]) (own_store7 h7) ?_
      have dm1 : ∀ tt, Steps p.tables e below (s₁.setTop (mkF m 36 #[.val (.int p1), .val (.int p2), .val (.int p3), .val (.int off), .val (.int row), .val (.int col), .val (.int size), .val (.int (size / (2 : Int32))), s8] [(.int (own_q2 row (size / (2 : Int32))))])) tt → Steps p.tables e below (s₁.setTop (mkF m 24 #[.val (.int p1), .val (.int p2), .val (.int p3), .val (.int off), .val (.int row), .val (.int col), .val (.int size), .val (.int (size / (2 : Int32))), s8] [])) tt := by
        intro tt kt
        by_cases cc : row < (size / (2 : Int32))
        · rw [show (own_q2 row (size / (2 : Int32))) = (0 : Int32) from if_pos cc] at kt
          show Steps p.tables e below (s₁.setTop (mkF m 24 #[.val (.int p1), .val (.int p2), .val (.int p3), .val (.int off), .val (.int row), .val (.int col), .val (.int size), .val (.int (size / (2 : Int32))), s8] [])) _
          refine XS.iload X0.here hx rfl (hb hby d1_24) rfl ?_
          show Steps p.tables e below (s₁.setTop (mkF m 26 #[.val (.int p1), .val (.int p2), .val (.int p3), .val (.int off), .val (.int row), .val (.int col), .val (.int size), .val (.int (size / (2 : Int32))), s8] [(.int row)])) _
          refine XS.iload X0.here hx rfl (hb hby d1_26) rfl ?_
          show Steps p.tables e below (s₁.setTop (mkF m 28 #[.val (.int p1), .val (.int p2), .val (.int p3), .val (.int off), .val (.int row), .val (.int col), .val (.int size), .val (.int (size / (2 : Int32))), s8] [(.int (size / (2 : Int32))), (.int row)])) _
          refine XS.icmpNo X0.here hx rfl (hb hby d1_28) rfl (tlt cc).2.1 ?_
          show Steps p.tables e below (s₁.setTop (mkF m 31 #[.val (.int p1), .val (.int p2), .val (.int p3), .val (.int off), .val (.int row), .val (.int col), .val (.int size), .val (.int (size / (2 : Int32))), s8] [])) _
          refine XS.iconst X0.here hx rfl (hb hby d1_31) ?_
          show Steps p.tables e below (s₁.setTop (mkF m 32 #[.val (.int p1), .val (.int p2), .val (.int p3), .val (.int off), .val (.int row), .val (.int col), .val (.int size), .val (.int (size / (2 : Int32))), s8] [(.int (0 : Int32))])) _
          refine XS.goto X0.here hx rfl (pc0 := 32) (pc' := 36) rfl (hb hby d1_32) (by decide) (by decide) ?_
          exact kt
        · rw [show (own_q2 row (size / (2 : Int32))) = (2 : Int32) from if_neg cc] at kt
          show Steps p.tables e below (s₁.setTop (mkF m 24 #[.val (.int p1), .val (.int p2), .val (.int p3), .val (.int off), .val (.int row), .val (.int col), .val (.int size), .val (.int (size / (2 : Int32))), s8] [])) _
          refine XS.iload X0.here hx rfl (hb hby d1_24) rfl ?_
          show Steps p.tables e below (s₁.setTop (mkF m 26 #[.val (.int p1), .val (.int p2), .val (.int p3), .val (.int off), .val (.int row), .val (.int col), .val (.int size), .val (.int (size / (2 : Int32))), s8] [(.int row)])) _
          refine XS.iload X0.here hx rfl (hb hby d1_26) rfl ?_
          show Steps p.tables e below (s₁.setTop (mkF m 28 #[.val (.int p1), .val (.int p2), .val (.int p3), .val (.int off), .val (.int row), .val (.int col), .val (.int size), .val (.int (size / (2 : Int32))), s8] [(.int (size / (2 : Int32))), (.int row)])) _
          refine XS.icmpYes X0.here hx rfl (pc0 := 28) (pc' := 35) rfl (hb hby d1_28) rfl (flt cc).2.1 (by decide) (by decide) ?_
          show Steps p.tables e below (s₁.setTop (mkF m 35 #[.val (.int p1), .val (.int p2), .val (.int p3), .val (.int off), .val (.int row), .val (.int col), .val (.int size), .val (.int (size / (2 : Int32))), s8] [])) _
          refine XS.iconst X0.here hx rfl (hb hby d1_35) ?_
          exact kt
      refine dm1 _ ?_
      have dm2 : ∀ tt, Steps p.tables e below (s₁.setTop (mkF m 48 #[.val (.int p1), .val (.int p2), .val (.int p3), .val (.int off), .val (.int row), .val (.int col), .val (.int size), .val (.int (size / (2 : Int32))), s8] [(.int (own_q1 col (size / (2 : Int32)))), (.int (own_q2 row (size / (2 : Int32))))])) tt → Steps p.tables e below (s₁.setTop (mkF m 36 #[.val (.int p1), .val (.int p2), .val (.int p3), .val (.int off), .val (.int row), .val (.int col), .val (.int size), .val (.int (size / (2 : Int32))), s8] [(.int (own_q2 row (size / (2 : Int32))))])) tt := by
        intro tt kt
        by_cases cc : col < (size / (2 : Int32))
        · rw [show (own_q1 col (size / (2 : Int32))) = (0 : Int32) from if_pos cc] at kt
          show Steps p.tables e below (s₁.setTop (mkF m 36 #[.val (.int p1), .val (.int p2), .val (.int p3), .val (.int off), .val (.int row), .val (.int col), .val (.int size), .val (.int (size / (2 : Int32))), s8] [(.int (own_q2 row (size / (2 : Int32))))])) _
          refine XS.iload X0.here hx rfl (hb hby d1_36) rfl ?_
          show Steps p.tables e below (s₁.setTop (mkF m 38 #[.val (.int p1), .val (.int p2), .val (.int p3), .val (.int off), .val (.int row), .val (.int col), .val (.int size), .val (.int (size / (2 : Int32))), s8] [(.int col), (.int (own_q2 row (size / (2 : Int32))))])) _
          refine XS.iload X0.here hx rfl (hb hby d1_38) rfl ?_
          show Steps p.tables e below (s₁.setTop (mkF m 40 #[.val (.int p1), .val (.int p2), .val (.int p3), .val (.int off), .val (.int row), .val (.int col), .val (.int size), .val (.int (size / (2 : Int32))), s8] [(.int (size / (2 : Int32))), (.int col), (.int (own_q2 row (size / (2 : Int32))))])) _
          refine XS.icmpNo X0.here hx rfl (hb hby d1_40) rfl (tlt cc).2.1 ?_
          show Steps p.tables e below (s₁.setTop (mkF m 43 #[.val (.int p1), .val (.int p2), .val (.int p3), .val (.int off), .val (.int row), .val (.int col), .val (.int size), .val (.int (size / (2 : Int32))), s8] [(.int (own_q2 row (size / (2 : Int32))))])) _
          refine XS.iconst X0.here hx rfl (hb hby d1_43) ?_
          show Steps p.tables e below (s₁.setTop (mkF m 44 #[.val (.int p1), .val (.int p2), .val (.int p3), .val (.int off), .val (.int row), .val (.int col), .val (.int size), .val (.int (size / (2 : Int32))), s8] [(.int (0 : Int32)), (.int (own_q2 row (size / (2 : Int32))))])) _
          refine XS.goto X0.here hx rfl (pc0 := 44) (pc' := 48) rfl (hb hby d1_44) (by decide) (by decide) ?_
          exact kt
        · rw [show (own_q1 col (size / (2 : Int32))) = (1 : Int32) from if_neg cc] at kt
          show Steps p.tables e below (s₁.setTop (mkF m 36 #[.val (.int p1), .val (.int p2), .val (.int p3), .val (.int off), .val (.int row), .val (.int col), .val (.int size), .val (.int (size / (2 : Int32))), s8] [(.int (own_q2 row (size / (2 : Int32))))])) _
          refine XS.iload X0.here hx rfl (hb hby d1_36) rfl ?_
          show Steps p.tables e below (s₁.setTop (mkF m 38 #[.val (.int p1), .val (.int p2), .val (.int p3), .val (.int off), .val (.int row), .val (.int col), .val (.int size), .val (.int (size / (2 : Int32))), s8] [(.int col), (.int (own_q2 row (size / (2 : Int32))))])) _
          refine XS.iload X0.here hx rfl (hb hby d1_38) rfl ?_
          show Steps p.tables e below (s₁.setTop (mkF m 40 #[.val (.int p1), .val (.int p2), .val (.int p3), .val (.int off), .val (.int row), .val (.int col), .val (.int size), .val (.int (size / (2 : Int32))), s8] [(.int (size / (2 : Int32))), (.int col), (.int (own_q2 row (size / (2 : Int32))))])) _
          refine XS.icmpYes X0.here hx rfl (pc0 := 40) (pc' := 47) rfl (hb hby d1_40) rfl (flt cc).2.1 (by decide) (by decide) ?_
          show Steps p.tables e below (s₁.setTop (mkF m 47 #[.val (.int p1), .val (.int p2), .val (.int p3), .val (.int off), .val (.int row), .val (.int col), .val (.int size), .val (.int (size / (2 : Int32))), s8] [(.int (own_q2 row (size / (2 : Int32))))])) _
          refine XS.iconst X0.here hx rfl (hb hby d1_47) ?_
          exact kt
      refine dm2 _ ?_
      show Steps p.tables e below (s₁.setTop (mkF m 48 #[.val (.int p1), .val (.int p2), .val (.int p3), .val (.int off), .val (.int row), .val (.int col), .val (.int size), .val (.int (size / (2 : Int32))), s8] [(.int (own_q1 col (size / (2 : Int32)))), (.int (own_q2 row (size / (2 : Int32))))])) _
      refine XS.iadd X0.here hx rfl (hb hby d1_48) rfl ?_
      show Steps p.tables e below (s₁.setTop (mkF m 49 #[.val (.int p1), .val (.int p2), .val (.int p3), .val (.int off), .val (.int row), .val (.int col), .val (.int size), .val (.int (size / (2 : Int32))), s8] [(.int ((own_q2 row (size / (2 : Int32))) + (own_q1 col (size / (2 : Int32)))))])) _
      refine XS.istore X0.here hx rfl (hb hby d1_49) rfl (l' := #[.val (.int p1), .val (.int p2), .val (.int p3), .val (.int off), .val (.int row), .val (.int col), .val (.int size), .val (.int (size / (2 : Int32))), .val (.int ((own_q2 row (size / (2 : Int32))) + (own_q1 col (size / (2 : Int32)))))]) (own_store8 h8) ?_
      show Steps p.tables e below (s₁.setTop (mkF m 51 #[.val (.int p1), .val (.int p2), .val (.int p3), .val (.int off), .val (.int row), .val (.int col), .val (.int size), .val (.int (size / (2 : Int32))), .val (.int ((own_q2 row (size / (2 : Int32))) + (own_q1 col (size / (2 : Int32)))))] [])) _
      refine XS.iloadN X0.here hx rfl (hb hby d1_51) rfl ?_
      show Steps p.tables e below (s₁.setTop (mkF m 52 #[.val (.int p1), .val (.int p2), .val (.int p3), .val (.int off), .val (.int row), .val (.int col), .val (.int size), .val (.int (size / (2 : Int32))), .val (.int ((own_q2 row (size / (2 : Int32))) + (own_q1 col (size / (2 : Int32)))))] [(.int off)])) _
      refine XS.iload X0.here hx rfl (hb hby d1_52) rfl ?_
      show Steps p.tables e below (s₁.setTop (mkF m 54 #[.val (.int p1), .val (.int p2), .val (.int p3), .val (.int off), .val (.int row), .val (.int col), .val (.int size), .val (.int (size / (2 : Int32))), .val (.int ((own_q2 row (size / (2 : Int32))) + (own_q1 col (size / (2 : Int32)))))] [(.int ((own_q2 row (size / (2 : Int32))) + (own_q1 col (size / (2 : Int32))))), (.int off)])) _
      refine XS.iload X0.here hx rfl (hb hby d1_54) rfl ?_
      show Steps p.tables e below (s₁.setTop (mkF m 56 #[.val (.int p1), .val (.int p2), .val (.int p3), .val (.int off), .val (.int row), .val (.int col), .val (.int size), .val (.int (size / (2 : Int32))), .val (.int ((own_q2 row (size / (2 : Int32))) + (own_q1 col (size / (2 : Int32)))))] [(.int (size / (2 : Int32))), (.int ((own_q2 row (size / (2 : Int32))) + (own_q1 col (size / (2 : Int32))))), (.int off)])) _
      refine XS.imul X0.here hx rfl (hb hby d1_56) rfl ?_
      show Steps p.tables e below (s₁.setTop (mkF m 57 #[.val (.int p1), .val (.int p2), .val (.int p3), .val (.int off), .val (.int row), .val (.int col), .val (.int size), .val (.int (size / (2 : Int32))), .val (.int ((own_q2 row (size / (2 : Int32))) + (own_q1 col (size / (2 : Int32)))))] [(.int (((own_q2 row (size / (2 : Int32))) + (own_q1 col (size / (2 : Int32)))) * (size / (2 : Int32)))), (.int off)])) _
      refine XS.iload X0.here hx rfl (hb hby d1_57) rfl ?_
      show Steps p.tables e below (s₁.setTop (mkF m 59 #[.val (.int p1), .val (.int p2), .val (.int p3), .val (.int off), .val (.int row), .val (.int col), .val (.int size), .val (.int (size / (2 : Int32))), .val (.int ((own_q2 row (size / (2 : Int32))) + (own_q1 col (size / (2 : Int32)))))] [(.int (size / (2 : Int32))), (.int (((own_q2 row (size / (2 : Int32))) + (own_q1 col (size / (2 : Int32)))) * (size / (2 : Int32)))), (.int off)])) _
      refine XS.imul X0.here hx rfl (hb hby d1_59) rfl ?_
      show Steps p.tables e below (s₁.setTop (mkF m 60 #[.val (.int p1), .val (.int p2), .val (.int p3), .val (.int off), .val (.int row), .val (.int col), .val (.int size), .val (.int (size / (2 : Int32))), .val (.int ((own_q2 row (size / (2 : Int32))) + (own_q1 col (size / (2 : Int32)))))] [(.int ((((own_q2 row (size / (2 : Int32))) + (own_q1 col (size / (2 : Int32)))) * (size / (2 : Int32))) * (size / (2 : Int32)))), (.int off)])) _
      refine XS.iadd X0.here hx rfl (hb hby d1_60) rfl ?_
      show Steps p.tables e below (s₁.setTop (mkF m 61 #[.val (.int p1), .val (.int p2), .val (.int p3), .val (.int off), .val (.int row), .val (.int col), .val (.int size), .val (.int (size / (2 : Int32))), .val (.int ((own_q2 row (size / (2 : Int32))) + (own_q1 col (size / (2 : Int32)))))] [(.int (off + ((((own_q2 row (size / (2 : Int32))) + (own_q1 col (size / (2 : Int32)))) * (size / (2 : Int32))) * (size / (2 : Int32)))))])) _
      refine XS.istoreN X0.here hx rfl (hb hby d1_61) rfl (l' := #[.val (.int p1), .val (.int p2), .val (.int p3), .val (.int (off + ((((own_q2 row (size / (2 : Int32))) + (own_q1 col (size / (2 : Int32)))) * (size / (2 : Int32))) * (size / (2 : Int32))))), .val (.int row), .val (.int col), .val (.int size), .val (.int (size / (2 : Int32))), .val (.int ((own_q2 row (size / (2 : Int32))) + (own_q1 col (size / (2 : Int32)))))]) rfl ?_
      show Steps p.tables e below (s₁.setTop (mkF m 62 #[.val (.int p1), .val (.int p2), .val (.int p3), .val (.int (off + ((((own_q2 row (size / (2 : Int32))) + (own_q1 col (size / (2 : Int32)))) * (size / (2 : Int32))) * (size / (2 : Int32))))), .val (.int row), .val (.int col), .val (.int size), .val (.int (size / (2 : Int32))), .val (.int ((own_q2 row (size / (2 : Int32))) + (own_q1 col (size / (2 : Int32)))))] [])) _
      refine XS.iload X0.here hx rfl (hb hby d1_62) rfl ?_
      show Steps p.tables e below (s₁.setTop (mkF m 64 #[.val (.int p1), .val (.int p2), .val (.int p3), .val (.int (off + ((((own_q2 row (size / (2 : Int32))) + (own_q1 col (size / (2 : Int32)))) * (size / (2 : Int32))) * (size / (2 : Int32))))), .val (.int row), .val (.int col), .val (.int size), .val (.int (size / (2 : Int32))), .val (.int ((own_q2 row (size / (2 : Int32))) + (own_q1 col (size / (2 : Int32)))))] [(.int row)])) _
      refine XS.iload X0.here hx rfl (hb hby d1_64) rfl ?_
      show Steps p.tables e below (s₁.setTop (mkF m 66 #[.val (.int p1), .val (.int p2), .val (.int p3), .val (.int (off + ((((own_q2 row (size / (2 : Int32))) + (own_q1 col (size / (2 : Int32)))) * (size / (2 : Int32))) * (size / (2 : Int32))))), .val (.int row), .val (.int col), .val (.int size), .val (.int (size / (2 : Int32))), .val (.int ((own_q2 row (size / (2 : Int32))) + (own_q1 col (size / (2 : Int32)))))] [(.int (size / (2 : Int32))), (.int row)])) _
      refine iremM X0 hx rfl (hb hby d1_66) rfl hnz ?_
      show Steps p.tables e below (s₁.setTop (mkF m 67 #[.val (.int p1), .val (.int p2), .val (.int p3), .val (.int (off + ((((own_q2 row (size / (2 : Int32))) + (own_q1 col (size / (2 : Int32)))) * (size / (2 : Int32))) * (size / (2 : Int32))))), .val (.int row), .val (.int col), .val (.int size), .val (.int (size / (2 : Int32))), .val (.int ((own_q2 row (size / (2 : Int32))) + (own_q1 col (size / (2 : Int32)))))] [(.int (row % (size / (2 : Int32))))])) _
      refine XS.istore X0.here hx rfl (hb hby d1_67) rfl (l' := #[.val (.int p1), .val (.int p2), .val (.int p3), .val (.int (off + ((((own_q2 row (size / (2 : Int32))) + (own_q1 col (size / (2 : Int32)))) * (size / (2 : Int32))) * (size / (2 : Int32))))), .val (.int (row % (size / (2 : Int32)))), .val (.int col), .val (.int size), .val (.int (size / (2 : Int32))), .val (.int ((own_q2 row (size / (2 : Int32))) + (own_q1 col (size / (2 : Int32)))))]) rfl ?_
      show Steps p.tables e below (s₁.setTop (mkF m 69 #[.val (.int p1), .val (.int p2), .val (.int p3), .val (.int (off + ((((own_q2 row (size / (2 : Int32))) + (own_q1 col (size / (2 : Int32)))) * (size / (2 : Int32))) * (size / (2 : Int32))))), .val (.int (row % (size / (2 : Int32)))), .val (.int col), .val (.int size), .val (.int (size / (2 : Int32))), .val (.int ((own_q2 row (size / (2 : Int32))) + (own_q1 col (size / (2 : Int32)))))] [])) _
      refine XS.iload X0.here hx rfl (hb hby d1_69) rfl ?_
      show Steps p.tables e below (s₁.setTop (mkF m 71 #[.val (.int p1), .val (.int p2), .val (.int p3), .val (.int (off + ((((own_q2 row (size / (2 : Int32))) + (own_q1 col (size / (2 : Int32)))) * (size / (2 : Int32))) * (size / (2 : Int32))))), .val (.int (row % (size / (2 : Int32)))), .val (.int col), .val (.int size), .val (.int (size / (2 : Int32))), .val (.int ((own_q2 row (size / (2 : Int32))) + (own_q1 col (size / (2 : Int32)))))] [(.int col)])) _
      refine XS.iload X0.here hx rfl (hb hby d1_71) rfl ?_
      show Steps p.tables e below (s₁.setTop (mkF m 73 #[.val (.int p1), .val (.int p2), .val (.int p3), .val (.int (off + ((((own_q2 row (size / (2 : Int32))) + (own_q1 col (size / (2 : Int32)))) * (size / (2 : Int32))) * (size / (2 : Int32))))), .val (.int (row % (size / (2 : Int32)))), .val (.int col), .val (.int size), .val (.int (size / (2 : Int32))), .val (.int ((own_q2 row (size / (2 : Int32))) + (own_q1 col (size / (2 : Int32)))))] [(.int (size / (2 : Int32))), (.int col)])) _
      refine iremM X0 hx rfl (hb hby d1_73) rfl hnz ?_
      show Steps p.tables e below (s₁.setTop (mkF m 74 #[.val (.int p1), .val (.int p2), .val (.int p3), .val (.int (off + ((((own_q2 row (size / (2 : Int32))) + (own_q1 col (size / (2 : Int32)))) * (size / (2 : Int32))) * (size / (2 : Int32))))), .val (.int (row % (size / (2 : Int32)))), .val (.int col), .val (.int size), .val (.int (size / (2 : Int32))), .val (.int ((own_q2 row (size / (2 : Int32))) + (own_q1 col (size / (2 : Int32)))))] [(.int (col % (size / (2 : Int32))))])) _
      refine XS.istore X0.here hx rfl (hb hby d1_74) rfl (l' := #[.val (.int p1), .val (.int p2), .val (.int p3), .val (.int (off + ((((own_q2 row (size / (2 : Int32))) + (own_q1 col (size / (2 : Int32)))) * (size / (2 : Int32))) * (size / (2 : Int32))))), .val (.int (row % (size / (2 : Int32)))), .val (.int (col % (size / (2 : Int32)))), .val (.int size), .val (.int (size / (2 : Int32))), .val (.int ((own_q2 row (size / (2 : Int32))) + (own_q1 col (size / (2 : Int32)))))]) rfl ?_
      show Steps p.tables e below (s₁.setTop (mkF m 76 #[.val (.int p1), .val (.int p2), .val (.int p3), .val (.int (off + ((((own_q2 row (size / (2 : Int32))) + (own_q1 col (size / (2 : Int32)))) * (size / (2 : Int32))) * (size / (2 : Int32))))), .val (.int (row % (size / (2 : Int32)))), .val (.int (col % (size / (2 : Int32)))), .val (.int size), .val (.int (size / (2 : Int32))), .val (.int ((own_q2 row (size / (2 : Int32))) + (own_q1 col (size / (2 : Int32)))))] [])) _
      refine XS.iload X0.here hx rfl (hb hby d1_76) rfl ?_
      show Steps p.tables e below (s₁.setTop (mkF m 78 #[.val (.int p1), .val (.int p2), .val (.int p3), .val (.int (off + ((((own_q2 row (size / (2 : Int32))) + (own_q1 col (size / (2 : Int32)))) * (size / (2 : Int32))) * (size / (2 : Int32))))), .val (.int (row % (size / (2 : Int32)))), .val (.int (col % (size / (2 : Int32)))), .val (.int size), .val (.int (size / (2 : Int32))), .val (.int ((own_q2 row (size / (2 : Int32))) + (own_q1 col (size / (2 : Int32)))))] [(.int size)])) _
      refine XS.iconst X0.here hx rfl (hb hby d1_78) ?_
      show Steps p.tables e below (s₁.setTop (mkF m 79 #[.val (.int p1), .val (.int p2), .val (.int p3), .val (.int (off + ((((own_q2 row (size / (2 : Int32))) + (own_q1 col (size / (2 : Int32)))) * (size / (2 : Int32))) * (size / (2 : Int32))))), .val (.int (row % (size / (2 : Int32)))), .val (.int (col % (size / (2 : Int32)))), .val (.int size), .val (.int (size / (2 : Int32))), .val (.int ((own_q2 row (size / (2 : Int32))) + (own_q1 col (size / (2 : Int32)))))] [(.int (2 : Int32)), (.int size)])) _
      refine XS.idiv X0.here hx rfl (hb hby d1_79) rfl (by decide) ?_
      show Steps p.tables e below (s₁.setTop (mkF m 80 #[.val (.int p1), .val (.int p2), .val (.int p3), .val (.int (off + ((((own_q2 row (size / (2 : Int32))) + (own_q1 col (size / (2 : Int32)))) * (size / (2 : Int32))) * (size / (2 : Int32))))), .val (.int (row % (size / (2 : Int32)))), .val (.int (col % (size / (2 : Int32)))), .val (.int size), .val (.int (size / (2 : Int32))), .val (.int ((own_q2 row (size / (2 : Int32))) + (own_q1 col (size / (2 : Int32)))))] [(.int (size / (2 : Int32)))])) _
      refine XS.istore X0.here hx rfl (hb hby d1_80) rfl (l' := #[.val (.int p1), .val (.int p2), .val (.int p3), .val (.int (off + ((((own_q2 row (size / (2 : Int32))) + (own_q1 col (size / (2 : Int32)))) * (size / (2 : Int32))) * (size / (2 : Int32))))), .val (.int (row % (size / (2 : Int32)))), .val (.int (col % (size / (2 : Int32)))), .val (.int (size / (2 : Int32))), .val (.int (size / (2 : Int32))), .val (.int ((own_q2 row (size / (2 : Int32))) + (own_q1 col (size / (2 : Int32)))))]) rfl ?_
      show Steps p.tables e below (s₁.setTop (mkF m 82 #[.val (.int p1), .val (.int p2), .val (.int p3), .val (.int (off + ((((own_q2 row (size / (2 : Int32))) + (own_q1 col (size / (2 : Int32)))) * (size / (2 : Int32))) * (size / (2 : Int32))))), .val (.int (row % (size / (2 : Int32)))), .val (.int (col % (size / (2 : Int32)))), .val (.int (size / (2 : Int32))), .val (.int (size / (2 : Int32))), .val (.int ((own_q2 row (size / (2 : Int32))) + (own_q1 col (size / (2 : Int32)))))] [])) _
      refine XS.goto X0.here hx rfl (pc0 := 82) (pc' := 11) rfl (hb hby d1_82) (by decide) (by decide) ?_
      exact st tt kt
  have pre3 : ∀ t, Steps p.tables e below (s₁.setTop (mkF m 11 #[.val (.int p1), .val (.int p2), .val (.int p3), .val (.int (0 : Int32)), .val (.int p2), .val (.int p3), .val (.int p1), .unset, .unset] [])) t → Steps p.tables e below (s₁.setTop (entryFrame m #[(.int p1), (.int p2), (.int p3)] 9)) t := fun t kt => pre0 t (by
    show Steps p.tables e below (s₁.setTop (mkF m 0 #[.val (.int p1), .val (.int p2), .val (.int p3), .unset, .unset, .unset, .unset, .unset, .unset] [])) _
    refine XS.iconst X0.here hx rfl (hb hby d1_0) ?_
    show Steps p.tables e below (s₁.setTop (mkF m 1 #[.val (.int p1), .val (.int p2), .val (.int p3), .unset, .unset, .unset, .unset, .unset, .unset] [(.int (0 : Int32))])) _
    refine XS.istoreN X0.here hx rfl (hb hby d1_1) rfl (l' := #[.val (.int p1), .val (.int p2), .val (.int p3), .val (.int (0 : Int32)), .unset, .unset, .unset, .unset, .unset]) rfl ?_
    show Steps p.tables e below (s₁.setTop (mkF m 2 #[.val (.int p1), .val (.int p2), .val (.int p3), .val (.int (0 : Int32)), .unset, .unset, .unset, .unset, .unset] [])) _
    refine XS.iloadN X0.here hx rfl (hb hby d1_2) rfl ?_
    show Steps p.tables e below (s₁.setTop (mkF m 3 #[.val (.int p1), .val (.int p2), .val (.int p3), .val (.int (0 : Int32)), .unset, .unset, .unset, .unset, .unset] [(.int p2)])) _
    refine XS.istore X0.here hx rfl (hb hby d1_3) rfl (l' := #[.val (.int p1), .val (.int p2), .val (.int p3), .val (.int (0 : Int32)), .val (.int p2), .unset, .unset, .unset, .unset]) rfl ?_
    show Steps p.tables e below (s₁.setTop (mkF m 5 #[.val (.int p1), .val (.int p2), .val (.int p3), .val (.int (0 : Int32)), .val (.int p2), .unset, .unset, .unset, .unset] [])) _
    refine XS.iloadN X0.here hx rfl (hb hby d1_5) rfl ?_
    show Steps p.tables e below (s₁.setTop (mkF m 6 #[.val (.int p1), .val (.int p2), .val (.int p3), .val (.int (0 : Int32)), .val (.int p2), .unset, .unset, .unset, .unset] [(.int p3)])) _
    refine XS.istore X0.here hx rfl (hb hby d1_6) rfl (l' := #[.val (.int p1), .val (.int p2), .val (.int p3), .val (.int (0 : Int32)), .val (.int p2), .val (.int p3), .unset, .unset, .unset]) rfl ?_
    show Steps p.tables e below (s₁.setTop (mkF m 8 #[.val (.int p1), .val (.int p2), .val (.int p3), .val (.int (0 : Int32)), .val (.int p2), .val (.int p3), .unset, .unset, .unset] [])) _
    refine XS.iloadN X0.here hx rfl (hb hby d1_8) rfl ?_
    show Steps p.tables e below (s₁.setTop (mkF m 9 #[.val (.int p1), .val (.int p2), .val (.int p3), .val (.int (0 : Int32)), .val (.int p2), .val (.int p3), .unset, .unset, .unset] [(.int p1)])) _
    refine XS.istore X0.here hx rfl (hb hby d1_9) rfl (l' := #[.val (.int p1), .val (.int p2), .val (.int p3), .val (.int (0 : Int32)), .val (.int p2), .val (.int p3), .val (.int p1), .unset, .unset]) rfl ?_
    exact kt)
  have e0i : (0 : Int32).toInt = 0 := by decide
  have hpos := own_good_pos _ _ hg
  have hsq := own_sqle (S := p1.toInt) (by omega) hs
  obtain ⟨Ls, res, hres, st⟩ := loop t 0 p2 p3 p1 .unset .unset One.u One.u hg hs r0 r1 c0 c1 (by omega) (by omega)
  have hv : res = Int32.ofInt (own_ix t p1.toInt p2.toInt p3.toInt) := by
    rw [show own_ix t p1.toInt p2.toInt p3.toInt = res.toInt from by omega]; exact (Int32.ofInt_toInt res).symm
  have pre4 : ∀ t, Steps p.tables e below (s₁.setTop (mkF m 95 Ls [(.int res)])) t → Steps p.tables e below (s₁.setTop (entryFrame m #[(.int p1), (.int p2), (.int p3)] 9)) t := fun t kt => pre3 t (st t kt)
  obtain ⟨fs, hr, hrun, hended, hW, hsame⟩ := X0.leave (v := some (.int res)) (fun h => by rw [Bd.returns] at h; cases h)
  refine ⟨_, _, pre4 _ ?_, hrun, hended, _, _, rfl, ?_, ⟨_, rfl⟩, hW, hsame.mono (by decide) (by decide)⟩
  · show Steps p.tables e below (s₁.setTop (mkF m 95 Ls [(.int res)])) _
    exact retI X0 hx Bd.returns (hb hby d1_95) hr
  · show Q1 Z t p1 p2 p3 h0 n0 _ s₁.heap _
    rw [e0]
    exact ⟨by rw [hv], N0, rfl⟩

theorem own_e16 (x : Int32) : ∃ t : Nat, own_good t (((1 : Int32) <<< (((x &&& (2147483647 : Int32)) % (16 : Int32)) &&& 31))).toInt ∧ (((1 : Int32) <<< (((x &&& (2147483647 : Int32)) % (16 : Int32)) &&& 31))).toInt ≤ 32768 := by
  have h1 := c_and x 2147483647 (by decide)
  have h2 := (c_irem (x &&& 2147483647) 16 16 (by decide)).1 h1.1
  obtain ⟨q, hq⟩ : ∃ q, ((x &&& (2147483647 : Int32)) % (16 : Int32)) = q := ⟨_, rfl⟩
  rw [hq] at h2 ⊢
  have h3 : 0 ≤ q.toInt ∧ q.toInt ≤ 15 := by omega
  have h4 : q = Int32.ofInt q.toInt := (Int32.ofInt_toInt q).symm
  obtain ⟨z, hz⟩ : ∃ z, q.toInt = z := ⟨_, rfl⟩
  rw [hz] at h3 h4
  have h5 : z = 0 ∨ z = 1 ∨ z = 2 ∨ z = 3 ∨ z = 4 ∨ z = 5 ∨ z = 6 ∨ z = 7 ∨ z = 8 ∨ z = 9 ∨ z = 10 ∨ z = 11 ∨ z = 12 ∨ z = 13 ∨ z = 14 ∨ z = 15 := by omega
  rcases h5 with rfl | rfl | rfl | rfl | rfl | rfl | rfl | rfl | rfl | rfl | rfl | rfl | rfl | rfl | rfl | rfl
  · rw [h4]; exact ⟨0, by rw [show ((1 : Int32) <<< (Int32.ofInt 0 &&& 31)).toInt = 1 from by decide]; exact ⟨by omega, by omega⟩, by decide⟩
  · rw [h4]; exact ⟨0, by rw [show ((1 : Int32) <<< (Int32.ofInt 1 &&& 31)).toInt = 2 from by decide]; exact ⟨by decide, by decide⟩, by decide⟩
  · rw [h4]; exact ⟨0, by rw [show ((1 : Int32) <<< (Int32.ofInt 2 &&& 31)).toInt = 4 from by decide]; exact ⟨by decide, by decide⟩, by decide⟩
  · rw [h4]; exact ⟨0, by rw [show ((1 : Int32) <<< (Int32.ofInt 3 &&& 31)).toInt = 8 from by decide]; exact ⟨by decide, by decide⟩, by decide⟩
  · rw [h4]; exact ⟨0, by rw [show ((1 : Int32) <<< (Int32.ofInt 4 &&& 31)).toInt = 16 from by decide]; exact ⟨by decide, by decide⟩, by decide⟩
  · rw [h4]; exact ⟨0, by rw [show ((1 : Int32) <<< (Int32.ofInt 5 &&& 31)).toInt = 32 from by decide]; exact ⟨by decide, by decide⟩, by decide⟩
  · rw [h4]; exact ⟨0, by rw [show ((1 : Int32) <<< (Int32.ofInt 6 &&& 31)).toInt = 64 from by decide]; exact ⟨by decide, by decide⟩, by decide⟩
  · rw [h4]; exact ⟨1, by rw [show ((1 : Int32) <<< (Int32.ofInt 7 &&& 31)).toInt = 128 from by decide]; exact ⟨by decide, by decide, ⟨by decide, by decide⟩⟩, by decide⟩
  · rw [h4]; exact ⟨2, by rw [show ((1 : Int32) <<< (Int32.ofInt 8 &&& 31)).toInt = 256 from by decide]; exact ⟨by decide, by decide, ⟨by decide, by decide, ⟨by decide, by decide⟩⟩⟩, by decide⟩
  · rw [h4]; exact ⟨3, by rw [show ((1 : Int32) <<< (Int32.ofInt 9 &&& 31)).toInt = 512 from by decide]; exact ⟨by decide, by decide, ⟨by decide, by decide, ⟨by decide, by decide, ⟨by decide, by decide⟩⟩⟩⟩, by decide⟩
  · rw [h4]; exact ⟨4, by rw [show ((1 : Int32) <<< (Int32.ofInt 10 &&& 31)).toInt = 1024 from by decide]; exact ⟨by decide, by decide, ⟨by decide, by decide, ⟨by decide, by decide, ⟨by decide, by decide, ⟨by decide, by decide⟩⟩⟩⟩⟩, by decide⟩
  · rw [h4]; exact ⟨5, by rw [show ((1 : Int32) <<< (Int32.ofInt 11 &&& 31)).toInt = 2048 from by decide]; exact ⟨by decide, by decide, ⟨by decide, by decide, ⟨by decide, by decide, ⟨by decide, by decide, ⟨by decide, by decide, ⟨by decide, by decide⟩⟩⟩⟩⟩⟩, by decide⟩
  · rw [h4]; exact ⟨6, by rw [show ((1 : Int32) <<< (Int32.ofInt 12 &&& 31)).toInt = 4096 from by decide]; exact ⟨by decide, by decide, ⟨by decide, by decide, ⟨by decide, by decide, ⟨by decide, by decide, ⟨by decide, by decide, ⟨by decide, by decide, ⟨by decide, by decide⟩⟩⟩⟩⟩⟩⟩, by decide⟩
  · rw [h4]; exact ⟨7, by rw [show ((1 : Int32) <<< (Int32.ofInt 13 &&& 31)).toInt = 8192 from by decide]; exact ⟨by decide, by decide, ⟨by decide, by decide, ⟨by decide, by decide, ⟨by decide, by decide, ⟨by decide, by decide, ⟨by decide, by decide, ⟨by decide, by decide, ⟨by decide, by decide⟩⟩⟩⟩⟩⟩⟩⟩, by decide⟩
  · rw [h4]; exact ⟨8, by rw [show ((1 : Int32) <<< (Int32.ofInt 14 &&& 31)).toInt = 16384 from by decide]; exact ⟨by decide, by decide, ⟨by decide, by decide, ⟨by decide, by decide, ⟨by decide, by decide, ⟨by decide, by decide, ⟨by decide, by decide, ⟨by decide, by decide, ⟨by decide, by decide, ⟨by decide, by decide⟩⟩⟩⟩⟩⟩⟩⟩⟩, by decide⟩
  · rw [h4]; exact ⟨9, by rw [show ((1 : Int32) <<< (Int32.ofInt 15 &&& 31)).toInt = 32768 from by decide]; exact ⟨by decide, by decide, ⟨by decide, by decide, ⟨by decide, by decide, ⟨by decide, by decide, ⟨by decide, by decide, ⟨by decide, by decide, ⟨by decide, by decide, ⟨by decide, by decide, ⟨by decide, by decide, ⟨by decide, by decide⟩⟩⟩⟩⟩⟩⟩⟩⟩⟩, by decide⟩

theorem own_mask (x n : Int32) (h : 1 ≤ n.toInt) : 0 ≤ (x &&& (n - (1 : Int32))).toInt ∧ (x &&& (n - (1 : Int32))).toInt < n.toInt := by
  have e1 : (1 : Int32).toInt = 1 := by decide
  have h0 := rng32 n
  have h1 := own_sub (x := n) rfl e1 (by omega) (by omega)
  have h2 := c_and x (n - 1) (by omega)
  omega
theorem own_down {i h : Int32} {H : Int} (hH : h.toInt = H) (h0 : 0 ≤ i.toInt) (h1 : i.toInt < 2 * H) (h2 : H ≤ 32768) : (i - ((own_q1 i h) * h)).toInt = i.toInt % H := by
  have q := own_q1_at (rfl : i.toInt = i.toInt) hH
  by_cases c : i.toInt < H
  · rw [if_pos c] at q
    have m1 := own_mul q hH (Int.zero_mul H) (by omega) (by omega)
    rw [own_sub rfl m1 (by omega) (by omega), Int.emod_eq_of_lt h0 c]; omega
  · rw [if_neg c] at q
    have m1 := own_mul q hH (Int.one_mul H) (by omega) (by omega)
    rw [own_sub rfl m1 (by omega) (by omega), show i.toInt % H = (i.toInt - H) % H from (Int.sub_emod_right _ _).symm, Int.emod_eq_of_lt (by omega) (by omega)]
theorem own_fin {t : Nat} {n i j : Int32} (hg : own_good (t + 1) n.toInt) (hs : n.toInt ≤ 32768) (i0 : 0 ≤ i.toInt) (i1 : i.toInt < n.toInt) (j0 : 0 ≤ j.toInt) (j1 : j.toInt < n.toInt) :
    own_good t (n / (2 : Int32)).toInt ∧ (n / (2 : Int32)).toInt ≤ 32768 ∧ 0 ≤ (i - ((own_q1 i (n / (2 : Int32))) * (n / (2 : Int32)))).toInt ∧ (i - ((own_q1 i (n / (2 : Int32))) * (n / (2 : Int32)))).toInt < (n / (2 : Int32)).toInt ∧ 0 ≤ (j - ((own_q1 j (n / (2 : Int32))) * (n / (2 : Int32)))).toInt ∧ (j - ((own_q1 j (n / (2 : Int32))) * (n / (2 : Int32)))).toInt < (n / (2 : Int32)).toInt ∧
    (Int32.ofInt (own_ix (t + 1) n.toInt i.toInt j.toInt)) = ((((((2 : Int32) * (own_q1 i (n / (2 : Int32)))) + (own_q1 j (n / (2 : Int32)))) * (n / (2 : Int32))) * (n / (2 : Int32))) + (Int32.ofInt (own_ix t (n / (2 : Int32)).toInt (i - ((own_q1 i (n / (2 : Int32))) * (n / (2 : Int32)))).toInt (j - ((own_q1 j (n / (2 : Int32))) * (n / (2 : Int32)))).toInt))) := by
  have hg0 := hg
  obtain ⟨g1, g2, g3⟩ := hg
  obtain ⟨H, hH⟩ : ∃ H, H = n.toInt / 2 := ⟨_, rfl⟩
  have hS : n.toInt = 2 * H := by omega
  have hd : (n / (2 : Int32)).toInt = H := by rw [(c_idiv n 2 2 (by decide) (by decide)).1 (by omega)]; exact hH.symm
  have di := own_down (i := i) hd i0 (by omega) (by omega)
  have dj := own_down (i := j) hd j0 (by omega) (by omega)
  have hsq := own_sq hS
  have hHH : 0 ≤ H * H := Int.mul_nonneg (by omega) (by omega)
  have hle := own_sqle (S := n.toInt) (by omega) hs
  have qi := own_q1_at (rfl : i.toInt = i.toInt) hd
  have qj := own_q1_at (rfl : j.toInt = j.toInt) hd
  have e2 : (2 : Int32).toInt = 2 := by decide
  have hq := own_qd_rng i.toInt j.toInt H
  have hqd : 2 * (if i.toInt < H then (0 : Int) else 1) + (if j.toInt < H then 0 else 1) = own_qd i.toInt j.toInt H := by unfold own_qd; split <;> split <;> rfl
  have m0 := own_mul e2 qi rfl (by split <;> omega) (by split <;> omega)
  have a0 := own_add m0 qj (by rw [hqd]; omega) (by rw [hqd]; omega)
  rw [hqd] at a0
  have hb := own_qmul _ H hq.1 hq.2 (by omega)
  have hb2 := own_qmul _ (H * H) hq.1 hq.2 hHH
  have m1 := own_mul a0 hd rfl hb.1 (by omega)
  have m2 := own_mul m1 hd (c := own_qd i.toInt j.toInt H * (H * H)) (by rw [Int.mul_assoc]) hb2.1 (by omega)
  have g3' : own_good t H := by rw [hH]; exact g3
  have ei0 : 0 ≤ i.toInt % H := Int.emod_nonneg _ (by omega)
  have ei1 : i.toInt % H < H := Int.emod_lt_of_pos _ (by omega)
  have ej0 : 0 ≤ j.toInt % H := Int.emod_nonneg _ (by omega)
  have ej1 : j.toInt % H < H := Int.emod_lt_of_pos _ (by omega)
  have rg := own_ix_rng t H (i.toInt % H) (j.toInt % H) g3' ei0 ei1 ej0 ej1
  have rg2 := own_ix_rng (t + 1) _ _ _ hg0 i0 i1 j0 j1
  rw [hd, di, dj]
  refine ⟨g3', by omega, ei0, ei1, ej0, ej1, Int32.toInt_inj.mp ?_⟩
  rw [own_add m2 (own_ofInt (by omega) (by omega)) (by omega) (by omega), own_ofInt (by omega) (by omega)]
  show own_qd i.toInt j.toInt (n.toInt / 2) * ((n.toInt / 2) * (n.toInt / 2)) + own_ix t (n.toInt / 2) (i.toInt % (n.toInt / 2)) (j.toInt % (n.toInt / 2)) = _
  rw [← hH]
/-- the first checks -/
theorem own_chk {t : Nat} {n i j : Int32} (hg : own_good t n.toInt) (hs : n.toInt ≤ 32768) (i0 : 0 ≤ i.toInt) (i1 : i.toInt < n.toInt) (j0 : 0 ≤ j.toInt) (j1 : j.toInt < n.toInt) :
    ¬ (Int32.ofInt (own_ix t n.toInt i.toInt j.toInt)) < 0 ∧ (Int32.ofInt (own_ix t n.toInt i.toInt j.toInt)) < n * n := by
  have hpos := own_good_pos _ _ hg
  have hle := own_sqle (S := n.toInt) (by omega) hs
  have rg := own_ix_rng t _ _ _ hg i0 i1 j0 j1
  have e0 : (0 : Int32).toInt = 0 := by decide
  rw [Int32.lt_iff_toInt_lt, Int32.lt_iff_toInt_lt, own_ofInt (by omega) (by omega), own_mul (x := n) (y := n) rfl rfl rfl (by omega) (by omega)]
  omega
theorem own_small {n i j : Int32} (hg : own_good 0 n.toInt) (hs : n.toInt ≤ 32768) (i0 : 0 ≤ i.toInt) (i1 : i.toInt < n.toInt) (j0 : 0 ≤ j.toInt) (j1 : j.toInt < n.toInt) :
    (Int32.ofInt (own_ix 0 n.toInt i.toInt j.toInt)) = (i * n) + j := by
  have hle := own_sqle (S := n.toInt) (by omega) hs
  have rg := own_ix_rng 0 _ _ _ hg i0 i1 j0 j1
  have h' : own_ix 0 n.toInt i.toInt j.toInt = i.toInt * n.toInt + j.toInt := rfl
  have h0 : 0 ≤ i.toInt * n.toInt := Int.mul_nonneg i0 (by omega)
  have m1 := own_mul (x := i) (y := n) rfl rfl rfl h0 (by omega)
  refine Int32.toInt_inj.mp ?_
  rw [own_ofInt (by omega) (by omega), own_add m1 rfl (by omega) (by omega)]
  exact h'
theorem pn_0 : plainName "com/example/cleave/cleave/tool/QuadrantOrderIndexPinLaw" = true := by first | (simp [plainName, overriddenIn]; done) | decide +kernel
theorem pd_0_0 : parseMethodDescriptor "(III)I" = some ⟨[.int, .int, .int], some .int⟩ := by decide +kernel
theorem ef_0 (m : MethodId) (x0 : Int32) (x1 : Int32) (x2 : Int32) : entryFrame m #[(.int x0), (.int x1), (.int x2)] maxLocals = mkF m 0 #[.val (.int x0), .val (.int x1), .val (.int x2), .unset, .unset, .unset, .unset, .unset, .unset, .unset, .unset, .unset] [] := by first | (simp [entryFrame, mkF, argsToLocals, Value.category, maxLocals]; done) | rfl
def Q0 (Z : State) (p1 : Int32) (p2 : Int32) (p3 : Int32) (h0 : Heap) (n0 : Nat) (v : Option Value) (h : Heap) (L : List Loc) : Prop := v = some (.int (1 : Int32)) ∧ Fr n0 L
set_option maxRecDepth 65536 in
set_option maxHeartbeats 40000000 in
theorem rm0 (l : Launch) (Z : State) (a0 : Array Value) (hw : ∀ d ∈ tables_1, d.before a0 Z = true) (ws : List Jvm.Cond) (p1 : Int32) (p2 : Int32) (p3 : Int32) (h0 : Heap) (n0 : Nat) (Z0 : n0 ≤ h0.size)  :
    MetFree l x (head1 (Jvm.Cond.code x code maxLocals ret :: ws) room_1) (fun a U => a = #[(.int p1), (.int p2), (.int p3)] ∧ Z.Warmed39 U.vm ∧ U.heap = h0) (fun _ _ _ _ _ => True) (fun _ U ou U' => ∃ v L, ou = .returned v ∧ Q0 Z p1 p2 p3 h0 n0 v U'.heap L ∧ FrameEnd U ou U' L room_1.cells room_1.slots) := by
  refine MetFree.of_bodySF (plainFor_of_name pn_0) hisR ?_
  intro p e s m args below meth c s₁ Bd hml0 hP hK
  obtain ⟨rfl, hZ, hh⟩ := hP
  have hx := Bd.exec
  have hby := Bd.bytes
  have hml : c.maxLocals = 12 := hml0
  have hown : s.vm.findClass "com/example/cleave/cleave/tool/QuadrantOrderIndexPinLaw" = some m.cls := findClass_of_methodNamed Bd.named
  have hnm := (name_of_methodNamed Bd.named Bd.method).1
  have X0 : Stand p l e room_1 s m #[(.int p1), (.int p2), (.int p3)] below meth c s₁ [] 0 0 := Stand.of_body Bd
  have e0 : s₁.heap = h0 := by rw [← hh, Bd.state]; rfl
  have N0 := Fr.nil n0
  have pre0 : ∀ t, Steps p.tables e below (s₁.setTop (mkF m 0 #[.val (.int p1), .val (.int p2), .val (.int p3), .unset, .unset, .unset, .unset, .unset, .unset, .unset, .unset, .unset] [])) t → Steps p.tables e below (s₁.setTop (entryFrame m #[(.int p1), (.int p2), (.int p3)] maxLocals)) t := fun t k => castTop (ef_0 m (p1) (p2) (p3)) k
  have pre1 : ∀ t, Steps p.tables e below (s₁.setTop (mkF m 10 #[.val (.int p1), .val (.int p2), .val (.int p3), .val (.int ((1 : Int32) <<< (((p1 &&& (2147483647 : Int32)) % (16 : Int32)) &&& 31))), .unset, .unset, .unset, .unset, .unset, .unset, .unset, .unset] [])) t → Steps p.tables e below (s₁.setTop (entryFrame m #[(.int p1), (.int p2), (.int p3)] maxLocals)) t := fun t kt => pre0 t (by
    show Steps p.tables e below (s₁.setTop (mkF m 0 #[.val (.int p1), .val (.int p2), .val (.int p3), .unset, .unset, .unset, .unset, .unset, .unset, .unset, .unset, .unset] [])) _
    refine XS.iconst X0.here hx rfl (hb hby at_0) ?_
    show Steps p.tables e below (s₁.setTop (mkF m 1 #[.val (.int p1), .val (.int p2), .val (.int p3), .unset, .unset, .unset, .unset, .unset, .unset, .unset, .unset, .unset] [(.int (1 : Int32))])) _
    refine XS.iloadN X0.here hx rfl (hb hby at_1) rfl ?_
    show Steps p.tables e below (s₁.setTop (mkF m 2 #[.val (.int p1), .val (.int p2), .val (.int p3), .unset, .unset, .unset, .unset, .unset, .unset, .unset, .unset, .unset] [(.int p1), (.int (1 : Int32))])) _
    refine X0.ldcInt hx hown (mvT hZ (hw _ (List.mem_of_getElem? (i := 0) rfl))) (g := (mkF m 2 #[.val (.int p1), .val (.int p2), .val (.int p3), .unset, .unset, .unset, .unset, .unset, .unset, .unset, .unset, .unset] [(.int p1), (.int (1 : Int32))])) rfl (hb hby at_2) _ ?_
    show Steps p.tables e below (s₁.setTop (mkF m 4 #[.val (.int p1), .val (.int p2), .val (.int p3), .unset, .unset, .unset, .unset, .unset, .unset, .unset, .unset, .unset] [(.int (2147483647 : Int32)), (.int p1), (.int (1 : Int32))])) _
    refine XS.iand X0.here hx rfl (hb hby at_4) rfl ?_
    show Steps p.tables e below (s₁.setTop (mkF m 5 #[.val (.int p1), .val (.int p2), .val (.int p3), .unset, .unset, .unset, .unset, .unset, .unset, .unset, .unset, .unset] [(.int (p1 &&& (2147483647 : Int32))), (.int (1 : Int32))])) _
    refine XS.bipush X0.here hx rfl (hb hby at_5) ?_
    show Steps p.tables e below (s₁.setTop (mkF m 7 #[.val (.int p1), .val (.int p2), .val (.int p3), .unset, .unset, .unset, .unset, .unset, .unset, .unset, .unset, .unset] [(.int (16 : Int32)), (.int (p1 &&& (2147483647 : Int32))), (.int (1 : Int32))])) _
    refine iremM X0 hx rfl (hb hby at_7) rfl (by decide) ?_
    show Steps p.tables e below (s₁.setTop (mkF m 8 #[.val (.int p1), .val (.int p2), .val (.int p3), .unset, .unset, .unset, .unset, .unset, .unset, .unset, .unset, .unset] [(.int ((p1 &&& (2147483647 : Int32)) % (16 : Int32))), (.int (1 : Int32))])) _
    refine XS.ishl X0.here hx rfl (hb hby at_8) rfl ?_
    show Steps p.tables e below (s₁.setTop (mkF m 9 #[.val (.int p1), .val (.int p2), .val (.int p3), .unset, .unset, .unset, .unset, .unset, .unset, .unset, .unset, .unset] [(.int ((1 : Int32) <<< (((p1 &&& (2147483647 : Int32)) % (16 : Int32)) &&& 31)))])) _
    refine XS.istoreN X0.here hx rfl (hb hby at_9) rfl (l' := #[.val (.int p1), .val (.int p2), .val (.int p3), .val (.int ((1 : Int32) <<< (((p1 &&& (2147483647 : Int32)) % (16 : Int32)) &&& 31))), .unset, .unset, .unset, .unset, .unset, .unset, .unset, .unset]) rfl ?_
    exact kt)
  obtain ⟨tn, hg, hs⟩ := own_e16 p1
  obtain ⟨n, hn⟩ : ∃ n, ((1 : Int32) <<< (((p1 &&& (2147483647 : Int32)) % (16 : Int32)) &&& 31)) = n := ⟨_, rfl⟩
  rw [hn] at hg hs
  rw [hn] at pre1
  have pre2 : ∀ t, Steps p.tables e below (s₁.setTop (mkF m 29 #[.val (.int p1), .val (.int p2), .val (.int p3), .val (.int n), .val (.int (p2 &&& (n - (1 : Int32)))), .val (.int (p3 &&& (n - (1 : Int32)))), .unset, .unset, .unset, .unset, .unset, .unset] [(.int (p3 &&& (n - (1 : Int32)))), (.int (p2 &&& (n - (1 : Int32)))), (.int n)])) t → Steps p.tables e below (s₁.setTop (entryFrame m #[(.int p1), (.int p2), (.int p3)] maxLocals)) t := fun t kt => pre1 t (by
    show Steps p.tables e below (s₁.setTop (mkF m 10 #[.val (.int p1), .val (.int p2), .val (.int p3), .val (.int n), .unset, .unset, .unset, .unset, .unset, .unset, .unset, .unset] [])) _
    refine XS.iloadN X0.here hx rfl (hb hby at_10) rfl ?_
    show Steps p.tables e below (s₁.setTop (mkF m 11 #[.val (.int p1), .val (.int p2), .val (.int p3), .val (.int n), .unset, .unset, .unset, .unset, .unset, .unset, .unset, .unset] [(.int p2)])) _
    refine XS.iloadN X0.here hx rfl (hb hby at_11) rfl ?_
    show Steps p.tables e below (s₁.setTop (mkF m 12 #[.val (.int p1), .val (.int p2), .val (.int p3), .val (.int n), .unset, .unset, .unset, .unset, .unset, .unset, .unset, .unset] [(.int n), (.int p2)])) _
    refine XS.iconst X0.here hx rfl (hb hby at_12) ?_
    show Steps p.tables e below (s₁.setTop (mkF m 13 #[.val (.int p1), .val (.int p2), .val (.int p3), .val (.int n), .unset, .unset, .unset, .unset, .unset, .unset, .unset, .unset] [(.int (1 : Int32)), (.int n), (.int p2)])) _
    refine XS.isub X0.here hx rfl (hb hby at_13) rfl ?_
    show Steps p.tables e below (s₁.setTop (mkF m 14 #[.val (.int p1), .val (.int p2), .val (.int p3), .val (.int n), .unset, .unset, .unset, .unset, .unset, .unset, .unset, .unset] [(.int (n - (1 : Int32))), (.int p2)])) _
    refine XS.iand X0.here hx rfl (hb hby at_14) rfl ?_
    show Steps p.tables e below (s₁.setTop (mkF m 15 #[.val (.int p1), .val (.int p2), .val (.int p3), .val (.int n), .unset, .unset, .unset, .unset, .unset, .unset, .unset, .unset] [(.int (p2 &&& (n - (1 : Int32))))])) _
    refine XS.istore X0.here hx rfl (hb hby at_15) rfl (l' := #[.val (.int p1), .val (.int p2), .val (.int p3), .val (.int n), .val (.int (p2 &&& (n - (1 : Int32)))), .unset, .unset, .unset, .unset, .unset, .unset, .unset]) rfl ?_
    show Steps p.tables e below (s₁.setTop (mkF m 17 #[.val (.int p1), .val (.int p2), .val (.int p3), .val (.int n), .val (.int (p2 &&& (n - (1 : Int32)))), .unset, .unset, .unset, .unset, .unset, .unset, .unset] [])) _
    refine XS.iloadN X0.here hx rfl (hb hby at_17) rfl ?_
    show Steps p.tables e below (s₁.setTop (mkF m 18 #[.val (.int p1), .val (.int p2), .val (.int p3), .val (.int n), .val (.int (p2 &&& (n - (1 : Int32)))), .unset, .unset, .unset, .unset, .unset, .unset, .unset] [(.int p3)])) _
    refine XS.iloadN X0.here hx rfl (hb hby at_18) rfl ?_
    show Steps p.tables e below (s₁.setTop (mkF m 19 #[.val (.int p1), .val (.int p2), .val (.int p3), .val (.int n), .val (.int (p2 &&& (n - (1 : Int32)))), .unset, .unset, .unset, .unset, .unset, .unset, .unset] [(.int n), (.int p3)])) _
    refine XS.iconst X0.here hx rfl (hb hby at_19) ?_
    show Steps p.tables e below (s₁.setTop (mkF m 20 #[.val (.int p1), .val (.int p2), .val (.int p3), .val (.int n), .val (.int (p2 &&& (n - (1 : Int32)))), .unset, .unset, .unset, .unset, .unset, .unset, .unset] [(.int (1 : Int32)), (.int n), (.int p3)])) _
    refine XS.isub X0.here hx rfl (hb hby at_20) rfl ?_
    show Steps p.tables e below (s₁.setTop (mkF m 21 #[.val (.int p1), .val (.int p2), .val (.int p3), .val (.int n), .val (.int (p2 &&& (n - (1 : Int32)))), .unset, .unset, .unset, .unset, .unset, .unset, .unset] [(.int (n - (1 : Int32))), (.int p3)])) _
    refine XS.iand X0.here hx rfl (hb hby at_21) rfl ?_
    show Steps p.tables e below (s₁.setTop (mkF m 22 #[.val (.int p1), .val (.int p2), .val (.int p3), .val (.int n), .val (.int (p2 &&& (n - (1 : Int32)))), .unset, .unset, .unset, .unset, .unset, .unset, .unset] [(.int (p3 &&& (n - (1 : Int32))))])) _
    refine XS.istore X0.here hx rfl (hb hby at_22) rfl (l' := #[.val (.int p1), .val (.int p2), .val (.int p3), .val (.int n), .val (.int (p2 &&& (n - (1 : Int32)))), .val (.int (p3 &&& (n - (1 : Int32)))), .unset, .unset, .unset, .unset, .unset, .unset]) rfl ?_
    show Steps p.tables e below (s₁.setTop (mkF m 24 #[.val (.int p1), .val (.int p2), .val (.int p3), .val (.int n), .val (.int (p2 &&& (n - (1 : Int32)))), .val (.int (p3 &&& (n - (1 : Int32)))), .unset, .unset, .unset, .unset, .unset, .unset] [])) _
    refine XS.iloadN X0.here hx rfl (hb hby at_24) rfl ?_
    show Steps p.tables e below (s₁.setTop (mkF m 25 #[.val (.int p1), .val (.int p2), .val (.int p3), .val (.int n), .val (.int (p2 &&& (n - (1 : Int32)))), .val (.int (p3 &&& (n - (1 : Int32)))), .unset, .unset, .unset, .unset, .unset, .unset] [(.int n)])) _
    refine XS.iload X0.here hx rfl (hb hby at_25) rfl ?_
    show Steps p.tables e below (s₁.setTop (mkF m 27 #[.val (.int p1), .val (.int p2), .val (.int p3), .val (.int n), .val (.int (p2 &&& (n - (1 : Int32)))), .val (.int (p3 &&& (n - (1 : Int32)))), .unset, .unset, .unset, .unset, .unset, .unset] [(.int (p2 &&& (n - (1 : Int32)))), (.int n)])) _
    refine XS.iload X0.here hx rfl (hb hby at_27) rfl ?_
    exact kt)
  have hpos := own_good_pos _ _ hg
  obtain ⟨i0, i1⟩ := own_mask p2 n hpos
  obtain ⟨j0, j1⟩ := own_mask p3 n hpos
  obtain ⟨i, hi⟩ : ∃ i, (p2 &&& (n - (1 : Int32))) = i := ⟨_, rfl⟩
  obtain ⟨j, hj⟩ : ∃ j, (p3 &&& (n - (1 : Int32))) = j := ⟨_, rfl⟩
  rw [hi] at i0 i1
  rw [hj] at j0 j1
  rw [hi] at pre2
  rw [hj] at pre2
  obtain ⟨_, _, ⟨T3, L3, k3, n3⟩, -, X3, ⟨Lc3, hQ3, l3, y3, z3⟩, st3⟩ := Jvm.LawKit.callS X0 hx (y := (⟨"com/example/cleave/cleave/tool/QuadrantOrder", "index", "(III)I"⟩ : MethodName)) hown (mvT hZ (hw _ (List.mem_of_getElem? (i := 1) rfl))) (mvT hZ (hw _ (List.mem_of_getElem? (i := 2) rfl))) (mvT hZ (hw _ (List.mem_of_getElem? (i := 3) rfl))) (mvT hZ (hw _ (List.mem_of_getElem? (i := 4) rfl))) (by decide) (backOf (W := 0) (rm1 l Z a0 hw [] tn n i j h0 n0 Z0 hg hs i0 i1 j0 j1) hZ (hw _ (List.mem_of_getElem? (i := 4) rfl)) (hw _ (List.mem_of_getElem? (i := 3) rfl)) (by decide) (by decide)) (g := (mkF m 29 #[.val (.int p1), .val (.int p2), .val (.int p3), .val (.int n), .val (.int i), .val (.int j), .unset, .unset, .unset, .unset, .unset, .unset] [(.int j), (.int i), (.int n)])) rfl (by rw [hml]; rfl) (argsL := [(.int n), (.int i), (.int j)]) (rest := []) (lenOf pd_0_0 rfl) rfl (by show 2 * 0 + _ ≤ _; exact Nat.le_of_eq rfl) (hb hby at_29) (fun _ _ => ⟨rfl, e0, (by decide : 0 + 0 ≤ _), (by decide : 0 + 0 ≤ _)⟩)
  dsimp only [Pt.U, Pt.locs, Pt.cells, Pt.slots] at X3 l3 y3 z3 st3 hQ3
  subst l3 y3 z3
  obtain ⟨rfl, N3q, e3⟩ := hQ3
  have N3 := Fr.app N0 N3q
  have pre4 : ∀ t, Steps p.tables e below (T3.setTop (mkF m 32 #[.val (.int p1), .val (.int p2), .val (.int p3), .val (.int n), .val (.int i), .val (.int j), .unset, .unset, .unset, .unset, .unset, .unset] [(.int (Int32.ofInt (own_ix tn n.toInt i.toInt j.toInt)))])) t → Steps p.tables e below (s₁.setTop (entryFrame m #[(.int p1), (.int p2), (.int p3)] maxLocals)) t := fun t kt => pre2 t (st3 t kt)
  obtain ⟨k1, k2⟩ := own_chk hg hs i0 i1 j0 j1
  have pre5 : ∀ t, Steps p.tables e below (T3.setTop (mkF m 49 #[.val (.int p1), .val (.int p2), .val (.int p3), .val (.int n), .val (.int i), .val (.int j), .val (.int (Int32.ofInt (own_ix tn n.toInt i.toInt j.toInt))), .unset, .unset, .unset, .unset, .unset] [])) t → Steps p.tables e below (s₁.setTop (entryFrame m #[(.int p1), (.int p2), (.int p3)] maxLocals)) t := fun t kt => pre4 t (by
    show Steps p.tables e below (T3.setTop (mkF m 32 #[.val (.int p1), .val (.int p2), .val (.int p3), .val (.int n), .val (.int i), .val (.int j), .unset, .unset, .unset, .unset, .unset, .unset] [(.int (Int32.ofInt (own_ix tn n.toInt i.toInt j.toInt)))])) _
    refine XS.istore X3.here hx rfl (hb hby at_32) rfl (l' := #[.val (.int p1), .val (.int p2), .val (.int p3), .val (.int n), .val (.int i), .val (.int j), .val (.int (Int32.ofInt (own_ix tn n.toInt i.toInt j.toInt))), .unset, .unset, .unset, .unset, .unset]) rfl ?_
    show Steps p.tables e below (T3.setTop (mkF m 34 #[.val (.int p1), .val (.int p2), .val (.int p3), .val (.int n), .val (.int i), .val (.int j), .val (.int (Int32.ofInt (own_ix tn n.toInt i.toInt j.toInt))), .unset, .unset, .unset, .unset, .unset] [])) _
    refine XS.iload X3.here hx rfl (hb hby at_34) rfl ?_
    show Steps p.tables e below (T3.setTop (mkF m 36 #[.val (.int p1), .val (.int p2), .val (.int p3), .val (.int n), .val (.int i), .val (.int j), .val (.int (Int32.ofInt (own_ix tn n.toInt i.toInt j.toInt))), .unset, .unset, .unset, .unset, .unset] [(.int (Int32.ofInt (own_ix tn n.toInt i.toInt j.toInt)))])) _
    refine XS.ifNo X3.here hx rfl (hb hby at_36) rfl ((if0 _ _).trans (flt k1).1) ?_
    show Steps p.tables e below (T3.setTop (mkF m 39 #[.val (.int p1), .val (.int p2), .val (.int p3), .val (.int n), .val (.int i), .val (.int j), .val (.int (Int32.ofInt (own_ix tn n.toInt i.toInt j.toInt))), .unset, .unset, .unset, .unset, .unset] [])) _
    refine XS.iload X3.here hx rfl (hb hby at_39) rfl ?_
    show Steps p.tables e below (T3.setTop (mkF m 41 #[.val (.int p1), .val (.int p2), .val (.int p3), .val (.int n), .val (.int i), .val (.int j), .val (.int (Int32.ofInt (own_ix tn n.toInt i.toInt j.toInt))), .unset, .unset, .unset, .unset, .unset] [(.int (Int32.ofInt (own_ix tn n.toInt i.toInt j.toInt)))])) _
    refine XS.iloadN X3.here hx rfl (hb hby at_41) rfl ?_
    show Steps p.tables e below (T3.setTop (mkF m 42 #[.val (.int p1), .val (.int p2), .val (.int p3), .val (.int n), .val (.int i), .val (.int j), .val (.int (Int32.ofInt (own_ix tn n.toInt i.toInt j.toInt))), .unset, .unset, .unset, .unset, .unset] [(.int n), (.int (Int32.ofInt (own_ix tn n.toInt i.toInt j.toInt)))])) _
    refine XS.iloadN X3.here hx rfl (hb hby at_42) rfl ?_
    show Steps p.tables e below (T3.setTop (mkF m 43 #[.val (.int p1), .val (.int p2), .val (.int p3), .val (.int n), .val (.int i), .val (.int j), .val (.int (Int32.ofInt (own_ix tn n.toInt i.toInt j.toInt))), .unset, .unset, .unset, .unset, .unset] [(.int n), (.int n), (.int (Int32.ofInt (own_ix tn n.toInt i.toInt j.toInt)))])) _
    refine XS.imul X3.here hx rfl (hb hby at_43) rfl ?_
    show Steps p.tables e below (T3.setTop (mkF m 44 #[.val (.int p1), .val (.int p2), .val (.int p3), .val (.int n), .val (.int i), .val (.int j), .val (.int (Int32.ofInt (own_ix tn n.toInt i.toInt j.toInt))), .unset, .unset, .unset, .unset, .unset] [(.int (n * n)), (.int (Int32.ofInt (own_ix tn n.toInt i.toInt j.toInt)))])) _
    refine XS.icmpYes X3.here hx rfl (pc0 := 44) (pc' := 49) rfl (hb hby at_44) rfl (tlt k2).1 (by decide) (by decide) ?_
    exact kt)
  have e64 : (64 : Int32).toInt = 64 := by decide
  cases tn with
  | zero =>
    have c64 : ¬ (64 : Int32) < n := by rw [Int32.lt_iff_toInt_lt]; have := hg.2; omega
    have pre6 : ∀ t, Steps p.tables e below (T3.setTop (mkF m 72 #[.val (.int p1), .val (.int p2), .val (.int p3), .val (.int n), .val (.int i), .val (.int j), .val (.int (Int32.ofInt (own_ix 0 n.toInt i.toInt j.toInt))), .unset, .unset, .unset, .unset, .unset] [(.int (1 : Int32))])) t → Steps p.tables e below (s₁.setTop (entryFrame m #[(.int p1), (.int p2), (.int p3)] maxLocals)) t := fun t kt => pre5 t (by
      show Steps p.tables e below (T3.setTop (mkF m 49 #[.val (.int p1), .val (.int p2), .val (.int p3), .val (.int n), .val (.int i), .val (.int j), .val (.int (Int32.ofInt (own_ix 0 n.toInt i.toInt j.toInt))), .unset, .unset, .unset, .unset, .unset] [])) _
      refine XS.iloadN X3.here hx rfl (hb hby at_49) rfl ?_
      show Steps p.tables e below (T3.setTop (mkF m 50 #[.val (.int p1), .val (.int p2), .val (.int p3), .val (.int n), .val (.int i), .val (.int j), .val (.int (Int32.ofInt (own_ix 0 n.toInt i.toInt j.toInt))), .unset, .unset, .unset, .unset, .unset] [(.int n)])) _
      refine XS.bipush X3.here hx rfl (hb hby at_50) ?_
      show Steps p.tables e below (T3.setTop (mkF m 52 #[.val (.int p1), .val (.int p2), .val (.int p3), .val (.int n), .val (.int i), .val (.int j), .val (.int (Int32.ofInt (own_ix 0 n.toInt i.toInt j.toInt))), .unset, .unset, .unset, .unset, .unset] [(.int (64 : Int32)), (.int n)])) _
      refine XS.icmpNo X3.here hx rfl (hb hby at_52) rfl (flt c64).2.2.1 ?_
      show Steps p.tables e below (T3.setTop (mkF m 55 #[.val (.int p1), .val (.int p2), .val (.int p3), .val (.int n), .val (.int i), .val (.int j), .val (.int (Int32.ofInt (own_ix 0 n.toInt i.toInt j.toInt))), .unset, .unset, .unset, .unset, .unset] [])) _
      refine XS.iload X3.here hx rfl (hb hby at_55) rfl ?_
      show Steps p.tables e below (T3.setTop (mkF m 57 #[.val (.int p1), .val (.int p2), .val (.int p3), .val (.int n), .val (.int i), .val (.int j), .val (.int (Int32.ofInt (own_ix 0 n.toInt i.toInt j.toInt))), .unset, .unset, .unset, .unset, .unset] [(.int (Int32.ofInt (own_ix 0 n.toInt i.toInt j.toInt)))])) _
      refine XS.iload X3.here hx rfl (hb hby at_57) rfl ?_
      show Steps p.tables e below (T3.setTop (mkF m 59 #[.val (.int p1), .val (.int p2), .val (.int p3), .val (.int n), .val (.int i), .val (.int j), .val (.int (Int32.ofInt (own_ix 0 n.toInt i.toInt j.toInt))), .unset, .unset, .unset, .unset, .unset] [(.int i), (.int (Int32.ofInt (own_ix 0 n.toInt i.toInt j.toInt)))])) _
      refine XS.iloadN X3.here hx rfl (hb hby at_59) rfl ?_
      show Steps p.tables e below (T3.setTop (mkF m 60 #[.val (.int p1), .val (.int p2), .val (.int p3), .val (.int n), .val (.int i), .val (.int j), .val (.int (Int32.ofInt (own_ix 0 n.toInt i.toInt j.toInt))), .unset, .unset, .unset, .unset, .unset] [(.int n), (.int i), (.int (Int32.ofInt (own_ix 0 n.toInt i.toInt j.toInt)))])) _
      refine XS.imul X3.here hx rfl (hb hby at_60) rfl ?_
      show Steps p.tables e below (T3.setTop (mkF m 61 #[.val (.int p1), .val (.int p2), .val (.int p3), .val (.int n), .val (.int i), .val (.int j), .val (.int (Int32.ofInt (own_ix 0 n.toInt i.toInt j.toInt))), .unset, .unset, .unset, .unset, .unset] [(.int (i * n)), (.int (Int32.ofInt (own_ix 0 n.toInt i.toInt j.toInt)))])) _
      refine XS.iload X3.here hx rfl (hb hby at_61) rfl ?_
      show Steps p.tables e below (T3.setTop (mkF m 63 #[.val (.int p1), .val (.int p2), .val (.int p3), .val (.int n), .val (.int i), .val (.int j), .val (.int (Int32.ofInt (own_ix 0 n.toInt i.toInt j.toInt))), .unset, .unset, .unset, .unset, .unset] [(.int j), (.int (i * n)), (.int (Int32.ofInt (own_ix 0 n.toInt i.toInt j.toInt)))])) _
      refine XS.iadd X3.here hx rfl (hb hby at_63) rfl ?_
      show Steps p.tables e below (T3.setTop (mkF m 64 #[.val (.int p1), .val (.int p2), .val (.int p3), .val (.int n), .val (.int i), .val (.int j), .val (.int (Int32.ofInt (own_ix 0 n.toInt i.toInt j.toInt))), .unset, .unset, .unset, .unset, .unset] [(.int ((i * n) + j)), (.int (Int32.ofInt (own_ix 0 n.toInt i.toInt j.toInt)))])) _
      refine XS.icmpNo X3.here hx rfl (hb hby at_64) rfl (teq (own_small hg hs i0 i1 j0 j1)).2 ?_
      show Steps p.tables e below (T3.setTop (mkF m 67 #[.val (.int p1), .val (.int p2), .val (.int p3), .val (.int n), .val (.int i), .val (.int j), .val (.int (Int32.ofInt (own_ix 0 n.toInt i.toInt j.toInt))), .unset, .unset, .unset, .unset, .unset] [])) _
      refine XS.iconst X3.here hx rfl (hb hby at_67) ?_
      show Steps p.tables e below (T3.setTop (mkF m 68 #[.val (.int p1), .val (.int p2), .val (.int p3), .val (.int n), .val (.int i), .val (.int j), .val (.int (Int32.ofInt (own_ix 0 n.toInt i.toInt j.toInt))), .unset, .unset, .unset, .unset, .unset] [(.int (1 : Int32))])) _
      refine XS.goto X3.here hx rfl (pc0 := 68) (pc' := 72) rfl (hb hby at_68) (by decide) (by decide) ?_
      exact kt)
    obtain ⟨fs, hr, hrun, hended, hW, hsame⟩ := X3.leave (v := some (.int (1 : Int32))) (fun h => by rw [Bd.returns] at h; cases h)
    refine ⟨_, _, pre6 _ ?_, hrun, hended, _, _, rfl, ?_, ⟨_, rfl⟩, hW, hsame.mono (by decide) (by decide)⟩
    · show Steps p.tables e below (T3.setTop (mkF m 72 #[.val (.int p1), .val (.int p2), .val (.int p3), .val (.int n), .val (.int i), .val (.int j), .val (.int (Int32.ofInt (own_ix 0 n.toInt i.toInt j.toInt))), .unset, .unset, .unset, .unset, .unset] [(.int (1 : Int32))])) _
      exact retN X3 hx (t := .boolean) Bd.returns (by simp) (hb hby at_72) hr
    · show Q0 Z p1 p2 p3 h0 n0 _ T3.heap _
      rw [e3]
      exact ⟨rfl, N3⟩
  | succ tn =>
    have c64 : (64 : Int32) < n := by rw [Int32.lt_iff_toInt_lt]; have := hg.1; omega
    have pre7 : ∀ t, Steps p.tables e below (T3.setTop (mkF m 78 #[.val (.int p1), .val (.int p2), .val (.int p3), .val (.int n), .val (.int i), .val (.int j), .val (.int (Int32.ofInt (own_ix (tn + 1) n.toInt i.toInt j.toInt))), .val (.int (n / (2 : Int32))), .unset, .unset, .unset, .unset] [])) t → Steps p.tables e below (s₁.setTop (entryFrame m #[(.int p1), (.int p2), (.int p3)] maxLocals)) t := fun t kt => pre5 t (by
      show Steps p.tables e below (T3.setTop (mkF m 49 #[.val (.int p1), .val (.int p2), .val (.int p3), .val (.int n), .val (.int i), .val (.int j), .val (.int (Int32.ofInt (own_ix (tn + 1) n.toInt i.toInt j.toInt))), .unset, .unset, .unset, .unset, .unset] [])) _
      refine XS.iloadN X3.here hx rfl (hb hby at_49) rfl ?_
      show Steps p.tables e below (T3.setTop (mkF m 50 #[.val (.int p1), .val (.int p2), .val (.int p3), .val (.int n), .val (.int i), .val (.int j), .val (.int (Int32.ofInt (own_ix (tn + 1) n.toInt i.toInt j.toInt))), .unset, .unset, .unset, .unset, .unset] [(.int n)])) _
      refine XS.bipush X3.here hx rfl (hb hby at_50) ?_
      show Steps p.tables e below (T3.setTop (mkF m 52 #[.val (.int p1), .val (.int p2), .val (.int p3), .val (.int n), .val (.int i), .val (.int j), .val (.int (Int32.ofInt (own_ix (tn + 1) n.toInt i.toInt j.toInt))), .unset, .unset, .unset, .unset, .unset] [(.int (64 : Int32)), (.int n)])) _
      refine XS.icmpYes X3.here hx rfl (pc0 := 52) (pc' := 73) rfl (hb hby at_52) rfl (tlt c64).2.2.1 (by decide) (by decide) ?_
      show Steps p.tables e below (T3.setTop (mkF m 73 #[.val (.int p1), .val (.int p2), .val (.int p3), .val (.int n), .val (.int i), .val (.int j), .val (.int (Int32.ofInt (own_ix (tn + 1) n.toInt i.toInt j.toInt))), .unset, .unset, .unset, .unset, .unset] [])) _
      refine XS.iloadN X3.here hx rfl (hb hby at_73) rfl ?_
      show Steps p.tables e below (T3.setTop (mkF m 74 #[.val (.int p1), .val (.int p2), .val (.int p3), .val (.int n), .val (.int i), .val (.int j), .val (.int (Int32.ofInt (own_ix (tn + 1) n.toInt i.toInt j.toInt))), .unset, .unset, .unset, .unset, .unset] [(.int n)])) _
      refine XS.iconst X3.here hx rfl (hb hby at_74) ?_
      show Steps p.tables e below (T3.setTop (mkF m 75 #[.val (.int p1), .val (.int p2), .val (.int p3), .val (.int n), .val (.int i), .val (.int j), .val (.int (Int32.ofInt (own_ix (tn + 1) n.toInt i.toInt j.toInt))), .unset, .unset, .unset, .unset, .unset] [(.int (2 : Int32)), (.int n)])) _
      refine XS.idiv X3.here hx rfl (hb hby at_75) rfl (by decide) ?_
      show Steps p.tables e below (T3.setTop (mkF m 76 #[.val (.int p1), .val (.int p2), .val (.int p3), .val (.int n), .val (.int i), .val (.int j), .val (.int (Int32.ofInt (own_ix (tn + 1) n.toInt i.toInt j.toInt))), .unset, .unset, .unset, .unset, .unset] [(.int (n / (2 : Int32)))])) _
      refine XS.istore X3.here hx rfl (hb hby at_76) rfl (l' := #[.val (.int p1), .val (.int p2), .val (.int p3), .val (.int n), .val (.int i), .val (.int j), .val (.int (Int32.ofInt (own_ix (tn + 1) n.toInt i.toInt j.toInt))), .val (.int (n / (2 : Int32))), .unset, .unset, .unset, .unset]) rfl ?_
      exact kt)
    obtain ⟨hg', hs', i0', i1', j0', j1', hfin⟩ := own_fin hg hs i0 i1 j0 j1
    have dm8 : ∀ tt, Steps p.tables e below (T3.setTop (mkF m 90 #[.val (.int p1), .val (.int p2), .val (.int p3), .val (.int n), .val (.int i), .val (.int j), .val (.int (Int32.ofInt (own_ix (tn + 1) n.toInt i.toInt j.toInt))), .val (.int (n / (2 : Int32))), .unset, .unset, .unset, .unset] [(.int (own_q1 i (n / (2 : Int32))))])) tt → Steps p.tables e below (T3.setTop (mkF m 78 #[.val (.int p1), .val (.int p2), .val (.int p3), .val (.int n), .val (.int i), .val (.int j), .val (.int (Int32.ofInt (own_ix (tn + 1) n.toInt i.toInt j.toInt))), .val (.int (n / (2 : Int32))), .unset, .unset, .unset, .unset] [])) tt := by
      intro tt kt
      by_cases cc : i < (n / (2 : Int32))
      · rw [show (own_q1 i (n / (2 : Int32))) = (0 : Int32) from if_pos cc] at kt
        show Steps p.tables e below (T3.setTop (mkF m 78 #[.val (.int p1), .val (.int p2), .val (.int p3), .val (.int n), .val (.int i), .val (.int j), .val (.int (Int32.ofInt (own_ix (tn + 1) n.toInt i.toInt j.toInt))), .val (.int (n / (2 : Int32))), .unset, .unset, .unset, .unset] [])) _
        refine XS.iload X3.here hx rfl (hb hby at_78) rfl ?_
        show Steps p.tables e below (T3.setTop (mkF m 80 #[.val (.int p1), .val (.int p2), .val (.int p3), .val (.int n), .val (.int i), .val (.int j), .val (.int (Int32.ofInt (own_ix (tn + 1) n.toInt i.toInt j.toInt))), .val (.int (n / (2 : Int32))), .unset, .unset, .unset, .unset] [(.int i)])) _
        refine XS.iload X3.here hx rfl (hb hby at_80) rfl ?_
        show Steps p.tables e below (T3.setTop (mkF m 82 #[.val (.int p1), .val (.int p2), .val (.int p3), .val (.int n), .val (.int i), .val (.int j), .val (.int (Int32.ofInt (own_ix (tn + 1) n.toInt i.toInt j.toInt))), .val (.int (n / (2 : Int32))), .unset, .unset, .unset, .unset] [(.int (n / (2 : Int32))), (.int i)])) _
        refine XS.icmpNo X3.here hx rfl (hb hby at_82) rfl (tlt cc).2.1 ?_
        show Steps p.tables e below (T3.setTop (mkF m 85 #[.val (.int p1), .val (.int p2), .val (.int p3), .val (.int n), .val (.int i), .val (.int j), .val (.int (Int32.ofInt (own_ix (tn + 1) n.toInt i.toInt j.toInt))), .val (.int (n / (2 : Int32))), .unset, .unset, .unset, .unset] [])) _
        refine XS.iconst X3.here hx rfl (hb hby at_85) ?_
        show Steps p.tables e below (T3.setTop (mkF m 86 #[.val (.int p1), .val (.int p2), .val (.int p3), .val (.int n), .val (.int i), .val (.int j), .val (.int (Int32.ofInt (own_ix (tn + 1) n.toInt i.toInt j.toInt))), .val (.int (n / (2 : Int32))), .unset, .unset, .unset, .unset] [(.int (0 : Int32))])) _
        refine XS.goto X3.here hx rfl (pc0 := 86) (pc' := 90) rfl (hb hby at_86) (by decide) (by decide) ?_
        exact kt
      · rw [show (own_q1 i (n / (2 : Int32))) = (1 : Int32) from if_neg cc] at kt
        show Steps p.tables e below (T3.setTop (mkF m 78 #[.val (.int p1), .val (.int p2), .val (.int p3), .val (.int n), .val (.int i), .val (.int j), .val (.int (Int32.ofInt (own_ix (tn + 1) n.toInt i.toInt j.toInt))), .val (.int (n / (2 : Int32))), .unset, .unset, .unset, .unset] [])) _
        refine XS.iload X3.here hx rfl (hb hby at_78) rfl ?_
        show Steps p.tables e below (T3.setTop (mkF m 80 #[.val (.int p1), .val (.int p2), .val (.int p3), .val (.int n), .val (.int i), .val (.int j), .val (.int (Int32.ofInt (own_ix (tn + 1) n.toInt i.toInt j.toInt))), .val (.int (n / (2 : Int32))), .unset, .unset, .unset, .unset] [(.int i)])) _
        refine XS.iload X3.here hx rfl (hb hby at_80) rfl ?_
        show Steps p.tables e below (T3.setTop (mkF m 82 #[.val (.int p1), .val (.int p2), .val (.int p3), .val (.int n), .val (.int i), .val (.int j), .val (.int (Int32.ofInt (own_ix (tn + 1) n.toInt i.toInt j.toInt))), .val (.int (n / (2 : Int32))), .unset, .unset, .unset, .unset] [(.int (n / (2 : Int32))), (.int i)])) _
        refine XS.icmpYes X3.here hx rfl (pc0 := 82) (pc' := 89) rfl (hb hby at_82) rfl (flt cc).2.1 (by decide) (by decide) ?_
        show Steps p.tables e below (T3.setTop (mkF m 89 #[.val (.int p1), .val (.int p2), .val (.int p3), .val (.int n), .val (.int i), .val (.int j), .val (.int (Int32.ofInt (own_ix (tn + 1) n.toInt i.toInt j.toInt))), .val (.int (n / (2 : Int32))), .unset, .unset, .unset, .unset] [])) _
        refine XS.iconst X3.here hx rfl (hb hby at_89) ?_
        exact kt
    have pre9 : ∀ t, Steps p.tables e below (T3.setTop (mkF m 90 #[.val (.int p1), .val (.int p2), .val (.int p3), .val (.int n), .val (.int i), .val (.int j), .val (.int (Int32.ofInt (own_ix (tn + 1) n.toInt i.toInt j.toInt))), .val (.int (n / (2 : Int32))), .unset, .unset, .unset, .unset] [(.int (own_q1 i (n / (2 : Int32))))])) t → Steps p.tables e below (s₁.setTop (entryFrame m #[(.int p1), (.int p2), (.int p3)] maxLocals)) t := fun t kt => pre7 t (dm8 t kt)
    have pre10 : ∀ t, Steps p.tables e below (T3.setTop (mkF m 92 #[.val (.int p1), .val (.int p2), .val (.int p3), .val (.int n), .val (.int i), .val (.int j), .val (.int (Int32.ofInt (own_ix (tn + 1) n.toInt i.toInt j.toInt))), .val (.int (n / (2 : Int32))), .val (.int (own_q1 i (n / (2 : Int32)))), .unset, .unset, .unset] [])) t → Steps p.tables e below (s₁.setTop (entryFrame m #[(.int p1), (.int p2), (.int p3)] maxLocals)) t := fun t kt => pre9 t (by
      show Steps p.tables e below (T3.setTop (mkF m 90 #[.val (.int p1), .val (.int p2), .val (.int p3), .val (.int n), .val (.int i), .val (.int j), .val (.int (Int32.ofInt (own_ix (tn + 1) n.toInt i.toInt j.toInt))), .val (.int (n / (2 : Int32))), .unset, .unset, .unset, .unset] [(.int (own_q1 i (n / (2 : Int32))))])) _
      refine XS.istore X3.here hx rfl (hb hby at_90) rfl (l' := #[.val (.int p1), .val (.int p2), .val (.int p3), .val (.int n), .val (.int i), .val (.int j), .val (.int (Int32.ofInt (own_ix (tn + 1) n.toInt i.toInt j.toInt))), .val (.int (n / (2 : Int32))), .val (.int (own_q1 i (n / (2 : Int32)))), .unset, .unset, .unset]) rfl ?_
      exact kt)
    have dm11 : ∀ tt, Steps p.tables e below (T3.setTop (mkF m 104 #[.val (.int p1), .val (.int p2), .val (.int p3), .val (.int n), .val (.int i), .val (.int j), .val (.int (Int32.ofInt (own_ix (tn + 1) n.toInt i.toInt j.toInt))), .val (.int (n / (2 : Int32))), .val (.int (own_q1 i (n / (2 : Int32)))), .unset, .unset, .unset] [(.int (own_q1 j (n / (2 : Int32))))])) tt → Steps p.tables e below (T3.setTop (mkF m 92 #[.val (.int p1), .val (.int p2), .val (.int p3), .val (.int n), .val (.int i), .val (.int j), .val (.int (Int32.ofInt (own_ix (tn + 1) n.toInt i.toInt j.toInt))), .val (.int (n / (2 : Int32))), .val (.int (own_q1 i (n / (2 : Int32)))), .unset, .unset, .unset] [])) tt := by
      intro tt kt
      by_cases cc : j < (n / (2 : Int32))
      · rw [show (own_q1 j (n / (2 : Int32))) = (0 : Int32) from if_pos cc] at kt
        show Steps p.tables e below (T3.setTop (mkF m 92 #[.val (.int p1), .val (.int p2), .val (.int p3), .val (.int n), .val (.int i), .val (.int j), .val (.int (Int32.ofInt (own_ix (tn + 1) n.toInt i.toInt j.toInt))), .val (.int (n / (2 : Int32))), .val (.int (own_q1 i (n / (2 : Int32)))), .unset, .unset, .unset] [])) _
        refine XS.iload X3.here hx rfl (hb hby at_92) rfl ?_
        show Steps p.tables e below (T3.setTop (mkF m 94 #[.val (.int p1), .val (.int p2), .val (.int p3), .val (.int n), .val (.int i), .val (.int j), .val (.int (Int32.ofInt (own_ix (tn + 1) n.toInt i.toInt j.toInt))), .val (.int (n / (2 : Int32))), .val (.int (own_q1 i (n / (2 : Int32)))), .unset, .unset, .unset] [(.int j)])) _
        refine XS.iload X3.here hx rfl (hb hby at_94) rfl ?_
        show Steps p.tables e below (T3.setTop (mkF m 96 #[.val (.int p1), .val (.int p2), .val (.int p3), .val (.int n), .val (.int i), .val (.int j), .val (.int (Int32.ofInt (own_ix (tn + 1) n.toInt i.toInt j.toInt))), .val (.int (n / (2 : Int32))), .val (.int (own_q1 i (n / (2 : Int32)))), .unset, .unset, .unset] [(.int (n / (2 : Int32))), (.int j)])) _
        refine XS.icmpNo X3.here hx rfl (hb hby at_96) rfl (tlt cc).2.1 ?_
        show Steps p.tables e below (T3.setTop (mkF m 99 #[.val (.int p1), .val (.int p2), .val (.int p3), .val (.int n), .val (.int i), .val (.int j), .val (.int (Int32.ofInt (own_ix (tn + 1) n.toInt i.toInt j.toInt))), .val (.int (n / (2 : Int32))), .val (.int (own_q1 i (n / (2 : Int32)))), .unset, .unset, .unset] [])) _
        refine XS.iconst X3.here hx rfl (hb hby at_99) ?_
        show Steps p.tables e below (T3.setTop (mkF m 100 #[.val (.int p1), .val (.int p2), .val (.int p3), .val (.int n), .val (.int i), .val (.int j), .val (.int (Int32.ofInt (own_ix (tn + 1) n.toInt i.toInt j.toInt))), .val (.int (n / (2 : Int32))), .val (.int (own_q1 i (n / (2 : Int32)))), .unset, .unset, .unset] [(.int (0 : Int32))])) _
        refine XS.goto X3.here hx rfl (pc0 := 100) (pc' := 104) rfl (hb hby at_100) (by decide) (by decide) ?_
        exact kt
      · rw [show (own_q1 j (n / (2 : Int32))) = (1 : Int32) from if_neg cc] at kt
        show Steps p.tables e below (T3.setTop (mkF m 92 #[.val (.int p1), .val (.int p2), .val (.int p3), .val (.int n), .val (.int i), .val (.int j), .val (.int (Int32.ofInt (own_ix (tn + 1) n.toInt i.toInt j.toInt))), .val (.int (n / (2 : Int32))), .val (.int (own_q1 i (n / (2 : Int32)))), .unset, .unset, .unset] [])) _
        refine XS.iload X3.here hx rfl (hb hby at_92) rfl ?_
        show Steps p.tables e below (T3.setTop (mkF m 94 #[.val (.int p1), .val (.int p2), .val (.int p3), .val (.int n), .val (.int i), .val (.int j), .val (.int (Int32.ofInt (own_ix (tn + 1) n.toInt i.toInt j.toInt))), .val (.int (n / (2 : Int32))), .val (.int (own_q1 i (n / (2 : Int32)))), .unset, .unset, .unset] [(.int j)])) _
        refine XS.iload X3.here hx rfl (hb hby at_94) rfl ?_
        show Steps p.tables e below (T3.setTop (mkF m 96 #[.val (.int p1), .val (.int p2), .val (.int p3), .val (.int n), .val (.int i), .val (.int j), .val (.int (Int32.ofInt (own_ix (tn + 1) n.toInt i.toInt j.toInt))), .val (.int (n / (2 : Int32))), .val (.int (own_q1 i (n / (2 : Int32)))), .unset, .unset, .unset] [(.int (n / (2 : Int32))), (.int j)])) _
        refine XS.icmpYes X3.here hx rfl (pc0 := 96) (pc' := 103) rfl (hb hby at_96) rfl (flt cc).2.1 (by decide) (by decide) ?_
        show Steps p.tables e below (T3.setTop (mkF m 103 #[.val (.int p1), .val (.int p2), .val (.int p3), .val (.int n), .val (.int i), .val (.int j), .val (.int (Int32.ofInt (own_ix (tn + 1) n.toInt i.toInt j.toInt))), .val (.int (n / (2 : Int32))), .val (.int (own_q1 i (n / (2 : Int32)))), .unset, .unset, .unset] [])) _
        refine XS.iconst X3.here hx rfl (hb hby at_103) ?_
        exact kt
    have pre12 : ∀ t, Steps p.tables e below (T3.setTop (mkF m 104 #[.val (.int p1), .val (.int p2), .val (.int p3), .val (.int n), .val (.int i), .val (.int j), .val (.int (Int32.ofInt (own_ix (tn + 1) n.toInt i.toInt j.toInt))), .val (.int (n / (2 : Int32))), .val (.int (own_q1 i (n / (2 : Int32)))), .unset, .unset, .unset] [(.int (own_q1 j (n / (2 : Int32))))])) t → Steps p.tables e below (s₁.setTop (entryFrame m #[(.int p1), (.int p2), (.int p3)] maxLocals)) t := fun t kt => pre10 t (dm11 t kt)
    have pre13 : ∀ t, Steps p.tables e below (T3.setTop (mkF m 133 #[.val (.int p1), .val (.int p2), .val (.int p3), .val (.int n), .val (.int i), .val (.int j), .val (.int (Int32.ofInt (own_ix (tn + 1) n.toInt i.toInt j.toInt))), .val (.int (n / (2 : Int32))), .val (.int (own_q1 i (n / (2 : Int32)))), .val (.int (own_q1 j (n / (2 : Int32)))), .val (.int (((2 : Int32) * (own_q1 i (n / (2 : Int32)))) + (own_q1 j (n / (2 : Int32))))), .unset] [(.int (j - ((own_q1 j (n / (2 : Int32))) * (n / (2 : Int32))))), (.int (i - ((own_q1 i (n / (2 : Int32))) * (n / (2 : Int32))))), (.int (n / (2 : Int32)))])) t → Steps p.tables e below (s₁.setTop (entryFrame m #[(.int p1), (.int p2), (.int p3)] maxLocals)) t := fun t kt => pre12 t (by
      show Steps p.tables e below (T3.setTop (mkF m 104 #[.val (.int p1), .val (.int p2), .val (.int p3), .val (.int n), .val (.int i), .val (.int j), .val (.int (Int32.ofInt (own_ix (tn + 1) n.toInt i.toInt j.toInt))), .val (.int (n / (2 : Int32))), .val (.int (own_q1 i (n / (2 : Int32)))), .unset, .unset, .unset] [(.int (own_q1 j (n / (2 : Int32))))])) _
      refine XS.istore X3.here hx rfl (hb hby at_104) rfl (l' := #[.val (.int p1), .val (.int p2), .val (.int p3), .val (.int n), .val (.int i), .val (.int j), .val (.int (Int32.ofInt (own_ix (tn + 1) n.toInt i.toInt j.toInt))), .val (.int (n / (2 : Int32))), .val (.int (own_q1 i (n / (2 : Int32)))), .val (.int (own_q1 j (n / (2 : Int32)))), .unset, .unset]) rfl ?_
      show Steps p.tables e below (T3.setTop (mkF m 106 #[.val (.int p1), .val (.int p2), .val (.int p3), .val (.int n), .val (.int i), .val (.int j), .val (.int (Int32.ofInt (own_ix (tn + 1) n.toInt i.toInt j.toInt))), .val (.int (n / (2 : Int32))), .val (.int (own_q1 i (n / (2 : Int32)))), .val (.int (own_q1 j (n / (2 : Int32)))), .unset, .unset] [])) _
      refine XS.iconst X3.here hx rfl (hb hby at_106) ?_
      show Steps p.tables e below (T3.setTop (mkF m 107 #[.val (.int p1), .val (.int p2), .val (.int p3), .val (.int n), .val (.int i), .val (.int j), .val (.int (Int32.ofInt (own_ix (tn + 1) n.toInt i.toInt j.toInt))), .val (.int (n / (2 : Int32))), .val (.int (own_q1 i (n / (2 : Int32)))), .val (.int (own_q1 j (n / (2 : Int32)))), .unset, .unset] [(.int (2 : Int32))])) _
      refine XS.iload X3.here hx rfl (hb hby at_107) rfl ?_
      show Steps p.tables e below (T3.setTop (mkF m 109 #[.val (.int p1), .val (.int p2), .val (.int p3), .val (.int n), .val (.int i), .val (.int j), .val (.int (Int32.ofInt (own_ix (tn + 1) n.toInt i.toInt j.toInt))), .val (.int (n / (2 : Int32))), .val (.int (own_q1 i (n / (2 : Int32)))), .val (.int (own_q1 j (n / (2 : Int32)))), .unset, .unset] [(.int (own_q1 i (n / (2 : Int32)))), (.int (2 : Int32))])) _
      refine XS.imul X3.here hx rfl (hb hby at_109) rfl ?_
      show Steps p.tables e below (T3.setTop (mkF m 110 #[.val (.int p1), .val (.int p2), .val (.int p3), .val (.int n), .val (.int i), .val (.int j), .val (.int (Int32.ofInt (own_ix (tn + 1) n.toInt i.toInt j.toInt))), .val (.int (n / (2 : Int32))), .val (.int (own_q1 i (n / (2 : Int32)))), .val (.int (own_q1 j (n / (2 : Int32)))), .unset, .unset] [(.int ((2 : Int32) * (own_q1 i (n / (2 : Int32)))))])) _
      refine XS.iload X3.here hx rfl (hb hby at_110) rfl ?_
      show Steps p.tables e below (T3.setTop (mkF m 112 #[.val (.int p1), .val (.int p2), .val (.int p3), .val (.int n), .val (.int i), .val (.int j), .val (.int (Int32.ofInt (own_ix (tn + 1) n.toInt i.toInt j.toInt))), .val (.int (n / (2 : Int32))), .val (.int (own_q1 i (n / (2 : Int32)))), .val (.int (own_q1 j (n / (2 : Int32)))), .unset, .unset] [(.int (own_q1 j (n / (2 : Int32)))), (.int ((2 : Int32) * (own_q1 i (n / (2 : Int32)))))])) _
      refine XS.iadd X3.here hx rfl (hb hby at_112) rfl ?_
      show Steps p.tables e below (T3.setTop (mkF m 113 #[.val (.int p1), .val (.int p2), .val (.int p3), .val (.int n), .val (.int i), .val (.int j), .val (.int (Int32.ofInt (own_ix (tn + 1) n.toInt i.toInt j.toInt))), .val (.int (n / (2 : Int32))), .val (.int (own_q1 i (n / (2 : Int32)))), .val (.int (own_q1 j (n / (2 : Int32)))), .unset, .unset] [(.int (((2 : Int32) * (own_q1 i (n / (2 : Int32)))) + (own_q1 j (n / (2 : Int32)))))])) _
      refine XS.istore X3.here hx rfl (hb hby at_113) rfl (l' := #[.val (.int p1), .val (.int p2), .val (.int p3), .val (.int n), .val (.int i), .val (.int j), .val (.int (Int32.ofInt (own_ix (tn + 1) n.toInt i.toInt j.toInt))), .val (.int (n / (2 : Int32))), .val (.int (own_q1 i (n / (2 : Int32)))), .val (.int (own_q1 j (n / (2 : Int32)))), .val (.int (((2 : Int32) * (own_q1 i (n / (2 : Int32)))) + (own_q1 j (n / (2 : Int32))))), .unset]) rfl ?_
      show Steps p.tables e below (T3.setTop (mkF m 115 #[.val (.int p1), .val (.int p2), .val (.int p3), .val (.int n), .val (.int i), .val (.int j), .val (.int (Int32.ofInt (own_ix (tn + 1) n.toInt i.toInt j.toInt))), .val (.int (n / (2 : Int32))), .val (.int (own_q1 i (n / (2 : Int32)))), .val (.int (own_q1 j (n / (2 : Int32)))), .val (.int (((2 : Int32) * (own_q1 i (n / (2 : Int32)))) + (own_q1 j (n / (2 : Int32))))), .unset] [])) _
      refine XS.iload X3.here hx rfl (hb hby at_115) rfl ?_
      show Steps p.tables e below (T3.setTop (mkF m 117 #[.val (.int p1), .val (.int p2), .val (.int p3), .val (.int n), .val (.int i), .val (.int j), .val (.int (Int32.ofInt (own_ix (tn + 1) n.toInt i.toInt j.toInt))), .val (.int (n / (2 : Int32))), .val (.int (own_q1 i (n / (2 : Int32)))), .val (.int (own_q1 j (n / (2 : Int32)))), .val (.int (((2 : Int32) * (own_q1 i (n / (2 : Int32)))) + (own_q1 j (n / (2 : Int32))))), .unset] [(.int (n / (2 : Int32)))])) _
      refine XS.iload X3.here hx rfl (hb hby at_117) rfl ?_
      show Steps p.tables e below (T3.setTop (mkF m 119 #[.val (.int p1), .val (.int p2), .val (.int p3), .val (.int n), .val (.int i), .val (.int j), .val (.int (Int32.ofInt (own_ix (tn + 1) n.toInt i.toInt j.toInt))), .val (.int (n / (2 : Int32))), .val (.int (own_q1 i (n / (2 : Int32)))), .val (.int (own_q1 j (n / (2 : Int32)))), .val (.int (((2 : Int32) * (own_q1 i (n / (2 : Int32)))) + (own_q1 j (n / (2 : Int32))))), .unset] [(.int i), (.int (n / (2 : Int32)))])) _
      refine XS.iload X3.here hx rfl (hb hby at_119) rfl ?_
      show Steps p.tables e below (T3.setTop (mkF m 121 #[.val (.int p1), .val (.int p2), .val (.int p3), .val (.int n), .val (.int i), .val (.int j), .val (.int (Int32.ofInt (own_ix (tn + 1) n.toInt i.toInt j.toInt))), .val (.int (n / (2 : Int32))), .val (.int (own_q1 i (n / (2 : Int32)))), .val (.int (own_q1 j (n / (2 : Int32)))), .val (.int (((2 : Int32) * (own_q1 i (n / (2 : Int32)))) + (own_q1 j (n / (2 : Int32))))), .unset] [(.int (own_q1 i (n / (2 : Int32)))), (.int i), (.int (n / (2 : Int32)))])) _
      refine XS.iload X3.here hx rfl (hb hby at_121) rfl ?_
      show Steps p.tables e below (T3.setTop (mkF m 123 #[.val (.int p1), .val (.int p2), .val (.int p3), .val (.int n), .val (.int i), .val (.int j), .val (.int (Int32.ofInt (own_ix (tn + 1) n.toInt i.toInt j.toInt))), .val (.int (n / (2 : Int32))), .val (.int (own_q1 i (n / (2 : Int32)))), .val (.int (own_q1 j (n / (2 : Int32)))), .val (.int (((2 : Int32) * (own_q1 i (n / (2 : Int32)))) + (own_q1 j (n / (2 : Int32))))), .unset] [(.int (n / (2 : Int32))), (.int (own_q1 i (n / (2 : Int32)))), (.int i), (.int (n / (2 : Int32)))])) _
      refine XS.imul X3.here hx rfl (hb hby at_123) rfl ?_
      show Steps p.tables e below (T3.setTop (mkF m 124 #[.val (.int p1), .val (.int p2), .val (.int p3), .val (.int n), .val (.int i), .val (.int j), .val (.int (Int32.ofInt (own_ix (tn + 1) n.toInt i.toInt j.toInt))), .val (.int (n / (2 : Int32))), .val (.int (own_q1 i (n / (2 : Int32)))), .val (.int (own_q1 j (n / (2 : Int32)))), .val (.int (((2 : Int32) * (own_q1 i (n / (2 : Int32)))) + (own_q1 j (n / (2 : Int32))))), .unset] [(.int ((own_q1 i (n / (2 : Int32))) * (n / (2 : Int32)))), (.int i), (.int (n / (2 : Int32)))])) _
      refine XS.isub X3.here hx rfl (hb hby at_124) rfl ?_
      show Steps p.tables e below (T3.setTop (mkF m 125 #[.val (.int p1), .val (.int p2), .val (.int p3), .val (.int n), .val (.int i), .val (.int j), .val (.int (Int32.ofInt (own_ix (tn + 1) n.toInt i.toInt j.toInt))), .val (.int (n / (2 : Int32))), .val (.int (own_q1 i (n / (2 : Int32)))), .val (.int (own_q1 j (n / (2 : Int32)))), .val (.int (((2 : Int32) * (own_q1 i (n / (2 : Int32)))) + (own_q1 j (n / (2 : Int32))))), .unset] [(.int (i - ((own_q1 i (n / (2 : Int32))) * (n / (2 : Int32))))), (.int (n / (2 : Int32)))])) _
      refine XS.iload X3.here hx rfl (hb hby at_125) rfl ?_
      show Steps p.tables e below (T3.setTop (mkF m 127 #[.val (.int p1), .val (.int p2), .val (.int p3), .val (.int n), .val (.int i), .val (.int j), .val (.int (Int32.ofInt (own_ix (tn + 1) n.toInt i.toInt j.toInt))), .val (.int (n / (2 : Int32))), .val (.int (own_q1 i (n / (2 : Int32)))), .val (.int (own_q1 j (n / (2 : Int32)))), .val (.int (((2 : Int32) * (own_q1 i (n / (2 : Int32)))) + (own_q1 j (n / (2 : Int32))))), .unset] [(.int j), (.int (i - ((own_q1 i (n / (2 : Int32))) * (n / (2 : Int32))))), (.int (n / (2 : Int32)))])) _
      refine XS.iload X3.here hx rfl (hb hby at_127) rfl ?_
      show Steps p.tables e below (T3.setTop (mkF m 129 #[.val (.int p1), .val (.int p2), .val (.int p3), .val (.int n), .val (.int i), .val (.int j), .val (.int (Int32.ofInt (own_ix (tn + 1) n.toInt i.toInt j.toInt))), .val (.int (n / (2 : Int32))), .val (.int (own_q1 i (n / (2 : Int32)))), .val (.int (own_q1 j (n / (2 : Int32)))), .val (.int (((2 : Int32) * (own_q1 i (n / (2 : Int32)))) + (own_q1 j (n / (2 : Int32))))), .unset] [(.int (own_q1 j (n / (2 : Int32)))), (.int j), (.int (i - ((own_q1 i (n / (2 : Int32))) * (n / (2 : Int32))))), (.int (n / (2 : Int32)))])) _
      refine XS.iload X3.here hx rfl (hb hby at_129) rfl ?_
      show Steps p.tables e below (T3.setTop (mkF m 131 #[.val (.int p1), .val (.int p2), .val (.int p3), .val (.int n), .val (.int i), .val (.int j), .val (.int (Int32.ofInt (own_ix (tn + 1) n.toInt i.toInt j.toInt))), .val (.int (n / (2 : Int32))), .val (.int (own_q1 i (n / (2 : Int32)))), .val (.int (own_q1 j (n / (2 : Int32)))), .val (.int (((2 : Int32) * (own_q1 i (n / (2 : Int32)))) + (own_q1 j (n / (2 : Int32))))), .unset] [(.int (n / (2 : Int32))), (.int (own_q1 j (n / (2 : Int32)))), (.int j), (.int (i - ((own_q1 i (n / (2 : Int32))) * (n / (2 : Int32))))), (.int (n / (2 : Int32)))])) _
      refine XS.imul X3.here hx rfl (hb hby at_131) rfl ?_
      show Steps p.tables e below (T3.setTop (mkF m 132 #[.val (.int p1), .val (.int p2), .val (.int p3), .val (.int n), .val (.int i), .val (.int j), .val (.int (Int32.ofInt (own_ix (tn + 1) n.toInt i.toInt j.toInt))), .val (.int (n / (2 : Int32))), .val (.int (own_q1 i (n / (2 : Int32)))), .val (.int (own_q1 j (n / (2 : Int32)))), .val (.int (((2 : Int32) * (own_q1 i (n / (2 : Int32)))) + (own_q1 j (n / (2 : Int32))))), .unset] [(.int ((own_q1 j (n / (2 : Int32))) * (n / (2 : Int32)))), (.int j), (.int (i - ((own_q1 i (n / (2 : Int32))) * (n / (2 : Int32))))), (.int (n / (2 : Int32)))])) _
      refine XS.isub X3.here hx rfl (hb hby at_132) rfl ?_
      exact kt)
    obtain ⟨_, _, ⟨T14, L14, k14, n14⟩, -, X14, ⟨Lc14, hQ14, l14, y14, z14⟩, st14⟩ := Jvm.LawKit.callS X3 hx (y := (⟨"com/example/cleave/cleave/tool/QuadrantOrder", "index", "(III)I"⟩ : MethodName)) hown (mvT hZ (hw _ (List.mem_of_getElem? (i := 1) rfl))) (mvT hZ (hw _ (List.mem_of_getElem? (i := 2) rfl))) (mvT hZ (hw _ (List.mem_of_getElem? (i := 3) rfl))) (mvT hZ (hw _ (List.mem_of_getElem? (i := 4) rfl))) (by decide) (backOf (W := 0) (rm1 l Z a0 hw [] tn (n / (2 : Int32)) (i - ((own_q1 i (n / (2 : Int32))) * (n / (2 : Int32)))) (j - ((own_q1 j (n / (2 : Int32))) * (n / (2 : Int32)))) h0 n0 Z0 hg' hs' i0' i1' j0' j1') hZ (hw _ (List.mem_of_getElem? (i := 4) rfl)) (hw _ (List.mem_of_getElem? (i := 3) rfl)) (by decide) (by decide)) (g := (mkF m 133 #[.val (.int p1), .val (.int p2), .val (.int p3), .val (.int n), .val (.int i), .val (.int j), .val (.int (Int32.ofInt (own_ix (tn + 1) n.toInt i.toInt j.toInt))), .val (.int (n / (2 : Int32))), .val (.int (own_q1 i (n / (2 : Int32)))), .val (.int (own_q1 j (n / (2 : Int32)))), .val (.int (((2 : Int32) * (own_q1 i (n / (2 : Int32)))) + (own_q1 j (n / (2 : Int32))))), .unset] [(.int (j - ((own_q1 j (n / (2 : Int32))) * (n / (2 : Int32))))), (.int (i - ((own_q1 i (n / (2 : Int32))) * (n / (2 : Int32))))), (.int (n / (2 : Int32)))])) rfl (by rw [hml]; rfl) (argsL := [(.int (n / (2 : Int32))), (.int (i - ((own_q1 i (n / (2 : Int32))) * (n / (2 : Int32))))), (.int (j - ((own_q1 j (n / (2 : Int32))) * (n / (2 : Int32)))))]) (rest := []) (lenOf pd_0_0 rfl) rfl (by show 2 * 0 + _ ≤ _; exact Nat.le_of_eq rfl) (hb hby at_133) (fun _ _ => ⟨rfl, e3, (by decide : 0 + 0 ≤ _), (by decide : 0 + 0 ≤ _)⟩)
    dsimp only [Pt.U, Pt.locs, Pt.cells, Pt.slots] at X14 l14 y14 z14 st14 hQ14
    subst l14 y14 z14
    obtain ⟨rfl, N14q, e14⟩ := hQ14
    have N14 := Fr.app N3 N14q
    have pre15 : ∀ t, Steps p.tables e below (T14.setTop (mkF m 136 #[.val (.int p1), .val (.int p2), .val (.int p3), .val (.int n), .val (.int i), .val (.int j), .val (.int (Int32.ofInt (own_ix (tn + 1) n.toInt i.toInt j.toInt))), .val (.int (n / (2 : Int32))), .val (.int (own_q1 i (n / (2 : Int32)))), .val (.int (own_q1 j (n / (2 : Int32)))), .val (.int (((2 : Int32) * (own_q1 i (n / (2 : Int32)))) + (own_q1 j (n / (2 : Int32))))), .unset] [(.int (Int32.ofInt (own_ix tn (n / (2 : Int32)).toInt (i - ((own_q1 i (n / (2 : Int32))) * (n / (2 : Int32)))).toInt (j - ((own_q1 j (n / (2 : Int32))) * (n / (2 : Int32)))).toInt)))])) t → Steps p.tables e below (s₁.setTop (entryFrame m #[(.int p1), (.int p2), (.int p3)] maxLocals)) t := fun t kt => pre13 t (st14 t kt)
    have pre16 : ∀ t, Steps p.tables e below (T14.setTop (mkF m 159 #[.val (.int p1), .val (.int p2), .val (.int p3), .val (.int n), .val (.int i), .val (.int j), .val (.int (Int32.ofInt (own_ix (tn + 1) n.toInt i.toInt j.toInt))), .val (.int (n / (2 : Int32))), .val (.int (own_q1 i (n / (2 : Int32)))), .val (.int (own_q1 j (n / (2 : Int32)))), .val (.int (((2 : Int32) * (own_q1 i (n / (2 : Int32)))) + (own_q1 j (n / (2 : Int32))))), .val (.int (Int32.ofInt (own_ix tn (n / (2 : Int32)).toInt (i - ((own_q1 i (n / (2 : Int32))) * (n / (2 : Int32)))).toInt (j - ((own_q1 j (n / (2 : Int32))) * (n / (2 : Int32)))).toInt)))] [(.int (1 : Int32))])) t → Steps p.tables e below (s₁.setTop (entryFrame m #[(.int p1), (.int p2), (.int p3)] maxLocals)) t := fun t kt => pre15 t (by
      show Steps p.tables e below (T14.setTop (mkF m 136 #[.val (.int p1), .val (.int p2), .val (.int p3), .val (.int n), .val (.int i), .val (.int j), .val (.int (Int32.ofInt (own_ix (tn + 1) n.toInt i.toInt j.toInt))), .val (.int (n / (2 : Int32))), .val (.int (own_q1 i (n / (2 : Int32)))), .val (.int (own_q1 j (n / (2 : Int32)))), .val (.int (((2 : Int32) * (own_q1 i (n / (2 : Int32)))) + (own_q1 j (n / (2 : Int32))))), .unset] [(.int (Int32.ofInt (own_ix tn (n / (2 : Int32)).toInt (i - ((own_q1 i (n / (2 : Int32))) * (n / (2 : Int32)))).toInt (j - ((own_q1 j (n / (2 : Int32))) * (n / (2 : Int32)))).toInt)))])) _
      refine XS.istore X14.here hx rfl (hb hby at_136) rfl (l' := #[.val (.int p1), .val (.int p2), .val (.int p3), .val (.int n), .val (.int i), .val (.int j), .val (.int (Int32.ofInt (own_ix (tn + 1) n.toInt i.toInt j.toInt))), .val (.int (n / (2 : Int32))), .val (.int (own_q1 i (n / (2 : Int32)))), .val (.int (own_q1 j (n / (2 : Int32)))), .val (.int (((2 : Int32) * (own_q1 i (n / (2 : Int32)))) + (own_q1 j (n / (2 : Int32))))), .val (.int (Int32.ofInt (own_ix tn (n / (2 : Int32)).toInt (i - ((own_q1 i (n / (2 : Int32))) * (n / (2 : Int32)))).toInt (j - ((own_q1 j (n / (2 : Int32))) * (n / (2 : Int32)))).toInt)))]) rfl ?_
      show Steps p.tables e below (T14.setTop (mkF m 138 #[.val (.int p1), .val (.int p2), .val (.int p3), .val (.int n), .val (.int i), .val (.int j), .val (.int (Int32.ofInt (own_ix (tn + 1) n.toInt i.toInt j.toInt))), .val (.int (n / (2 : Int32))), .val (.int (own_q1 i (n / (2 : Int32)))), .val (.int (own_q1 j (n / (2 : Int32)))), .val (.int (((2 : Int32) * (own_q1 i (n / (2 : Int32)))) + (own_q1 j (n / (2 : Int32))))), .val (.int (Int32.ofInt (own_ix tn (n / (2 : Int32)).toInt (i - ((own_q1 i (n / (2 : Int32))) * (n / (2 : Int32)))).toInt (j - ((own_q1 j (n / (2 : Int32))) * (n / (2 : Int32)))).toInt)))] [])) _
      refine XS.iload X14.here hx rfl (hb hby at_138) rfl ?_
      show Steps p.tables e below (T14.setTop (mkF m 140 #[.val (.int p1), .val (.int p2), .val (.int p3), .val (.int n), .val (.int i), .val (.int j), .val (.int (Int32.ofInt (own_ix (tn + 1) n.toInt i.toInt j.toInt))), .val (.int (n / (2 : Int32))), .val (.int (own_q1 i (n / (2 : Int32)))), .val (.int (own_q1 j (n / (2 : Int32)))), .val (.int (((2 : Int32) * (own_q1 i (n / (2 : Int32)))) + (own_q1 j (n / (2 : Int32))))), .val (.int (Int32.ofInt (own_ix tn (n / (2 : Int32)).toInt (i - ((own_q1 i (n / (2 : Int32))) * (n / (2 : Int32)))).toInt (j - ((own_q1 j (n / (2 : Int32))) * (n / (2 : Int32)))).toInt)))] [(.int (Int32.ofInt (own_ix (tn + 1) n.toInt i.toInt j.toInt)))])) _
      refine XS.iload X14.here hx rfl (hb hby at_140) rfl ?_
      show Steps p.tables e below (T14.setTop (mkF m 142 #[.val (.int p1), .val (.int p2), .val (.int p3), .val (.int n), .val (.int i), .val (.int j), .val (.int (Int32.ofInt (own_ix (tn + 1) n.toInt i.toInt j.toInt))), .val (.int (n / (2 : Int32))), .val (.int (own_q1 i (n / (2 : Int32)))), .val (.int (own_q1 j (n / (2 : Int32)))), .val (.int (((2 : Int32) * (own_q1 i (n / (2 : Int32)))) + (own_q1 j (n / (2 : Int32))))), .val (.int (Int32.ofInt (own_ix tn (n / (2 : Int32)).toInt (i - ((own_q1 i (n / (2 : Int32))) * (n / (2 : Int32)))).toInt (j - ((own_q1 j (n / (2 : Int32))) * (n / (2 : Int32)))).toInt)))] [(.int (((2 : Int32) * (own_q1 i (n / (2 : Int32)))) + (own_q1 j (n / (2 : Int32))))), (.int (Int32.ofInt (own_ix (tn + 1) n.toInt i.toInt j.toInt)))])) _
      refine XS.iload X14.here hx rfl (hb hby at_142) rfl ?_
      show Steps p.tables e below (T14.setTop (mkF m 144 #[.val (.int p1), .val (.int p2), .val (.int p3), .val (.int n), .val (.int i), .val (.int j), .val (.int (Int32.ofInt (own_ix (tn + 1) n.toInt i.toInt j.toInt))), .val (.int (n / (2 : Int32))), .val (.int (own_q1 i (n / (2 : Int32)))), .val (.int (own_q1 j (n / (2 : Int32)))), .val (.int (((2 : Int32) * (own_q1 i (n / (2 : Int32)))) + (own_q1 j (n / (2 : Int32))))), .val (.int (Int32.ofInt (own_ix tn (n / (2 : Int32)).toInt (i - ((own_q1 i (n / (2 : Int32))) * (n / (2 : Int32)))).toInt (j - ((own_q1 j (n / (2 : Int32))) * (n / (2 : Int32)))).toInt)))] [(.int (n / (2 : Int32))), (.int (((2 : Int32) * (own_q1 i (n / (2 : Int32)))) + (own_q1 j (n / (2 : Int32))))), (.int (Int32.ofInt (own_ix (tn + 1) n.toInt i.toInt j.toInt)))])) _
      refine XS.imul X14.here hx rfl (hb hby at_144) rfl ?_
      show Steps p.tables e below (T14.setTop (mkF m 145 #[.val (.int p1), .val (.int p2), .val (.int p3), .val (.int n), .val (.int i), .val (.int j), .val (.int (Int32.ofInt (own_ix (tn + 1) n.toInt i.toInt j.toInt))), .val (.int (n / (2 : Int32))), .val (.int (own_q1 i (n / (2 : Int32)))), .val (.int (own_q1 j (n / (2 : Int32)))), .val (.int (((2 : Int32) * (own_q1 i (n / (2 : Int32)))) + (own_q1 j (n / (2 : Int32))))), .val (.int (Int32.ofInt (own_ix tn (n / (2 : Int32)).toInt (i - ((own_q1 i (n / (2 : Int32))) * (n / (2 : Int32)))).toInt (j - ((own_q1 j (n / (2 : Int32))) * (n / (2 : Int32)))).toInt)))] [(.int ((((2 : Int32) * (own_q1 i (n / (2 : Int32)))) + (own_q1 j (n / (2 : Int32)))) * (n / (2 : Int32)))), (.int (Int32.ofInt (own_ix (tn + 1) n.toInt i.toInt j.toInt)))])) _
      refine XS.iload X14.here hx rfl (hb hby at_145) rfl ?_
      show Steps p.tables e below (T14.setTop (mkF m 147 #[.val (.int p1), .val (.int p2), .val (.int p3), .val (.int n), .val (.int i), .val (.int j), .val (.int (Int32.ofInt (own_ix (tn + 1) n.toInt i.toInt j.toInt))), .val (.int (n / (2 : Int32))), .val (.int (own_q1 i (n / (2 : Int32)))), .val (.int (own_q1 j (n / (2 : Int32)))), .val (.int (((2 : Int32) * (own_q1 i (n / (2 : Int32)))) + (own_q1 j (n / (2 : Int32))))), .val (.int (Int32.ofInt (own_ix tn (n / (2 : Int32)).toInt (i - ((own_q1 i (n / (2 : Int32))) * (n / (2 : Int32)))).toInt (j - ((own_q1 j (n / (2 : Int32))) * (n / (2 : Int32)))).toInt)))] [(.int (n / (2 : Int32))), (.int ((((2 : Int32) * (own_q1 i (n / (2 : Int32)))) + (own_q1 j (n / (2 : Int32)))) * (n / (2 : Int32)))), (.int (Int32.ofInt (own_ix (tn + 1) n.toInt i.toInt j.toInt)))])) _
      refine XS.imul X14.here hx rfl (hb hby at_147) rfl ?_
      show Steps p.tables e below (T14.setTop (mkF m 148 #[.val (.int p1), .val (.int p2), .val (.int p3), .val (.int n), .val (.int i), .val (.int j), .val (.int (Int32.ofInt (own_ix (tn + 1) n.toInt i.toInt j.toInt))), .val (.int (n / (2 : Int32))), .val (.int (own_q1 i (n / (2 : Int32)))), .val (.int (own_q1 j (n / (2 : Int32)))), .val (.int (((2 : Int32) * (own_q1 i (n / (2 : Int32)))) + (own_q1 j (n / (2 : Int32))))), .val (.int (Int32.ofInt (own_ix tn (n / (2 : Int32)).toInt (i - ((own_q1 i (n / (2 : Int32))) * (n / (2 : Int32)))).toInt (j - ((own_q1 j (n / (2 : Int32))) * (n / (2 : Int32)))).toInt)))] [(.int (((((2 : Int32) * (own_q1 i (n / (2 : Int32)))) + (own_q1 j (n / (2 : Int32)))) * (n / (2 : Int32))) * (n / (2 : Int32)))), (.int (Int32.ofInt (own_ix (tn + 1) n.toInt i.toInt j.toInt)))])) _
      refine XS.iload X14.here hx rfl (hb hby at_148) rfl ?_
      show Steps p.tables e below (T14.setTop (mkF m 150 #[.val (.int p1), .val (.int p2), .val (.int p3), .val (.int n), .val (.int i), .val (.int j), .val (.int (Int32.ofInt (own_ix (tn + 1) n.toInt i.toInt j.toInt))), .val (.int (n / (2 : Int32))), .val (.int (own_q1 i (n / (2 : Int32)))), .val (.int (own_q1 j (n / (2 : Int32)))), .val (.int (((2 : Int32) * (own_q1 i (n / (2 : Int32)))) + (own_q1 j (n / (2 : Int32))))), .val (.int (Int32.ofInt (own_ix tn (n / (2 : Int32)).toInt (i - ((own_q1 i (n / (2 : Int32))) * (n / (2 : Int32)))).toInt (j - ((own_q1 j (n / (2 : Int32))) * (n / (2 : Int32)))).toInt)))] [(.int (Int32.ofInt (own_ix tn (n / (2 : Int32)).toInt (i - ((own_q1 i (n / (2 : Int32))) * (n / (2 : Int32)))).toInt (j - ((own_q1 j (n / (2 : Int32))) * (n / (2 : Int32)))).toInt))), (.int (((((2 : Int32) * (own_q1 i (n / (2 : Int32)))) + (own_q1 j (n / (2 : Int32)))) * (n / (2 : Int32))) * (n / (2 : Int32)))), (.int (Int32.ofInt (own_ix (tn + 1) n.toInt i.toInt j.toInt)))])) _
      refine XS.iadd X14.here hx rfl (hb hby at_150) rfl ?_
      show Steps p.tables e below (T14.setTop (mkF m 151 #[.val (.int p1), .val (.int p2), .val (.int p3), .val (.int n), .val (.int i), .val (.int j), .val (.int (Int32.ofInt (own_ix (tn + 1) n.toInt i.toInt j.toInt))), .val (.int (n / (2 : Int32))), .val (.int (own_q1 i (n / (2 : Int32)))), .val (.int (own_q1 j (n / (2 : Int32)))), .val (.int (((2 : Int32) * (own_q1 i (n / (2 : Int32)))) + (own_q1 j (n / (2 : Int32))))), .val (.int (Int32.ofInt (own_ix tn (n / (2 : Int32)).toInt (i - ((own_q1 i (n / (2 : Int32))) * (n / (2 : Int32)))).toInt (j - ((own_q1 j (n / (2 : Int32))) * (n / (2 : Int32)))).toInt)))] [(.int ((((((2 : Int32) * (own_q1 i (n / (2 : Int32)))) + (own_q1 j (n / (2 : Int32)))) * (n / (2 : Int32))) * (n / (2 : Int32))) + (Int32.ofInt (own_ix tn (n / (2 : Int32)).toInt (i - ((own_q1 i (n / (2 : Int32))) * (n / (2 : Int32)))).toInt (j - ((own_q1 j (n / (2 : Int32))) * (n / (2 : Int32)))).toInt)))), (.int (Int32.ofInt (own_ix (tn + 1) n.toInt i.toInt j.toInt)))])) _
      refine XS.icmpNo X14.here hx rfl (hb hby at_151) rfl (teq hfin).2 ?_
      show Steps p.tables e below (T14.setTop (mkF m 154 #[.val (.int p1), .val (.int p2), .val (.int p3), .val (.int n), .val (.int i), .val (.int j), .val (.int (Int32.ofInt (own_ix (tn + 1) n.toInt i.toInt j.toInt))), .val (.int (n / (2 : Int32))), .val (.int (own_q1 i (n / (2 : Int32)))), .val (.int (own_q1 j (n / (2 : Int32)))), .val (.int (((2 : Int32) * (own_q1 i (n / (2 : Int32)))) + (own_q1 j (n / (2 : Int32))))), .val (.int (Int32.ofInt (own_ix tn (n / (2 : Int32)).toInt (i - ((own_q1 i (n / (2 : Int32))) * (n / (2 : Int32)))).toInt (j - ((own_q1 j (n / (2 : Int32))) * (n / (2 : Int32)))).toInt)))] [])) _
      refine XS.iconst X14.here hx rfl (hb hby at_154) ?_
      show Steps p.tables e below (T14.setTop (mkF m 155 #[.val (.int p1), .val (.int p2), .val (.int p3), .val (.int n), .val (.int i), .val (.int j), .val (.int (Int32.ofInt (own_ix (tn + 1) n.toInt i.toInt j.toInt))), .val (.int (n / (2 : Int32))), .val (.int (own_q1 i (n / (2 : Int32)))), .val (.int (own_q1 j (n / (2 : Int32)))), .val (.int (((2 : Int32) * (own_q1 i (n / (2 : Int32)))) + (own_q1 j (n / (2 : Int32))))), .val (.int (Int32.ofInt (own_ix tn (n / (2 : Int32)).toInt (i - ((own_q1 i (n / (2 : Int32))) * (n / (2 : Int32)))).toInt (j - ((own_q1 j (n / (2 : Int32))) * (n / (2 : Int32)))).toInt)))] [(.int (1 : Int32))])) _
      refine XS.goto X14.here hx rfl (pc0 := 155) (pc' := 159) rfl (hb hby at_155) (by decide) (by decide) ?_
      exact kt)
    obtain ⟨fs, hr, hrun, hended, hW, hsame⟩ := X14.leave (v := some (.int (1 : Int32))) (fun h => by rw [Bd.returns] at h; cases h)
    refine ⟨_, _, pre16 _ ?_, hrun, hended, _, _, rfl, ?_, ⟨_, rfl⟩, hW, hsame.mono (by decide) (by decide)⟩
    · show Steps p.tables e below (T14.setTop (mkF m 159 #[.val (.int p1), .val (.int p2), .val (.int p3), .val (.int n), .val (.int i), .val (.int j), .val (.int (Int32.ofInt (own_ix (tn + 1) n.toInt i.toInt j.toInt))), .val (.int (n / (2 : Int32))), .val (.int (own_q1 i (n / (2 : Int32)))), .val (.int (own_q1 j (n / (2 : Int32)))), .val (.int (((2 : Int32) * (own_q1 i (n / (2 : Int32)))) + (own_q1 j (n / (2 : Int32))))), .val (.int (Int32.ofInt (own_ix tn (n / (2 : Int32)).toInt (i - ((own_q1 i (n / (2 : Int32))) * (n / (2 : Int32)))).toInt (j - ((own_q1 j (n / (2 : Int32))) * (n / (2 : Int32)))).toInt)))] [(.int (1 : Int32))])) _
      exact retN X14 hx (t := .boolean) Bd.returns (by simp) (hb hby at_159) hr
    · show Q0 Z p1 p2 p3 h0 n0 _ T14.heap _
      rw [e14]
      exact ⟨rfl, N14⟩
set_option maxRecDepth 65536 in
set_option maxHeartbeats 40000000 in
theorem comes_1 {Post : Tables → Env → Array Value → State → Outcome → State → Prop} (hpost : ∀ tb e args s v u, (limb_1_1.after args s (.returned v) u = true ∧ limb_1_2.after args s (.returned v) u = true ∧ True) → FrameEnd s (.returned v) u (Jvm.fieldLocs frame_1_writes args s ++ Jvm.arrayLocs frame_1_arrays args s ++ Jvm.staticLocs frame_1_statics s) 0 0 → Post tb e args s (.returned v) u) :
    ArmFor flags0 classFile x code maxLocals ret World_1 tables_1 room_1 Calls_1 rest_1 Pre_1 Post := by
  intro l hfl _ _ p e ha hc hk s m args below hf hA hF happ hP
  obtain ⟨hcalls, hrest, hpre⟩ := hP
  obtain ⟨-, -, -, hnamed, -, -, -, hat⟩ := (Spec.applies_iff hf).mp happ
  obtain ⟨hg, hn⟩ := and_e (Cond.before_iff.mp (show (Jvm.Cond.and given_1 narrow_1).before args s = true from hpre))
  obtain ⟨hcnt, g0⟩ := and_e hg
  obtain ⟨ha0, g1⟩ := and_e g0
  obtain ⟨ha1, g2⟩ := and_e g1
  obtain ⟨w0, w1, w2, rfl⟩ : ∃ w0 w1 w2 : Value, args = #[w0, w1, w2] := by
    have hs : args.size = 3 := by simpa [Cond.value, given_1] using hcnt
    obtain ⟨L⟩ := args
    match L, hs with
    | [w0, w1, w2], _ => exact ⟨w0, w1, w2, rfl⟩
  have hw := fun d (hd : d ∈ tables_1) => atoms_spec (ws := Jvm.Cond.code x code maxLocals ret :: tables_1) hat d (List.mem_cons_of_mem _ hd)
  obtain ⟨i0, ei0⟩ := is_v ha0
  obtain rfl : w0 = (.int i0) := Option.some.inj ei0
  obtain ⟨i1, ei1⟩ := is_v ha1
  obtain rfl : w1 = (.int i1) := Option.some.inj ei1
  obtain ⟨i2, ei2⟩ := is_v g2
  obtain rfl : w2 = (.int i2) := Option.some.inj ei2
  obtain ⟨n, o, h1, h2, h3, _, L, rfl, ⟨rfl, N⟩, hq⟩ := rm0 l s _ hw tables_1 i0 i1 i2 s.heap s.heap.size (Nat.le_refl _)  p e ha hc hk s m _ below hf ((Spec.applies_iff_loose hf).mp happ).1 ⟨rfl, State.Warmed39.refl s, rfl⟩ trivial
  refine ⟨n, _, h1, h2, h3, hpost _ _ _ _ _ _ ⟨Cond.after_iff.mpr rfl, Cond.after_iff.mpr (eq_i res_at (Term.int_eval (1)) rfl), trivial⟩ ⟨hq.1, hq.2.1, (hq.2.2.sift fun y hy => Or.inr (N y hy)).mono (by decide) (by decide)⟩⟩
theorem main_1_1 : Claimed_1_1 := comes_1 fun _ _ _ _ _ _ h hF => ⟨h.1, hF⟩
theorem main_1_2 : Claimed_1_2 := comes_1 fun _ _ _ _ _ _ h hF => ⟨h.2.1, hF⟩
end Jvm.Pilot.@@N@@
namespace Jvm.Pilot.@@N@@
open Jvm Jvm.ClassFile Sem Op Lib Jvm.Free Jvm.Stand Jvm.Pilot.@@N@@.Jvm.D
/-! MADE BY PROGRAM (witnessworld.py) out of the Statement's table words and the real class files: 9 classes; the members and pool entries that the words name. The judged class is class 1, her method 1. -/
namespace start1
open Jvm.ClassFile
def u (s : String) : CpInfo := .utf8 (stringToUtf16 s)
/-- a pool by its gaps: so many unusable entries, then the entry; so many at the end -/
def gap : Nat → List CpInfo → List CpInfo
  | 0, r => r
  | n + 1, r => .unusable :: gap n r
def poolList (es : List (Nat × CpInfo)) (last : Nat) : List CpInfo := es.foldr (fun e r => gap e.1 (e.2 :: r)) (gap last [])
def pool (es : List (Nat × CpInfo)) (last : Nat) : Array CpInfo := ⟨poolList es last⟩
def fileOf (pool : Array CpInfo) (this : Nat) (attrs : Array Attribute := #[]) (ms : Array MethodInfo := #[]) (fl : Nat := 33) (sup : Nat := 0) (ifs : Array Nat := #[]) (fds : Array FieldInfo := #[]) : ClassFile where
  minorVersion := 0
  majorVersion := 65
  constantPool := pool
  accessFlags := fl
  thisClass := this
  superClass := sup
  interfaces := ifs
  fields := fds
  methods := ms
  attributes := attrs
def plain (name : String) (sup : Option ClassId) : Class where
  name := name
  kind := .ordinary
  loader := none
  accessFlags := 33
  super := sup
  interfaces := #[]
  cf := none
  fields := #[]
  methods := #[]
  instanceTypes := #[]
  staticTypes := #[]
  resolved := #[]
  callSites := []
  init := .initialized
  statics := none
  mirror := none

def pool0 : Array CpInfo := pool [(5, u "<init>"), (0, u "()V"), (1, .class_ 10), (1, u "java/lang/Object")] 113

def k0m0 : Method := { name := "<init>", desc := "()V", sig := { parameters := [], returnType := none }, accessFlags := 1, code := none }
/-- java/lang/Object -/
def k0 : Class := { plain "java/lang/Object" none with
  accessFlags := 33
  interfaces := #[]
  cf := some (fileOf pool0 8 #[] #[{ accessFlags := 1, nameIndex := 5, descriptorIndex := 6, attributes := #[] }] 33 0 #[] #[])
  fields := #[]
  methods := #[k0m0]
  instanceTypes := #[]
  staticTypes := #[]
  resolved := Array.replicate 124 none
  statics := none }

def pool1 : Array CpInfo := pool [(2, .class_ 4), (1, u "java/lang/Object"), (0, u "<init>"), (0, u "()V"), (0, .integer 2147483647), (0, .methodref 9 10), (0, .class_ 11), (0, .nameAndType 12 13), (0, u "com/example/cleave/cleave/tool/QuadrantOrder"), (0, u "index"), (0, u "(III)I"), (0, .class_ 15), (0, u "com/example/cleave/cleave/tool/QuadrantOrderIndexPinLaw"), (2, u "law"), (0, u "(III)Z")] 3

def k1m0 : Method := { name := "<init>", desc := "()V", sig := { parameters := [], returnType := none }, accessFlags := 1, code := none }
def k1c1 : Code := { maxStack := 5, maxLocals := 12, code := code, exceptionTable := #[], attributes := #[] }
def k1m1 : Method := { name := "law", desc := "(III)Z", sig := { parameters := [.int, .int, .int], returnType := some .boolean }, accessFlags := 9, code := some k1c1 }
/-- com/example/cleave/cleave/tool/QuadrantOrderIndexPinLaw -/
def k1 : Class := { plain "com/example/cleave/cleave/tool/QuadrantOrderIndexPinLaw" (some 0) with
  accessFlags := 49
  interfaces := #[]
  cf := some (fileOf pool1 14 #[] #[{ accessFlags := 1, nameIndex := 5, descriptorIndex := 6, attributes := #[] }, { accessFlags := 9, nameIndex := 18, descriptorIndex := 19, attributes := #[] }] 49 2 #[] #[])
  fields := #[]
  methods := #[k1m0, k1m1]
  instanceTypes := #[]
  staticTypes := #[]
  resolved := Array.replicate 23 none
  statics := none }

def pool2 : Array CpInfo := pool [(2, .class_ 4), (1, u "java/lang/Object"), (0, u "<init>"), (0, u "()V"), (0, .class_ 8), (0, u "com/example/cleave/cleave/tool/QuadrantOrder"), (2, u "index"), (0, u "(III)I"), (6, u "THRESHOLD"), (0, u "I"), (16, .class_ 38), (0, u "com/example/cleave/cleave/tool/QuadrantOrder$Quadrant"), (0, .class_ 40), (0, u "com/example/cleave/cleave/tool/QuadrantOrder$Product")] 3

def k2m0 : Method := { name := "<init>", desc := "()V", sig := { parameters := [], returnType := none }, accessFlags := 2, code := none }
def k2c1 : Code := { maxStack := 3, maxLocals := 9, code := prog_95_method_2_code, exceptionTable := #[], attributes := #[] }
def k2m1 : Method := { name := "index", desc := "(III)I", sig := { parameters := [.int, .int, .int], returnType := some .int }, accessFlags := 8, code := some k2c1 }
/-- com/example/cleave/cleave/tool/QuadrantOrder -/
def k2 : Class := { plain "com/example/cleave/cleave/tool/QuadrantOrder" (some 0) with
  accessFlags := 48
  interfaces := #[]
  cf := some (fileOf pool2 7 #[.nestMembers #[37, 39]] #[{ accessFlags := 2, nameIndex := 5, descriptorIndex := 6, attributes := #[] }, { accessFlags := 8, nameIndex := 11, descriptorIndex := 12, attributes := #[] }] 48 2 #[] #[{ accessFlags := 24, nameIndex := 19, descriptorIndex := 20, attributes := #[] }])
  fields := #[{ name := "THRESHOLD", type := .int, accessFlags := 24, slot := 0, constantValue := 0 }]
  methods := #[k2m0, k2m1]
  instanceTypes := #[]
  staticTypes := #[.int]
  resolved := Array.replicate 44 none
  statics := none }

def pool3 : Array CpInfo := pool [(1, u "java/lang/Cloneable"), (0, .class_ 1), (0, u "java/lang/Object"), (0, .class_ 3)] 3

/-- java/lang/Cloneable -/
def k3 : Class := { plain "java/lang/Cloneable" (some 0) with
  accessFlags := 1537
  interfaces := #[]
  cf := some (fileOf pool3 2 #[] #[] 1537 4 #[] #[])
  fields := #[]
  methods := #[]
  instanceTypes := #[]
  staticTypes := #[]
  resolved := Array.replicate 8 none
  statics := none }

def pool4 : Array CpInfo := pool [(1, u "java/io/Serializable"), (0, .class_ 1), (0, u "java/lang/Object"), (0, .class_ 3)] 3

/-- java/io/Serializable -/
def k4 : Class := { plain "java/io/Serializable" (some 0) with
  accessFlags := 1537
  interfaces := #[]
  cf := some (fileOf pool4 2 #[] #[] 1537 4 #[] #[])
  fields := #[]
  methods := #[]
  instanceTypes := #[]
  staticTypes := #[]
  resolved := Array.replicate 8 none
  statics := none }

/-- the primitive byte -/
def k5 : Class := { plain "byte" none with kind := .primitive 'B', accessFlags := 0x411 }
/-- [B -/
def k6 : Class := { plain "[B" (some 0) with kind := .array 5 .byte, interfaces := #[3, 4], accessFlags := 1041 }

/-- the primitive int -/
def k7 : Class := { plain "int" none with kind := .primitive 'I', accessFlags := 0x411 }
/-- [I -/
def k8 : Class := { plain "[I" (some 0) with kind := .array 7 .int, interfaces := #[3, 4], accessFlags := 1041 }

def heap : Heap := #[]
def classes : Array Class := #[k0, k1, k2, k3, k4, k5, k6, k7, k8]
def interned : List (Array UInt16 × Addr) := []
def slotsUsed : Nat := 0
def theMethod : MethodId := ⟨1, 1⟩
def args0 : Array Value := #[.int 9, .int 300, .int 77]
def aboutOver (below : List Frame) : State where
  vm := { classes := classes, interned := interned.toArray }
  heap := heap
  slotsUsed := slotsUsed
  threads := #[{ frames := .invoking theMethod args0 :: below }]
def below0 : List Frame := [.native { method := ⟨0, 0⟩, args := #[] }]
def about1 : State := aboutOver below0
def p0 : Program := .bare "" "" ""
def e0 : Env := launch0.env 0 0 0
theorem w_frames : about1.frames = Frame.invoking theMethod args0 :: below0 := rfl
set_option maxRecDepth 65536 in
theorem w_args : argsFit about1.vm theMethod args0 = true := by decide +kernel
set_option maxRecDepth 65536 in
theorem w_heap : heapFits about1 = true := by decide +kernel
set_option maxRecDepth 65536 in
theorem w_runnable : about1.curStatus? = some .runnable := by decide +kernel
set_option maxRecDepth 65536 in
theorem w_alone : about1.alone = true := by decide +kernel
set_option maxRecDepth 65536 in
theorem w_named : about1.methodNamed? x = some theMethod := by decide +kernel
set_option maxRecDepth 65536 in
theorem w_hears : about1.hears theMethod below0 = true := by decide +kernel
set_option maxRecDepth 65536 in
theorem w_ripe : about1.ripe theMethod args0 below0 = true := by decide +kernel
theorem w_running : about1.status = .running := rfl
set_option maxRecDepth 65536 in
theorem w_room : about1.hasRoom e0.platform room_1 = true :=
  launch0.hasRoom_least _ room_1 (by decide +kernel) (by decide +kernel) (by decide +kernel) (by decide +kernel) (by decide +kernel) (by decide +kernel)
theorem allAtoms_all (ts : List Jvm.Cond) (a : Array Jvm.Value) (st : Jvm.State) : (allAtoms ts).before a st = ts.all (fun c => c.before a st) := by
  induction ts with
  | nil => rfl
  | cons c t ih =>
    show (Jvm.Cond.and c (allAtoms t)).before a st = _
    rw [Jvm.Cond.before_and, ih, List.all_cons]
def words1 : List Jvm.Cond := Jvm.Cond.code x code maxLocals ret :: tables_1
/-- a 'code' word, met by the world's own term for the bytes: nothing is compared byte by byte -/
theorem code_word {y : MethodName} {bytes : ByteArray} {mx : Nat} {rt : Option FieldType} {a : Array Value} {s : State} {m : MethodId} {meth : Method} {c : Code} (h1 : s.methodNamed? y = some m) (h2 : s.vm.method? m = some meth) (h3 : meth.code = some c) (h4 : c.code = bytes)
    (h5 : (c.maxLocals == mx && c.exceptionTable.isEmpty && decide (c.maxStack ≤ mostOperands) && decide (meth.sig.returnType = rt) && !meth.locks && decide (parseMethodDescriptor y.desc = some meth.sig)) = true) : (Jvm.Cond.code y bytes mx rt).before a s = true := by
  simp only [Bool.and_eq_true, beq_iff_eq, Bool.not_eq_true', decide_eq_true_eq] at h5
  obtain ⟨⟨⟨⟨⟨g1, g2⟩, g3⟩, g4⟩, g5⟩, g6⟩ := h5
  simp [Cond.before, Cond.holds, Cond.value, h1, h2, h3, h4, g1, g2, g3, g4, g5, g6]
def isCode : Jvm.Cond → Bool
  | .code _ _ _ _ => true
  | _ => false
theorem all_split {L : List Jvm.Cond} {P : Jvm.Cond → Bool} (h1 : L.all (fun c => isCode c || P c) = true) (h2 : ∀ c ∈ L.filter isCode, P c = true) : L.all P = true := by
  refine List.all_eq_true.mpr fun c hc => ?_
  have h := List.all_eq_true.mp h1 c hc
  rcases Bool.eq_false_or_eq_true (isCode c) with hi | hi
  · exact h2 c (List.mem_filter.mpr ⟨hc, hi⟩)
  · simpa [hi] using h
set_option maxRecDepth 65536 in
theorem w_c0 : (Jvm.Cond.code x code maxLocals ret).before args0 about1 = true := code_word (m := ⟨1, 1⟩) (meth := k1m1) (c := k1c1) (by decide +kernel) rfl rfl rfl (by decide +kernel)
set_option maxRecDepth 65536 in
theorem w_c1 : (Jvm.Cond.code ({ cls := "com/example/cleave/cleave/tool/QuadrantOrder", name := "index", desc := "(III)I" } : Jvm.MethodName) prog_95_method_2_code (9 : Nat) (Option.some Jvm.ClassFile.FieldType.int)).before args0 about1 = true := code_word (m := ⟨2, 1⟩) (meth := k2m1) (c := k2c1) (by decide +kernel) rfl rfl rfl (by decide +kernel)
def codes1 : List Jvm.Cond := [Jvm.Cond.code x code maxLocals ret, Jvm.Cond.code ({ cls := "com/example/cleave/cleave/tool/QuadrantOrder", name := "index", desc := "(III)I" } : Jvm.MethodName) prog_95_method_2_code (9 : Nat) (Option.some Jvm.ClassFile.FieldType.int)]
set_option maxRecDepth 65536 in
theorem codes_eq : words1.filter isCode = codes1 := rfl
theorem w_codes : ∀ c ∈ words1.filter isCode, c.before args0 about1 = true := by
  rw [codes_eq]
  intro c hc
  simp only [codes1, List.mem_cons, List.not_mem_nil, or_false] at hc
  rcases hc with rfl | rfl
  · exact w_c0
  · exact w_c1
set_option maxRecDepth 65536 in
theorem w_t1 : words1.all (fun c => isCode c || c.before args0 about1) = true := by decide +kernel
theorem w_tables : (allAtoms (Jvm.Cond.code x code maxLocals ret :: tables_1)).before args0 about1 = true := by
  rw [allAtoms_all]
  show words1.all (fun c => c.before args0 about1) = true
  refine all_split ?_ w_codes
  rw [w_t1]
set_option maxRecDepth 65536 in
theorem w_case : (Jvm.Cond.and given_1 narrow_1).before args0 about1 = true := by decide +kernel
theorem w_applies : (headSpec (Jvm.Cond.code x code maxLocals ret :: tables_1) room_1).applies x e0.platform about1 = true :=
  (Spec.applies_iff w_frames).mpr ⟨w_running, w_runnable, w_alone, w_named, w_hears, w_ripe, w_room, w_tables⟩
theorem atStart : AtStart classFile x code maxLocals ret World_1 tables_1 room_1 Calls_1 rest_1 Pre_1 launch0 p0 e0 about1 theMethod args0 below0 :=
  ⟨lists_1, trivial, launch0.admits_env _ _ _, launch0.least_env, fairChoices_fair.cas, fairChoices_fair.clock, w_frames, w_args, w_heap, w_applies, trivial, trivial, w_case⟩
end start1
theorem witness_1 : WitnessClaimed_1 := ⟨start1.p0, start1.e0, start1.about1, start1.theMethod, start1.args0, start1.below0, start1.atStart⟩
end Jvm.Pilot.@@N@@
