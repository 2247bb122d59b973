import JvmDerived
import JvmDerived.Pilot.@@N@@Statement
import JvmDerived.Pilot.@@N@@Code
set_option linter.unusedVariables false
set_option linter.unusedSimpArgs false
namespace Jvm.RoadKit
open Sem ClassFile Op Lib Jvm.Stand Jvm.Free Jvm.LawKit
section New
variable {p : Program} {l : Launch} {e : Env} {R : Room} {s : State} {m : MethodId} {args : Array Value} {below : List Frame} {meth : Method} {c : Code} {T : State} {locs : List Loc} {cells slots : Nat}
theorem retI (X : Stand p l e R s m args below meth c T locs cells slots) (hx : p.tables.exec = Jvm.exec) {pc : Nat} {Ls : Array Slot} {z : Int32} {rest : List Value} (hret : meth.sig.returnType = some .int) (hd : decode c.code pc = .ok (.ireturn, 1)) {fs : List Frame}
    (hl : ∀ (f : JFrame) (acts : List Action), f.method = m → f.locked = none → f.entered = [] → (doReturn e (T.setTop f) acts (some (.int z))).1 = T.setFrames fs) : Steps p.tables e below (T.setTop (mkF m pc Ls (.int z :: rest))) (T.setFrames fs) := by
  have hm' : T.vm.method? m = some meth := X.method'
  have hn : narrow .int (.int z) = .int z := rfl
  show Steps p.tables e below (T.setTop { method := m, pc := pc, locals := Ls, stack := _ :: rest, locked := none }) _
  jvm_step X.here [X.here.top, hx, hd, hm', hret, hn]
  first | (intro acts; rw [hl _ acts rfl rfl rfl]) | rw [hl _ _ rfl rfl rfl]
  exact Steps.refl _
end New
end Jvm.RoadKit
namespace Jvm.Pilot.@@N@@
open Jvm Jvm.ClassFile Sem Op Lib Jvm.Free Jvm.Stand Jvm.LawKit Jvm.RoadKit Bundle Jvm.Pilot.@@N@@.Jvm.D

def own_itf (f : Int64 → Int64) : Nat → Int64 → Int64
  | 0, x => x
  | k + 1, x => own_itf f k (f x)
theorem own_itf_add (f : Int64 → Int64) (a b : Nat) : ∀ x, own_itf f b (own_itf f a x) = own_itf f (a + b) x := by
  induction a with
  | zero => intro x; rw [Nat.zero_add]; rfl
  | succ a ih =>
    intro x
    rw [show a + 1 + b = (a + b) + 1 from by omega]
    exact ih _
def own_it (k : Nat) (x : Int64) : Int64 := own_itf (fun x => ((x * (6364136223846793005 : Int64)) + (1442695040888963407 : Int64))) k x
theorem own_itf_succ (f : Int64 → Int64) (k : Nat) (x : Int64) : own_itf f (k + 1) x = own_itf f k (f x) := rfl
theorem own_it_succ (k : Nat) (x : Int64) : own_it (k + 1) x = own_it k ((x * (6364136223846793005 : Int64)) + (1442695040888963407 : Int64)) := own_itf_succ _ k x
theorem own_it_zero (x : Int64) : own_it 0 x = x := rfl
theorem own_it_add (a b : Nat) (x : Int64) : own_it b (own_it a x) = own_it (a + b) x := own_itf_add _ a b x
theorem own_neg (n : Int32) (x : Int64) : own_it (n ||| (-2147483648 : Int32)).toInt.toNat x = x := by
  have h := (c_orS n (-2147483648)).2.2 (by decide)
  rw [show (n ||| (-2147483648 : Int32)).toInt.toNat = 0 from by omega, own_it_zero]
theorem own_0 (x : Int64) : own_it (0 : Int32).toInt.toNat x = x := rfl
theorem own_1 (x : Int64) : own_it (1 : Int32).toInt.toNat x = ((x * (6364136223846793005 : Int64)) + (1442695040888963407 : Int64)) := rfl
theorem own_2 (x : Int64) : own_it (2 : Int32).toInt.toNat x = ((((x * (6364136223846793005 : Int64)) + (1442695040888963407 : Int64)) * (6364136223846793005 : Int64)) + (1442695040888963407 : Int64)) := rfl
theorem own_sum (a b : Int32) (x : Int64) : own_it (b &&& (31 : Int32)).toInt.toNat (own_it (a &&& (31 : Int32)).toInt.toNat x) = own_it ((a &&& (31 : Int32)) + (b &&& (31 : Int32))).toInt.toNat x := by
  have h1 := c_and a 31 (by decide)
  have h2 := c_and b 31 (by decide)
  have e : (31 : Int32).toInt = 31 := by decide
  have h3 := c_iadd (a &&& 31) (b &&& 31)
  have h4 := rng32 ((a &&& 31) + (b &&& 31))
  rw [own_it_add]
  congr 1
  omega
theorem d1_0 : decode prog_10_method_2_code 0 = .ok (.iconst 0, 1) := by decide +kernel
theorem d1_1 : decode prog_10_method_2_code 1 = .ok (.istore_n 3, 1) := by decide +kernel
theorem d1_2 : decode prog_10_method_2_code 2 = .ok (.iload_n 3, 1) := by decide +kernel
theorem d1_3 : decode prog_10_method_2_code 3 = .ok (.iload_n 2, 1) := by decide +kernel
theorem d1_4 : decode prog_10_method_2_code 4 = .ok (.if_icmp .ge 19, 3) := by decide +kernel
theorem d1_7 : decode prog_10_method_2_code 7 = .ok (.lload_n 0, 1) := by decide +kernel
theorem d1_8 : decode prog_10_method_2_code 8 = .ok (.ldc2_w 9, 3) := by decide +kernel
theorem d1_11 : decode prog_10_method_2_code 11 = .ok (.lmul, 1) := by decide +kernel
theorem d1_12 : decode prog_10_method_2_code 12 = .ok (.ldc2_w 11, 3) := by decide +kernel
theorem d1_15 : decode prog_10_method_2_code 15 = .ok (.ladd, 1) := by decide +kernel
theorem d1_16 : decode prog_10_method_2_code 16 = .ok (.lstore_n 0, 1) := by decide +kernel
theorem d1_17 : decode prog_10_method_2_code 17 = .ok (.iinc 3 1, 3) := by decide +kernel
theorem d1_20 : decode prog_10_method_2_code 20 = .ok (.goto (-18), 3) := by decide +kernel
theorem d1_23 : decode prog_10_method_2_code 23 = .ok (.lload_n 0, 1) := by decide +kernel
theorem d1_24 : decode prog_10_method_2_code 24 = .ok (.lreturn, 1) := by decide +kernel
theorem pn_1 : plainName "turnstile/contend/Generator" = true := by first | (simp [plainName, overriddenIn]; done) | decide +kernel
theorem ef_1 (m : MethodId) (x0 : Int64) (x1 : Int32) : entryFrame m #[(.long x0), (.int x1)] 4 = mkF m 0 #[.val (.long x0), .second, .val (.int x1), .unset] [] := by first | (simp [entryFrame, mkF, argsToLocals, Value.category]; done) | rfl
def Q1 (Z : State) (q1 : Int64) (p2 : Int32) (h0 : Heap) (n0 : Nat) (v : Option Value) (h : Heap) (L : List Loc) : Prop := v = some (.long (own_it p2.toInt.toNat q1)) ∧ Fr n0 L ∧ h = h0
set_option maxRecDepth 65536 in
set_option maxHeartbeats 40000000 in
theorem rm1 (l : Launch) (Z : State) (a0 : Array Value) (hw : ∀ d ∈ tables_1, d.before a0 Z = true) (ws : List Jvm.Cond) (q1 : Int64) (p2 : Int32) (h0 : Heap) (n0 : Nat) (Z0 : n0 ≤ h0.size)  :
    MetFree l (⟨"turnstile/contend/Generator", "step", "(JI)J"⟩ : MethodName) (head1 (Jvm.Cond.code (⟨"turnstile/contend/Generator", "step", "(JI)J"⟩ : MethodName) prog_10_method_2_code 4 (some .long) :: ws) ({ frames := 0, cells := 0, slots := 0, locals := 0 } : Room)) (fun a U => a = #[(.long q1), (.int p2)] ∧ Z.Warmed39 U.vm ∧ U.heap = h0) (fun _ _ _ _ _ => True) (fun _ U ou U' => ∃ v L, ou = .returned v ∧ Q1 Z q1 p2 h0 n0 v U'.heap L ∧ FrameEnd U ou U' L ({ frames := 0, cells := 0, slots := 0, locals := 0 } : Room).cells ({ frames := 0, cells := 0, slots := 0, locals := 0 } : Room).slots) := by
  refine MetFree.of_bodySF (plainFor_of_name pn_1) hisR ?_
  intro p e s m args below meth c s₁ Bd hml0 hP hK
  obtain ⟨rfl, hZ, hh⟩ := hP
  have hx := Bd.exec
  have hby := Bd.bytes
  have hml : c.maxLocals = 4 := hml0
  have hown : s.vm.findClass "turnstile/contend/Generator" = some m.cls := findClass_of_methodNamed Bd.named
  have hnm := (name_of_methodNamed Bd.named Bd.method).1
  have X0 : Stand p l e ({ frames := 0, cells := 0, slots := 0, locals := 0 } : Room) s m #[(.long q1), (.int p2)] below meth c s₁ [] 0 0 := Stand.of_body Bd
  have e0 : s₁.heap = h0 := by rw [← hh, Bd.state]; rfl
  have N0 := Fr.nil n0
  have pre0 : ∀ t, Steps p.tables e below (s₁.setTop (mkF m 0 #[.val (.long q1), .second, .val (.int p2), .unset] [])) t → Steps p.tables e below (s₁.setTop (entryFrame m #[(.long q1), (.int p2)] 4)) t := fun t k => castTop (ef_1 m (q1) (p2)) k
  have e0i : (0 : Int32).toInt = 0 := by decide
  have loop : ∀ (k : Nat) (i : Int32) (x : Int64), i.toInt + k = p2.toInt → ∀ t, Steps p.tables e below (s₁.setTop (mkF m 23 #[.val (.long (own_it k x)), .second, .val (.int p2), .val (.int p2)] [])) t → Steps p.tables e below (s₁.setTop (mkF m 2 #[.val (.long x), .second, .val (.int p2), .val (.int i)] [])) t := by
    intro k
    induction k with
    | zero =>
      intro i x hi t kt
      have hi' : i = p2 := Int32.toInt_inj.mp (by omega)
      rw [hi']
      rw [own_it_zero] at kt
      show Steps p.tables e below (s₁.setTop (mkF m 2 #[.val (.long x), .second, .val (.int p2), .val (.int p2)] [])) _
      refine XS.iloadN X0.here hx rfl (hb hby d1_2) rfl ?_
      show Steps p.tables e below (s₁.setTop (mkF m 3 #[.val (.long x), .second, .val (.int p2), .val (.int p2)] [(.int p2)])) _
      refine XS.iloadN X0.here hx rfl (hb hby d1_3) rfl ?_
      show Steps p.tables e below (s₁.setTop (mkF m 4 #[.val (.long x), .second, .val (.int p2), .val (.int p2)] [(.int p2), (.int p2)])) _
      refine XS.icmpYes X0.here hx rfl (pc0 := 4) (pc' := 23) rfl (hb hby d1_4) rfl (flt Int32.lt_irrefl).2.1 (by decide) (by decide) ?_
      exact kt
    | succ k ih =>
      intro i x hi t kt
      rw [own_it_succ] at kt
      have hlt : i < p2 := by rw [Int32.lt_iff_toInt_lt]; omega
      have hr1 := rng32 p2
      have hr0 := rng32 i
      have hc1 := c_iadd i 1
      have hr2 := rng32 (i + 1)
      have e1i : (1 : Int32).toInt = 1 := by decide
      show Steps p.tables e below (s₁.setTop (mkF m 2 #[.val (.long x), .second, .val (.int p2), .val (.int i)] [])) _
      refine XS.iloadN X0.here hx rfl (hb hby d1_2) rfl ?_
      show Steps p.tables e below (s₁.setTop (mkF m 3 #[.val (.long x), .second, .val (.int p2), .val (.int i)] [(.int i)])) _
      refine XS.iloadN X0.here hx rfl (hb hby d1_3) rfl ?_
      show Steps p.tables e below (s₁.setTop (mkF m 4 #[.val (.long x), .second, .val (.int p2), .val (.int i)] [(.int p2), (.int i)])) _
      refine XS.icmpNo X0.here hx rfl (hb hby d1_4) rfl (tlt hlt).2.1 ?_
      show Steps p.tables e below (s₁.setTop (mkF m 7 #[.val (.long x), .second, .val (.int p2), .val (.int i)] [])) _
      refine XS.lloadN X0.here hx rfl (hb hby d1_7) rfl ?_
      show Steps p.tables e below (s₁.setTop (mkF m 8 #[.val (.long x), .second, .val (.int p2), .val (.int i)] [(.long x)])) _
      refine X0.ldc2Long hx hown (mvT hZ (hw _ (List.mem_of_getElem? (i := 7) rfl))) (g := (mkF m 8 #[.val (.long x), .second, .val (.int p2), .val (.int i)] [(.long x)])) rfl (hb hby d1_8) _ ?_
      show Steps p.tables e below (s₁.setTop (mkF m 11 #[.val (.long x), .second, .val (.int p2), .val (.int i)] [(.long (6364136223846793005 : Int64)), (.long x)])) _
      refine XS.lmul X0.here hx rfl (hb hby d1_11) rfl ?_
      show Steps p.tables e below (s₁.setTop (mkF m 12 #[.val (.long x), .second, .val (.int p2), .val (.int i)] [(.long (x * (6364136223846793005 : Int64)))])) _
      refine X0.ldc2Long hx hown (mvT hZ (hw _ (List.mem_of_getElem? (i := 8) rfl))) (g := (mkF m 12 #[.val (.long x), .second, .val (.int p2), .val (.int i)] [(.long (x * (6364136223846793005 : Int64)))])) rfl (hb hby d1_12) _ ?_
      show Steps p.tables e below (s₁.setTop (mkF m 15 #[.val (.long x), .second, .val (.int p2), .val (.int i)] [(.long (1442695040888963407 : Int64)), (.long (x * (6364136223846793005 : Int64)))])) _
      refine XS.ladd X0.here hx rfl (hb hby d1_15) rfl ?_
      show Steps p.tables e below (s₁.setTop (mkF m 16 #[.val (.long x), .second, .val (.int p2), .val (.int i)] [(.long ((x * (6364136223846793005 : Int64)) + (1442695040888963407 : Int64)))])) _
      refine XS.lstoreN X0.here hx rfl (hb hby d1_16) rfl (l' := #[.val (.long ((x * (6364136223846793005 : Int64)) + (1442695040888963407 : Int64))), .second, .val (.int p2), .val (.int i)]) rfl ?_
      show Steps p.tables e below (s₁.setTop (mkF m 17 #[.val (.long ((x * (6364136223846793005 : Int64)) + (1442695040888963407 : Int64))), .second, .val (.int p2), .val (.int i)] [])) _
      refine XS.iinc X0.here hx rfl (hb hby d1_17) rfl (l' := #[.val (.long ((x * (6364136223846793005 : Int64)) + (1442695040888963407 : Int64))), .second, .val (.int p2), .val (.int (i + (1 : Int32)))]) rfl ?_
      show Steps p.tables e below (s₁.setTop (mkF m 20 #[.val (.long ((x * (6364136223846793005 : Int64)) + (1442695040888963407 : Int64))), .second, .val (.int p2), .val (.int (i + (1 : Int32)))] [])) _
      refine XS.goto X0.here hx rfl (pc0 := 20) (pc' := 2) rfl (hb hby d1_20) (by decide) (by decide) ?_
      exact ih (i + (1 : Int32)) ((x * (6364136223846793005 : Int64)) + (1442695040888963407 : Int64)) (by omega) t kt
  by_cases c1 : (0 : Int32) < p2
  · have pre1 : ∀ t, Steps p.tables e below (s₁.setTop (mkF m 2 #[.val (.long q1), .second, .val (.int p2), .val (.int (0 : Int32))] [])) t → Steps p.tables e below (s₁.setTop (entryFrame m #[(.long q1), (.int p2)] 4)) t := fun t kt => pre0 t (by
      show Steps p.tables e below (s₁.setTop (mkF m 0 #[.val (.long q1), .second, .val (.int p2), .unset] [])) _
      refine XS.iconst X0.here hx rfl (hb hby d1_0) ?_
      show Steps p.tables e below (s₁.setTop (mkF m 1 #[.val (.long q1), .second, .val (.int p2), .unset] [(.int (0 : Int32))])) _
      refine XS.istoreN X0.here hx rfl (hb hby d1_1) rfl (l' := #[.val (.long q1), .second, .val (.int p2), .val (.int (0 : Int32))]) rfl ?_
      exact kt)
    have hk : (0 : Int32).toInt + (p2.toInt.toNat : Int) = p2.toInt := by rw [Int32.lt_iff_toInt_lt] at c1; omega
    have st := loop p2.toInt.toNat 0 q1 hk
    have pre2 : ∀ t, Steps p.tables e below (s₁.setTop (mkF m 23 #[.val (.long (own_it p2.toInt.toNat q1)), .second, .val (.int p2), .val (.int p2)] [])) t → Steps p.tables e below (s₁.setTop (entryFrame m #[(.long q1), (.int p2)] 4)) t := fun t kt => pre1 t (st t kt)
    have pre3 : ∀ t, Steps p.tables e below (s₁.setTop (mkF m 24 #[.val (.long (own_it p2.toInt.toNat q1)), .second, .val (.int p2), .val (.int p2)] [(.long (own_it p2.toInt.toNat q1))])) t → Steps p.tables e below (s₁.setTop (entryFrame m #[(.long q1), (.int p2)] 4)) t := fun t kt => pre2 t (by
      show Steps p.tables e below (s₁.setTop (mkF m 23 #[.val (.long (own_it p2.toInt.toNat q1)), .second, .val (.int p2), .val (.int p2)] [])) _
      refine XS.lloadN X0.here hx rfl (hb hby d1_23) rfl ?_
      exact kt)
    obtain ⟨fs, hr, hrun, hended, hW, hsame⟩ := X0.leave (v := some (.long (own_it p2.toInt.toNat q1))) (fun h => by rw [Bd.returns] at h; cases h)
    refine ⟨_, _, pre3 _ ?_, hrun, hended, _, _, rfl, ?_, ⟨_, rfl⟩, hW, hsame.mono (by decide) (by decide)⟩
    · show Steps p.tables e below (s₁.setTop (mkF m 24 #[.val (.long (own_it p2.toInt.toNat q1)), .second, .val (.int p2), .val (.int p2)] [(.long (own_it p2.toInt.toNat q1))])) _
      exact X0.lreturnOut hx Bd.returns (hb hby d1_24) hr
    · show Q1 Z q1 p2 h0 n0 _ s₁.heap _
      rw [e0]
      exact ⟨rfl, N0, rfl⟩
  · have pre4 : ∀ t, Steps p.tables e below (s₁.setTop (mkF m 24 #[.val (.long q1), .second, .val (.int p2), .val (.int (0 : Int32))] [(.long q1)])) t → Steps p.tables e below (s₁.setTop (entryFrame m #[(.long q1), (.int p2)] 4)) t := fun t kt => pre0 t (by
      show Steps p.tables e below (s₁.setTop (mkF m 0 #[.val (.long q1), .second, .val (.int p2), .unset] [])) _
      refine XS.iconst X0.here hx rfl (hb hby d1_0) ?_
      show Steps p.tables e below (s₁.setTop (mkF m 1 #[.val (.long q1), .second, .val (.int p2), .unset] [(.int (0 : Int32))])) _
      refine XS.istoreN X0.here hx rfl (hb hby d1_1) rfl (l' := #[.val (.long q1), .second, .val (.int p2), .val (.int (0 : Int32))]) rfl ?_
      show Steps p.tables e below (s₁.setTop (mkF m 2 #[.val (.long q1), .second, .val (.int p2), .val (.int (0 : Int32))] [])) _
      refine XS.iloadN X0.here hx rfl (hb hby d1_2) rfl ?_
      show Steps p.tables e below (s₁.setTop (mkF m 3 #[.val (.long q1), .second, .val (.int p2), .val (.int (0 : Int32))] [(.int (0 : Int32))])) _
      refine XS.iloadN X0.here hx rfl (hb hby d1_3) rfl ?_
      show Steps p.tables e below (s₁.setTop (mkF m 4 #[.val (.long q1), .second, .val (.int p2), .val (.int (0 : Int32))] [(.int p2), (.int (0 : Int32))])) _
      refine XS.icmpYes X0.here hx rfl (pc0 := 4) (pc' := 23) rfl (hb hby d1_4) rfl (flt c1).2.1 (by decide) (by decide) ?_
      show Steps p.tables e below (s₁.setTop (mkF m 23 #[.val (.long q1), .second, .val (.int p2), .val (.int (0 : Int32))] [])) _
      refine XS.lloadN X0.here hx rfl (hb hby d1_23) rfl ?_
      exact kt)
    have hz : p2.toInt.toNat = 0 := by rw [Int32.lt_iff_toInt_lt] at c1; omega
    obtain ⟨fs, hr, hrun, hended, hW, hsame⟩ := X0.leave (v := some (.long q1)) (fun h => by rw [Bd.returns] at h; cases h)
    refine ⟨_, _, pre4 _ ?_, hrun, hended, _, _, rfl, ?_, ⟨_, rfl⟩, hW, hsame.mono (by decide) (by decide)⟩
    · show Steps p.tables e below (s₁.setTop (mkF m 24 #[.val (.long q1), .second, .val (.int p2), .val (.int (0 : Int32))] [(.long q1)])) _
      exact X0.lreturnOut hx Bd.returns (hb hby d1_24) hr
    · show Q1 Z q1 p2 h0 n0 _ s₁.heap _
      rw [e0]
      exact ⟨by rw [hz, own_it_zero], N0, rfl⟩
theorem pn_0 : plainName "turnstile/contend/GeneratorStepPinLaw" = true := by first | (simp [plainName, overriddenIn]; done) | decide +kernel
theorem pd_0_0 : parseMethodDescriptor "(JI)J" = some ⟨[.long, .int], some .long⟩ := by decide +kernel
theorem ef_0 (m : MethodId) (x0 : Int64) (x1 : Int32) (x2 : Int32) (x3 : Int32) : entryFrame m #[(.long x0), (.int x1), (.int x2), (.int x3)] maxLocals = mkF m 0 #[.val (.long x0), .second, .val (.int x1), .val (.int x2), .val (.int x3), .unset, .unset, .unset, .unset, .unset, .unset, .unset, .unset, .unset, .unset, .unset] [] := by first | (simp [entryFrame, mkF, argsToLocals, Value.category, maxLocals]; done) | rfl
def Q0 (Z : State) (q1 : Int64) (p2 : Int32) (p3 : Int32) (p4 : Int32) (h0 : Heap) (n0 : Nat) (v : Option Value) (h : Heap) (L : List Loc) : Prop := v = some (.int (1 : Int32)) ∧ Fr n0 L
set_option maxRecDepth 65536 in
set_option maxHeartbeats 40000000 in
theorem rm0 (l : Launch) (Z : State) (a0 : Array Value) (hw : ∀ d ∈ tables_1, d.before a0 Z = true) (ws : List Jvm.Cond) (q1 : Int64) (p2 : Int32) (p3 : Int32) (p4 : Int32) (h0 : Heap) (n0 : Nat) (Z0 : n0 ≤ h0.size)  :
    MetFree l x (head1 (Jvm.Cond.code x code maxLocals ret :: ws) room_1) (fun a U => a = #[(.long q1), (.int p2), (.int p3), (.int p4)] ∧ Z.Warmed39 U.vm ∧ U.heap = h0) (fun _ _ _ _ _ => True) (fun _ U ou U' => ∃ v L, ou = .returned v ∧ Q0 Z q1 p2 p3 p4 h0 n0 v U'.heap L ∧ FrameEnd U ou U' L room_1.cells room_1.slots) := by
  refine MetFree.of_bodySF (plainFor_of_name pn_0) hisR ?_
  intro p e s m args below meth c s₁ Bd hml0 hP hK
  obtain ⟨rfl, hZ, hh⟩ := hP
  have hx := Bd.exec
  have hby := Bd.bytes
  have hml : c.maxLocals = 16 := hml0
  have hown : s.vm.findClass "turnstile/contend/GeneratorStepPinLaw" = some m.cls := findClass_of_methodNamed Bd.named
  have hnm := (name_of_methodNamed Bd.named Bd.method).1
  have X0 : Stand p l e room_1 s m #[(.long q1), (.int p2), (.int p3), (.int p4)] below meth c s₁ [] 0 0 := Stand.of_body Bd
  have e0 : s₁.heap = h0 := by rw [← hh, Bd.state]; rfl
  have N0 := Fr.nil n0
  have pre0 : ∀ t, Steps p.tables e below (s₁.setTop (mkF m 0 #[.val (.long q1), .second, .val (.int p2), .val (.int p3), .val (.int p4), .unset, .unset, .unset, .unset, .unset, .unset, .unset, .unset, .unset, .unset, .unset] [])) t → Steps p.tables e below (s₁.setTop (entryFrame m #[(.long q1), (.int p2), (.int p3), (.int p4)] maxLocals)) t := fun t k => castTop (ef_0 m (q1) (p2) (p3) (p4)) k
  have pre1 : ∀ t, Steps p.tables e below (s₁.setTop (mkF m 45 #[.val (.long q1), .second, .val (.int p2), .val (.int p3), .val (.int p4), .val (.int (p4 ||| (-2147483648 : Int32))), .val (.int (p2 &&& (31 : Int32))), .val (.int (p3 &&& (31 : Int32))), .val (.long ((q1 * (6364136223846793005 : Int64)) + (1442695040888963407 : Int64))), .second, .val (.long ((((q1 * (6364136223846793005 : Int64)) + (1442695040888963407 : Int64)) * (6364136223846793005 : Int64)) + (1442695040888963407 : Int64))), .second, .unset, .unset, .unset, .unset] [(.int (p4 ||| (-2147483648 : Int32))), (.long q1)])) t → Steps p.tables e below (s₁.setTop (entryFrame m #[(.long q1), (.int p2), (.int p3), (.int p4)] maxLocals)) t := fun t kt => pre0 t (by
    show Steps p.tables e below (s₁.setTop (mkF m 0 #[.val (.long q1), .second, .val (.int p2), .val (.int p3), .val (.int p4), .unset, .unset, .unset, .unset, .unset, .unset, .unset, .unset, .unset, .unset, .unset] [])) _
    refine XS.iload X0.here hx rfl (hb hby at_0) rfl ?_
    show Steps p.tables e below (s₁.setTop (mkF m 2 #[.val (.long q1), .second, .val (.int p2), .val (.int p3), .val (.int p4), .unset, .unset, .unset, .unset, .unset, .unset, .unset, .unset, .unset, .unset, .unset] [(.int p4)])) _
    refine X0.ldcInt hx hown (mvT hZ (hw _ (List.mem_of_getElem? (i := 0) rfl))) (g := (mkF m 2 #[.val (.long q1), .second, .val (.int p2), .val (.int p3), .val (.int p4), .unset, .unset, .unset, .unset, .unset, .unset, .unset, .unset, .unset, .unset, .unset] [(.int p4)])) rfl (hb hby at_2) _ ?_
    show Steps p.tables e below (s₁.setTop (mkF m 4 #[.val (.long q1), .second, .val (.int p2), .val (.int p3), .val (.int p4), .unset, .unset, .unset, .unset, .unset, .unset, .unset, .unset, .unset, .unset, .unset] [(.int (-2147483648 : Int32)), (.int p4)])) _
    refine XS.ior X0.here hx rfl (hb hby at_4) rfl ?_
    show Steps p.tables e below (s₁.setTop (mkF m 5 #[.val (.long q1), .second, .val (.int p2), .val (.int p3), .val (.int p4), .unset, .unset, .unset, .unset, .unset, .unset, .unset, .unset, .unset, .unset, .unset] [(.int (p4 ||| (-2147483648 : Int32)))])) _
    refine XS.istore X0.here hx rfl (hb hby at_5) rfl (l' := #[.val (.long q1), .second, .val (.int p2), .val (.int p3), .val (.int p4), .val (.int (p4 ||| (-2147483648 : Int32))), .unset, .unset, .unset, .unset, .unset, .unset, .unset, .unset, .unset, .unset]) rfl ?_
    show Steps p.tables e below (s₁.setTop (mkF m 7 #[.val (.long q1), .second, .val (.int p2), .val (.int p3), .val (.int p4), .val (.int (p4 ||| (-2147483648 : Int32))), .unset, .unset, .unset, .unset, .unset, .unset, .unset, .unset, .unset, .unset] [])) _
    refine XS.iloadN X0.here hx rfl (hb hby at_7) rfl ?_
    show Steps p.tables e below (s₁.setTop (mkF m 8 #[.val (.long q1), .second, .val (.int p2), .val (.int p3), .val (.int p4), .val (.int (p4 ||| (-2147483648 : Int32))), .unset, .unset, .unset, .unset, .unset, .unset, .unset, .unset, .unset, .unset] [(.int p2)])) _
    refine XS.bipush X0.here hx rfl (hb hby at_8) ?_
    show Steps p.tables e below (s₁.setTop (mkF m 10 #[.val (.long q1), .second, .val (.int p2), .val (.int p3), .val (.int p4), .val (.int (p4 ||| (-2147483648 : Int32))), .unset, .unset, .unset, .unset, .unset, .unset, .unset, .unset, .unset, .unset] [(.int (31 : Int32)), (.int p2)])) _
    refine XS.iand X0.here hx rfl (hb hby at_10) rfl ?_
    show Steps p.tables e below (s₁.setTop (mkF m 11 #[.val (.long q1), .second, .val (.int p2), .val (.int p3), .val (.int p4), .val (.int (p4 ||| (-2147483648 : Int32))), .unset, .unset, .unset, .unset, .unset, .unset, .unset, .unset, .unset, .unset] [(.int (p2 &&& (31 : Int32)))])) _
    refine XS.istore X0.here hx rfl (hb hby at_11) rfl (l' := #[.val (.long q1), .second, .val (.int p2), .val (.int p3), .val (.int p4), .val (.int (p4 ||| (-2147483648 : Int32))), .val (.int (p2 &&& (31 : Int32))), .unset, .unset, .unset, .unset, .unset, .unset, .unset, .unset, .unset]) rfl ?_
    show Steps p.tables e below (s₁.setTop (mkF m 13 #[.val (.long q1), .second, .val (.int p2), .val (.int p3), .val (.int p4), .val (.int (p4 ||| (-2147483648 : Int32))), .val (.int (p2 &&& (31 : Int32))), .unset, .unset, .unset, .unset, .unset, .unset, .unset, .unset, .unset] [])) _
    refine XS.iloadN X0.here hx rfl (hb hby at_13) rfl ?_
    show Steps p.tables e below (s₁.setTop (mkF m 14 #[.val (.long q1), .second, .val (.int p2), .val (.int p3), .val (.int p4), .val (.int (p4 ||| (-2147483648 : Int32))), .val (.int (p2 &&& (31 : Int32))), .unset, .unset, .unset, .unset, .unset, .unset, .unset, .unset, .unset] [(.int p3)])) _
    refine XS.bipush X0.here hx rfl (hb hby at_14) ?_
    show Steps p.tables e below (s₁.setTop (mkF m 16 #[.val (.long q1), .second, .val (.int p2), .val (.int p3), .val (.int p4), .val (.int (p4 ||| (-2147483648 : Int32))), .val (.int (p2 &&& (31 : Int32))), .unset, .unset, .unset, .unset, .unset, .unset, .unset, .unset, .unset] [(.int (31 : Int32)), (.int p3)])) _
    refine XS.iand X0.here hx rfl (hb hby at_16) rfl ?_
    show Steps p.tables e below (s₁.setTop (mkF m 17 #[.val (.long q1), .second, .val (.int p2), .val (.int p3), .val (.int p4), .val (.int (p4 ||| (-2147483648 : Int32))), .val (.int (p2 &&& (31 : Int32))), .unset, .unset, .unset, .unset, .unset, .unset, .unset, .unset, .unset] [(.int (p3 &&& (31 : Int32)))])) _
    refine XS.istore X0.here hx rfl (hb hby at_17) rfl (l' := #[.val (.long q1), .second, .val (.int p2), .val (.int p3), .val (.int p4), .val (.int (p4 ||| (-2147483648 : Int32))), .val (.int (p2 &&& (31 : Int32))), .val (.int (p3 &&& (31 : Int32))), .unset, .unset, .unset, .unset, .unset, .unset, .unset, .unset]) rfl ?_
    show Steps p.tables e below (s₁.setTop (mkF m 19 #[.val (.long q1), .second, .val (.int p2), .val (.int p3), .val (.int p4), .val (.int (p4 ||| (-2147483648 : Int32))), .val (.int (p2 &&& (31 : Int32))), .val (.int (p3 &&& (31 : Int32))), .unset, .unset, .unset, .unset, .unset, .unset, .unset, .unset] [])) _
    refine XS.lloadN X0.here hx rfl (hb hby at_19) rfl ?_
    show Steps p.tables e below (s₁.setTop (mkF m 20 #[.val (.long q1), .second, .val (.int p2), .val (.int p3), .val (.int p4), .val (.int (p4 ||| (-2147483648 : Int32))), .val (.int (p2 &&& (31 : Int32))), .val (.int (p3 &&& (31 : Int32))), .unset, .unset, .unset, .unset, .unset, .unset, .unset, .unset] [(.long q1)])) _
    refine X0.ldc2Long hx hown (mvT hZ (hw _ (List.mem_of_getElem? (i := 1) rfl))) (g := (mkF m 20 #[.val (.long q1), .second, .val (.int p2), .val (.int p3), .val (.int p4), .val (.int (p4 ||| (-2147483648 : Int32))), .val (.int (p2 &&& (31 : Int32))), .val (.int (p3 &&& (31 : Int32))), .unset, .unset, .unset, .unset, .unset, .unset, .unset, .unset] [(.long q1)])) rfl (hb hby at_20) _ ?_
    show Steps p.tables e below (s₁.setTop (mkF m 23 #[.val (.long q1), .second, .val (.int p2), .val (.int p3), .val (.int p4), .val (.int (p4 ||| (-2147483648 : Int32))), .val (.int (p2 &&& (31 : Int32))), .val (.int (p3 &&& (31 : Int32))), .unset, .unset, .unset, .unset, .unset, .unset, .unset, .unset] [(.long (6364136223846793005 : Int64)), (.long q1)])) _
    refine XS.lmul X0.here hx rfl (hb hby at_23) rfl ?_
    show Steps p.tables e below (s₁.setTop (mkF m 24 #[.val (.long q1), .second, .val (.int p2), .val (.int p3), .val (.int p4), .val (.int (p4 ||| (-2147483648 : Int32))), .val (.int (p2 &&& (31 : Int32))), .val (.int (p3 &&& (31 : Int32))), .unset, .unset, .unset, .unset, .unset, .unset, .unset, .unset] [(.long (q1 * (6364136223846793005 : Int64)))])) _
    refine X0.ldc2Long hx hown (mvT hZ (hw _ (List.mem_of_getElem? (i := 2) rfl))) (g := (mkF m 24 #[.val (.long q1), .second, .val (.int p2), .val (.int p3), .val (.int p4), .val (.int (p4 ||| (-2147483648 : Int32))), .val (.int (p2 &&& (31 : Int32))), .val (.int (p3 &&& (31 : Int32))), .unset, .unset, .unset, .unset, .unset, .unset, .unset, .unset] [(.long (q1 * (6364136223846793005 : Int64)))])) rfl (hb hby at_24) _ ?_
    show Steps p.tables e below (s₁.setTop (mkF m 27 #[.val (.long q1), .second, .val (.int p2), .val (.int p3), .val (.int p4), .val (.int (p4 ||| (-2147483648 : Int32))), .val (.int (p2 &&& (31 : Int32))), .val (.int (p3 &&& (31 : Int32))), .unset, .unset, .unset, .unset, .unset, .unset, .unset, .unset] [(.long (1442695040888963407 : Int64)), (.long (q1 * (6364136223846793005 : Int64)))])) _
    refine XS.ladd X0.here hx rfl (hb hby at_27) rfl ?_
    show Steps p.tables e below (s₁.setTop (mkF m 28 #[.val (.long q1), .second, .val (.int p2), .val (.int p3), .val (.int p4), .val (.int (p4 ||| (-2147483648 : Int32))), .val (.int (p2 &&& (31 : Int32))), .val (.int (p3 &&& (31 : Int32))), .unset, .unset, .unset, .unset, .unset, .unset, .unset, .unset] [(.long ((q1 * (6364136223846793005 : Int64)) + (1442695040888963407 : Int64)))])) _
    refine XS.lstore X0.here hx rfl (hb hby at_28) rfl (l' := #[.val (.long q1), .second, .val (.int p2), .val (.int p3), .val (.int p4), .val (.int (p4 ||| (-2147483648 : Int32))), .val (.int (p2 &&& (31 : Int32))), .val (.int (p3 &&& (31 : Int32))), .val (.long ((q1 * (6364136223846793005 : Int64)) + (1442695040888963407 : Int64))), .second, .unset, .unset, .unset, .unset, .unset, .unset]) rfl ?_
    show Steps p.tables e below (s₁.setTop (mkF m 30 #[.val (.long q1), .second, .val (.int p2), .val (.int p3), .val (.int p4), .val (.int (p4 ||| (-2147483648 : Int32))), .val (.int (p2 &&& (31 : Int32))), .val (.int (p3 &&& (31 : Int32))), .val (.long ((q1 * (6364136223846793005 : Int64)) + (1442695040888963407 : Int64))), .second, .unset, .unset, .unset, .unset, .unset, .unset] [])) _
    refine XS.lload X0.here hx rfl (hb hby at_30) rfl ?_
    show Steps p.tables e below (s₁.setTop (mkF m 32 #[.val (.long q1), .second, .val (.int p2), .val (.int p3), .val (.int p4), .val (.int (p4 ||| (-2147483648 : Int32))), .val (.int (p2 &&& (31 : Int32))), .val (.int (p3 &&& (31 : Int32))), .val (.long ((q1 * (6364136223846793005 : Int64)) + (1442695040888963407 : Int64))), .second, .unset, .unset, .unset, .unset, .unset, .unset] [(.long ((q1 * (6364136223846793005 : Int64)) + (1442695040888963407 : Int64)))])) _
    refine X0.ldc2Long hx hown (mvT hZ (hw _ (List.mem_of_getElem? (i := 1) rfl))) (g := (mkF m 32 #[.val (.long q1), .second, .val (.int p2), .val (.int p3), .val (.int p4), .val (.int (p4 ||| (-2147483648 : Int32))), .val (.int (p2 &&& (31 : Int32))), .val (.int (p3 &&& (31 : Int32))), .val (.long ((q1 * (6364136223846793005 : Int64)) + (1442695040888963407 : Int64))), .second, .unset, .unset, .unset, .unset, .unset, .unset] [(.long ((q1 * (6364136223846793005 : Int64)) + (1442695040888963407 : Int64)))])) rfl (hb hby at_32) _ ?_
    show Steps p.tables e below (s₁.setTop (mkF m 35 #[.val (.long q1), .second, .val (.int p2), .val (.int p3), .val (.int p4), .val (.int (p4 ||| (-2147483648 : Int32))), .val (.int (p2 &&& (31 : Int32))), .val (.int (p3 &&& (31 : Int32))), .val (.long ((q1 * (6364136223846793005 : Int64)) + (1442695040888963407 : Int64))), .second, .unset, .unset, .unset, .unset, .unset, .unset] [(.long (6364136223846793005 : Int64)), (.long ((q1 * (6364136223846793005 : Int64)) + (1442695040888963407 : Int64)))])) _
    refine XS.lmul X0.here hx rfl (hb hby at_35) rfl ?_
    show Steps p.tables e below (s₁.setTop (mkF m 36 #[.val (.long q1), .second, .val (.int p2), .val (.int p3), .val (.int p4), .val (.int (p4 ||| (-2147483648 : Int32))), .val (.int (p2 &&& (31 : Int32))), .val (.int (p3 &&& (31 : Int32))), .val (.long ((q1 * (6364136223846793005 : Int64)) + (1442695040888963407 : Int64))), .second, .unset, .unset, .unset, .unset, .unset, .unset] [(.long (((q1 * (6364136223846793005 : Int64)) + (1442695040888963407 : Int64)) * (6364136223846793005 : Int64)))])) _
    refine X0.ldc2Long hx hown (mvT hZ (hw _ (List.mem_of_getElem? (i := 2) rfl))) (g := (mkF m 36 #[.val (.long q1), .second, .val (.int p2), .val (.int p3), .val (.int p4), .val (.int (p4 ||| (-2147483648 : Int32))), .val (.int (p2 &&& (31 : Int32))), .val (.int (p3 &&& (31 : Int32))), .val (.long ((q1 * (6364136223846793005 : Int64)) + (1442695040888963407 : Int64))), .second, .unset, .unset, .unset, .unset, .unset, .unset] [(.long (((q1 * (6364136223846793005 : Int64)) + (1442695040888963407 : Int64)) * (6364136223846793005 : Int64)))])) rfl (hb hby at_36) _ ?_
    show Steps p.tables e below (s₁.setTop (mkF m 39 #[.val (.long q1), .second, .val (.int p2), .val (.int p3), .val (.int p4), .val (.int (p4 ||| (-2147483648 : Int32))), .val (.int (p2 &&& (31 : Int32))), .val (.int (p3 &&& (31 : Int32))), .val (.long ((q1 * (6364136223846793005 : Int64)) + (1442695040888963407 : Int64))), .second, .unset, .unset, .unset, .unset, .unset, .unset] [(.long (1442695040888963407 : Int64)), (.long (((q1 * (6364136223846793005 : Int64)) + (1442695040888963407 : Int64)) * (6364136223846793005 : Int64)))])) _
    refine XS.ladd X0.here hx rfl (hb hby at_39) rfl ?_
    show Steps p.tables e below (s₁.setTop (mkF m 40 #[.val (.long q1), .second, .val (.int p2), .val (.int p3), .val (.int p4), .val (.int (p4 ||| (-2147483648 : Int32))), .val (.int (p2 &&& (31 : Int32))), .val (.int (p3 &&& (31 : Int32))), .val (.long ((q1 * (6364136223846793005 : Int64)) + (1442695040888963407 : Int64))), .second, .unset, .unset, .unset, .unset, .unset, .unset] [(.long ((((q1 * (6364136223846793005 : Int64)) + (1442695040888963407 : Int64)) * (6364136223846793005 : Int64)) + (1442695040888963407 : Int64)))])) _
    refine XS.lstore X0.here hx rfl (hb hby at_40) rfl (l' := #[.val (.long q1), .second, .val (.int p2), .val (.int p3), .val (.int p4), .val (.int (p4 ||| (-2147483648 : Int32))), .val (.int (p2 &&& (31 : Int32))), .val (.int (p3 &&& (31 : Int32))), .val (.long ((q1 * (6364136223846793005 : Int64)) + (1442695040888963407 : Int64))), .second, .val (.long ((((q1 * (6364136223846793005 : Int64)) + (1442695040888963407 : Int64)) * (6364136223846793005 : Int64)) + (1442695040888963407 : Int64))), .second, .unset, .unset, .unset, .unset]) rfl ?_
    show Steps p.tables e below (s₁.setTop (mkF m 42 #[.val (.long q1), .second, .val (.int p2), .val (.int p3), .val (.int p4), .val (.int (p4 ||| (-2147483648 : Int32))), .val (.int (p2 &&& (31 : Int32))), .val (.int (p3 &&& (31 : Int32))), .val (.long ((q1 * (6364136223846793005 : Int64)) + (1442695040888963407 : Int64))), .second, .val (.long ((((q1 * (6364136223846793005 : Int64)) + (1442695040888963407 : Int64)) * (6364136223846793005 : Int64)) + (1442695040888963407 : Int64))), .second, .unset, .unset, .unset, .unset] [])) _
    refine XS.lloadN X0.here hx rfl (hb hby at_42) rfl ?_
    show Steps p.tables e below (s₁.setTop (mkF m 43 #[.val (.long q1), .second, .val (.int p2), .val (.int p3), .val (.int p4), .val (.int (p4 ||| (-2147483648 : Int32))), .val (.int (p2 &&& (31 : Int32))), .val (.int (p3 &&& (31 : Int32))), .val (.long ((q1 * (6364136223846793005 : Int64)) + (1442695040888963407 : Int64))), .second, .val (.long ((((q1 * (6364136223846793005 : Int64)) + (1442695040888963407 : Int64)) * (6364136223846793005 : Int64)) + (1442695040888963407 : Int64))), .second, .unset, .unset, .unset, .unset] [(.long q1)])) _
    refine XS.iload X0.here hx rfl (hb hby at_43) rfl ?_
    exact kt)
  obtain ⟨_, _, ⟨T2, L2, k2, n2⟩, -, X2, ⟨Lc2, hQ2, l2, y2, z2⟩, st2⟩ := Jvm.LawKit.callS X0 hx (y := (⟨"turnstile/contend/Generator", "step", "(JI)J"⟩ : MethodName)) hown (mvT hZ (hw _ (List.mem_of_getElem? (i := 3) rfl))) (mvT hZ (hw _ (List.mem_of_getElem? (i := 4) rfl))) (mvT hZ (hw _ (List.mem_of_getElem? (i := 5) rfl))) (mvT hZ (hw _ (List.mem_of_getElem? (i := 6) rfl))) (by decide) (backOf (W := 0) (rm1 l Z a0 hw [] q1 (p4 ||| (-2147483648 : Int32)) h0 n0 Z0) hZ (hw _ (List.mem_of_getElem? (i := 6) rfl)) (hw _ (List.mem_of_getElem? (i := 5) rfl)) (by decide) (by decide)) (g := (mkF m 45 #[.val (.long q1), .second, .val (.int p2), .val (.int p3), .val (.int p4), .val (.int (p4 ||| (-2147483648 : Int32))), .val (.int (p2 &&& (31 : Int32))), .val (.int (p3 &&& (31 : Int32))), .val (.long ((q1 * (6364136223846793005 : Int64)) + (1442695040888963407 : Int64))), .second, .val (.long ((((q1 * (6364136223846793005 : Int64)) + (1442695040888963407 : Int64)) * (6364136223846793005 : Int64)) + (1442695040888963407 : Int64))), .second, .unset, .unset, .unset, .unset] [(.int (p4 ||| (-2147483648 : Int32))), (.long q1)])) rfl (by rw [hml]; rfl) (argsL := [(.long q1), (.int (p4 ||| (-2147483648 : Int32)))]) (rest := []) (lenOf pd_0_0 rfl) rfl (by show 2 * 0 + _ ≤ _; exact Nat.le_of_eq rfl) (hb hby at_45) (fun _ _ => ⟨rfl, e0, (by decide : 0 + 0 ≤ _), (by decide : 0 + 0 ≤ _)⟩)
  dsimp only [Pt.U, Pt.locs, Pt.cells, Pt.slots] at X2 l2 y2 z2 st2 hQ2
  subst l2 y2 z2
  obtain ⟨rfl, N2q, e2⟩ := hQ2
  have N2 := Fr.app N0 N2q
  have pre3 : ∀ t, Steps p.tables e below (T2.setTop (mkF m 48 #[.val (.long q1), .second, .val (.int p2), .val (.int p3), .val (.int p4), .val (.int (p4 ||| (-2147483648 : Int32))), .val (.int (p2 &&& (31 : Int32))), .val (.int (p3 &&& (31 : Int32))), .val (.long ((q1 * (6364136223846793005 : Int64)) + (1442695040888963407 : Int64))), .second, .val (.long ((((q1 * (6364136223846793005 : Int64)) + (1442695040888963407 : Int64)) * (6364136223846793005 : Int64)) + (1442695040888963407 : Int64))), .second, .unset, .unset, .unset, .unset] [(.long (own_it (p4 ||| (-2147483648 : Int32)).toInt.toNat q1))])) t → Steps p.tables e below (s₁.setTop (entryFrame m #[(.long q1), (.int p2), (.int p3), (.int p4)] maxLocals)) t := fun t kt => pre1 t (st2 t kt)
  have pre4 : ∀ t, Steps p.tables e below (T2.setTop (mkF m 57 #[.val (.long q1), .second, .val (.int p2), .val (.int p3), .val (.int p4), .val (.int (p4 ||| (-2147483648 : Int32))), .val (.int (p2 &&& (31 : Int32))), .val (.int (p3 &&& (31 : Int32))), .val (.long ((q1 * (6364136223846793005 : Int64)) + (1442695040888963407 : Int64))), .second, .val (.long ((((q1 * (6364136223846793005 : Int64)) + (1442695040888963407 : Int64)) * (6364136223846793005 : Int64)) + (1442695040888963407 : Int64))), .second, .unset, .unset, .unset, .unset] [(.int (0 : Int32)), (.long q1)])) t → Steps p.tables e below (s₁.setTop (entryFrame m #[(.long q1), (.int p2), (.int p3), (.int p4)] maxLocals)) t := fun t kt => pre3 t (by
    show Steps p.tables e below (T2.setTop (mkF m 48 #[.val (.long q1), .second, .val (.int p2), .val (.int p3), .val (.int p4), .val (.int (p4 ||| (-2147483648 : Int32))), .val (.int (p2 &&& (31 : Int32))), .val (.int (p3 &&& (31 : Int32))), .val (.long ((q1 * (6364136223846793005 : Int64)) + (1442695040888963407 : Int64))), .second, .val (.long ((((q1 * (6364136223846793005 : Int64)) + (1442695040888963407 : Int64)) * (6364136223846793005 : Int64)) + (1442695040888963407 : Int64))), .second, .unset, .unset, .unset, .unset] [(.long (own_it (p4 ||| (-2147483648 : Int32)).toInt.toNat q1))])) _
    refine XS.lloadN X2.here hx rfl (hb hby at_48) rfl ?_
    show Steps p.tables e below (T2.setTop (mkF m 49 #[.val (.long q1), .second, .val (.int p2), .val (.int p3), .val (.int p4), .val (.int (p4 ||| (-2147483648 : Int32))), .val (.int (p2 &&& (31 : Int32))), .val (.int (p3 &&& (31 : Int32))), .val (.long ((q1 * (6364136223846793005 : Int64)) + (1442695040888963407 : Int64))), .second, .val (.long ((((q1 * (6364136223846793005 : Int64)) + (1442695040888963407 : Int64)) * (6364136223846793005 : Int64)) + (1442695040888963407 : Int64))), .second, .unset, .unset, .unset, .unset] [(.long q1), (.long (own_it (p4 ||| (-2147483648 : Int32)).toInt.toNat q1))])) _
    refine XS.lcmp X2.here hx rfl (hb hby at_49) rfl ?_
    show Steps p.tables e below (T2.setTop (mkF m 50 #[.val (.long q1), .second, .val (.int p2), .val (.int p3), .val (.int p4), .val (.int (p4 ||| (-2147483648 : Int32))), .val (.int (p2 &&& (31 : Int32))), .val (.int (p3 &&& (31 : Int32))), .val (.long ((q1 * (6364136223846793005 : Int64)) + (1442695040888963407 : Int64))), .second, .val (.long ((((q1 * (6364136223846793005 : Int64)) + (1442695040888963407 : Int64)) * (6364136223846793005 : Int64)) + (1442695040888963407 : Int64))), .second, .unset, .unset, .unset, .unset] [(.int (lcmpW (own_it (p4 ||| (-2147483648 : Int32)).toInt.toNat q1) q1))])) _
    refine XS.ifYes X2.here hx rfl (pc0 := 50) (pc' := 55) rfl (hb hby at_50) rfl ((if0 _ _).trans (teq ((lw_eq _ _).mpr (own_neg _ _))).1) (by decide) (by decide) ?_
    show Steps p.tables e below (T2.setTop (mkF m 55 #[.val (.long q1), .second, .val (.int p2), .val (.int p3), .val (.int p4), .val (.int (p4 ||| (-2147483648 : Int32))), .val (.int (p2 &&& (31 : Int32))), .val (.int (p3 &&& (31 : Int32))), .val (.long ((q1 * (6364136223846793005 : Int64)) + (1442695040888963407 : Int64))), .second, .val (.long ((((q1 * (6364136223846793005 : Int64)) + (1442695040888963407 : Int64)) * (6364136223846793005 : Int64)) + (1442695040888963407 : Int64))), .second, .unset, .unset, .unset, .unset] [])) _
    refine XS.lloadN X2.here hx rfl (hb hby at_55) rfl ?_
    show Steps p.tables e below (T2.setTop (mkF m 56 #[.val (.long q1), .second, .val (.int p2), .val (.int p3), .val (.int p4), .val (.int (p4 ||| (-2147483648 : Int32))), .val (.int (p2 &&& (31 : Int32))), .val (.int (p3 &&& (31 : Int32))), .val (.long ((q1 * (6364136223846793005 : Int64)) + (1442695040888963407 : Int64))), .second, .val (.long ((((q1 * (6364136223846793005 : Int64)) + (1442695040888963407 : Int64)) * (6364136223846793005 : Int64)) + (1442695040888963407 : Int64))), .second, .unset, .unset, .unset, .unset] [(.long q1)])) _
    refine XS.iconst X2.here hx rfl (hb hby at_56) ?_
    exact kt)
  obtain ⟨_, _, ⟨T5, L5, k5, n5⟩, -, X5, ⟨Lc5, hQ5, l5, y5, z5⟩, st5⟩ := Jvm.LawKit.callS X2 hx (y := (⟨"turnstile/contend/Generator", "step", "(JI)J"⟩ : MethodName)) hown (mvT hZ (hw _ (List.mem_of_getElem? (i := 3) rfl))) (mvT hZ (hw _ (List.mem_of_getElem? (i := 4) rfl))) (mvT hZ (hw _ (List.mem_of_getElem? (i := 5) rfl))) (mvT hZ (hw _ (List.mem_of_getElem? (i := 6) rfl))) (by decide) (backOf (W := 0) (rm1 l Z a0 hw [] q1 (0 : Int32) h0 n0 Z0) hZ (hw _ (List.mem_of_getElem? (i := 6) rfl)) (hw _ (List.mem_of_getElem? (i := 5) rfl)) (by decide) (by decide)) (g := (mkF m 57 #[.val (.long q1), .second, .val (.int p2), .val (.int p3), .val (.int p4), .val (.int (p4 ||| (-2147483648 : Int32))), .val (.int (p2 &&& (31 : Int32))), .val (.int (p3 &&& (31 : Int32))), .val (.long ((q1 * (6364136223846793005 : Int64)) + (1442695040888963407 : Int64))), .second, .val (.long ((((q1 * (6364136223846793005 : Int64)) + (1442695040888963407 : Int64)) * (6364136223846793005 : Int64)) + (1442695040888963407 : Int64))), .second, .unset, .unset, .unset, .unset] [(.int (0 : Int32)), (.long q1)])) rfl (by rw [hml]; rfl) (argsL := [(.long q1), (.int (0 : Int32))]) (rest := []) (lenOf pd_0_0 rfl) rfl (by show 2 * 0 + _ ≤ _; exact Nat.le_of_eq rfl) (hb hby at_57) (fun _ _ => ⟨rfl, e2, (by decide : 0 + 0 ≤ _), (by decide : 0 + 0 ≤ _)⟩)
  dsimp only [Pt.U, Pt.locs, Pt.cells, Pt.slots] at X5 l5 y5 z5 st5 hQ5
  subst l5 y5 z5
  obtain ⟨rfl, N5q, e5⟩ := hQ5
  have N5 := Fr.app N2 N5q
  have pre6 : ∀ t, Steps p.tables e below (T5.setTop (mkF m 60 #[.val (.long q1), .second, .val (.int p2), .val (.int p3), .val (.int p4), .val (.int (p4 ||| (-2147483648 : Int32))), .val (.int (p2 &&& (31 : Int32))), .val (.int (p3 &&& (31 : Int32))), .val (.long ((q1 * (6364136223846793005 : Int64)) + (1442695040888963407 : Int64))), .second, .val (.long ((((q1 * (6364136223846793005 : Int64)) + (1442695040888963407 : Int64)) * (6364136223846793005 : Int64)) + (1442695040888963407 : Int64))), .second, .unset, .unset, .unset, .unset] [(.long (own_it (0 : Int32).toInt.toNat q1))])) t → Steps p.tables e below (s₁.setTop (entryFrame m #[(.long q1), (.int p2), (.int p3), (.int p4)] maxLocals)) t := fun t kt => pre4 t (st5 t kt)
  have pre7 : ∀ t, Steps p.tables e below (T5.setTop (mkF m 69 #[.val (.long q1), .second, .val (.int p2), .val (.int p3), .val (.int p4), .val (.int (p4 ||| (-2147483648 : Int32))), .val (.int (p2 &&& (31 : Int32))), .val (.int (p3 &&& (31 : Int32))), .val (.long ((q1 * (6364136223846793005 : Int64)) + (1442695040888963407 : Int64))), .second, .val (.long ((((q1 * (6364136223846793005 : Int64)) + (1442695040888963407 : Int64)) * (6364136223846793005 : Int64)) + (1442695040888963407 : Int64))), .second, .unset, .unset, .unset, .unset] [(.int (1 : Int32)), (.long q1)])) t → Steps p.tables e below (s₁.setTop (entryFrame m #[(.long q1), (.int p2), (.int p3), (.int p4)] maxLocals)) t := fun t kt => pre6 t (by
    show Steps p.tables e below (T5.setTop (mkF m 60 #[.val (.long q1), .second, .val (.int p2), .val (.int p3), .val (.int p4), .val (.int (p4 ||| (-2147483648 : Int32))), .val (.int (p2 &&& (31 : Int32))), .val (.int (p3 &&& (31 : Int32))), .val (.long ((q1 * (6364136223846793005 : Int64)) + (1442695040888963407 : Int64))), .second, .val (.long ((((q1 * (6364136223846793005 : Int64)) + (1442695040888963407 : Int64)) * (6364136223846793005 : Int64)) + (1442695040888963407 : Int64))), .second, .unset, .unset, .unset, .unset] [(.long (own_it (0 : Int32).toInt.toNat q1))])) _
    refine XS.lloadN X5.here hx rfl (hb hby at_60) rfl ?_
    show Steps p.tables e below (T5.setTop (mkF m 61 #[.val (.long q1), .second, .val (.int p2), .val (.int p3), .val (.int p4), .val (.int (p4 ||| (-2147483648 : Int32))), .val (.int (p2 &&& (31 : Int32))), .val (.int (p3 &&& (31 : Int32))), .val (.long ((q1 * (6364136223846793005 : Int64)) + (1442695040888963407 : Int64))), .second, .val (.long ((((q1 * (6364136223846793005 : Int64)) + (1442695040888963407 : Int64)) * (6364136223846793005 : Int64)) + (1442695040888963407 : Int64))), .second, .unset, .unset, .unset, .unset] [(.long q1), (.long (own_it (0 : Int32).toInt.toNat q1))])) _
    refine XS.lcmp X5.here hx rfl (hb hby at_61) rfl ?_
    show Steps p.tables e below (T5.setTop (mkF m 62 #[.val (.long q1), .second, .val (.int p2), .val (.int p3), .val (.int p4), .val (.int (p4 ||| (-2147483648 : Int32))), .val (.int (p2 &&& (31 : Int32))), .val (.int (p3 &&& (31 : Int32))), .val (.long ((q1 * (6364136223846793005 : Int64)) + (1442695040888963407 : Int64))), .second, .val (.long ((((q1 * (6364136223846793005 : Int64)) + (1442695040888963407 : Int64)) * (6364136223846793005 : Int64)) + (1442695040888963407 : Int64))), .second, .unset, .unset, .unset, .unset] [(.int (lcmpW (own_it (0 : Int32).toInt.toNat q1) q1))])) _
    refine XS.ifYes X5.here hx rfl (pc0 := 62) (pc' := 67) rfl (hb hby at_62) rfl ((if0 _ _).trans (teq ((lw_eq _ _).mpr (own_0 _))).1) (by decide) (by decide) ?_
    show Steps p.tables e below (T5.setTop (mkF m 67 #[.val (.long q1), .second, .val (.int p2), .val (.int p3), .val (.int p4), .val (.int (p4 ||| (-2147483648 : Int32))), .val (.int (p2 &&& (31 : Int32))), .val (.int (p3 &&& (31 : Int32))), .val (.long ((q1 * (6364136223846793005 : Int64)) + (1442695040888963407 : Int64))), .second, .val (.long ((((q1 * (6364136223846793005 : Int64)) + (1442695040888963407 : Int64)) * (6364136223846793005 : Int64)) + (1442695040888963407 : Int64))), .second, .unset, .unset, .unset, .unset] [])) _
    refine XS.lloadN X5.here hx rfl (hb hby at_67) rfl ?_
    show Steps p.tables e below (T5.setTop (mkF m 68 #[.val (.long q1), .second, .val (.int p2), .val (.int p3), .val (.int p4), .val (.int (p4 ||| (-2147483648 : Int32))), .val (.int (p2 &&& (31 : Int32))), .val (.int (p3 &&& (31 : Int32))), .val (.long ((q1 * (6364136223846793005 : Int64)) + (1442695040888963407 : Int64))), .second, .val (.long ((((q1 * (6364136223846793005 : Int64)) + (1442695040888963407 : Int64)) * (6364136223846793005 : Int64)) + (1442695040888963407 : Int64))), .second, .unset, .unset, .unset, .unset] [(.long q1)])) _
    refine XS.iconst X5.here hx rfl (hb hby at_68) ?_
    exact kt)
  obtain ⟨_, _, ⟨T8, L8, k8, n8⟩, -, X8, ⟨Lc8, hQ8, l8, y8, z8⟩, st8⟩ := Jvm.LawKit.callS X5 hx (y := (⟨"turnstile/contend/Generator", "step", "(JI)J"⟩ : MethodName)) hown (mvT hZ (hw _ (List.mem_of_getElem? (i := 3) rfl))) (mvT hZ (hw _ (List.mem_of_getElem? (i := 4) rfl))) (mvT hZ (hw _ (List.mem_of_getElem? (i := 5) rfl))) (mvT hZ (hw _ (List.mem_of_getElem? (i := 6) rfl))) (by decide) (backOf (W := 0) (rm1 l Z a0 hw [] q1 (1 : Int32) h0 n0 Z0) hZ (hw _ (List.mem_of_getElem? (i := 6) rfl)) (hw _ (List.mem_of_getElem? (i := 5) rfl)) (by decide) (by decide)) (g := (mkF m 69 #[.val (.long q1), .second, .val (.int p2), .val (.int p3), .val (.int p4), .val (.int (p4 ||| (-2147483648 : Int32))), .val (.int (p2 &&& (31 : Int32))), .val (.int (p3 &&& (31 : Int32))), .val (.long ((q1 * (6364136223846793005 : Int64)) + (1442695040888963407 : Int64))), .second, .val (.long ((((q1 * (6364136223846793005 : Int64)) + (1442695040888963407 : Int64)) * (6364136223846793005 : Int64)) + (1442695040888963407 : Int64))), .second, .unset, .unset, .unset, .unset] [(.int (1 : Int32)), (.long q1)])) rfl (by rw [hml]; rfl) (argsL := [(.long q1), (.int (1 : Int32))]) (rest := []) (lenOf pd_0_0 rfl) rfl (by show 2 * 0 + _ ≤ _; exact Nat.le_of_eq rfl) (hb hby at_69) (fun _ _ => ⟨rfl, e5, (by decide : 0 + 0 ≤ _), (by decide : 0 + 0 ≤ _)⟩)
  dsimp only [Pt.U, Pt.locs, Pt.cells, Pt.slots] at X8 l8 y8 z8 st8 hQ8
  subst l8 y8 z8
  obtain ⟨rfl, N8q, e8⟩ := hQ8
  have N8 := Fr.app N5 N8q
  have pre9 : ∀ t, Steps p.tables e below (T8.setTop (mkF m 72 #[.val (.long q1), .second, .val (.int p2), .val (.int p3), .val (.int p4), .val (.int (p4 ||| (-2147483648 : Int32))), .val (.int (p2 &&& (31 : Int32))), .val (.int (p3 &&& (31 : Int32))), .val (.long ((q1 * (6364136223846793005 : Int64)) + (1442695040888963407 : Int64))), .second, .val (.long ((((q1 * (6364136223846793005 : Int64)) + (1442695040888963407 : Int64)) * (6364136223846793005 : Int64)) + (1442695040888963407 : Int64))), .second, .unset, .unset, .unset, .unset] [(.long (own_it (1 : Int32).toInt.toNat q1))])) t → Steps p.tables e below (s₁.setTop (entryFrame m #[(.long q1), (.int p2), (.int p3), (.int p4)] maxLocals)) t := fun t kt => pre7 t (st8 t kt)
  have pre10 : ∀ t, Steps p.tables e below (T8.setTop (mkF m 82 #[.val (.long q1), .second, .val (.int p2), .val (.int p3), .val (.int p4), .val (.int (p4 ||| (-2147483648 : Int32))), .val (.int (p2 &&& (31 : Int32))), .val (.int (p3 &&& (31 : Int32))), .val (.long ((q1 * (6364136223846793005 : Int64)) + (1442695040888963407 : Int64))), .second, .val (.long ((((q1 * (6364136223846793005 : Int64)) + (1442695040888963407 : Int64)) * (6364136223846793005 : Int64)) + (1442695040888963407 : Int64))), .second, .unset, .unset, .unset, .unset] [(.int (2 : Int32)), (.long q1)])) t → Steps p.tables e below (s₁.setTop (entryFrame m #[(.long q1), (.int p2), (.int p3), (.int p4)] maxLocals)) t := fun t kt => pre9 t (by
    show Steps p.tables e below (T8.setTop (mkF m 72 #[.val (.long q1), .second, .val (.int p2), .val (.int p3), .val (.int p4), .val (.int (p4 ||| (-2147483648 : Int32))), .val (.int (p2 &&& (31 : Int32))), .val (.int (p3 &&& (31 : Int32))), .val (.long ((q1 * (6364136223846793005 : Int64)) + (1442695040888963407 : Int64))), .second, .val (.long ((((q1 * (6364136223846793005 : Int64)) + (1442695040888963407 : Int64)) * (6364136223846793005 : Int64)) + (1442695040888963407 : Int64))), .second, .unset, .unset, .unset, .unset] [(.long (own_it (1 : Int32).toInt.toNat q1))])) _
    refine XS.lload X8.here hx rfl (hb hby at_72) rfl ?_
    show Steps p.tables e below (T8.setTop (mkF m 74 #[.val (.long q1), .second, .val (.int p2), .val (.int p3), .val (.int p4), .val (.int (p4 ||| (-2147483648 : Int32))), .val (.int (p2 &&& (31 : Int32))), .val (.int (p3 &&& (31 : Int32))), .val (.long ((q1 * (6364136223846793005 : Int64)) + (1442695040888963407 : Int64))), .second, .val (.long ((((q1 * (6364136223846793005 : Int64)) + (1442695040888963407 : Int64)) * (6364136223846793005 : Int64)) + (1442695040888963407 : Int64))), .second, .unset, .unset, .unset, .unset] [(.long ((q1 * (6364136223846793005 : Int64)) + (1442695040888963407 : Int64))), (.long (own_it (1 : Int32).toInt.toNat q1))])) _
    refine XS.lcmp X8.here hx rfl (hb hby at_74) rfl ?_
    show Steps p.tables e below (T8.setTop (mkF m 75 #[.val (.long q1), .second, .val (.int p2), .val (.int p3), .val (.int p4), .val (.int (p4 ||| (-2147483648 : Int32))), .val (.int (p2 &&& (31 : Int32))), .val (.int (p3 &&& (31 : Int32))), .val (.long ((q1 * (6364136223846793005 : Int64)) + (1442695040888963407 : Int64))), .second, .val (.long ((((q1 * (6364136223846793005 : Int64)) + (1442695040888963407 : Int64)) * (6364136223846793005 : Int64)) + (1442695040888963407 : Int64))), .second, .unset, .unset, .unset, .unset] [(.int (lcmpW (own_it (1 : Int32).toInt.toNat q1) ((q1 * (6364136223846793005 : Int64)) + (1442695040888963407 : Int64))))])) _
    refine XS.ifYes X8.here hx rfl (pc0 := 75) (pc' := 80) rfl (hb hby at_75) rfl ((if0 _ _).trans (teq ((lw_eq _ _).mpr (own_1 _))).1) (by decide) (by decide) ?_
    show Steps p.tables e below (T8.setTop (mkF m 80 #[.val (.long q1), .second, .val (.int p2), .val (.int p3), .val (.int p4), .val (.int (p4 ||| (-2147483648 : Int32))), .val (.int (p2 &&& (31 : Int32))), .val (.int (p3 &&& (31 : Int32))), .val (.long ((q1 * (6364136223846793005 : Int64)) + (1442695040888963407 : Int64))), .second, .val (.long ((((q1 * (6364136223846793005 : Int64)) + (1442695040888963407 : Int64)) * (6364136223846793005 : Int64)) + (1442695040888963407 : Int64))), .second, .unset, .unset, .unset, .unset] [])) _
    refine XS.lloadN X8.here hx rfl (hb hby at_80) rfl ?_
    show Steps p.tables e below (T8.setTop (mkF m 81 #[.val (.long q1), .second, .val (.int p2), .val (.int p3), .val (.int p4), .val (.int (p4 ||| (-2147483648 : Int32))), .val (.int (p2 &&& (31 : Int32))), .val (.int (p3 &&& (31 : Int32))), .val (.long ((q1 * (6364136223846793005 : Int64)) + (1442695040888963407 : Int64))), .second, .val (.long ((((q1 * (6364136223846793005 : Int64)) + (1442695040888963407 : Int64)) * (6364136223846793005 : Int64)) + (1442695040888963407 : Int64))), .second, .unset, .unset, .unset, .unset] [(.long q1)])) _
    refine XS.iconst X8.here hx rfl (hb hby at_81) ?_
    exact kt)
  obtain ⟨_, _, ⟨T11, L11, k11, n11⟩, -, X11, ⟨Lc11, hQ11, l11, y11, z11⟩, st11⟩ := Jvm.LawKit.callS X8 hx (y := (⟨"turnstile/contend/Generator", "step", "(JI)J"⟩ : MethodName)) hown (mvT hZ (hw _ (List.mem_of_getElem? (i := 3) rfl))) (mvT hZ (hw _ (List.mem_of_getElem? (i := 4) rfl))) (mvT hZ (hw _ (List.mem_of_getElem? (i := 5) rfl))) (mvT hZ (hw _ (List.mem_of_getElem? (i := 6) rfl))) (by decide) (backOf (W := 0) (rm1 l Z a0 hw [] q1 (2 : Int32) h0 n0 Z0) hZ (hw _ (List.mem_of_getElem? (i := 6) rfl)) (hw _ (List.mem_of_getElem? (i := 5) rfl)) (by decide) (by decide)) (g := (mkF m 82 #[.val (.long q1), .second, .val (.int p2), .val (.int p3), .val (.int p4), .val (.int (p4 ||| (-2147483648 : Int32))), .val (.int (p2 &&& (31 : Int32))), .val (.int (p3 &&& (31 : Int32))), .val (.long ((q1 * (6364136223846793005 : Int64)) + (1442695040888963407 : Int64))), .second, .val (.long ((((q1 * (6364136223846793005 : Int64)) + (1442695040888963407 : Int64)) * (6364136223846793005 : Int64)) + (1442695040888963407 : Int64))), .second, .unset, .unset, .unset, .unset] [(.int (2 : Int32)), (.long q1)])) rfl (by rw [hml]; rfl) (argsL := [(.long q1), (.int (2 : Int32))]) (rest := []) (lenOf pd_0_0 rfl) rfl (by show 2 * 0 + _ ≤ _; exact Nat.le_of_eq rfl) (hb hby at_82) (fun _ _ => ⟨rfl, e8, (by decide : 0 + 0 ≤ _), (by decide : 0 + 0 ≤ _)⟩)
  dsimp only [Pt.U, Pt.locs, Pt.cells, Pt.slots] at X11 l11 y11 z11 st11 hQ11
  subst l11 y11 z11
  obtain ⟨rfl, N11q, e11⟩ := hQ11
  have N11 := Fr.app N8 N11q
  have pre12 : ∀ t, Steps p.tables e below (T11.setTop (mkF m 85 #[.val (.long q1), .second, .val (.int p2), .val (.int p3), .val (.int p4), .val (.int (p4 ||| (-2147483648 : Int32))), .val (.int (p2 &&& (31 : Int32))), .val (.int (p3 &&& (31 : Int32))), .val (.long ((q1 * (6364136223846793005 : Int64)) + (1442695040888963407 : Int64))), .second, .val (.long ((((q1 * (6364136223846793005 : Int64)) + (1442695040888963407 : Int64)) * (6364136223846793005 : Int64)) + (1442695040888963407 : Int64))), .second, .unset, .unset, .unset, .unset] [(.long (own_it (2 : Int32).toInt.toNat q1))])) t → Steps p.tables e below (s₁.setTop (entryFrame m #[(.long q1), (.int p2), (.int p3), (.int p4)] maxLocals)) t := fun t kt => pre10 t (st11 t kt)
  have pre13 : ∀ t, Steps p.tables e below (T11.setTop (mkF m 96 #[.val (.long q1), .second, .val (.int p2), .val (.int p3), .val (.int p4), .val (.int (p4 ||| (-2147483648 : Int32))), .val (.int (p2 &&& (31 : Int32))), .val (.int (p3 &&& (31 : Int32))), .val (.long ((q1 * (6364136223846793005 : Int64)) + (1442695040888963407 : Int64))), .second, .val (.long ((((q1 * (6364136223846793005 : Int64)) + (1442695040888963407 : Int64)) * (6364136223846793005 : Int64)) + (1442695040888963407 : Int64))), .second, .unset, .unset, .unset, .unset] [(.int (p2 &&& (31 : Int32))), (.long q1)])) t → Steps p.tables e below (s₁.setTop (entryFrame m #[(.long q1), (.int p2), (.int p3), (.int p4)] maxLocals)) t := fun t kt => pre12 t (by
    show Steps p.tables e below (T11.setTop (mkF m 85 #[.val (.long q1), .second, .val (.int p2), .val (.int p3), .val (.int p4), .val (.int (p4 ||| (-2147483648 : Int32))), .val (.int (p2 &&& (31 : Int32))), .val (.int (p3 &&& (31 : Int32))), .val (.long ((q1 * (6364136223846793005 : Int64)) + (1442695040888963407 : Int64))), .second, .val (.long ((((q1 * (6364136223846793005 : Int64)) + (1442695040888963407 : Int64)) * (6364136223846793005 : Int64)) + (1442695040888963407 : Int64))), .second, .unset, .unset, .unset, .unset] [(.long (own_it (2 : Int32).toInt.toNat q1))])) _
    refine XS.lload X11.here hx rfl (hb hby at_85) rfl ?_
    show Steps p.tables e below (T11.setTop (mkF m 87 #[.val (.long q1), .second, .val (.int p2), .val (.int p3), .val (.int p4), .val (.int (p4 ||| (-2147483648 : Int32))), .val (.int (p2 &&& (31 : Int32))), .val (.int (p3 &&& (31 : Int32))), .val (.long ((q1 * (6364136223846793005 : Int64)) + (1442695040888963407 : Int64))), .second, .val (.long ((((q1 * (6364136223846793005 : Int64)) + (1442695040888963407 : Int64)) * (6364136223846793005 : Int64)) + (1442695040888963407 : Int64))), .second, .unset, .unset, .unset, .unset] [(.long ((((q1 * (6364136223846793005 : Int64)) + (1442695040888963407 : Int64)) * (6364136223846793005 : Int64)) + (1442695040888963407 : Int64))), (.long (own_it (2 : Int32).toInt.toNat q1))])) _
    refine XS.lcmp X11.here hx rfl (hb hby at_87) rfl ?_
    show Steps p.tables e below (T11.setTop (mkF m 88 #[.val (.long q1), .second, .val (.int p2), .val (.int p3), .val (.int p4), .val (.int (p4 ||| (-2147483648 : Int32))), .val (.int (p2 &&& (31 : Int32))), .val (.int (p3 &&& (31 : Int32))), .val (.long ((q1 * (6364136223846793005 : Int64)) + (1442695040888963407 : Int64))), .second, .val (.long ((((q1 * (6364136223846793005 : Int64)) + (1442695040888963407 : Int64)) * (6364136223846793005 : Int64)) + (1442695040888963407 : Int64))), .second, .unset, .unset, .unset, .unset] [(.int (lcmpW (own_it (2 : Int32).toInt.toNat q1) ((((q1 * (6364136223846793005 : Int64)) + (1442695040888963407 : Int64)) * (6364136223846793005 : Int64)) + (1442695040888963407 : Int64))))])) _
    refine XS.ifYes X11.here hx rfl (pc0 := 88) (pc' := 93) rfl (hb hby at_88) rfl ((if0 _ _).trans (teq ((lw_eq _ _).mpr (own_2 _))).1) (by decide) (by decide) ?_
    show Steps p.tables e below (T11.setTop (mkF m 93 #[.val (.long q1), .second, .val (.int p2), .val (.int p3), .val (.int p4), .val (.int (p4 ||| (-2147483648 : Int32))), .val (.int (p2 &&& (31 : Int32))), .val (.int (p3 &&& (31 : Int32))), .val (.long ((q1 * (6364136223846793005 : Int64)) + (1442695040888963407 : Int64))), .second, .val (.long ((((q1 * (6364136223846793005 : Int64)) + (1442695040888963407 : Int64)) * (6364136223846793005 : Int64)) + (1442695040888963407 : Int64))), .second, .unset, .unset, .unset, .unset] [])) _
    refine XS.lloadN X11.here hx rfl (hb hby at_93) rfl ?_
    show Steps p.tables e below (T11.setTop (mkF m 94 #[.val (.long q1), .second, .val (.int p2), .val (.int p3), .val (.int p4), .val (.int (p4 ||| (-2147483648 : Int32))), .val (.int (p2 &&& (31 : Int32))), .val (.int (p3 &&& (31 : Int32))), .val (.long ((q1 * (6364136223846793005 : Int64)) + (1442695040888963407 : Int64))), .second, .val (.long ((((q1 * (6364136223846793005 : Int64)) + (1442695040888963407 : Int64)) * (6364136223846793005 : Int64)) + (1442695040888963407 : Int64))), .second, .unset, .unset, .unset, .unset] [(.long q1)])) _
    refine XS.iload X11.here hx rfl (hb hby at_94) rfl ?_
    exact kt)
  obtain ⟨_, _, ⟨T14, L14, k14, n14⟩, -, X14, ⟨Lc14, hQ14, l14, y14, z14⟩, st14⟩ := Jvm.LawKit.callS X11 hx (y := (⟨"turnstile/contend/Generator", "step", "(JI)J"⟩ : MethodName)) hown (mvT hZ (hw _ (List.mem_of_getElem? (i := 3) rfl))) (mvT hZ (hw _ (List.mem_of_getElem? (i := 4) rfl))) (mvT hZ (hw _ (List.mem_of_getElem? (i := 5) rfl))) (mvT hZ (hw _ (List.mem_of_getElem? (i := 6) rfl))) (by decide) (backOf (W := 0) (rm1 l Z a0 hw [] q1 (p2 &&& (31 : Int32)) h0 n0 Z0) hZ (hw _ (List.mem_of_getElem? (i := 6) rfl)) (hw _ (List.mem_of_getElem? (i := 5) rfl)) (by decide) (by decide)) (g := (mkF m 96 #[.val (.long q1), .second, .val (.int p2), .val (.int p3), .val (.int p4), .val (.int (p4 ||| (-2147483648 : Int32))), .val (.int (p2 &&& (31 : Int32))), .val (.int (p3 &&& (31 : Int32))), .val (.long ((q1 * (6364136223846793005 : Int64)) + (1442695040888963407 : Int64))), .second, .val (.long ((((q1 * (6364136223846793005 : Int64)) + (1442695040888963407 : Int64)) * (6364136223846793005 : Int64)) + (1442695040888963407 : Int64))), .second, .unset, .unset, .unset, .unset] [(.int (p2 &&& (31 : Int32))), (.long q1)])) rfl (by rw [hml]; rfl) (argsL := [(.long q1), (.int (p2 &&& (31 : Int32)))]) (rest := []) (lenOf pd_0_0 rfl) rfl (by show 2 * 0 + _ ≤ _; exact Nat.le_of_eq rfl) (hb hby at_96) (fun _ _ => ⟨rfl, e11, (by decide : 0 + 0 ≤ _), (by decide : 0 + 0 ≤ _)⟩)
  dsimp only [Pt.U, Pt.locs, Pt.cells, Pt.slots] at X14 l14 y14 z14 st14 hQ14
  subst l14 y14 z14
  obtain ⟨rfl, N14q, e14⟩ := hQ14
  have N14 := Fr.app N11 N14q
  have pre15 : ∀ t, Steps p.tables e below (T14.setTop (mkF m 99 #[.val (.long q1), .second, .val (.int p2), .val (.int p3), .val (.int p4), .val (.int (p4 ||| (-2147483648 : Int32))), .val (.int (p2 &&& (31 : Int32))), .val (.int (p3 &&& (31 : Int32))), .val (.long ((q1 * (6364136223846793005 : Int64)) + (1442695040888963407 : Int64))), .second, .val (.long ((((q1 * (6364136223846793005 : Int64)) + (1442695040888963407 : Int64)) * (6364136223846793005 : Int64)) + (1442695040888963407 : Int64))), .second, .unset, .unset, .unset, .unset] [(.long (own_it (p2 &&& (31 : Int32)).toInt.toNat q1))])) t → Steps p.tables e below (s₁.setTop (entryFrame m #[(.long q1), (.int p2), (.int p3), (.int p4)] maxLocals)) t := fun t kt => pre13 t (st14 t kt)
  have pre16 : ∀ t, Steps p.tables e below (T14.setTop (mkF m 105 #[.val (.long q1), .second, .val (.int p2), .val (.int p3), .val (.int p4), .val (.int (p4 ||| (-2147483648 : Int32))), .val (.int (p2 &&& (31 : Int32))), .val (.int (p3 &&& (31 : Int32))), .val (.long ((q1 * (6364136223846793005 : Int64)) + (1442695040888963407 : Int64))), .second, .val (.long ((((q1 * (6364136223846793005 : Int64)) + (1442695040888963407 : Int64)) * (6364136223846793005 : Int64)) + (1442695040888963407 : Int64))), .second, .val (.long (own_it (p2 &&& (31 : Int32)).toInt.toNat q1)), .second, .unset, .unset] [(.int (p3 &&& (31 : Int32))), (.long (own_it (p2 &&& (31 : Int32)).toInt.toNat q1))])) t → Steps p.tables e below (s₁.setTop (entryFrame m #[(.long q1), (.int p2), (.int p3), (.int p4)] maxLocals)) t := fun t kt => pre15 t (by
    show Steps p.tables e below (T14.setTop (mkF m 99 #[.val (.long q1), .second, .val (.int p2), .val (.int p3), .val (.int p4), .val (.int (p4 ||| (-2147483648 : Int32))), .val (.int (p2 &&& (31 : Int32))), .val (.int (p3 &&& (31 : Int32))), .val (.long ((q1 * (6364136223846793005 : Int64)) + (1442695040888963407 : Int64))), .second, .val (.long ((((q1 * (6364136223846793005 : Int64)) + (1442695040888963407 : Int64)) * (6364136223846793005 : Int64)) + (1442695040888963407 : Int64))), .second, .unset, .unset, .unset, .unset] [(.long (own_it (p2 &&& (31 : Int32)).toInt.toNat q1))])) _
    refine XS.lstore X14.here hx rfl (hb hby at_99) rfl (l' := #[.val (.long q1), .second, .val (.int p2), .val (.int p3), .val (.int p4), .val (.int (p4 ||| (-2147483648 : Int32))), .val (.int (p2 &&& (31 : Int32))), .val (.int (p3 &&& (31 : Int32))), .val (.long ((q1 * (6364136223846793005 : Int64)) + (1442695040888963407 : Int64))), .second, .val (.long ((((q1 * (6364136223846793005 : Int64)) + (1442695040888963407 : Int64)) * (6364136223846793005 : Int64)) + (1442695040888963407 : Int64))), .second, .val (.long (own_it (p2 &&& (31 : Int32)).toInt.toNat q1)), .second, .unset, .unset]) rfl ?_
    show Steps p.tables e below (T14.setTop (mkF m 101 #[.val (.long q1), .second, .val (.int p2), .val (.int p3), .val (.int p4), .val (.int (p4 ||| (-2147483648 : Int32))), .val (.int (p2 &&& (31 : Int32))), .val (.int (p3 &&& (31 : Int32))), .val (.long ((q1 * (6364136223846793005 : Int64)) + (1442695040888963407 : Int64))), .second, .val (.long ((((q1 * (6364136223846793005 : Int64)) + (1442695040888963407 : Int64)) * (6364136223846793005 : Int64)) + (1442695040888963407 : Int64))), .second, .val (.long (own_it (p2 &&& (31 : Int32)).toInt.toNat q1)), .second, .unset, .unset] [])) _
    refine XS.lload X14.here hx rfl (hb hby at_101) rfl ?_
    show Steps p.tables e below (T14.setTop (mkF m 103 #[.val (.long q1), .second, .val (.int p2), .val (.int p3), .val (.int p4), .val (.int (p4 ||| (-2147483648 : Int32))), .val (.int (p2 &&& (31 : Int32))), .val (.int (p3 &&& (31 : Int32))), .val (.long ((q1 * (6364136223846793005 : Int64)) + (1442695040888963407 : Int64))), .second, .val (.long ((((q1 * (6364136223846793005 : Int64)) + (1442695040888963407 : Int64)) * (6364136223846793005 : Int64)) + (1442695040888963407 : Int64))), .second, .val (.long (own_it (p2 &&& (31 : Int32)).toInt.toNat q1)), .second, .unset, .unset] [(.long (own_it (p2 &&& (31 : Int32)).toInt.toNat q1))])) _
    refine XS.iload X14.here hx rfl (hb hby at_103) rfl ?_
    exact kt)
  obtain ⟨_, _, ⟨T17, L17, k17, n17⟩, -, X17, ⟨Lc17, hQ17, l17, y17, z17⟩, st17⟩ := Jvm.LawKit.callS X14 hx (y := (⟨"turnstile/contend/Generator", "step", "(JI)J"⟩ : MethodName)) hown (mvT hZ (hw _ (List.mem_of_getElem? (i := 3) rfl))) (mvT hZ (hw _ (List.mem_of_getElem? (i := 4) rfl))) (mvT hZ (hw _ (List.mem_of_getElem? (i := 5) rfl))) (mvT hZ (hw _ (List.mem_of_getElem? (i := 6) rfl))) (by decide) (backOf (W := 0) (rm1 l Z a0 hw [] (own_it (p2 &&& (31 : Int32)).toInt.toNat q1) (p3 &&& (31 : Int32)) h0 n0 Z0) hZ (hw _ (List.mem_of_getElem? (i := 6) rfl)) (hw _ (List.mem_of_getElem? (i := 5) rfl)) (by decide) (by decide)) (g := (mkF m 105 #[.val (.long q1), .second, .val (.int p2), .val (.int p3), .val (.int p4), .val (.int (p4 ||| (-2147483648 : Int32))), .val (.int (p2 &&& (31 : Int32))), .val (.int (p3 &&& (31 : Int32))), .val (.long ((q1 * (6364136223846793005 : Int64)) + (1442695040888963407 : Int64))), .second, .val (.long ((((q1 * (6364136223846793005 : Int64)) + (1442695040888963407 : Int64)) * (6364136223846793005 : Int64)) + (1442695040888963407 : Int64))), .second, .val (.long (own_it (p2 &&& (31 : Int32)).toInt.toNat q1)), .second, .unset, .unset] [(.int (p3 &&& (31 : Int32))), (.long (own_it (p2 &&& (31 : Int32)).toInt.toNat q1))])) rfl (by rw [hml]; rfl) (argsL := [(.long (own_it (p2 &&& (31 : Int32)).toInt.toNat q1)), (.int (p3 &&& (31 : Int32)))]) (rest := []) (lenOf pd_0_0 rfl) rfl (by show 2 * 0 + _ ≤ _; exact Nat.le_of_eq rfl) (hb hby at_105) (fun _ _ => ⟨rfl, e14, (by decide : 0 + 0 ≤ _), (by decide : 0 + 0 ≤ _)⟩)
  dsimp only [Pt.U, Pt.locs, Pt.cells, Pt.slots] at X17 l17 y17 z17 st17 hQ17
  subst l17 y17 z17
  obtain ⟨rfl, N17q, e17⟩ := hQ17
  have N17 := Fr.app N14 N17q
  have pre18 : ∀ t, Steps p.tables e below (T17.setTop (mkF m 108 #[.val (.long q1), .second, .val (.int p2), .val (.int p3), .val (.int p4), .val (.int (p4 ||| (-2147483648 : Int32))), .val (.int (p2 &&& (31 : Int32))), .val (.int (p3 &&& (31 : Int32))), .val (.long ((q1 * (6364136223846793005 : Int64)) + (1442695040888963407 : Int64))), .second, .val (.long ((((q1 * (6364136223846793005 : Int64)) + (1442695040888963407 : Int64)) * (6364136223846793005 : Int64)) + (1442695040888963407 : Int64))), .second, .val (.long (own_it (p2 &&& (31 : Int32)).toInt.toNat q1)), .second, .unset, .unset] [(.long (own_it (p3 &&& (31 : Int32)).toInt.toNat (own_it (p2 &&& (31 : Int32)).toInt.toNat q1)))])) t → Steps p.tables e below (s₁.setTop (entryFrame m #[(.long q1), (.int p2), (.int p3), (.int p4)] maxLocals)) t := fun t kt => pre16 t (st17 t kt)
  have pre19 : ∀ t, Steps p.tables e below (T17.setTop (mkF m 118 #[.val (.long q1), .second, .val (.int p2), .val (.int p3), .val (.int p4), .val (.int (p4 ||| (-2147483648 : Int32))), .val (.int (p2 &&& (31 : Int32))), .val (.int (p3 &&& (31 : Int32))), .val (.long ((q1 * (6364136223846793005 : Int64)) + (1442695040888963407 : Int64))), .second, .val (.long ((((q1 * (6364136223846793005 : Int64)) + (1442695040888963407 : Int64)) * (6364136223846793005 : Int64)) + (1442695040888963407 : Int64))), .second, .val (.long (own_it (p2 &&& (31 : Int32)).toInt.toNat q1)), .second, .val (.long (own_it (p3 &&& (31 : Int32)).toInt.toNat (own_it (p2 &&& (31 : Int32)).toInt.toNat q1))), .second] [(.int ((p2 &&& (31 : Int32)) + (p3 &&& (31 : Int32)))), (.long q1), (.long (own_it (p3 &&& (31 : Int32)).toInt.toNat (own_it (p2 &&& (31 : Int32)).toInt.toNat q1)))])) t → Steps p.tables e below (s₁.setTop (entryFrame m #[(.long q1), (.int p2), (.int p3), (.int p4)] maxLocals)) t := fun t kt => pre18 t (by
    show Steps p.tables e below (T17.setTop (mkF m 108 #[.val (.long q1), .second, .val (.int p2), .val (.int p3), .val (.int p4), .val (.int (p4 ||| (-2147483648 : Int32))), .val (.int (p2 &&& (31 : Int32))), .val (.int (p3 &&& (31 : Int32))), .val (.long ((q1 * (6364136223846793005 : Int64)) + (1442695040888963407 : Int64))), .second, .val (.long ((((q1 * (6364136223846793005 : Int64)) + (1442695040888963407 : Int64)) * (6364136223846793005 : Int64)) + (1442695040888963407 : Int64))), .second, .val (.long (own_it (p2 &&& (31 : Int32)).toInt.toNat q1)), .second, .unset, .unset] [(.long (own_it (p3 &&& (31 : Int32)).toInt.toNat (own_it (p2 &&& (31 : Int32)).toInt.toNat q1)))])) _
    refine XS.lstore X17.here hx rfl (hb hby at_108) rfl (l' := #[.val (.long q1), .second, .val (.int p2), .val (.int p3), .val (.int p4), .val (.int (p4 ||| (-2147483648 : Int32))), .val (.int (p2 &&& (31 : Int32))), .val (.int (p3 &&& (31 : Int32))), .val (.long ((q1 * (6364136223846793005 : Int64)) + (1442695040888963407 : Int64))), .second, .val (.long ((((q1 * (6364136223846793005 : Int64)) + (1442695040888963407 : Int64)) * (6364136223846793005 : Int64)) + (1442695040888963407 : Int64))), .second, .val (.long (own_it (p2 &&& (31 : Int32)).toInt.toNat q1)), .second, .val (.long (own_it (p3 &&& (31 : Int32)).toInt.toNat (own_it (p2 &&& (31 : Int32)).toInt.toNat q1))), .second]) rfl ?_
    show Steps p.tables e below (T17.setTop (mkF m 110 #[.val (.long q1), .second, .val (.int p2), .val (.int p3), .val (.int p4), .val (.int (p4 ||| (-2147483648 : Int32))), .val (.int (p2 &&& (31 : Int32))), .val (.int (p3 &&& (31 : Int32))), .val (.long ((q1 * (6364136223846793005 : Int64)) + (1442695040888963407 : Int64))), .second, .val (.long ((((q1 * (6364136223846793005 : Int64)) + (1442695040888963407 : Int64)) * (6364136223846793005 : Int64)) + (1442695040888963407 : Int64))), .second, .val (.long (own_it (p2 &&& (31 : Int32)).toInt.toNat q1)), .second, .val (.long (own_it (p3 &&& (31 : Int32)).toInt.toNat (own_it (p2 &&& (31 : Int32)).toInt.toNat q1))), .second] [])) _
    refine XS.lload X17.here hx rfl (hb hby at_110) rfl ?_
    show Steps p.tables e below (T17.setTop (mkF m 112 #[.val (.long q1), .second, .val (.int p2), .val (.int p3), .val (.int p4), .val (.int (p4 ||| (-2147483648 : Int32))), .val (.int (p2 &&& (31 : Int32))), .val (.int (p3 &&& (31 : Int32))), .val (.long ((q1 * (6364136223846793005 : Int64)) + (1442695040888963407 : Int64))), .second, .val (.long ((((q1 * (6364136223846793005 : Int64)) + (1442695040888963407 : Int64)) * (6364136223846793005 : Int64)) + (1442695040888963407 : Int64))), .second, .val (.long (own_it (p2 &&& (31 : Int32)).toInt.toNat q1)), .second, .val (.long (own_it (p3 &&& (31 : Int32)).toInt.toNat (own_it (p2 &&& (31 : Int32)).toInt.toNat q1))), .second] [(.long (own_it (p3 &&& (31 : Int32)).toInt.toNat (own_it (p2 &&& (31 : Int32)).toInt.toNat q1)))])) _
    refine XS.lloadN X17.here hx rfl (hb hby at_112) rfl ?_
    show Steps p.tables e below (T17.setTop (mkF m 113 #[.val (.long q1), .second, .val (.int p2), .val (.int p3), .val (.int p4), .val (.int (p4 ||| (-2147483648 : Int32))), .val (.int (p2 &&& (31 : Int32))), .val (.int (p3 &&& (31 : Int32))), .val (.long ((q1 * (6364136223846793005 : Int64)) + (1442695040888963407 : Int64))), .second, .val (.long ((((q1 * (6364136223846793005 : Int64)) + (1442695040888963407 : Int64)) * (6364136223846793005 : Int64)) + (1442695040888963407 : Int64))), .second, .val (.long (own_it (p2 &&& (31 : Int32)).toInt.toNat q1)), .second, .val (.long (own_it (p3 &&& (31 : Int32)).toInt.toNat (own_it (p2 &&& (31 : Int32)).toInt.toNat q1))), .second] [(.long q1), (.long (own_it (p3 &&& (31 : Int32)).toInt.toNat (own_it (p2 &&& (31 : Int32)).toInt.toNat q1)))])) _
    refine XS.iload X17.here hx rfl (hb hby at_113) rfl ?_
    show Steps p.tables e below (T17.setTop (mkF m 115 #[.val (.long q1), .second, .val (.int p2), .val (.int p3), .val (.int p4), .val (.int (p4 ||| (-2147483648 : Int32))), .val (.int (p2 &&& (31 : Int32))), .val (.int (p3 &&& (31 : Int32))), .val (.long ((q1 * (6364136223846793005 : Int64)) + (1442695040888963407 : Int64))), .second, .val (.long ((((q1 * (6364136223846793005 : Int64)) + (1442695040888963407 : Int64)) * (6364136223846793005 : Int64)) + (1442695040888963407 : Int64))), .second, .val (.long (own_it (p2 &&& (31 : Int32)).toInt.toNat q1)), .second, .val (.long (own_it (p3 &&& (31 : Int32)).toInt.toNat (own_it (p2 &&& (31 : Int32)).toInt.toNat q1))), .second] [(.int (p2 &&& (31 : Int32))), (.long q1), (.long (own_it (p3 &&& (31 : Int32)).toInt.toNat (own_it (p2 &&& (31 : Int32)).toInt.toNat q1)))])) _
    refine XS.iload X17.here hx rfl (hb hby at_115) rfl ?_
    show Steps p.tables e below (T17.setTop (mkF m 117 #[.val (.long q1), .second, .val (.int p2), .val (.int p3), .val (.int p4), .val (.int (p4 ||| (-2147483648 : Int32))), .val (.int (p2 &&& (31 : Int32))), .val (.int (p3 &&& (31 : Int32))), .val (.long ((q1 * (6364136223846793005 : Int64)) + (1442695040888963407 : Int64))), .second, .val (.long ((((q1 * (6364136223846793005 : Int64)) + (1442695040888963407 : Int64)) * (6364136223846793005 : Int64)) + (1442695040888963407 : Int64))), .second, .val (.long (own_it (p2 &&& (31 : Int32)).toInt.toNat q1)), .second, .val (.long (own_it (p3 &&& (31 : Int32)).toInt.toNat (own_it (p2 &&& (31 : Int32)).toInt.toNat q1))), .second] [(.int (p3 &&& (31 : Int32))), (.int (p2 &&& (31 : Int32))), (.long q1), (.long (own_it (p3 &&& (31 : Int32)).toInt.toNat (own_it (p2 &&& (31 : Int32)).toInt.toNat q1)))])) _
    refine XS.iadd X17.here hx rfl (hb hby at_117) rfl ?_
    exact kt)
  obtain ⟨_, _, ⟨T20, L20, k20, n20⟩, -, X20, ⟨Lc20, hQ20, l20, y20, z20⟩, st20⟩ := Jvm.LawKit.callS X17 hx (y := (⟨"turnstile/contend/Generator", "step", "(JI)J"⟩ : MethodName)) hown (mvT hZ (hw _ (List.mem_of_getElem? (i := 3) rfl))) (mvT hZ (hw _ (List.mem_of_getElem? (i := 4) rfl))) (mvT hZ (hw _ (List.mem_of_getElem? (i := 5) rfl))) (mvT hZ (hw _ (List.mem_of_getElem? (i := 6) rfl))) (by decide) (backOf (W := 2) (rm1 l Z a0 hw [] q1 ((p2 &&& (31 : Int32)) + (p3 &&& (31 : Int32))) h0 n0 Z0) hZ (hw _ (List.mem_of_getElem? (i := 6) rfl)) (hw _ (List.mem_of_getElem? (i := 5) rfl)) (by decide) (by decide)) (g := (mkF m 118 #[.val (.long q1), .second, .val (.int p2), .val (.int p3), .val (.int p4), .val (.int (p4 ||| (-2147483648 : Int32))), .val (.int (p2 &&& (31 : Int32))), .val (.int (p3 &&& (31 : Int32))), .val (.long ((q1 * (6364136223846793005 : Int64)) + (1442695040888963407 : Int64))), .second, .val (.long ((((q1 * (6364136223846793005 : Int64)) + (1442695040888963407 : Int64)) * (6364136223846793005 : Int64)) + (1442695040888963407 : Int64))), .second, .val (.long (own_it (p2 &&& (31 : Int32)).toInt.toNat q1)), .second, .val (.long (own_it (p3 &&& (31 : Int32)).toInt.toNat (own_it (p2 &&& (31 : Int32)).toInt.toNat q1))), .second] [(.int ((p2 &&& (31 : Int32)) + (p3 &&& (31 : Int32)))), (.long q1), (.long (own_it (p3 &&& (31 : Int32)).toInt.toNat (own_it (p2 &&& (31 : Int32)).toInt.toNat q1)))])) rfl (by rw [hml]; rfl) (argsL := [(.long q1), (.int ((p2 &&& (31 : Int32)) + (p3 &&& (31 : Int32))))]) (rest := [(.long (own_it (p3 &&& (31 : Int32)).toInt.toNat (own_it (p2 &&& (31 : Int32)).toInt.toNat q1)))]) (lenOf pd_0_0 rfl) rfl (by show 2 * 0 + _ ≤ _; exact Nat.le_of_eq rfl) (hb hby at_118) (fun _ _ => ⟨rfl, e17, (by decide : 0 + 0 ≤ _), (by decide : 0 + 0 ≤ _)⟩)
  dsimp only [Pt.U, Pt.locs, Pt.cells, Pt.slots] at X20 l20 y20 z20 st20 hQ20
  subst l20 y20 z20
  obtain ⟨rfl, N20q, e20⟩ := hQ20
  have N20 := Fr.app N17 N20q
  have pre21 : ∀ t, Steps p.tables e below (T20.setTop (mkF m 121 #[.val (.long q1), .second, .val (.int p2), .val (.int p3), .val (.int p4), .val (.int (p4 ||| (-2147483648 : Int32))), .val (.int (p2 &&& (31 : Int32))), .val (.int (p3 &&& (31 : Int32))), .val (.long ((q1 * (6364136223846793005 : Int64)) + (1442695040888963407 : Int64))), .second, .val (.long ((((q1 * (6364136223846793005 : Int64)) + (1442695040888963407 : Int64)) * (6364136223846793005 : Int64)) + (1442695040888963407 : Int64))), .second, .val (.long (own_it (p2 &&& (31 : Int32)).toInt.toNat q1)), .second, .val (.long (own_it (p3 &&& (31 : Int32)).toInt.toNat (own_it (p2 &&& (31 : Int32)).toInt.toNat q1))), .second] [(.long (own_it ((p2 &&& (31 : Int32)) + (p3 &&& (31 : Int32))).toInt.toNat q1)), (.long (own_it (p3 &&& (31 : Int32)).toInt.toNat (own_it (p2 &&& (31 : Int32)).toInt.toNat q1)))])) t → Steps p.tables e below (s₁.setTop (entryFrame m #[(.long q1), (.int p2), (.int p3), (.int p4)] maxLocals)) t := fun t kt => pre19 t (st20 t kt)
  have pre22 : ∀ t, Steps p.tables e below (T20.setTop (mkF m 130 #[.val (.long q1), .second, .val (.int p2), .val (.int p3), .val (.int p4), .val (.int (p4 ||| (-2147483648 : Int32))), .val (.int (p2 &&& (31 : Int32))), .val (.int (p3 &&& (31 : Int32))), .val (.long ((q1 * (6364136223846793005 : Int64)) + (1442695040888963407 : Int64))), .second, .val (.long ((((q1 * (6364136223846793005 : Int64)) + (1442695040888963407 : Int64)) * (6364136223846793005 : Int64)) + (1442695040888963407 : Int64))), .second, .val (.long (own_it (p2 &&& (31 : Int32)).toInt.toNat q1)), .second, .val (.long (own_it (p3 &&& (31 : Int32)).toInt.toNat (own_it (p2 &&& (31 : Int32)).toInt.toNat q1))), .second] [(.int (1 : Int32))])) t → Steps p.tables e below (s₁.setTop (entryFrame m #[(.long q1), (.int p2), (.int p3), (.int p4)] maxLocals)) t := fun t kt => pre21 t (by
    show Steps p.tables e below (T20.setTop (mkF m 121 #[.val (.long q1), .second, .val (.int p2), .val (.int p3), .val (.int p4), .val (.int (p4 ||| (-2147483648 : Int32))), .val (.int (p2 &&& (31 : Int32))), .val (.int (p3 &&& (31 : Int32))), .val (.long ((q1 * (6364136223846793005 : Int64)) + (1442695040888963407 : Int64))), .second, .val (.long ((((q1 * (6364136223846793005 : Int64)) + (1442695040888963407 : Int64)) * (6364136223846793005 : Int64)) + (1442695040888963407 : Int64))), .second, .val (.long (own_it (p2 &&& (31 : Int32)).toInt.toNat q1)), .second, .val (.long (own_it (p3 &&& (31 : Int32)).toInt.toNat (own_it (p2 &&& (31 : Int32)).toInt.toNat q1))), .second] [(.long (own_it ((p2 &&& (31 : Int32)) + (p3 &&& (31 : Int32))).toInt.toNat q1)), (.long (own_it (p3 &&& (31 : Int32)).toInt.toNat (own_it (p2 &&& (31 : Int32)).toInt.toNat q1)))])) _
    refine XS.lcmp X20.here hx rfl (hb hby at_121) rfl ?_
    show Steps p.tables e below (T20.setTop (mkF m 122 #[.val (.long q1), .second, .val (.int p2), .val (.int p3), .val (.int p4), .val (.int (p4 ||| (-2147483648 : Int32))), .val (.int (p2 &&& (31 : Int32))), .val (.int (p3 &&& (31 : Int32))), .val (.long ((q1 * (6364136223846793005 : Int64)) + (1442695040888963407 : Int64))), .second, .val (.long ((((q1 * (6364136223846793005 : Int64)) + (1442695040888963407 : Int64)) * (6364136223846793005 : Int64)) + (1442695040888963407 : Int64))), .second, .val (.long (own_it (p2 &&& (31 : Int32)).toInt.toNat q1)), .second, .val (.long (own_it (p3 &&& (31 : Int32)).toInt.toNat (own_it (p2 &&& (31 : Int32)).toInt.toNat q1))), .second] [(.int (lcmpW (own_it (p3 &&& (31 : Int32)).toInt.toNat (own_it (p2 &&& (31 : Int32)).toInt.toNat q1)) (own_it ((p2 &&& (31 : Int32)) + (p3 &&& (31 : Int32))).toInt.toNat q1)))])) _
    refine XS.ifNo X20.here hx rfl (hb hby at_122) rfl ((if0 _ _).trans (teq ((lw_eq _ _).mpr (own_sum _ _ _))).2) ?_
    show Steps p.tables e below (T20.setTop (mkF m 125 #[.val (.long q1), .second, .val (.int p2), .val (.int p3), .val (.int p4), .val (.int (p4 ||| (-2147483648 : Int32))), .val (.int (p2 &&& (31 : Int32))), .val (.int (p3 &&& (31 : Int32))), .val (.long ((q1 * (6364136223846793005 : Int64)) + (1442695040888963407 : Int64))), .second, .val (.long ((((q1 * (6364136223846793005 : Int64)) + (1442695040888963407 : Int64)) * (6364136223846793005 : Int64)) + (1442695040888963407 : Int64))), .second, .val (.long (own_it (p2 &&& (31 : Int32)).toInt.toNat q1)), .second, .val (.long (own_it (p3 &&& (31 : Int32)).toInt.toNat (own_it (p2 &&& (31 : Int32)).toInt.toNat q1))), .second] [])) _
    refine XS.iconst X20.here hx rfl (hb hby at_125) ?_
    show Steps p.tables e below (T20.setTop (mkF m 126 #[.val (.long q1), .second, .val (.int p2), .val (.int p3), .val (.int p4), .val (.int (p4 ||| (-2147483648 : Int32))), .val (.int (p2 &&& (31 : Int32))), .val (.int (p3 &&& (31 : Int32))), .val (.long ((q1 * (6364136223846793005 : Int64)) + (1442695040888963407 : Int64))), .second, .val (.long ((((q1 * (6364136223846793005 : Int64)) + (1442695040888963407 : Int64)) * (6364136223846793005 : Int64)) + (1442695040888963407 : Int64))), .second, .val (.long (own_it (p2 &&& (31 : Int32)).toInt.toNat q1)), .second, .val (.long (own_it (p3 &&& (31 : Int32)).toInt.toNat (own_it (p2 &&& (31 : Int32)).toInt.toNat q1))), .second] [(.int (1 : Int32))])) _
    refine XS.goto X20.here hx rfl (pc0 := 126) (pc' := 130) rfl (hb hby at_126) (by decide) (by decide) ?_
    exact kt)
  obtain ⟨fs, hr, hrun, hended, hW, hsame⟩ := X20.leave (v := some (.int (1 : Int32))) (fun h => by rw [Bd.returns] at h; cases h)
  refine ⟨_, _, pre22 _ ?_, hrun, hended, _, _, rfl, ?_, ⟨_, rfl⟩, hW, hsame.mono (by decide) (by decide)⟩
  · show Steps p.tables e below (T20.setTop (mkF m 130 #[.val (.long q1), .second, .val (.int p2), .val (.int p3), .val (.int p4), .val (.int (p4 ||| (-2147483648 : Int32))), .val (.int (p2 &&& (31 : Int32))), .val (.int (p3 &&& (31 : Int32))), .val (.long ((q1 * (6364136223846793005 : Int64)) + (1442695040888963407 : Int64))), .second, .val (.long ((((q1 * (6364136223846793005 : Int64)) + (1442695040888963407 : Int64)) * (6364136223846793005 : Int64)) + (1442695040888963407 : Int64))), .second, .val (.long (own_it (p2 &&& (31 : Int32)).toInt.toNat q1)), .second, .val (.long (own_it (p3 &&& (31 : Int32)).toInt.toNat (own_it (p2 &&& (31 : Int32)).toInt.toNat q1))), .second] [(.int (1 : Int32))])) _
    exact retN X20 hx (t := .boolean) Bd.returns (by simp) (hb hby at_130) hr
  · show Q0 Z q1 p2 p3 p4 h0 n0 _ T20.heap _
    rw [e20]
    exact ⟨rfl, N20⟩
set_option maxRecDepth 65536 in
set_option maxHeartbeats 40000000 in
theorem comes_1 {Post : Tables → Env → Array Value → State → Outcome → State → Prop} (hpost : ∀ tb e args s v u, (limb_1_1.after args s (.returned v) u = true ∧ limb_1_2.after args s (.returned v) u = true ∧ True) → FrameEnd s (.returned v) u (Jvm.fieldLocs frame_1_writes args s ++ Jvm.arrayLocs frame_1_arrays args s ++ Jvm.staticLocs frame_1_statics s) 0 0 → Post tb e args s (.returned v) u) :
    ArmFor flags0 classFile x code maxLocals ret World_1 tables_1 room_1 Calls_1 rest_1 Pre_1 Post := by
  intro l hfl _ _ p e ha hc hk s m args below hf hA hF happ hP
  obtain ⟨hcalls, hrest, hpre⟩ := hP
  obtain ⟨-, -, -, hnamed, -, -, -, hat⟩ := (Spec.applies_iff hf).mp happ
  obtain ⟨hg, hn⟩ := and_e (Cond.before_iff.mp (show (Jvm.Cond.and given_1 narrow_1).before args s = true from hpre))
  obtain ⟨hcnt, g0⟩ := and_e hg
  obtain ⟨ha0, g1⟩ := and_e g0
  obtain ⟨ha1, g2⟩ := and_e g1
  obtain ⟨ha2, g3⟩ := and_e g2
  obtain ⟨w0, w1, w2, w3, rfl⟩ : ∃ w0 w1 w2 w3 : Value, args = #[w0, w1, w2, w3] := by
    have hs : args.size = 4 := by simpa [Cond.value, given_1] using hcnt
    obtain ⟨L⟩ := args
    match L, hs with
    | [w0, w1, w2, w3], _ => exact ⟨w0, w1, w2, w3, rfl⟩
  have hw := fun d (hd : d ∈ tables_1) => atoms_spec (ws := Jvm.Cond.code x code maxLocals ret :: tables_1) hat d (List.mem_cons_of_mem _ hd)
  obtain ⟨i0, ei0⟩ := isL_v ha0
  obtain rfl : w0 = (.long i0) := Option.some.inj ei0
  obtain ⟨i1, ei1⟩ := is_v ha1
  obtain rfl : w1 = (.int i1) := Option.some.inj ei1
  obtain ⟨i2, ei2⟩ := is_v ha2
  obtain rfl : w2 = (.int i2) := Option.some.inj ei2
  obtain ⟨i3, ei3⟩ := is_v g3
  obtain rfl : w3 = (.int i3) := Option.some.inj ei3
  obtain ⟨n, o, h1, h2, h3, _, L, rfl, ⟨rfl, N⟩, hq⟩ := rm0 l s _ hw tables_1 i0 i1 i2 i3 s.heap s.heap.size (Nat.le_refl _)  p e ha hc hk s m _ below hf ((Spec.applies_iff_loose hf).mp happ).1 ⟨rfl, State.Warmed39.refl s, rfl⟩ trivial
  refine ⟨n, _, h1, h2, h3, hpost _ _ _ _ _ _ ⟨Cond.after_iff.mpr rfl, Cond.after_iff.mpr (eq_i res_at (Term.int_eval (1)) rfl), trivial⟩ ⟨hq.1, hq.2.1, (hq.2.2.sift fun y hy => Or.inr (N y hy)).mono (by decide) (by decide)⟩⟩
theorem main_1_1 : Claimed_1_1 := comes_1 fun _ _ _ _ _ _ h hF => ⟨h.1, hF⟩
theorem main_1_2 : Claimed_1_2 := comes_1 fun _ _ _ _ _ _ h hF => ⟨h.2.1, hF⟩
end Jvm.Pilot.@@N@@
namespace Jvm.Pilot.@@N@@
open Jvm Jvm.ClassFile Sem Op Lib Jvm.Free Jvm.Stand Jvm.Pilot.@@N@@.Jvm.D
/-! MADE BY PROGRAM (witnessworld.py) out of the Statement's table words and the real class files: 9 classes; the members and pool entries that the words name. The judged class is class 1, her method 1. -/
namespace start1
open Jvm.ClassFile
def u (s : String) : CpInfo := .utf8 (stringToUtf16 s)
/-- a pool by its gaps: so many unusable entries, then the entry; so many at the end -/
def gap : Nat → List CpInfo → List CpInfo
  | 0, r => r
  | n + 1, r => .unusable :: gap n r
def poolList (es : List (Nat × CpInfo)) (last : Nat) : List CpInfo := es.foldr (fun e r => gap e.1 (e.2 :: r)) (gap last [])
def pool (es : List (Nat × CpInfo)) (last : Nat) : Array CpInfo := ⟨poolList es last⟩
def fileOf (pool : Array CpInfo) (this : Nat) (attrs : Array Attribute := #[]) (ms : Array MethodInfo := #[]) (fl : Nat := 33) (sup : Nat := 0) (ifs : Array Nat := #[]) (fds : Array FieldInfo := #[]) : ClassFile where
  minorVersion := 0
  majorVersion := 65
  constantPool := pool
  accessFlags := fl
  thisClass := this
  superClass := sup
  interfaces := ifs
  fields := fds
  methods := ms
  attributes := attrs
def plain (name : String) (sup : Option ClassId) : Class where
  name := name
  kind := .ordinary
  loader := none
  accessFlags := 33
  super := sup
  interfaces := #[]
  cf := none
  fields := #[]
  methods := #[]
  instanceTypes := #[]
  staticTypes := #[]
  resolved := #[]
  callSites := []
  init := .initialized
  statics := none
  mirror := none

def pool0 : Array CpInfo := pool [(5, u "<init>"), (0, u "()V"), (1, .class_ 10), (1, u "java/lang/Object")] 113

def k0m0 : Method := { name := "<init>", desc := "()V", sig := { parameters := [], returnType := none }, accessFlags := 1, code := none }
/-- java/lang/Object -/
def k0 : Class := { plain "java/lang/Object" none with
  accessFlags := 33
  interfaces := #[]
  cf := some (fileOf pool0 8 #[] #[{ accessFlags := 1, nameIndex := 5, descriptorIndex := 6, attributes := #[] }] 33 0 #[] #[])
  fields := #[]
  methods := #[k0m0]
  instanceTypes := #[]
  staticTypes := #[]
  resolved := Array.replicate 124 none
  statics := none }

def pool1 : Array CpInfo := pool [(2, .class_ 4), (1, u "java/lang/Object"), (0, u "<init>"), (0, u "()V"), (2, .integer 2147483648), (0, .class_ 11), (0, u "turnstile/contend/GeneratorStepPinLaw"), (0, .long 6364136223846793005), (1, .long 1442695040888963407), (1, .methodref 17 18), (0, .class_ 19), (0, .nameAndType 20 21), (0, u "turnstile/contend/Generator"), (0, u "step"), (0, u "(JI)J"), (0, u "M"), (0, u "J"), (1, u "C"), (2, u "law"), (0, u "(JIII)Z")] 3

def k1m0 : Method := { name := "<init>", desc := "()V", sig := { parameters := [], returnType := none }, accessFlags := 2, code := none }
def k1c1 : Code := { maxStack := 6, maxLocals := 16, code := code, exceptionTable := #[], attributes := #[] }
def k1m1 : Method := { name := "law", desc := "(JIII)Z", sig := { parameters := [.long, .int, .int, .int], returnType := some .boolean }, accessFlags := 9, code := some k1c1 }
/-- turnstile/contend/GeneratorStepPinLaw -/
def k1 : Class := { plain "turnstile/contend/GeneratorStepPinLaw" (some 0) with
  accessFlags := 49
  interfaces := #[]
  cf := some (fileOf pool1 10 #[] #[{ accessFlags := 2, nameIndex := 5, descriptorIndex := 6, attributes := #[] }, { accessFlags := 9, nameIndex := 28, descriptorIndex := 29, attributes := #[] }] 49 2 #[] #[{ accessFlags := 26, nameIndex := 22, descriptorIndex := 23, attributes := #[] }, { accessFlags := 26, nameIndex := 25, descriptorIndex := 23, attributes := #[] }])
  fields := #[{ name := "M", type := .long, accessFlags := 26, slot := 0, constantValue := 0 }, { name := "C", type := .long, accessFlags := 26, slot := 1, constantValue := 0 }]
  methods := #[k1m0, k1m1]
  instanceTypes := #[]
  staticTypes := #[.long, .long]
  resolved := Array.replicate 33 none
  statics := none }

def pool2 : Array CpInfo := pool [(2, .class_ 4), (1, u "java/lang/Object"), (0, u "<init>"), (0, u "()V"), (0, .class_ 8), (0, u "turnstile/contend/Generator"), (0, .long 6364136223846793005), (1, .long 1442695040888963407), (1, u "DEFAULT_STEPS"), (0, u "I"), (2, u "MULTIPLIER"), (0, u "J"), (0, u "INCREMENT"), (2, u "step"), (0, u "(JI)J")] 3

def k2m0 : Method := { name := "<init>", desc := "()V", sig := { parameters := [], returnType := none }, accessFlags := 2, code := none }
def k2c1 : Code := { maxStack := 4, maxLocals := 4, code := prog_10_method_2_code, exceptionTable := #[], attributes := #[] }
def k2m1 : Method := { name := "step", desc := "(JI)J", sig := { parameters := [.long, .int], returnType := some .long }, accessFlags := 8, code := some k2c1 }
/-- turnstile/contend/Generator -/
def k2 : Class := { plain "turnstile/contend/Generator" (some 0) with
  accessFlags := 48
  interfaces := #[]
  cf := some (fileOf pool2 7 #[] #[{ accessFlags := 2, nameIndex := 5, descriptorIndex := 6, attributes := #[] }, { accessFlags := 8, nameIndex := 22, descriptorIndex := 23, attributes := #[] }] 48 2 #[] #[{ accessFlags := 24, nameIndex := 13, descriptorIndex := 14, attributes := #[] }, { accessFlags := 26, nameIndex := 17, descriptorIndex := 18, attributes := #[] }, { accessFlags := 26, nameIndex := 19, descriptorIndex := 18, attributes := #[] }])
  fields := #[{ name := "DEFAULT_STEPS", type := .int, accessFlags := 24, slot := 0, constantValue := 0 }, { name := "MULTIPLIER", type := .long, accessFlags := 26, slot := 1, constantValue := 0 }, { name := "INCREMENT", type := .long, accessFlags := 26, slot := 2, constantValue := 0 }]
  methods := #[k2m0, k2m1]
  instanceTypes := #[]
  staticTypes := #[.int, .long, .long]
  resolved := Array.replicate 27 none
  statics := none }

def pool3 : Array CpInfo := pool [(1, u "java/lang/Cloneable"), (0, .class_ 1), (0, u "java/lang/Object"), (0, .class_ 3)] 3

/-- java/lang/Cloneable -/
def k3 : Class := { plain "java/lang/Cloneable" (some 0) with
  accessFlags := 1537
  interfaces := #[]
  cf := some (fileOf pool3 2 #[] #[] 1537 4 #[] #[])
  fields := #[]
  methods := #[]
  instanceTypes := #[]
  staticTypes := #[]
  resolved := Array.replicate 8 none
  statics := none }

def pool4 : Array CpInfo := pool [(1, u "java/io/Serializable"), (0, .class_ 1), (0, u "java/lang/Object"), (0, .class_ 3)] 3

/-- java/io/Serializable -/
def k4 : Class := { plain "java/io/Serializable" (some 0) with
  accessFlags := 1537
  interfaces := #[]
  cf := some (fileOf pool4 2 #[] #[] 1537 4 #[] #[])
  fields := #[]
  methods := #[]
  instanceTypes := #[]
  staticTypes := #[]
  resolved := Array.replicate 8 none
  statics := none }

/-- the primitive byte -/
def k5 : Class := { plain "byte" none with kind := .primitive 'B', accessFlags := 0x411 }
/-- [B -/
def k6 : Class := { plain "[B" (some 0) with kind := .array 5 .byte, interfaces := #[3, 4], accessFlags := 1041 }

/-- the primitive int -/
def k7 : Class := { plain "int" none with kind := .primitive 'I', accessFlags := 0x411 }
/-- [I -/
def k8 : Class := { plain "[I" (some 0) with kind := .array 7 .int, interfaces := #[3, 4], accessFlags := 1041 }

def heap : Heap := #[]
def classes : Array Class := #[k0, k1, k2, k3, k4, k5, k6, k7, k8]
def interned : List (Array UInt16 × Addr) := []
def slotsUsed : Nat := 0
def theMethod : MethodId := ⟨1, 1⟩
def args0 : Array Value := #[.long 5, .int 3, .int 7, .int 9]
def aboutOver (below : List Frame) : State where
  vm := { classes := classes, interned := interned.toArray }
  heap := heap
  slotsUsed := slotsUsed
  threads := #[{ frames := .invoking theMethod args0 :: below }]
def below0 : List Frame := [.native { method := ⟨0, 0⟩, args := #[] }]
def about1 : State := aboutOver below0
def p0 : Program := .bare "" "" ""
def e0 : Env := launch0.env 0 0 0
theorem w_frames : about1.frames = Frame.invoking theMethod args0 :: below0 := rfl
set_option maxRecDepth 65536 in
theorem w_args : argsFit about1.vm theMethod args0 = true := by decide +kernel
set_option maxRecDepth 65536 in
theorem w_heap : heapFits about1 = true := by decide +kernel
set_option maxRecDepth 65536 in
theorem w_runnable : about1.curStatus? = some .runnable := by decide +kernel
set_option maxRecDepth 65536 in
theorem w_alone : about1.alone = true := by decide +kernel
set_option maxRecDepth 65536 in
theorem w_named : about1.methodNamed? x = some theMethod := by decide +kernel
set_option maxRecDepth 65536 in
theorem w_hears : about1.hears theMethod below0 = true := by decide +kernel
set_option maxRecDepth 65536 in
theorem w_ripe : about1.ripe theMethod args0 below0 = true := by decide +kernel
theorem w_running : about1.status = .running := rfl
set_option maxRecDepth 65536 in
theorem w_room : about1.hasRoom e0.platform room_1 = true :=
  launch0.hasRoom_least _ room_1 (by decide +kernel) (by decide +kernel) (by decide +kernel) (by decide +kernel) (by decide +kernel) (by decide +kernel)
theorem allAtoms_all (ts : List Jvm.Cond) (a : Array Jvm.Value) (st : Jvm.State) : (allAtoms ts).before a st = ts.all (fun c => c.before a st) := by
  induction ts with
  | nil => rfl
  | cons c t ih =>
    show (Jvm.Cond.and c (allAtoms t)).before a st = _
    rw [Jvm.Cond.before_and, ih, List.all_cons]
def words1 : List Jvm.Cond := Jvm.Cond.code x code maxLocals ret :: tables_1
/-- a 'code' word, met by the world's own term for the bytes: nothing is compared byte by byte -/
theorem code_word {y : MethodName} {bytes : ByteArray} {mx : Nat} {rt : Option FieldType} {a : Array Value} {s : State} {m : MethodId} {meth : Method} {c : Code} (h1 : s.methodNamed? y = some m) (h2 : s.vm.method? m = some meth) (h3 : meth.code = some c) (h4 : c.code = bytes)
    (h5 : (c.maxLocals == mx && c.exceptionTable.isEmpty && decide (c.maxStack ≤ mostOperands) && decide (meth.sig.returnType = rt) && !meth.locks && decide (parseMethodDescriptor y.desc = some meth.sig)) = true) : (Jvm.Cond.code y bytes mx rt).before a s = true := by
  simp only [Bool.and_eq_true, beq_iff_eq, Bool.not_eq_true', decide_eq_true_eq] at h5
  obtain ⟨⟨⟨⟨⟨g1, g2⟩, g3⟩, g4⟩, g5⟩, g6⟩ := h5
  simp [Cond.before, Cond.holds, Cond.value, h1, h2, h3, h4, g1, g2, g3, g4, g5, g6]
def isCode : Jvm.Cond → Bool
  | .code _ _ _ _ => true
  | _ => false
theorem all_split {L : List Jvm.Cond} {P : Jvm.Cond → Bool} (h1 : L.all (fun c => isCode c || P c) = true) (h2 : ∀ c ∈ L.filter isCode, P c = true) : L.all P = true := by
  refine List.all_eq_true.mpr fun c hc => ?_
  have h := List.all_eq_true.mp h1 c hc
  rcases Bool.eq_false_or_eq_true (isCode c) with hi | hi
  · exact h2 c (List.mem_filter.mpr ⟨hc, hi⟩)
  · simpa [hi] using h
set_option maxRecDepth 65536 in
theorem w_c0 : (Jvm.Cond.code x code maxLocals ret).before args0 about1 = true := code_word (m := ⟨1, 1⟩) (meth := k1m1) (c := k1c1) (by decide +kernel) rfl rfl rfl (by decide +kernel)
set_option maxRecDepth 65536 in
theorem w_c1 : (Jvm.Cond.code ({ cls := "turnstile/contend/Generator", name := "step", desc := "(JI)J" } : Jvm.MethodName) prog_10_method_2_code (4 : Nat) (Option.some Jvm.ClassFile.FieldType.long)).before args0 about1 = true := code_word (m := ⟨2, 1⟩) (meth := k2m1) (c := k2c1) (by decide +kernel) rfl rfl rfl (by decide +kernel)
def codes1 : List Jvm.Cond := [Jvm.Cond.code x code maxLocals ret, Jvm.Cond.code ({ cls := "turnstile/contend/Generator", name := "step", desc := "(JI)J" } : Jvm.MethodName) prog_10_method_2_code (4 : Nat) (Option.some Jvm.ClassFile.FieldType.long)]
set_option maxRecDepth 65536 in
theorem codes_eq : words1.filter isCode = codes1 := rfl
theorem w_codes : ∀ c ∈ words1.filter isCode, c.before args0 about1 = true := by
  rw [codes_eq]
  intro c hc
  simp only [codes1, List.mem_cons, List.not_mem_nil, or_false] at hc
  rcases hc with rfl | rfl
  · exact w_c0
  · exact w_c1
set_option maxRecDepth 65536 in
theorem w_t1 : words1.all (fun c => isCode c || c.before args0 about1) = true := by decide +kernel
theorem w_tables : (allAtoms (Jvm.Cond.code x code maxLocals ret :: tables_1)).before args0 about1 = true := by
  rw [allAtoms_all]
  show words1.all (fun c => c.before args0 about1) = true
  refine all_split ?_ w_codes
  rw [w_t1]
set_option maxRecDepth 65536 in
theorem w_case : (Jvm.Cond.and given_1 narrow_1).before args0 about1 = true := by decide +kernel
theorem w_applies : (headSpec (Jvm.Cond.code x code maxLocals ret :: tables_1) room_1).applies x e0.platform about1 = true :=
  (Spec.applies_iff w_frames).mpr ⟨w_running, w_runnable, w_alone, w_named, w_hears, w_ripe, w_room, w_tables⟩
theorem atStart : AtStart classFile x code maxLocals ret World_1 tables_1 room_1 Calls_1 rest_1 Pre_1 launch0 p0 e0 about1 theMethod args0 below0 :=
  ⟨lists_1, trivial, launch0.admits_env _ _ _, launch0.least_env, fairChoices_fair.cas, fairChoices_fair.clock, w_frames, w_args, w_heap, w_applies, trivial, trivial, w_case⟩
end start1
theorem witness_1 : WitnessClaimed_1 := ⟨start1.p0, start1.e0, start1.about1, start1.theMethod, start1.args0, start1.below0, start1.atStart⟩
end Jvm.Pilot.@@N@@
