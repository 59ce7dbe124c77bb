import JvmDerived
import JvmDerived.Pilot.@@N@@Statement
import JvmDerived.Pilot.@@N@@Code
set_option linter.unusedVariables false
set_option linter.unusedSimpArgs false
namespace Jvm.RoadKit
open Sem ClassFile Op Lib Jvm.Stand Jvm.Free Jvm.LawKit
section New
variable {p : Program} {l : Launch} {e : Env} {R : Room} {s : State} {m : MethodId} {args : Array Value} {below : List Frame} {meth : Method} {c : Code} {T : State} {locs : List Loc} {cells slots : Nat}
theorem retI (X : Stand p l e R s m args below meth c T locs cells slots) (hx : p.tables.exec = Jvm.exec) {pc : Nat} {Ls : Array Slot} {z : Int32} {rest : List Value} (hret : meth.sig.returnType = some .int) (hd : decode c.code pc = .ok (.ireturn, 1)) {fs : List Frame}
    (hl : ∀ (f : JFrame) (acts : List Action), f.method = m → f.locked = none → f.entered = [] → (doReturn e (T.setTop f) acts (some (.int z))).1 = T.setFrames fs) : Steps p.tables e below (T.setTop (mkF m pc Ls (.int z :: rest))) (T.setFrames fs) := by
  have hm' : T.vm.method? m = some meth := X.method'
  have hn : narrow .int (.int z) = .int z := rfl
  show Steps p.tables e below (T.setTop { method := m, pc := pc, locals := Ls, stack := _ :: rest, locked := none }) _
  jvm_step X.here [X.here.top, hx, hd, hm', hret, hn]
  first | (intro acts; rw [hl _ acts rfl rfl rfl]) | rw [hl _ _ rfl rfl rfl]
  exact Steps.refl _
theorem own_lremM {g : JFrame} {target : State} (X : Stand p l e R s m args below meth c T locs cells slots) (hx : p.tables.exec = Jvm.exec) (hg : g.method = m) {x y : Int64} {rest : List Value} (hd : decode c.code g.pc = .ok (.lrem, 1)) (hs : g.stack = .long y :: .long x :: rest) (hy : y ≠ 0)
    (hr : Steps p.tables e below (T.setTop { g with pc := g.pc + 1, stack := .long (x % y) :: rest }) target) : Steps p.tables e below (T.setTop g) target :=
  XS.lrem X.here hx hg hd hs hy (by first | exact hr | (rw [lrem_mod]; exact hr))
theorem own_monoW {s t : State} {o : Outcome} {L : List Loc} {k n k' n' : Nat} (h : ReturnedEndW s o t L k n) (hk : k ≤ k') (hn : n ≤ n') : ReturnedEndW s o t L k' n' := ⟨h.1, h.2.1, h.2.2.1, h.2.2.2.mono hk hn⟩
theorem own_go {α β : Type} {S S' : α → Prop} {P : α → β → Prop} (h : ∀ t, S' t → S t) (g : ∃ n o, S' n ∧ P n o) : ∃ n o, S n ∧ P n o := by
  obtain ⟨n, o, a, b⟩ := g
  exact ⟨n, o, h n a, b⟩
end New
end Jvm.RoadKit
namespace Jvm.Pilot.@@N@@
open Jvm Jvm.ClassFile Sem Op Lib Jvm.Free Jvm.Stand Jvm.LawKit Jvm.RoadKit Bundle Jvm.Pilot.@@N@@.Jvm.D
theorem own_lower (p r : Int32) (h : r = ((p &&& (2147483647 : Int32)) % (2147483647 : Int32))) : 0 ≤ r.toInt ∧ r.toInt < 2147483647 := by
  have h1 := c_mask p (2147483647 : Int32) 31 (by decide) (by decide)
  have h2 := (c_irem (p &&& (2147483647 : Int32)) (2147483647 : Int32) 2147483647 (by decide)).1 (by rw [h1]; omega)
  rw [← h] at h2
  omega
theorem own_span (lo : Int32) (h : 0 ≤ lo.toInt ∧ lo.toInt < 2147483647) : ((((2147483647 : Int64) - (lo.toInt64)) + (1 : Int64))).toInt = 2147483648 - lo.toInt := by
  have h1 := c_lsub (2147483647 : Int64) lo.toInt64
  have h2 := c_ladd ((2147483647 : Int64) - lo.toInt64) (1 : Int64)
  have r := rng64 (((2147483647 : Int64) - (lo.toInt64)) + (1 : Int64))
  have e1 : ((2147483647 : Int64)).toInt = 2147483647 := by decide
  have e2 : (1 : Int64).toInt = 1 := by decide
  rw [c_i2l, e1] at h1
  rw [e2] at h2
  omega
theorem own_span0 (lo : Int32) (h : 0 ≤ lo.toInt ∧ lo.toInt < 2147483647) : ¬ ((((2147483647 : Int64) - (lo.toInt64)) + (1 : Int64)) = (0 : Int64)) := by
  intro z
  have h1 := own_span lo h
  rw [z] at h1
  have e : (0 : Int64).toInt = 0 := by decide
  omega
theorem own_upper (lo q r : Int32) (h : 0 ≤ lo.toInt ∧ lo.toInt < 2147483647) (hr : r = (((lo.toInt64) + (((q.toInt64) &&& (4294967295 : Int64)) % (((2147483647 : Int64) - (lo.toInt64)) + (1 : Int64)))).toInt32)) : lo.toInt ≤ r.toInt := by
  have h1 := own_span lo h
  have h2 := c_maskL q.toInt64 (4294967295 : Int64) 32 (by decide) (by decide)
  have h3 := Int64.toInt_mod (q.toInt64 &&& (4294967295 : Int64)) (((2147483647 : Int64) - (lo.toInt64)) + (1 : Int64))
  have h4 := (tr (q.toInt64 &&& (4294967295 : Int64)).toInt ((((2147483647 : Int64) - (lo.toInt64)) + (1 : Int64))).toInt).1 (by rw [h2]; omega)
  have h5 := c_ladd lo.toInt64 ((q.toInt64 &&& (4294967295 : Int64)) % (((2147483647 : Int64) - (lo.toInt64)) + (1 : Int64)))
  have h6 := c_l2i (lo.toInt64 + ((q.toInt64 &&& (4294967295 : Int64)) % (((2147483647 : Int64) - (lo.toInt64)) + (1 : Int64))))
  rw [← hr] at h6
  rw [h4] at h3
  rw [c_i2l] at h5
  have p1 : 0 ≤ (q.toInt64 &&& (4294967295 : Int64)).toInt % ((((2147483647 : Int64) - (lo.toInt64)) + (1 : Int64))).toInt := Int.emod_nonneg _ (by omega)
  have p2 : (q.toInt64 &&& (4294967295 : Int64)).toInt % ((((2147483647 : Int64) - (lo.toInt64)) + (1 : Int64))).toInt < ((((2147483647 : Int64) - (lo.toInt64)) + (1 : Int64))).toInt := Int.emod_lt_of_pos _ (by omega)
  have r1 := rng32 r
  have r2 := rng64 (lo.toInt64 + ((q.toInt64 &&& (4294967295 : Int64)) % (((2147483647 : Int64) - (lo.toInt64)) + (1 : Int64))))
  omega
theorem own_ok (m x : Int32) (h : 0 ≤ m.toInt ∧ m.toInt < 2147483647) (h2 : m.toInt ≤ x.toInt) : ¬ (m < (0 : Int32)) ∧ ¬ (m = (2147483647 : Int32)) ∧ ¬ (x < m) := by
  rw [Int32.lt_iff_toInt_lt, Int32.lt_iff_toInt_lt, ← Int32.toInt_inj]
  have e1 : (0 : Int32).toInt = 0 := by decide
  have e2 : ((2147483647 : Int32)).toInt = 2147483647 := by decide
  omega
theorem own_un (m x : Int32) (h1 : ¬ (m < (0 : Int32))) (h2 : ¬ (m = (2147483647 : Int32))) (h3 : ¬ (x < m)) : (0 ≤ m.toInt ∧ m.toInt < 2147483647) ∧ m.toInt ≤ x.toInt := by
  rw [Int32.lt_iff_toInt_lt] at h1 h3
  rw [← Int32.toInt_inj] at h2
  have e1 : (0 : Int32).toInt = 0 := by decide
  have e2 : ((2147483647 : Int32)).toInt = 2147483647 := by decide
  have r := rng32 m
  omega
theorem own_or (m1 x1 m2 x2 mn mx : Int32) (hn : mn = (if m2 < m1 then m2 else m1)) (hx : mx = (if x1 < x2 then x2 else x1)) (a1 : ¬ (m1 < (0 : Int32))) (a2 : ¬ (m1 = (2147483647 : Int32))) (a3 : ¬ (x1 < m1)) (b1 : ¬ (m2 < (0 : Int32))) (b2 : ¬ (m2 = (2147483647 : Int32))) (b3 : ¬ (x2 < m2)) :
    ¬ (mn < (0 : Int32)) ∧ ¬ (mn = (2147483647 : Int32)) ∧ ¬ (mx < mn) := by
  have u1 := own_un m1 x1 a1 a2 a3
  have u2 := own_un m2 x2 b1 b2 b3
  simp only [Int32.lt_iff_toInt_lt] at hn hx
  refine own_ok mn mx ?_ ?_
  · split at hn <;> subst hn <;> omega
  · split at hn <;> split at hx <;> subst hn <;> subst hx <;> omega
theorem own_l1 {m1 x1 m2 x2 mn mx g jm bm jx bx : Int32} (hn : mn = (if m2 < m1 then m2 else m1)) (hx : mx = (if x1 < x2 then x2 else x1)) (hg : g = (if m1 < m2 then (0 : Int32) else (if x2 < x1 then (0 : Int32) else (1 : Int32)))) (h1 : jm = mn) (h2 : bm = m2) (h3 : jx = mx) (h4 : bx = x2) (c1 : jm = bm) (c2 : jx = bx) : g = (1 : Int32) := by
  subst h1 h2 h3 h4 hn hx
  rw [hg]
  simp only [Int32.lt_iff_toInt_lt] at *
  rw [if_neg (by intro z; rw [if_neg (by omega)] at c1; subst c1; omega), if_neg (by intro z; rw [if_neg (by omega)] at c2; subst c2; omega)]
theorem own_l2 {m1 x1 m2 x2 mn mx g jm bm jx bx : Int32} (hn : mn = (if m2 < m1 then m2 else m1)) (hx : mx = (if x1 < x2 then x2 else x1)) (hg : g = (if m1 < m2 then (0 : Int32) else (if x2 < x1 then (0 : Int32) else (1 : Int32)))) (h1 : jm = mn) (h2 : bm = m2) (h3 : jx = mx) (h4 : bx = x2) (c1 : jm = bm) (c2 : ¬ jx = bx) : g = (0 : Int32) := by
  subst h1 h2 h3 h4 hn hx
  rw [hg]
  simp only [Int32.lt_iff_toInt_lt] at *
  by_cases q : m1.toInt < bm.toInt
  · rw [if_pos q]
  · rw [if_neg q, if_pos (by
      by_cases z : x1.toInt < bx.toInt
      · rw [if_pos z] at c2; exact absurd rfl c2
      · rw [if_neg z] at c2
        have hne : ¬ x1.toInt = bx.toInt := fun w => c2 (Int32.toInt_inj.mp w)
        omega)]
theorem own_l3 {m1 x1 m2 x2 mn g jm bm : Int32} (hn : mn = (if m2 < m1 then m2 else m1)) (hg : g = (if m1 < m2 then (0 : Int32) else (if x2 < x1 then (0 : Int32) else (1 : Int32)))) (h1 : jm = mn) (h2 : bm = m2) (c1 : ¬ jm = bm) : g = (0 : Int32) := by
  subst h1 h2 hn
  rw [hg]
  simp only [Int32.lt_iff_toInt_lt] at *
  rw [if_pos (by
    by_cases z : bm.toInt < m1.toInt
    · rw [if_pos z] at c1; exact absurd rfl c1
    · rw [if_neg z] at c1
      have hne : ¬ m1.toInt = bm.toInt := fun w => c1 (Int32.toInt_inj.mp w)
      omega)]
theorem d1_0 : decode method_2_code 0 = .ok (.iload_n 0, 1) := by decide +kernel
theorem d1_1 : decode method_2_code 1 = .ok (.ldc 7, 2) := by decide +kernel
theorem d1_3 : decode method_2_code 3 = .ok (.iand, 1) := by decide +kernel
theorem d1_4 : decode method_2_code 4 = .ok (.ldc 7, 2) := by decide +kernel
theorem d1_6 : decode method_2_code 6 = .ok (.irem, 1) := by decide +kernel
theorem d1_7 : decode method_2_code 7 = .ok (.ireturn, 1) := by decide +kernel
theorem pn_1 : plainName "com/example/types_for_trees/typesfortrees/types/OccurrenceWithinPinLaw" = true := by first | (simp [plainName, overriddenIn]; done) | decide +kernel
theorem ef_1 (m : MethodId) (x0 : Int32) : entryFrame m #[(.int x0)] 1 = mkF m 0 #[.val (.int x0)] [] := by first | (simp [entryFrame, mkF, argsToLocals, Value.category]; done) | rfl
def Q1 (Z : State) (p1 : Int32) (h0 : Heap) (n0 : Nat) (v : Option Value) (h : Heap) (L : List Loc) : Prop := ∃ r : Int32, v = some (.int r) ∧ (r = ((p1 &&& (2147483647 : Int32)) % (2147483647 : Int32))) ∧ Fr n0 L ∧ h = h0
set_option maxRecDepth 65536 in
set_option maxHeartbeats 40000000 in
theorem rm1 (l : Launch) (Z : State) (a0 : Array Value) (hw : ∀ d ∈ tables_1, d.before a0 Z = true) (ws : List Jvm.Cond) (p1 : Int32) (h0 : Heap) (n0 : Nat) (Z0 : n0 ≤ h0.size) :
    MetFree l (⟨"com/example/types_for_trees/typesfortrees/types/OccurrenceWithinPinLaw", "lower", "(I)I"⟩ : MethodName) (head1 (Jvm.Cond.code (⟨"com/example/types_for_trees/typesfortrees/types/OccurrenceWithinPinLaw", "lower", "(I)I"⟩ : MethodName) method_2_code 1 (some .int) :: ws) ({ frames := 0, cells := 0, slots := 0, locals := 0 } : Room)) (fun a U => a = #[(.int p1)] ∧ Z.Warmed39 U.vm ∧ U.heap = h0) (fun _ _ _ _ _ => True) (fun _ U o U' => ∃ v L, o = .returned v ∧ Q1 Z p1 h0 n0 v U'.heap L ∧ FrameEnd U o U' L ({ frames := 0, cells := 0, slots := 0, locals := 0 } : Room).cells ({ frames := 0, cells := 0, slots := 0, locals := 0 } : Room).slots) := by
  refine MetFree.of_bodySF (plainFor_of_name pn_1) hisR ?_
  intro p e s m args below meth c s₁ Bd hml0 hP hK
  obtain ⟨rfl, hZ, hh⟩ := hP
  have hx := Bd.exec
  have hby := Bd.bytes
  have hml : c.maxLocals = 1 := hml0
  have hown : s.vm.findClass "com/example/types_for_trees/typesfortrees/types/OccurrenceWithinPinLaw" = some m.cls := findClass_of_methodNamed Bd.named
  have hnm := (name_of_methodNamed Bd.named Bd.method).1
  have X0 : Stand p l e ({ frames := 0, cells := 0, slots := 0, locals := 0 } : Room) s m #[(.int p1)] below meth c s₁ [] 0 0 := Stand.of_body Bd
  have e0 : s₁.heap = h0 := by rw [← hh, Bd.state]; rfl
  have N0 := Fr.nil n0
  have K0 : Keep h0 h0 [] := Keep.refl _ _
  have pre0 : ∀ t, Steps p.tables e below (s₁.setTop (mkF m 0 #[.val (.int p1)] [])) t → Steps p.tables e below (s₁.setTop (entryFrame m #[(.int p1)] 1)) t := fun t k => castTop (ef_1 m p1) k
  refine own_go (S' := fun t => Steps p.tables e below (s₁.setTop (mkF m 0 #[.val (.int p1)] [])) t) pre0 ?_
  obtain ⟨fs, hr, hrun, hended, hW, hsame⟩ := X0.leave (v := some (.int ((p1 &&& (2147483647 : Int32)) % (2147483647 : Int32)))) (fun h => by rw [Bd.returns] at h; cases h)
  refine ⟨_, _, ?_, hrun, hended, _, _, rfl, ?_, ⟨_, rfl⟩, hW, hsame.mono (by decide) (by decide)⟩
  · show Steps p.tables e below (s₁.setTop (mkF m 0 #[.val (.int p1)] [])) _
    refine XS.iloadN X0.here hx rfl (hb hby d1_0) rfl ?_
    show Steps p.tables e below (s₁.setTop (mkF m 1 #[.val (.int p1)] [(.int p1)])) _
    refine X0.ldcInt hx hown (mvT hZ (hw _ (List.mem_of_getElem? (i := 4) rfl))) (g := (mkF m 1 #[.val (.int p1)] [(.int p1)])) rfl (hb hby d1_1) _ ?_
    show Steps p.tables e below (s₁.setTop (mkF m 3 #[.val (.int p1)] [(.int (2147483647 : Int32)), (.int p1)])) _
    refine XS.iand X0.here hx rfl (hb hby d1_3) rfl ?_
    show Steps p.tables e below (s₁.setTop (mkF m 4 #[.val (.int p1)] [(.int (p1 &&& (2147483647 : Int32)))])) _
    refine X0.ldcInt hx hown (mvT hZ (hw _ (List.mem_of_getElem? (i := 4) rfl))) (g := (mkF m 4 #[.val (.int p1)] [(.int (p1 &&& (2147483647 : Int32)))])) rfl (hb hby d1_4) _ ?_
    show Steps p.tables e below (s₁.setTop (mkF m 6 #[.val (.int p1)] [(.int (2147483647 : Int32)), (.int (p1 &&& (2147483647 : Int32)))])) _
    refine iremM X0 hx rfl (hb hby d1_6) rfl (by decide) ?_
    show Steps p.tables e below (s₁.setTop (mkF m 7 #[.val (.int p1)] [(.int ((p1 &&& (2147483647 : Int32)) % (2147483647 : Int32)))])) _
    exact retI X0 hx Bd.returns (hb hby d1_7) hr
  · show Q1 Z p1 h0 n0 _ s₁.heap _
    rw [e0]
    exact ⟨_, rfl, rfl, N0, rfl⟩
theorem d2_0 : decode method_3_code 0 = .ok (.ldc2_w 10, 3) := by decide +kernel
theorem d2_3 : decode method_3_code 3 = .ok (.iload_n 0, 1) := by decide +kernel
theorem d2_4 : decode method_3_code 4 = .ok (.i2l, 1) := by decide +kernel
theorem d2_5 : decode method_3_code 5 = .ok (.lsub, 1) := by decide +kernel
theorem d2_6 : decode method_3_code 6 = .ok (.lconst 1, 1) := by decide +kernel
theorem d2_7 : decode method_3_code 7 = .ok (.ladd, 1) := by decide +kernel
theorem d2_8 : decode method_3_code 8 = .ok (.lstore_n 2, 1) := by decide +kernel
theorem d2_9 : decode method_3_code 9 = .ok (.iload_n 0, 1) := by decide +kernel
theorem d2_10 : decode method_3_code 10 = .ok (.i2l, 1) := by decide +kernel
theorem d2_11 : decode method_3_code 11 = .ok (.iload_n 1, 1) := by decide +kernel
theorem d2_12 : decode method_3_code 12 = .ok (.i2l, 1) := by decide +kernel
theorem d2_13 : decode method_3_code 13 = .ok (.ldc2_w 12, 3) := by decide +kernel
theorem d2_16 : decode method_3_code 16 = .ok (.land, 1) := by decide +kernel
theorem d2_17 : decode method_3_code 17 = .ok (.lload_n 2, 1) := by decide +kernel
theorem d2_18 : decode method_3_code 18 = .ok (.lrem, 1) := by decide +kernel
theorem d2_19 : decode method_3_code 19 = .ok (.ladd, 1) := by decide +kernel
theorem d2_20 : decode method_3_code 20 = .ok (.l2i, 1) := by decide +kernel
theorem d2_21 : decode method_3_code 21 = .ok (.ireturn, 1) := by decide +kernel
theorem pn_2 : plainName "com/example/types_for_trees/typesfortrees/types/OccurrenceWithinPinLaw" = true := by first | (simp [plainName, overriddenIn]; done) | decide +kernel
theorem ef_2 (m : MethodId) (x0 : Int32) (x1 : Int32) : entryFrame m #[(.int x0), (.int x1)] 4 = mkF m 0 #[.val (.int x0), .val (.int x1), .unset, .unset] [] := by first | (simp [entryFrame, mkF, argsToLocals, Value.category]; done) | rfl
def Q2 (Z : State) (p1 : Int32) (p2 : Int32) (h0 : Heap) (n0 : Nat) (v : Option Value) (h : Heap) (L : List Loc) : Prop := ∃ r : Int32, v = some (.int r) ∧ (r = (((p1.toInt64) + (((p2.toInt64) &&& (4294967295 : Int64)) % (((2147483647 : Int64) - (p1.toInt64)) + (1 : Int64)))).toInt32)) ∧ Fr n0 L ∧ h = h0
set_option maxRecDepth 65536 in
set_option maxHeartbeats 40000000 in
theorem rm2 (l : Launch) (Z : State) (a0 : Array Value) (hw : ∀ d ∈ tables_1, d.before a0 Z = true) (ws : List Jvm.Cond) (p1 : Int32) (p2 : Int32) (h0 : Heap) (n0 : Nat) (Z0 : n0 ≤ h0.size) (hnz : ¬ ((((2147483647 : Int64) - (p1.toInt64)) + (1 : Int64)) = (0 : Int64))) :
    MetFree l (⟨"com/example/types_for_trees/typesfortrees/types/OccurrenceWithinPinLaw", "upper", "(II)I"⟩ : MethodName) (head1 (Jvm.Cond.code (⟨"com/example/types_for_trees/typesfortrees/types/OccurrenceWithinPinLaw", "upper", "(II)I"⟩ : MethodName) method_3_code 4 (some .int) :: ws) ({ frames := 0, cells := 0, slots := 0, locals := 0 } : Room)) (fun a U => a = #[(.int p1), (.int p2)] ∧ Z.Warmed39 U.vm ∧ U.heap = h0) (fun _ _ _ _ _ => True) (fun _ U o U' => ∃ v L, o = .returned v ∧ Q2 Z p1 p2 h0 n0 v U'.heap L ∧ FrameEnd U o U' L ({ frames := 0, cells := 0, slots := 0, locals := 0 } : Room).cells ({ frames := 0, cells := 0, slots := 0, locals := 0 } : Room).slots) := by
  refine MetFree.of_bodySF (plainFor_of_name pn_2) hisR ?_
  intro p e s m args below meth c s₁ Bd hml0 hP hK
  obtain ⟨rfl, hZ, hh⟩ := hP
  have hx := Bd.exec
  have hby := Bd.bytes
  have hml : c.maxLocals = 4 := hml0
  have hown : s.vm.findClass "com/example/types_for_trees/typesfortrees/types/OccurrenceWithinPinLaw" = some m.cls := findClass_of_methodNamed Bd.named
  have hnm := (name_of_methodNamed Bd.named Bd.method).1
  have X0 : Stand p l e ({ frames := 0, cells := 0, slots := 0, locals := 0 } : Room) s m #[(.int p1), (.int p2)] below meth c s₁ [] 0 0 := Stand.of_body Bd
  have e0 : s₁.heap = h0 := by rw [← hh, Bd.state]; rfl
  have N0 := Fr.nil n0
  have K0 : Keep h0 h0 [] := Keep.refl _ _
  have pre0 : ∀ t, Steps p.tables e below (s₁.setTop (mkF m 0 #[.val (.int p1), .val (.int p2), .unset, .unset] [])) t → Steps p.tables e below (s₁.setTop (entryFrame m #[(.int p1), (.int p2)] 4)) t := fun t k => castTop (ef_2 m p1 p2) k
  refine own_go (S' := fun t => Steps p.tables e below (s₁.setTop (mkF m 0 #[.val (.int p1), .val (.int p2), .unset, .unset] [])) t) pre0 ?_
  obtain ⟨fs, hr, hrun, hended, hW, hsame⟩ := X0.leave (v := some (.int (((p1.toInt64) + (((p2.toInt64) &&& (4294967295 : Int64)) % (((2147483647 : Int64) - (p1.toInt64)) + (1 : Int64)))).toInt32))) (fun h => by rw [Bd.returns] at h; cases h)
  refine ⟨_, _, ?_, hrun, hended, _, _, rfl, ?_, ⟨_, rfl⟩, hW, hsame.mono (by decide) (by decide)⟩
  · show Steps p.tables e below (s₁.setTop (mkF m 0 #[.val (.int p1), .val (.int p2), .unset, .unset] [])) _
    refine X0.ldc2Long hx hown (mvT hZ (hw _ (List.mem_of_getElem? (i := 8) rfl))) (g := (mkF m 0 #[.val (.int p1), .val (.int p2), .unset, .unset] [])) rfl (hb hby d2_0) _ ?_
    show Steps p.tables e below (s₁.setTop (mkF m 3 #[.val (.int p1), .val (.int p2), .unset, .unset] [(.long (2147483647 : Int64))])) _
    refine XS.iloadN X0.here hx rfl (hb hby d2_3) rfl ?_
    show Steps p.tables e below (s₁.setTop (mkF m 4 #[.val (.int p1), .val (.int p2), .unset, .unset] [(.int p1), (.long (2147483647 : Int64))])) _
    refine XS.i2l X0.here hx rfl (hb hby d2_4) rfl ?_
    show Steps p.tables e below (s₁.setTop (mkF m 5 #[.val (.int p1), .val (.int p2), .unset, .unset] [(.long (p1.toInt64)), (.long (2147483647 : Int64))])) _
    refine XS.lsub X0.here hx rfl (hb hby d2_5) rfl ?_
    show Steps p.tables e below (s₁.setTop (mkF m 6 #[.val (.int p1), .val (.int p2), .unset, .unset] [(.long ((2147483647 : Int64) - (p1.toInt64)))])) _
    refine XS.lconst X0.here hx rfl (hb hby d2_6) ?_
    show Steps p.tables e below (s₁.setTop (mkF m 7 #[.val (.int p1), .val (.int p2), .unset, .unset] [(.long (1 : Int64)), (.long ((2147483647 : Int64) - (p1.toInt64)))])) _
    refine XS.ladd X0.here hx rfl (hb hby d2_7) rfl ?_
    show Steps p.tables e below (s₁.setTop (mkF m 8 #[.val (.int p1), .val (.int p2), .unset, .unset] [(.long (((2147483647 : Int64) - (p1.toInt64)) + (1 : Int64)))])) _
    refine XS.lstoreN X0.here hx rfl (hb hby d2_8) rfl (l' := #[.val (.int p1), .val (.int p2), .val (.long (((2147483647 : Int64) - (p1.toInt64)) + (1 : Int64))), .second]) rfl ?_
    show Steps p.tables e below (s₁.setTop (mkF m 9 #[.val (.int p1), .val (.int p2), .val (.long (((2147483647 : Int64) - (p1.toInt64)) + (1 : Int64))), .second] [])) _
    refine XS.iloadN X0.here hx rfl (hb hby d2_9) rfl ?_
    show Steps p.tables e below (s₁.setTop (mkF m 10 #[.val (.int p1), .val (.int p2), .val (.long (((2147483647 : Int64) - (p1.toInt64)) + (1 : Int64))), .second] [(.int p1)])) _
    refine XS.i2l X0.here hx rfl (hb hby d2_10) rfl ?_
    show Steps p.tables e below (s₁.setTop (mkF m 11 #[.val (.int p1), .val (.int p2), .val (.long (((2147483647 : Int64) - (p1.toInt64)) + (1 : Int64))), .second] [(.long (p1.toInt64))])) _
    refine XS.iloadN X0.here hx rfl (hb hby d2_11) rfl ?_
    show Steps p.tables e below (s₁.setTop (mkF m 12 #[.val (.int p1), .val (.int p2), .val (.long (((2147483647 : Int64) - (p1.toInt64)) + (1 : Int64))), .second] [(.int p2), (.long (p1.toInt64))])) _
    refine XS.i2l X0.here hx rfl (hb hby d2_12) rfl ?_
    show Steps p.tables e below (s₁.setTop (mkF m 13 #[.val (.int p1), .val (.int p2), .val (.long (((2147483647 : Int64) - (p1.toInt64)) + (1 : Int64))), .second] [(.long (p2.toInt64)), (.long (p1.toInt64))])) _
    refine X0.ldc2Long hx hown (mvT hZ (hw _ (List.mem_of_getElem? (i := 9) rfl))) (g := (mkF m 13 #[.val (.int p1), .val (.int p2), .val (.long (((2147483647 : Int64) - (p1.toInt64)) + (1 : Int64))), .second] [(.long (p2.toInt64)), (.long (p1.toInt64))])) rfl (hb hby d2_13) _ ?_
    show Steps p.tables e below (s₁.setTop (mkF m 16 #[.val (.int p1), .val (.int p2), .val (.long (((2147483647 : Int64) - (p1.toInt64)) + (1 : Int64))), .second] [(.long (4294967295 : Int64)), (.long (p2.toInt64)), (.long (p1.toInt64))])) _
    refine XS.land X0.here hx rfl (hb hby d2_16) rfl ?_
    show Steps p.tables e below (s₁.setTop (mkF m 17 #[.val (.int p1), .val (.int p2), .val (.long (((2147483647 : Int64) - (p1.toInt64)) + (1 : Int64))), .second] [(.long ((p2.toInt64) &&& (4294967295 : Int64))), (.long (p1.toInt64))])) _
    refine XS.lloadN X0.here hx rfl (hb hby d2_17) rfl ?_
    show Steps p.tables e below (s₁.setTop (mkF m 18 #[.val (.int p1), .val (.int p2), .val (.long (((2147483647 : Int64) - (p1.toInt64)) + (1 : Int64))), .second] [(.long (((2147483647 : Int64) - (p1.toInt64)) + (1 : Int64))), (.long ((p2.toInt64) &&& (4294967295 : Int64))), (.long (p1.toInt64))])) _
    refine own_lremM X0 hx rfl (hb hby d2_18) rfl hnz ?_
    show Steps p.tables e below (s₁.setTop (mkF m 19 #[.val (.int p1), .val (.int p2), .val (.long (((2147483647 : Int64) - (p1.toInt64)) + (1 : Int64))), .second] [(.long (((p2.toInt64) &&& (4294967295 : Int64)) % (((2147483647 : Int64) - (p1.toInt64)) + (1 : Int64)))), (.long (p1.toInt64))])) _
    refine XS.ladd X0.here hx rfl (hb hby d2_19) rfl ?_
    show Steps p.tables e below (s₁.setTop (mkF m 20 #[.val (.int p1), .val (.int p2), .val (.long (((2147483647 : Int64) - (p1.toInt64)) + (1 : Int64))), .second] [(.long ((p1.toInt64) + (((p2.toInt64) &&& (4294967295 : Int64)) % (((2147483647 : Int64) - (p1.toInt64)) + (1 : Int64)))))])) _
    refine XS.l2i X0.here hx rfl (hb hby d2_20) rfl ?_
    show Steps p.tables e below (s₁.setTop (mkF m 21 #[.val (.int p1), .val (.int p2), .val (.long (((2147483647 : Int64) - (p1.toInt64)) + (1 : Int64))), .second] [(.int (((p1.toInt64) + (((p2.toInt64) &&& (4294967295 : Int64)) % (((2147483647 : Int64) - (p1.toInt64)) + (1 : Int64)))).toInt32))])) _
    exact retI X0 hx Bd.returns (hb hby d2_21) hr
  · show Q2 Z p1 p2 h0 n0 _ s₁.heap _
    rw [e0]
    exact ⟨_, rfl, rfl, N0, rfl⟩
theorem d4_0 : decode jdk_30_method_1_code 0 = .ok (.aload_n 0, 1) := by decide +kernel
theorem d4_1 : decode jdk_30_method_1_code 1 = .ok (.invokespecial 1, 3) := by decide +kernel
theorem d4_4 : decode jdk_30_method_1_code 4 = .ok (.return_, 1) := by decide +kernel
theorem pn_4 : plainName "java/lang/Record" = true := by first | (simp [plainName, overriddenIn]; done) | decide +kernel
theorem ef_4 (m : MethodId) (x0 : Addr) : entryFrame m #[(.ref x0)] 1 = mkF m 0 #[.val (.ref x0)] [] := by first | (simp [entryFrame, mkF, argsToLocals, Value.category]; done) | rfl
def Q4 (Z : State) (a1 : Addr) (h0 : Heap) (n0 : Nat) (v : Option Value) (h : Heap) (L : List Loc) : Prop := v = none ∧ Fr n0 L ∧ h = h0
set_option maxRecDepth 65536 in
set_option maxHeartbeats 40000000 in
theorem rm4 (l : Launch) (Z : State) (a0 : Array Value) (hw : ∀ d ∈ tables_1, d.before a0 Z = true) (ws : List Jvm.Cond) (a1 : Addr) (h0 : Heap) (n0 : Nat) (Z0 : n0 ≤ h0.size) :
    MetFree l (⟨"java/lang/Record", "<init>", "()V"⟩ : MethodName) (head1 (Jvm.Cond.code (⟨"java/lang/Record", "<init>", "()V"⟩ : MethodName) jdk_30_method_1_code 1 none :: ws) ({ frames := 1, cells := 0, slots := 0, locals := 12 } : Room)) (fun a U => a = #[(.ref a1)] ∧ Z.Warmed39 U.vm ∧ U.heap = h0) (fun _ _ _ _ _ => True) (fun _ U o U' => ∃ v L, o = .returned v ∧ Q4 Z a1 h0 n0 v U'.heap L ∧ FrameEnd U o U' L ({ frames := 1, cells := 0, slots := 0, locals := 12 } : Room).cells ({ frames := 1, cells := 0, slots := 0, locals := 12 } : Room).slots) := by
  refine MetFree.of_bodySF (plainFor_of_name pn_4) hisR ?_
  intro p e s m args below meth c s₁ Bd hml0 hP hK
  obtain ⟨rfl, hZ, hh⟩ := hP
  have hx := Bd.exec
  have hby := Bd.bytes
  have hml : c.maxLocals = 1 := hml0
  have hown : s.vm.findClass "java/lang/Record" = some m.cls := findClass_of_methodNamed Bd.named
  have hnm := (name_of_methodNamed Bd.named Bd.method).1
  have X0 : Stand p l e ({ frames := 1, cells := 0, slots := 0, locals := 12 } : Room) s m #[(.ref a1)] below meth c s₁ [] 0 0 := Stand.of_body Bd
  have e0 : s₁.heap = h0 := by rw [← hh, Bd.state]; rfl
  have N0 := Fr.nil n0
  have K0 : Keep h0 h0 [] := Keep.refl _ _
  have pre0 : ∀ t, Steps p.tables e below (s₁.setTop (mkF m 0 #[.val (.ref a1)] [])) t → Steps p.tables e below (s₁.setTop (entryFrame m #[(.ref a1)] 1)) t := fun t k => castTop (ef_4 m a1) k
  refine own_go (S' := fun t => Steps p.tables e below (s₁.setTop (mkF m 0 #[.val (.ref a1)] [])) t) pre0 ?_
  obtain ⟨T1, X1, e1, st1⟩ := initO X0 hx hZ hown (hw _ (List.mem_of_getElem? (i := 21) rfl)) (hw _ (List.mem_of_getElem? (i := 22) rfl)) (hw _ (List.mem_of_getElem? (i := 23) rfl)) e0 (g := (mkF m 1 #[.val (.ref a1)] [(.ref a1)])) rfl (by rw [hml]; rfl) rfl (hb hby d4_1) (by decide) (W := 0) (by show 2 * 0 + _ ≤ _; exact Nat.le_of_eq rfl) (by decide)
  obtain ⟨fs, hr, hrun, hended, hW, hsame⟩ := X1.leave (v := none) (fun _ => rfl)
  refine ⟨_, _, ?_, hrun, hended, _, _, rfl, ?_, ⟨_, rfl⟩, hW, hsame.mono (by decide) (by decide)⟩
  · show Steps p.tables e below (s₁.setTop (mkF m 0 #[.val (.ref a1)] [])) _
    refine XS.aloadN X0.here hx rfl (hb hby d4_0) rfl rfl ?_
    show Steps p.tables e below (s₁.setTop (mkF m 1 #[.val (.ref a1)] [(.ref a1)])) _
    refine st1 _ ?_
    show Steps p.tables e below (T1.setTop (mkF m 4 #[.val (.ref a1)] [])) _
    exact X1.returnOut hx Bd.returns (hb hby d4_4) hr
  · show Q4 Z a1 h0 n0 _ T1.heap _
    rw [e1]
    exact ⟨rfl, N0, rfl⟩
theorem pd_0 : parseMethodDescriptor "()V" = some ⟨[], none⟩ := by decide +kernel
theorem d3_0 : decode prog_179_method_1_code 0 = .ok (.aload_n 0, 1) := by decide +kernel
theorem d3_1 : decode prog_179_method_1_code 1 = .ok (.invokespecial 3, 3) := by decide +kernel
theorem d3_4 : decode prog_179_method_1_code 4 = .ok (.iload_n 1, 1) := by decide +kernel
theorem d3_5 : decode prog_179_method_1_code 5 = .ok (.ifCond .lt 14, 3) := by decide +kernel
theorem d3_8 : decode prog_179_method_1_code 8 = .ok (.iload_n 1, 1) := by decide +kernel
theorem d3_9 : decode prog_179_method_1_code 9 = .ok (.ldc 11, 2) := by decide +kernel
theorem d3_11 : decode prog_179_method_1_code 11 = .ok (.if_icmp .eq 8, 3) := by decide +kernel
theorem d3_14 : decode prog_179_method_1_code 14 = .ok (.iload_n 2, 1) := by decide +kernel
theorem d3_15 : decode prog_179_method_1_code 15 = .ok (.iload_n 1, 1) := by decide +kernel
theorem d3_16 : decode prog_179_method_1_code 16 = .ok (.if_icmp .ge 21, 3) := by decide +kernel
theorem d3_37 : decode prog_179_method_1_code 37 = .ok (.aload_n 0, 1) := by decide +kernel
theorem d3_38 : decode prog_179_method_1_code 38 = .ok (.iload_n 1, 1) := by decide +kernel
theorem d3_39 : decode prog_179_method_1_code 39 = .ok (.putfield 25, 3) := by decide +kernel
theorem d3_42 : decode prog_179_method_1_code 42 = .ok (.aload_n 0, 1) := by decide +kernel
theorem d3_43 : decode prog_179_method_1_code 43 = .ok (.iload_n 2, 1) := by decide +kernel
theorem d3_44 : decode prog_179_method_1_code 44 = .ok (.putfield 29, 3) := by decide +kernel
theorem d3_47 : decode prog_179_method_1_code 47 = .ok (.return_, 1) := by decide +kernel
theorem pn_3 : plainName "com/example/types_for_trees/typesfortrees/types/Occurrence" = true := by first | (simp [plainName, overriddenIn]; done) | decide +kernel
theorem ef_3 (m : MethodId) (x0 : Addr) (x1 : Int32) (x2 : Int32) : entryFrame m #[(.ref x0), (.int x1), (.int x2)] 3 = mkF m 0 #[.val (.ref x0), .val (.int x1), .val (.int x2)] [] := by first | (simp [entryFrame, mkF, argsToLocals, Value.category]; done) | rfl
def Q3 (Z : State) (a1 : Addr) (p2 : Int32) (p3 : Int32) (u0 : Value) (u1 : Value) (h0 : Heap) (n0 : Nat) (v : Option Value) (h : Heap) (L : List Loc) : Prop := v = none ∧ Fr n0 L ∧ Keep h0 h [a1] ∧ Exa Z h a1 "com/example/types_for_trees/typesfortrees/types/Occurrence" ∧ Fld Z h a1 "com/example/types_for_trees/typesfortrees/types/Occurrence" "min" "I" (.int p2) ∧ Fld Z h a1 "com/example/types_for_trees/typesfortrees/types/Occurrence" "max" "I" (.int p3)
set_option maxRecDepth 65536 in
set_option maxHeartbeats 40000000 in
theorem rm3 (l : Launch) (Z : State) (a0 : Array Value) (hw : ∀ d ∈ tables_1, d.before a0 Z = true) (ws : List Jvm.Cond) (a1 : Addr) (p2 : Int32) (p3 : Int32) (u0 : Value) (u1 : Value) (h0 : Heap) (n0 : Nat) (Z0 : n0 ≤ h0.size) (E_a1 : Exa Z h0 a1 "com/example/types_for_trees/typesfortrees/types/Occurrence") (F_a1_min : Fld Z h0 a1 "com/example/types_for_trees/typesfortrees/types/Occurrence" "min" "I" u0) (F_a1_max : Fld Z h0 a1 "com/example/types_for_trees/typesfortrees/types/Occurrence" "max" "I" u1) (g_a1 : n0 ≤ a1) (hc5 : ¬ (p2 < (0 : Int32))) (hc11 : ¬ (p2 = (2147483647 : Int32))) (hc16 : ¬ (p3 < p2)) :
    MetFree l (⟨"com/example/types_for_trees/typesfortrees/types/Occurrence", "<init>", "(II)V"⟩ : MethodName) (head1 (Jvm.Cond.code (⟨"com/example/types_for_trees/typesfortrees/types/Occurrence", "<init>", "(II)V"⟩ : MethodName) prog_179_method_1_code 3 none :: ws) ({ frames := 2, cells := 0, slots := 0, locals := 24 } : Room)) (fun a U => a = #[(.ref a1), (.int p2), (.int p3)] ∧ Z.Warmed39 U.vm ∧ U.heap = h0) (fun _ _ _ _ _ => True) (fun _ U o U' => ∃ v L, o = .returned v ∧ Q3 Z a1 p2 p3 u0 u1 h0 n0 v U'.heap L ∧ FrameEnd U o U' L ({ frames := 2, cells := 0, slots := 0, locals := 24 } : Room).cells ({ frames := 2, cells := 0, slots := 0, locals := 24 } : Room).slots) := by
  refine MetFree.of_bodySF (plainFor_of_name pn_3) hisR ?_
  intro p e s m args below meth c s₁ Bd hml0 hP hK
  obtain ⟨rfl, hZ, hh⟩ := hP
  have hx := Bd.exec
  have hby := Bd.bytes
  have hml : c.maxLocals = 3 := hml0
  have hown : s.vm.findClass "com/example/types_for_trees/typesfortrees/types/Occurrence" = some m.cls := findClass_of_methodNamed Bd.named
  have hnm := (name_of_methodNamed Bd.named Bd.method).1
  have X0 : Stand p l e ({ frames := 2, cells := 0, slots := 0, locals := 24 } : Room) s m #[(.ref a1), (.int p2), (.int p3)] below meth c s₁ [] 0 0 := Stand.of_body Bd
  have e0 : s₁.heap = h0 := by rw [← hh, Bd.state]; rfl
  have N0 := Fr.nil n0
  have K0 : Keep h0 h0 [a1] := Keep.refl _ _
  have pre0 : ∀ t, Steps p.tables e below (s₁.setTop (mkF m 0 #[.val (.ref a1), .val (.int p2), .val (.int p3)] [])) t → Steps p.tables e below (s₁.setTop (entryFrame m #[(.ref a1), (.int p2), (.int p3)] 3)) t := fun t k => castTop (ef_3 m a1 p2 p3) k
  refine own_go (S' := fun t => Steps p.tables e below (s₁.setTop (mkF m 0 #[.val (.ref a1), .val (.int p2), .val (.int p3)] [])) t) pre0 ?_
  obtain ⟨_, _, ⟨T1, L1, k1, n1⟩, -, X1, ⟨Lc1, hQ1, l1, y1, z1⟩, st1⟩ := X0.specialBack hx (y := (⟨"java/lang/Record", "<init>", "()V"⟩ : MethodName)) rfl hown (mvT hZ (hw _ (List.mem_of_getElem? (i := 16) rfl))) (mvT hZ (hw _ (List.mem_of_getElem? (i := 17) rfl))) (mvT hZ (hw _ (List.mem_of_getElem? (i := 20) rfl))) (by decide) (backOf (W := 0) (rm4 l Z a0 hw [] a1 h0 n0 Z0 ) hZ (hw _ (List.mem_of_getElem? (i := 20) rfl)) (hw _ (List.mem_of_getElem? (i := 19) rfl)) (by decide) (by decide)) (g := (mkF m 1 #[.val (.ref a1), .val (.int p2), .val (.int p3)] [(.ref a1)])) rfl (by rw [hml]; rfl) (Steps.refl _) (a := a1) (argsL := []) (rest := []) (lenOf pd_0 rfl) rfl (by show 2 * 0 + _ ≤ _; exact Nat.le_of_eq rfl) (hb hby d3_1) (fun _ _ => ⟨rfl, e0, (by decide : 0 + 0 ≤ _), (by decide : 0 + 0 ≤ _)⟩)
  dsimp only [Pt.U, Pt.locs, Pt.cells, Pt.slots] at X1 l1 y1 z1 st1 hQ1
  subst l1 y1 z1
  obtain ⟨rfl, N1q, e1⟩ := hQ1
  have N1 := Fr.app N0 N1q
  obtain ⟨T2, h2, X2, e2, W2, st2⟩ := putF X1 hx hZ hown (host := "") (Or.inl (hw _ (List.mem_of_getElem? (i := 25) rfl))) Via.refl e1 F_a1_min E_a1 (Or.inr ⟨(hw _ (List.mem_of_getElem? (i := 26) rfl)), rfl, hnm⟩) (hw _ (List.mem_of_getElem? (i := 11) rfl)) (ty := .int) (by decide) rfl rfl (g := (mkF m 39 #[.val (.ref a1), .val (.int p2), .val (.int p3)] [(.int p2), (.ref a1)])) rfl rfl (hb hby d3_39)
  have F_a1_min := F_a1_min.same W2
  have F_a1_max := F_a1_max.other W2 (Or.inr (slot_ne (Or.inr (hw _ (List.mem_of_getElem? (i := 28) rfl))) (Or.inr (hw _ (List.mem_of_getElem? (i := 26) rfl))) (by decide) (t := .int) (t' := .int) (by decide) (by decide)))
  have E_a1 := E_a1.wr W2
  have Z0 : n0 ≤ h2.size := by rw [W2.size]; exact Z0
  have K0 := K0.wr W2 (Or.inl (List.mem_of_getElem? (i := 0) rfl))
  have N2 := Fr.snoc X2 N1 g_a1
  obtain ⟨T3, h3, X3, e3, W3, st3⟩ := putF X2 hx hZ hown (host := "") (Or.inl (hw _ (List.mem_of_getElem? (i := 27) rfl))) Via.refl e2 F_a1_max E_a1 (Or.inr ⟨(hw _ (List.mem_of_getElem? (i := 28) rfl)), rfl, hnm⟩) (hw _ (List.mem_of_getElem? (i := 11) rfl)) (ty := .int) (by decide) rfl rfl (g := (mkF m 44 #[.val (.ref a1), .val (.int p2), .val (.int p3)] [(.int p3), (.ref a1)])) rfl rfl (hb hby d3_44)
  have F_a1_min := F_a1_min.other W3 (Or.inr (slot_ne (Or.inr (hw _ (List.mem_of_getElem? (i := 26) rfl))) (Or.inr (hw _ (List.mem_of_getElem? (i := 28) rfl))) (by decide) (t := .int) (t' := .int) (by decide) (by decide)))
  have F_a1_max := F_a1_max.same W3
  have E_a1 := E_a1.wr W3
  have Z0 : n0 ≤ h3.size := by rw [W3.size]; exact Z0
  have K0 := K0.wr W3 (Or.inl (List.mem_of_getElem? (i := 0) rfl))
  have N3 := Fr.snoc X3 N2 g_a1
  obtain ⟨fs, hr, hrun, hended, hW, hsame⟩ := X3.leave (v := none) (fun _ => rfl)
  refine ⟨_, _, ?_, hrun, hended, _, _, rfl, ?_, ⟨_, rfl⟩, hW, hsame.mono (by decide) (by decide)⟩
  · show Steps p.tables e below (s₁.setTop (mkF m 0 #[.val (.ref a1), .val (.int p2), .val (.int p3)] [])) _
    refine XS.aloadN X0.here hx rfl (hb hby d3_0) rfl rfl ?_
    show Steps p.tables e below (s₁.setTop (mkF m 1 #[.val (.ref a1), .val (.int p2), .val (.int p3)] [(.ref a1)])) _
    refine st1.trans ?_
    show Steps p.tables e below (T1.setTop (mkF m 4 #[.val (.ref a1), .val (.int p2), .val (.int p3)] [])) _
    refine XS.iloadN X1.here hx rfl (hb hby d3_4) rfl ?_
    show Steps p.tables e below (T1.setTop (mkF m 5 #[.val (.ref a1), .val (.int p2), .val (.int p3)] [(.int p2)])) _
    refine XS.ifNo X1.here hx rfl (hb hby d3_5) rfl ((if0 _ _).trans (flt hc5).1) ?_
    show Steps p.tables e below (T1.setTop (mkF m 8 #[.val (.ref a1), .val (.int p2), .val (.int p3)] [])) _
    refine XS.iloadN X1.here hx rfl (hb hby d3_8) rfl ?_
    show Steps p.tables e below (T1.setTop (mkF m 9 #[.val (.ref a1), .val (.int p2), .val (.int p3)] [(.int p2)])) _
    refine X1.ldcInt hx hown (mvT hZ (hw _ (List.mem_of_getElem? (i := 24) rfl))) (g := (mkF m 9 #[.val (.ref a1), .val (.int p2), .val (.int p3)] [(.int p2)])) rfl (hb hby d3_9) _ ?_
    show Steps p.tables e below (T1.setTop (mkF m 11 #[.val (.ref a1), .val (.int p2), .val (.int p3)] [(.int (2147483647 : Int32)), (.int p2)])) _
    refine XS.icmpNo X1.here hx rfl (hb hby d3_11) rfl (feq hc11).1 ?_
    show Steps p.tables e below (T1.setTop (mkF m 14 #[.val (.ref a1), .val (.int p2), .val (.int p3)] [])) _
    refine XS.iloadN X1.here hx rfl (hb hby d3_14) rfl ?_
    show Steps p.tables e below (T1.setTop (mkF m 15 #[.val (.ref a1), .val (.int p2), .val (.int p3)] [(.int p3)])) _
    refine XS.iloadN X1.here hx rfl (hb hby d3_15) rfl ?_
    show Steps p.tables e below (T1.setTop (mkF m 16 #[.val (.ref a1), .val (.int p2), .val (.int p3)] [(.int p2), (.int p3)])) _
    refine XS.icmpYes X1.here hx rfl (pc0 := 16) (pc' := 37) rfl (hb hby d3_16) rfl (flt hc16).2.1 (by decide) (by decide) ?_
    show Steps p.tables e below (T1.setTop (mkF m 37 #[.val (.ref a1), .val (.int p2), .val (.int p3)] [])) _
    refine XS.aloadN X1.here hx rfl (hb hby d3_37) rfl rfl ?_
    show Steps p.tables e below (T1.setTop (mkF m 38 #[.val (.ref a1), .val (.int p2), .val (.int p3)] [(.ref a1)])) _
    refine XS.iloadN X1.here hx rfl (hb hby d3_38) rfl ?_
    show Steps p.tables e below (T1.setTop (mkF m 39 #[.val (.ref a1), .val (.int p2), .val (.int p3)] [(.int p2), (.ref a1)])) _
    refine st2 _ ?_
    show Steps p.tables e below (T2.setTop (mkF m 42 #[.val (.ref a1), .val (.int p2), .val (.int p3)] [])) _
    refine XS.aloadN X2.here hx rfl (hb hby d3_42) rfl rfl ?_
    show Steps p.tables e below (T2.setTop (mkF m 43 #[.val (.ref a1), .val (.int p2), .val (.int p3)] [(.ref a1)])) _
    refine XS.iloadN X2.here hx rfl (hb hby d3_43) rfl ?_
    show Steps p.tables e below (T2.setTop (mkF m 44 #[.val (.ref a1), .val (.int p2), .val (.int p3)] [(.int p3), (.ref a1)])) _
    refine st3 _ ?_
    show Steps p.tables e below (T3.setTop (mkF m 47 #[.val (.ref a1), .val (.int p2), .val (.int p3)] [])) _
    exact X3.returnOut hx Bd.returns (hb hby d3_47) hr
  · show Q3 Z a1 p2 p3 u0 u1 h0 n0 _ T3.heap _
    rw [e3]
    exact ⟨rfl, N3, K0, E_a1, F_a1_min, F_a1_max⟩
theorem d6_0 : decode prog_179_method_6_code 0 = .ok (.aload_n 1, 1) := by decide +kernel
theorem d6_1 : decode prog_179_method_6_code 1 = .ok (.getfield 25, 3) := by decide +kernel
theorem d6_4 : decode prog_179_method_6_code 4 = .ok (.aload_n 0, 1) := by decide +kernel
theorem d6_5 : decode prog_179_method_6_code 5 = .ok (.getfield 25, 3) := by decide +kernel
theorem d6_8 : decode prog_179_method_6_code 8 = .ok (.if_icmp .gt 18, 3) := by decide +kernel
theorem d6_11 : decode prog_179_method_6_code 11 = .ok (.aload_n 0, 1) := by decide +kernel
theorem d6_12 : decode prog_179_method_6_code 12 = .ok (.getfield 29, 3) := by decide +kernel
theorem d6_15 : decode prog_179_method_6_code 15 = .ok (.aload_n 1, 1) := by decide +kernel
theorem d6_16 : decode prog_179_method_6_code 16 = .ok (.getfield 29, 3) := by decide +kernel
theorem d6_19 : decode prog_179_method_6_code 19 = .ok (.if_icmp .gt 7, 3) := by decide +kernel
theorem d6_22 : decode prog_179_method_6_code 22 = .ok (.iconst 1, 1) := by decide +kernel
theorem d6_23 : decode prog_179_method_6_code 23 = .ok (.goto 4, 3) := by decide +kernel
theorem d6_26 : decode prog_179_method_6_code 26 = .ok (.iconst 0, 1) := by decide +kernel
theorem d6_27 : decode prog_179_method_6_code 27 = .ok (.ireturn, 1) := by decide +kernel
theorem pn_6 : plainName "com/example/types_for_trees/typesfortrees/types/Occurrence" = true := by first | (simp [plainName, overriddenIn]; done) | decide +kernel
theorem ef_6 (m : MethodId) (x0 : Addr) (x1 : Addr) : entryFrame m #[(.ref x0), (.ref x1)] 2 = mkF m 0 #[.val (.ref x0), .val (.ref x1)] [] := by first | (simp [entryFrame, mkF, argsToLocals, Value.category]; done) | rfl
def Q6 (Z : State) (a1 : Addr) (a2 : Addr) (m1 : Int32) (x1 : Int32) (m2 : Int32) (x2 : Int32) (h0 : Heap) (n0 : Nat) (v : Option Value) (h : Heap) (L : List Loc) : Prop := ∃ r : Int32, v = some (.int r) ∧ (r = (if m1 < m2 then (0 : Int32) else (if x2 < x1 then (0 : Int32) else (1 : Int32)))) ∧ Fr n0 L ∧ h = h0
set_option maxRecDepth 65536 in
set_option maxHeartbeats 40000000 in
theorem rm6 (l : Launch) (Z : State) (a0 : Array Value) (hw : ∀ d ∈ tables_1, d.before a0 Z = true) (ws : List Jvm.Cond) (a1 : Addr) (a2 : Addr) (m1 : Int32) (x1 : Int32) (m2 : Int32) (x2 : Int32) (h0 : Heap) (n0 : Nat) (Z0 : n0 ≤ h0.size) (F_a1_min : Fld Z h0 a1 "com/example/types_for_trees/typesfortrees/types/Occurrence" "min" "I" (.int m1)) (F_a1_max : Fld Z h0 a1 "com/example/types_for_trees/typesfortrees/types/Occurrence" "max" "I" (.int x1)) (F_a2_min : Fld Z h0 a2 "com/example/types_for_trees/typesfortrees/types/Occurrence" "min" "I" (.int m2)) (F_a2_max : Fld Z h0 a2 "com/example/types_for_trees/typesfortrees/types/Occurrence" "max" "I" (.int x2)) :
    MetFree l (⟨"com/example/types_for_trees/typesfortrees/types/Occurrence", "within", "(Lcom/example/types_for_trees/typesfortrees/types/Occurrence;)Z"⟩ : MethodName) (head1 (Jvm.Cond.code (⟨"com/example/types_for_trees/typesfortrees/types/Occurrence", "within", "(Lcom/example/types_for_trees/typesfortrees/types/Occurrence;)Z"⟩ : MethodName) prog_179_method_6_code 2 (some .boolean) :: ws) ({ frames := 0, cells := 0, slots := 0, locals := 0 } : Room)) (fun a U => a = #[(.ref a1), (.ref a2)] ∧ Z.Warmed39 U.vm ∧ U.heap = h0) (fun _ _ _ _ _ => True) (fun _ U o U' => ∃ v L, o = .returned v ∧ Q6 Z a1 a2 m1 x1 m2 x2 h0 n0 v U'.heap L ∧ FrameEnd U o U' L ({ frames := 0, cells := 0, slots := 0, locals := 0 } : Room).cells ({ frames := 0, cells := 0, slots := 0, locals := 0 } : Room).slots) := by
  refine MetFree.of_bodySF (plainFor_of_name pn_6) hisR ?_
  intro p e s m args below meth c s₁ Bd hml0 hP hK
  obtain ⟨rfl, hZ, hh⟩ := hP
  have hx := Bd.exec
  have hby := Bd.bytes
  have hml : c.maxLocals = 2 := hml0
  have hown : s.vm.findClass "com/example/types_for_trees/typesfortrees/types/Occurrence" = some m.cls := findClass_of_methodNamed Bd.named
  have hnm := (name_of_methodNamed Bd.named Bd.method).1
  have X0 : Stand p l e ({ frames := 0, cells := 0, slots := 0, locals := 0 } : Room) s m #[(.ref a1), (.ref a2)] below meth c s₁ [] 0 0 := Stand.of_body Bd
  have e0 : s₁.heap = h0 := by rw [← hh, Bd.state]; rfl
  have N0 := Fr.nil n0
  have K0 : Keep h0 h0 [] := Keep.refl _ _
  have pre0 : ∀ t, Steps p.tables e below (s₁.setTop (mkF m 0 #[.val (.ref a1), .val (.ref a2)] [])) t → Steps p.tables e below (s₁.setTop (entryFrame m #[(.ref a1), (.ref a2)] 2)) t := fun t k => castTop (ef_6 m a1 a2) k
  refine own_go (S' := fun t => Steps p.tables e below (s₁.setTop (mkF m 0 #[.val (.ref a1), .val (.ref a2)] [])) t) pre0 ?_
  obtain ⟨T1, X1, e1, st1⟩ := getF X0 hx hZ hown (host := "") (Or.inl (hw _ (List.mem_of_getElem? (i := 25) rfl))) Via.refl e0 F_a2_min (g := (mkF m 1 #[.val (.ref a1), .val (.ref a2)] [(.ref a2)])) rfl rfl (hb hby d6_1)
  obtain ⟨T2, X2, e2, st2⟩ := getF X1 hx hZ hown (host := "") (Or.inl (hw _ (List.mem_of_getElem? (i := 25) rfl))) Via.refl e1 F_a1_min (g := (mkF m 5 #[.val (.ref a1), .val (.ref a2)] [(.ref a1), (.int m2)])) rfl rfl (hb hby d6_5)
  refine own_go (S' := fun t => Steps p.tables e below (T2.setTop (mkF m 8 #[.val (.ref a1), .val (.ref a2)] [(.int m1), (.int m2)])) t) (fun t k => ?_) ?_
  · show Steps p.tables e below (s₁.setTop (mkF m 0 #[.val (.ref a1), .val (.ref a2)] [])) _
    refine XS.aloadN X0.here hx rfl (hb hby d6_0) rfl rfl ?_
    show Steps p.tables e below (s₁.setTop (mkF m 1 #[.val (.ref a1), .val (.ref a2)] [(.ref a2)])) _
    refine st1 _ ?_
    show Steps p.tables e below (T1.setTop (mkF m 4 #[.val (.ref a1), .val (.ref a2)] [(.int m2)])) _
    refine XS.aloadN X1.here hx rfl (hb hby d6_4) rfl rfl ?_
    show Steps p.tables e below (T1.setTop (mkF m 5 #[.val (.ref a1), .val (.ref a2)] [(.ref a1), (.int m2)])) _
    refine st2 _ ?_
    exact k
  by_cases hc8 : m1 < m2
  · obtain ⟨fs, hr, hrun, hended, hW, hsame⟩ := X2.leave (v := some (.int (0 : Int32))) (fun h => by rw [Bd.returns] at h; cases h)
    refine ⟨_, _, ?_, hrun, hended, _, _, rfl, ?_, ⟨_, rfl⟩, hW, hsame.mono (by decide) (by decide)⟩
    · show Steps p.tables e below (T2.setTop (mkF m 8 #[.val (.ref a1), .val (.ref a2)] [(.int m1), (.int m2)])) _
      refine XS.icmpYes X2.here hx rfl (pc0 := 8) (pc' := 26) rfl (hb hby d6_8) rfl (tlt hc8).2.2.1 (by decide) (by decide) ?_
      show Steps p.tables e below (T2.setTop (mkF m 26 #[.val (.ref a1), .val (.ref a2)] [])) _
      refine XS.iconst X2.here hx rfl (hb hby d6_26) ?_
      show Steps p.tables e below (T2.setTop (mkF m 27 #[.val (.ref a1), .val (.ref a2)] [(.int (0 : Int32))])) _
      exact retN X2 hx (t := .boolean) Bd.returns (by simp) (hb hby d6_27) hr
    · show Q6 Z a1 a2 m1 x1 m2 x2 h0 n0 _ T2.heap _
      rw [e2]
      exact ⟨_, rfl, by rw [if_pos hc8], N0, rfl⟩
  · obtain ⟨T3, X3, e3, st3⟩ := getF X2 hx hZ hown (host := "") (Or.inl (hw _ (List.mem_of_getElem? (i := 27) rfl))) Via.refl e2 F_a1_max (g := (mkF m 12 #[.val (.ref a1), .val (.ref a2)] [(.ref a1)])) rfl rfl (hb hby d6_12)
    obtain ⟨T4, X4, e4, st4⟩ := getF X3 hx hZ hown (host := "") (Or.inl (hw _ (List.mem_of_getElem? (i := 27) rfl))) Via.refl e3 F_a2_max (g := (mkF m 16 #[.val (.ref a1), .val (.ref a2)] [(.ref a2), (.int x1)])) rfl rfl (hb hby d6_16)
    refine own_go (S' := fun t => Steps p.tables e below (T4.setTop (mkF m 19 #[.val (.ref a1), .val (.ref a2)] [(.int x2), (.int x1)])) t) (fun t k => ?_) ?_
    · show Steps p.tables e below (T2.setTop (mkF m 8 #[.val (.ref a1), .val (.ref a2)] [(.int m1), (.int m2)])) _
      refine XS.icmpNo X2.here hx rfl (hb hby d6_8) rfl (flt hc8).2.2.1 ?_
      show Steps p.tables e below (T2.setTop (mkF m 11 #[.val (.ref a1), .val (.ref a2)] [])) _
      refine XS.aloadN X2.here hx rfl (hb hby d6_11) rfl rfl ?_
      show Steps p.tables e below (T2.setTop (mkF m 12 #[.val (.ref a1), .val (.ref a2)] [(.ref a1)])) _
      refine st3 _ ?_
      show Steps p.tables e below (T3.setTop (mkF m 15 #[.val (.ref a1), .val (.ref a2)] [(.int x1)])) _
      refine XS.aloadN X3.here hx rfl (hb hby d6_15) rfl rfl ?_
      show Steps p.tables e below (T3.setTop (mkF m 16 #[.val (.ref a1), .val (.ref a2)] [(.ref a2), (.int x1)])) _
      refine st4 _ ?_
      exact k
    by_cases hc19 : x2 < x1
    · obtain ⟨fs, hr, hrun, hended, hW, hsame⟩ := X4.leave (v := some (.int (0 : Int32))) (fun h => by rw [Bd.returns] at h; cases h)
      refine ⟨_, _, ?_, hrun, hended, _, _, rfl, ?_, ⟨_, rfl⟩, hW, hsame.mono (by decide) (by decide)⟩
      · show Steps p.tables e below (T4.setTop (mkF m 19 #[.val (.ref a1), .val (.ref a2)] [(.int x2), (.int x1)])) _
        refine XS.icmpYes X4.here hx rfl (pc0 := 19) (pc' := 26) rfl (hb hby d6_19) rfl (tlt hc19).2.2.1 (by decide) (by decide) ?_
        show Steps p.tables e below (T4.setTop (mkF m 26 #[.val (.ref a1), .val (.ref a2)] [])) _
        refine XS.iconst X4.here hx rfl (hb hby d6_26) ?_
        show Steps p.tables e below (T4.setTop (mkF m 27 #[.val (.ref a1), .val (.ref a2)] [(.int (0 : Int32))])) _
        exact retN X4 hx (t := .boolean) Bd.returns (by simp) (hb hby d6_27) hr
      · show Q6 Z a1 a2 m1 x1 m2 x2 h0 n0 _ T4.heap _
        rw [e4]
        exact ⟨_, rfl, by rw [if_neg hc8, if_pos hc19], N0, rfl⟩
    · obtain ⟨fs, hr, hrun, hended, hW, hsame⟩ := X4.leave (v := some (.int (1 : Int32))) (fun h => by rw [Bd.returns] at h; cases h)
      refine ⟨_, _, ?_, hrun, hended, _, _, rfl, ?_, ⟨_, rfl⟩, hW, hsame.mono (by decide) (by decide)⟩
      · show Steps p.tables e below (T4.setTop (mkF m 19 #[.val (.ref a1), .val (.ref a2)] [(.int x2), (.int x1)])) _
        refine XS.icmpNo X4.here hx rfl (hb hby d6_19) rfl (flt hc19).2.2.1 ?_
        show Steps p.tables e below (T4.setTop (mkF m 22 #[.val (.ref a1), .val (.ref a2)] [])) _
        refine XS.iconst X4.here hx rfl (hb hby d6_22) ?_
        show Steps p.tables e below (T4.setTop (mkF m 23 #[.val (.ref a1), .val (.ref a2)] [(.int (1 : Int32))])) _
        refine XS.goto X4.here hx rfl (pc0 := 23) (pc' := 27) rfl (hb hby d6_23) (by decide) (by decide) ?_
        show Steps p.tables e below (T4.setTop (mkF m 27 #[.val (.ref a1), .val (.ref a2)] [(.int (1 : Int32))])) _
        exact retN X4 hx (t := .boolean) Bd.returns (by simp) (hb hby d6_27) hr
      · show Q6 Z a1 a2 m1 x1 m2 x2 h0 n0 _ T4.heap _
        rw [e4]
        exact ⟨_, rfl, by rw [if_neg hc8, if_neg hc19], N0, rfl⟩
theorem d8_0 : decode jdk_29_method_69_code 0 = .ok (.iload_n 0, 1) := by decide +kernel
theorem d8_1 : decode jdk_29_method_69_code 1 = .ok (.iload_n 1, 1) := by decide +kernel
theorem d8_2 : decode jdk_29_method_69_code 2 = .ok (.if_icmp .gt 7, 3) := by decide +kernel
theorem d8_5 : decode jdk_29_method_69_code 5 = .ok (.iload_n 0, 1) := by decide +kernel
theorem d8_6 : decode jdk_29_method_69_code 6 = .ok (.goto 4, 3) := by decide +kernel
theorem d8_9 : decode jdk_29_method_69_code 9 = .ok (.iload_n 1, 1) := by decide +kernel
theorem d8_10 : decode jdk_29_method_69_code 10 = .ok (.ireturn, 1) := by decide +kernel
theorem ef_8 (m : MethodId) (x0 : Int32) (x1 : Int32) : entryFrame m #[(.int x0), (.int x1)] 2 = mkF m 0 #[.val (.int x0), .val (.int x1)] [] := by first | (simp [entryFrame, mkF, argsToLocals, Value.category]; done) | rfl
def Q8 (Z : State) (p1 : Int32) (p2 : Int32) (h0 : Heap) (n0 : Nat) (v : Option Value) (h : Heap) (L : List Loc) : Prop := ∃ r : Int32, v = some (.int r) ∧ (r = (if p2 < p1 then p2 else p1)) ∧ Fr n0 L ∧ h = h0
set_option maxRecDepth 65536 in
set_option maxHeartbeats 40000000 in
theorem rm8 (l : Launch) (Z : State) (a0 : Array Value) (hw : ∀ d ∈ tables_1, d.before a0 Z = true) (ws : List Jvm.Cond) (p1 : Int32) (p2 : Int32) (h0 : Heap) (n0 : Nat) (Z0 : n0 ≤ h0.size) :
    MetFree l (⟨"java/lang/Math", "min", "(II)I"⟩ : MethodName) (head1 (Jvm.Cond.code (⟨"java/lang/Math", "min", "(II)I"⟩ : MethodName) jdk_29_method_69_code 2 (some .int) :: ws) ({ frames := 0, cells := 0, slots := 0, locals := 0 } : Room)) (fun a U => a = #[(.int p1), (.int p2)] ∧ Z.Warmed39 U.vm ∧ U.heap = h0) (fun _ _ _ _ _ => True) (fun _ U o U' => ∃ v L, o = .returned v ∧ Q8 Z p1 p2 h0 n0 v U'.heap L ∧ FrameEnd U o U' L ({ frames := 0, cells := 0, slots := 0, locals := 0 } : Room).cells ({ frames := 0, cells := 0, slots := 0, locals := 0 } : Room).slots) := by
  refine MetFree.of_bodySF (Jvm.Free.JP.mathPlain rfl (by decide +kernel)) hisR ?_
  intro p e s m args below meth c s₁ Bd hml0 hP hK
  obtain ⟨rfl, hZ, hh⟩ := hP
  have hx := Bd.exec
  have hby := Bd.bytes
  have hml : c.maxLocals = 2 := hml0
  have hown : s.vm.findClass "java/lang/Math" = some m.cls := findClass_of_methodNamed Bd.named
  have hnm := (name_of_methodNamed Bd.named Bd.method).1
  have X0 : Stand p l e ({ frames := 0, cells := 0, slots := 0, locals := 0 } : Room) s m #[(.int p1), (.int p2)] below meth c s₁ [] 0 0 := Stand.of_body Bd
  have e0 : s₁.heap = h0 := by rw [← hh, Bd.state]; rfl
  have N0 := Fr.nil n0
  have K0 : Keep h0 h0 [] := Keep.refl _ _
  have pre0 : ∀ t, Steps p.tables e below (s₁.setTop (mkF m 0 #[.val (.int p1), .val (.int p2)] [])) t → Steps p.tables e below (s₁.setTop (entryFrame m #[(.int p1), (.int p2)] 2)) t := fun t k => castTop (ef_8 m p1 p2) k
  refine own_go (S' := fun t => Steps p.tables e below (s₁.setTop (mkF m 0 #[.val (.int p1), .val (.int p2)] [])) t) pre0 ?_
  obtain ⟨u, d_u⟩ : ∃ z : Int32, z = (if p2 < p1 then p2 else p1) := ⟨_, rfl⟩
  have j1 : ∀ t, Steps p.tables e below (s₁.setTop (mkF m 10 #[.val (.int p1), .val (.int p2)] [(.int u)])) t → Steps p.tables e below (s₁.setTop (mkF m 2 #[.val (.int p1), .val (.int p2)] [(.int p2), (.int p1)])) t := by
    intro t k
    by_cases hj2 : p2 < p1
    · have q_u : u = p2 := by rw [d_u, if_pos hj2]
      show Steps p.tables e below (s₁.setTop (mkF m 2 #[.val (.int p1), .val (.int p2)] [(.int p2), (.int p1)])) _
      refine XS.icmpYes X0.here hx rfl (pc0 := 2) (pc' := 9) rfl (hb hby d8_2) rfl (tlt hj2).2.2.1 (by decide) (by decide) ?_
      show Steps p.tables e below (s₁.setTop (mkF m 9 #[.val (.int p1), .val (.int p2)] [])) _
      refine XS.iloadN X0.here hx rfl (hb hby d8_9) rfl ?_
      rw [q_u] at k
      exact k
    · have q_u : u = p1 := by rw [d_u, if_neg hj2]
      show Steps p.tables e below (s₁.setTop (mkF m 2 #[.val (.int p1), .val (.int p2)] [(.int p2), (.int p1)])) _
      refine XS.icmpNo X0.here hx rfl (hb hby d8_2) rfl (flt hj2).2.2.1 ?_
      show Steps p.tables e below (s₁.setTop (mkF m 5 #[.val (.int p1), .val (.int p2)] [])) _
      refine XS.iloadN X0.here hx rfl (hb hby d8_5) rfl ?_
      show Steps p.tables e below (s₁.setTop (mkF m 6 #[.val (.int p1), .val (.int p2)] [(.int p1)])) _
      refine XS.goto X0.here hx rfl (pc0 := 6) (pc' := 10) rfl (hb hby d8_6) (by decide) (by decide) ?_
      rw [q_u] at k
      exact k
  obtain ⟨fs, hr, hrun, hended, hW, hsame⟩ := X0.leave (v := some (.int u)) (fun h => by rw [Bd.returns] at h; cases h)
  refine ⟨_, _, ?_, hrun, hended, _, _, rfl, ?_, ⟨_, rfl⟩, hW, hsame.mono (by decide) (by decide)⟩
  · show Steps p.tables e below (s₁.setTop (mkF m 0 #[.val (.int p1), .val (.int p2)] [])) _
    refine XS.iloadN X0.here hx rfl (hb hby d8_0) rfl ?_
    show Steps p.tables e below (s₁.setTop (mkF m 1 #[.val (.int p1), .val (.int p2)] [(.int p1)])) _
    refine XS.iloadN X0.here hx rfl (hb hby d8_1) rfl ?_
    show Steps p.tables e below (s₁.setTop (mkF m 2 #[.val (.int p1), .val (.int p2)] [(.int p2), (.int p1)])) _
    refine j1 _ ?_
    show Steps p.tables e below (s₁.setTop (mkF m 10 #[.val (.int p1), .val (.int p2)] [(.int u)])) _
    exact retI X0 hx Bd.returns (hb hby d8_10) hr
  · show Q8 Z p1 p2 h0 n0 _ s₁.heap _
    rw [e0]
    exact ⟨_, rfl, d_u, N0, rfl⟩
theorem d9_0 : decode jdk_29_method_65_code 0 = .ok (.iload_n 0, 1) := by decide +kernel
theorem d9_1 : decode jdk_29_method_65_code 1 = .ok (.iload_n 1, 1) := by decide +kernel
theorem d9_2 : decode jdk_29_method_65_code 2 = .ok (.if_icmp .lt 7, 3) := by decide +kernel
theorem d9_5 : decode jdk_29_method_65_code 5 = .ok (.iload_n 0, 1) := by decide +kernel
theorem d9_6 : decode jdk_29_method_65_code 6 = .ok (.goto 4, 3) := by decide +kernel
theorem d9_9 : decode jdk_29_method_65_code 9 = .ok (.iload_n 1, 1) := by decide +kernel
theorem d9_10 : decode jdk_29_method_65_code 10 = .ok (.ireturn, 1) := by decide +kernel
theorem ef_9 (m : MethodId) (x0 : Int32) (x1 : Int32) : entryFrame m #[(.int x0), (.int x1)] 2 = mkF m 0 #[.val (.int x0), .val (.int x1)] [] := by first | (simp [entryFrame, mkF, argsToLocals, Value.category]; done) | rfl
def Q9 (Z : State) (p1 : Int32) (p2 : Int32) (h0 : Heap) (n0 : Nat) (v : Option Value) (h : Heap) (L : List Loc) : Prop := ∃ r : Int32, v = some (.int r) ∧ (r = (if p1 < p2 then p2 else p1)) ∧ Fr n0 L ∧ h = h0
set_option maxRecDepth 65536 in
set_option maxHeartbeats 40000000 in
theorem rm9 (l : Launch) (Z : State) (a0 : Array Value) (hw : ∀ d ∈ tables_1, d.before a0 Z = true) (ws : List Jvm.Cond) (p1 : Int32) (p2 : Int32) (h0 : Heap) (n0 : Nat) (Z0 : n0 ≤ h0.size) :
    MetFree l (⟨"java/lang/Math", "max", "(II)I"⟩ : MethodName) (head1 (Jvm.Cond.code (⟨"java/lang/Math", "max", "(II)I"⟩ : MethodName) jdk_29_method_65_code 2 (some .int) :: ws) ({ frames := 0, cells := 0, slots := 0, locals := 0 } : Room)) (fun a U => a = #[(.int p1), (.int p2)] ∧ Z.Warmed39 U.vm ∧ U.heap = h0) (fun _ _ _ _ _ => True) (fun _ U o U' => ∃ v L, o = .returned v ∧ Q9 Z p1 p2 h0 n0 v U'.heap L ∧ FrameEnd U o U' L ({ frames := 0, cells := 0, slots := 0, locals := 0 } : Room).cells ({ frames := 0, cells := 0, slots := 0, locals := 0 } : Room).slots) := by
  refine MetFree.of_bodySF (Jvm.Free.JP.mathPlain rfl (by decide +kernel)) hisR ?_
  intro p e s m args below meth c s₁ Bd hml0 hP hK
  obtain ⟨rfl, hZ, hh⟩ := hP
  have hx := Bd.exec
  have hby := Bd.bytes
  have hml : c.maxLocals = 2 := hml0
  have hown : s.vm.findClass "java/lang/Math" = some m.cls := findClass_of_methodNamed Bd.named
  have hnm := (name_of_methodNamed Bd.named Bd.method).1
  have X0 : Stand p l e ({ frames := 0, cells := 0, slots := 0, locals := 0 } : Room) s m #[(.int p1), (.int p2)] below meth c s₁ [] 0 0 := Stand.of_body Bd
  have e0 : s₁.heap = h0 := by rw [← hh, Bd.state]; rfl
  have N0 := Fr.nil n0
  have K0 : Keep h0 h0 [] := Keep.refl _ _
  have pre0 : ∀ t, Steps p.tables e below (s₁.setTop (mkF m 0 #[.val (.int p1), .val (.int p2)] [])) t → Steps p.tables e below (s₁.setTop (entryFrame m #[(.int p1), (.int p2)] 2)) t := fun t k => castTop (ef_9 m p1 p2) k
  refine own_go (S' := fun t => Steps p.tables e below (s₁.setTop (mkF m 0 #[.val (.int p1), .val (.int p2)] [])) t) pre0 ?_
  obtain ⟨u, d_u⟩ : ∃ z : Int32, z = (if p1 < p2 then p2 else p1) := ⟨_, rfl⟩
  have j1 : ∀ t, Steps p.tables e below (s₁.setTop (mkF m 10 #[.val (.int p1), .val (.int p2)] [(.int u)])) t → Steps p.tables e below (s₁.setTop (mkF m 2 #[.val (.int p1), .val (.int p2)] [(.int p2), (.int p1)])) t := by
    intro t k
    by_cases hj2 : p1 < p2
    · have q_u : u = p2 := by rw [d_u, if_pos hj2]
      show Steps p.tables e below (s₁.setTop (mkF m 2 #[.val (.int p1), .val (.int p2)] [(.int p2), (.int p1)])) _
      refine XS.icmpYes X0.here hx rfl (pc0 := 2) (pc' := 9) rfl (hb hby d9_2) rfl (tlt hj2).1 (by decide) (by decide) ?_
      show Steps p.tables e below (s₁.setTop (mkF m 9 #[.val (.int p1), .val (.int p2)] [])) _
      refine XS.iloadN X0.here hx rfl (hb hby d9_9) rfl ?_
      rw [q_u] at k
      exact k
    · have q_u : u = p1 := by rw [d_u, if_neg hj2]
      show Steps p.tables e below (s₁.setTop (mkF m 2 #[.val (.int p1), .val (.int p2)] [(.int p2), (.int p1)])) _
      refine XS.icmpNo X0.here hx rfl (hb hby d9_2) rfl (flt hj2).1 ?_
      show Steps p.tables e below (s₁.setTop (mkF m 5 #[.val (.int p1), .val (.int p2)] [])) _
      refine XS.iloadN X0.here hx rfl (hb hby d9_5) rfl ?_
      show Steps p.tables e below (s₁.setTop (mkF m 6 #[.val (.int p1), .val (.int p2)] [(.int p1)])) _
      refine XS.goto X0.here hx rfl (pc0 := 6) (pc' := 10) rfl (hb hby d9_6) (by decide) (by decide) ?_
      rw [q_u] at k
      exact k
  obtain ⟨fs, hr, hrun, hended, hW, hsame⟩ := X0.leave (v := some (.int u)) (fun h => by rw [Bd.returns] at h; cases h)
  refine ⟨_, _, ?_, hrun, hended, _, _, rfl, ?_, ⟨_, rfl⟩, hW, hsame.mono (by decide) (by decide)⟩
  · show Steps p.tables e below (s₁.setTop (mkF m 0 #[.val (.int p1), .val (.int p2)] [])) _
    refine XS.iloadN X0.here hx rfl (hb hby d9_0) rfl ?_
    show Steps p.tables e below (s₁.setTop (mkF m 1 #[.val (.int p1), .val (.int p2)] [(.int p1)])) _
    refine XS.iloadN X0.here hx rfl (hb hby d9_1) rfl ?_
    show Steps p.tables e below (s₁.setTop (mkF m 2 #[.val (.int p1), .val (.int p2)] [(.int p2), (.int p1)])) _
    refine j1 _ ?_
    show Steps p.tables e below (s₁.setTop (mkF m 10 #[.val (.int p1), .val (.int p2)] [(.int u)])) _
    exact retI X0 hx Bd.returns (hb hby d9_10) hr
  · show Q9 Z p1 p2 h0 n0 _ s₁.heap _
    rw [e0]
    exact ⟨_, rfl, d_u, N0, rfl⟩
theorem pd_1 : parseMethodDescriptor "(II)I" = some ⟨[.int, .int], some .int⟩ := by decide +kernel
theorem pd_2 : parseMethodDescriptor "(II)V" = some ⟨[.int, .int], none⟩ := by decide +kernel
theorem d7_0 : decode prog_179_method_3_code 0 = .ok (.new 9, 3) := by decide +kernel
theorem d7_3 : decode prog_179_method_3_code 3 = .ok (.dup, 1) := by decide +kernel
theorem d7_4 : decode prog_179_method_3_code 4 = .ok (.aload_n 0, 1) := by decide +kernel
theorem d7_5 : decode prog_179_method_3_code 5 = .ok (.getfield 25, 3) := by decide +kernel
theorem d7_8 : decode prog_179_method_3_code 8 = .ok (.aload_n 1, 1) := by decide +kernel
theorem d7_9 : decode prog_179_method_3_code 9 = .ok (.getfield 25, 3) := by decide +kernel
theorem d7_12 : decode prog_179_method_3_code 12 = .ok (.invokestatic 39, 3) := by decide +kernel
theorem d7_15 : decode prog_179_method_3_code 15 = .ok (.aload_n 0, 1) := by decide +kernel
theorem d7_16 : decode prog_179_method_3_code 16 = .ok (.getfield 29, 3) := by decide +kernel
theorem d7_19 : decode prog_179_method_3_code 19 = .ok (.aload_n 1, 1) := by decide +kernel
theorem d7_20 : decode prog_179_method_3_code 20 = .ok (.getfield 29, 3) := by decide +kernel
theorem d7_23 : decode prog_179_method_3_code 23 = .ok (.invokestatic 43, 3) := by decide +kernel
theorem d7_26 : decode prog_179_method_3_code 26 = .ok (.invokespecial 36, 3) := by decide +kernel
theorem d7_29 : decode prog_179_method_3_code 29 = .ok (.areturn, 1) := by decide +kernel
theorem pn_7 : plainName "com/example/types_for_trees/typesfortrees/types/Occurrence" = true := by first | (simp [plainName, overriddenIn]; done) | decide +kernel
theorem ef_7 (m : MethodId) (x0 : Addr) (x1 : Addr) : entryFrame m #[(.ref x0), (.ref x1)] 2 = mkF m 0 #[.val (.ref x0), .val (.ref x1)] [] := by first | (simp [entryFrame, mkF, argsToLocals, Value.category]; done) | rfl
def Q7 (Z : State) (a1 : Addr) (a2 : Addr) (m1 : Int32) (x1 : Int32) (m2 : Int32) (x2 : Int32) (h0 : Heap) (n0 : Nat) (v : Option Value) (h : Heap) (L : List Loc) : Prop := ∃ r : Addr, ∃ mn : Int32, ∃ mx : Int32, v = some (.ref r) ∧ (mn = (if m2 < m1 then m2 else m1) ∧ mx = (if x1 < x2 then x2 else x1)) ∧ h0.size ≤ r ∧ Fr n0 L ∧ Keep h0 h [] ∧ Exa Z h r "com/example/types_for_trees/typesfortrees/types/Occurrence" ∧ Fld Z h r "com/example/types_for_trees/typesfortrees/types/Occurrence" "min" "I" (.int mn) ∧ Fld Z h r "com/example/types_for_trees/typesfortrees/types/Occurrence" "max" "I" (.int mx)
set_option maxRecDepth 65536 in
set_option maxHeartbeats 40000000 in
theorem rm7 (l : Launch) (Z : State) (a0 : Array Value) (hw : ∀ d ∈ tables_1, d.before a0 Z = true) (ws : List Jvm.Cond) (a1 : Addr) (a2 : Addr) (m1 : Int32) (x1 : Int32) (m2 : Int32) (x2 : Int32) (h0 : Heap) (n0 : Nat) (Z0 : n0 ≤ h0.size) (F_a1_min : Fld Z h0 a1 "com/example/types_for_trees/typesfortrees/types/Occurrence" "min" "I" (.int m1)) (F_a1_max : Fld Z h0 a1 "com/example/types_for_trees/typesfortrees/types/Occurrence" "max" "I" (.int x1)) (F_a2_min : Fld Z h0 a2 "com/example/types_for_trees/typesfortrees/types/Occurrence" "min" "I" (.int m2)) (F_a2_max : Fld Z h0 a2 "com/example/types_for_trees/typesfortrees/types/Occurrence" "max" "I" (.int x2)) (PA1 : ¬ (m1 < (0 : Int32))) (PA2 : ¬ (m1 = (2147483647 : Int32))) (PA3 : ¬ (x1 < m1)) (PB1 : ¬ (m2 < (0 : Int32))) (PB2 : ¬ (m2 = (2147483647 : Int32))) (PB3 : ¬ (x2 < m2)) :
    MetFree l (⟨"com/example/types_for_trees/typesfortrees/types/Occurrence", "or", "(Lcom/example/types_for_trees/typesfortrees/types/Occurrence;)Lcom/example/types_for_trees/typesfortrees/types/Occurrence;"⟩ : MethodName) (head1 (Jvm.Cond.code (⟨"com/example/types_for_trees/typesfortrees/types/Occurrence", "or", "(Lcom/example/types_for_trees/typesfortrees/types/Occurrence;)Lcom/example/types_for_trees/typesfortrees/types/Occurrence;"⟩ : MethodName) prog_179_method_3_code 2 (some (.object "com/example/types_for_trees/typesfortrees/types/Occurrence")) :: ws) ({ frames := 3, cells := 1, slots := 2, locals := 39 } : Room)) (fun a U => a = #[(.ref a1), (.ref a2)] ∧ Z.Warmed39 U.vm ∧ U.heap = h0) (fun _ _ _ _ _ => True) (fun _ U o U' => ∃ v L, o = .returned v ∧ Q7 Z a1 a2 m1 x1 m2 x2 h0 n0 v U'.heap L ∧ FrameEnd U o U' L ({ frames := 3, cells := 1, slots := 2, locals := 39 } : Room).cells ({ frames := 3, cells := 1, slots := 2, locals := 39 } : Room).slots) := by
  refine MetFree.of_bodySF (plainFor_of_name pn_7) hisR ?_
  intro p e s m args below meth c s₁ Bd hml0 hP hK
  obtain ⟨rfl, hZ, hh⟩ := hP
  have hx := Bd.exec
  have hby := Bd.bytes
  have hml : c.maxLocals = 2 := hml0
  have hown : s.vm.findClass "com/example/types_for_trees/typesfortrees/types/Occurrence" = some m.cls := findClass_of_methodNamed Bd.named
  have hnm := (name_of_methodNamed Bd.named Bd.method).1
  have X0 : Stand p l e ({ frames := 3, cells := 1, slots := 2, locals := 39 } : Room) s m #[(.ref a1), (.ref a2)] below meth c s₁ [] 0 0 := Stand.of_body Bd
  have e0 : s₁.heap = h0 := by rw [← hh, Bd.state]; rfl
  have N0 := Fr.nil n0
  have K0 : Keep h0 h0 [] := Keep.refl _ _
  have pre0 : ∀ t, Steps p.tables e below (s₁.setTop (mkF m 0 #[.val (.ref a1), .val (.ref a2)] [])) t → Steps p.tables e below (s₁.setTop (entryFrame m #[(.ref a1), (.ref a2)] 2)) t := fun t k => castTop (ef_7 m a1 a2) k
  refine own_go (S' := fun t => Steps p.tables e below (s₁.setTop (mkF m 0 #[.val (.ref a1), .val (.ref a2)] [])) t) pre0 ?_
  obtain ⟨T1, h1, X1, e1, E1, A1, D1, -, st1⟩ := newO X0 hx hZ hown (hw _ (List.mem_of_getElem? (i := 39) rfl)) (hw _ (List.mem_of_getElem? (i := 11) rfl)) (hw _ (List.mem_of_getElem? (i := 12) rfl)) e0 (g := (mkF m 0 #[.val (.ref a1), .val (.ref a2)] [])) rfl (hb hby d7_0) (by decide) (by decide)
  obtain ⟨b1, g1⟩ : ∃ z, z = h0.size := ⟨_, rfl⟩
  rw [← g1] at A1 D1 st1
  have g_b1 : n0 ≤ b1 := Nat.le_trans Z0 (Nat.le_of_eq g1.symm)
  have sz_b1 : h0.size ≤ b1 := Nat.le_trans K0.1 (Nat.le_of_eq g1.symm)
  have ne_a1_b1 : a1 ≠ b1 := Nat.ne_of_lt (Nat.lt_of_lt_of_le F_a1_min.lt (Nat.le_of_eq g1.symm))
  have ne_a2_b1 : a2 ≠ b1 := Nat.ne_of_lt (Nat.lt_of_lt_of_le F_a2_min.lt (Nat.le_of_eq g1.symm))
  have F_a1_min := F_a1_min.ext E1
  have F_a1_max := F_a1_max.ext E1
  have F_a2_min := F_a2_min.ext E1
  have F_a2_max := F_a2_max.ext E1
  have Z0 : n0 ≤ h1.size := Nat.le_trans Z0 E1.1
  have K0 := K0.ext E1
  have E_b1 := A1
  have F_b1_min : Fld Z h1 b1 "com/example/types_for_trees/typesfortrees/types/Occurrence" "min" "I" (.int (0 : Int32)) := D1 (Or.inr (hw _ (List.mem_of_getElem? (i := 26) rfl))) (ty := .int) (by decide)
  have F_b1_max : Fld Z h1 b1 "com/example/types_for_trees/typesfortrees/types/Occurrence" "max" "I" (.int (0 : Int32)) := D1 (Or.inr (hw _ (List.mem_of_getElem? (i := 28) rfl))) (ty := .int) (by decide)
  obtain ⟨T2, X2, e2, st2⟩ := getF X1 hx hZ hown (host := "") (Or.inl (hw _ (List.mem_of_getElem? (i := 25) rfl))) Via.refl e1 F_a1_min (g := (mkF m 5 #[.val (.ref a1), .val (.ref a2)] [(.ref a1), (.ref b1), (.ref b1)])) rfl rfl (hb hby d7_5)
  obtain ⟨T3, X3, e3, st3⟩ := getF X2 hx hZ hown (host := "") (Or.inl (hw _ (List.mem_of_getElem? (i := 25) rfl))) Via.refl e2 F_a2_min (g := (mkF m 9 #[.val (.ref a1), .val (.ref a2)] [(.ref a2), (.int m1), (.ref b1), (.ref b1)])) rfl rfl (hb hby d7_9)
  obtain ⟨_, _, ⟨T4, L4, k4, n4⟩, -, X4, ⟨Lc4, hQ4, l4, y4, z4⟩, st4⟩ := Jvm.LawKit.callS X3 hx (y := (⟨"java/lang/Math", "min", "(II)I"⟩ : MethodName)) hown (mvT hZ (hw _ (List.mem_of_getElem? (i := 40) rfl))) (mvT hZ (hw _ (List.mem_of_getElem? (i := 41) rfl))) (mvT hZ (hw _ (List.mem_of_getElem? (i := 42) rfl))) (mvT hZ (hw _ (List.mem_of_getElem? (i := 43) rfl))) (by decide) (backOf (W := 2) (rm8 l Z a0 hw [] m1 m2 h1 n0 Z0 ) hZ (hw _ (List.mem_of_getElem? (i := 43) rfl)) (hw _ (List.mem_of_getElem? (i := 42) rfl)) (by decide) (by decide)) (g := (mkF m 12 #[.val (.ref a1), .val (.ref a2)] [(.int m2), (.int m1), (.ref b1), (.ref b1)])) rfl (by rw [hml]; rfl) (argsL := [(.int m1), (.int m2)]) (rest := [(.ref b1), (.ref b1)]) (lenOf pd_1 rfl) rfl (by show 2 * 0 + _ ≤ _; exact Nat.le_of_eq rfl) (hb hby d7_12) (fun _ _ => ⟨rfl, e3, (by decide : 1 + 0 ≤ _), (by decide : 2 + 0 ≤ _)⟩)
  dsimp only [Pt.U, Pt.locs, Pt.cells, Pt.slots] at X4 l4 y4 z4 st4 hQ4
  subst l4 y4 z4
  obtain ⟨vmn, rfl, d_vmn, N4q, e4⟩ := hQ4
  have N4 := Fr.app N0 N4q
  obtain ⟨T5, X5, e5, st5⟩ := getF X4 hx hZ hown (host := "") (Or.inl (hw _ (List.mem_of_getElem? (i := 27) rfl))) Via.refl e4 F_a1_max (g := (mkF m 16 #[.val (.ref a1), .val (.ref a2)] [(.ref a1), (.int vmn), (.ref b1), (.ref b1)])) rfl rfl (hb hby d7_16)
  obtain ⟨T6, X6, e6, st6⟩ := getF X5 hx hZ hown (host := "") (Or.inl (hw _ (List.mem_of_getElem? (i := 27) rfl))) Via.refl e5 F_a2_max (g := (mkF m 20 #[.val (.ref a1), .val (.ref a2)] [(.ref a2), (.int x1), (.int vmn), (.ref b1), (.ref b1)])) rfl rfl (hb hby d7_20)
  obtain ⟨_, _, ⟨T7, L7, k7, n7⟩, -, X7, ⟨Lc7, hQ7, l7, y7, z7⟩, st7⟩ := Jvm.LawKit.callS X6 hx (y := (⟨"java/lang/Math", "max", "(II)I"⟩ : MethodName)) hown (mvT hZ (hw _ (List.mem_of_getElem? (i := 44) rfl))) (mvT hZ (hw _ (List.mem_of_getElem? (i := 45) rfl))) (mvT hZ (hw _ (List.mem_of_getElem? (i := 42) rfl))) (mvT hZ (hw _ (List.mem_of_getElem? (i := 46) rfl))) (by decide) (backOf (W := 3) (rm9 l Z a0 hw [] x1 x2 h1 n0 Z0 ) hZ (hw _ (List.mem_of_getElem? (i := 46) rfl)) (hw _ (List.mem_of_getElem? (i := 42) rfl)) (by decide) (by decide)) (g := (mkF m 23 #[.val (.ref a1), .val (.ref a2)] [(.int x2), (.int x1), (.int vmn), (.ref b1), (.ref b1)])) rfl (by rw [hml]; rfl) (argsL := [(.int x1), (.int x2)]) (rest := [(.int vmn), (.ref b1), (.ref b1)]) (lenOf pd_1 rfl) rfl (by show 2 * 0 + _ ≤ _; exact Nat.le_of_eq rfl) (hb hby d7_23) (fun _ _ => ⟨rfl, e6, (by decide : 1 + 0 ≤ _), (by decide : 2 + 0 ≤ _)⟩)
  dsimp only [Pt.U, Pt.locs, Pt.cells, Pt.slots] at X7 l7 y7 z7 st7 hQ7
  subst l7 y7 z7
  obtain ⟨vmx, rfl, d_vmx, N7q, e7⟩ := hQ7
  have N7 := Fr.app N4 N7q
  have OK := own_or m1 x1 m2 x2 vmn vmx d_vmn d_vmx PA1 PA2 PA3 PB1 PB2 PB3
  obtain ⟨_, _, ⟨T8, L8, k8, n8⟩, -, X8, ⟨Lc8, hQ8, l8, y8, z8⟩, st8⟩ := X7.specialBack hx (y := (⟨"com/example/types_for_trees/typesfortrees/types/Occurrence", "<init>", "(II)V"⟩ : MethodName)) rfl hown (mvT hZ (hw _ (List.mem_of_getElem? (i := 47) rfl))) (mvT hZ (hw _ (List.mem_of_getElem? (i := 14) rfl))) (mvT hZ (hw _ (List.mem_of_getElem? (i := 15) rfl))) (by decide) (backOf (W := 1) (rm3 l Z a0 hw [] b1 vmn vmx (.int (0 : Int32)) (.int (0 : Int32)) h1 n0 Z0 E_b1 F_b1_min F_b1_max g_b1 OK.1 OK.2.1 OK.2.2) hZ (hw _ (List.mem_of_getElem? (i := 15) rfl)) (hw _ (List.mem_of_getElem? (i := 12) rfl)) (by decide) (by decide)) (g := (mkF m 26 #[.val (.ref a1), .val (.ref a2)] [(.int vmx), (.int vmn), (.ref b1), (.ref b1)])) rfl (by rw [hml]; rfl) (Steps.refl _) (a := b1) (argsL := [(.int vmn), (.int vmx)]) (rest := [(.ref b1)]) (lenOf pd_2 rfl) rfl (by show 2 * 0 + _ ≤ _; exact Nat.le_of_eq rfl) (hb hby d7_26) (fun _ _ => ⟨rfl, e7, (by decide : 1 + 0 ≤ _), (by decide : 2 + 0 ≤ _)⟩)
  dsimp only [Pt.U, Pt.locs, Pt.cells, Pt.slots] at X8 l8 y8 z8 st8 hQ8
  subst l8 y8 z8
  obtain ⟨rfl, N8q, K8, E_b1_new, F_b1_min_new, F_b1_max_new⟩ := hQ8
  have E_b1 := E_b1.keep K8
  have F_a1_min := F_a1_min.keep K8 (ninS ne_a1_b1 nin0)
  have F_a1_max := F_a1_max.keep K8 (ninS ne_a1_b1 nin0)
  have F_a2_min := F_a2_min.keep K8 (ninS ne_a2_b1 nin0)
  have F_a2_max := F_a2_max.keep K8 (ninS ne_a2_b1 nin0)
  have E_b1 := E_b1_new
  have F_b1_min := F_b1_min_new
  have F_b1_max := F_b1_max_new
  have Z0 : n0 ≤ T8.heap.size := Nat.le_trans Z0 K8.1
  have K0 := K0.trans K8 (allS (Or.inr sz_b1) all0)
  have N8 := Fr.app N7 N8q
  obtain ⟨fs, hr, hrun, hended, hW, hsame⟩ := X8.leave (v := some (.ref b1)) (fun h => by rw [Bd.returns] at h; cases h)
  refine ⟨_, _, ?_, hrun, hended, _, _, rfl, ?_, ⟨_, rfl⟩, hW, hsame.mono (by decide) (by decide)⟩
  · show Steps p.tables e below (s₁.setTop (mkF m 0 #[.val (.ref a1), .val (.ref a2)] [])) _
    refine st1 _ ?_
    show Steps p.tables e below (T1.setTop (mkF m 3 #[.val (.ref a1), .val (.ref a2)] [(.ref b1)])) _
    refine XS.dup X1.here hx rfl (hb hby d7_3) rfl rfl ?_
    show Steps p.tables e below (T1.setTop (mkF m 4 #[.val (.ref a1), .val (.ref a2)] [(.ref b1), (.ref b1)])) _
    refine XS.aloadN X1.here hx rfl (hb hby d7_4) rfl rfl ?_
    show Steps p.tables e below (T1.setTop (mkF m 5 #[.val (.ref a1), .val (.ref a2)] [(.ref a1), (.ref b1), (.ref b1)])) _
    refine st2 _ ?_
    show Steps p.tables e below (T2.setTop (mkF m 8 #[.val (.ref a1), .val (.ref a2)] [(.int m1), (.ref b1), (.ref b1)])) _
    refine XS.aloadN X2.here hx rfl (hb hby d7_8) rfl rfl ?_
    show Steps p.tables e below (T2.setTop (mkF m 9 #[.val (.ref a1), .val (.ref a2)] [(.ref a2), (.int m1), (.ref b1), (.ref b1)])) _
    refine st3 _ ?_
    show Steps p.tables e below (T3.setTop (mkF m 12 #[.val (.ref a1), .val (.ref a2)] [(.int m2), (.int m1), (.ref b1), (.ref b1)])) _
    refine st4 _ ?_
    show Steps p.tables e below (T4.setTop (mkF m 15 #[.val (.ref a1), .val (.ref a2)] [(.int vmn), (.ref b1), (.ref b1)])) _
    refine XS.aloadN X4.here hx rfl (hb hby d7_15) rfl rfl ?_
    show Steps p.tables e below (T4.setTop (mkF m 16 #[.val (.ref a1), .val (.ref a2)] [(.ref a1), (.int vmn), (.ref b1), (.ref b1)])) _
    refine st5 _ ?_
    show Steps p.tables e below (T5.setTop (mkF m 19 #[.val (.ref a1), .val (.ref a2)] [(.int x1), (.int vmn), (.ref b1), (.ref b1)])) _
    refine XS.aloadN X5.here hx rfl (hb hby d7_19) rfl rfl ?_
    show Steps p.tables e below (T5.setTop (mkF m 20 #[.val (.ref a1), .val (.ref a2)] [(.ref a2), (.int x1), (.int vmn), (.ref b1), (.ref b1)])) _
    refine st6 _ ?_
    show Steps p.tables e below (T6.setTop (mkF m 23 #[.val (.ref a1), .val (.ref a2)] [(.int x2), (.int x1), (.int vmn), (.ref b1), (.ref b1)])) _
    refine st7 _ ?_
    show Steps p.tables e below (T7.setTop (mkF m 26 #[.val (.ref a1), .val (.ref a2)] [(.int vmx), (.int vmn), (.ref b1), (.ref b1)])) _
    refine st8.trans ?_
    show Steps p.tables e below (T8.setTop (mkF m 29 #[.val (.ref a1), .val (.ref a2)] [(.ref b1)])) _
    jvm_step X8.here [X8.here.top, hx, (hb hby d7_29), X8.method', Bd.returns, Value.isRef, FieldType.isReference]
    first | (intro acts; rw [hr _ acts rfl rfl rfl]) | rw [hr _ _ rfl rfl rfl]
    exact Steps.refl _
  · show Q7 Z a1 a2 m1 x1 m2 x2 h0 n0 _ T8.heap _
    exact ⟨_, vmn, vmx, rfl, ⟨d_vmn, d_vmx⟩, sz_b1, N8, K0, E_b1, F_b1_min, F_b1_max⟩
theorem d10_0 : decode prog_179_method_15_code 0 = .ok (.aload_n 0, 1) := by decide +kernel
theorem d10_1 : decode prog_179_method_15_code 1 = .ok (.getfield 25, 3) := by decide +kernel
theorem d10_4 : decode prog_179_method_15_code 4 = .ok (.ireturn, 1) := by decide +kernel
theorem pn_10 : plainName "com/example/types_for_trees/typesfortrees/types/Occurrence" = true := by first | (simp [plainName, overriddenIn]; done) | decide +kernel
theorem ef_10 (m : MethodId) (x0 : Addr) : entryFrame m #[(.ref x0)] 1 = mkF m 0 #[.val (.ref x0)] [] := by first | (simp [entryFrame, mkF, argsToLocals, Value.category]; done) | rfl
def Q10 (Z : State) (a1 : Addr) (w : Int32) (h0 : Heap) (n0 : Nat) (v : Option Value) (h : Heap) (L : List Loc) : Prop := ∃ r : Int32, v = some (.int r) ∧ (r = w) ∧ Fr n0 L ∧ h = h0
set_option maxRecDepth 65536 in
set_option maxHeartbeats 40000000 in
theorem rm10 (l : Launch) (Z : State) (a0 : Array Value) (hw : ∀ d ∈ tables_1, d.before a0 Z = true) (ws : List Jvm.Cond) (a1 : Addr) (w : Int32) (h0 : Heap) (n0 : Nat) (Z0 : n0 ≤ h0.size) (F_a1_min : Fld Z h0 a1 "com/example/types_for_trees/typesfortrees/types/Occurrence" "min" "I" (.int w)) :
    MetFree l (⟨"com/example/types_for_trees/typesfortrees/types/Occurrence", "min", "()I"⟩ : MethodName) (head1 (Jvm.Cond.code (⟨"com/example/types_for_trees/typesfortrees/types/Occurrence", "min", "()I"⟩ : MethodName) prog_179_method_15_code 1 (some .int) :: ws) ({ frames := 0, cells := 0, slots := 0, locals := 0 } : Room)) (fun a U => a = #[(.ref a1)] ∧ Z.Warmed39 U.vm ∧ U.heap = h0) (fun _ _ _ _ _ => True) (fun _ U o U' => ∃ v L, o = .returned v ∧ Q10 Z a1 w h0 n0 v U'.heap L ∧ FrameEnd U o U' L ({ frames := 0, cells := 0, slots := 0, locals := 0 } : Room).cells ({ frames := 0, cells := 0, slots := 0, locals := 0 } : Room).slots) := by
  refine MetFree.of_bodySF (plainFor_of_name pn_10) hisR ?_
  intro p e s m args below meth c s₁ Bd hml0 hP hK
  obtain ⟨rfl, hZ, hh⟩ := hP
  have hx := Bd.exec
  have hby := Bd.bytes
  have hml : c.maxLocals = 1 := hml0
  have hown : s.vm.findClass "com/example/types_for_trees/typesfortrees/types/Occurrence" = some m.cls := findClass_of_methodNamed Bd.named
  have hnm := (name_of_methodNamed Bd.named Bd.method).1
  have X0 : Stand p l e ({ frames := 0, cells := 0, slots := 0, locals := 0 } : Room) s m #[(.ref a1)] below meth c s₁ [] 0 0 := Stand.of_body Bd
  have e0 : s₁.heap = h0 := by rw [← hh, Bd.state]; rfl
  have N0 := Fr.nil n0
  have K0 : Keep h0 h0 [] := Keep.refl _ _
  have pre0 : ∀ t, Steps p.tables e below (s₁.setTop (mkF m 0 #[.val (.ref a1)] [])) t → Steps p.tables e below (s₁.setTop (entryFrame m #[(.ref a1)] 1)) t := fun t k => castTop (ef_10 m a1) k
  refine own_go (S' := fun t => Steps p.tables e below (s₁.setTop (mkF m 0 #[.val (.ref a1)] [])) t) pre0 ?_
  obtain ⟨T1, X1, e1, st1⟩ := getF X0 hx hZ hown (host := "") (Or.inl (hw _ (List.mem_of_getElem? (i := 25) rfl))) Via.refl e0 F_a1_min (g := (mkF m 1 #[.val (.ref a1)] [(.ref a1)])) rfl rfl (hb hby d10_1)
  obtain ⟨fs, hr, hrun, hended, hW, hsame⟩ := X1.leave (v := some (.int w)) (fun h => by rw [Bd.returns] at h; cases h)
  refine ⟨_, _, ?_, hrun, hended, _, _, rfl, ?_, ⟨_, rfl⟩, hW, hsame.mono (by decide) (by decide)⟩
  · show Steps p.tables e below (s₁.setTop (mkF m 0 #[.val (.ref a1)] [])) _
    refine XS.aloadN X0.here hx rfl (hb hby d10_0) rfl rfl ?_
    show Steps p.tables e below (s₁.setTop (mkF m 1 #[.val (.ref a1)] [(.ref a1)])) _
    refine st1 _ ?_
    show Steps p.tables e below (T1.setTop (mkF m 4 #[.val (.ref a1)] [(.int w)])) _
    exact retI X1 hx Bd.returns (hb hby d10_4) hr
  · show Q10 Z a1 w h0 n0 _ T1.heap _
    rw [e1]
    exact ⟨_, rfl, rfl, N0, rfl⟩
theorem d11_0 : decode prog_179_method_16_code 0 = .ok (.aload_n 0, 1) := by decide +kernel
theorem d11_1 : decode prog_179_method_16_code 1 = .ok (.getfield 29, 3) := by decide +kernel
theorem d11_4 : decode prog_179_method_16_code 4 = .ok (.ireturn, 1) := by decide +kernel
theorem pn_11 : plainName "com/example/types_for_trees/typesfortrees/types/Occurrence" = true := by first | (simp [plainName, overriddenIn]; done) | decide +kernel
theorem ef_11 (m : MethodId) (x0 : Addr) : entryFrame m #[(.ref x0)] 1 = mkF m 0 #[.val (.ref x0)] [] := by first | (simp [entryFrame, mkF, argsToLocals, Value.category]; done) | rfl
def Q11 (Z : State) (a1 : Addr) (w : Int32) (h0 : Heap) (n0 : Nat) (v : Option Value) (h : Heap) (L : List Loc) : Prop := ∃ r : Int32, v = some (.int r) ∧ (r = w) ∧ Fr n0 L ∧ h = h0
set_option maxRecDepth 65536 in
set_option maxHeartbeats 40000000 in
theorem rm11 (l : Launch) (Z : State) (a0 : Array Value) (hw : ∀ d ∈ tables_1, d.before a0 Z = true) (ws : List Jvm.Cond) (a1 : Addr) (w : Int32) (h0 : Heap) (n0 : Nat) (Z0 : n0 ≤ h0.size) (F_a1_max : Fld Z h0 a1 "com/example/types_for_trees/typesfortrees/types/Occurrence" "max" "I" (.int w)) :
    MetFree l (⟨"com/example/types_for_trees/typesfortrees/types/Occurrence", "max", "()I"⟩ : MethodName) (head1 (Jvm.Cond.code (⟨"com/example/types_for_trees/typesfortrees/types/Occurrence", "max", "()I"⟩ : MethodName) prog_179_method_16_code 1 (some .int) :: ws) ({ frames := 0, cells := 0, slots := 0, locals := 0 } : Room)) (fun a U => a = #[(.ref a1)] ∧ Z.Warmed39 U.vm ∧ U.heap = h0) (fun _ _ _ _ _ => True) (fun _ U o U' => ∃ v L, o = .returned v ∧ Q11 Z a1 w h0 n0 v U'.heap L ∧ FrameEnd U o U' L ({ frames := 0, cells := 0, slots := 0, locals := 0 } : Room).cells ({ frames := 0, cells := 0, slots := 0, locals := 0 } : Room).slots) := by
  refine MetFree.of_bodySF (plainFor_of_name pn_11) hisR ?_
  intro p e s m args below meth c s₁ Bd hml0 hP hK
  obtain ⟨rfl, hZ, hh⟩ := hP
  have hx := Bd.exec
  have hby := Bd.bytes
  have hml : c.maxLocals = 1 := hml0
  have hown : s.vm.findClass "com/example/types_for_trees/typesfortrees/types/Occurrence" = some m.cls := findClass_of_methodNamed Bd.named
  have hnm := (name_of_methodNamed Bd.named Bd.method).1
  have X0 : Stand p l e ({ frames := 0, cells := 0, slots := 0, locals := 0 } : Room) s m #[(.ref a1)] below meth c s₁ [] 0 0 := Stand.of_body Bd
  have e0 : s₁.heap = h0 := by rw [← hh, Bd.state]; rfl
  have N0 := Fr.nil n0
  have K0 : Keep h0 h0 [] := Keep.refl _ _
  have pre0 : ∀ t, Steps p.tables e below (s₁.setTop (mkF m 0 #[.val (.ref a1)] [])) t → Steps p.tables e below (s₁.setTop (entryFrame m #[(.ref a1)] 1)) t := fun t k => castTop (ef_11 m a1) k
  refine own_go (S' := fun t => Steps p.tables e below (s₁.setTop (mkF m 0 #[.val (.ref a1)] [])) t) pre0 ?_
  obtain ⟨T1, X1, e1, st1⟩ := getF X0 hx hZ hown (host := "") (Or.inl (hw _ (List.mem_of_getElem? (i := 27) rfl))) Via.refl e0 F_a1_max (g := (mkF m 1 #[.val (.ref a1)] [(.ref a1)])) rfl rfl (hb hby d11_1)
  obtain ⟨fs, hr, hrun, hended, hW, hsame⟩ := X1.leave (v := some (.int w)) (fun h => by rw [Bd.returns] at h; cases h)
  refine ⟨_, _, ?_, hrun, hended, _, _, rfl, ?_, ⟨_, rfl⟩, hW, hsame.mono (by decide) (by decide)⟩
  · show Steps p.tables e below (s₁.setTop (mkF m 0 #[.val (.ref a1)] [])) _
    refine XS.aloadN X0.here hx rfl (hb hby d11_0) rfl rfl ?_
    show Steps p.tables e below (s₁.setTop (mkF m 1 #[.val (.ref a1)] [(.ref a1)])) _
    refine st1 _ ?_
    show Steps p.tables e below (T1.setTop (mkF m 4 #[.val (.ref a1)] [(.int w)])) _
    exact retI X1 hx Bd.returns (hb hby d11_4) hr
  · show Q11 Z a1 w h0 n0 _ T1.heap _
    rw [e1]
    exact ⟨_, rfl, rfl, N0, rfl⟩
theorem pd_3 : parseMethodDescriptor "(I)I" = some ⟨[.int], some .int⟩ := by decide +kernel
theorem pd_4 : parseMethodDescriptor "(Lcom/example/types_for_trees/typesfortrees/types/Occurrence;)Z" = some ⟨[(.object "com/example/types_for_trees/typesfortrees/types/Occurrence")], some .boolean⟩ := by decide +kernel
theorem pd_5 : parseMethodDescriptor "(Lcom/example/types_for_trees/typesfortrees/types/Occurrence;)Lcom/example/types_for_trees/typesfortrees/types/Occurrence;" = some ⟨[(.object "com/example/types_for_trees/typesfortrees/types/Occurrence")], some (.object "com/example/types_for_trees/typesfortrees/types/Occurrence")⟩ := by decide +kernel
theorem pd_6 : parseMethodDescriptor "()I" = some ⟨[], some .int⟩ := by decide +kernel
theorem pn_0 : plainName "com/example/types_for_trees/typesfortrees/types/OccurrenceWithinPinLaw" = true := by first | (simp [plainName, overriddenIn]; done) | decide +kernel
theorem ef_0 (m : MethodId) (x0 : Int32) (x1 : Int32) (x2 : Int32) (x3 : Int32) : entryFrame m #[(.int x0), (.int x1), (.int x2), (.int x3)] maxLocals = mkF m 0 #[.val (.int x0), .val (.int x1), .val (.int x2), .val (.int x3), .unset, .unset, .unset, .unset, .unset, .unset, .unset, .unset, .unset] [] := by first | (simp [entryFrame, mkF, argsToLocals, Value.category, maxLocals]; done) | rfl
def Q0 (Z : State) (p1 : Int32) (p2 : Int32) (p3 : Int32) (p4 : Int32) (h0 : Heap) (n0 : Nat) (v : Option Value) (h : Heap) (L : List Loc) : Prop := v = some (.int 1) ∧ Fr n0 L
set_option maxRecDepth 65536 in
set_option maxHeartbeats 40000000 in
theorem rm0 (l : Launch) (Z : State) (a0 : Array Value) (hw : ∀ d ∈ tables_1, d.before a0 Z = true) (ws : List Jvm.Cond) (p1 : Int32) (p2 : Int32) (p3 : Int32) (p4 : Int32) (h0 : Heap) (n0 : Nat) (Z0 : n0 ≤ h0.size) :
    MetFree l x (head1 (Jvm.Cond.code x code maxLocals ret :: ws) room_1) (fun a U => a = #[(.int p1), (.int p2), (.int p3), (.int p4)] ∧ Z.Warmed39 U.vm ∧ U.heap = h0) (fun _ _ _ _ _ => True) (fun _ U o U' => ∃ v L, o = .returned v ∧ Q0 Z p1 p2 p3 p4 h0 n0 v U'.heap L ∧ FrameEnd U o U' L room_1.cells room_1.slots) := by
  refine MetFree.of_bodySF (plainFor_of_name pn_0) hisR ?_
  intro p e s m args below meth c s₁ Bd hml0 hP hK
  obtain ⟨rfl, hZ, hh⟩ := hP
  have hx := Bd.exec
  have hby := Bd.bytes
  have hml : c.maxLocals = 13 := hml0
  have hown : s.vm.findClass "com/example/types_for_trees/typesfortrees/types/OccurrenceWithinPinLaw" = some m.cls := findClass_of_methodNamed Bd.named
  have hnm := (name_of_methodNamed Bd.named Bd.method).1
  have X0 : Stand p l e room_1 s m #[(.int p1), (.int p2), (.int p3), (.int p4)] below meth c s₁ [] 0 0 := Stand.of_body Bd
  have e0 : s₁.heap = h0 := by rw [← hh, Bd.state]; rfl
  have N0 := Fr.nil n0
  have K0 : Keep h0 h0 [] := Keep.refl _ _
  have pre0 : ∀ t, Steps p.tables e below (s₁.setTop (mkF m 0 #[.val (.int p1), .val (.int p2), .val (.int p3), .val (.int p4), .unset, .unset, .unset, .unset, .unset, .unset, .unset, .unset, .unset] [])) t → Steps p.tables e below (s₁.setTop (entryFrame m #[(.int p1), (.int p2), (.int p3), (.int p4)] maxLocals)) t := fun t k => castTop (ef_0 m p1 p2 p3 p4) k
  refine own_go (S' := fun t => Steps p.tables e below (s₁.setTop (mkF m 0 #[.val (.int p1), .val (.int p2), .val (.int p3), .val (.int p4), .unset, .unset, .unset, .unset, .unset, .unset, .unset, .unset, .unset] [])) t) pre0 ?_
  obtain ⟨_, _, ⟨T1, L1, k1, n1⟩, -, X1, ⟨Lc1, hQ1, l1, y1, z1⟩, st1⟩ := Jvm.LawKit.callS X0 hx (y := (⟨"com/example/types_for_trees/typesfortrees/types/OccurrenceWithinPinLaw", "lower", "(I)I"⟩ : MethodName)) hown (mvT hZ (hw _ (List.mem_of_getElem? (i := 0) rfl))) (mvT hZ (hw _ (List.mem_of_getElem? (i := 1) rfl))) (mvT hZ (hw _ (List.mem_of_getElem? (i := 2) rfl))) (mvT hZ (hw _ (List.mem_of_getElem? (i := 3) rfl))) (by decide) (backOf (W := 0) (rm1 l Z a0 hw [] p1 h0 n0 Z0 ) hZ (hw _ (List.mem_of_getElem? (i := 3) rfl)) (hw _ (List.mem_of_getElem? (i := 2) rfl)) (by decide) (by decide)) (g := (mkF m 1 #[.val (.int p1), .val (.int p2), .val (.int p3), .val (.int p4), .unset, .unset, .unset, .unset, .unset, .unset, .unset, .unset, .unset] [(.int p1)])) rfl (by rw [hml]; rfl) (argsL := [(.int p1)]) (rest := []) (lenOf pd_3 rfl) rfl (by show 2 * 0 + _ ≤ _; exact Nat.le_of_eq rfl) (hb hby at_1) (fun _ _ => ⟨rfl, e0, (by decide : 0 + 0 ≤ _), (by decide : 0 + 0 ≤ _)⟩)
  dsimp only [Pt.U, Pt.locs, Pt.cells, Pt.slots] at X1 l1 y1 z1 st1 hQ1
  subst l1 y1 z1
  obtain ⟨la, rfl, d_la, N1q, e1⟩ := hQ1
  have N1 := Fr.app N0 N1q
  have RA := own_lower p1 la d_la
  obtain ⟨_, _, ⟨T2, L2, k2, n2⟩, -, X2, ⟨Lc2, hQ2, l2, y2, z2⟩, st2⟩ := Jvm.LawKit.callS X1 hx (y := (⟨"com/example/types_for_trees/typesfortrees/types/OccurrenceWithinPinLaw", "upper", "(II)I"⟩ : MethodName)) hown (mvT hZ (hw _ (List.mem_of_getElem? (i := 5) rfl))) (mvT hZ (hw _ (List.mem_of_getElem? (i := 6) rfl))) (mvT hZ (hw _ (List.mem_of_getElem? (i := 2) rfl))) (mvT hZ (hw _ (List.mem_of_getElem? (i := 7) rfl))) (by decide) (backOf (W := 0) (rm2 l Z a0 hw [] la p2 h0 n0 Z0 (own_span0 la RA)) hZ (hw _ (List.mem_of_getElem? (i := 7) rfl)) (hw _ (List.mem_of_getElem? (i := 2) rfl)) (by decide) (by decide)) (g := (mkF m 9 #[.val (.int p1), .val (.int p2), .val (.int p3), .val (.int p4), .val (.int la), .unset, .unset, .unset, .unset, .unset, .unset, .unset, .unset] [(.int p2), (.int la)])) rfl (by rw [hml]; rfl) (argsL := [(.int la), (.int p2)]) (rest := []) (lenOf pd_1 rfl) rfl (by show 2 * 0 + _ ≤ _; exact Nat.le_of_eq rfl) (hb hby at_9) (fun _ _ => ⟨rfl, e1, (by decide : 0 + 0 ≤ _), (by decide : 0 + 0 ≤ _)⟩)
  dsimp only [Pt.U, Pt.locs, Pt.cells, Pt.slots] at X2 l2 y2 z2 st2 hQ2
  subst l2 y2 z2
  obtain ⟨ua, rfl, d_ua, N2q, e2⟩ := hQ2
  have N2 := Fr.app N1 N2q
  obtain ⟨_, _, ⟨T3, L3, k3, n3⟩, -, X3, ⟨Lc3, hQ3, l3, y3, z3⟩, st3⟩ := Jvm.LawKit.callS X2 hx (y := (⟨"com/example/types_for_trees/typesfortrees/types/OccurrenceWithinPinLaw", "lower", "(I)I"⟩ : MethodName)) hown (mvT hZ (hw _ (List.mem_of_getElem? (i := 0) rfl))) (mvT hZ (hw _ (List.mem_of_getElem? (i := 1) rfl))) (mvT hZ (hw _ (List.mem_of_getElem? (i := 2) rfl))) (mvT hZ (hw _ (List.mem_of_getElem? (i := 3) rfl))) (by decide) (backOf (W := 0) (rm1 l Z a0 hw [] p3 h0 n0 Z0 ) hZ (hw _ (List.mem_of_getElem? (i := 3) rfl)) (hw _ (List.mem_of_getElem? (i := 2) rfl)) (by decide) (by decide)) (g := (mkF m 15 #[.val (.int p1), .val (.int p2), .val (.int p3), .val (.int p4), .val (.int la), .val (.int ua), .unset, .unset, .unset, .unset, .unset, .unset, .unset] [(.int p3)])) rfl (by rw [hml]; rfl) (argsL := [(.int p3)]) (rest := []) (lenOf pd_3 rfl) rfl (by show 2 * 0 + _ ≤ _; exact Nat.le_of_eq rfl) (hb hby at_15) (fun _ _ => ⟨rfl, e2, (by decide : 0 + 0 ≤ _), (by decide : 0 + 0 ≤ _)⟩)
  dsimp only [Pt.U, Pt.locs, Pt.cells, Pt.slots] at X3 l3 y3 z3 st3 hQ3
  subst l3 y3 z3
  obtain ⟨lb, rfl, d_lb, N3q, e3⟩ := hQ3
  have N3 := Fr.app N2 N3q
  have RB := own_lower p3 lb d_lb
  obtain ⟨_, _, ⟨T4, L4, k4, n4⟩, -, X4, ⟨Lc4, hQ4, l4, y4, z4⟩, st4⟩ := Jvm.LawKit.callS X3 hx (y := (⟨"com/example/types_for_trees/typesfortrees/types/OccurrenceWithinPinLaw", "upper", "(II)I"⟩ : MethodName)) hown (mvT hZ (hw _ (List.mem_of_getElem? (i := 5) rfl))) (mvT hZ (hw _ (List.mem_of_getElem? (i := 6) rfl))) (mvT hZ (hw _ (List.mem_of_getElem? (i := 2) rfl))) (mvT hZ (hw _ (List.mem_of_getElem? (i := 7) rfl))) (by decide) (backOf (W := 0) (rm2 l Z a0 hw [] lb p4 h0 n0 Z0 (own_span0 lb RB)) hZ (hw _ (List.mem_of_getElem? (i := 7) rfl)) (hw _ (List.mem_of_getElem? (i := 2) rfl)) (by decide) (by decide)) (g := (mkF m 23 #[.val (.int p1), .val (.int p2), .val (.int p3), .val (.int p4), .val (.int la), .val (.int ua), .val (.int lb), .unset, .unset, .unset, .unset, .unset, .unset] [(.int p4), (.int lb)])) rfl (by rw [hml]; rfl) (argsL := [(.int lb), (.int p4)]) (rest := []) (lenOf pd_1 rfl) rfl (by show 2 * 0 + _ ≤ _; exact Nat.le_of_eq rfl) (hb hby at_23) (fun _ _ => ⟨rfl, e3, (by decide : 0 + 0 ≤ _), (by decide : 0 + 0 ≤ _)⟩)
  dsimp only [Pt.U, Pt.locs, Pt.cells, Pt.slots] at X4 l4 y4 z4 st4 hQ4
  subst l4 y4 z4
  obtain ⟨ub, rfl, d_ub, N4q, e4⟩ := hQ4
  have N4 := Fr.app N3 N4q
  have OA := own_ok la ua RA (own_upper la p2 ua RA d_ua)
  have OB := own_ok lb ub RB (own_upper lb p4 ub RB d_ub)
  obtain ⟨T5, h5, X5, e5, E5, A5, D5, -, st5⟩ := newO X4 hx hZ hown (hw _ (List.mem_of_getElem? (i := 10) rfl)) (hw _ (List.mem_of_getElem? (i := 11) rfl)) (hw _ (List.mem_of_getElem? (i := 12) rfl)) e4 (g := (mkF m 28 #[.val (.int p1), .val (.int p2), .val (.int p3), .val (.int p4), .val (.int la), .val (.int ua), .val (.int lb), .val (.int ub), .unset, .unset, .unset, .unset, .unset] [])) rfl (hb hby at_28) (by decide) (by decide)
  obtain ⟨b5, g5⟩ : ∃ z, z = h0.size := ⟨_, rfl⟩
  rw [← g5] at A5 D5 st5
  have g_b5 : n0 ≤ b5 := Nat.le_trans Z0 (Nat.le_of_eq g5.symm)
  have sz_b5 : h0.size ≤ b5 := Nat.le_trans K0.1 (Nat.le_of_eq g5.symm)
  have Z0 : n0 ≤ h5.size := Nat.le_trans Z0 E5.1
  have K0 := K0.ext E5
  have E_b5 := A5
  have F_b5_min : Fld Z h5 b5 "com/example/types_for_trees/typesfortrees/types/Occurrence" "min" "I" (.int (0 : Int32)) := D5 (Or.inr (hw _ (List.mem_of_getElem? (i := 26) rfl))) (ty := .int) (by decide)
  have F_b5_max : Fld Z h5 b5 "com/example/types_for_trees/typesfortrees/types/Occurrence" "max" "I" (.int (0 : Int32)) := D5 (Or.inr (hw _ (List.mem_of_getElem? (i := 28) rfl))) (ty := .int) (by decide)
  obtain ⟨_, _, ⟨T6, L6, k6, n6⟩, -, X6, ⟨Lc6, hQ6, l6, y6, z6⟩, st6⟩ := X5.specialBack hx (y := (⟨"com/example/types_for_trees/typesfortrees/types/Occurrence", "<init>", "(II)V"⟩ : MethodName)) rfl hown (mvT hZ (hw _ (List.mem_of_getElem? (i := 13) rfl))) (mvT hZ (hw _ (List.mem_of_getElem? (i := 14) rfl))) (mvT hZ (hw _ (List.mem_of_getElem? (i := 15) rfl))) (by decide) (backOf (W := 1) (rm3 l Z a0 hw [] b5 la ua (.int (0 : Int32)) (.int (0 : Int32)) h5 n0 Z0 E_b5 F_b5_min F_b5_max g_b5 OA.1 OA.2.1 OA.2.2) hZ (hw _ (List.mem_of_getElem? (i := 15) rfl)) (hw _ (List.mem_of_getElem? (i := 12) rfl)) (by decide) (by decide)) (g := (mkF m 36 #[.val (.int p1), .val (.int p2), .val (.int p3), .val (.int p4), .val (.int la), .val (.int ua), .val (.int lb), .val (.int ub), .unset, .unset, .unset, .unset, .unset] [(.int ua), (.int la), (.ref b5), (.ref b5)])) rfl (by rw [hml]; rfl) (Steps.refl _) (a := b5) (argsL := [(.int la), (.int ua)]) (rest := [(.ref b5)]) (lenOf pd_2 rfl) rfl (by show 2 * 0 + _ ≤ _; exact Nat.le_of_eq rfl) (hb hby at_36) (fun _ _ => ⟨rfl, e5, (by decide : 1 + 0 ≤ _), (by decide : 2 + 0 ≤ _)⟩)
  dsimp only [Pt.U, Pt.locs, Pt.cells, Pt.slots] at X6 l6 y6 z6 st6 hQ6
  subst l6 y6 z6
  obtain ⟨rfl, N6q, K6, E_b5_new, F_b5_min_new, F_b5_max_new⟩ := hQ6
  have E_b5 := E_b5.keep K6
  have E_b5 := E_b5_new
  have F_b5_min := F_b5_min_new
  have F_b5_max := F_b5_max_new
  have Z0 : n0 ≤ T6.heap.size := Nat.le_trans Z0 K6.1
  have K0 := K0.trans K6 (allS (Or.inr sz_b5) all0)
  have N6 := Fr.app N4 N6q
  obtain ⟨T7, h7, X7, e7, E7, A7, D7, -, st7⟩ := newO X6 hx hZ hown (hw _ (List.mem_of_getElem? (i := 10) rfl)) (hw _ (List.mem_of_getElem? (i := 11) rfl)) (hw _ (List.mem_of_getElem? (i := 12) rfl)) rfl (g := (mkF m 41 #[.val (.int p1), .val (.int p2), .val (.int p3), .val (.int p4), .val (.int la), .val (.int ua), .val (.int lb), .val (.int ub), .val (.ref b5), .unset, .unset, .unset, .unset] [])) rfl (hb hby at_41) (by decide) (by decide)
  obtain ⟨b7, g7⟩ : ∃ z, z = T6.heap.size := ⟨_, rfl⟩
  rw [← g7] at A7 D7 st7
  have g_b7 : n0 ≤ b7 := Nat.le_trans Z0 (Nat.le_of_eq g7.symm)
  have sz_b7 : h0.size ≤ b7 := Nat.le_trans K0.1 (Nat.le_of_eq g7.symm)
  have ne_b5_b7 : b5 ≠ b7 := Nat.ne_of_lt (Nat.lt_of_lt_of_le E_b5.lt (Nat.le_of_eq g7.symm))
  have E_b5 := E_b5.ext E7
  have F_b5_min := F_b5_min.ext E7
  have F_b5_max := F_b5_max.ext E7
  have Z0 : n0 ≤ h7.size := Nat.le_trans Z0 E7.1
  have K0 := K0.ext E7
  have E_b7 := A7
  have F_b7_min : Fld Z h7 b7 "com/example/types_for_trees/typesfortrees/types/Occurrence" "min" "I" (.int (0 : Int32)) := D7 (Or.inr (hw _ (List.mem_of_getElem? (i := 26) rfl))) (ty := .int) (by decide)
  have F_b7_max : Fld Z h7 b7 "com/example/types_for_trees/typesfortrees/types/Occurrence" "max" "I" (.int (0 : Int32)) := D7 (Or.inr (hw _ (List.mem_of_getElem? (i := 28) rfl))) (ty := .int) (by decide)
  obtain ⟨_, _, ⟨T8, L8, k8, n8⟩, -, X8, ⟨Lc8, hQ8, l8, y8, z8⟩, st8⟩ := X7.specialBack hx (y := (⟨"com/example/types_for_trees/typesfortrees/types/Occurrence", "<init>", "(II)V"⟩ : MethodName)) rfl hown (mvT hZ (hw _ (List.mem_of_getElem? (i := 13) rfl))) (mvT hZ (hw _ (List.mem_of_getElem? (i := 14) rfl))) (mvT hZ (hw _ (List.mem_of_getElem? (i := 15) rfl))) (by decide) (backOf (W := 1) (rm3 l Z a0 hw [] b7 lb ub (.int (0 : Int32)) (.int (0 : Int32)) h7 n0 Z0 E_b7 F_b7_min F_b7_max g_b7 OB.1 OB.2.1 OB.2.2) hZ (hw _ (List.mem_of_getElem? (i := 15) rfl)) (hw _ (List.mem_of_getElem? (i := 12) rfl)) (by decide) (by decide)) (g := (mkF m 49 #[.val (.int p1), .val (.int p2), .val (.int p3), .val (.int p4), .val (.int la), .val (.int ua), .val (.int lb), .val (.int ub), .val (.ref b5), .unset, .unset, .unset, .unset] [(.int ub), (.int lb), (.ref b7), (.ref b7)])) rfl (by rw [hml]; rfl) (Steps.refl _) (a := b7) (argsL := [(.int lb), (.int ub)]) (rest := [(.ref b7)]) (lenOf pd_2 rfl) rfl (by show 2 * 0 + _ ≤ _; exact Nat.le_of_eq rfl) (hb hby at_49) (fun _ _ => ⟨rfl, e7, (by decide : 2 + 0 ≤ _), (by decide : 4 + 0 ≤ _)⟩)
  dsimp only [Pt.U, Pt.locs, Pt.cells, Pt.slots] at X8 l8 y8 z8 st8 hQ8
  subst l8 y8 z8
  obtain ⟨rfl, N8q, K8, E_b7_new, F_b7_min_new, F_b7_max_new⟩ := hQ8
  have E_b5 := E_b5.keep K8
  have E_b7 := E_b7.keep K8
  have F_b5_min := F_b5_min.keep K8 (ninS ne_b5_b7 nin0)
  have F_b5_max := F_b5_max.keep K8 (ninS ne_b5_b7 nin0)
  have E_b7 := E_b7_new
  have F_b7_min := F_b7_min_new
  have F_b7_max := F_b7_max_new
  have Z0 : n0 ≤ T8.heap.size := Nat.le_trans Z0 K8.1
  have K0 := K0.trans K8 (allS (Or.inr sz_b7) all0)
  have N8 := Fr.app N6 N8q
  obtain ⟨cq9, kq9, q9a, q9b, q9c⟩ := isOf hZ rfl E_b5
  obtain ⟨_, _, ⟨T9, L9, k9, n9⟩, -, X9, ⟨Lc9, hQ9, l9, y9, z9⟩, st9⟩ := X8.virtualBack hx (y := (⟨"com/example/types_for_trees/typesfortrees/types/Occurrence", "within", "(Lcom/example/types_for_trees/typesfortrees/types/Occurrence;)Z"⟩ : MethodName)) (z := (⟨"com/example/types_for_trees/typesfortrees/types/Occurrence", "within", "(Lcom/example/types_for_trees/typesfortrees/types/Occurrence;)Z"⟩ : MethodName)) hown (mvT hZ (hw _ (List.mem_of_getElem? (i := 29) rfl))) (mvT hZ (hw _ (List.mem_of_getElem? (i := 30) rfl))) (notFace_of_selects (args := #[]) (mvT hZ (hw _ (List.mem_of_getElem? (i := 32) rfl)))) (mvT hZ (hw _ (List.mem_of_getElem? (i := 32) rfl))) (mvT hZ (hw _ (List.mem_of_getElem? (i := 31) rfl))) (by decide) (backOf (W := 0) (rm6 l Z a0 hw [] b5 b7 la ua lb ub T8.heap n0 Z0 F_b5_min F_b5_max F_b7_min F_b7_max) hZ (hw _ (List.mem_of_getElem? (i := 33) rfl)) (hw _ (List.mem_of_getElem? (i := 12) rfl)) (by decide) (by decide)) q9a q9c (g := (mkF m 58 #[.val (.int p1), .val (.int p2), .val (.int p3), .val (.int p4), .val (.int la), .val (.int ua), .val (.int lb), .val (.int ub), .val (.ref b5), .val (.ref b7), .unset, .unset, .unset] [(.ref b7), (.ref b5)])) rfl (by rw [hml]; rfl) (Steps.refl _) (argsL := [(.ref b7)]) (rest := []) (lenOf pd_4 rfl) rfl (by show 2 * 0 + _ ≤ _; exact Nat.le_of_eq rfl) (hb hby at_58) (fun _ _ => ⟨rfl, rfl, (by decide : 2 + 0 ≤ _), (by decide : 4 + 0 ≤ _)⟩)
  dsimp only [Pt.U, Pt.locs, Pt.cells, Pt.slots] at X9 l9 y9 z9 st9 hQ9
  subst l9 y9 z9
  obtain ⟨got, rfl, d_got, N9q, e9⟩ := hQ9
  have N9 := Fr.app N8 N9q
  obtain ⟨cq10, kq10, q10a, q10b, q10c⟩ := isOf hZ e9 E_b5
  obtain ⟨_, _, ⟨T10, L10, k10, n10⟩, -, X10, ⟨Lc10, hQ10, l10, y10, z10⟩, st10⟩ := X9.virtualBack hx (y := (⟨"com/example/types_for_trees/typesfortrees/types/Occurrence", "or", "(Lcom/example/types_for_trees/typesfortrees/types/Occurrence;)Lcom/example/types_for_trees/typesfortrees/types/Occurrence;"⟩ : MethodName)) (z := (⟨"com/example/types_for_trees/typesfortrees/types/Occurrence", "or", "(Lcom/example/types_for_trees/typesfortrees/types/Occurrence;)Lcom/example/types_for_trees/typesfortrees/types/Occurrence;"⟩ : MethodName)) hown (mvT hZ (hw _ (List.mem_of_getElem? (i := 34) rfl))) (mvT hZ (hw _ (List.mem_of_getElem? (i := 35) rfl))) (notFace_of_selects (args := #[]) (mvT hZ (hw _ (List.mem_of_getElem? (i := 37) rfl)))) (mvT hZ (hw _ (List.mem_of_getElem? (i := 37) rfl))) (mvT hZ (hw _ (List.mem_of_getElem? (i := 36) rfl))) (by decide) (backOf (W := 0) (rm7 l Z a0 hw [] b5 b7 la ua lb ub T8.heap n0 Z0 F_b5_min F_b5_max F_b7_min F_b7_max OA.1 OA.2.1 OA.2.2 OB.1 OB.2.1 OB.2.2) hZ (hw _ (List.mem_of_getElem? (i := 38) rfl)) (hw _ (List.mem_of_getElem? (i := 12) rfl)) (by decide) (by decide)) q10a q10c (g := (mkF m 67 #[.val (.int p1), .val (.int p2), .val (.int p3), .val (.int p4), .val (.int la), .val (.int ua), .val (.int lb), .val (.int ub), .val (.ref b5), .val (.ref b7), .val (.int got), .unset, .unset] [(.ref b7), (.ref b5)])) rfl (by rw [hml]; rfl) (Steps.refl _) (argsL := [(.ref b7)]) (rest := []) (lenOf pd_5 rfl) rfl (by show 2 * 0 + _ ≤ _; exact Nat.le_of_eq rfl) (hb hby at_67) (fun _ _ => ⟨rfl, e9, (by decide : 2 + 1 ≤ _), (by decide : 4 + 2 ≤ _)⟩)
  dsimp only [Pt.U, Pt.locs, Pt.cells, Pt.slots] at X10 l10 y10 z10 st10 hQ10
  subst l10 y10 z10
  have lt10_b5 : b5 < T8.heap.size := E_b5.lt
  have lt10_b7 : b7 < T8.heap.size := E_b7.lt
  obtain ⟨bj, mn_10, mx_10, rfl, d_bj, sz10, N10q, K10, E_bj_new, F_bj_min_new, F_bj_max_new⟩ := hQ10
  have E_b5 := E_b5.keep K10
  have E_b7 := E_b7.keep K10
  have F_b5_min := F_b5_min.keep K10 nin0
  have F_b5_max := F_b5_max.keep K10 nin0
  have F_b7_min := F_b7_min.keep K10 nin0
  have F_b7_max := F_b7_max.keep K10 nin0
  have E_bj := E_bj_new
  have F_bj_min := F_bj_min_new
  have F_bj_max := F_bj_max_new
  have g_bj : n0 ≤ bj := Nat.le_trans Z0 sz10
  have sz_bj : h0.size ≤ bj := Nat.le_trans K0.1 sz10
  have ne_b5_bj : b5 ≠ bj := Nat.ne_of_lt (Nat.lt_of_lt_of_le lt10_b5 sz10)
  have ne_b7_bj : b7 ≠ bj := Nat.ne_of_lt (Nat.lt_of_lt_of_le lt10_b7 sz10)
  have Z0 : n0 ≤ T10.heap.size := Nat.le_trans Z0 K10.1
  have K0 := K0.trans K10 all0
  have N10 := Fr.app N9 N10q
  obtain ⟨cq11, kq11, q11a, q11b, q11c⟩ := isOf hZ rfl E_bj
  obtain ⟨_, _, ⟨T11, L11, k11, n11⟩, -, X11, ⟨Lc11, hQ11, l11, y11, z11⟩, st11⟩ := X10.virtualBack hx (y := (⟨"com/example/types_for_trees/typesfortrees/types/Occurrence", "min", "()I"⟩ : MethodName)) (z := (⟨"com/example/types_for_trees/typesfortrees/types/Occurrence", "min", "()I"⟩ : MethodName)) hown (mvT hZ (hw _ (List.mem_of_getElem? (i := 48) rfl))) (mvT hZ (hw _ (List.mem_of_getElem? (i := 49) rfl))) (notFace_of_selects (args := #[]) (mvT hZ (hw _ (List.mem_of_getElem? (i := 51) rfl)))) (mvT hZ (hw _ (List.mem_of_getElem? (i := 51) rfl))) (mvT hZ (hw _ (List.mem_of_getElem? (i := 50) rfl))) (by decide) (backOf (W := 0) (rm10 l Z a0 hw [] bj mn_10 T10.heap n0 Z0 F_bj_min) hZ (hw _ (List.mem_of_getElem? (i := 52) rfl)) (hw _ (List.mem_of_getElem? (i := 12) rfl)) (by decide) (by decide)) q11a q11c (g := (mkF m 74 #[.val (.int p1), .val (.int p2), .val (.int p3), .val (.int p4), .val (.int la), .val (.int ua), .val (.int lb), .val (.int ub), .val (.ref b5), .val (.ref b7), .val (.int got), .val (.ref bj), .unset] [(.ref bj)])) rfl (by rw [hml]; rfl) (Steps.refl _) (argsL := []) (rest := []) (lenOf pd_6 rfl) rfl (by show 2 * 0 + _ ≤ _; exact Nat.le_of_eq rfl) (hb hby at_74) (fun _ _ => ⟨rfl, rfl, (by decide : 3 + 0 ≤ _), (by decide : 6 + 0 ≤ _)⟩)
  dsimp only [Pt.U, Pt.locs, Pt.cells, Pt.slots] at X11 l11 y11 z11 st11 hQ11
  subst l11 y11 z11
  obtain ⟨jm, rfl, d_jm, N11q, e11⟩ := hQ11
  have N11 := Fr.app N10 N11q
  obtain ⟨cq12, kq12, q12a, q12b, q12c⟩ := isOf hZ e11 E_b7
  obtain ⟨_, _, ⟨T12, L12, k12, n12⟩, -, X12, ⟨Lc12, hQ12, l12, y12, z12⟩, st12⟩ := X11.virtualBack hx (y := (⟨"com/example/types_for_trees/typesfortrees/types/Occurrence", "min", "()I"⟩ : MethodName)) (z := (⟨"com/example/types_for_trees/typesfortrees/types/Occurrence", "min", "()I"⟩ : MethodName)) hown (mvT hZ (hw _ (List.mem_of_getElem? (i := 48) rfl))) (mvT hZ (hw _ (List.mem_of_getElem? (i := 49) rfl))) (notFace_of_selects (args := #[]) (mvT hZ (hw _ (List.mem_of_getElem? (i := 51) rfl)))) (mvT hZ (hw _ (List.mem_of_getElem? (i := 51) rfl))) (mvT hZ (hw _ (List.mem_of_getElem? (i := 50) rfl))) (by decide) (backOf (W := 1) (rm10 l Z a0 hw [] b7 lb T10.heap n0 Z0 F_b7_min) hZ (hw _ (List.mem_of_getElem? (i := 52) rfl)) (hw _ (List.mem_of_getElem? (i := 12) rfl)) (by decide) (by decide)) q12a q12c (g := (mkF m 79 #[.val (.int p1), .val (.int p2), .val (.int p3), .val (.int p4), .val (.int la), .val (.int ua), .val (.int lb), .val (.int ub), .val (.ref b5), .val (.ref b7), .val (.int got), .val (.ref bj), .unset] [(.ref b7), (.int jm)])) rfl (by rw [hml]; rfl) (Steps.refl _) (argsL := []) (rest := [(.int jm)]) (lenOf pd_6 rfl) rfl (by show 2 * 0 + _ ≤ _; exact Nat.le_of_eq rfl) (hb hby at_79) (fun _ _ => ⟨rfl, e11, (by decide : 3 + 0 ≤ _), (by decide : 6 + 0 ≤ _)⟩)
  dsimp only [Pt.U, Pt.locs, Pt.cells, Pt.slots] at X12 l12 y12 z12 st12 hQ12
  subst l12 y12 z12
  obtain ⟨bm, rfl, d_bm, N12q, e12⟩ := hQ12
  have N12 := Fr.app N11 N12q
  refine own_go (S' := fun t => Steps p.tables e below (T12.setTop (mkF m 82 #[.val (.int p1), .val (.int p2), .val (.int p3), .val (.int p4), .val (.int la), .val (.int ua), .val (.int lb), .val (.int ub), .val (.ref b5), .val (.ref b7), .val (.int got), .val (.ref bj), .unset] [(.int bm), (.int jm)])) t) (fun t k => ?_) ?_
  · show Steps p.tables e below (s₁.setTop (mkF m 0 #[.val (.int p1), .val (.int p2), .val (.int p3), .val (.int p4), .unset, .unset, .unset, .unset, .unset, .unset, .unset, .unset, .unset] [])) _
    refine XS.iloadN X0.here hx rfl (hb hby at_0) rfl ?_
    show Steps p.tables e below (s₁.setTop (mkF m 1 #[.val (.int p1), .val (.int p2), .val (.int p3), .val (.int p4), .unset, .unset, .unset, .unset, .unset, .unset, .unset, .unset, .unset] [(.int p1)])) _
    refine st1 _ ?_
    show Steps p.tables e below (T1.setTop (mkF m 4 #[.val (.int p1), .val (.int p2), .val (.int p3), .val (.int p4), .unset, .unset, .unset, .unset, .unset, .unset, .unset, .unset, .unset] [(.int la)])) _
    refine XS.istore X1.here hx rfl (hb hby at_4) rfl (l' := #[.val (.int p1), .val (.int p2), .val (.int p3), .val (.int p4), .val (.int la), .unset, .unset, .unset, .unset, .unset, .unset, .unset, .unset]) rfl ?_
    show Steps p.tables e below (T1.setTop (mkF m 6 #[.val (.int p1), .val (.int p2), .val (.int p3), .val (.int p4), .val (.int la), .unset, .unset, .unset, .unset, .unset, .unset, .unset, .unset] [])) _
    refine XS.iload X1.here hx rfl (hb hby at_6) rfl ?_
    show Steps p.tables e below (T1.setTop (mkF m 8 #[.val (.int p1), .val (.int p2), .val (.int p3), .val (.int p4), .val (.int la), .unset, .unset, .unset, .unset, .unset, .unset, .unset, .unset] [(.int la)])) _
    refine XS.iloadN X1.here hx rfl (hb hby at_8) rfl ?_
    show Steps p.tables e below (T1.setTop (mkF m 9 #[.val (.int p1), .val (.int p2), .val (.int p3), .val (.int p4), .val (.int la), .unset, .unset, .unset, .unset, .unset, .unset, .unset, .unset] [(.int p2), (.int la)])) _
    refine st2 _ ?_
    show Steps p.tables e below (T2.setTop (mkF m 12 #[.val (.int p1), .val (.int p2), .val (.int p3), .val (.int p4), .val (.int la), .unset, .unset, .unset, .unset, .unset, .unset, .unset, .unset] [(.int ua)])) _
    refine XS.istore X2.here hx rfl (hb hby at_12) rfl (l' := #[.val (.int p1), .val (.int p2), .val (.int p3), .val (.int p4), .val (.int la), .val (.int ua), .unset, .unset, .unset, .unset, .unset, .unset, .unset]) rfl ?_
    show Steps p.tables e below (T2.setTop (mkF m 14 #[.val (.int p1), .val (.int p2), .val (.int p3), .val (.int p4), .val (.int la), .val (.int ua), .unset, .unset, .unset, .unset, .unset, .unset, .unset] [])) _
    refine XS.iloadN X2.here hx rfl (hb hby at_14) rfl ?_
    show Steps p.tables e below (T2.setTop (mkF m 15 #[.val (.int p1), .val (.int p2), .val (.int p3), .val (.int p4), .val (.int la), .val (.int ua), .unset, .unset, .unset, .unset, .unset, .unset, .unset] [(.int p3)])) _
    refine st3 _ ?_
    show Steps p.tables e below (T3.setTop (mkF m 18 #[.val (.int p1), .val (.int p2), .val (.int p3), .val (.int p4), .val (.int la), .val (.int ua), .unset, .unset, .unset, .unset, .unset, .unset, .unset] [(.int lb)])) _
    refine XS.istore X3.here hx rfl (hb hby at_18) rfl (l' := #[.val (.int p1), .val (.int p2), .val (.int p3), .val (.int p4), .val (.int la), .val (.int ua), .val (.int lb), .unset, .unset, .unset, .unset, .unset, .unset]) rfl ?_
    show Steps p.tables e below (T3.setTop (mkF m 20 #[.val (.int p1), .val (.int p2), .val (.int p3), .val (.int p4), .val (.int la), .val (.int ua), .val (.int lb), .unset, .unset, .unset, .unset, .unset, .unset] [])) _
    refine XS.iload X3.here hx rfl (hb hby at_20) rfl ?_
    show Steps p.tables e below (T3.setTop (mkF m 22 #[.val (.int p1), .val (.int p2), .val (.int p3), .val (.int p4), .val (.int la), .val (.int ua), .val (.int lb), .unset, .unset, .unset, .unset, .unset, .unset] [(.int lb)])) _
    refine XS.iloadN X3.here hx rfl (hb hby at_22) rfl ?_
    show Steps p.tables e below (T3.setTop (mkF m 23 #[.val (.int p1), .val (.int p2), .val (.int p3), .val (.int p4), .val (.int la), .val (.int ua), .val (.int lb), .unset, .unset, .unset, .unset, .unset, .unset] [(.int p4), (.int lb)])) _
    refine st4 _ ?_
    show Steps p.tables e below (T4.setTop (mkF m 26 #[.val (.int p1), .val (.int p2), .val (.int p3), .val (.int p4), .val (.int la), .val (.int ua), .val (.int lb), .unset, .unset, .unset, .unset, .unset, .unset] [(.int ub)])) _
    refine XS.istore X4.here hx rfl (hb hby at_26) rfl (l' := #[.val (.int p1), .val (.int p2), .val (.int p3), .val (.int p4), .val (.int la), .val (.int ua), .val (.int lb), .val (.int ub), .unset, .unset, .unset, .unset, .unset]) rfl ?_
    show Steps p.tables e below (T4.setTop (mkF m 28 #[.val (.int p1), .val (.int p2), .val (.int p3), .val (.int p4), .val (.int la), .val (.int ua), .val (.int lb), .val (.int ub), .unset, .unset, .unset, .unset, .unset] [])) _
    refine st5 _ ?_
    show Steps p.tables e below (T5.setTop (mkF m 31 #[.val (.int p1), .val (.int p2), .val (.int p3), .val (.int p4), .val (.int la), .val (.int ua), .val (.int lb), .val (.int ub), .unset, .unset, .unset, .unset, .unset] [(.ref b5)])) _
    refine XS.dup X5.here hx rfl (hb hby at_31) rfl rfl ?_
    show Steps p.tables e below (T5.setTop (mkF m 32 #[.val (.int p1), .val (.int p2), .val (.int p3), .val (.int p4), .val (.int la), .val (.int ua), .val (.int lb), .val (.int ub), .unset, .unset, .unset, .unset, .unset] [(.ref b5), (.ref b5)])) _
    refine XS.iload X5.here hx rfl (hb hby at_32) rfl ?_
    show Steps p.tables e below (T5.setTop (mkF m 34 #[.val (.int p1), .val (.int p2), .val (.int p3), .val (.int p4), .val (.int la), .val (.int ua), .val (.int lb), .val (.int ub), .unset, .unset, .unset, .unset, .unset] [(.int la), (.ref b5), (.ref b5)])) _
    refine XS.iload X5.here hx rfl (hb hby at_34) rfl ?_
    show Steps p.tables e below (T5.setTop (mkF m 36 #[.val (.int p1), .val (.int p2), .val (.int p3), .val (.int p4), .val (.int la), .val (.int ua), .val (.int lb), .val (.int ub), .unset, .unset, .unset, .unset, .unset] [(.int ua), (.int la), (.ref b5), (.ref b5)])) _
    refine st6.trans ?_
    show Steps p.tables e below (T6.setTop (mkF m 39 #[.val (.int p1), .val (.int p2), .val (.int p3), .val (.int p4), .val (.int la), .val (.int ua), .val (.int lb), .val (.int ub), .unset, .unset, .unset, .unset, .unset] [(.ref b5)])) _
    refine XS.astore X6.here hx rfl (hb hby at_39) rfl rfl (l' := #[.val (.int p1), .val (.int p2), .val (.int p3), .val (.int p4), .val (.int la), .val (.int ua), .val (.int lb), .val (.int ub), .val (.ref b5), .unset, .unset, .unset, .unset]) rfl ?_
    show Steps p.tables e below (T6.setTop (mkF m 41 #[.val (.int p1), .val (.int p2), .val (.int p3), .val (.int p4), .val (.int la), .val (.int ua), .val (.int lb), .val (.int ub), .val (.ref b5), .unset, .unset, .unset, .unset] [])) _
    refine st7 _ ?_
    show Steps p.tables e below (T7.setTop (mkF m 44 #[.val (.int p1), .val (.int p2), .val (.int p3), .val (.int p4), .val (.int la), .val (.int ua), .val (.int lb), .val (.int ub), .val (.ref b5), .unset, .unset, .unset, .unset] [(.ref b7)])) _
    refine XS.dup X7.here hx rfl (hb hby at_44) rfl rfl ?_
    show Steps p.tables e below (T7.setTop (mkF m 45 #[.val (.int p1), .val (.int p2), .val (.int p3), .val (.int p4), .val (.int la), .val (.int ua), .val (.int lb), .val (.int ub), .val (.ref b5), .unset, .unset, .unset, .unset] [(.ref b7), (.ref b7)])) _
    refine XS.iload X7.here hx rfl (hb hby at_45) rfl ?_
    show Steps p.tables e below (T7.setTop (mkF m 47 #[.val (.int p1), .val (.int p2), .val (.int p3), .val (.int p4), .val (.int la), .val (.int ua), .val (.int lb), .val (.int ub), .val (.ref b5), .unset, .unset, .unset, .unset] [(.int lb), (.ref b7), (.ref b7)])) _
    refine XS.iload X7.here hx rfl (hb hby at_47) rfl ?_
    show Steps p.tables e below (T7.setTop (mkF m 49 #[.val (.int p1), .val (.int p2), .val (.int p3), .val (.int p4), .val (.int la), .val (.int ua), .val (.int lb), .val (.int ub), .val (.ref b5), .unset, .unset, .unset, .unset] [(.int ub), (.int lb), (.ref b7), (.ref b7)])) _
    refine st8.trans ?_
    show Steps p.tables e below (T8.setTop (mkF m 52 #[.val (.int p1), .val (.int p2), .val (.int p3), .val (.int p4), .val (.int la), .val (.int ua), .val (.int lb), .val (.int ub), .val (.ref b5), .unset, .unset, .unset, .unset] [(.ref b7)])) _
    refine XS.astore X8.here hx rfl (hb hby at_52) rfl rfl (l' := #[.val (.int p1), .val (.int p2), .val (.int p3), .val (.int p4), .val (.int la), .val (.int ua), .val (.int lb), .val (.int ub), .val (.ref b5), .val (.ref b7), .unset, .unset, .unset]) rfl ?_
    show Steps p.tables e below (T8.setTop (mkF m 54 #[.val (.int p1), .val (.int p2), .val (.int p3), .val (.int p4), .val (.int la), .val (.int ua), .val (.int lb), .val (.int ub), .val (.ref b5), .val (.ref b7), .unset, .unset, .unset] [])) _
    refine XS.aload X8.here hx rfl (hb hby at_54) rfl rfl ?_
    show Steps p.tables e below (T8.setTop (mkF m 56 #[.val (.int p1), .val (.int p2), .val (.int p3), .val (.int p4), .val (.int la), .val (.int ua), .val (.int lb), .val (.int ub), .val (.ref b5), .val (.ref b7), .unset, .unset, .unset] [(.ref b5)])) _
    refine XS.aload X8.here hx rfl (hb hby at_56) rfl rfl ?_
    show Steps p.tables e below (T8.setTop (mkF m 58 #[.val (.int p1), .val (.int p2), .val (.int p3), .val (.int p4), .val (.int la), .val (.int ua), .val (.int lb), .val (.int ub), .val (.ref b5), .val (.ref b7), .unset, .unset, .unset] [(.ref b7), (.ref b5)])) _
    refine st9.trans ?_
    show Steps p.tables e below (T9.setTop (mkF m 61 #[.val (.int p1), .val (.int p2), .val (.int p3), .val (.int p4), .val (.int la), .val (.int ua), .val (.int lb), .val (.int ub), .val (.ref b5), .val (.ref b7), .unset, .unset, .unset] [(.int got)])) _
    refine XS.istore X9.here hx rfl (hb hby at_61) rfl (l' := #[.val (.int p1), .val (.int p2), .val (.int p3), .val (.int p4), .val (.int la), .val (.int ua), .val (.int lb), .val (.int ub), .val (.ref b5), .val (.ref b7), .val (.int got), .unset, .unset]) rfl ?_
    show Steps p.tables e below (T9.setTop (mkF m 63 #[.val (.int p1), .val (.int p2), .val (.int p3), .val (.int p4), .val (.int la), .val (.int ua), .val (.int lb), .val (.int ub), .val (.ref b5), .val (.ref b7), .val (.int got), .unset, .unset] [])) _
    refine XS.aload X9.here hx rfl (hb hby at_63) rfl rfl ?_
    show Steps p.tables e below (T9.setTop (mkF m 65 #[.val (.int p1), .val (.int p2), .val (.int p3), .val (.int p4), .val (.int la), .val (.int ua), .val (.int lb), .val (.int ub), .val (.ref b5), .val (.ref b7), .val (.int got), .unset, .unset] [(.ref b5)])) _
    refine XS.aload X9.here hx rfl (hb hby at_65) rfl rfl ?_
    show Steps p.tables e below (T9.setTop (mkF m 67 #[.val (.int p1), .val (.int p2), .val (.int p3), .val (.int p4), .val (.int la), .val (.int ua), .val (.int lb), .val (.int ub), .val (.ref b5), .val (.ref b7), .val (.int got), .unset, .unset] [(.ref b7), (.ref b5)])) _
    refine st10.trans ?_
    show Steps p.tables e below (T10.setTop (mkF m 70 #[.val (.int p1), .val (.int p2), .val (.int p3), .val (.int p4), .val (.int la), .val (.int ua), .val (.int lb), .val (.int ub), .val (.ref b5), .val (.ref b7), .val (.int got), .unset, .unset] [(.ref bj)])) _
    refine XS.astore X10.here hx rfl (hb hby at_70) rfl rfl (l' := #[.val (.int p1), .val (.int p2), .val (.int p3), .val (.int p4), .val (.int la), .val (.int ua), .val (.int lb), .val (.int ub), .val (.ref b5), .val (.ref b7), .val (.int got), .val (.ref bj), .unset]) rfl ?_
    show Steps p.tables e below (T10.setTop (mkF m 72 #[.val (.int p1), .val (.int p2), .val (.int p3), .val (.int p4), .val (.int la), .val (.int ua), .val (.int lb), .val (.int ub), .val (.ref b5), .val (.ref b7), .val (.int got), .val (.ref bj), .unset] [])) _
    refine XS.aload X10.here hx rfl (hb hby at_72) rfl rfl ?_
    show Steps p.tables e below (T10.setTop (mkF m 74 #[.val (.int p1), .val (.int p2), .val (.int p3), .val (.int p4), .val (.int la), .val (.int ua), .val (.int lb), .val (.int ub), .val (.ref b5), .val (.ref b7), .val (.int got), .val (.ref bj), .unset] [(.ref bj)])) _
    refine st11.trans ?_
    show Steps p.tables e below (T11.setTop (mkF m 77 #[.val (.int p1), .val (.int p2), .val (.int p3), .val (.int p4), .val (.int la), .val (.int ua), .val (.int lb), .val (.int ub), .val (.ref b5), .val (.ref b7), .val (.int got), .val (.ref bj), .unset] [(.int jm)])) _
    refine XS.aload X11.here hx rfl (hb hby at_77) rfl rfl ?_
    show Steps p.tables e below (T11.setTop (mkF m 79 #[.val (.int p1), .val (.int p2), .val (.int p3), .val (.int p4), .val (.int la), .val (.int ua), .val (.int lb), .val (.int ub), .val (.ref b5), .val (.ref b7), .val (.int got), .val (.ref bj), .unset] [(.ref b7), (.int jm)])) _
    refine st12.trans ?_
    exact k
  by_cases hc82 : jm = bm
  · obtain ⟨cq13, kq13, q13a, q13b, q13c⟩ := isOf hZ e12 E_bj
    obtain ⟨_, _, ⟨T13, L13, k13, n13⟩, -, X13, ⟨Lc13, hQ13, l13, y13, z13⟩, st13⟩ := X12.virtualBack hx (y := (⟨"com/example/types_for_trees/typesfortrees/types/Occurrence", "max", "()I"⟩ : MethodName)) (z := (⟨"com/example/types_for_trees/typesfortrees/types/Occurrence", "max", "()I"⟩ : MethodName)) hown (mvT hZ (hw _ (List.mem_of_getElem? (i := 53) rfl))) (mvT hZ (hw _ (List.mem_of_getElem? (i := 54) rfl))) (notFace_of_selects (args := #[]) (mvT hZ (hw _ (List.mem_of_getElem? (i := 56) rfl)))) (mvT hZ (hw _ (List.mem_of_getElem? (i := 56) rfl))) (mvT hZ (hw _ (List.mem_of_getElem? (i := 55) rfl))) (by decide) (backOf (W := 0) (rm11 l Z a0 hw [] bj mx_10 T10.heap n0 Z0 F_bj_max) hZ (hw _ (List.mem_of_getElem? (i := 57) rfl)) (hw _ (List.mem_of_getElem? (i := 12) rfl)) (by decide) (by decide)) q13a q13c (g := (mkF m 87 #[.val (.int p1), .val (.int p2), .val (.int p3), .val (.int p4), .val (.int la), .val (.int ua), .val (.int lb), .val (.int ub), .val (.ref b5), .val (.ref b7), .val (.int got), .val (.ref bj), .unset] [(.ref bj)])) rfl (by rw [hml]; rfl) (Steps.refl _) (argsL := []) (rest := []) (lenOf pd_6 rfl) rfl (by show 2 * 0 + _ ≤ _; exact Nat.le_of_eq rfl) (hb hby at_87) (fun _ _ => ⟨rfl, e12, (by decide : 3 + 0 ≤ _), (by decide : 6 + 0 ≤ _)⟩)
    dsimp only [Pt.U, Pt.locs, Pt.cells, Pt.slots] at X13 l13 y13 z13 st13 hQ13
    subst l13 y13 z13
    obtain ⟨jx, rfl, d_jx, N13q, e13⟩ := hQ13
    have N13 := Fr.app N12 N13q
    obtain ⟨cq14, kq14, q14a, q14b, q14c⟩ := isOf hZ e13 E_b7
    obtain ⟨_, _, ⟨T14, L14, k14, n14⟩, -, X14, ⟨Lc14, hQ14, l14, y14, z14⟩, st14⟩ := X13.virtualBack hx (y := (⟨"com/example/types_for_trees/typesfortrees/types/Occurrence", "max", "()I"⟩ : MethodName)) (z := (⟨"com/example/types_for_trees/typesfortrees/types/Occurrence", "max", "()I"⟩ : MethodName)) hown (mvT hZ (hw _ (List.mem_of_getElem? (i := 53) rfl))) (mvT hZ (hw _ (List.mem_of_getElem? (i := 54) rfl))) (notFace_of_selects (args := #[]) (mvT hZ (hw _ (List.mem_of_getElem? (i := 56) rfl)))) (mvT hZ (hw _ (List.mem_of_getElem? (i := 56) rfl))) (mvT hZ (hw _ (List.mem_of_getElem? (i := 55) rfl))) (by decide) (backOf (W := 1) (rm11 l Z a0 hw [] b7 ub T10.heap n0 Z0 F_b7_max) hZ (hw _ (List.mem_of_getElem? (i := 57) rfl)) (hw _ (List.mem_of_getElem? (i := 12) rfl)) (by decide) (by decide)) q14a q14c (g := (mkF m 92 #[.val (.int p1), .val (.int p2), .val (.int p3), .val (.int p4), .val (.int la), .val (.int ua), .val (.int lb), .val (.int ub), .val (.ref b5), .val (.ref b7), .val (.int got), .val (.ref bj), .unset] [(.ref b7), (.int jx)])) rfl (by rw [hml]; rfl) (Steps.refl _) (argsL := []) (rest := [(.int jx)]) (lenOf pd_6 rfl) rfl (by show 2 * 0 + _ ≤ _; exact Nat.le_of_eq rfl) (hb hby at_92) (fun _ _ => ⟨rfl, e13, (by decide : 3 + 0 ≤ _), (by decide : 6 + 0 ≤ _)⟩)
    dsimp only [Pt.U, Pt.locs, Pt.cells, Pt.slots] at X14 l14 y14 z14 st14 hQ14
    subst l14 y14 z14
    obtain ⟨bx, rfl, d_bx, N14q, e14⟩ := hQ14
    have N14 := Fr.app N13 N14q
    refine own_go (S' := fun t => Steps p.tables e below (T14.setTop (mkF m 95 #[.val (.int p1), .val (.int p2), .val (.int p3), .val (.int p4), .val (.int la), .val (.int ua), .val (.int lb), .val (.int ub), .val (.ref b5), .val (.ref b7), .val (.int got), .val (.ref bj), .unset] [(.int bx), (.int jx)])) t) (fun t k => ?_) ?_
    · show Steps p.tables e below (T12.setTop (mkF m 82 #[.val (.int p1), .val (.int p2), .val (.int p3), .val (.int p4), .val (.int la), .val (.int ua), .val (.int lb), .val (.int ub), .val (.ref b5), .val (.ref b7), .val (.int got), .val (.ref bj), .unset] [(.int bm), (.int jm)])) _
      refine XS.icmpNo X12.here hx rfl (hb hby at_82) rfl (teq hc82).2 ?_
      show Steps p.tables e below (T12.setTop (mkF m 85 #[.val (.int p1), .val (.int p2), .val (.int p3), .val (.int p4), .val (.int la), .val (.int ua), .val (.int lb), .val (.int ub), .val (.ref b5), .val (.ref b7), .val (.int got), .val (.ref bj), .unset] [])) _
      refine XS.aload X12.here hx rfl (hb hby at_85) rfl rfl ?_
      show Steps p.tables e below (T12.setTop (mkF m 87 #[.val (.int p1), .val (.int p2), .val (.int p3), .val (.int p4), .val (.int la), .val (.int ua), .val (.int lb), .val (.int ub), .val (.ref b5), .val (.ref b7), .val (.int got), .val (.ref bj), .unset] [(.ref bj)])) _
      refine st13.trans ?_
      show Steps p.tables e below (T13.setTop (mkF m 90 #[.val (.int p1), .val (.int p2), .val (.int p3), .val (.int p4), .val (.int la), .val (.int ua), .val (.int lb), .val (.int ub), .val (.ref b5), .val (.ref b7), .val (.int got), .val (.ref bj), .unset] [(.int jx)])) _
      refine XS.aload X13.here hx rfl (hb hby at_90) rfl rfl ?_
      show Steps p.tables e below (T13.setTop (mkF m 92 #[.val (.int p1), .val (.int p2), .val (.int p3), .val (.int p4), .val (.int la), .val (.int ua), .val (.int lb), .val (.int ub), .val (.ref b5), .val (.ref b7), .val (.int got), .val (.ref bj), .unset] [(.ref b7), (.int jx)])) _
      refine st14.trans ?_
      exact k
    by_cases hc95 : jx = bx
    · have hc109 : got = (1 : Int32) := by first | exact own_l1 d_bj.1 d_bj.2 d_got d_jm d_bm d_jx d_bx hc82 hc95 | exact own_l2 d_bj.1 d_bj.2 d_got d_jm d_bm d_jx d_bx hc82 hc95 | exact own_l3 d_bj.1 d_got d_jm d_bm hc82
      obtain ⟨fs, hr, hrun, hended, hW, hsame⟩ := X14.leave (v := some (.int (1 : Int32))) (fun h => by rw [Bd.returns] at h; cases h)
      refine ⟨_, _, ?_, hrun, hended, _, _, rfl, ?_, ⟨_, rfl⟩, hW, hsame.mono (by decide) (by decide)⟩
      · show Steps p.tables e below (T14.setTop (mkF m 95 #[.val (.int p1), .val (.int p2), .val (.int p3), .val (.int p4), .val (.int la), .val (.int ua), .val (.int lb), .val (.int ub), .val (.ref b5), .val (.ref b7), .val (.int got), .val (.ref bj), .unset] [(.int bx), (.int jx)])) _
        refine XS.icmpNo X14.here hx rfl (hb hby at_95) rfl (teq hc95).2 ?_
        show Steps p.tables e below (T14.setTop (mkF m 98 #[.val (.int p1), .val (.int p2), .val (.int p3), .val (.int p4), .val (.int la), .val (.int ua), .val (.int lb), .val (.int ub), .val (.ref b5), .val (.ref b7), .val (.int got), .val (.ref bj), .unset] [])) _
        refine XS.iconst X14.here hx rfl (hb hby at_98) ?_
        show Steps p.tables e below (T14.setTop (mkF m 99 #[.val (.int p1), .val (.int p2), .val (.int p3), .val (.int p4), .val (.int la), .val (.int ua), .val (.int lb), .val (.int ub), .val (.ref b5), .val (.ref b7), .val (.int got), .val (.ref bj), .unset] [(.int (1 : Int32))])) _
        refine XS.goto X14.here hx rfl (pc0 := 99) (pc' := 103) rfl (hb hby at_99) (by decide) (by decide) ?_
        show Steps p.tables e below (T14.setTop (mkF m 103 #[.val (.int p1), .val (.int p2), .val (.int p3), .val (.int p4), .val (.int la), .val (.int ua), .val (.int lb), .val (.int ub), .val (.ref b5), .val (.ref b7), .val (.int got), .val (.ref bj), .unset] [(.int (1 : Int32))])) _
        refine XS.istore X14.here hx rfl (hb hby at_103) rfl (l' := #[.val (.int p1), .val (.int p2), .val (.int p3), .val (.int p4), .val (.int la), .val (.int ua), .val (.int lb), .val (.int ub), .val (.ref b5), .val (.ref b7), .val (.int got), .val (.ref bj), .val (.int (1 : Int32))]) rfl ?_
        show Steps p.tables e below (T14.setTop (mkF m 105 #[.val (.int p1), .val (.int p2), .val (.int p3), .val (.int p4), .val (.int la), .val (.int ua), .val (.int lb), .val (.int ub), .val (.ref b5), .val (.ref b7), .val (.int got), .val (.ref bj), .val (.int (1 : Int32))] [])) _
        refine XS.iload X14.here hx rfl (hb hby at_105) rfl ?_
        show Steps p.tables e below (T14.setTop (mkF m 107 #[.val (.int p1), .val (.int p2), .val (.int p3), .val (.int p4), .val (.int la), .val (.int ua), .val (.int lb), .val (.int ub), .val (.ref b5), .val (.ref b7), .val (.int got), .val (.ref bj), .val (.int (1 : Int32))] [(.int got)])) _
        refine XS.iload X14.here hx rfl (hb hby at_107) rfl ?_
        show Steps p.tables e below (T14.setTop (mkF m 109 #[.val (.int p1), .val (.int p2), .val (.int p3), .val (.int p4), .val (.int la), .val (.int ua), .val (.int lb), .val (.int ub), .val (.ref b5), .val (.ref b7), .val (.int got), .val (.ref bj), .val (.int (1 : Int32))] [(.int (1 : Int32)), (.int got)])) _
        refine XS.icmpNo X14.here hx rfl (hb hby at_109) rfl (teq hc109).2 ?_
        show Steps p.tables e below (T14.setTop (mkF m 112 #[.val (.int p1), .val (.int p2), .val (.int p3), .val (.int p4), .val (.int la), .val (.int ua), .val (.int lb), .val (.int ub), .val (.ref b5), .val (.ref b7), .val (.int got), .val (.ref bj), .val (.int (1 : Int32))] [])) _
        refine XS.iconst X14.here hx rfl (hb hby at_112) ?_
        show Steps p.tables e below (T14.setTop (mkF m 113 #[.val (.int p1), .val (.int p2), .val (.int p3), .val (.int p4), .val (.int la), .val (.int ua), .val (.int lb), .val (.int ub), .val (.ref b5), .val (.ref b7), .val (.int got), .val (.ref bj), .val (.int (1 : Int32))] [(.int (1 : Int32))])) _
        refine XS.goto X14.here hx rfl (pc0 := 113) (pc' := 117) rfl (hb hby at_113) (by decide) (by decide) ?_
        show Steps p.tables e below (T14.setTop (mkF m 117 #[.val (.int p1), .val (.int p2), .val (.int p3), .val (.int p4), .val (.int la), .val (.int ua), .val (.int lb), .val (.int ub), .val (.ref b5), .val (.ref b7), .val (.int got), .val (.ref bj), .val (.int (1 : Int32))] [(.int (1 : Int32))])) _
        exact retN X14 hx (t := .boolean) Bd.returns (by simp) (hb hby at_117) hr
      · show Q0 Z p1 p2 p3 p4 h0 n0 _ T14.heap _
        rw [e14]
        exact ⟨rfl, N14⟩
    · have hc109 : got = (0 : Int32) := by first | exact own_l1 d_bj.1 d_bj.2 d_got d_jm d_bm d_jx d_bx hc82 hc95 | exact own_l2 d_bj.1 d_bj.2 d_got d_jm d_bm d_jx d_bx hc82 hc95 | exact own_l3 d_bj.1 d_got d_jm d_bm hc82
      obtain ⟨fs, hr, hrun, hended, hW, hsame⟩ := X14.leave (v := some (.int (1 : Int32))) (fun h => by rw [Bd.returns] at h; cases h)
      refine ⟨_, _, ?_, hrun, hended, _, _, rfl, ?_, ⟨_, rfl⟩, hW, hsame.mono (by decide) (by decide)⟩
      · show Steps p.tables e below (T14.setTop (mkF m 95 #[.val (.int p1), .val (.int p2), .val (.int p3), .val (.int p4), .val (.int la), .val (.int ua), .val (.int lb), .val (.int ub), .val (.ref b5), .val (.ref b7), .val (.int got), .val (.ref bj), .unset] [(.int bx), (.int jx)])) _
        refine XS.icmpYes X14.here hx rfl (pc0 := 95) (pc' := 102) rfl (hb hby at_95) rfl (feq hc95).2 (by decide) (by decide) ?_
        show Steps p.tables e below (T14.setTop (mkF m 102 #[.val (.int p1), .val (.int p2), .val (.int p3), .val (.int p4), .val (.int la), .val (.int ua), .val (.int lb), .val (.int ub), .val (.ref b5), .val (.ref b7), .val (.int got), .val (.ref bj), .unset] [])) _
        refine XS.iconst X14.here hx rfl (hb hby at_102) ?_
        show Steps p.tables e below (T14.setTop (mkF m 103 #[.val (.int p1), .val (.int p2), .val (.int p3), .val (.int p4), .val (.int la), .val (.int ua), .val (.int lb), .val (.int ub), .val (.ref b5), .val (.ref b7), .val (.int got), .val (.ref bj), .unset] [(.int (0 : Int32))])) _
        refine XS.istore X14.here hx rfl (hb hby at_103) rfl (l' := #[.val (.int p1), .val (.int p2), .val (.int p3), .val (.int p4), .val (.int la), .val (.int ua), .val (.int lb), .val (.int ub), .val (.ref b5), .val (.ref b7), .val (.int got), .val (.ref bj), .val (.int (0 : Int32))]) rfl ?_
        show Steps p.tables e below (T14.setTop (mkF m 105 #[.val (.int p1), .val (.int p2), .val (.int p3), .val (.int p4), .val (.int la), .val (.int ua), .val (.int lb), .val (.int ub), .val (.ref b5), .val (.ref b7), .val (.int got), .val (.ref bj), .val (.int (0 : Int32))] [])) _
        refine XS.iload X14.here hx rfl (hb hby at_105) rfl ?_
        show Steps p.tables e below (T14.setTop (mkF m 107 #[.val (.int p1), .val (.int p2), .val (.int p3), .val (.int p4), .val (.int la), .val (.int ua), .val (.int lb), .val (.int ub), .val (.ref b5), .val (.ref b7), .val (.int got), .val (.ref bj), .val (.int (0 : Int32))] [(.int got)])) _
        refine XS.iload X14.here hx rfl (hb hby at_107) rfl ?_
        show Steps p.tables e below (T14.setTop (mkF m 109 #[.val (.int p1), .val (.int p2), .val (.int p3), .val (.int p4), .val (.int la), .val (.int ua), .val (.int lb), .val (.int ub), .val (.ref b5), .val (.ref b7), .val (.int got), .val (.ref bj), .val (.int (0 : Int32))] [(.int (0 : Int32)), (.int got)])) _
        refine XS.icmpNo X14.here hx rfl (hb hby at_109) rfl (teq hc109).2 ?_
        show Steps p.tables e below (T14.setTop (mkF m 112 #[.val (.int p1), .val (.int p2), .val (.int p3), .val (.int p4), .val (.int la), .val (.int ua), .val (.int lb), .val (.int ub), .val (.ref b5), .val (.ref b7), .val (.int got), .val (.ref bj), .val (.int (0 : Int32))] [])) _
        refine XS.iconst X14.here hx rfl (hb hby at_112) ?_
        show Steps p.tables e below (T14.setTop (mkF m 113 #[.val (.int p1), .val (.int p2), .val (.int p3), .val (.int p4), .val (.int la), .val (.int ua), .val (.int lb), .val (.int ub), .val (.ref b5), .val (.ref b7), .val (.int got), .val (.ref bj), .val (.int (0 : Int32))] [(.int (1 : Int32))])) _
        refine XS.goto X14.here hx rfl (pc0 := 113) (pc' := 117) rfl (hb hby at_113) (by decide) (by decide) ?_
        show Steps p.tables e below (T14.setTop (mkF m 117 #[.val (.int p1), .val (.int p2), .val (.int p3), .val (.int p4), .val (.int la), .val (.int ua), .val (.int lb), .val (.int ub), .val (.ref b5), .val (.ref b7), .val (.int got), .val (.ref bj), .val (.int (0 : Int32))] [(.int (1 : Int32))])) _
        exact retN X14 hx (t := .boolean) Bd.returns (by simp) (hb hby at_117) hr
      · show Q0 Z p1 p2 p3 p4 h0 n0 _ T14.heap _
        rw [e14]
        exact ⟨rfl, N14⟩
  · have hc109 : got = (0 : Int32) := by first | exact own_l1 d_bj.1 d_bj.2 d_got d_jm d_bm d_jx d_bx hc82 hc95 | exact own_l2 d_bj.1 d_bj.2 d_got d_jm d_bm d_jx d_bx hc82 hc95 | exact own_l3 d_bj.1 d_got d_jm d_bm hc82
    obtain ⟨fs, hr, hrun, hended, hW, hsame⟩ := X12.leave (v := some (.int (1 : Int32))) (fun h => by rw [Bd.returns] at h; cases h)
    refine ⟨_, _, ?_, hrun, hended, _, _, rfl, ?_, ⟨_, rfl⟩, hW, hsame.mono (by decide) (by decide)⟩
    · show Steps p.tables e below (T12.setTop (mkF m 82 #[.val (.int p1), .val (.int p2), .val (.int p3), .val (.int p4), .val (.int la), .val (.int ua), .val (.int lb), .val (.int ub), .val (.ref b5), .val (.ref b7), .val (.int got), .val (.ref bj), .unset] [(.int bm), (.int jm)])) _
      refine XS.icmpYes X12.here hx rfl (pc0 := 82) (pc' := 102) rfl (hb hby at_82) rfl (feq hc82).2 (by decide) (by decide) ?_
      show Steps p.tables e below (T12.setTop (mkF m 102 #[.val (.int p1), .val (.int p2), .val (.int p3), .val (.int p4), .val (.int la), .val (.int ua), .val (.int lb), .val (.int ub), .val (.ref b5), .val (.ref b7), .val (.int got), .val (.ref bj), .unset] [])) _
      refine XS.iconst X12.here hx rfl (hb hby at_102) ?_
      show Steps p.tables e below (T12.setTop (mkF m 103 #[.val (.int p1), .val (.int p2), .val (.int p3), .val (.int p4), .val (.int la), .val (.int ua), .val (.int lb), .val (.int ub), .val (.ref b5), .val (.ref b7), .val (.int got), .val (.ref bj), .unset] [(.int (0 : Int32))])) _
      refine XS.istore X12.here hx rfl (hb hby at_103) rfl (l' := #[.val (.int p1), .val (.int p2), .val (.int p3), .val (.int p4), .val (.int la), .val (.int ua), .val (.int lb), .val (.int ub), .val (.ref b5), .val (.ref b7), .val (.int got), .val (.ref bj), .val (.int (0 : Int32))]) rfl ?_
      show Steps p.tables e below (T12.setTop (mkF m 105 #[.val (.int p1), .val (.int p2), .val (.int p3), .val (.int p4), .val (.int la), .val (.int ua), .val (.int lb), .val (.int ub), .val (.ref b5), .val (.ref b7), .val (.int got), .val (.ref bj), .val (.int (0 : Int32))] [])) _
      refine XS.iload X12.here hx rfl (hb hby at_105) rfl ?_
      show Steps p.tables e below (T12.setTop (mkF m 107 #[.val (.int p1), .val (.int p2), .val (.int p3), .val (.int p4), .val (.int la), .val (.int ua), .val (.int lb), .val (.int ub), .val (.ref b5), .val (.ref b7), .val (.int got), .val (.ref bj), .val (.int (0 : Int32))] [(.int got)])) _
      refine XS.iload X12.here hx rfl (hb hby at_107) rfl ?_
      show Steps p.tables e below (T12.setTop (mkF m 109 #[.val (.int p1), .val (.int p2), .val (.int p3), .val (.int p4), .val (.int la), .val (.int ua), .val (.int lb), .val (.int ub), .val (.ref b5), .val (.ref b7), .val (.int got), .val (.ref bj), .val (.int (0 : Int32))] [(.int (0 : Int32)), (.int got)])) _
      refine XS.icmpNo X12.here hx rfl (hb hby at_109) rfl (teq hc109).2 ?_
      show Steps p.tables e below (T12.setTop (mkF m 112 #[.val (.int p1), .val (.int p2), .val (.int p3), .val (.int p4), .val (.int la), .val (.int ua), .val (.int lb), .val (.int ub), .val (.ref b5), .val (.ref b7), .val (.int got), .val (.ref bj), .val (.int (0 : Int32))] [])) _
      refine XS.iconst X12.here hx rfl (hb hby at_112) ?_
      show Steps p.tables e below (T12.setTop (mkF m 113 #[.val (.int p1), .val (.int p2), .val (.int p3), .val (.int p4), .val (.int la), .val (.int ua), .val (.int lb), .val (.int ub), .val (.ref b5), .val (.ref b7), .val (.int got), .val (.ref bj), .val (.int (0 : Int32))] [(.int (1 : Int32))])) _
      refine XS.goto X12.here hx rfl (pc0 := 113) (pc' := 117) rfl (hb hby at_113) (by decide) (by decide) ?_
      show Steps p.tables e below (T12.setTop (mkF m 117 #[.val (.int p1), .val (.int p2), .val (.int p3), .val (.int p4), .val (.int la), .val (.int ua), .val (.int lb), .val (.int ub), .val (.ref b5), .val (.ref b7), .val (.int got), .val (.ref bj), .val (.int (0 : Int32))] [(.int (1 : Int32))])) _
      exact retN X12 hx (t := .boolean) Bd.returns (by simp) (hb hby at_117) hr
    · show Q0 Z p1 p2 p3 p4 h0 n0 _ T12.heap _
      rw [e12]
      exact ⟨rfl, N12⟩
set_option maxRecDepth 65536 in
set_option maxHeartbeats 40000000 in
theorem comes_1 {Post : Tables → Env → Array Value → State → Outcome → State → Prop} (hpost : ∀ tb e args s v u, (limb_1_1.after args s (.returned v) u = true ∧ limb_1_2.after args s (.returned v) u = true ∧ True) → FrameEnd s (.returned v) u (Jvm.fieldLocs frame_1_writes args s ++ Jvm.arrayLocs frame_1_arrays args s ++ Jvm.staticLocs frame_1_statics s) 16 128 → Post tb e args s (.returned v) u) :
    ArmFor flags0 classFile x code maxLocals ret World_1 tables_1 room_1 Calls_1 rest_1 Pre_1 Post := by
  intro l hfl _ _ p e ha hc hk s m args below hf hA hF happ hP
  obtain ⟨hcalls, hrest, hpre⟩ := hP
  obtain ⟨-, -, -, hnamed, -, -, -, hat⟩ := (Spec.applies_iff hf).mp happ
  obtain ⟨hg, hn⟩ := and_e (Cond.before_iff.mp (show (Jvm.Cond.and given_1 narrow_1).before args s = true from hpre))
  obtain ⟨hct, hg⟩ := and_e hg
  obtain ⟨ga0, hg⟩ := and_e hg
  obtain ⟨ga1, hg⟩ := and_e hg
  obtain ⟨ga2, hg⟩ := and_e hg
  have ga3 := hg
  obtain ⟨w0, w1, w2, w3, rfl⟩ : ∃ w0 w1 w2 w3 : Value, args = #[w0, w1, w2, w3] := by
    have hs : args.size = 4 := by simpa [Cond.value, given_1] using hct
    obtain ⟨L⟩ := args
    match L, hs with
    | [w0, w1, w2, w3], _ => exact ⟨w0, w1, w2, w3, rfl⟩
  have hw := fun d (hd : d ∈ tables_1) => atoms_spec (ws := Jvm.Cond.code x code maxLocals ret :: tables_1) hat d (List.mem_cons_of_mem _ hd)
  obtain ⟨i0, ei0⟩ := is_v ga0
  obtain rfl : w0 = (.int i0) := Option.some.inj ei0
  obtain ⟨i1, ei1⟩ := is_v ga1
  obtain rfl : w1 = (.int i1) := Option.some.inj ei1
  obtain ⟨i2, ei2⟩ := is_v ga2
  obtain rfl : w2 = (.int i2) := Option.some.inj ei2
  obtain ⟨i3, ei3⟩ := is_v ga3
  obtain rfl : w3 = (.int i3) := Option.some.inj ei3
  obtain ⟨n, o, h1, h2, h3, _, L, rfl, ⟨rfl, N⟩, hq⟩ := rm0 l s _ hw tables_1 i0 i1 i2 i3 s.heap s.heap.size (Nat.le_refl _)  p e ha hc hk s m _ below hf ((Spec.applies_iff_loose hf).mp happ).1 ⟨rfl, State.Warmed39.refl s, rfl⟩ trivial
  refine ⟨n, _, h1, h2, h3, hpost _ _ _ _ _ _ ⟨Cond.after_iff.mpr rfl, Cond.after_iff.mpr (eq_i res_at (Term.int_eval (1)) rfl), trivial⟩ ⟨hq.1, hq.2.1, (hq.2.2.sift fun y hy => Or.inr (N y hy)).mono (by decide) (by decide)⟩⟩
theorem main_1_1 : Claimed_1_1 := comes_1 fun _ _ _ _ _ _ h hF => ⟨h.1, hF⟩
theorem main_1_2 : Claimed_1_2 := comes_1 fun _ _ _ _ _ _ h hF => ⟨h.2.1, hF⟩
end Jvm.Pilot.@@N@@
namespace Jvm.Pilot.@@N@@
open Jvm Jvm.ClassFile Sem Op Lib Jvm.Free Jvm.Stand Jvm.Pilot.@@N@@.Jvm.D
/-! MADE BY PROGRAM (witnessworld.py) out of the Statement's table words and the real class files: 11 classes; the members and pool entries that the words name. The judged class is class 1, her method 3. -/
namespace start1
open Jvm.ClassFile
def u (s : String) : CpInfo := .utf8 (stringToUtf16 s)
/-- a pool by its gaps: so many unusable entries, then the entry; so many at the end -/
def gap : Nat → List CpInfo → List CpInfo
  | 0, r => r
  | n + 1, r => .unusable :: gap n r
def poolList (es : List (Nat × CpInfo)) (last : Nat) : List CpInfo := es.foldr (fun e r => gap e.1 (e.2 :: r)) (gap last [])
def pool (es : List (Nat × CpInfo)) (last : Nat) : Array CpInfo := ⟨poolList es last⟩
def fileOf (pool : Array CpInfo) (this : Nat) (attrs : Array Attribute := #[]) (ms : Array MethodInfo := #[]) (fl : Nat := 33) (sup : Nat := 0) (ifs : Array Nat := #[]) (fds : Array FieldInfo := #[]) : ClassFile where
  minorVersion := 0
  majorVersion := 65
  constantPool := pool
  accessFlags := fl
  thisClass := this
  superClass := sup
  interfaces := ifs
  fields := fds
  methods := ms
  attributes := attrs
def plain (name : String) (sup : Option ClassId) : Class where
  name := name
  kind := .ordinary
  loader := none
  accessFlags := 33
  super := sup
  interfaces := #[]
  cf := none
  fields := #[]
  methods := #[]
  instanceTypes := #[]
  staticTypes := #[]
  resolved := #[]
  callSites := []
  init := .initialized
  statics := none
  mirror := none

def pool0 : Array CpInfo := pool [(5, u "<init>"), (0, u "()V"), (1, .class_ 10), (1, u "java/lang/Object")] 113

def k0c0 : Code := { maxStack := 0, maxLocals := 1, code := object_method_1_code, exceptionTable := #[], attributes := #[] }
def k0m0 : Method := { name := "<init>", desc := "()V", sig := { parameters := [], returnType := none }, accessFlags := 1, code := some k0c0 }
/-- java/lang/Object -/
def k0 : Class := { plain "java/lang/Object" none with
  accessFlags := 33
  interfaces := #[]
  cf := some (fileOf pool0 8 #[] #[{ accessFlags := 1, nameIndex := 5, descriptorIndex := 6, attributes := #[] }] 33 0 #[] #[])
  fields := #[]
  methods := #[k0m0]
  instanceTypes := #[]
  staticTypes := #[]
  resolved := Array.replicate 124 none
  statics := none }

def pool1 : Array CpInfo := pool [(2, .class_ 4), (1, u "java/lang/Object"), (0, u "<init>"), (0, u "()V"), (0, .integer 2147483647), (2, .long 2147483647), (1, .long 4294967295), (1, .methodref 15 16), (0, .class_ 17), (0, .nameAndType 18 19), (0, u "com/example/types_for_trees/typesfortrees/types/OccurrenceWithinPinLaw"), (0, u "lower"), (0, u "(I)I"), (0, .methodref 15 21), (0, .nameAndType 22 23), (0, u "upper"), (0, u "(II)I"), (0, .class_ 25), (0, u "com/example/types_for_trees/typesfortrees/types/Occurrence"), (0, .methodref 24 27), (0, .nameAndType 5 28), (0, u "(II)V"), (0, .methodref 24 30), (0, .nameAndType 31 32), (0, u "within"), (0, u "(Lcom/example/types_for_trees/typesfortrees/types/Occurrence;)Z"), (0, .methodref 24 34), (0, .nameAndType 35 36), (0, u "or"), (0, u "(Lcom/example/types_for_trees/typesfortrees/types/Occurrence;)Lcom/example/types_for_trees/typesfortrees/types/Occurrence;"), (0, .methodref 24 38), (0, .nameAndType 39 40), (0, u "min"), (0, u "()I"), (0, .methodref 24 42), (0, .nameAndType 43 40), (0, u "max"), (2, u "law"), (0, u "(IIII)Z")] 3

def k1m0 : Method := { name := "<init>", desc := "()V", sig := { parameters := [], returnType := none }, accessFlags := 1, code := none }
def k1c1 : Code := { maxStack := 2, maxLocals := 1, code := method_2_code, exceptionTable := #[], attributes := #[] }
def k1m1 : Method := { name := "lower", desc := "(I)I", sig := { parameters := [.int], returnType := some .int }, accessFlags := 10, code := some k1c1 }
def k1c2 : Code := { maxStack := 6, maxLocals := 4, code := method_3_code, exceptionTable := #[], attributes := #[] }
def k1m2 : Method := { name := "upper", desc := "(II)I", sig := { parameters := [.int, .int], returnType := some .int }, accessFlags := 10, code := some k1c2 }
def k1c3 : Code := { maxStack := 4, maxLocals := 13, code := code, exceptionTable := #[], attributes := #[] }
def k1m3 : Method := { name := "law", desc := "(IIII)Z", sig := { parameters := [.int, .int, .int, .int], returnType := some .boolean }, accessFlags := 9, code := some k1c3 }
/-- com/example/types_for_trees/typesfortrees/types/OccurrenceWithinPinLaw -/
def k1 : Class := { plain "com/example/types_for_trees/typesfortrees/types/OccurrenceWithinPinLaw" (some 0) with
  accessFlags := 49
  interfaces := #[]
  cf := some (fileOf pool1 15 #[] #[{ accessFlags := 1, nameIndex := 5, descriptorIndex := 6, attributes := #[] }, { accessFlags := 10, nameIndex := 18, descriptorIndex := 19, attributes := #[] }, { accessFlags := 10, nameIndex := 22, descriptorIndex := 23, attributes := #[] }, { accessFlags := 9, nameIndex := 46, descriptorIndex := 47, attributes := #[] }] 49 2 #[] #[])
  fields := #[]
  methods := #[k1m0, k1m1, k1m2, k1m3]
  instanceTypes := #[]
  staticTypes := #[]
  resolved := Array.replicate 51 none
  statics := none }

def pool2 : Array CpInfo := pool [(1, .methodref 2 3), (0, .class_ 4), (0, .nameAndType 5 6), (0, u "java/lang/Object"), (0, u "<init>"), (0, u "()V"), (0, .class_ 8), (0, u "java/lang/Record")] 13

def k2c0 : Code := { maxStack := 1, maxLocals := 1, code := jdk_30_method_1_code, exceptionTable := #[], attributes := #[] }
def k2m0 : Method := { name := "<init>", desc := "()V", sig := { parameters := [], returnType := none }, accessFlags := 4, code := some k2c0 }
/-- java/lang/Record -/
def k2 : Class := { plain "java/lang/Record" (some 0) with
  accessFlags := 1057
  interfaces := #[]
  cf := some (fileOf pool2 7 #[] #[{ accessFlags := 4, nameIndex := 5, descriptorIndex := 6, attributes := #[] }] 1057 2 #[] #[])
  fields := #[]
  methods := #[k2m0]
  instanceTypes := #[]
  staticTypes := #[]
  resolved := Array.replicate 22 none
  statics := none }

def pool3 : Array CpInfo := pool [(3, .methodref 4 5), (0, .class_ 6), (0, .nameAndType 7 8), (0, u "java/lang/Record"), (0, u "<init>"), (0, u "()V"), (0, .class_ 10), (0, u "com/example/types_for_trees/typesfortrees/types/Occurrence"), (0, .integer 2147483647), (13, .fieldref 9 26), (0, .nameAndType 27 28), (0, u "min"), (0, u "I"), (0, .fieldref 9 30), (0, .nameAndType 31 28), (0, u "max"), (3, u "(II)I"), (0, .methodref 9 37), (0, .nameAndType 7 38), (0, u "(II)V"), (0, .methodref 40 41), (0, .class_ 42), (0, .nameAndType 27 35), (0, u "java/lang/Math"), (0, .methodref 40 44), (0, .nameAndType 31 35), (5, u "ONE"), (0, u "Lcom/example/types_for_trees/typesfortrees/types/Occurrence;"), (8, u "OPTIONAL"), (4, u "ZERO_OR_MORE"), (4, u "ONE_OR_MORE"), (32, u "ZERO"), (0, u "UNBOUNDED"), (6, u "(Lcom/example/types_for_trees/typesfortrees/types/Occurrence;)Lcom/example/types_for_trees/typesfortrees/types/Occurrence;"), (0, u "or"), (2, u "(Lcom/example/types_for_trees/typesfortrees/types/Occurrence;)Z"), (0, u "within"), (3, u "()I")] 34

def k3c0 : Code := { maxStack := 4, maxLocals := 3, code := prog_179_method_1_code, exceptionTable := #[], attributes := #[] }
def k3m0 : Method := { name := "<init>", desc := "(II)V", sig := { parameters := [.int, .int], returnType := none }, accessFlags := 1, code := some k3c0 }
def k3c1 : Code := { maxStack := 5, maxLocals := 2, code := prog_179_method_3_code, exceptionTable := #[], attributes := #[] }
def k3m1 : Method := { name := "or", desc := "(Lcom/example/types_for_trees/typesfortrees/types/Occurrence;)Lcom/example/types_for_trees/typesfortrees/types/Occurrence;", sig := { parameters := [(.object "com/example/types_for_trees/typesfortrees/types/Occurrence")], returnType := some (.object "com/example/types_for_trees/typesfortrees/types/Occurrence") }, accessFlags := 1, code := some k3c1 }
def k3c2 : Code := { maxStack := 2, maxLocals := 2, code := prog_179_method_6_code, exceptionTable := #[], attributes := #[] }
def k3m2 : Method := { name := "within", desc := "(Lcom/example/types_for_trees/typesfortrees/types/Occurrence;)Z", sig := { parameters := [(.object "com/example/types_for_trees/typesfortrees/types/Occurrence")], returnType := some .boolean }, accessFlags := 1, code := some k3c2 }
def k3c3 : Code := { maxStack := 1, maxLocals := 1, code := prog_179_method_15_code, exceptionTable := #[], attributes := #[] }
def k3m3 : Method := { name := "min", desc := "()I", sig := { parameters := [], returnType := some .int }, accessFlags := 1, code := some k3c3 }
def k3c4 : Code := { maxStack := 1, maxLocals := 1, code := prog_179_method_16_code, exceptionTable := #[], attributes := #[] }
def k3m4 : Method := { name := "max", desc := "()I", sig := { parameters := [], returnType := some .int }, accessFlags := 1, code := some k3c4 }
/-- com/example/types_for_trees/typesfortrees/types/Occurrence -/
def k3 : Class := { plain "com/example/types_for_trees/typesfortrees/types/Occurrence" (some 2) with
  accessFlags := 49
  interfaces := #[]
  cf := some (fileOf pool3 9 #[] #[{ accessFlags := 1, nameIndex := 7, descriptorIndex := 38, attributes := #[] }, { accessFlags := 1, nameIndex := 112, descriptorIndex := 111, attributes := #[] }, { accessFlags := 1, nameIndex := 116, descriptorIndex := 115, attributes := #[] }, { accessFlags := 1, nameIndex := 27, descriptorIndex := 120, attributes := #[] }, { accessFlags := 1, nameIndex := 31, descriptorIndex := 120, attributes := #[] }] 49 4 #[] #[{ accessFlags := 18, nameIndex := 27, descriptorIndex := 28, attributes := #[] }, { accessFlags := 18, nameIndex := 31, descriptorIndex := 28, attributes := #[] }, { accessFlags := 25, nameIndex := 104, descriptorIndex := 28, attributes := #[] }, { accessFlags := 25, nameIndex := 103, descriptorIndex := 51, attributes := #[] }, { accessFlags := 25, nameIndex := 50, descriptorIndex := 51, attributes := #[] }, { accessFlags := 25, nameIndex := 60, descriptorIndex := 51, attributes := #[] }, { accessFlags := 25, nameIndex := 65, descriptorIndex := 51, attributes := #[] }, { accessFlags := 25, nameIndex := 70, descriptorIndex := 51, attributes := #[] }])
  fields := #[{ name := "min", type := .int, accessFlags := 18, slot := 0, constantValue := 0 }, { name := "max", type := .int, accessFlags := 18, slot := 1, constantValue := 0 }, { name := "UNBOUNDED", type := .int, accessFlags := 25, slot := 0, constantValue := 0 }, { name := "ZERO", type := (.object "com/example/types_for_trees/typesfortrees/types/Occurrence"), accessFlags := 25, slot := 1, constantValue := 0 }, { name := "ONE", type := (.object "com/example/types_for_trees/typesfortrees/types/Occurrence"), accessFlags := 25, slot := 2, constantValue := 0 }, { name := "OPTIONAL", type := (.object "com/example/types_for_trees/typesfortrees/types/Occurrence"), accessFlags := 25, slot := 3, constantValue := 0 }, { name := "ZERO_OR_MORE", type := (.object "com/example/types_for_trees/typesfortrees/types/Occurrence"), accessFlags := 25, slot := 4, constantValue := 0 }, { name := "ONE_OR_MORE", type := (.object "com/example/types_for_trees/typesfortrees/types/Occurrence"), accessFlags := 25, slot := 5, constantValue := 0 }]
  methods := #[k3m0, k3m1, k3m2, k3m3, k3m4]
  instanceTypes := #[.int, .int]
  staticTypes := #[.int, (.object "com/example/types_for_trees/typesfortrees/types/Occurrence"), (.object "com/example/types_for_trees/typesfortrees/types/Occurrence"), (.object "com/example/types_for_trees/typesfortrees/types/Occurrence"), (.object "com/example/types_for_trees/typesfortrees/types/Occurrence"), (.object "com/example/types_for_trees/typesfortrees/types/Occurrence")]
  resolved := Array.replicate 155 none
  statics := none }

def pool4 : Array CpInfo := pool [(1, .class_ 2), (0, u "java/lang/Math"), (1, .class_ 6), (1, u "java/lang/Object"), (0, u "<init>"), (0, u "()V"), (89, .class_ 100), (1, u "java/lang/Math$RandomNumberGeneratorHolder"), (71, u "negativeZeroFloatBits"), (0, u "J"), (2, u "negativeZeroDoubleBits"), (21, u "max"), (2, u "min"), (43, u "$assertionsDisabled"), (0, u "Z"), (88, u "(II)I"), (2, u "twoToTheDoubleScaleDown"), (0, u "D"), (4, u "twoToTheDoubleScaleUp"), (9, u "E"), (3, u "PI"), (2, u "TAU"), (2, u "DEGREES_TO_RADIANS"), (0, u "RADIANS_TO_DEGREES")] 94

def k4m0 : Method := { name := "<init>", desc := "()V", sig := { parameters := [], returnType := none }, accessFlags := 2, code := none }
def k4c1 : Code := { maxStack := 2, maxLocals := 2, code := jdk_29_method_65_code, exceptionTable := #[], attributes := #[] }
def k4m1 : Method := { name := "max", desc := "(II)I", sig := { parameters := [.int, .int], returnType := some .int }, accessFlags := 9, code := some k4c1 }
def k4c2 : Code := { maxStack := 2, maxLocals := 2, code := jdk_29_method_69_code, exceptionTable := #[], attributes := #[] }
def k4m2 : Method := { name := "min", desc := "(II)I", sig := { parameters := [.int, .int], returnType := some .int }, accessFlags := 9, code := some k4c2 }
/-- java/lang/Math -/
def k4 : Class := { plain "java/lang/Math" (some 0) with
  accessFlags := 49
  interfaces := #[]
  cf := some (fileOf pool4 1 #[.nestMembers #[98]] #[{ accessFlags := 2, nameIndex := 7, descriptorIndex := 8, attributes := #[] }, { accessFlags := 9, nameIndex := 198, descriptorIndex := 335, attributes := #[] }, { accessFlags := 9, nameIndex := 201, descriptorIndex := 335, attributes := #[] }] 49 4 #[] #[{ accessFlags := 25, nameIndex := 354, descriptorIndex := 339, attributes := #[] }, { accessFlags := 25, nameIndex := 358, descriptorIndex := 339, attributes := #[] }, { accessFlags := 25, nameIndex := 361, descriptorIndex := 339, attributes := #[] }, { accessFlags := 26, nameIndex := 364, descriptorIndex := 339, attributes := #[] }, { accessFlags := 26, nameIndex := 365, descriptorIndex := 339, attributes := #[] }, { accessFlags := 26, nameIndex := 172, descriptorIndex := 173, attributes := #[] }, { accessFlags := 26, nameIndex := 176, descriptorIndex := 173, attributes := #[] }, { accessFlags := 8, nameIndex := 344, descriptorIndex := 339, attributes := #[] }, { accessFlags := 8, nameIndex := 338, descriptorIndex := 339, attributes := #[] }, { accessFlags := 4120, nameIndex := 245, descriptorIndex := 246, attributes := #[] }])
  fields := #[{ name := "E", type := .double, accessFlags := 25, slot := 0, constantValue := 0 }, { name := "PI", type := .double, accessFlags := 25, slot := 1, constantValue := 0 }, { name := "TAU", type := .double, accessFlags := 25, slot := 2, constantValue := 0 }, { name := "DEGREES_TO_RADIANS", type := .double, accessFlags := 26, slot := 3, constantValue := 0 }, { name := "RADIANS_TO_DEGREES", type := .double, accessFlags := 26, slot := 4, constantValue := 0 }, { name := "negativeZeroFloatBits", type := .long, accessFlags := 26, slot := 5, constantValue := 0 }, { name := "negativeZeroDoubleBits", type := .long, accessFlags := 26, slot := 6, constantValue := 0 }, { name := "twoToTheDoubleScaleUp", type := .double, accessFlags := 8, slot := 7, constantValue := 0 }, { name := "twoToTheDoubleScaleDown", type := .double, accessFlags := 8, slot := 8, constantValue := 0 }, { name := "$assertionsDisabled", type := .boolean, accessFlags := 4120, slot := 9, constantValue := 0 }]
  methods := #[k4m0, k4m1, k4m2]
  instanceTypes := #[]
  staticTypes := #[.double, .double, .double, .double, .double, .long, .long, .double, .double, .boolean]
  resolved := Array.replicate 460 none
  statics := none }

def pool5 : Array CpInfo := pool [(1, u "java/lang/Cloneable"), (0, .class_ 1), (0, u "java/lang/Object"), (0, .class_ 3)] 3

/-- java/lang/Cloneable -/
def k5 : Class := { plain "java/lang/Cloneable" (some 0) with
  accessFlags := 1537
  interfaces := #[]
  cf := some (fileOf pool5 2 #[] #[] 1537 4 #[] #[])
  fields := #[]
  methods := #[]
  instanceTypes := #[]
  staticTypes := #[]
  resolved := Array.replicate 8 none
  statics := none }

def pool6 : Array CpInfo := pool [(1, u "java/io/Serializable"), (0, .class_ 1), (0, u "java/lang/Object"), (0, .class_ 3)] 3

/-- java/io/Serializable -/
def k6 : Class := { plain "java/io/Serializable" (some 0) with
  accessFlags := 1537
  interfaces := #[]
  cf := some (fileOf pool6 2 #[] #[] 1537 4 #[] #[])
  fields := #[]
  methods := #[]
  instanceTypes := #[]
  staticTypes := #[]
  resolved := Array.replicate 8 none
  statics := none }

/-- the primitive byte -/
def k7 : Class := { plain "byte" none with kind := .primitive 'B', accessFlags := 0x411 }
/-- [B -/
def k8 : Class := { plain "[B" (some 0) with kind := .array 7 .byte, interfaces := #[5, 6], accessFlags := 1041 }

/-- the primitive int -/
def k9 : Class := { plain "int" none with kind := .primitive 'I', accessFlags := 0x411 }
/-- [I -/
def k10 : Class := { plain "[I" (some 0) with kind := .array 9 .int, interfaces := #[5, 6], accessFlags := 1041 }

def heap : Heap := #[]
def classes : Array Class := #[k0, k1, k2, k3, k4, k5, k6, k7, k8, k9, k10]
def interned : List (Array UInt16 × Addr) := []
def slotsUsed : Nat := 0
def theMethod : MethodId := ⟨1, 3⟩
def args0 : Array Value := #[.int 5, .int 2, .int 3, .int 9]
def aboutOver (below : List Frame) : State where
  vm := { classes := classes, interned := interned.toArray }
  heap := heap
  slotsUsed := slotsUsed
  threads := #[{ frames := .invoking theMethod args0 :: below }]
def below0 : List Frame := [.native { method := ⟨0, 0⟩, args := #[] }]
def about1 : State := aboutOver below0
def p0 : Program := .bare "" "" ""
def e0 : Env := launch0.env 0 0 0
theorem w_frames : about1.frames = Frame.invoking theMethod args0 :: below0 := rfl
set_option maxRecDepth 65536 in
theorem w_args : argsFit about1.vm theMethod args0 = true := by decide +kernel
set_option maxRecDepth 65536 in
theorem w_heap : heapFits about1 = true := by decide +kernel
set_option maxRecDepth 65536 in
theorem w_runnable : about1.curStatus? = some .runnable := by decide +kernel
set_option maxRecDepth 65536 in
theorem w_alone : about1.alone = true := by decide +kernel
set_option maxRecDepth 65536 in
theorem w_named : about1.methodNamed? x = some theMethod := by decide +kernel
set_option maxRecDepth 65536 in
theorem w_hears : about1.hears theMethod below0 = true := by decide +kernel
set_option maxRecDepth 65536 in
theorem w_ripe : about1.ripe theMethod args0 below0 = true := by decide +kernel
theorem w_running : about1.status = .running := rfl
set_option maxRecDepth 65536 in
theorem w_room : about1.hasRoom e0.platform room_1 = true :=
  launch0.hasRoom_least _ room_1 (by decide +kernel) (by decide +kernel) (by decide +kernel) (by decide +kernel) (by decide +kernel) (by decide +kernel)
theorem allAtoms_all (ts : List Jvm.Cond) (a : Array Jvm.Value) (st : Jvm.State) : (allAtoms ts).before a st = ts.all (fun c => c.before a st) := by
  induction ts with
  | nil => rfl
  | cons c t ih =>
    show (Jvm.Cond.and c (allAtoms t)).before a st = _
    rw [Jvm.Cond.before_and, ih, List.all_cons]
def words1 : List Jvm.Cond := Jvm.Cond.code x code maxLocals ret :: tables_1
/-- a 'code' word, met by the world's own term for the bytes: nothing is compared byte by byte -/
theorem code_word {y : MethodName} {bytes : ByteArray} {mx : Nat} {rt : Option FieldType} {a : Array Value} {s : State} {m : MethodId} {meth : Method} {c : Code} (h1 : s.methodNamed? y = some m) (h2 : s.vm.method? m = some meth) (h3 : meth.code = some c) (h4 : c.code = bytes)
    (h5 : (c.maxLocals == mx && c.exceptionTable.isEmpty && decide (c.maxStack ≤ mostOperands) && decide (meth.sig.returnType = rt) && !meth.locks && decide (parseMethodDescriptor y.desc = some meth.sig)) = true) : (Jvm.Cond.code y bytes mx rt).before a s = true := by
  simp only [Bool.and_eq_true, beq_iff_eq, Bool.not_eq_true', decide_eq_true_eq] at h5
  obtain ⟨⟨⟨⟨⟨g1, g2⟩, g3⟩, g4⟩, g5⟩, g6⟩ := h5
  simp [Cond.before, Cond.holds, Cond.value, h1, h2, h3, h4, g1, g2, g3, g4, g5, g6]
def isCode : Jvm.Cond → Bool
  | .code _ _ _ _ => true
  | _ => false
theorem all_split {L : List Jvm.Cond} {P : Jvm.Cond → Bool} (h1 : L.all (fun c => isCode c || P c) = true) (h2 : ∀ c ∈ L.filter isCode, P c = true) : L.all P = true := by
  refine List.all_eq_true.mpr fun c hc => ?_
  have h := List.all_eq_true.mp h1 c hc
  rcases Bool.eq_false_or_eq_true (isCode c) with hi | hi
  · exact h2 c (List.mem_filter.mpr ⟨hc, hi⟩)
  · simpa [hi] using h
set_option maxRecDepth 65536 in
theorem w_c0 : (Jvm.Cond.code x code maxLocals ret).before args0 about1 = true := code_word (m := ⟨1, 3⟩) (meth := k1m3) (c := k1c3) (by decide +kernel) rfl rfl rfl (by decide +kernel)
set_option maxRecDepth 65536 in
theorem w_c1 : (Jvm.Cond.code ({ cls := "com/example/types_for_trees/typesfortrees/types/OccurrenceWithinPinLaw", name := "lower", desc := "(I)I" } : Jvm.MethodName) method_2_code (1 : Nat) (Option.some Jvm.ClassFile.FieldType.int)).before args0 about1 = true := code_word (m := ⟨1, 1⟩) (meth := k1m1) (c := k1c1) (by decide +kernel) rfl rfl rfl (by decide +kernel)
set_option maxRecDepth 65536 in
theorem w_c2 : (Jvm.Cond.code ({ cls := "com/example/types_for_trees/typesfortrees/types/OccurrenceWithinPinLaw", name := "upper", desc := "(II)I" } : Jvm.MethodName) method_3_code (4 : Nat) (Option.some Jvm.ClassFile.FieldType.int)).before args0 about1 = true := code_word (m := ⟨1, 2⟩) (meth := k1m2) (c := k1c2) (by decide +kernel) rfl rfl rfl (by decide +kernel)
set_option maxRecDepth 65536 in
theorem w_c3 : (Jvm.Cond.code ({ cls := "com/example/types_for_trees/typesfortrees/types/Occurrence", name := "<init>", desc := "(II)V" } : Jvm.MethodName) prog_179_method_1_code (3 : Nat) (Option.none : Option Jvm.ClassFile.FieldType)).before args0 about1 = true := code_word (m := ⟨3, 0⟩) (meth := k3m0) (c := k3c0) (by decide +kernel) rfl rfl rfl (by decide +kernel)
set_option maxRecDepth 65536 in
theorem w_c4 : (Jvm.Cond.code ({ cls := "java/lang/Record", name := "<init>", desc := "()V" } : Jvm.MethodName) jdk_30_method_1_code (1 : Nat) (Option.none : Option Jvm.ClassFile.FieldType)).before args0 about1 = true := code_word (m := ⟨2, 0⟩) (meth := k2m0) (c := k2c0) (by decide +kernel) rfl rfl rfl (by decide +kernel)
set_option maxRecDepth 65536 in
theorem w_c5 : (Jvm.Cond.code ({ cls := "java/lang/Object", name := "<init>", desc := "()V" } : Jvm.MethodName) object_method_1_code (1 : Nat) (Option.none : Option Jvm.ClassFile.FieldType)).before args0 about1 = true := code_word (m := ⟨0, 0⟩) (meth := k0m0) (c := k0c0) (by decide +kernel) rfl rfl rfl (by decide +kernel)
set_option maxRecDepth 65536 in
theorem w_c6 : (Jvm.Cond.code ({ cls := "com/example/types_for_trees/typesfortrees/types/Occurrence", name := "within", desc := "(Lcom/example/types_for_trees/typesfortrees/types/Occurrence;)Z" } : Jvm.MethodName) prog_179_method_6_code (2 : Nat) (Option.some Jvm.ClassFile.FieldType.boolean)).before args0 about1 = true := code_word (m := ⟨3, 2⟩) (meth := k3m2) (c := k3c2) (by decide +kernel) rfl rfl rfl (by decide +kernel)
set_option maxRecDepth 65536 in
theorem w_c7 : (Jvm.Cond.code ({ cls := "com/example/types_for_trees/typesfortrees/types/Occurrence", name := "or", desc := "(Lcom/example/types_for_trees/typesfortrees/types/Occurrence;)Lcom/example/types_for_trees/typesfortrees/types/Occurrence;" } : Jvm.MethodName) prog_179_method_3_code (2 : Nat) (Option.some (Jvm.ClassFile.FieldType.object "com/example/types_for_trees/typesfortrees/types/Occurrence"))).before args0 about1 = true := code_word (m := ⟨3, 1⟩) (meth := k3m1) (c := k3c1) (by decide +kernel) rfl rfl rfl (by decide +kernel)
set_option maxRecDepth 65536 in
theorem w_c8 : (Jvm.Cond.code ({ cls := "java/lang/Math", name := "min", desc := "(II)I" } : Jvm.MethodName) jdk_29_method_69_code (2 : Nat) (Option.some Jvm.ClassFile.FieldType.int)).before args0 about1 = true := code_word (m := ⟨4, 2⟩) (meth := k4m2) (c := k4c2) (by decide +kernel) rfl rfl rfl (by decide +kernel)
set_option maxRecDepth 65536 in
theorem w_c9 : (Jvm.Cond.code ({ cls := "java/lang/Math", name := "max", desc := "(II)I" } : Jvm.MethodName) jdk_29_method_65_code (2 : Nat) (Option.some Jvm.ClassFile.FieldType.int)).before args0 about1 = true := code_word (m := ⟨4, 1⟩) (meth := k4m1) (c := k4c1) (by decide +kernel) rfl rfl rfl (by decide +kernel)
set_option maxRecDepth 65536 in
theorem w_c10 : (Jvm.Cond.code ({ cls := "com/example/types_for_trees/typesfortrees/types/Occurrence", name := "min", desc := "()I" } : Jvm.MethodName) prog_179_method_15_code (1 : Nat) (Option.some Jvm.ClassFile.FieldType.int)).before args0 about1 = true := code_word (m := ⟨3, 3⟩) (meth := k3m3) (c := k3c3) (by decide +kernel) rfl rfl rfl (by decide +kernel)
set_option maxRecDepth 65536 in
theorem w_c11 : (Jvm.Cond.code ({ cls := "com/example/types_for_trees/typesfortrees/types/Occurrence", name := "max", desc := "()I" } : Jvm.MethodName) prog_179_method_16_code (1 : Nat) (Option.some Jvm.ClassFile.FieldType.int)).before args0 about1 = true := code_word (m := ⟨3, 4⟩) (meth := k3m4) (c := k3c4) (by decide +kernel) rfl rfl rfl (by decide +kernel)
def codes1 : List Jvm.Cond := [Jvm.Cond.code x code maxLocals ret, Jvm.Cond.code ({ cls := "com/example/types_for_trees/typesfortrees/types/OccurrenceWithinPinLaw", name := "lower", desc := "(I)I" } : Jvm.MethodName) method_2_code (1 : Nat) (Option.some Jvm.ClassFile.FieldType.int), Jvm.Cond.code ({ cls := "com/example/types_for_trees/typesfortrees/types/OccurrenceWithinPinLaw", name := "upper", desc := "(II)I" } : Jvm.MethodName) method_3_code (4 : Nat) (Option.some Jvm.ClassFile.FieldType.int), Jvm.Cond.code ({ cls := "com/example/types_for_trees/typesfortrees/types/Occurrence", name := "<init>", desc := "(II)V" } : Jvm.MethodName) prog_179_method_1_code (3 : Nat) (Option.none : Option Jvm.ClassFile.FieldType), Jvm.Cond.code ({ cls := "java/lang/Record", name := "<init>", desc := "()V" } : Jvm.MethodName) jdk_30_method_1_code (1 : Nat) (Option.none : Option Jvm.ClassFile.FieldType), Jvm.Cond.code ({ cls := "java/lang/Object", name := "<init>", desc := "()V" } : Jvm.MethodName) object_method_1_code (1 : Nat) (Option.none : Option Jvm.ClassFile.FieldType), Jvm.Cond.code ({ cls := "com/example/types_for_trees/typesfortrees/types/Occurrence", name := "within", desc := "(Lcom/example/types_for_trees/typesfortrees/types/Occurrence;)Z" } : Jvm.MethodName) prog_179_method_6_code (2 : Nat) (Option.some Jvm.ClassFile.FieldType.boolean), Jvm.Cond.code ({ cls := "com/example/types_for_trees/typesfortrees/types/Occurrence", name := "or", desc := "(Lcom/example/types_for_trees/typesfortrees/types/Occurrence;)Lcom/example/types_for_trees/typesfortrees/types/Occurrence;" } : Jvm.MethodName) prog_179_method_3_code (2 : Nat) (Option.some (Jvm.ClassFile.FieldType.object "com/example/types_for_trees/typesfortrees/types/Occurrence")), Jvm.Cond.code ({ cls := "java/lang/Math", name := "min", desc := "(II)I" } : Jvm.MethodName) jdk_29_method_69_code (2 : Nat) (Option.some Jvm.ClassFile.FieldType.int), Jvm.Cond.code ({ cls := "java/lang/Math", name := "max", desc := "(II)I" } : Jvm.MethodName) jdk_29_method_65_code (2 : Nat) (Option.some Jvm.ClassFile.FieldType.int), Jvm.Cond.code ({ cls := "com/example/types_for_trees/typesfortrees/types/Occurrence", name := "min", desc := "()I" } : Jvm.MethodName) prog_179_method_15_code (1 : Nat) (Option.some Jvm.ClassFile.FieldType.int), Jvm.Cond.code ({ cls := "com/example/types_for_trees/typesfortrees/types/Occurrence", name := "max", desc := "()I" } : Jvm.MethodName) prog_179_method_16_code (1 : Nat) (Option.some Jvm.ClassFile.FieldType.int)]
set_option maxRecDepth 65536 in
theorem codes_eq : words1.filter isCode = codes1 := rfl
theorem w_codes : ∀ c ∈ words1.filter isCode, c.before args0 about1 = true := by
  rw [codes_eq]
  intro c hc
  simp only [codes1, List.mem_cons, List.not_mem_nil, or_false] at hc
  rcases hc with rfl | rfl | rfl | rfl | rfl | rfl | rfl | rfl | rfl | rfl | rfl | rfl
  · exact w_c0
  · exact w_c1
  · exact w_c2
  · exact w_c3
  · exact w_c4
  · exact w_c5
  · exact w_c6
  · exact w_c7
  · exact w_c8
  · exact w_c9
  · exact w_c10
  · exact w_c11
set_option maxRecDepth 65536 in
theorem w_t1 : (words1.take 24).all (fun c => isCode c || c.before args0 about1) = true := by decide +kernel
set_option maxRecDepth 65536 in
theorem w_t2 : ((words1.drop 24).take 24).all (fun c => isCode c || c.before args0 about1) = true := by decide +kernel
set_option maxRecDepth 65536 in
theorem w_t3 : ((words1.drop 24).drop 24).all (fun c => isCode c || c.before args0 about1) = true := by decide +kernel
theorem w_tables : (allAtoms (Jvm.Cond.code x code maxLocals ret :: tables_1)).before args0 about1 = true := by
  rw [allAtoms_all]
  show words1.all (fun c => c.before args0 about1) = true
  refine all_split ?_ w_codes
  rw [← List.take_append_drop 24 words1, List.all_append, w_t1, ← List.take_append_drop 24 (words1.drop 24), List.all_append, w_t2, w_t3]
  rfl
set_option maxRecDepth 65536 in
theorem w_case : (Jvm.Cond.and given_1 narrow_1).before args0 about1 = true := by decide +kernel
theorem w_applies : (headSpec (Jvm.Cond.code x code maxLocals ret :: tables_1) room_1).applies x e0.platform about1 = true :=
  (Spec.applies_iff w_frames).mpr ⟨w_running, w_runnable, w_alone, w_named, w_hears, w_ripe, w_room, w_tables⟩
theorem atStart : AtStart classFile x code maxLocals ret World_1 tables_1 room_1 Calls_1 rest_1 Pre_1 launch0 p0 e0 about1 theMethod args0 below0 :=
  ⟨lists_1, trivial, launch0.admits_env _ _ _, launch0.least_env, fairChoices_fair.cas, fairChoices_fair.clock, w_frames, w_args, w_heap, w_applies, trivial, trivial, w_case⟩
end start1
theorem witness_1 : WitnessClaimed_1 := ⟨start1.p0, start1.e0, start1.about1, start1.theMethod, start1.args0, start1.below0, start1.atStart⟩
end Jvm.Pilot.@@N@@
