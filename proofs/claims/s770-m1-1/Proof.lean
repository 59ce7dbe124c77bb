import JvmDerived
import JvmDerived.Pilot.@@N@@Statement
import JvmDerived.Pilot.@@N@@Code
set_option linter.unusedVariables false
set_option linter.unusedSimpArgs false
namespace Jvm.RoadKit
open Sem ClassFile Op Lib Jvm.Stand Jvm.Free Jvm.LawKit
section New
variable {p : Program} {l : Launch} {e : Env} {R : Room} {s : State} {m : MethodId} {args : Array Value} {below : List Frame} {meth : Method} {c : Code} {T : State} {locs : List Loc} {cells slots : Nat}
theorem retI (X : Stand p l e R s m args below meth c T locs cells slots) (hx : p.tables.exec = Jvm.exec) {pc : Nat} {Ls : Array Slot} {z : Int32} {rest : List Value} (hret : meth.sig.returnType = some .int) (hd : decode c.code pc = .ok (.ireturn, 1)) {fs : List Frame}
    (hl : ∀ (f : JFrame) (acts : List Action), f.method = m → f.locked = none → f.entered = [] → (doReturn e (T.setTop f) acts (some (.int z))).1 = T.setFrames fs) : Steps p.tables e below (T.setTop (mkF m pc Ls (.int z :: rest))) (T.setFrames fs) := by
  have hm' : T.vm.method? m = some meth := X.method'
  have hn : narrow .int (.int z) = .int z := rfl
  show Steps p.tables e below (T.setTop { method := m, pc := pc, locals := Ls, stack := _ :: rest, locked := none }) _
  jvm_step X.here [X.here.top, hx, hd, hm', hret, hn]
  first | (intro acts; rw [hl _ acts rfl rfl rfl]) | rw [hl _ _ rfl rfl rfl]
  exact Steps.refl _
theorem own_lremM {g : JFrame} {target : State} (X : Stand p l e R s m args below meth c T locs cells slots) (hx : p.tables.exec = Jvm.exec) (hg : g.method = m) {x y : Int64} {rest : List Value} (hd : decode c.code g.pc = .ok (.lrem, 1)) (hs : g.stack = .long y :: .long x :: rest) (hy : y ≠ 0)
    (hr : Steps p.tables e below (T.setTop { g with pc := g.pc + 1, stack := .long (x % y) :: rest }) target) : Steps p.tables e below (T.setTop g) target :=
  XS.lrem X.here hx hg hd hs hy (by first | exact hr | (rw [lrem_mod]; exact hr))
theorem own_monoW {s t : State} {o : Outcome} {L : List Loc} {k n k' n' : Nat} (h : ReturnedEndW s o t L k n) (hk : k ≤ k') (hn : n ≤ n') : ReturnedEndW s o t L k' n' := ⟨h.1, h.2.1, h.2.2.1, h.2.2.2.mono hk hn⟩
theorem own_go {α β : Type} {S S' : α → Prop} {P : α → β → Prop} (h : ∀ t, S' t → S t) (g : ∃ n o, S' n ∧ P n o) : ∃ n o, S n ∧ P n o := by
  obtain ⟨n, o, a, b⟩ := g
  exact ⟨n, o, h n a, b⟩
end New
end Jvm.RoadKit
namespace Jvm.Pilot.@@N@@
open Jvm Jvm.ClassFile Sem Op Lib Jvm.Free Jvm.Stand Jvm.LawKit Jvm.RoadKit Bundle Jvm.Pilot.@@N@@.Jvm.D
theorem own_m8 (x r : Int32) (h : r = (x &&& (255 : Int32))) : 0 ≤ r.toInt ∧ r.toInt ≤ 255 := by
  have h1 := c_mask x (255 : Int32) 8 (by decide) (by decide)
  rw [← h] at h1
  omega
theorem own_m16 (x r : Int32) (h : r = (x &&& (65535 : Int32))) : 0 ≤ r.toInt ∧ r.toInt ≤ 65535 := by
  have h1 := c_mask x (65535 : Int32) 16 (by decide) (by decide)
  rw [← h] at h1
  omega
theorem own_s16 (x r : Int32) (h : r = ((x.toUInt32 >>> ((16 : Int32) &&& 31).toUInt32).toInt32)) : 0 ≤ r.toInt ∧ r.toInt ≤ 65535 := by
  have h1 := c_iushr x (16 : Int32) 16 (by decide) (by decide)
  rw [← h] at h1
  omega
theorem own_m32 (x r : Int64) (h : r = (x &&& (4294967295 : Int64))) : 0 ≤ r.toInt ∧ r.toInt ≤ 4294967295 := by
  have h1 := c_maskL x (4294967295 : Int64) 32 (by decide) (by decide)
  rw [← h] at h1
  omega
theorem own_s32 (x r : Int64) (h : r = ((x.toUInt64 >>> ((32 : Int32) &&& 0x3f).toInt64.toUInt64).toInt64)) : 0 ≤ r.toInt ∧ r.toInt ≤ 4294967295 := by
  have h1 := c_lushr x (32 : Int32) 32 (by decide) (by decide)
  rw [← h] at h1
  omega
theorem own_mm (a b n x : Int32) (m : Int) (ha : 0 ≤ a.toInt ∧ a.toInt ≤ m) (hb : 0 ≤ b.toInt ∧ b.toInt ≤ m) (hn : n = (if b < a then b else a)) (hx : x = (if a < b then b else a)) : 0 ≤ n.toInt ∧ n.toInt ≤ x.toInt ∧ x.toInt ≤ m := by
  simp only [Int32.lt_iff_toInt_lt] at hn hx
  split at hn <;> split at hx <;> subst hn <;> subst hx <;> omega
theorem own_mmL (a b n x : Int64) (m : Int) (ha : 0 ≤ a.toInt ∧ a.toInt ≤ m) (hb : 0 ≤ b.toInt ∧ b.toInt ≤ m) (hn : n = (if b < a then b else a)) (hx : x = (if a < b then b else a)) : 0 ≤ n.toInt ∧ n.toInt ≤ x.toInt ∧ x.toInt ≤ m := by
  simp only [Int64.lt_iff_toInt_lt] at hn hx
  split at hn <;> split at hx <;> subst hn <;> subst hx <;> omega
theorem own_ok (t s n : Int32) (c g : Int64) (ht : 0 ≤ t.toInt ∧ t.toInt ≤ 255) (hs : 0 ≤ s.toInt ∧ s.toInt ≤ n.toInt ∧ n.toInt ≤ 65535) (hc : 0 ≤ c.toInt ∧ c.toInt ≤ g.toInt ∧ g.toInt ≤ 4294967295) :
    ¬ (t < (0 : Int32)) ∧ ¬ ((255 : Int32) < t) ∧ ¬ (s < (0 : Int32)) ∧ ¬ (n < s) ∧ ¬ ((65535 : Int32) < n) ∧ ¬ (c < (0 : Int64)) ∧ ¬ (g < c) ∧ ¬ ((4294967295 : Int64) < g) := by
  simp only [Int32.lt_iff_toInt_lt, Int64.lt_iff_toInt_lt]
  have e1 : (0 : Int32).toInt = 0 := by decide
  have e2 : (255 : Int32).toInt = 255 := by decide
  have e3 : (65535 : Int32).toInt = 65535 := by decide
  have e4 : (0 : Int64).toInt = 0 := by decide
  have e5 : (4294967295 : Int64).toInt = 4294967295 := by decide
  omega
theorem own_one {P : Prop} [Decidable P] {r : Int32} (h : r = (if P then (1 : Int32) else (0 : Int32))) : (r = 0 → ¬ P) ∧ (¬ r = 0 → P) ∧ (P → r = 1) ∧ (¬ P → r = 0) := by
  by_cases q : P
  · rw [if_pos q] at h; subst h; exact ⟨fun z => absurd z (by decide), fun _ => q, fun _ => rfl, fun z => absurd q z⟩
  · rw [if_neg q] at h; subst h; exact ⟨fun _ => q, fun z => absurd rfl z, fun z => absurd z q, fun _ => rfl⟩
theorem own_core (t1 t2 q s1 n1 s2 n2 : Int32) (c1 g1 c2 g2 : Int64) (hq : q = (if t1 = (0 : Int32) then (if t2 = (1 : Int32) then (2 : Int32) else (1 : Int32)) else t1)) (h1 : s1.toInt ≤ n1.toInt) (h2 : c1.toInt ≤ g1.toInt) :
    ((t2 = (0 : Int32) ∨ t2 = t1) ∧ ¬ (s1 < s2) ∧ ¬ (n2 < n1) ∧ ¬ (c1 < c2) ∧ ¬ (g2 < g1)) ↔ (((t2 = (0 : Int32) ∨ t2 = q) ∧ ¬ (s1 < s2) ∧ ¬ (n2 < s1) ∧ ¬ (c1 < c2) ∧ ¬ (g2 < c1)) ∧ ((t2 = (0 : Int32) ∨ t2 = q) ∧ ¬ (n1 < s2) ∧ ¬ (n2 < n1) ∧ ¬ (g1 < c2) ∧ ¬ (g2 < g1))) := by
  have hp : (t2 = (0 : Int32) ∨ t2 = t1) ↔ (t2 = (0 : Int32) ∨ t2 = q) := by
    by_cases z : t1 = 0
    · rw [if_pos z] at hq
      subst z
      by_cases y : t2 = 1
      · rw [if_pos y] at hq; subst y hq; decide
      · rw [if_neg y] at hq; subst hq
        exact ⟨fun w => Or.inl (w.elim id id), fun w => w.elim Or.inl (fun v => absurd v y)⟩
    · rw [if_neg z] at hq; rw [hq]
  simp only [hp, Int32.lt_iff_toInt_lt, Int64.lt_iff_toInt_lt]
  constructor
  · rintro ⟨a, b, c, d, e⟩
    exact ⟨⟨a, by omega, by omega, by omega, by omega⟩, ⟨a, by omega, by omega, by omega, by omega⟩⟩
  · rintro ⟨⟨a, b, c, d, e⟩, ⟨_, f, g, i, j⟩⟩
    exact ⟨a, by omega, by omega, by omega, by omega⟩
theorem d1_0 : decode jdk_29_method_69_code 0 = .ok (.iload_n 0, 1) := by decide +kernel
theorem d1_1 : decode jdk_29_method_69_code 1 = .ok (.iload_n 1, 1) := by decide +kernel
theorem d1_2 : decode jdk_29_method_69_code 2 = .ok (.if_icmp .gt 7, 3) := by decide +kernel
theorem d1_5 : decode jdk_29_method_69_code 5 = .ok (.iload_n 0, 1) := by decide +kernel
theorem d1_6 : decode jdk_29_method_69_code 6 = .ok (.goto 4, 3) := by decide +kernel
theorem d1_9 : decode jdk_29_method_69_code 9 = .ok (.iload_n 1, 1) := by decide +kernel
theorem d1_10 : decode jdk_29_method_69_code 10 = .ok (.ireturn, 1) := by decide +kernel
theorem ef_1 (m : MethodId) (x0 : Int32) (x1 : Int32) : entryFrame m #[(.int x0), (.int x1)] 2 = mkF m 0 #[.val (.int x0), .val (.int x1)] [] := by first | (simp [entryFrame, mkF, argsToLocals, Value.category]; done) | rfl
def Q1 (Z : State) (p1 : Int32) (p2 : Int32) (h0 : Heap) (n0 : Nat) (v : Option Value) (h : Heap) (L : List Loc) : Prop := ∃ r : Int32, v = some (.int r) ∧ (r = (if p2 < p1 then p2 else p1)) ∧ Fr n0 L ∧ h = h0
set_option maxRecDepth 65536 in
set_option maxHeartbeats 40000000 in
theorem rm1 (l : Launch) (Z : State) (a0 : Array Value) (hw : ∀ d ∈ tables_1, d.before a0 Z = true) (ws : List Jvm.Cond) (p1 : Int32) (p2 : Int32) (h0 : Heap) (n0 : Nat) (Z0 : n0 ≤ h0.size) :
    MetFree l (⟨"java/lang/Math", "min", "(II)I"⟩ : MethodName) (head1 (Jvm.Cond.code (⟨"java/lang/Math", "min", "(II)I"⟩ : MethodName) jdk_29_method_69_code 2 (some .int) :: ws) ({ frames := 0, cells := 0, slots := 0, locals := 0 } : Room)) (fun a U => a = #[(.int p1), (.int p2)] ∧ Z.Warmed39 U.vm ∧ U.heap = h0) (fun _ _ _ _ _ => True) (fun _ U o U' => ∃ v L, o = .returned v ∧ Q1 Z p1 p2 h0 n0 v U'.heap L ∧ FrameEnd U o U' L ({ frames := 0, cells := 0, slots := 0, locals := 0 } : Room).cells ({ frames := 0, cells := 0, slots := 0, locals := 0 } : Room).slots) := by
  refine MetFree.of_bodySF (Jvm.Free.JP.mathPlain rfl (by decide +kernel)) hisR ?_
  intro p e s m args below meth c s₁ Bd hml0 hP hK
  obtain ⟨rfl, hZ, hh⟩ := hP
  have hx := Bd.exec
  have hby := Bd.bytes
  have hml : c.maxLocals = 2 := hml0
  have hown : s.vm.findClass "java/lang/Math" = some m.cls := findClass_of_methodNamed Bd.named
  have hnm := (name_of_methodNamed Bd.named Bd.method).1
  have X0 : Stand p l e ({ frames := 0, cells := 0, slots := 0, locals := 0 } : Room) s m #[(.int p1), (.int p2)] below meth c s₁ [] 0 0 := Stand.of_body Bd
  have e0 : s₁.heap = h0 := by rw [← hh, Bd.state]; rfl
  have N0 := Fr.nil n0
  have K0 : Keep h0 h0 [] := Keep.refl _ _
  have pre0 : ∀ t, Steps p.tables e below (s₁.setTop (mkF m 0 #[.val (.int p1), .val (.int p2)] [])) t → Steps p.tables e below (s₁.setTop (entryFrame m #[(.int p1), (.int p2)] 2)) t := fun t k => castTop (ef_1 m p1 p2) k
  refine own_go (S' := fun t => Steps p.tables e below (s₁.setTop (mkF m 0 #[.val (.int p1), .val (.int p2)] [])) t) pre0 ?_
  obtain ⟨u, d_u⟩ : ∃ z : Int32, z = (if p2 < p1 then p2 else p1) := ⟨_, rfl⟩
  have j1 : ∀ t, Steps p.tables e below (s₁.setTop (mkF m 10 #[.val (.int p1), .val (.int p2)] [(.int u)])) t → Steps p.tables e below (s₁.setTop (mkF m 2 #[.val (.int p1), .val (.int p2)] [(.int p2), (.int p1)])) t := by
    intro t k
    by_cases hj2 : p2 < p1
    · have q_u : u = p2 := by rw [d_u, if_pos hj2]
      show Steps p.tables e below (s₁.setTop (mkF m 2 #[.val (.int p1), .val (.int p2)] [(.int p2), (.int p1)])) _
      refine XS.icmpYes X0.here hx rfl (pc0 := 2) (pc' := 9) rfl (hb hby d1_2) rfl (tlt hj2).2.2.1 (by decide) (by decide) ?_
      show Steps p.tables e below (s₁.setTop (mkF m 9 #[.val (.int p1), .val (.int p2)] [])) _
      refine XS.iloadN X0.here hx rfl (hb hby d1_9) rfl ?_
      rw [q_u] at k
      exact k
    · have q_u : u = p1 := by rw [d_u, if_neg hj2]
      show Steps p.tables e below (s₁.setTop (mkF m 2 #[.val (.int p1), .val (.int p2)] [(.int p2), (.int p1)])) _
      refine XS.icmpNo X0.here hx rfl (hb hby d1_2) rfl (flt hj2).2.2.1 ?_
      show Steps p.tables e below (s₁.setTop (mkF m 5 #[.val (.int p1), .val (.int p2)] [])) _
      refine XS.iloadN X0.here hx rfl (hb hby d1_5) rfl ?_
      show Steps p.tables e below (s₁.setTop (mkF m 6 #[.val (.int p1), .val (.int p2)] [(.int p1)])) _
      refine XS.goto X0.here hx rfl (pc0 := 6) (pc' := 10) rfl (hb hby d1_6) (by decide) (by decide) ?_
      rw [q_u] at k
      exact k
  obtain ⟨fs, hr, hrun, hended, hW, hsame⟩ := X0.leave (v := some (.int u)) (fun h => by rw [Bd.returns] at h; cases h)
  refine ⟨_, _, ?_, hrun, hended, _, _, rfl, ?_, ⟨_, rfl⟩, hW, hsame.mono (by decide) (by decide)⟩
  · show Steps p.tables e below (s₁.setTop (mkF m 0 #[.val (.int p1), .val (.int p2)] [])) _
    refine XS.iloadN X0.here hx rfl (hb hby d1_0) rfl ?_
    show Steps p.tables e below (s₁.setTop (mkF m 1 #[.val (.int p1), .val (.int p2)] [(.int p1)])) _
    refine XS.iloadN X0.here hx rfl (hb hby d1_1) rfl ?_
    show Steps p.tables e below (s₁.setTop (mkF m 2 #[.val (.int p1), .val (.int p2)] [(.int p2), (.int p1)])) _
    refine j1 _ ?_
    show Steps p.tables e below (s₁.setTop (mkF m 10 #[.val (.int p1), .val (.int p2)] [(.int u)])) _
    exact retI X0 hx Bd.returns (hb hby d1_10) hr
  · show Q1 Z p1 p2 h0 n0 _ s₁.heap _
    rw [e0]
    exact ⟨_, rfl, d_u, N0, rfl⟩
theorem d2_0 : decode jdk_29_method_65_code 0 = .ok (.iload_n 0, 1) := by decide +kernel
theorem d2_1 : decode jdk_29_method_65_code 1 = .ok (.iload_n 1, 1) := by decide +kernel
theorem d2_2 : decode jdk_29_method_65_code 2 = .ok (.if_icmp .lt 7, 3) := by decide +kernel
theorem d2_5 : decode jdk_29_method_65_code 5 = .ok (.iload_n 0, 1) := by decide +kernel
theorem d2_6 : decode jdk_29_method_65_code 6 = .ok (.goto 4, 3) := by decide +kernel
theorem d2_9 : decode jdk_29_method_65_code 9 = .ok (.iload_n 1, 1) := by decide +kernel
theorem d2_10 : decode jdk_29_method_65_code 10 = .ok (.ireturn, 1) := by decide +kernel
theorem ef_2 (m : MethodId) (x0 : Int32) (x1 : Int32) : entryFrame m #[(.int x0), (.int x1)] 2 = mkF m 0 #[.val (.int x0), .val (.int x1)] [] := by first | (simp [entryFrame, mkF, argsToLocals, Value.category]; done) | rfl
def Q2 (Z : State) (p1 : Int32) (p2 : Int32) (h0 : Heap) (n0 : Nat) (v : Option Value) (h : Heap) (L : List Loc) : Prop := ∃ r : Int32, v = some (.int r) ∧ (r = (if p1 < p2 then p2 else p1)) ∧ Fr n0 L ∧ h = h0
set_option maxRecDepth 65536 in
set_option maxHeartbeats 40000000 in
theorem rm2 (l : Launch) (Z : State) (a0 : Array Value) (hw : ∀ d ∈ tables_1, d.before a0 Z = true) (ws : List Jvm.Cond) (p1 : Int32) (p2 : Int32) (h0 : Heap) (n0 : Nat) (Z0 : n0 ≤ h0.size) :
    MetFree l (⟨"java/lang/Math", "max", "(II)I"⟩ : MethodName) (head1 (Jvm.Cond.code (⟨"java/lang/Math", "max", "(II)I"⟩ : MethodName) jdk_29_method_65_code 2 (some .int) :: ws) ({ frames := 0, cells := 0, slots := 0, locals := 0 } : Room)) (fun a U => a = #[(.int p1), (.int p2)] ∧ Z.Warmed39 U.vm ∧ U.heap = h0) (fun _ _ _ _ _ => True) (fun _ U o U' => ∃ v L, o = .returned v ∧ Q2 Z p1 p2 h0 n0 v U'.heap L ∧ FrameEnd U o U' L ({ frames := 0, cells := 0, slots := 0, locals := 0 } : Room).cells ({ frames := 0, cells := 0, slots := 0, locals := 0 } : Room).slots) := by
  refine MetFree.of_bodySF (Jvm.Free.JP.mathPlain rfl (by decide +kernel)) hisR ?_
  intro p e s m args below meth c s₁ Bd hml0 hP hK
  obtain ⟨rfl, hZ, hh⟩ := hP
  have hx := Bd.exec
  have hby := Bd.bytes
  have hml : c.maxLocals = 2 := hml0
  have hown : s.vm.findClass "java/lang/Math" = some m.cls := findClass_of_methodNamed Bd.named
  have hnm := (name_of_methodNamed Bd.named Bd.method).1
  have X0 : Stand p l e ({ frames := 0, cells := 0, slots := 0, locals := 0 } : Room) s m #[(.int p1), (.int p2)] below meth c s₁ [] 0 0 := Stand.of_body Bd
  have e0 : s₁.heap = h0 := by rw [← hh, Bd.state]; rfl
  have N0 := Fr.nil n0
  have K0 : Keep h0 h0 [] := Keep.refl _ _
  have pre0 : ∀ t, Steps p.tables e below (s₁.setTop (mkF m 0 #[.val (.int p1), .val (.int p2)] [])) t → Steps p.tables e below (s₁.setTop (entryFrame m #[(.int p1), (.int p2)] 2)) t := fun t k => castTop (ef_2 m p1 p2) k
  refine own_go (S' := fun t => Steps p.tables e below (s₁.setTop (mkF m 0 #[.val (.int p1), .val (.int p2)] [])) t) pre0 ?_
  obtain ⟨u, d_u⟩ : ∃ z : Int32, z = (if p1 < p2 then p2 else p1) := ⟨_, rfl⟩
  have j1 : ∀ t, Steps p.tables e below (s₁.setTop (mkF m 10 #[.val (.int p1), .val (.int p2)] [(.int u)])) t → Steps p.tables e below (s₁.setTop (mkF m 2 #[.val (.int p1), .val (.int p2)] [(.int p2), (.int p1)])) t := by
    intro t k
    by_cases hj2 : p1 < p2
    · have q_u : u = p2 := by rw [d_u, if_pos hj2]
      show Steps p.tables e below (s₁.setTop (mkF m 2 #[.val (.int p1), .val (.int p2)] [(.int p2), (.int p1)])) _
      refine XS.icmpYes X0.here hx rfl (pc0 := 2) (pc' := 9) rfl (hb hby d2_2) rfl (tlt hj2).1 (by decide) (by decide) ?_
      show Steps p.tables e below (s₁.setTop (mkF m 9 #[.val (.int p1), .val (.int p2)] [])) _
      refine XS.iloadN X0.here hx rfl (hb hby d2_9) rfl ?_
      rw [q_u] at k
      exact k
    · have q_u : u = p1 := by rw [d_u, if_neg hj2]
      show Steps p.tables e below (s₁.setTop (mkF m 2 #[.val (.int p1), .val (.int p2)] [(.int p2), (.int p1)])) _
      refine XS.icmpNo X0.here hx rfl (hb hby d2_2) rfl (flt hj2).1 ?_
      show Steps p.tables e below (s₁.setTop (mkF m 5 #[.val (.int p1), .val (.int p2)] [])) _
      refine XS.iloadN X0.here hx rfl (hb hby d2_5) rfl ?_
      show Steps p.tables e below (s₁.setTop (mkF m 6 #[.val (.int p1), .val (.int p2)] [(.int p1)])) _
      refine XS.goto X0.here hx rfl (pc0 := 6) (pc' := 10) rfl (hb hby d2_6) (by decide) (by decide) ?_
      rw [q_u] at k
      exact k
  obtain ⟨fs, hr, hrun, hended, hW, hsame⟩ := X0.leave (v := some (.int u)) (fun h => by rw [Bd.returns] at h; cases h)
  refine ⟨_, _, ?_, hrun, hended, _, _, rfl, ?_, ⟨_, rfl⟩, hW, hsame.mono (by decide) (by decide)⟩
  · show Steps p.tables e below (s₁.setTop (mkF m 0 #[.val (.int p1), .val (.int p2)] [])) _
    refine XS.iloadN X0.here hx rfl (hb hby d2_0) rfl ?_
    show Steps p.tables e below (s₁.setTop (mkF m 1 #[.val (.int p1), .val (.int p2)] [(.int p1)])) _
    refine XS.iloadN X0.here hx rfl (hb hby d2_1) rfl ?_
    show Steps p.tables e below (s₁.setTop (mkF m 2 #[.val (.int p1), .val (.int p2)] [(.int p2), (.int p1)])) _
    refine j1 _ ?_
    show Steps p.tables e below (s₁.setTop (mkF m 10 #[.val (.int p1), .val (.int p2)] [(.int u)])) _
    exact retI X0 hx Bd.returns (hb hby d2_10) hr
  · show Q2 Z p1 p2 h0 n0 _ s₁.heap _
    rw [e0]
    exact ⟨_, rfl, d_u, N0, rfl⟩
theorem d3_0 : decode jdk_29_method_70_code 0 = .ok (.lload_n 0, 1) := by decide +kernel
theorem d3_1 : decode jdk_29_method_70_code 1 = .ok (.lload_n 2, 1) := by decide +kernel
theorem d3_2 : decode jdk_29_method_70_code 2 = .ok (.lcmp, 1) := by decide +kernel
theorem d3_3 : decode jdk_29_method_70_code 3 = .ok (.ifCond .gt 7, 3) := by decide +kernel
theorem d3_6 : decode jdk_29_method_70_code 6 = .ok (.lload_n 0, 1) := by decide +kernel
theorem d3_7 : decode jdk_29_method_70_code 7 = .ok (.goto 4, 3) := by decide +kernel
theorem d3_10 : decode jdk_29_method_70_code 10 = .ok (.lload_n 2, 1) := by decide +kernel
theorem d3_11 : decode jdk_29_method_70_code 11 = .ok (.lreturn, 1) := by decide +kernel
theorem ef_3 (m : MethodId) (x0 : Int64) (x1 : Int64) : entryFrame m #[(.long x0), (.long x1)] 4 = mkF m 0 #[.val (.long x0), .second, .val (.long x1), .second] [] := by first | (simp [entryFrame, mkF, argsToLocals, Value.category]; done) | rfl
def Q3 (Z : State) (q1 : Int64) (q2 : Int64) (h0 : Heap) (n0 : Nat) (v : Option Value) (h : Heap) (L : List Loc) : Prop := ∃ r : Int64, v = some (.long r) ∧ (r = (if q2 < q1 then q2 else q1)) ∧ Fr n0 L ∧ h = h0
set_option maxRecDepth 65536 in
set_option maxHeartbeats 40000000 in
theorem rm3 (l : Launch) (Z : State) (a0 : Array Value) (hw : ∀ d ∈ tables_1, d.before a0 Z = true) (ws : List Jvm.Cond) (q1 : Int64) (q2 : Int64) (h0 : Heap) (n0 : Nat) (Z0 : n0 ≤ h0.size) :
    MetFree l (⟨"java/lang/Math", "min", "(JJ)J"⟩ : MethodName) (head1 (Jvm.Cond.code (⟨"java/lang/Math", "min", "(JJ)J"⟩ : MethodName) jdk_29_method_70_code 4 (some .long) :: ws) ({ frames := 0, cells := 0, slots := 0, locals := 0 } : Room)) (fun a U => a = #[(.long q1), (.long q2)] ∧ Z.Warmed39 U.vm ∧ U.heap = h0) (fun _ _ _ _ _ => True) (fun _ U o U' => ∃ v L, o = .returned v ∧ Q3 Z q1 q2 h0 n0 v U'.heap L ∧ FrameEnd U o U' L ({ frames := 0, cells := 0, slots := 0, locals := 0 } : Room).cells ({ frames := 0, cells := 0, slots := 0, locals := 0 } : Room).slots) := by
  refine MetFree.of_bodySF (Jvm.Free.JP.mathPlain rfl (by decide +kernel)) hisR ?_
  intro p e s m args below meth c s₁ Bd hml0 hP hK
  obtain ⟨rfl, hZ, hh⟩ := hP
  have hx := Bd.exec
  have hby := Bd.bytes
  have hml : c.maxLocals = 4 := hml0
  have hown : s.vm.findClass "java/lang/Math" = some m.cls := findClass_of_methodNamed Bd.named
  have hnm := (name_of_methodNamed Bd.named Bd.method).1
  have X0 : Stand p l e ({ frames := 0, cells := 0, slots := 0, locals := 0 } : Room) s m #[(.long q1), (.long q2)] below meth c s₁ [] 0 0 := Stand.of_body Bd
  have e0 : s₁.heap = h0 := by rw [← hh, Bd.state]; rfl
  have N0 := Fr.nil n0
  have K0 : Keep h0 h0 [] := Keep.refl _ _
  have pre0 : ∀ t, Steps p.tables e below (s₁.setTop (mkF m 0 #[.val (.long q1), .second, .val (.long q2), .second] [])) t → Steps p.tables e below (s₁.setTop (entryFrame m #[(.long q1), (.long q2)] 4)) t := fun t k => castTop (ef_3 m q1 q2) k
  refine own_go (S' := fun t => Steps p.tables e below (s₁.setTop (mkF m 0 #[.val (.long q1), .second, .val (.long q2), .second] [])) t) pre0 ?_
  obtain ⟨u, d_u⟩ : ∃ z : Int64, z = (if q2 < q1 then q2 else q1) := ⟨_, rfl⟩
  have j1 : ∀ t, Steps p.tables e below (s₁.setTop (mkF m 11 #[.val (.long q1), .second, .val (.long q2), .second] [(.long u)])) t → Steps p.tables e below (s₁.setTop (mkF m 3 #[.val (.long q1), .second, .val (.long q2), .second] [(.int (lcmpW q1 q2))])) t := by
    intro t k
    by_cases hj3 : q2 < q1
    · have q_u : u = q2 := by rw [d_u, if_pos hj3]
      show Steps p.tables e below (s₁.setTop (mkF m 3 #[.val (.long q1), .second, .val (.long q2), .second] [(.int (lcmpW q1 q2))])) _
      refine XS.ifYes X0.here hx rfl (pc0 := 3) (pc' := 10) rfl (hb hby d3_3) rfl ((if0 _ _).trans (tlt ((lw_gt _ _).mpr hj3)).2.2.1) (by decide) (by decide) ?_
      show Steps p.tables e below (s₁.setTop (mkF m 10 #[.val (.long q1), .second, .val (.long q2), .second] [])) _
      refine XS.lloadN X0.here hx rfl (hb hby d3_10) rfl ?_
      rw [q_u] at k
      exact k
    · have q_u : u = q1 := by rw [d_u, if_neg hj3]
      show Steps p.tables e below (s₁.setTop (mkF m 3 #[.val (.long q1), .second, .val (.long q2), .second] [(.int (lcmpW q1 q2))])) _
      refine XS.ifNo X0.here hx rfl (hb hby d3_3) rfl ((if0 _ _).trans (flt (fun z => hj3 ((lw_gt _ _).mp z))).2.2.1) ?_
      show Steps p.tables e below (s₁.setTop (mkF m 6 #[.val (.long q1), .second, .val (.long q2), .second] [])) _
      refine XS.lloadN X0.here hx rfl (hb hby d3_6) rfl ?_
      show Steps p.tables e below (s₁.setTop (mkF m 7 #[.val (.long q1), .second, .val (.long q2), .second] [(.long q1)])) _
      refine XS.goto X0.here hx rfl (pc0 := 7) (pc' := 11) rfl (hb hby d3_7) (by decide) (by decide) ?_
      rw [q_u] at k
      exact k
  obtain ⟨fs, hr, hrun, hended, hW, hsame⟩ := X0.leave (v := some (.long u)) (fun h => by rw [Bd.returns] at h; cases h)
  refine ⟨_, _, ?_, hrun, hended, _, _, rfl, ?_, ⟨_, rfl⟩, hW, hsame.mono (by decide) (by decide)⟩
  · show Steps p.tables e below (s₁.setTop (mkF m 0 #[.val (.long q1), .second, .val (.long q2), .second] [])) _
    refine XS.lloadN X0.here hx rfl (hb hby d3_0) rfl ?_
    show Steps p.tables e below (s₁.setTop (mkF m 1 #[.val (.long q1), .second, .val (.long q2), .second] [(.long q1)])) _
    refine XS.lloadN X0.here hx rfl (hb hby d3_1) rfl ?_
    show Steps p.tables e below (s₁.setTop (mkF m 2 #[.val (.long q1), .second, .val (.long q2), .second] [(.long q2), (.long q1)])) _
    refine XS.lcmp X0.here hx rfl (hb hby d3_2) rfl ?_
    show Steps p.tables e below (s₁.setTop (mkF m 3 #[.val (.long q1), .second, .val (.long q2), .second] [(.int (lcmpW q1 q2))])) _
    refine j1 _ ?_
    show Steps p.tables e below (s₁.setTop (mkF m 11 #[.val (.long q1), .second, .val (.long q2), .second] [(.long u)])) _
    jvm_step X0.here [X0.here.top, hx, (hb hby d3_11), X0.method', Bd.returns, narrow]
    first | (intro acts; rw [hr _ acts rfl rfl rfl]) | rw [hr _ _ rfl rfl rfl]
    exact Steps.refl _
  · show Q3 Z q1 q2 h0 n0 _ s₁.heap _
    rw [e0]
    exact ⟨_, rfl, d_u, N0, rfl⟩
theorem d4_0 : decode jdk_29_method_66_code 0 = .ok (.lload_n 0, 1) := by decide +kernel
theorem d4_1 : decode jdk_29_method_66_code 1 = .ok (.lload_n 2, 1) := by decide +kernel
theorem d4_2 : decode jdk_29_method_66_code 2 = .ok (.lcmp, 1) := by decide +kernel
theorem d4_3 : decode jdk_29_method_66_code 3 = .ok (.ifCond .lt 7, 3) := by decide +kernel
theorem d4_6 : decode jdk_29_method_66_code 6 = .ok (.lload_n 0, 1) := by decide +kernel
theorem d4_7 : decode jdk_29_method_66_code 7 = .ok (.goto 4, 3) := by decide +kernel
theorem d4_10 : decode jdk_29_method_66_code 10 = .ok (.lload_n 2, 1) := by decide +kernel
theorem d4_11 : decode jdk_29_method_66_code 11 = .ok (.lreturn, 1) := by decide +kernel
theorem ef_4 (m : MethodId) (x0 : Int64) (x1 : Int64) : entryFrame m #[(.long x0), (.long x1)] 4 = mkF m 0 #[.val (.long x0), .second, .val (.long x1), .second] [] := by first | (simp [entryFrame, mkF, argsToLocals, Value.category]; done) | rfl
def Q4 (Z : State) (q1 : Int64) (q2 : Int64) (h0 : Heap) (n0 : Nat) (v : Option Value) (h : Heap) (L : List Loc) : Prop := ∃ r : Int64, v = some (.long r) ∧ (r = (if q1 < q2 then q2 else q1)) ∧ Fr n0 L ∧ h = h0
set_option maxRecDepth 65536 in
set_option maxHeartbeats 40000000 in
theorem rm4 (l : Launch) (Z : State) (a0 : Array Value) (hw : ∀ d ∈ tables_1, d.before a0 Z = true) (ws : List Jvm.Cond) (q1 : Int64) (q2 : Int64) (h0 : Heap) (n0 : Nat) (Z0 : n0 ≤ h0.size) :
    MetFree l (⟨"java/lang/Math", "max", "(JJ)J"⟩ : MethodName) (head1 (Jvm.Cond.code (⟨"java/lang/Math", "max", "(JJ)J"⟩ : MethodName) jdk_29_method_66_code 4 (some .long) :: ws) ({ frames := 0, cells := 0, slots := 0, locals := 0 } : Room)) (fun a U => a = #[(.long q1), (.long q2)] ∧ Z.Warmed39 U.vm ∧ U.heap = h0) (fun _ _ _ _ _ => True) (fun _ U o U' => ∃ v L, o = .returned v ∧ Q4 Z q1 q2 h0 n0 v U'.heap L ∧ FrameEnd U o U' L ({ frames := 0, cells := 0, slots := 0, locals := 0 } : Room).cells ({ frames := 0, cells := 0, slots := 0, locals := 0 } : Room).slots) := by
  refine MetFree.of_bodySF (Jvm.Free.JP.mathPlain rfl (by decide +kernel)) hisR ?_
  intro p e s m args below meth c s₁ Bd hml0 hP hK
  obtain ⟨rfl, hZ, hh⟩ := hP
  have hx := Bd.exec
  have hby := Bd.bytes
  have hml : c.maxLocals = 4 := hml0
  have hown : s.vm.findClass "java/lang/Math" = some m.cls := findClass_of_methodNamed Bd.named
  have hnm := (name_of_methodNamed Bd.named Bd.method).1
  have X0 : Stand p l e ({ frames := 0, cells := 0, slots := 0, locals := 0 } : Room) s m #[(.long q1), (.long q2)] below meth c s₁ [] 0 0 := Stand.of_body Bd
  have e0 : s₁.heap = h0 := by rw [← hh, Bd.state]; rfl
  have N0 := Fr.nil n0
  have K0 : Keep h0 h0 [] := Keep.refl _ _
  have pre0 : ∀ t, Steps p.tables e below (s₁.setTop (mkF m 0 #[.val (.long q1), .second, .val (.long q2), .second] [])) t → Steps p.tables e below (s₁.setTop (entryFrame m #[(.long q1), (.long q2)] 4)) t := fun t k => castTop (ef_4 m q1 q2) k
  refine own_go (S' := fun t => Steps p.tables e below (s₁.setTop (mkF m 0 #[.val (.long q1), .second, .val (.long q2), .second] [])) t) pre0 ?_
  obtain ⟨u, d_u⟩ : ∃ z : Int64, z = (if q1 < q2 then q2 else q1) := ⟨_, rfl⟩
  have j1 : ∀ t, Steps p.tables e below (s₁.setTop (mkF m 11 #[.val (.long q1), .second, .val (.long q2), .second] [(.long u)])) t → Steps p.tables e below (s₁.setTop (mkF m 3 #[.val (.long q1), .second, .val (.long q2), .second] [(.int (lcmpW q1 q2))])) t := by
    intro t k
    by_cases hj3 : q1 < q2
    · have q_u : u = q2 := by rw [d_u, if_pos hj3]
      show Steps p.tables e below (s₁.setTop (mkF m 3 #[.val (.long q1), .second, .val (.long q2), .second] [(.int (lcmpW q1 q2))])) _
      refine XS.ifYes X0.here hx rfl (pc0 := 3) (pc' := 10) rfl (hb hby d4_3) rfl ((if0 _ _).trans (tlt ((lw_lt _ _).mpr hj3)).1) (by decide) (by decide) ?_
      show Steps p.tables e below (s₁.setTop (mkF m 10 #[.val (.long q1), .second, .val (.long q2), .second] [])) _
      refine XS.lloadN X0.here hx rfl (hb hby d4_10) rfl ?_
      rw [q_u] at k
      exact k
    · have q_u : u = q1 := by rw [d_u, if_neg hj3]
      show Steps p.tables e below (s₁.setTop (mkF m 3 #[.val (.long q1), .second, .val (.long q2), .second] [(.int (lcmpW q1 q2))])) _
      refine XS.ifNo X0.here hx rfl (hb hby d4_3) rfl ((if0 _ _).trans (flt (fun z => hj3 ((lw_lt _ _).mp z))).1) ?_
      show Steps p.tables e below (s₁.setTop (mkF m 6 #[.val (.long q1), .second, .val (.long q2), .second] [])) _
      refine XS.lloadN X0.here hx rfl (hb hby d4_6) rfl ?_
      show Steps p.tables e below (s₁.setTop (mkF m 7 #[.val (.long q1), .second, .val (.long q2), .second] [(.long q1)])) _
      refine XS.goto X0.here hx rfl (pc0 := 7) (pc' := 11) rfl (hb hby d4_7) (by decide) (by decide) ?_
      rw [q_u] at k
      exact k
  obtain ⟨fs, hr, hrun, hended, hW, hsame⟩ := X0.leave (v := some (.long u)) (fun h => by rw [Bd.returns] at h; cases h)
  refine ⟨_, _, ?_, hrun, hended, _, _, rfl, ?_, ⟨_, rfl⟩, hW, hsame.mono (by decide) (by decide)⟩
  · show Steps p.tables e below (s₁.setTop (mkF m 0 #[.val (.long q1), .second, .val (.long q2), .second] [])) _
    refine XS.lloadN X0.here hx rfl (hb hby d4_0) rfl ?_
    show Steps p.tables e below (s₁.setTop (mkF m 1 #[.val (.long q1), .second, .val (.long q2), .second] [(.long q1)])) _
    refine XS.lloadN X0.here hx rfl (hb hby d4_1) rfl ?_
    show Steps p.tables e below (s₁.setTop (mkF m 2 #[.val (.long q1), .second, .val (.long q2), .second] [(.long q2), (.long q1)])) _
    refine XS.lcmp X0.here hx rfl (hb hby d4_2) rfl ?_
    show Steps p.tables e below (s₁.setTop (mkF m 3 #[.val (.long q1), .second, .val (.long q2), .second] [(.int (lcmpW q1 q2))])) _
    refine j1 _ ?_
    show Steps p.tables e below (s₁.setTop (mkF m 11 #[.val (.long q1), .second, .val (.long q2), .second] [(.long u)])) _
    jvm_step X0.here [X0.here.top, hx, (hb hby d4_11), X0.method', Bd.returns, narrow]
    first | (intro acts; rw [hr _ acts rfl rfl rfl]) | rw [hr _ _ rfl rfl rfl]
    exact Steps.refl _
  · show Q4 Z q1 q2 h0 n0 _ s₁.heap _
    rw [e0]
    exact ⟨_, rfl, d_u, N0, rfl⟩
theorem d6_0 : decode jdk_30_method_1_code 0 = .ok (.aload_n 0, 1) := by decide +kernel
theorem d6_1 : decode jdk_30_method_1_code 1 = .ok (.invokespecial 1, 3) := by decide +kernel
theorem d6_4 : decode jdk_30_method_1_code 4 = .ok (.return_, 1) := by decide +kernel
theorem pn_6 : plainName "java/lang/Record" = true := by first | (simp [plainName, overriddenIn]; done) | decide +kernel
theorem ef_6 (m : MethodId) (x0 : Addr) : entryFrame m #[(.ref x0)] 1 = mkF m 0 #[.val (.ref x0)] [] := by first | (simp [entryFrame, mkF, argsToLocals, Value.category]; done) | rfl
def Q6 (Z : State) (a1 : Addr) (h0 : Heap) (n0 : Nat) (v : Option Value) (h : Heap) (L : List Loc) : Prop := v = none ∧ Fr n0 L ∧ h = h0
set_option maxRecDepth 65536 in
set_option maxHeartbeats 40000000 in
theorem rm6 (l : Launch) (Z : State) (a0 : Array Value) (hw : ∀ d ∈ tables_1, d.before a0 Z = true) (ws : List Jvm.Cond) (a1 : Addr) (h0 : Heap) (n0 : Nat) (Z0 : n0 ≤ h0.size) :
    MetFree l (⟨"java/lang/Record", "<init>", "()V"⟩ : MethodName) (head1 (Jvm.Cond.code (⟨"java/lang/Record", "<init>", "()V"⟩ : MethodName) jdk_30_method_1_code 1 none :: ws) ({ frames := 1, cells := 0, slots := 0, locals := 12 } : Room)) (fun a U => a = #[(.ref a1)] ∧ Z.Warmed39 U.vm ∧ U.heap = h0) (fun _ _ _ _ _ => True) (fun _ U o U' => ∃ v L, o = .returned v ∧ Q6 Z a1 h0 n0 v U'.heap L ∧ FrameEnd U o U' L ({ frames := 1, cells := 0, slots := 0, locals := 12 } : Room).cells ({ frames := 1, cells := 0, slots := 0, locals := 12 } : Room).slots) := by
  refine MetFree.of_bodySF (plainFor_of_name pn_6) hisR ?_
  intro p e s m args below meth c s₁ Bd hml0 hP hK
  obtain ⟨rfl, hZ, hh⟩ := hP
  have hx := Bd.exec
  have hby := Bd.bytes
  have hml : c.maxLocals = 1 := hml0
  have hown : s.vm.findClass "java/lang/Record" = some m.cls := findClass_of_methodNamed Bd.named
  have hnm := (name_of_methodNamed Bd.named Bd.method).1
  have X0 : Stand p l e ({ frames := 1, cells := 0, slots := 0, locals := 12 } : Room) s m #[(.ref a1)] below meth c s₁ [] 0 0 := Stand.of_body Bd
  have e0 : s₁.heap = h0 := by rw [← hh, Bd.state]; rfl
  have N0 := Fr.nil n0
  have K0 : Keep h0 h0 [] := Keep.refl _ _
  have pre0 : ∀ t, Steps p.tables e below (s₁.setTop (mkF m 0 #[.val (.ref a1)] [])) t → Steps p.tables e below (s₁.setTop (entryFrame m #[(.ref a1)] 1)) t := fun t k => castTop (ef_6 m a1) k
  refine own_go (S' := fun t => Steps p.tables e below (s₁.setTop (mkF m 0 #[.val (.ref a1)] [])) t) pre0 ?_
  obtain ⟨T1, X1, e1, st1⟩ := initO X0 hx hZ hown (hw _ (List.mem_of_getElem? (i := 26) rfl)) (hw _ (List.mem_of_getElem? (i := 27) rfl)) (hw _ (List.mem_of_getElem? (i := 28) rfl)) e0 (g := (mkF m 1 #[.val (.ref a1)] [(.ref a1)])) rfl (by rw [hml]; rfl) rfl (hb hby d6_1) (by decide) (W := 0) (by show 2 * 0 + _ ≤ _; exact Nat.le_of_eq rfl) (by decide)
  obtain ⟨fs, hr, hrun, hended, hW, hsame⟩ := X1.leave (v := none) (fun _ => rfl)
  refine ⟨_, _, ?_, hrun, hended, _, _, rfl, ?_, ⟨_, rfl⟩, hW, hsame.mono (by decide) (by decide)⟩
  · show Steps p.tables e below (s₁.setTop (mkF m 0 #[.val (.ref a1)] [])) _
    refine XS.aloadN X0.here hx rfl (hb hby d6_0) rfl rfl ?_
    show Steps p.tables e below (s₁.setTop (mkF m 1 #[.val (.ref a1)] [(.ref a1)])) _
    refine st1 _ ?_
    show Steps p.tables e below (T1.setTop (mkF m 4 #[.val (.ref a1)] [])) _
    exact X1.returnOut hx Bd.returns (hb hby d6_4) hr
  · show Q6 Z a1 h0 n0 _ T1.heap _
    rw [e1]
    exact ⟨rfl, N0, rfl⟩
theorem pd_0 : parseMethodDescriptor "()V" = some ⟨[], none⟩ := by decide +kernel
theorem d5_0 : decode prog_31_method_1_code 0 = .ok (.aload_n 0, 1) := by decide +kernel
theorem d5_1 : decode prog_31_method_1_code 1 = .ok (.invokespecial 1, 3) := by decide +kernel
theorem d5_4 : decode prog_31_method_1_code 4 = .ok (.iload_n 1, 1) := by decide +kernel
theorem d5_5 : decode prog_31_method_1_code 5 = .ok (.ifCond .lt 25, 3) := by decide +kernel
theorem d5_8 : decode prog_31_method_1_code 8 = .ok (.iload_n 1, 1) := by decide +kernel
theorem d5_9 : decode prog_31_method_1_code 9 = .ok (.sipush 255, 3) := by decide +kernel
theorem d5_12 : decode prog_31_method_1_code 12 = .ok (.if_icmp .gt 18, 3) := by decide +kernel
theorem d5_15 : decode prog_31_method_1_code 15 = .ok (.iload_n 2, 1) := by decide +kernel
theorem d5_16 : decode prog_31_method_1_code 16 = .ok (.ifCond .lt 14, 3) := by decide +kernel
theorem d5_19 : decode prog_31_method_1_code 19 = .ok (.iload_n 2, 1) := by decide +kernel
theorem d5_20 : decode prog_31_method_1_code 20 = .ok (.iload_n 3, 1) := by decide +kernel
theorem d5_21 : decode prog_31_method_1_code 21 = .ok (.if_icmp .gt 9, 3) := by decide +kernel
theorem d5_24 : decode prog_31_method_1_code 24 = .ok (.iload_n 3, 1) := by decide +kernel
theorem d5_25 : decode prog_31_method_1_code 25 = .ok (.ldc 7, 2) := by decide +kernel
theorem d5_27 : decode prog_31_method_1_code 27 = .ok (.if_icmp .le 19, 3) := by decide +kernel
theorem d5_46 : decode prog_31_method_1_code 46 = .ok (.lload 4, 2) := by decide +kernel
theorem d5_48 : decode prog_31_method_1_code 48 = .ok (.lconst 0, 1) := by decide +kernel
theorem d5_49 : decode prog_31_method_1_code 49 = .ok (.lcmp, 1) := by decide +kernel
theorem d5_50 : decode prog_31_method_1_code 50 = .ok (.ifCond .lt 20, 3) := by decide +kernel
theorem d5_53 : decode prog_31_method_1_code 53 = .ok (.lload 4, 2) := by decide +kernel
theorem d5_55 : decode prog_31_method_1_code 55 = .ok (.lload 6, 2) := by decide +kernel
theorem d5_57 : decode prog_31_method_1_code 57 = .ok (.lcmp, 1) := by decide +kernel
theorem d5_58 : decode prog_31_method_1_code 58 = .ok (.ifCond .gt 12, 3) := by decide +kernel
theorem d5_61 : decode prog_31_method_1_code 61 = .ok (.lload 6, 2) := by decide +kernel
theorem d5_63 : decode prog_31_method_1_code 63 = .ok (.ldc2_w 19, 3) := by decide +kernel
theorem d5_66 : decode prog_31_method_1_code 66 = .ok (.lcmp, 1) := by decide +kernel
theorem d5_67 : decode prog_31_method_1_code 67 = .ok (.ifCond .le 20, 3) := by decide +kernel
theorem d5_87 : decode prog_31_method_1_code 87 = .ok (.aload_n 0, 1) := by decide +kernel
theorem d5_88 : decode prog_31_method_1_code 88 = .ok (.iload_n 1, 1) := by decide +kernel
theorem d5_89 : decode prog_31_method_1_code 89 = .ok (.putfield 24, 3) := by decide +kernel
theorem d5_92 : decode prog_31_method_1_code 92 = .ok (.aload_n 0, 1) := by decide +kernel
theorem d5_93 : decode prog_31_method_1_code 93 = .ok (.iload_n 2, 1) := by decide +kernel
theorem d5_94 : decode prog_31_method_1_code 94 = .ok (.putfield 28, 3) := by decide +kernel
theorem d5_97 : decode prog_31_method_1_code 97 = .ok (.aload_n 0, 1) := by decide +kernel
theorem d5_98 : decode prog_31_method_1_code 98 = .ok (.iload_n 3, 1) := by decide +kernel
theorem d5_99 : decode prog_31_method_1_code 99 = .ok (.putfield 31, 3) := by decide +kernel
theorem d5_102 : decode prog_31_method_1_code 102 = .ok (.aload_n 0, 1) := by decide +kernel
theorem d5_103 : decode prog_31_method_1_code 103 = .ok (.lload 4, 2) := by decide +kernel
theorem d5_105 : decode prog_31_method_1_code 105 = .ok (.putfield 34, 3) := by decide +kernel
theorem d5_108 : decode prog_31_method_1_code 108 = .ok (.aload_n 0, 1) := by decide +kernel
theorem d5_109 : decode prog_31_method_1_code 109 = .ok (.lload 6, 2) := by decide +kernel
theorem d5_111 : decode prog_31_method_1_code 111 = .ok (.putfield 38, 3) := by decide +kernel
theorem d5_114 : decode prog_31_method_1_code 114 = .ok (.return_, 1) := by decide +kernel
theorem pn_5 : plainName "com/example/meticulous_audit/meticulousaudit/ike/TrafficSelector" = true := by first | (simp [plainName, overriddenIn]; done) | decide +kernel
theorem ef_5 (m : MethodId) (x0 : Addr) (x1 : Int32) (x2 : Int32) (x3 : Int32) (x4 : Int64) (x5 : Int64) : entryFrame m #[(.ref x0), (.int x1), (.int x2), (.int x3), (.long x4), (.long x5)] 8 = mkF m 0 #[.val (.ref x0), .val (.int x1), .val (.int x2), .val (.int x3), .val (.long x4), .second, .val (.long x5), .second] [] := by first | (simp [entryFrame, mkF, argsToLocals, Value.category]; done) | rfl
def Q5 (Z : State) (a1 : Addr) (p2 : Int32) (p3 : Int32) (p4 : Int32) (q5 : Int64) (q6 : Int64) (u0 : Value) (u1 : Value) (u2 : Value) (u3 : Value) (u4 : Value) (h0 : Heap) (n0 : Nat) (v : Option Value) (h : Heap) (L : List Loc) : Prop := v = none ∧ Fr n0 L ∧ Keep h0 h [a1] ∧ Exa Z h a1 "com/example/meticulous_audit/meticulousaudit/ike/TrafficSelector" ∧ Fld Z h a1 "com/example/meticulous_audit/meticulousaudit/ike/TrafficSelector" "protocol" "I" (.int p2) ∧ Fld Z h a1 "com/example/meticulous_audit/meticulousaudit/ike/TrafficSelector" "startPort" "I" (.int p3) ∧ Fld Z h a1 "com/example/meticulous_audit/meticulousaudit/ike/TrafficSelector" "endPort" "I" (.int p4) ∧ Fld Z h a1 "com/example/meticulous_audit/meticulousaudit/ike/TrafficSelector" "startAddress" "J" (.long q5) ∧ Fld Z h a1 "com/example/meticulous_audit/meticulousaudit/ike/TrafficSelector" "endAddress" "J" (.long q6)
set_option maxRecDepth 65536 in
set_option maxHeartbeats 40000000 in
theorem rm5 (l : Launch) (Z : State) (a0 : Array Value) (hw : ∀ d ∈ tables_1, d.before a0 Z = true) (ws : List Jvm.Cond) (a1 : Addr) (p2 : Int32) (p3 : Int32) (p4 : Int32) (q5 : Int64) (q6 : Int64) (u0 : Value) (u1 : Value) (u2 : Value) (u3 : Value) (u4 : Value) (h0 : Heap) (n0 : Nat) (Z0 : n0 ≤ h0.size) (E_a1 : Exa Z h0 a1 "com/example/meticulous_audit/meticulousaudit/ike/TrafficSelector") (F_a1_protocol : Fld Z h0 a1 "com/example/meticulous_audit/meticulousaudit/ike/TrafficSelector" "protocol" "I" u0) (F_a1_startPort : Fld Z h0 a1 "com/example/meticulous_audit/meticulousaudit/ike/TrafficSelector" "startPort" "I" u1) (F_a1_endPort : Fld Z h0 a1 "com/example/meticulous_audit/meticulousaudit/ike/TrafficSelector" "endPort" "I" u2) (F_a1_startAddress : Fld Z h0 a1 "com/example/meticulous_audit/meticulousaudit/ike/TrafficSelector" "startAddress" "J" u3) (F_a1_endAddress : Fld Z h0 a1 "com/example/meticulous_audit/meticulousaudit/ike/TrafficSelector" "endAddress" "J" u4) (g_a1 : n0 ≤ a1) (hc5 : ¬ (p2 < (0 : Int32))) (hc12 : ¬ ((255 : Int32) < p2)) (hc16 : ¬ (p3 < (0 : Int32))) (hc21 : ¬ (p4 < p3)) (hc27 : ¬ ((65535 : Int32) < p4)) (hc50 : ¬ (q5 < (0 : Int64))) (hc58 : ¬ (q6 < q5)) (hc67 : ¬ ((4294967295 : Int64) < q6)) :
    MetFree l (⟨"com/example/meticulous_audit/meticulousaudit/ike/TrafficSelector", "<init>", "(IIIJJ)V"⟩ : MethodName) (head1 (Jvm.Cond.code (⟨"com/example/meticulous_audit/meticulousaudit/ike/TrafficSelector", "<init>", "(IIIJJ)V"⟩ : MethodName) prog_31_method_1_code 8 none :: ws) ({ frames := 2, cells := 0, slots := 0, locals := 24 } : Room)) (fun a U => a = #[(.ref a1), (.int p2), (.int p3), (.int p4), (.long q5), (.long q6)] ∧ Z.Warmed39 U.vm ∧ U.heap = h0) (fun _ _ _ _ _ => True) (fun _ U o U' => ∃ v L, o = .returned v ∧ Q5 Z a1 p2 p3 p4 q5 q6 u0 u1 u2 u3 u4 h0 n0 v U'.heap L ∧ FrameEnd U o U' L ({ frames := 2, cells := 0, slots := 0, locals := 24 } : Room).cells ({ frames := 2, cells := 0, slots := 0, locals := 24 } : Room).slots) := by
  refine MetFree.of_bodySF (plainFor_of_name pn_5) hisR ?_
  intro p e s m args below meth c s₁ Bd hml0 hP hK
  obtain ⟨rfl, hZ, hh⟩ := hP
  have hx := Bd.exec
  have hby := Bd.bytes
  have hml : c.maxLocals = 8 := hml0
  have hown : s.vm.findClass "com/example/meticulous_audit/meticulousaudit/ike/TrafficSelector" = some m.cls := findClass_of_methodNamed Bd.named
  have hnm := (name_of_methodNamed Bd.named Bd.method).1
  have X0 : Stand p l e ({ frames := 2, cells := 0, slots := 0, locals := 24 } : Room) s m #[(.ref a1), (.int p2), (.int p3), (.int p4), (.long q5), (.long q6)] below meth c s₁ [] 0 0 := Stand.of_body Bd
  have e0 : s₁.heap = h0 := by rw [← hh, Bd.state]; rfl
  have N0 := Fr.nil n0
  have K0 : Keep h0 h0 [a1] := Keep.refl _ _
  have pre0 : ∀ t, Steps p.tables e below (s₁.setTop (mkF m 0 #[.val (.ref a1), .val (.int p2), .val (.int p3), .val (.int p4), .val (.long q5), .second, .val (.long q6), .second] [])) t → Steps p.tables e below (s₁.setTop (entryFrame m #[(.ref a1), (.int p2), (.int p3), (.int p4), (.long q5), (.long q6)] 8)) t := fun t k => castTop (ef_5 m a1 p2 p3 p4 q5 q6) k
  refine own_go (S' := fun t => Steps p.tables e below (s₁.setTop (mkF m 0 #[.val (.ref a1), .val (.int p2), .val (.int p3), .val (.int p4), .val (.long q5), .second, .val (.long q6), .second] [])) t) pre0 ?_
  obtain ⟨_, _, ⟨T1, L1, k1, n1⟩, -, X1, ⟨Lc1, hQ1, l1, y1, z1⟩, st1⟩ := X0.specialBack hx (y := (⟨"java/lang/Record", "<init>", "()V"⟩ : MethodName)) rfl hown (mvT hZ (hw _ (List.mem_of_getElem? (i := 21) rfl))) (mvT hZ (hw _ (List.mem_of_getElem? (i := 22) rfl))) (mvT hZ (hw _ (List.mem_of_getElem? (i := 25) rfl))) (by decide) (backOf (W := 0) (rm6 l Z a0 hw [] a1 h0 n0 Z0 ) hZ (hw _ (List.mem_of_getElem? (i := 25) rfl)) (hw _ (List.mem_of_getElem? (i := 24) rfl)) (by decide) (by decide)) (g := (mkF m 1 #[.val (.ref a1), .val (.int p2), .val (.int p3), .val (.int p4), .val (.long q5), .second, .val (.long q6), .second] [(.ref a1)])) rfl (by rw [hml]; rfl) (Steps.refl _) (a := a1) (argsL := []) (rest := []) (lenOf pd_0 rfl) rfl (by show 2 * 0 + _ ≤ _; exact Nat.le_of_eq rfl) (hb hby d5_1) (fun _ _ => ⟨rfl, e0, (by decide : 0 + 0 ≤ _), (by decide : 0 + 0 ≤ _)⟩)
  dsimp only [Pt.U, Pt.locs, Pt.cells, Pt.slots] at X1 l1 y1 z1 st1 hQ1
  subst l1 y1 z1
  obtain ⟨rfl, N1q, e1⟩ := hQ1
  have N1 := Fr.app N0 N1q
  obtain ⟨T2, h2, X2, e2, W2, st2⟩ := putF X1 hx hZ hown (host := "") (Or.inl (hw _ (List.mem_of_getElem? (i := 31) rfl))) Via.refl e1 F_a1_protocol E_a1 (Or.inr ⟨(hw _ (List.mem_of_getElem? (i := 32) rfl)), rfl, hnm⟩) (hw _ (List.mem_of_getElem? (i := 16) rfl)) (ty := .int) (by decide) rfl rfl (g := (mkF m 89 #[.val (.ref a1), .val (.int p2), .val (.int p3), .val (.int p4), .val (.long q5), .second, .val (.long q6), .second] [(.int p2), (.ref a1)])) rfl rfl (hb hby d5_89)
  have F_a1_protocol := F_a1_protocol.same W2
  have F_a1_startPort := F_a1_startPort.other W2 (Or.inr (slot_ne (Or.inr (hw _ (List.mem_of_getElem? (i := 34) rfl))) (Or.inr (hw _ (List.mem_of_getElem? (i := 32) rfl))) (by decide) (t := .int) (t' := .int) (by decide) (by decide)))
  have F_a1_endPort := F_a1_endPort.other W2 (Or.inr (slot_ne (Or.inr (hw _ (List.mem_of_getElem? (i := 36) rfl))) (Or.inr (hw _ (List.mem_of_getElem? (i := 32) rfl))) (by decide) (t := .int) (t' := .int) (by decide) (by decide)))
  have F_a1_startAddress := F_a1_startAddress.other W2 (Or.inr (slot_ne (Or.inr (hw _ (List.mem_of_getElem? (i := 38) rfl))) (Or.inr (hw _ (List.mem_of_getElem? (i := 32) rfl))) (by decide) (t := .long) (t' := .int) (by decide) (by decide)))
  have F_a1_endAddress := F_a1_endAddress.other W2 (Or.inr (slot_ne (Or.inr (hw _ (List.mem_of_getElem? (i := 40) rfl))) (Or.inr (hw _ (List.mem_of_getElem? (i := 32) rfl))) (by decide) (t := .long) (t' := .int) (by decide) (by decide)))
  have E_a1 := E_a1.wr W2
  have Z0 : n0 ≤ h2.size := by rw [W2.size]; exact Z0
  have K0 := K0.wr W2 (Or.inl (List.mem_of_getElem? (i := 0) rfl))
  have N2 := Fr.snoc X2 N1 g_a1
  obtain ⟨T3, h3, X3, e3, W3, st3⟩ := putF X2 hx hZ hown (host := "") (Or.inl (hw _ (List.mem_of_getElem? (i := 33) rfl))) Via.refl e2 F_a1_startPort E_a1 (Or.inr ⟨(hw _ (List.mem_of_getElem? (i := 34) rfl)), rfl, hnm⟩) (hw _ (List.mem_of_getElem? (i := 16) rfl)) (ty := .int) (by decide) rfl rfl (g := (mkF m 94 #[.val (.ref a1), .val (.int p2), .val (.int p3), .val (.int p4), .val (.long q5), .second, .val (.long q6), .second] [(.int p3), (.ref a1)])) rfl rfl (hb hby d5_94)
  have F_a1_protocol := F_a1_protocol.other W3 (Or.inr (slot_ne (Or.inr (hw _ (List.mem_of_getElem? (i := 32) rfl))) (Or.inr (hw _ (List.mem_of_getElem? (i := 34) rfl))) (by decide) (t := .int) (t' := .int) (by decide) (by decide)))
  have F_a1_startPort := F_a1_startPort.same W3
  have F_a1_endPort := F_a1_endPort.other W3 (Or.inr (slot_ne (Or.inr (hw _ (List.mem_of_getElem? (i := 36) rfl))) (Or.inr (hw _ (List.mem_of_getElem? (i := 34) rfl))) (by decide) (t := .int) (t' := .int) (by decide) (by decide)))
  have F_a1_startAddress := F_a1_startAddress.other W3 (Or.inr (slot_ne (Or.inr (hw _ (List.mem_of_getElem? (i := 38) rfl))) (Or.inr (hw _ (List.mem_of_getElem? (i := 34) rfl))) (by decide) (t := .long) (t' := .int) (by decide) (by decide)))
  have F_a1_endAddress := F_a1_endAddress.other W3 (Or.inr (slot_ne (Or.inr (hw _ (List.mem_of_getElem? (i := 40) rfl))) (Or.inr (hw _ (List.mem_of_getElem? (i := 34) rfl))) (by decide) (t := .long) (t' := .int) (by decide) (by decide)))
  have E_a1 := E_a1.wr W3
  have Z0 : n0 ≤ h3.size := by rw [W3.size]; exact Z0
  have K0 := K0.wr W3 (Or.inl (List.mem_of_getElem? (i := 0) rfl))
  have N3 := Fr.snoc X3 N2 g_a1
  obtain ⟨T4, h4, X4, e4, W4, st4⟩ := putF X3 hx hZ hown (host := "") (Or.inl (hw _ (List.mem_of_getElem? (i := 35) rfl))) Via.refl e3 F_a1_endPort E_a1 (Or.inr ⟨(hw _ (List.mem_of_getElem? (i := 36) rfl)), rfl, hnm⟩) (hw _ (List.mem_of_getElem? (i := 16) rfl)) (ty := .int) (by decide) rfl rfl (g := (mkF m 99 #[.val (.ref a1), .val (.int p2), .val (.int p3), .val (.int p4), .val (.long q5), .second, .val (.long q6), .second] [(.int p4), (.ref a1)])) rfl rfl (hb hby d5_99)
  have F_a1_protocol := F_a1_protocol.other W4 (Or.inr (slot_ne (Or.inr (hw _ (List.mem_of_getElem? (i := 32) rfl))) (Or.inr (hw _ (List.mem_of_getElem? (i := 36) rfl))) (by decide) (t := .int) (t' := .int) (by decide) (by decide)))
  have F_a1_startPort := F_a1_startPort.other W4 (Or.inr (slot_ne (Or.inr (hw _ (List.mem_of_getElem? (i := 34) rfl))) (Or.inr (hw _ (List.mem_of_getElem? (i := 36) rfl))) (by decide) (t := .int) (t' := .int) (by decide) (by decide)))
  have F_a1_endPort := F_a1_endPort.same W4
  have F_a1_startAddress := F_a1_startAddress.other W4 (Or.inr (slot_ne (Or.inr (hw _ (List.mem_of_getElem? (i := 38) rfl))) (Or.inr (hw _ (List.mem_of_getElem? (i := 36) rfl))) (by decide) (t := .long) (t' := .int) (by decide) (by decide)))
  have F_a1_endAddress := F_a1_endAddress.other W4 (Or.inr (slot_ne (Or.inr (hw _ (List.mem_of_getElem? (i := 40) rfl))) (Or.inr (hw _ (List.mem_of_getElem? (i := 36) rfl))) (by decide) (t := .long) (t' := .int) (by decide) (by decide)))
  have E_a1 := E_a1.wr W4
  have Z0 : n0 ≤ h4.size := by rw [W4.size]; exact Z0
  have K0 := K0.wr W4 (Or.inl (List.mem_of_getElem? (i := 0) rfl))
  have N4 := Fr.snoc X4 N3 g_a1
  obtain ⟨T5, h5, X5, e5, W5, st5⟩ := putF X4 hx hZ hown (host := "") (Or.inl (hw _ (List.mem_of_getElem? (i := 37) rfl))) Via.refl e4 F_a1_startAddress E_a1 (Or.inr ⟨(hw _ (List.mem_of_getElem? (i := 38) rfl)), rfl, hnm⟩) (hw _ (List.mem_of_getElem? (i := 16) rfl)) (ty := .long) (by decide) rfl rfl (g := (mkF m 105 #[.val (.ref a1), .val (.int p2), .val (.int p3), .val (.int p4), .val (.long q5), .second, .val (.long q6), .second] [(.long q5), (.ref a1)])) rfl rfl (hb hby d5_105)
  have F_a1_protocol := F_a1_protocol.other W5 (Or.inr (slot_ne (Or.inr (hw _ (List.mem_of_getElem? (i := 32) rfl))) (Or.inr (hw _ (List.mem_of_getElem? (i := 38) rfl))) (by decide) (t := .int) (t' := .long) (by decide) (by decide)))
  have F_a1_startPort := F_a1_startPort.other W5 (Or.inr (slot_ne (Or.inr (hw _ (List.mem_of_getElem? (i := 34) rfl))) (Or.inr (hw _ (List.mem_of_getElem? (i := 38) rfl))) (by decide) (t := .int) (t' := .long) (by decide) (by decide)))
  have F_a1_endPort := F_a1_endPort.other W5 (Or.inr (slot_ne (Or.inr (hw _ (List.mem_of_getElem? (i := 36) rfl))) (Or.inr (hw _ (List.mem_of_getElem? (i := 38) rfl))) (by decide) (t := .int) (t' := .long) (by decide) (by decide)))
  have F_a1_startAddress := F_a1_startAddress.same W5
  have F_a1_endAddress := F_a1_endAddress.other W5 (Or.inr (slot_ne (Or.inr (hw _ (List.mem_of_getElem? (i := 40) rfl))) (Or.inr (hw _ (List.mem_of_getElem? (i := 38) rfl))) (by decide) (t := .long) (t' := .long) (by decide) (by decide)))
  have E_a1 := E_a1.wr W5
  have Z0 : n0 ≤ h5.size := by rw [W5.size]; exact Z0
  have K0 := K0.wr W5 (Or.inl (List.mem_of_getElem? (i := 0) rfl))
  have N5 := Fr.snoc X5 N4 g_a1
  obtain ⟨T6, h6, X6, e6, W6, st6⟩ := putF X5 hx hZ hown (host := "") (Or.inl (hw _ (List.mem_of_getElem? (i := 39) rfl))) Via.refl e5 F_a1_endAddress E_a1 (Or.inr ⟨(hw _ (List.mem_of_getElem? (i := 40) rfl)), rfl, hnm⟩) (hw _ (List.mem_of_getElem? (i := 16) rfl)) (ty := .long) (by decide) rfl rfl (g := (mkF m 111 #[.val (.ref a1), .val (.int p2), .val (.int p3), .val (.int p4), .val (.long q5), .second, .val (.long q6), .second] [(.long q6), (.ref a1)])) rfl rfl (hb hby d5_111)
  have F_a1_protocol := F_a1_protocol.other W6 (Or.inr (slot_ne (Or.inr (hw _ (List.mem_of_getElem? (i := 32) rfl))) (Or.inr (hw _ (List.mem_of_getElem? (i := 40) rfl))) (by decide) (t := .int) (t' := .long) (by decide) (by decide)))
  have F_a1_startPort := F_a1_startPort.other W6 (Or.inr (slot_ne (Or.inr (hw _ (List.mem_of_getElem? (i := 34) rfl))) (Or.inr (hw _ (List.mem_of_getElem? (i := 40) rfl))) (by decide) (t := .int) (t' := .long) (by decide) (by decide)))
  have F_a1_endPort := F_a1_endPort.other W6 (Or.inr (slot_ne (Or.inr (hw _ (List.mem_of_getElem? (i := 36) rfl))) (Or.inr (hw _ (List.mem_of_getElem? (i := 40) rfl))) (by decide) (t := .int) (t' := .long) (by decide) (by decide)))
  have F_a1_startAddress := F_a1_startAddress.other W6 (Or.inr (slot_ne (Or.inr (hw _ (List.mem_of_getElem? (i := 38) rfl))) (Or.inr (hw _ (List.mem_of_getElem? (i := 40) rfl))) (by decide) (t := .long) (t' := .long) (by decide) (by decide)))
  have F_a1_endAddress := F_a1_endAddress.same W6
  have E_a1 := E_a1.wr W6
  have Z0 : n0 ≤ h6.size := by rw [W6.size]; exact Z0
  have K0 := K0.wr W6 (Or.inl (List.mem_of_getElem? (i := 0) rfl))
  have N6 := Fr.snoc X6 N5 g_a1
  obtain ⟨fs, hr, hrun, hended, hW, hsame⟩ := X6.leave (v := none) (fun _ => rfl)
  refine ⟨_, _, ?_, hrun, hended, _, _, rfl, ?_, ⟨_, rfl⟩, hW, hsame.mono (by decide) (by decide)⟩
  · show Steps p.tables e below (s₁.setTop (mkF m 0 #[.val (.ref a1), .val (.int p2), .val (.int p3), .val (.int p4), .val (.long q5), .second, .val (.long q6), .second] [])) _
    refine XS.aloadN X0.here hx rfl (hb hby d5_0) rfl rfl ?_
    show Steps p.tables e below (s₁.setTop (mkF m 1 #[.val (.ref a1), .val (.int p2), .val (.int p3), .val (.int p4), .val (.long q5), .second, .val (.long q6), .second] [(.ref a1)])) _
    refine st1.trans ?_
    show Steps p.tables e below (T1.setTop (mkF m 4 #[.val (.ref a1), .val (.int p2), .val (.int p3), .val (.int p4), .val (.long q5), .second, .val (.long q6), .second] [])) _
    refine XS.iloadN X1.here hx rfl (hb hby d5_4) rfl ?_
    show Steps p.tables e below (T1.setTop (mkF m 5 #[.val (.ref a1), .val (.int p2), .val (.int p3), .val (.int p4), .val (.long q5), .second, .val (.long q6), .second] [(.int p2)])) _
    refine XS.ifNo X1.here hx rfl (hb hby d5_5) rfl ((if0 _ _).trans (flt hc5).1) ?_
    show Steps p.tables e below (T1.setTop (mkF m 8 #[.val (.ref a1), .val (.int p2), .val (.int p3), .val (.int p4), .val (.long q5), .second, .val (.long q6), .second] [])) _
    refine XS.iloadN X1.here hx rfl (hb hby d5_8) rfl ?_
    show Steps p.tables e below (T1.setTop (mkF m 9 #[.val (.ref a1), .val (.int p2), .val (.int p3), .val (.int p4), .val (.long q5), .second, .val (.long q6), .second] [(.int p2)])) _
    refine XS.sipush X1.here hx rfl (hb hby d5_9) ?_
    show Steps p.tables e below (T1.setTop (mkF m 12 #[.val (.ref a1), .val (.int p2), .val (.int p3), .val (.int p4), .val (.long q5), .second, .val (.long q6), .second] [(.int (255 : Int32)), (.int p2)])) _
    refine XS.icmpNo X1.here hx rfl (hb hby d5_12) rfl (flt hc12).2.2.1 ?_
    show Steps p.tables e below (T1.setTop (mkF m 15 #[.val (.ref a1), .val (.int p2), .val (.int p3), .val (.int p4), .val (.long q5), .second, .val (.long q6), .second] [])) _
    refine XS.iloadN X1.here hx rfl (hb hby d5_15) rfl ?_
    show Steps p.tables e below (T1.setTop (mkF m 16 #[.val (.ref a1), .val (.int p2), .val (.int p3), .val (.int p4), .val (.long q5), .second, .val (.long q6), .second] [(.int p3)])) _
    refine XS.ifNo X1.here hx rfl (hb hby d5_16) rfl ((if0 _ _).trans (flt hc16).1) ?_
    show Steps p.tables e below (T1.setTop (mkF m 19 #[.val (.ref a1), .val (.int p2), .val (.int p3), .val (.int p4), .val (.long q5), .second, .val (.long q6), .second] [])) _
    refine XS.iloadN X1.here hx rfl (hb hby d5_19) rfl ?_
    show Steps p.tables e below (T1.setTop (mkF m 20 #[.val (.ref a1), .val (.int p2), .val (.int p3), .val (.int p4), .val (.long q5), .second, .val (.long q6), .second] [(.int p3)])) _
    refine XS.iloadN X1.here hx rfl (hb hby d5_20) rfl ?_
    show Steps p.tables e below (T1.setTop (mkF m 21 #[.val (.ref a1), .val (.int p2), .val (.int p3), .val (.int p4), .val (.long q5), .second, .val (.long q6), .second] [(.int p4), (.int p3)])) _
    refine XS.icmpNo X1.here hx rfl (hb hby d5_21) rfl (flt hc21).2.2.1 ?_
    show Steps p.tables e below (T1.setTop (mkF m 24 #[.val (.ref a1), .val (.int p2), .val (.int p3), .val (.int p4), .val (.long q5), .second, .val (.long q6), .second] [])) _
    refine XS.iloadN X1.here hx rfl (hb hby d5_24) rfl ?_
    show Steps p.tables e below (T1.setTop (mkF m 25 #[.val (.ref a1), .val (.int p2), .val (.int p3), .val (.int p4), .val (.long q5), .second, .val (.long q6), .second] [(.int p4)])) _
    refine X1.ldcInt hx hown (mvT hZ (hw _ (List.mem_of_getElem? (i := 29) rfl))) (g := (mkF m 25 #[.val (.ref a1), .val (.int p2), .val (.int p3), .val (.int p4), .val (.long q5), .second, .val (.long q6), .second] [(.int p4)])) rfl (hb hby d5_25) _ ?_
    show Steps p.tables e below (T1.setTop (mkF m 27 #[.val (.ref a1), .val (.int p2), .val (.int p3), .val (.int p4), .val (.long q5), .second, .val (.long q6), .second] [(.int (65535 : Int32)), (.int p4)])) _
    refine XS.icmpYes X1.here hx rfl (pc0 := 27) (pc' := 46) rfl (hb hby d5_27) rfl (flt hc27).2.2.2 (by decide) (by decide) ?_
    show Steps p.tables e below (T1.setTop (mkF m 46 #[.val (.ref a1), .val (.int p2), .val (.int p3), .val (.int p4), .val (.long q5), .second, .val (.long q6), .second] [])) _
    refine XS.lload X1.here hx rfl (hb hby d5_46) rfl ?_
    show Steps p.tables e below (T1.setTop (mkF m 48 #[.val (.ref a1), .val (.int p2), .val (.int p3), .val (.int p4), .val (.long q5), .second, .val (.long q6), .second] [(.long q5)])) _
    refine XS.lconst X1.here hx rfl (hb hby d5_48) ?_
    show Steps p.tables e below (T1.setTop (mkF m 49 #[.val (.ref a1), .val (.int p2), .val (.int p3), .val (.int p4), .val (.long q5), .second, .val (.long q6), .second] [(.long (0 : Int64)), (.long q5)])) _
    refine XS.lcmp X1.here hx rfl (hb hby d5_49) rfl ?_
    show Steps p.tables e below (T1.setTop (mkF m 50 #[.val (.ref a1), .val (.int p2), .val (.int p3), .val (.int p4), .val (.long q5), .second, .val (.long q6), .second] [(.int (lcmpW q5 (0 : Int64)))])) _
    refine XS.ifNo X1.here hx rfl (hb hby d5_50) rfl ((if0 _ _).trans (flt (fun z => hc50 ((lw_lt _ _).mp z))).1) ?_
    show Steps p.tables e below (T1.setTop (mkF m 53 #[.val (.ref a1), .val (.int p2), .val (.int p3), .val (.int p4), .val (.long q5), .second, .val (.long q6), .second] [])) _
    refine XS.lload X1.here hx rfl (hb hby d5_53) rfl ?_
    show Steps p.tables e below (T1.setTop (mkF m 55 #[.val (.ref a1), .val (.int p2), .val (.int p3), .val (.int p4), .val (.long q5), .second, .val (.long q6), .second] [(.long q5)])) _
    refine XS.lload X1.here hx rfl (hb hby d5_55) rfl ?_
    show Steps p.tables e below (T1.setTop (mkF m 57 #[.val (.ref a1), .val (.int p2), .val (.int p3), .val (.int p4), .val (.long q5), .second, .val (.long q6), .second] [(.long q6), (.long q5)])) _
    refine XS.lcmp X1.here hx rfl (hb hby d5_57) rfl ?_
    show Steps p.tables e below (T1.setTop (mkF m 58 #[.val (.ref a1), .val (.int p2), .val (.int p3), .val (.int p4), .val (.long q5), .second, .val (.long q6), .second] [(.int (lcmpW q5 q6))])) _
    refine XS.ifNo X1.here hx rfl (hb hby d5_58) rfl ((if0 _ _).trans (flt (fun z => hc58 ((lw_gt _ _).mp z))).2.2.1) ?_
    show Steps p.tables e below (T1.setTop (mkF m 61 #[.val (.ref a1), .val (.int p2), .val (.int p3), .val (.int p4), .val (.long q5), .second, .val (.long q6), .second] [])) _
    refine XS.lload X1.here hx rfl (hb hby d5_61) rfl ?_
    show Steps p.tables e below (T1.setTop (mkF m 63 #[.val (.ref a1), .val (.int p2), .val (.int p3), .val (.int p4), .val (.long q5), .second, .val (.long q6), .second] [(.long q6)])) _
    refine X1.ldc2Long hx hown (mvT hZ (hw _ (List.mem_of_getElem? (i := 30) rfl))) (g := (mkF m 63 #[.val (.ref a1), .val (.int p2), .val (.int p3), .val (.int p4), .val (.long q5), .second, .val (.long q6), .second] [(.long q6)])) rfl (hb hby d5_63) _ ?_
    show Steps p.tables e below (T1.setTop (mkF m 66 #[.val (.ref a1), .val (.int p2), .val (.int p3), .val (.int p4), .val (.long q5), .second, .val (.long q6), .second] [(.long (4294967295 : Int64)), (.long q6)])) _
    refine XS.lcmp X1.here hx rfl (hb hby d5_66) rfl ?_
    show Steps p.tables e below (T1.setTop (mkF m 67 #[.val (.ref a1), .val (.int p2), .val (.int p3), .val (.int p4), .val (.long q5), .second, .val (.long q6), .second] [(.int (lcmpW q6 (4294967295 : Int64)))])) _
    refine XS.ifYes X1.here hx rfl (pc0 := 67) (pc' := 87) rfl (hb hby d5_67) rfl ((if0 _ _).trans (flt (fun z => hc67 ((lw_gt _ _).mp z))).2.2.2) (by decide) (by decide) ?_
    show Steps p.tables e below (T1.setTop (mkF m 87 #[.val (.ref a1), .val (.int p2), .val (.int p3), .val (.int p4), .val (.long q5), .second, .val (.long q6), .second] [])) _
    refine XS.aloadN X1.here hx rfl (hb hby d5_87) rfl rfl ?_
    show Steps p.tables e below (T1.setTop (mkF m 88 #[.val (.ref a1), .val (.int p2), .val (.int p3), .val (.int p4), .val (.long q5), .second, .val (.long q6), .second] [(.ref a1)])) _
    refine XS.iloadN X1.here hx rfl (hb hby d5_88) rfl ?_
    show Steps p.tables e below (T1.setTop (mkF m 89 #[.val (.ref a1), .val (.int p2), .val (.int p3), .val (.int p4), .val (.long q5), .second, .val (.long q6), .second] [(.int p2), (.ref a1)])) _
    refine st2 _ ?_
    show Steps p.tables e below (T2.setTop (mkF m 92 #[.val (.ref a1), .val (.int p2), .val (.int p3), .val (.int p4), .val (.long q5), .second, .val (.long q6), .second] [])) _
    refine XS.aloadN X2.here hx rfl (hb hby d5_92) rfl rfl ?_
    show Steps p.tables e below (T2.setTop (mkF m 93 #[.val (.ref a1), .val (.int p2), .val (.int p3), .val (.int p4), .val (.long q5), .second, .val (.long q6), .second] [(.ref a1)])) _
    refine XS.iloadN X2.here hx rfl (hb hby d5_93) rfl ?_
    show Steps p.tables e below (T2.setTop (mkF m 94 #[.val (.ref a1), .val (.int p2), .val (.int p3), .val (.int p4), .val (.long q5), .second, .val (.long q6), .second] [(.int p3), (.ref a1)])) _
    refine st3 _ ?_
    show Steps p.tables e below (T3.setTop (mkF m 97 #[.val (.ref a1), .val (.int p2), .val (.int p3), .val (.int p4), .val (.long q5), .second, .val (.long q6), .second] [])) _
    refine XS.aloadN X3.here hx rfl (hb hby d5_97) rfl rfl ?_
    show Steps p.tables e below (T3.setTop (mkF m 98 #[.val (.ref a1), .val (.int p2), .val (.int p3), .val (.int p4), .val (.long q5), .second, .val (.long q6), .second] [(.ref a1)])) _
    refine XS.iloadN X3.here hx rfl (hb hby d5_98) rfl ?_
    show Steps p.tables e below (T3.setTop (mkF m 99 #[.val (.ref a1), .val (.int p2), .val (.int p3), .val (.int p4), .val (.long q5), .second, .val (.long q6), .second] [(.int p4), (.ref a1)])) _
    refine st4 _ ?_
    show Steps p.tables e below (T4.setTop (mkF m 102 #[.val (.ref a1), .val (.int p2), .val (.int p3), .val (.int p4), .val (.long q5), .second, .val (.long q6), .second] [])) _
    refine XS.aloadN X4.here hx rfl (hb hby d5_102) rfl rfl ?_
    show Steps p.tables e below (T4.setTop (mkF m 103 #[.val (.ref a1), .val (.int p2), .val (.int p3), .val (.int p4), .val (.long q5), .second, .val (.long q6), .second] [(.ref a1)])) _
    refine XS.lload X4.here hx rfl (hb hby d5_103) rfl ?_
    show Steps p.tables e below (T4.setTop (mkF m 105 #[.val (.ref a1), .val (.int p2), .val (.int p3), .val (.int p4), .val (.long q5), .second, .val (.long q6), .second] [(.long q5), (.ref a1)])) _
    refine st5 _ ?_
    show Steps p.tables e below (T5.setTop (mkF m 108 #[.val (.ref a1), .val (.int p2), .val (.int p3), .val (.int p4), .val (.long q5), .second, .val (.long q6), .second] [])) _
    refine XS.aloadN X5.here hx rfl (hb hby d5_108) rfl rfl ?_
    show Steps p.tables e below (T5.setTop (mkF m 109 #[.val (.ref a1), .val (.int p2), .val (.int p3), .val (.int p4), .val (.long q5), .second, .val (.long q6), .second] [(.ref a1)])) _
    refine XS.lload X5.here hx rfl (hb hby d5_109) rfl ?_
    show Steps p.tables e below (T5.setTop (mkF m 111 #[.val (.ref a1), .val (.int p2), .val (.int p3), .val (.int p4), .val (.long q5), .second, .val (.long q6), .second] [(.long q6), (.ref a1)])) _
    refine st6 _ ?_
    show Steps p.tables e below (T6.setTop (mkF m 114 #[.val (.ref a1), .val (.int p2), .val (.int p3), .val (.int p4), .val (.long q5), .second, .val (.long q6), .second] [])) _
    exact X6.returnOut hx Bd.returns (hb hby d5_114) hr
  · show Q5 Z a1 p2 p3 p4 q5 q6 u0 u1 u2 u3 u4 h0 n0 _ T6.heap _
    rw [e6]
    exact ⟨rfl, N6, K0, E_a1, F_a1_protocol, F_a1_startPort, F_a1_endPort, F_a1_startAddress, F_a1_endAddress⟩
theorem d8_0 : decode method_3_code 0 = .ok (.iload_n 0, 1) := by decide +kernel
theorem d8_1 : decode method_3_code 1 = .ok (.ifCond .eq 9, 3) := by decide +kernel
theorem d8_4 : decode method_3_code 4 = .ok (.iload_n 0, 1) := by decide +kernel
theorem d8_5 : decode method_3_code 5 = .ok (.iload 7, 2) := by decide +kernel
theorem d8_7 : decode method_3_code 7 = .ok (.if_icmp .ne 34, 3) := by decide +kernel
theorem d8_10 : decode method_3_code 10 = .ok (.iload_n 1, 1) := by decide +kernel
theorem d8_11 : decode method_3_code 11 = .ok (.iload 8, 2) := by decide +kernel
theorem d8_13 : decode method_3_code 13 = .ok (.if_icmp .gt 28, 3) := by decide +kernel
theorem d8_16 : decode method_3_code 16 = .ok (.iload 8, 2) := by decide +kernel
theorem d8_18 : decode method_3_code 18 = .ok (.iload_n 2, 1) := by decide +kernel
theorem d8_19 : decode method_3_code 19 = .ok (.if_icmp .gt 22, 3) := by decide +kernel
theorem d8_22 : decode method_3_code 22 = .ok (.lload_n 3, 1) := by decide +kernel
theorem d8_23 : decode method_3_code 23 = .ok (.lload 9, 2) := by decide +kernel
theorem d8_25 : decode method_3_code 25 = .ok (.lcmp, 1) := by decide +kernel
theorem d8_26 : decode method_3_code 26 = .ok (.ifCond .gt 15, 3) := by decide +kernel
theorem d8_29 : decode method_3_code 29 = .ok (.lload 9, 2) := by decide +kernel
theorem d8_31 : decode method_3_code 31 = .ok (.lload 5, 2) := by decide +kernel
theorem d8_33 : decode method_3_code 33 = .ok (.lcmp, 1) := by decide +kernel
theorem d8_34 : decode method_3_code 34 = .ok (.ifCond .gt 7, 3) := by decide +kernel
theorem d8_37 : decode method_3_code 37 = .ok (.iconst 1, 1) := by decide +kernel
theorem d8_38 : decode method_3_code 38 = .ok (.goto 4, 3) := by decide +kernel
theorem d8_41 : decode method_3_code 41 = .ok (.iconst 0, 1) := by decide +kernel
theorem d8_42 : decode method_3_code 42 = .ok (.ireturn, 1) := by decide +kernel
theorem pn_8 : plainName "com/example/meticulous_audit/meticulousaudit/ike/TrafficSelectorWithinPinLaw" = true := by first | (simp [plainName, overriddenIn]; done) | decide +kernel
theorem ef_8 (m : MethodId) (x0 : Int32) (x1 : Int32) (x2 : Int32) (x3 : Int64) (x4 : Int64) (x5 : Int32) (x6 : Int32) (x7 : Int64) : entryFrame m #[(.int x0), (.int x1), (.int x2), (.long x3), (.long x4), (.int x5), (.int x6), (.long x7)] 11 = mkF m 0 #[.val (.int x0), .val (.int x1), .val (.int x2), .val (.long x3), .second, .val (.long x4), .second, .val (.int x5), .val (.int x6), .val (.long x7), .second] [] := by first | (simp [entryFrame, mkF, argsToLocals, Value.category]; done) | rfl
def Q8 (Z : State) (p1 : Int32) (p2 : Int32) (p3 : Int32) (q4 : Int64) (q5 : Int64) (p6 : Int32) (p7 : Int32) (q8 : Int64) (h0 : Heap) (n0 : Nat) (v : Option Value) (h : Heap) (L : List Loc) : Prop := ∃ r : Int32, v = some (.int r) ∧ (r = (if ((p1 = (0 : Int32) ∨ p1 = p6) ∧ ¬ (p7 < p2) ∧ ¬ (p3 < p7) ∧ ¬ (q8 < q4) ∧ ¬ (q5 < q8)) then (1 : Int32) else (0 : Int32))) ∧ Fr n0 L ∧ h = h0
set_option maxRecDepth 65536 in
set_option maxHeartbeats 40000000 in
theorem rm8 (l : Launch) (Z : State) (a0 : Array Value) (hw : ∀ d ∈ tables_1, d.before a0 Z = true) (ws : List Jvm.Cond) (p1 : Int32) (p2 : Int32) (p3 : Int32) (q4 : Int64) (q5 : Int64) (p6 : Int32) (p7 : Int32) (q8 : Int64) (h0 : Heap) (n0 : Nat) (Z0 : n0 ≤ h0.size) :
    MetFree l (⟨"com/example/meticulous_audit/meticulousaudit/ike/TrafficSelectorWithinPinLaw", "takes", "(IIIJJIIJ)Z"⟩ : MethodName) (head1 (Jvm.Cond.code (⟨"com/example/meticulous_audit/meticulousaudit/ike/TrafficSelectorWithinPinLaw", "takes", "(IIIJJIIJ)Z"⟩ : MethodName) method_3_code 11 (some .boolean) :: ws) ({ frames := 0, cells := 0, slots := 0, locals := 0 } : Room)) (fun a U => a = #[(.int p1), (.int p2), (.int p3), (.long q4), (.long q5), (.int p6), (.int p7), (.long q8)] ∧ Z.Warmed39 U.vm ∧ U.heap = h0) (fun _ _ _ _ _ => True) (fun _ U o U' => ∃ v L, o = .returned v ∧ Q8 Z p1 p2 p3 q4 q5 p6 p7 q8 h0 n0 v U'.heap L ∧ FrameEnd U o U' L ({ frames := 0, cells := 0, slots := 0, locals := 0 } : Room).cells ({ frames := 0, cells := 0, slots := 0, locals := 0 } : Room).slots) := by
  refine MetFree.of_bodySF (plainFor_of_name pn_8) hisR ?_
  intro p e s m args below meth c s₁ Bd hml0 hP hK
  obtain ⟨rfl, hZ, hh⟩ := hP
  have hx := Bd.exec
  have hby := Bd.bytes
  have hml : c.maxLocals = 11 := hml0
  have hown : s.vm.findClass "com/example/meticulous_audit/meticulousaudit/ike/TrafficSelectorWithinPinLaw" = some m.cls := findClass_of_methodNamed Bd.named
  have hnm := (name_of_methodNamed Bd.named Bd.method).1
  have X0 : Stand p l e ({ frames := 0, cells := 0, slots := 0, locals := 0 } : Room) s m #[(.int p1), (.int p2), (.int p3), (.long q4), (.long q5), (.int p6), (.int p7), (.long q8)] below meth c s₁ [] 0 0 := Stand.of_body Bd
  have e0 : s₁.heap = h0 := by rw [← hh, Bd.state]; rfl
  have N0 := Fr.nil n0
  have K0 : Keep h0 h0 [] := Keep.refl _ _
  have pre0 : ∀ t, Steps p.tables e below (s₁.setTop (mkF m 0 #[.val (.int p1), .val (.int p2), .val (.int p3), .val (.long q4), .second, .val (.long q5), .second, .val (.int p6), .val (.int p7), .val (.long q8), .second] [])) t → Steps p.tables e below (s₁.setTop (entryFrame m #[(.int p1), (.int p2), (.int p3), (.long q4), (.long q5), (.int p6), (.int p7), (.long q8)] 11)) t := fun t k => castTop (ef_8 m p1 p2 p3 q4 q5 p6 p7 q8) k
  refine own_go (S' := fun t => Steps p.tables e below (s₁.setTop (mkF m 0 #[.val (.int p1), .val (.int p2), .val (.int p3), .val (.long q4), .second, .val (.long q5), .second, .val (.int p6), .val (.int p7), .val (.long q8), .second] [])) t) pre0 ?_
  refine own_go (S' := fun t => Steps p.tables e below (s₁.setTop (mkF m 1 #[.val (.int p1), .val (.int p2), .val (.int p3), .val (.long q4), .second, .val (.long q5), .second, .val (.int p6), .val (.int p7), .val (.long q8), .second] [(.int p1)])) t) (fun t k => ?_) ?_
  · show Steps p.tables e below (s₁.setTop (mkF m 0 #[.val (.int p1), .val (.int p2), .val (.int p3), .val (.long q4), .second, .val (.long q5), .second, .val (.int p6), .val (.int p7), .val (.long q8), .second] [])) _
    refine XS.iloadN X0.here hx rfl (hb hby d8_0) rfl ?_
    exact k
  by_cases hc1 : p1 = (0 : Int32)
  · refine own_go (S' := fun t => Steps p.tables e below (s₁.setTop (mkF m 13 #[.val (.int p1), .val (.int p2), .val (.int p3), .val (.long q4), .second, .val (.long q5), .second, .val (.int p6), .val (.int p7), .val (.long q8), .second] [(.int p7), (.int p2)])) t) (fun t k => ?_) ?_
    · show Steps p.tables e below (s₁.setTop (mkF m 1 #[.val (.int p1), .val (.int p2), .val (.int p3), .val (.long q4), .second, .val (.long q5), .second, .val (.int p6), .val (.int p7), .val (.long q8), .second] [(.int p1)])) _
      refine XS.ifYes X0.here hx rfl (pc0 := 1) (pc' := 10) rfl (hb hby d8_1) rfl ((if0 _ _).trans (teq hc1).1) (by decide) (by decide) ?_
      show Steps p.tables e below (s₁.setTop (mkF m 10 #[.val (.int p1), .val (.int p2), .val (.int p3), .val (.long q4), .second, .val (.long q5), .second, .val (.int p6), .val (.int p7), .val (.long q8), .second] [])) _
      refine XS.iloadN X0.here hx rfl (hb hby d8_10) rfl ?_
      show Steps p.tables e below (s₁.setTop (mkF m 11 #[.val (.int p1), .val (.int p2), .val (.int p3), .val (.long q4), .second, .val (.long q5), .second, .val (.int p6), .val (.int p7), .val (.long q8), .second] [(.int p2)])) _
      refine XS.iload X0.here hx rfl (hb hby d8_11) rfl ?_
      exact k
    by_cases hc13 : p7 < p2
    · obtain ⟨fs, hr, hrun, hended, hW, hsame⟩ := X0.leave (v := some (.int (0 : Int32))) (fun h => by rw [Bd.returns] at h; cases h)
      refine ⟨_, _, ?_, hrun, hended, _, _, rfl, ?_, ⟨_, rfl⟩, hW, hsame.mono (by decide) (by decide)⟩
      · show Steps p.tables e below (s₁.setTop (mkF m 13 #[.val (.int p1), .val (.int p2), .val (.int p3), .val (.long q4), .second, .val (.long q5), .second, .val (.int p6), .val (.int p7), .val (.long q8), .second] [(.int p7), (.int p2)])) _
        refine XS.icmpYes X0.here hx rfl (pc0 := 13) (pc' := 41) rfl (hb hby d8_13) rfl (tlt hc13).2.2.1 (by decide) (by decide) ?_
        show Steps p.tables e below (s₁.setTop (mkF m 41 #[.val (.int p1), .val (.int p2), .val (.int p3), .val (.long q4), .second, .val (.long q5), .second, .val (.int p6), .val (.int p7), .val (.long q8), .second] [])) _
        refine XS.iconst X0.here hx rfl (hb hby d8_41) ?_
        show Steps p.tables e below (s₁.setTop (mkF m 42 #[.val (.int p1), .val (.int p2), .val (.int p3), .val (.long q4), .second, .val (.long q5), .second, .val (.int p6), .val (.int p7), .val (.long q8), .second] [(.int (0 : Int32))])) _
        exact retN X0 hx (t := .boolean) Bd.returns (by simp) (hb hby d8_42) hr
      · show Q8 Z p1 p2 p3 q4 q5 p6 p7 q8 h0 n0 _ s₁.heap _
        rw [e0]
        exact ⟨_, rfl, (if_neg (fun z => z.2.1 hc13)).symm, N0, rfl⟩
    · refine own_go (S' := fun t => Steps p.tables e below (s₁.setTop (mkF m 19 #[.val (.int p1), .val (.int p2), .val (.int p3), .val (.long q4), .second, .val (.long q5), .second, .val (.int p6), .val (.int p7), .val (.long q8), .second] [(.int p3), (.int p7)])) t) (fun t k => ?_) ?_
      · show Steps p.tables e below (s₁.setTop (mkF m 13 #[.val (.int p1), .val (.int p2), .val (.int p3), .val (.long q4), .second, .val (.long q5), .second, .val (.int p6), .val (.int p7), .val (.long q8), .second] [(.int p7), (.int p2)])) _
        refine XS.icmpNo X0.here hx rfl (hb hby d8_13) rfl (flt hc13).2.2.1 ?_
        show Steps p.tables e below (s₁.setTop (mkF m 16 #[.val (.int p1), .val (.int p2), .val (.int p3), .val (.long q4), .second, .val (.long q5), .second, .val (.int p6), .val (.int p7), .val (.long q8), .second] [])) _
        refine XS.iload X0.here hx rfl (hb hby d8_16) rfl ?_
        show Steps p.tables e below (s₁.setTop (mkF m 18 #[.val (.int p1), .val (.int p2), .val (.int p3), .val (.long q4), .second, .val (.long q5), .second, .val (.int p6), .val (.int p7), .val (.long q8), .second] [(.int p7)])) _
        refine XS.iloadN X0.here hx rfl (hb hby d8_18) rfl ?_
        exact k
      by_cases hc19 : p3 < p7
      · obtain ⟨fs, hr, hrun, hended, hW, hsame⟩ := X0.leave (v := some (.int (0 : Int32))) (fun h => by rw [Bd.returns] at h; cases h)
        refine ⟨_, _, ?_, hrun, hended, _, _, rfl, ?_, ⟨_, rfl⟩, hW, hsame.mono (by decide) (by decide)⟩
        · show Steps p.tables e below (s₁.setTop (mkF m 19 #[.val (.int p1), .val (.int p2), .val (.int p3), .val (.long q4), .second, .val (.long q5), .second, .val (.int p6), .val (.int p7), .val (.long q8), .second] [(.int p3), (.int p7)])) _
          refine XS.icmpYes X0.here hx rfl (pc0 := 19) (pc' := 41) rfl (hb hby d8_19) rfl (tlt hc19).2.2.1 (by decide) (by decide) ?_
          show Steps p.tables e below (s₁.setTop (mkF m 41 #[.val (.int p1), .val (.int p2), .val (.int p3), .val (.long q4), .second, .val (.long q5), .second, .val (.int p6), .val (.int p7), .val (.long q8), .second] [])) _
          refine XS.iconst X0.here hx rfl (hb hby d8_41) ?_
          show Steps p.tables e below (s₁.setTop (mkF m 42 #[.val (.int p1), .val (.int p2), .val (.int p3), .val (.long q4), .second, .val (.long q5), .second, .val (.int p6), .val (.int p7), .val (.long q8), .second] [(.int (0 : Int32))])) _
          exact retN X0 hx (t := .boolean) Bd.returns (by simp) (hb hby d8_42) hr
        · show Q8 Z p1 p2 p3 q4 q5 p6 p7 q8 h0 n0 _ s₁.heap _
          rw [e0]
          exact ⟨_, rfl, (if_neg (fun z => z.2.2.1 hc19)).symm, N0, rfl⟩
      · refine own_go (S' := fun t => Steps p.tables e below (s₁.setTop (mkF m 26 #[.val (.int p1), .val (.int p2), .val (.int p3), .val (.long q4), .second, .val (.long q5), .second, .val (.int p6), .val (.int p7), .val (.long q8), .second] [(.int (lcmpW q4 q8))])) t) (fun t k => ?_) ?_
        · show Steps p.tables e below (s₁.setTop (mkF m 19 #[.val (.int p1), .val (.int p2), .val (.int p3), .val (.long q4), .second, .val (.long q5), .second, .val (.int p6), .val (.int p7), .val (.long q8), .second] [(.int p3), (.int p7)])) _
          refine XS.icmpNo X0.here hx rfl (hb hby d8_19) rfl (flt hc19).2.2.1 ?_
          show Steps p.tables e below (s₁.setTop (mkF m 22 #[.val (.int p1), .val (.int p2), .val (.int p3), .val (.long q4), .second, .val (.long q5), .second, .val (.int p6), .val (.int p7), .val (.long q8), .second] [])) _
          refine XS.lloadN X0.here hx rfl (hb hby d8_22) rfl ?_
          show Steps p.tables e below (s₁.setTop (mkF m 23 #[.val (.int p1), .val (.int p2), .val (.int p3), .val (.long q4), .second, .val (.long q5), .second, .val (.int p6), .val (.int p7), .val (.long q8), .second] [(.long q4)])) _
          refine XS.lload X0.here hx rfl (hb hby d8_23) rfl ?_
          show Steps p.tables e below (s₁.setTop (mkF m 25 #[.val (.int p1), .val (.int p2), .val (.int p3), .val (.long q4), .second, .val (.long q5), .second, .val (.int p6), .val (.int p7), .val (.long q8), .second] [(.long q8), (.long q4)])) _
          refine XS.lcmp X0.here hx rfl (hb hby d8_25) rfl ?_
          exact k
        by_cases hc26 : q8 < q4
        · obtain ⟨fs, hr, hrun, hended, hW, hsame⟩ := X0.leave (v := some (.int (0 : Int32))) (fun h => by rw [Bd.returns] at h; cases h)
          refine ⟨_, _, ?_, hrun, hended, _, _, rfl, ?_, ⟨_, rfl⟩, hW, hsame.mono (by decide) (by decide)⟩
          · show Steps p.tables e below (s₁.setTop (mkF m 26 #[.val (.int p1), .val (.int p2), .val (.int p3), .val (.long q4), .second, .val (.long q5), .second, .val (.int p6), .val (.int p7), .val (.long q8), .second] [(.int (lcmpW q4 q8))])) _
            refine XS.ifYes X0.here hx rfl (pc0 := 26) (pc' := 41) rfl (hb hby d8_26) rfl ((if0 _ _).trans (tlt ((lw_gt _ _).mpr hc26)).2.2.1) (by decide) (by decide) ?_
            show Steps p.tables e below (s₁.setTop (mkF m 41 #[.val (.int p1), .val (.int p2), .val (.int p3), .val (.long q4), .second, .val (.long q5), .second, .val (.int p6), .val (.int p7), .val (.long q8), .second] [])) _
            refine XS.iconst X0.here hx rfl (hb hby d8_41) ?_
            show Steps p.tables e below (s₁.setTop (mkF m 42 #[.val (.int p1), .val (.int p2), .val (.int p3), .val (.long q4), .second, .val (.long q5), .second, .val (.int p6), .val (.int p7), .val (.long q8), .second] [(.int (0 : Int32))])) _
            exact retN X0 hx (t := .boolean) Bd.returns (by simp) (hb hby d8_42) hr
          · show Q8 Z p1 p2 p3 q4 q5 p6 p7 q8 h0 n0 _ s₁.heap _
            rw [e0]
            exact ⟨_, rfl, (if_neg (fun z => z.2.2.2.1 hc26)).symm, N0, rfl⟩
        · refine own_go (S' := fun t => Steps p.tables e below (s₁.setTop (mkF m 34 #[.val (.int p1), .val (.int p2), .val (.int p3), .val (.long q4), .second, .val (.long q5), .second, .val (.int p6), .val (.int p7), .val (.long q8), .second] [(.int (lcmpW q8 q5))])) t) (fun t k => ?_) ?_
          · show Steps p.tables e below (s₁.setTop (mkF m 26 #[.val (.int p1), .val (.int p2), .val (.int p3), .val (.long q4), .second, .val (.long q5), .second, .val (.int p6), .val (.int p7), .val (.long q8), .second] [(.int (lcmpW q4 q8))])) _
            refine XS.ifNo X0.here hx rfl (hb hby d8_26) rfl ((if0 _ _).trans (flt (fun z => hc26 ((lw_gt _ _).mp z))).2.2.1) ?_
            show Steps p.tables e below (s₁.setTop (mkF m 29 #[.val (.int p1), .val (.int p2), .val (.int p3), .val (.long q4), .second, .val (.long q5), .second, .val (.int p6), .val (.int p7), .val (.long q8), .second] [])) _
            refine XS.lload X0.here hx rfl (hb hby d8_29) rfl ?_
            show Steps p.tables e below (s₁.setTop (mkF m 31 #[.val (.int p1), .val (.int p2), .val (.int p3), .val (.long q4), .second, .val (.long q5), .second, .val (.int p6), .val (.int p7), .val (.long q8), .second] [(.long q8)])) _
            refine XS.lload X0.here hx rfl (hb hby d8_31) rfl ?_
            show Steps p.tables e below (s₁.setTop (mkF m 33 #[.val (.int p1), .val (.int p2), .val (.int p3), .val (.long q4), .second, .val (.long q5), .second, .val (.int p6), .val (.int p7), .val (.long q8), .second] [(.long q5), (.long q8)])) _
            refine XS.lcmp X0.here hx rfl (hb hby d8_33) rfl ?_
            exact k
          by_cases hc34 : q5 < q8
          · obtain ⟨fs, hr, hrun, hended, hW, hsame⟩ := X0.leave (v := some (.int (0 : Int32))) (fun h => by rw [Bd.returns] at h; cases h)
            refine ⟨_, _, ?_, hrun, hended, _, _, rfl, ?_, ⟨_, rfl⟩, hW, hsame.mono (by decide) (by decide)⟩
            · show Steps p.tables e below (s₁.setTop (mkF m 34 #[.val (.int p1), .val (.int p2), .val (.int p3), .val (.long q4), .second, .val (.long q5), .second, .val (.int p6), .val (.int p7), .val (.long q8), .second] [(.int (lcmpW q8 q5))])) _
              refine XS.ifYes X0.here hx rfl (pc0 := 34) (pc' := 41) rfl (hb hby d8_34) rfl ((if0 _ _).trans (tlt ((lw_gt _ _).mpr hc34)).2.2.1) (by decide) (by decide) ?_
              show Steps p.tables e below (s₁.setTop (mkF m 41 #[.val (.int p1), .val (.int p2), .val (.int p3), .val (.long q4), .second, .val (.long q5), .second, .val (.int p6), .val (.int p7), .val (.long q8), .second] [])) _
              refine XS.iconst X0.here hx rfl (hb hby d8_41) ?_
              show Steps p.tables e below (s₁.setTop (mkF m 42 #[.val (.int p1), .val (.int p2), .val (.int p3), .val (.long q4), .second, .val (.long q5), .second, .val (.int p6), .val (.int p7), .val (.long q8), .second] [(.int (0 : Int32))])) _
              exact retN X0 hx (t := .boolean) Bd.returns (by simp) (hb hby d8_42) hr
            · show Q8 Z p1 p2 p3 q4 q5 p6 p7 q8 h0 n0 _ s₁.heap _
              rw [e0]
              exact ⟨_, rfl, (if_neg (fun z => z.2.2.2.2 hc34)).symm, N0, rfl⟩
          · obtain ⟨fs, hr, hrun, hended, hW, hsame⟩ := X0.leave (v := some (.int (1 : Int32))) (fun h => by rw [Bd.returns] at h; cases h)
            refine ⟨_, _, ?_, hrun, hended, _, _, rfl, ?_, ⟨_, rfl⟩, hW, hsame.mono (by decide) (by decide)⟩
            · show Steps p.tables e below (s₁.setTop (mkF m 34 #[.val (.int p1), .val (.int p2), .val (.int p3), .val (.long q4), .second, .val (.long q5), .second, .val (.int p6), .val (.int p7), .val (.long q8), .second] [(.int (lcmpW q8 q5))])) _
              refine XS.ifNo X0.here hx rfl (hb hby d8_34) rfl ((if0 _ _).trans (flt (fun z => hc34 ((lw_gt _ _).mp z))).2.2.1) ?_
              show Steps p.tables e below (s₁.setTop (mkF m 37 #[.val (.int p1), .val (.int p2), .val (.int p3), .val (.long q4), .second, .val (.long q5), .second, .val (.int p6), .val (.int p7), .val (.long q8), .second] [])) _
              refine XS.iconst X0.here hx rfl (hb hby d8_37) ?_
              show Steps p.tables e below (s₁.setTop (mkF m 38 #[.val (.int p1), .val (.int p2), .val (.int p3), .val (.long q4), .second, .val (.long q5), .second, .val (.int p6), .val (.int p7), .val (.long q8), .second] [(.int (1 : Int32))])) _
              refine XS.goto X0.here hx rfl (pc0 := 38) (pc' := 42) rfl (hb hby d8_38) (by decide) (by decide) ?_
              show Steps p.tables e below (s₁.setTop (mkF m 42 #[.val (.int p1), .val (.int p2), .val (.int p3), .val (.long q4), .second, .val (.long q5), .second, .val (.int p6), .val (.int p7), .val (.long q8), .second] [(.int (1 : Int32))])) _
              exact retN X0 hx (t := .boolean) Bd.returns (by simp) (hb hby d8_42) hr
            · show Q8 Z p1 p2 p3 q4 q5 p6 p7 q8 h0 n0 _ s₁.heap _
              rw [e0]
              exact ⟨_, rfl, (if_pos ⟨Or.inl hc1, hc13, hc19, hc26, hc34⟩).symm, N0, rfl⟩
  · refine own_go (S' := fun t => Steps p.tables e below (s₁.setTop (mkF m 7 #[.val (.int p1), .val (.int p2), .val (.int p3), .val (.long q4), .second, .val (.long q5), .second, .val (.int p6), .val (.int p7), .val (.long q8), .second] [(.int p6), (.int p1)])) t) (fun t k => ?_) ?_
    · show Steps p.tables e below (s₁.setTop (mkF m 1 #[.val (.int p1), .val (.int p2), .val (.int p3), .val (.long q4), .second, .val (.long q5), .second, .val (.int p6), .val (.int p7), .val (.long q8), .second] [(.int p1)])) _
      refine XS.ifNo X0.here hx rfl (hb hby d8_1) rfl ((if0 _ _).trans (feq hc1).1) ?_
      show Steps p.tables e below (s₁.setTop (mkF m 4 #[.val (.int p1), .val (.int p2), .val (.int p3), .val (.long q4), .second, .val (.long q5), .second, .val (.int p6), .val (.int p7), .val (.long q8), .second] [])) _
      refine XS.iloadN X0.here hx rfl (hb hby d8_4) rfl ?_
      show Steps p.tables e below (s₁.setTop (mkF m 5 #[.val (.int p1), .val (.int p2), .val (.int p3), .val (.long q4), .second, .val (.long q5), .second, .val (.int p6), .val (.int p7), .val (.long q8), .second] [(.int p1)])) _
      refine XS.iload X0.here hx rfl (hb hby d8_5) rfl ?_
      exact k
    by_cases hc7 : p1 = p6
    · refine own_go (S' := fun t => Steps p.tables e below (s₁.setTop (mkF m 13 #[.val (.int p1), .val (.int p2), .val (.int p3), .val (.long q4), .second, .val (.long q5), .second, .val (.int p6), .val (.int p7), .val (.long q8), .second] [(.int p7), (.int p2)])) t) (fun t k => ?_) ?_
      · show Steps p.tables e below (s₁.setTop (mkF m 7 #[.val (.int p1), .val (.int p2), .val (.int p3), .val (.long q4), .second, .val (.long q5), .second, .val (.int p6), .val (.int p7), .val (.long q8), .second] [(.int p6), (.int p1)])) _
        refine XS.icmpNo X0.here hx rfl (hb hby d8_7) rfl (teq hc7).2 ?_
        show Steps p.tables e below (s₁.setTop (mkF m 10 #[.val (.int p1), .val (.int p2), .val (.int p3), .val (.long q4), .second, .val (.long q5), .second, .val (.int p6), .val (.int p7), .val (.long q8), .second] [])) _
        refine XS.iloadN X0.here hx rfl (hb hby d8_10) rfl ?_
        show Steps p.tables e below (s₁.setTop (mkF m 11 #[.val (.int p1), .val (.int p2), .val (.int p3), .val (.long q4), .second, .val (.long q5), .second, .val (.int p6), .val (.int p7), .val (.long q8), .second] [(.int p2)])) _
        refine XS.iload X0.here hx rfl (hb hby d8_11) rfl ?_
        exact k
      by_cases hc13 : p7 < p2
      · obtain ⟨fs, hr, hrun, hended, hW, hsame⟩ := X0.leave (v := some (.int (0 : Int32))) (fun h => by rw [Bd.returns] at h; cases h)
        refine ⟨_, _, ?_, hrun, hended, _, _, rfl, ?_, ⟨_, rfl⟩, hW, hsame.mono (by decide) (by decide)⟩
        · show Steps p.tables e below (s₁.setTop (mkF m 13 #[.val (.int p1), .val (.int p2), .val (.int p3), .val (.long q4), .second, .val (.long q5), .second, .val (.int p6), .val (.int p7), .val (.long q8), .second] [(.int p7), (.int p2)])) _
          refine XS.icmpYes X0.here hx rfl (pc0 := 13) (pc' := 41) rfl (hb hby d8_13) rfl (tlt hc13).2.2.1 (by decide) (by decide) ?_
          show Steps p.tables e below (s₁.setTop (mkF m 41 #[.val (.int p1), .val (.int p2), .val (.int p3), .val (.long q4), .second, .val (.long q5), .second, .val (.int p6), .val (.int p7), .val (.long q8), .second] [])) _
          refine XS.iconst X0.here hx rfl (hb hby d8_41) ?_
          show Steps p.tables e below (s₁.setTop (mkF m 42 #[.val (.int p1), .val (.int p2), .val (.int p3), .val (.long q4), .second, .val (.long q5), .second, .val (.int p6), .val (.int p7), .val (.long q8), .second] [(.int (0 : Int32))])) _
          exact retN X0 hx (t := .boolean) Bd.returns (by simp) (hb hby d8_42) hr
        · show Q8 Z p1 p2 p3 q4 q5 p6 p7 q8 h0 n0 _ s₁.heap _
          rw [e0]
          exact ⟨_, rfl, (if_neg (fun z => z.2.1 hc13)).symm, N0, rfl⟩
      · refine own_go (S' := fun t => Steps p.tables e below (s₁.setTop (mkF m 19 #[.val (.int p1), .val (.int p2), .val (.int p3), .val (.long q4), .second, .val (.long q5), .second, .val (.int p6), .val (.int p7), .val (.long q8), .second] [(.int p3), (.int p7)])) t) (fun t k => ?_) ?_
        · show Steps p.tables e below (s₁.setTop (mkF m 13 #[.val (.int p1), .val (.int p2), .val (.int p3), .val (.long q4), .second, .val (.long q5), .second, .val (.int p6), .val (.int p7), .val (.long q8), .second] [(.int p7), (.int p2)])) _
          refine XS.icmpNo X0.here hx rfl (hb hby d8_13) rfl (flt hc13).2.2.1 ?_
          show Steps p.tables e below (s₁.setTop (mkF m 16 #[.val (.int p1), .val (.int p2), .val (.int p3), .val (.long q4), .second, .val (.long q5), .second, .val (.int p6), .val (.int p7), .val (.long q8), .second] [])) _
          refine XS.iload X0.here hx rfl (hb hby d8_16) rfl ?_
          show Steps p.tables e below (s₁.setTop (mkF m 18 #[.val (.int p1), .val (.int p2), .val (.int p3), .val (.long q4), .second, .val (.long q5), .second, .val (.int p6), .val (.int p7), .val (.long q8), .second] [(.int p7)])) _
          refine XS.iloadN X0.here hx rfl (hb hby d8_18) rfl ?_
          exact k
        by_cases hc19 : p3 < p7
        · obtain ⟨fs, hr, hrun, hended, hW, hsame⟩ := X0.leave (v := some (.int (0 : Int32))) (fun h => by rw [Bd.returns] at h; cases h)
          refine ⟨_, _, ?_, hrun, hended, _, _, rfl, ?_, ⟨_, rfl⟩, hW, hsame.mono (by decide) (by decide)⟩
          · show Steps p.tables e below (s₁.setTop (mkF m 19 #[.val (.int p1), .val (.int p2), .val (.int p3), .val (.long q4), .second, .val (.long q5), .second, .val (.int p6), .val (.int p7), .val (.long q8), .second] [(.int p3), (.int p7)])) _
            refine XS.icmpYes X0.here hx rfl (pc0 := 19) (pc' := 41) rfl (hb hby d8_19) rfl (tlt hc19).2.2.1 (by decide) (by decide) ?_
            show Steps p.tables e below (s₁.setTop (mkF m 41 #[.val (.int p1), .val (.int p2), .val (.int p3), .val (.long q4), .second, .val (.long q5), .second, .val (.int p6), .val (.int p7), .val (.long q8), .second] [])) _
            refine XS.iconst X0.here hx rfl (hb hby d8_41) ?_
            show Steps p.tables e below (s₁.setTop (mkF m 42 #[.val (.int p1), .val (.int p2), .val (.int p3), .val (.long q4), .second, .val (.long q5), .second, .val (.int p6), .val (.int p7), .val (.long q8), .second] [(.int (0 : Int32))])) _
            exact retN X0 hx (t := .boolean) Bd.returns (by simp) (hb hby d8_42) hr
          · show Q8 Z p1 p2 p3 q4 q5 p6 p7 q8 h0 n0 _ s₁.heap _
            rw [e0]
            exact ⟨_, rfl, (if_neg (fun z => z.2.2.1 hc19)).symm, N0, rfl⟩
        · refine own_go (S' := fun t => Steps p.tables e below (s₁.setTop (mkF m 26 #[.val (.int p1), .val (.int p2), .val (.int p3), .val (.long q4), .second, .val (.long q5), .second, .val (.int p6), .val (.int p7), .val (.long q8), .second] [(.int (lcmpW q4 q8))])) t) (fun t k => ?_) ?_
          · show Steps p.tables e below (s₁.setTop (mkF m 19 #[.val (.int p1), .val (.int p2), .val (.int p3), .val (.long q4), .second, .val (.long q5), .second, .val (.int p6), .val (.int p7), .val (.long q8), .second] [(.int p3), (.int p7)])) _
            refine XS.icmpNo X0.here hx rfl (hb hby d8_19) rfl (flt hc19).2.2.1 ?_
            show Steps p.tables e below (s₁.setTop (mkF m 22 #[.val (.int p1), .val (.int p2), .val (.int p3), .val (.long q4), .second, .val (.long q5), .second, .val (.int p6), .val (.int p7), .val (.long q8), .second] [])) _
            refine XS.lloadN X0.here hx rfl (hb hby d8_22) rfl ?_
            show Steps p.tables e below (s₁.setTop (mkF m 23 #[.val (.int p1), .val (.int p2), .val (.int p3), .val (.long q4), .second, .val (.long q5), .second, .val (.int p6), .val (.int p7), .val (.long q8), .second] [(.long q4)])) _
            refine XS.lload X0.here hx rfl (hb hby d8_23) rfl ?_
            show Steps p.tables e below (s₁.setTop (mkF m 25 #[.val (.int p1), .val (.int p2), .val (.int p3), .val (.long q4), .second, .val (.long q5), .second, .val (.int p6), .val (.int p7), .val (.long q8), .second] [(.long q8), (.long q4)])) _
            refine XS.lcmp X0.here hx rfl (hb hby d8_25) rfl ?_
            exact k
          by_cases hc26 : q8 < q4
          · obtain ⟨fs, hr, hrun, hended, hW, hsame⟩ := X0.leave (v := some (.int (0 : Int32))) (fun h => by rw [Bd.returns] at h; cases h)
            refine ⟨_, _, ?_, hrun, hended, _, _, rfl, ?_, ⟨_, rfl⟩, hW, hsame.mono (by decide) (by decide)⟩
            · show Steps p.tables e below (s₁.setTop (mkF m 26 #[.val (.int p1), .val (.int p2), .val (.int p3), .val (.long q4), .second, .val (.long q5), .second, .val (.int p6), .val (.int p7), .val (.long q8), .second] [(.int (lcmpW q4 q8))])) _
              refine XS.ifYes X0.here hx rfl (pc0 := 26) (pc' := 41) rfl (hb hby d8_26) rfl ((if0 _ _).trans (tlt ((lw_gt _ _).mpr hc26)).2.2.1) (by decide) (by decide) ?_
              show Steps p.tables e below (s₁.setTop (mkF m 41 #[.val (.int p1), .val (.int p2), .val (.int p3), .val (.long q4), .second, .val (.long q5), .second, .val (.int p6), .val (.int p7), .val (.long q8), .second] [])) _
              refine XS.iconst X0.here hx rfl (hb hby d8_41) ?_
              show Steps p.tables e below (s₁.setTop (mkF m 42 #[.val (.int p1), .val (.int p2), .val (.int p3), .val (.long q4), .second, .val (.long q5), .second, .val (.int p6), .val (.int p7), .val (.long q8), .second] [(.int (0 : Int32))])) _
              exact retN X0 hx (t := .boolean) Bd.returns (by simp) (hb hby d8_42) hr
            · show Q8 Z p1 p2 p3 q4 q5 p6 p7 q8 h0 n0 _ s₁.heap _
              rw [e0]
              exact ⟨_, rfl, (if_neg (fun z => z.2.2.2.1 hc26)).symm, N0, rfl⟩
          · refine own_go (S' := fun t => Steps p.tables e below (s₁.setTop (mkF m 34 #[.val (.int p1), .val (.int p2), .val (.int p3), .val (.long q4), .second, .val (.long q5), .second, .val (.int p6), .val (.int p7), .val (.long q8), .second] [(.int (lcmpW q8 q5))])) t) (fun t k => ?_) ?_
            · show Steps p.tables e below (s₁.setTop (mkF m 26 #[.val (.int p1), .val (.int p2), .val (.int p3), .val (.long q4), .second, .val (.long q5), .second, .val (.int p6), .val (.int p7), .val (.long q8), .second] [(.int (lcmpW q4 q8))])) _
              refine XS.ifNo X0.here hx rfl (hb hby d8_26) rfl ((if0 _ _).trans (flt (fun z => hc26 ((lw_gt _ _).mp z))).2.2.1) ?_
              show Steps p.tables e below (s₁.setTop (mkF m 29 #[.val (.int p1), .val (.int p2), .val (.int p3), .val (.long q4), .second, .val (.long q5), .second, .val (.int p6), .val (.int p7), .val (.long q8), .second] [])) _
              refine XS.lload X0.here hx rfl (hb hby d8_29) rfl ?_
              show Steps p.tables e below (s₁.setTop (mkF m 31 #[.val (.int p1), .val (.int p2), .val (.int p3), .val (.long q4), .second, .val (.long q5), .second, .val (.int p6), .val (.int p7), .val (.long q8), .second] [(.long q8)])) _
              refine XS.lload X0.here hx rfl (hb hby d8_31) rfl ?_
              show Steps p.tables e below (s₁.setTop (mkF m 33 #[.val (.int p1), .val (.int p2), .val (.int p3), .val (.long q4), .second, .val (.long q5), .second, .val (.int p6), .val (.int p7), .val (.long q8), .second] [(.long q5), (.long q8)])) _
              refine XS.lcmp X0.here hx rfl (hb hby d8_33) rfl ?_
              exact k
            by_cases hc34 : q5 < q8
            · obtain ⟨fs, hr, hrun, hended, hW, hsame⟩ := X0.leave (v := some (.int (0 : Int32))) (fun h => by rw [Bd.returns] at h; cases h)
              refine ⟨_, _, ?_, hrun, hended, _, _, rfl, ?_, ⟨_, rfl⟩, hW, hsame.mono (by decide) (by decide)⟩
              · show Steps p.tables e below (s₁.setTop (mkF m 34 #[.val (.int p1), .val (.int p2), .val (.int p3), .val (.long q4), .second, .val (.long q5), .second, .val (.int p6), .val (.int p7), .val (.long q8), .second] [(.int (lcmpW q8 q5))])) _
                refine XS.ifYes X0.here hx rfl (pc0 := 34) (pc' := 41) rfl (hb hby d8_34) rfl ((if0 _ _).trans (tlt ((lw_gt _ _).mpr hc34)).2.2.1) (by decide) (by decide) ?_
                show Steps p.tables e below (s₁.setTop (mkF m 41 #[.val (.int p1), .val (.int p2), .val (.int p3), .val (.long q4), .second, .val (.long q5), .second, .val (.int p6), .val (.int p7), .val (.long q8), .second] [])) _
                refine XS.iconst X0.here hx rfl (hb hby d8_41) ?_
                show Steps p.tables e below (s₁.setTop (mkF m 42 #[.val (.int p1), .val (.int p2), .val (.int p3), .val (.long q4), .second, .val (.long q5), .second, .val (.int p6), .val (.int p7), .val (.long q8), .second] [(.int (0 : Int32))])) _
                exact retN X0 hx (t := .boolean) Bd.returns (by simp) (hb hby d8_42) hr
              · show Q8 Z p1 p2 p3 q4 q5 p6 p7 q8 h0 n0 _ s₁.heap _
                rw [e0]
                exact ⟨_, rfl, (if_neg (fun z => z.2.2.2.2 hc34)).symm, N0, rfl⟩
            · obtain ⟨fs, hr, hrun, hended, hW, hsame⟩ := X0.leave (v := some (.int (1 : Int32))) (fun h => by rw [Bd.returns] at h; cases h)
              refine ⟨_, _, ?_, hrun, hended, _, _, rfl, ?_, ⟨_, rfl⟩, hW, hsame.mono (by decide) (by decide)⟩
              · show Steps p.tables e below (s₁.setTop (mkF m 34 #[.val (.int p1), .val (.int p2), .val (.int p3), .val (.long q4), .second, .val (.long q5), .second, .val (.int p6), .val (.int p7), .val (.long q8), .second] [(.int (lcmpW q8 q5))])) _
                refine XS.ifNo X0.here hx rfl (hb hby d8_34) rfl ((if0 _ _).trans (flt (fun z => hc34 ((lw_gt _ _).mp z))).2.2.1) ?_
                show Steps p.tables e below (s₁.setTop (mkF m 37 #[.val (.int p1), .val (.int p2), .val (.int p3), .val (.long q4), .second, .val (.long q5), .second, .val (.int p6), .val (.int p7), .val (.long q8), .second] [])) _
                refine XS.iconst X0.here hx rfl (hb hby d8_37) ?_
                show Steps p.tables e below (s₁.setTop (mkF m 38 #[.val (.int p1), .val (.int p2), .val (.int p3), .val (.long q4), .second, .val (.long q5), .second, .val (.int p6), .val (.int p7), .val (.long q8), .second] [(.int (1 : Int32))])) _
                refine XS.goto X0.here hx rfl (pc0 := 38) (pc' := 42) rfl (hb hby d8_38) (by decide) (by decide) ?_
                show Steps p.tables e below (s₁.setTop (mkF m 42 #[.val (.int p1), .val (.int p2), .val (.int p3), .val (.long q4), .second, .val (.long q5), .second, .val (.int p6), .val (.int p7), .val (.long q8), .second] [(.int (1 : Int32))])) _
                exact retN X0 hx (t := .boolean) Bd.returns (by simp) (hb hby d8_42) hr
              · show Q8 Z p1 p2 p3 q4 q5 p6 p7 q8 h0 n0 _ s₁.heap _
                rw [e0]
                exact ⟨_, rfl, (if_pos ⟨Or.inr hc7, hc13, hc19, hc26, hc34⟩).symm, N0, rfl⟩
    · obtain ⟨fs, hr, hrun, hended, hW, hsame⟩ := X0.leave (v := some (.int (0 : Int32))) (fun h => by rw [Bd.returns] at h; cases h)
      refine ⟨_, _, ?_, hrun, hended, _, _, rfl, ?_, ⟨_, rfl⟩, hW, hsame.mono (by decide) (by decide)⟩
      · show Steps p.tables e below (s₁.setTop (mkF m 7 #[.val (.int p1), .val (.int p2), .val (.int p3), .val (.long q4), .second, .val (.long q5), .second, .val (.int p6), .val (.int p7), .val (.long q8), .second] [(.int p6), (.int p1)])) _
        refine XS.icmpYes X0.here hx rfl (pc0 := 7) (pc' := 41) rfl (hb hby d8_7) rfl (feq hc7).2 (by decide) (by decide) ?_
        show Steps p.tables e below (s₁.setTop (mkF m 41 #[.val (.int p1), .val (.int p2), .val (.int p3), .val (.long q4), .second, .val (.long q5), .second, .val (.int p6), .val (.int p7), .val (.long q8), .second] [])) _
        refine XS.iconst X0.here hx rfl (hb hby d8_41) ?_
        show Steps p.tables e below (s₁.setTop (mkF m 42 #[.val (.int p1), .val (.int p2), .val (.int p3), .val (.long q4), .second, .val (.long q5), .second, .val (.int p6), .val (.int p7), .val (.long q8), .second] [(.int (0 : Int32))])) _
        exact retN X0 hx (t := .boolean) Bd.returns (by simp) (hb hby d8_42) hr
      · show Q8 Z p1 p2 p3 q4 q5 p6 p7 q8 h0 n0 _ s₁.heap _
        rw [e0]
        exact ⟨_, rfl, (if_neg (fun z => z.1.elim hc1 hc7)).symm, N0, rfl⟩
theorem d9_0 : decode prog_31_method_5_code 0 = .ok (.aload_n 1, 1) := by decide +kernel
theorem d9_1 : decode prog_31_method_5_code 1 = .ok (.getfield 24, 3) := by decide +kernel
theorem d9_4 : decode prog_31_method_5_code 4 = .ok (.ifCond .eq 14, 3) := by decide +kernel
theorem d9_7 : decode prog_31_method_5_code 7 = .ok (.aload_n 1, 1) := by decide +kernel
theorem d9_8 : decode prog_31_method_5_code 8 = .ok (.getfield 24, 3) := by decide +kernel
theorem d9_11 : decode prog_31_method_5_code 11 = .ok (.aload_n 0, 1) := by decide +kernel
theorem d9_12 : decode prog_31_method_5_code 12 = .ok (.getfield 24, 3) := by decide +kernel
theorem d9_15 : decode prog_31_method_5_code 15 = .ok (.if_icmp .ne 53, 3) := by decide +kernel
theorem d9_18 : decode prog_31_method_5_code 18 = .ok (.aload_n 1, 1) := by decide +kernel
theorem d9_19 : decode prog_31_method_5_code 19 = .ok (.getfield 28, 3) := by decide +kernel
theorem d9_22 : decode prog_31_method_5_code 22 = .ok (.aload_n 0, 1) := by decide +kernel
theorem d9_23 : decode prog_31_method_5_code 23 = .ok (.getfield 28, 3) := by decide +kernel
theorem d9_26 : decode prog_31_method_5_code 26 = .ok (.if_icmp .gt 42, 3) := by decide +kernel
theorem d9_29 : decode prog_31_method_5_code 29 = .ok (.aload_n 0, 1) := by decide +kernel
theorem d9_30 : decode prog_31_method_5_code 30 = .ok (.getfield 31, 3) := by decide +kernel
theorem d9_33 : decode prog_31_method_5_code 33 = .ok (.aload_n 1, 1) := by decide +kernel
theorem d9_34 : decode prog_31_method_5_code 34 = .ok (.getfield 31, 3) := by decide +kernel
theorem d9_37 : decode prog_31_method_5_code 37 = .ok (.if_icmp .gt 31, 3) := by decide +kernel
theorem d9_40 : decode prog_31_method_5_code 40 = .ok (.aload_n 1, 1) := by decide +kernel
theorem d9_41 : decode prog_31_method_5_code 41 = .ok (.getfield 34, 3) := by decide +kernel
theorem d9_44 : decode prog_31_method_5_code 44 = .ok (.aload_n 0, 1) := by decide +kernel
theorem d9_45 : decode prog_31_method_5_code 45 = .ok (.getfield 34, 3) := by decide +kernel
theorem d9_48 : decode prog_31_method_5_code 48 = .ok (.lcmp, 1) := by decide +kernel
theorem d9_49 : decode prog_31_method_5_code 49 = .ok (.ifCond .gt 19, 3) := by decide +kernel
theorem d9_52 : decode prog_31_method_5_code 52 = .ok (.aload_n 0, 1) := by decide +kernel
theorem d9_53 : decode prog_31_method_5_code 53 = .ok (.getfield 38, 3) := by decide +kernel
theorem d9_56 : decode prog_31_method_5_code 56 = .ok (.aload_n 1, 1) := by decide +kernel
theorem d9_57 : decode prog_31_method_5_code 57 = .ok (.getfield 38, 3) := by decide +kernel
theorem d9_60 : decode prog_31_method_5_code 60 = .ok (.lcmp, 1) := by decide +kernel
theorem d9_61 : decode prog_31_method_5_code 61 = .ok (.ifCond .gt 7, 3) := by decide +kernel
theorem d9_64 : decode prog_31_method_5_code 64 = .ok (.iconst 1, 1) := by decide +kernel
theorem d9_65 : decode prog_31_method_5_code 65 = .ok (.goto 4, 3) := by decide +kernel
theorem d9_68 : decode prog_31_method_5_code 68 = .ok (.iconst 0, 1) := by decide +kernel
theorem d9_69 : decode prog_31_method_5_code 69 = .ok (.ireturn, 1) := by decide +kernel
theorem pn_9 : plainName "com/example/meticulous_audit/meticulousaudit/ike/TrafficSelector" = true := by first | (simp [plainName, overriddenIn]; done) | decide +kernel
theorem ef_9 (m : MethodId) (x0 : Addr) (x1 : Addr) : entryFrame m #[(.ref x0), (.ref x1)] 2 = mkF m 0 #[.val (.ref x0), .val (.ref x1)] [] := by first | (simp [entryFrame, mkF, argsToLocals, Value.category]; done) | rfl
def Q9 (Z : State) (a1 : Addr) (a2 : Addr) (t1 : Int32) (s1 : Int32) (n1 : Int32) (c1 : Int64) (g1 : Int64) (t2 : Int32) (s2 : Int32) (n2 : Int32) (c2 : Int64) (g2 : Int64) (h0 : Heap) (n0 : Nat) (v : Option Value) (h : Heap) (L : List Loc) : Prop := ∃ r : Int32, v = some (.int r) ∧ (r = (if ((t2 = (0 : Int32) ∨ t2 = t1) ∧ ¬ (s1 < s2) ∧ ¬ (n2 < n1) ∧ ¬ (c1 < c2) ∧ ¬ (g2 < g1)) then (1 : Int32) else (0 : Int32))) ∧ Fr n0 L ∧ h = h0
set_option maxRecDepth 65536 in
set_option maxHeartbeats 40000000 in
theorem rm9 (l : Launch) (Z : State) (a0 : Array Value) (hw : ∀ d ∈ tables_1, d.before a0 Z = true) (ws : List Jvm.Cond) (a1 : Addr) (a2 : Addr) (t1 : Int32) (s1 : Int32) (n1 : Int32) (c1 : Int64) (g1 : Int64) (t2 : Int32) (s2 : Int32) (n2 : Int32) (c2 : Int64) (g2 : Int64) (h0 : Heap) (n0 : Nat) (Z0 : n0 ≤ h0.size) (F_a1_protocol : Fld Z h0 a1 "com/example/meticulous_audit/meticulousaudit/ike/TrafficSelector" "protocol" "I" (.int t1)) (F_a1_startPort : Fld Z h0 a1 "com/example/meticulous_audit/meticulousaudit/ike/TrafficSelector" "startPort" "I" (.int s1)) (F_a1_endPort : Fld Z h0 a1 "com/example/meticulous_audit/meticulousaudit/ike/TrafficSelector" "endPort" "I" (.int n1)) (F_a1_startAddress : Fld Z h0 a1 "com/example/meticulous_audit/meticulousaudit/ike/TrafficSelector" "startAddress" "J" (.long c1)) (F_a1_endAddress : Fld Z h0 a1 "com/example/meticulous_audit/meticulousaudit/ike/TrafficSelector" "endAddress" "J" (.long g1)) (F_a2_protocol : Fld Z h0 a2 "com/example/meticulous_audit/meticulousaudit/ike/TrafficSelector" "protocol" "I" (.int t2)) (F_a2_startPort : Fld Z h0 a2 "com/example/meticulous_audit/meticulousaudit/ike/TrafficSelector" "startPort" "I" (.int s2)) (F_a2_endPort : Fld Z h0 a2 "com/example/meticulous_audit/meticulousaudit/ike/TrafficSelector" "endPort" "I" (.int n2)) (F_a2_startAddress : Fld Z h0 a2 "com/example/meticulous_audit/meticulousaudit/ike/TrafficSelector" "startAddress" "J" (.long c2)) (F_a2_endAddress : Fld Z h0 a2 "com/example/meticulous_audit/meticulousaudit/ike/TrafficSelector" "endAddress" "J" (.long g2)) :
    MetFree l (⟨"com/example/meticulous_audit/meticulousaudit/ike/TrafficSelector", "within", "(Lcom/example/meticulous_audit/meticulousaudit/ike/TrafficSelector;)Z"⟩ : MethodName) (head1 (Jvm.Cond.code (⟨"com/example/meticulous_audit/meticulousaudit/ike/TrafficSelector", "within", "(Lcom/example/meticulous_audit/meticulousaudit/ike/TrafficSelector;)Z"⟩ : MethodName) prog_31_method_5_code 2 (some .boolean) :: ws) ({ frames := 0, cells := 0, slots := 0, locals := 0 } : Room)) (fun a U => a = #[(.ref a1), (.ref a2)] ∧ Z.Warmed39 U.vm ∧ U.heap = h0) (fun _ _ _ _ _ => True) (fun _ U o U' => ∃ v L, o = .returned v ∧ Q9 Z a1 a2 t1 s1 n1 c1 g1 t2 s2 n2 c2 g2 h0 n0 v U'.heap L ∧ FrameEnd U o U' L ({ frames := 0, cells := 0, slots := 0, locals := 0 } : Room).cells ({ frames := 0, cells := 0, slots := 0, locals := 0 } : Room).slots) := by
  refine MetFree.of_bodySF (plainFor_of_name pn_9) hisR ?_
  intro p e s m args below meth c s₁ Bd hml0 hP hK
  obtain ⟨rfl, hZ, hh⟩ := hP
  have hx := Bd.exec
  have hby := Bd.bytes
  have hml : c.maxLocals = 2 := hml0
  have hown : s.vm.findClass "com/example/meticulous_audit/meticulousaudit/ike/TrafficSelector" = some m.cls := findClass_of_methodNamed Bd.named
  have hnm := (name_of_methodNamed Bd.named Bd.method).1
  have X0 : Stand p l e ({ frames := 0, cells := 0, slots := 0, locals := 0 } : Room) s m #[(.ref a1), (.ref a2)] below meth c s₁ [] 0 0 := Stand.of_body Bd
  have e0 : s₁.heap = h0 := by rw [← hh, Bd.state]; rfl
  have N0 := Fr.nil n0
  have K0 : Keep h0 h0 [] := Keep.refl _ _
  have pre0 : ∀ t, Steps p.tables e below (s₁.setTop (mkF m 0 #[.val (.ref a1), .val (.ref a2)] [])) t → Steps p.tables e below (s₁.setTop (entryFrame m #[(.ref a1), (.ref a2)] 2)) t := fun t k => castTop (ef_9 m a1 a2) k
  refine own_go (S' := fun t => Steps p.tables e below (s₁.setTop (mkF m 0 #[.val (.ref a1), .val (.ref a2)] [])) t) pre0 ?_
  obtain ⟨T1, X1, e1, st1⟩ := getF X0 hx hZ hown (host := "") (Or.inl (hw _ (List.mem_of_getElem? (i := 31) rfl))) Via.refl e0 F_a2_protocol (g := (mkF m 1 #[.val (.ref a1), .val (.ref a2)] [(.ref a2)])) rfl rfl (hb hby d9_1)
  refine own_go (S' := fun t => Steps p.tables e below (T1.setTop (mkF m 4 #[.val (.ref a1), .val (.ref a2)] [(.int t2)])) t) (fun t k => ?_) ?_
  · show Steps p.tables e below (s₁.setTop (mkF m 0 #[.val (.ref a1), .val (.ref a2)] [])) _
    refine XS.aloadN X0.here hx rfl (hb hby d9_0) rfl rfl ?_
    show Steps p.tables e below (s₁.setTop (mkF m 1 #[.val (.ref a1), .val (.ref a2)] [(.ref a2)])) _
    refine st1 _ ?_
    exact k
  by_cases hc4 : t2 = (0 : Int32)
  · obtain ⟨T2, X2, e2, st2⟩ := getF X1 hx hZ hown (host := "") (Or.inl (hw _ (List.mem_of_getElem? (i := 33) rfl))) Via.refl e1 F_a2_startPort (g := (mkF m 19 #[.val (.ref a1), .val (.ref a2)] [(.ref a2)])) rfl rfl (hb hby d9_19)
    obtain ⟨T3, X3, e3, st3⟩ := getF X2 hx hZ hown (host := "") (Or.inl (hw _ (List.mem_of_getElem? (i := 33) rfl))) Via.refl e2 F_a1_startPort (g := (mkF m 23 #[.val (.ref a1), .val (.ref a2)] [(.ref a1), (.int s2)])) rfl rfl (hb hby d9_23)
    refine own_go (S' := fun t => Steps p.tables e below (T3.setTop (mkF m 26 #[.val (.ref a1), .val (.ref a2)] [(.int s1), (.int s2)])) t) (fun t k => ?_) ?_
    · show Steps p.tables e below (T1.setTop (mkF m 4 #[.val (.ref a1), .val (.ref a2)] [(.int t2)])) _
      refine XS.ifYes X1.here hx rfl (pc0 := 4) (pc' := 18) rfl (hb hby d9_4) rfl ((if0 _ _).trans (teq hc4).1) (by decide) (by decide) ?_
      show Steps p.tables e below (T1.setTop (mkF m 18 #[.val (.ref a1), .val (.ref a2)] [])) _
      refine XS.aloadN X1.here hx rfl (hb hby d9_18) rfl rfl ?_
      show Steps p.tables e below (T1.setTop (mkF m 19 #[.val (.ref a1), .val (.ref a2)] [(.ref a2)])) _
      refine st2 _ ?_
      show Steps p.tables e below (T2.setTop (mkF m 22 #[.val (.ref a1), .val (.ref a2)] [(.int s2)])) _
      refine XS.aloadN X2.here hx rfl (hb hby d9_22) rfl rfl ?_
      show Steps p.tables e below (T2.setTop (mkF m 23 #[.val (.ref a1), .val (.ref a2)] [(.ref a1), (.int s2)])) _
      refine st3 _ ?_
      exact k
    by_cases hc26 : s1 < s2
    · obtain ⟨fs, hr, hrun, hended, hW, hsame⟩ := X3.leave (v := some (.int (0 : Int32))) (fun h => by rw [Bd.returns] at h; cases h)
      refine ⟨_, _, ?_, hrun, hended, _, _, rfl, ?_, ⟨_, rfl⟩, hW, hsame.mono (by decide) (by decide)⟩
      · show Steps p.tables e below (T3.setTop (mkF m 26 #[.val (.ref a1), .val (.ref a2)] [(.int s1), (.int s2)])) _
        refine XS.icmpYes X3.here hx rfl (pc0 := 26) (pc' := 68) rfl (hb hby d9_26) rfl (tlt hc26).2.2.1 (by decide) (by decide) ?_
        show Steps p.tables e below (T3.setTop (mkF m 68 #[.val (.ref a1), .val (.ref a2)] [])) _
        refine XS.iconst X3.here hx rfl (hb hby d9_68) ?_
        show Steps p.tables e below (T3.setTop (mkF m 69 #[.val (.ref a1), .val (.ref a2)] [(.int (0 : Int32))])) _
        exact retN X3 hx (t := .boolean) Bd.returns (by simp) (hb hby d9_69) hr
      · show Q9 Z a1 a2 t1 s1 n1 c1 g1 t2 s2 n2 c2 g2 h0 n0 _ T3.heap _
        rw [e3]
        exact ⟨_, rfl, (if_neg (fun z => z.2.1 hc26)).symm, N0, rfl⟩
    · obtain ⟨T4, X4, e4, st4⟩ := getF X3 hx hZ hown (host := "") (Or.inl (hw _ (List.mem_of_getElem? (i := 35) rfl))) Via.refl e3 F_a1_endPort (g := (mkF m 30 #[.val (.ref a1), .val (.ref a2)] [(.ref a1)])) rfl rfl (hb hby d9_30)
      obtain ⟨T5, X5, e5, st5⟩ := getF X4 hx hZ hown (host := "") (Or.inl (hw _ (List.mem_of_getElem? (i := 35) rfl))) Via.refl e4 F_a2_endPort (g := (mkF m 34 #[.val (.ref a1), .val (.ref a2)] [(.ref a2), (.int n1)])) rfl rfl (hb hby d9_34)
      refine own_go (S' := fun t => Steps p.tables e below (T5.setTop (mkF m 37 #[.val (.ref a1), .val (.ref a2)] [(.int n2), (.int n1)])) t) (fun t k => ?_) ?_
      · show Steps p.tables e below (T3.setTop (mkF m 26 #[.val (.ref a1), .val (.ref a2)] [(.int s1), (.int s2)])) _
        refine XS.icmpNo X3.here hx rfl (hb hby d9_26) rfl (flt hc26).2.2.1 ?_
        show Steps p.tables e below (T3.setTop (mkF m 29 #[.val (.ref a1), .val (.ref a2)] [])) _
        refine XS.aloadN X3.here hx rfl (hb hby d9_29) rfl rfl ?_
        show Steps p.tables e below (T3.setTop (mkF m 30 #[.val (.ref a1), .val (.ref a2)] [(.ref a1)])) _
        refine st4 _ ?_
        show Steps p.tables e below (T4.setTop (mkF m 33 #[.val (.ref a1), .val (.ref a2)] [(.int n1)])) _
        refine XS.aloadN X4.here hx rfl (hb hby d9_33) rfl rfl ?_
        show Steps p.tables e below (T4.setTop (mkF m 34 #[.val (.ref a1), .val (.ref a2)] [(.ref a2), (.int n1)])) _
        refine st5 _ ?_
        exact k
      by_cases hc37 : n2 < n1
      · obtain ⟨fs, hr, hrun, hended, hW, hsame⟩ := X5.leave (v := some (.int (0 : Int32))) (fun h => by rw [Bd.returns] at h; cases h)
        refine ⟨_, _, ?_, hrun, hended, _, _, rfl, ?_, ⟨_, rfl⟩, hW, hsame.mono (by decide) (by decide)⟩
        · show Steps p.tables e below (T5.setTop (mkF m 37 #[.val (.ref a1), .val (.ref a2)] [(.int n2), (.int n1)])) _
          refine XS.icmpYes X5.here hx rfl (pc0 := 37) (pc' := 68) rfl (hb hby d9_37) rfl (tlt hc37).2.2.1 (by decide) (by decide) ?_
          show Steps p.tables e below (T5.setTop (mkF m 68 #[.val (.ref a1), .val (.ref a2)] [])) _
          refine XS.iconst X5.here hx rfl (hb hby d9_68) ?_
          show Steps p.tables e below (T5.setTop (mkF m 69 #[.val (.ref a1), .val (.ref a2)] [(.int (0 : Int32))])) _
          exact retN X5 hx (t := .boolean) Bd.returns (by simp) (hb hby d9_69) hr
        · show Q9 Z a1 a2 t1 s1 n1 c1 g1 t2 s2 n2 c2 g2 h0 n0 _ T5.heap _
          rw [e5]
          exact ⟨_, rfl, (if_neg (fun z => z.2.2.1 hc37)).symm, N0, rfl⟩
      · obtain ⟨T6, X6, e6, st6⟩ := getF X5 hx hZ hown (host := "") (Or.inl (hw _ (List.mem_of_getElem? (i := 37) rfl))) Via.refl e5 F_a2_startAddress (g := (mkF m 41 #[.val (.ref a1), .val (.ref a2)] [(.ref a2)])) rfl rfl (hb hby d9_41)
        obtain ⟨T7, X7, e7, st7⟩ := getF X6 hx hZ hown (host := "") (Or.inl (hw _ (List.mem_of_getElem? (i := 37) rfl))) Via.refl e6 F_a1_startAddress (g := (mkF m 45 #[.val (.ref a1), .val (.ref a2)] [(.ref a1), (.long c2)])) rfl rfl (hb hby d9_45)
        refine own_go (S' := fun t => Steps p.tables e below (T7.setTop (mkF m 49 #[.val (.ref a1), .val (.ref a2)] [(.int (lcmpW c2 c1))])) t) (fun t k => ?_) ?_
        · show Steps p.tables e below (T5.setTop (mkF m 37 #[.val (.ref a1), .val (.ref a2)] [(.int n2), (.int n1)])) _
          refine XS.icmpNo X5.here hx rfl (hb hby d9_37) rfl (flt hc37).2.2.1 ?_
          show Steps p.tables e below (T5.setTop (mkF m 40 #[.val (.ref a1), .val (.ref a2)] [])) _
          refine XS.aloadN X5.here hx rfl (hb hby d9_40) rfl rfl ?_
          show Steps p.tables e below (T5.setTop (mkF m 41 #[.val (.ref a1), .val (.ref a2)] [(.ref a2)])) _
          refine st6 _ ?_
          show Steps p.tables e below (T6.setTop (mkF m 44 #[.val (.ref a1), .val (.ref a2)] [(.long c2)])) _
          refine XS.aloadN X6.here hx rfl (hb hby d9_44) rfl rfl ?_
          show Steps p.tables e below (T6.setTop (mkF m 45 #[.val (.ref a1), .val (.ref a2)] [(.ref a1), (.long c2)])) _
          refine st7 _ ?_
          show Steps p.tables e below (T7.setTop (mkF m 48 #[.val (.ref a1), .val (.ref a2)] [(.long c1), (.long c2)])) _
          refine XS.lcmp X7.here hx rfl (hb hby d9_48) rfl ?_
          exact k
        by_cases hc49 : c1 < c2
        · obtain ⟨fs, hr, hrun, hended, hW, hsame⟩ := X7.leave (v := some (.int (0 : Int32))) (fun h => by rw [Bd.returns] at h; cases h)
          refine ⟨_, _, ?_, hrun, hended, _, _, rfl, ?_, ⟨_, rfl⟩, hW, hsame.mono (by decide) (by decide)⟩
          · show Steps p.tables e below (T7.setTop (mkF m 49 #[.val (.ref a1), .val (.ref a2)] [(.int (lcmpW c2 c1))])) _
            refine XS.ifYes X7.here hx rfl (pc0 := 49) (pc' := 68) rfl (hb hby d9_49) rfl ((if0 _ _).trans (tlt ((lw_gt _ _).mpr hc49)).2.2.1) (by decide) (by decide) ?_
            show Steps p.tables e below (T7.setTop (mkF m 68 #[.val (.ref a1), .val (.ref a2)] [])) _
            refine XS.iconst X7.here hx rfl (hb hby d9_68) ?_
            show Steps p.tables e below (T7.setTop (mkF m 69 #[.val (.ref a1), .val (.ref a2)] [(.int (0 : Int32))])) _
            exact retN X7 hx (t := .boolean) Bd.returns (by simp) (hb hby d9_69) hr
          · show Q9 Z a1 a2 t1 s1 n1 c1 g1 t2 s2 n2 c2 g2 h0 n0 _ T7.heap _
            rw [e7]
            exact ⟨_, rfl, (if_neg (fun z => z.2.2.2.1 hc49)).symm, N0, rfl⟩
        · obtain ⟨T8, X8, e8, st8⟩ := getF X7 hx hZ hown (host := "") (Or.inl (hw _ (List.mem_of_getElem? (i := 39) rfl))) Via.refl e7 F_a1_endAddress (g := (mkF m 53 #[.val (.ref a1), .val (.ref a2)] [(.ref a1)])) rfl rfl (hb hby d9_53)
          obtain ⟨T9, X9, e9, st9⟩ := getF X8 hx hZ hown (host := "") (Or.inl (hw _ (List.mem_of_getElem? (i := 39) rfl))) Via.refl e8 F_a2_endAddress (g := (mkF m 57 #[.val (.ref a1), .val (.ref a2)] [(.ref a2), (.long g1)])) rfl rfl (hb hby d9_57)
          refine own_go (S' := fun t => Steps p.tables e below (T9.setTop (mkF m 61 #[.val (.ref a1), .val (.ref a2)] [(.int (lcmpW g1 g2))])) t) (fun t k => ?_) ?_
          · show Steps p.tables e below (T7.setTop (mkF m 49 #[.val (.ref a1), .val (.ref a2)] [(.int (lcmpW c2 c1))])) _
            refine XS.ifNo X7.here hx rfl (hb hby d9_49) rfl ((if0 _ _).trans (flt (fun z => hc49 ((lw_gt _ _).mp z))).2.2.1) ?_
            show Steps p.tables e below (T7.setTop (mkF m 52 #[.val (.ref a1), .val (.ref a2)] [])) _
            refine XS.aloadN X7.here hx rfl (hb hby d9_52) rfl rfl ?_
            show Steps p.tables e below (T7.setTop (mkF m 53 #[.val (.ref a1), .val (.ref a2)] [(.ref a1)])) _
            refine st8 _ ?_
            show Steps p.tables e below (T8.setTop (mkF m 56 #[.val (.ref a1), .val (.ref a2)] [(.long g1)])) _
            refine XS.aloadN X8.here hx rfl (hb hby d9_56) rfl rfl ?_
            show Steps p.tables e below (T8.setTop (mkF m 57 #[.val (.ref a1), .val (.ref a2)] [(.ref a2), (.long g1)])) _
            refine st9 _ ?_
            show Steps p.tables e below (T9.setTop (mkF m 60 #[.val (.ref a1), .val (.ref a2)] [(.long g2), (.long g1)])) _
            refine XS.lcmp X9.here hx rfl (hb hby d9_60) rfl ?_
            exact k
          by_cases hc61 : g2 < g1
          · obtain ⟨fs, hr, hrun, hended, hW, hsame⟩ := X9.leave (v := some (.int (0 : Int32))) (fun h => by rw [Bd.returns] at h; cases h)
            refine ⟨_, _, ?_, hrun, hended, _, _, rfl, ?_, ⟨_, rfl⟩, hW, hsame.mono (by decide) (by decide)⟩
            · show Steps p.tables e below (T9.setTop (mkF m 61 #[.val (.ref a1), .val (.ref a2)] [(.int (lcmpW g1 g2))])) _
              refine XS.ifYes X9.here hx rfl (pc0 := 61) (pc' := 68) rfl (hb hby d9_61) rfl ((if0 _ _).trans (tlt ((lw_gt _ _).mpr hc61)).2.2.1) (by decide) (by decide) ?_
              show Steps p.tables e below (T9.setTop (mkF m 68 #[.val (.ref a1), .val (.ref a2)] [])) _
              refine XS.iconst X9.here hx rfl (hb hby d9_68) ?_
              show Steps p.tables e below (T9.setTop (mkF m 69 #[.val (.ref a1), .val (.ref a2)] [(.int (0 : Int32))])) _
              exact retN X9 hx (t := .boolean) Bd.returns (by simp) (hb hby d9_69) hr
            · show Q9 Z a1 a2 t1 s1 n1 c1 g1 t2 s2 n2 c2 g2 h0 n0 _ T9.heap _
              rw [e9]
              exact ⟨_, rfl, (if_neg (fun z => z.2.2.2.2 hc61)).symm, N0, rfl⟩
          · obtain ⟨fs, hr, hrun, hended, hW, hsame⟩ := X9.leave (v := some (.int (1 : Int32))) (fun h => by rw [Bd.returns] at h; cases h)
            refine ⟨_, _, ?_, hrun, hended, _, _, rfl, ?_, ⟨_, rfl⟩, hW, hsame.mono (by decide) (by decide)⟩
            · show Steps p.tables e below (T9.setTop (mkF m 61 #[.val (.ref a1), .val (.ref a2)] [(.int (lcmpW g1 g2))])) _
              refine XS.ifNo X9.here hx rfl (hb hby d9_61) rfl ((if0 _ _).trans (flt (fun z => hc61 ((lw_gt _ _).mp z))).2.2.1) ?_
              show Steps p.tables e below (T9.setTop (mkF m 64 #[.val (.ref a1), .val (.ref a2)] [])) _
              refine XS.iconst X9.here hx rfl (hb hby d9_64) ?_
              show Steps p.tables e below (T9.setTop (mkF m 65 #[.val (.ref a1), .val (.ref a2)] [(.int (1 : Int32))])) _
              refine XS.goto X9.here hx rfl (pc0 := 65) (pc' := 69) rfl (hb hby d9_65) (by decide) (by decide) ?_
              show Steps p.tables e below (T9.setTop (mkF m 69 #[.val (.ref a1), .val (.ref a2)] [(.int (1 : Int32))])) _
              exact retN X9 hx (t := .boolean) Bd.returns (by simp) (hb hby d9_69) hr
            · show Q9 Z a1 a2 t1 s1 n1 c1 g1 t2 s2 n2 c2 g2 h0 n0 _ T9.heap _
              rw [e9]
              exact ⟨_, rfl, (if_pos ⟨Or.inl hc4, hc26, hc37, hc49, hc61⟩).symm, N0, rfl⟩
  · obtain ⟨T10, X10, e10, st10⟩ := getF X1 hx hZ hown (host := "") (Or.inl (hw _ (List.mem_of_getElem? (i := 31) rfl))) Via.refl e1 F_a2_protocol (g := (mkF m 8 #[.val (.ref a1), .val (.ref a2)] [(.ref a2)])) rfl rfl (hb hby d9_8)
    obtain ⟨T11, X11, e11, st11⟩ := getF X10 hx hZ hown (host := "") (Or.inl (hw _ (List.mem_of_getElem? (i := 31) rfl))) Via.refl e10 F_a1_protocol (g := (mkF m 12 #[.val (.ref a1), .val (.ref a2)] [(.ref a1), (.int t2)])) rfl rfl (hb hby d9_12)
    refine own_go (S' := fun t => Steps p.tables e below (T11.setTop (mkF m 15 #[.val (.ref a1), .val (.ref a2)] [(.int t1), (.int t2)])) t) (fun t k => ?_) ?_
    · show Steps p.tables e below (T1.setTop (mkF m 4 #[.val (.ref a1), .val (.ref a2)] [(.int t2)])) _
      refine XS.ifNo X1.here hx rfl (hb hby d9_4) rfl ((if0 _ _).trans (feq hc4).1) ?_
      show Steps p.tables e below (T1.setTop (mkF m 7 #[.val (.ref a1), .val (.ref a2)] [])) _
      refine XS.aloadN X1.here hx rfl (hb hby d9_7) rfl rfl ?_
      show Steps p.tables e below (T1.setTop (mkF m 8 #[.val (.ref a1), .val (.ref a2)] [(.ref a2)])) _
      refine st10 _ ?_
      show Steps p.tables e below (T10.setTop (mkF m 11 #[.val (.ref a1), .val (.ref a2)] [(.int t2)])) _
      refine XS.aloadN X10.here hx rfl (hb hby d9_11) rfl rfl ?_
      show Steps p.tables e below (T10.setTop (mkF m 12 #[.val (.ref a1), .val (.ref a2)] [(.ref a1), (.int t2)])) _
      refine st11 _ ?_
      exact k
    by_cases hc15 : t2 = t1
    · obtain ⟨T12, X12, e12, st12⟩ := getF X11 hx hZ hown (host := "") (Or.inl (hw _ (List.mem_of_getElem? (i := 33) rfl))) Via.refl e11 F_a2_startPort (g := (mkF m 19 #[.val (.ref a1), .val (.ref a2)] [(.ref a2)])) rfl rfl (hb hby d9_19)
      obtain ⟨T13, X13, e13, st13⟩ := getF X12 hx hZ hown (host := "") (Or.inl (hw _ (List.mem_of_getElem? (i := 33) rfl))) Via.refl e12 F_a1_startPort (g := (mkF m 23 #[.val (.ref a1), .val (.ref a2)] [(.ref a1), (.int s2)])) rfl rfl (hb hby d9_23)
      refine own_go (S' := fun t => Steps p.tables e below (T13.setTop (mkF m 26 #[.val (.ref a1), .val (.ref a2)] [(.int s1), (.int s2)])) t) (fun t k => ?_) ?_
      · show Steps p.tables e below (T11.setTop (mkF m 15 #[.val (.ref a1), .val (.ref a2)] [(.int t1), (.int t2)])) _
        refine XS.icmpNo X11.here hx rfl (hb hby d9_15) rfl (teq hc15).2 ?_
        show Steps p.tables e below (T11.setTop (mkF m 18 #[.val (.ref a1), .val (.ref a2)] [])) _
        refine XS.aloadN X11.here hx rfl (hb hby d9_18) rfl rfl ?_
        show Steps p.tables e below (T11.setTop (mkF m 19 #[.val (.ref a1), .val (.ref a2)] [(.ref a2)])) _
        refine st12 _ ?_
        show Steps p.tables e below (T12.setTop (mkF m 22 #[.val (.ref a1), .val (.ref a2)] [(.int s2)])) _
        refine XS.aloadN X12.here hx rfl (hb hby d9_22) rfl rfl ?_
        show Steps p.tables e below (T12.setTop (mkF m 23 #[.val (.ref a1), .val (.ref a2)] [(.ref a1), (.int s2)])) _
        refine st13 _ ?_
        exact k
      by_cases hc26 : s1 < s2
      · obtain ⟨fs, hr, hrun, hended, hW, hsame⟩ := X13.leave (v := some (.int (0 : Int32))) (fun h => by rw [Bd.returns] at h; cases h)
        refine ⟨_, _, ?_, hrun, hended, _, _, rfl, ?_, ⟨_, rfl⟩, hW, hsame.mono (by decide) (by decide)⟩
        · show Steps p.tables e below (T13.setTop (mkF m 26 #[.val (.ref a1), .val (.ref a2)] [(.int s1), (.int s2)])) _
          refine XS.icmpYes X13.here hx rfl (pc0 := 26) (pc' := 68) rfl (hb hby d9_26) rfl (tlt hc26).2.2.1 (by decide) (by decide) ?_
          show Steps p.tables e below (T13.setTop (mkF m 68 #[.val (.ref a1), .val (.ref a2)] [])) _
          refine XS.iconst X13.here hx rfl (hb hby d9_68) ?_
          show Steps p.tables e below (T13.setTop (mkF m 69 #[.val (.ref a1), .val (.ref a2)] [(.int (0 : Int32))])) _
          exact retN X13 hx (t := .boolean) Bd.returns (by simp) (hb hby d9_69) hr
        · show Q9 Z a1 a2 t1 s1 n1 c1 g1 t2 s2 n2 c2 g2 h0 n0 _ T13.heap _
          rw [e13]
          exact ⟨_, rfl, (if_neg (fun z => z.2.1 hc26)).symm, N0, rfl⟩
      · obtain ⟨T14, X14, e14, st14⟩ := getF X13 hx hZ hown (host := "") (Or.inl (hw _ (List.mem_of_getElem? (i := 35) rfl))) Via.refl e13 F_a1_endPort (g := (mkF m 30 #[.val (.ref a1), .val (.ref a2)] [(.ref a1)])) rfl rfl (hb hby d9_30)
        obtain ⟨T15, X15, e15, st15⟩ := getF X14 hx hZ hown (host := "") (Or.inl (hw _ (List.mem_of_getElem? (i := 35) rfl))) Via.refl e14 F_a2_endPort (g := (mkF m 34 #[.val (.ref a1), .val (.ref a2)] [(.ref a2), (.int n1)])) rfl rfl (hb hby d9_34)
        refine own_go (S' := fun t => Steps p.tables e below (T15.setTop (mkF m 37 #[.val (.ref a1), .val (.ref a2)] [(.int n2), (.int n1)])) t) (fun t k => ?_) ?_
        · show Steps p.tables e below (T13.setTop (mkF m 26 #[.val (.ref a1), .val (.ref a2)] [(.int s1), (.int s2)])) _
          refine XS.icmpNo X13.here hx rfl (hb hby d9_26) rfl (flt hc26).2.2.1 ?_
          show Steps p.tables e below (T13.setTop (mkF m 29 #[.val (.ref a1), .val (.ref a2)] [])) _
          refine XS.aloadN X13.here hx rfl (hb hby d9_29) rfl rfl ?_
          show Steps p.tables e below (T13.setTop (mkF m 30 #[.val (.ref a1), .val (.ref a2)] [(.ref a1)])) _
          refine st14 _ ?_
          show Steps p.tables e below (T14.setTop (mkF m 33 #[.val (.ref a1), .val (.ref a2)] [(.int n1)])) _
          refine XS.aloadN X14.here hx rfl (hb hby d9_33) rfl rfl ?_
          show Steps p.tables e below (T14.setTop (mkF m 34 #[.val (.ref a1), .val (.ref a2)] [(.ref a2), (.int n1)])) _
          refine st15 _ ?_
          exact k
        by_cases hc37 : n2 < n1
        · obtain ⟨fs, hr, hrun, hended, hW, hsame⟩ := X15.leave (v := some (.int (0 : Int32))) (fun h => by rw [Bd.returns] at h; cases h)
          refine ⟨_, _, ?_, hrun, hended, _, _, rfl, ?_, ⟨_, rfl⟩, hW, hsame.mono (by decide) (by decide)⟩
          · show Steps p.tables e below (T15.setTop (mkF m 37 #[.val (.ref a1), .val (.ref a2)] [(.int n2), (.int n1)])) _
            refine XS.icmpYes X15.here hx rfl (pc0 := 37) (pc' := 68) rfl (hb hby d9_37) rfl (tlt hc37).2.2.1 (by decide) (by decide) ?_
            show Steps p.tables e below (T15.setTop (mkF m 68 #[.val (.ref a1), .val (.ref a2)] [])) _
            refine XS.iconst X15.here hx rfl (hb hby d9_68) ?_
            show Steps p.tables e below (T15.setTop (mkF m 69 #[.val (.ref a1), .val (.ref a2)] [(.int (0 : Int32))])) _
            exact retN X15 hx (t := .boolean) Bd.returns (by simp) (hb hby d9_69) hr
          · show Q9 Z a1 a2 t1 s1 n1 c1 g1 t2 s2 n2 c2 g2 h0 n0 _ T15.heap _
            rw [e15]
            exact ⟨_, rfl, (if_neg (fun z => z.2.2.1 hc37)).symm, N0, rfl⟩
        · obtain ⟨T16, X16, e16, st16⟩ := getF X15 hx hZ hown (host := "") (Or.inl (hw _ (List.mem_of_getElem? (i := 37) rfl))) Via.refl e15 F_a2_startAddress (g := (mkF m 41 #[.val (.ref a1), .val (.ref a2)] [(.ref a2)])) rfl rfl (hb hby d9_41)
          obtain ⟨T17, X17, e17, st17⟩ := getF X16 hx hZ hown (host := "") (Or.inl (hw _ (List.mem_of_getElem? (i := 37) rfl))) Via.refl e16 F_a1_startAddress (g := (mkF m 45 #[.val (.ref a1), .val (.ref a2)] [(.ref a1), (.long c2)])) rfl rfl (hb hby d9_45)
          refine own_go (S' := fun t => Steps p.tables e below (T17.setTop (mkF m 49 #[.val (.ref a1), .val (.ref a2)] [(.int (lcmpW c2 c1))])) t) (fun t k => ?_) ?_
          · show Steps p.tables e below (T15.setTop (mkF m 37 #[.val (.ref a1), .val (.ref a2)] [(.int n2), (.int n1)])) _
            refine XS.icmpNo X15.here hx rfl (hb hby d9_37) rfl (flt hc37).2.2.1 ?_
            show Steps p.tables e below (T15.setTop (mkF m 40 #[.val (.ref a1), .val (.ref a2)] [])) _
            refine XS.aloadN X15.here hx rfl (hb hby d9_40) rfl rfl ?_
            show Steps p.tables e below (T15.setTop (mkF m 41 #[.val (.ref a1), .val (.ref a2)] [(.ref a2)])) _
            refine st16 _ ?_
            show Steps p.tables e below (T16.setTop (mkF m 44 #[.val (.ref a1), .val (.ref a2)] [(.long c2)])) _
            refine XS.aloadN X16.here hx rfl (hb hby d9_44) rfl rfl ?_
            show Steps p.tables e below (T16.setTop (mkF m 45 #[.val (.ref a1), .val (.ref a2)] [(.ref a1), (.long c2)])) _
            refine st17 _ ?_
            show Steps p.tables e below (T17.setTop (mkF m 48 #[.val (.ref a1), .val (.ref a2)] [(.long c1), (.long c2)])) _
            refine XS.lcmp X17.here hx rfl (hb hby d9_48) rfl ?_
            exact k
          by_cases hc49 : c1 < c2
          · obtain ⟨fs, hr, hrun, hended, hW, hsame⟩ := X17.leave (v := some (.int (0 : Int32))) (fun h => by rw [Bd.returns] at h; cases h)
            refine ⟨_, _, ?_, hrun, hended, _, _, rfl, ?_, ⟨_, rfl⟩, hW, hsame.mono (by decide) (by decide)⟩
            · show Steps p.tables e below (T17.setTop (mkF m 49 #[.val (.ref a1), .val (.ref a2)] [(.int (lcmpW c2 c1))])) _
              refine XS.ifYes X17.here hx rfl (pc0 := 49) (pc' := 68) rfl (hb hby d9_49) rfl ((if0 _ _).trans (tlt ((lw_gt _ _).mpr hc49)).2.2.1) (by decide) (by decide) ?_
              show Steps p.tables e below (T17.setTop (mkF m 68 #[.val (.ref a1), .val (.ref a2)] [])) _
              refine XS.iconst X17.here hx rfl (hb hby d9_68) ?_
              show Steps p.tables e below (T17.setTop (mkF m 69 #[.val (.ref a1), .val (.ref a2)] [(.int (0 : Int32))])) _
              exact retN X17 hx (t := .boolean) Bd.returns (by simp) (hb hby d9_69) hr
            · show Q9 Z a1 a2 t1 s1 n1 c1 g1 t2 s2 n2 c2 g2 h0 n0 _ T17.heap _
              rw [e17]
              exact ⟨_, rfl, (if_neg (fun z => z.2.2.2.1 hc49)).symm, N0, rfl⟩
          · obtain ⟨T18, X18, e18, st18⟩ := getF X17 hx hZ hown (host := "") (Or.inl (hw _ (List.mem_of_getElem? (i := 39) rfl))) Via.refl e17 F_a1_endAddress (g := (mkF m 53 #[.val (.ref a1), .val (.ref a2)] [(.ref a1)])) rfl rfl (hb hby d9_53)
            obtain ⟨T19, X19, e19, st19⟩ := getF X18 hx hZ hown (host := "") (Or.inl (hw _ (List.mem_of_getElem? (i := 39) rfl))) Via.refl e18 F_a2_endAddress (g := (mkF m 57 #[.val (.ref a1), .val (.ref a2)] [(.ref a2), (.long g1)])) rfl rfl (hb hby d9_57)
            refine own_go (S' := fun t => Steps p.tables e below (T19.setTop (mkF m 61 #[.val (.ref a1), .val (.ref a2)] [(.int (lcmpW g1 g2))])) t) (fun t k => ?_) ?_
            · show Steps p.tables e below (T17.setTop (mkF m 49 #[.val (.ref a1), .val (.ref a2)] [(.int (lcmpW c2 c1))])) _
              refine XS.ifNo X17.here hx rfl (hb hby d9_49) rfl ((if0 _ _).trans (flt (fun z => hc49 ((lw_gt _ _).mp z))).2.2.1) ?_
              show Steps p.tables e below (T17.setTop (mkF m 52 #[.val (.ref a1), .val (.ref a2)] [])) _
              refine XS.aloadN X17.here hx rfl (hb hby d9_52) rfl rfl ?_
              show Steps p.tables e below (T17.setTop (mkF m 53 #[.val (.ref a1), .val (.ref a2)] [(.ref a1)])) _
              refine st18 _ ?_
              show Steps p.tables e below (T18.setTop (mkF m 56 #[.val (.ref a1), .val (.ref a2)] [(.long g1)])) _
              refine XS.aloadN X18.here hx rfl (hb hby d9_56) rfl rfl ?_
              show Steps p.tables e below (T18.setTop (mkF m 57 #[.val (.ref a1), .val (.ref a2)] [(.ref a2), (.long g1)])) _
              refine st19 _ ?_
              show Steps p.tables e below (T19.setTop (mkF m 60 #[.val (.ref a1), .val (.ref a2)] [(.long g2), (.long g1)])) _
              refine XS.lcmp X19.here hx rfl (hb hby d9_60) rfl ?_
              exact k
            by_cases hc61 : g2 < g1
            · obtain ⟨fs, hr, hrun, hended, hW, hsame⟩ := X19.leave (v := some (.int (0 : Int32))) (fun h => by rw [Bd.returns] at h; cases h)
              refine ⟨_, _, ?_, hrun, hended, _, _, rfl, ?_, ⟨_, rfl⟩, hW, hsame.mono (by decide) (by decide)⟩
              · show Steps p.tables e below (T19.setTop (mkF m 61 #[.val (.ref a1), .val (.ref a2)] [(.int (lcmpW g1 g2))])) _
                refine XS.ifYes X19.here hx rfl (pc0 := 61) (pc' := 68) rfl (hb hby d9_61) rfl ((if0 _ _).trans (tlt ((lw_gt _ _).mpr hc61)).2.2.1) (by decide) (by decide) ?_
                show Steps p.tables e below (T19.setTop (mkF m 68 #[.val (.ref a1), .val (.ref a2)] [])) _
                refine XS.iconst X19.here hx rfl (hb hby d9_68) ?_
                show Steps p.tables e below (T19.setTop (mkF m 69 #[.val (.ref a1), .val (.ref a2)] [(.int (0 : Int32))])) _
                exact retN X19 hx (t := .boolean) Bd.returns (by simp) (hb hby d9_69) hr
              · show Q9 Z a1 a2 t1 s1 n1 c1 g1 t2 s2 n2 c2 g2 h0 n0 _ T19.heap _
                rw [e19]
                exact ⟨_, rfl, (if_neg (fun z => z.2.2.2.2 hc61)).symm, N0, rfl⟩
            · obtain ⟨fs, hr, hrun, hended, hW, hsame⟩ := X19.leave (v := some (.int (1 : Int32))) (fun h => by rw [Bd.returns] at h; cases h)
              refine ⟨_, _, ?_, hrun, hended, _, _, rfl, ?_, ⟨_, rfl⟩, hW, hsame.mono (by decide) (by decide)⟩
              · show Steps p.tables e below (T19.setTop (mkF m 61 #[.val (.ref a1), .val (.ref a2)] [(.int (lcmpW g1 g2))])) _
                refine XS.ifNo X19.here hx rfl (hb hby d9_61) rfl ((if0 _ _).trans (flt (fun z => hc61 ((lw_gt _ _).mp z))).2.2.1) ?_
                show Steps p.tables e below (T19.setTop (mkF m 64 #[.val (.ref a1), .val (.ref a2)] [])) _
                refine XS.iconst X19.here hx rfl (hb hby d9_64) ?_
                show Steps p.tables e below (T19.setTop (mkF m 65 #[.val (.ref a1), .val (.ref a2)] [(.int (1 : Int32))])) _
                refine XS.goto X19.here hx rfl (pc0 := 65) (pc' := 69) rfl (hb hby d9_65) (by decide) (by decide) ?_
                show Steps p.tables e below (T19.setTop (mkF m 69 #[.val (.ref a1), .val (.ref a2)] [(.int (1 : Int32))])) _
                exact retN X19 hx (t := .boolean) Bd.returns (by simp) (hb hby d9_69) hr
              · show Q9 Z a1 a2 t1 s1 n1 c1 g1 t2 s2 n2 c2 g2 h0 n0 _ T19.heap _
                rw [e19]
                exact ⟨_, rfl, (if_pos ⟨Or.inr hc15, hc26, hc37, hc49, hc61⟩).symm, N0, rfl⟩
    · obtain ⟨fs, hr, hrun, hended, hW, hsame⟩ := X11.leave (v := some (.int (0 : Int32))) (fun h => by rw [Bd.returns] at h; cases h)
      refine ⟨_, _, ?_, hrun, hended, _, _, rfl, ?_, ⟨_, rfl⟩, hW, hsame.mono (by decide) (by decide)⟩
      · show Steps p.tables e below (T11.setTop (mkF m 15 #[.val (.ref a1), .val (.ref a2)] [(.int t1), (.int t2)])) _
        refine XS.icmpYes X11.here hx rfl (pc0 := 15) (pc' := 68) rfl (hb hby d9_15) rfl (feq hc15).2 (by decide) (by decide) ?_
        show Steps p.tables e below (T11.setTop (mkF m 68 #[.val (.ref a1), .val (.ref a2)] [])) _
        refine XS.iconst X11.here hx rfl (hb hby d9_68) ?_
        show Steps p.tables e below (T11.setTop (mkF m 69 #[.val (.ref a1), .val (.ref a2)] [(.int (0 : Int32))])) _
        exact retN X11 hx (t := .boolean) Bd.returns (by simp) (hb hby d9_69) hr
      · show Q9 Z a1 a2 t1 s1 n1 c1 g1 t2 s2 n2 c2 g2 h0 n0 _ T11.heap _
        rw [e11]
        exact ⟨_, rfl, (if_neg (fun z => z.1.elim hc4 hc15)).symm, N0, rfl⟩
theorem pd_1 : parseMethodDescriptor "(II)I" = some ⟨[.int, .int], some .int⟩ := by decide +kernel
theorem pd_2 : parseMethodDescriptor "(JJ)J" = some ⟨[.long, .long], some .long⟩ := by decide +kernel
theorem pd_3 : parseMethodDescriptor "(IIIJJ)V" = some ⟨[.int, .int, .int, .long, .long], none⟩ := by decide +kernel
theorem pd_4 : parseMethodDescriptor "(IIIJJIIJ)Z" = some ⟨[.int, .int, .int, .long, .long, .int, .int, .long], some .boolean⟩ := by decide +kernel
theorem pd_5 : parseMethodDescriptor "(Lcom/example/meticulous_audit/meticulousaudit/ike/TrafficSelector;)Z" = some ⟨[(.object "com/example/meticulous_audit/meticulousaudit/ike/TrafficSelector")], some .boolean⟩ := by decide +kernel
theorem pn_0 : plainName "com/example/meticulous_audit/meticulousaudit/ike/TrafficSelectorWithinPinLaw" = true := by first | (simp [plainName, overriddenIn]; done) | decide +kernel
theorem ef_0 (m : MethodId) (x0 : Int32) (x1 : Int32) (x2 : Int32) (x3 : Int64) (x4 : Int64) : entryFrame m #[(.int x0), (.int x1), (.int x2), (.long x3), (.long x4)] maxLocals = mkF m 0 #[.val (.int x0), .val (.int x1), .val (.int x2), .val (.long x3), .second, .val (.long x4), .second, .unset, .unset, .unset, .unset, .unset, .unset, .unset, .unset, .unset, .unset, .unset, .unset, .unset, .unset, .unset, .unset, .unset, .unset, .unset, .unset, .unset, .unset, .unset, .unset, .unset, .unset, .unset, .unset, .unset, .unset] [] := by first | (simp [entryFrame, mkF, argsToLocals, Value.category, maxLocals]; done) | rfl
def Q0 (Z : State) (p1 : Int32) (p2 : Int32) (p3 : Int32) (q4 : Int64) (q5 : Int64) (h0 : Heap) (n0 : Nat) (v : Option Value) (h : Heap) (L : List Loc) : Prop := v = some (.int 1) ∧ Fr n0 L
set_option maxRecDepth 65536 in
set_option maxHeartbeats 40000000 in
theorem rm0 (l : Launch) (Z : State) (a0 : Array Value) (hw : ∀ d ∈ tables_1, d.before a0 Z = true) (ws : List Jvm.Cond) (p1 : Int32) (p2 : Int32) (p3 : Int32) (q4 : Int64) (q5 : Int64) (h0 : Heap) (n0 : Nat) (Z0 : n0 ≤ h0.size) :
    MetFree l x (head1 (Jvm.Cond.code x code maxLocals ret :: ws) room_1) (fun a U => a = #[(.int p1), (.int p2), (.int p3), (.long q4), (.long q5)] ∧ Z.Warmed39 U.vm ∧ U.heap = h0) (fun _ _ _ _ _ => True) (fun _ U o U' => ∃ v L, o = .returned v ∧ Q0 Z p1 p2 p3 q4 q5 h0 n0 v U'.heap L ∧ FrameEnd U o U' L room_1.cells room_1.slots) := by
  refine MetFree.of_bodySF (plainFor_of_name pn_0) hisR ?_
  intro p e s m args below meth c s₁ Bd hml0 hP hK
  obtain ⟨rfl, hZ, hh⟩ := hP
  have hx := Bd.exec
  have hby := Bd.bytes
  have hml : c.maxLocals = 37 := hml0
  have hown : s.vm.findClass "com/example/meticulous_audit/meticulousaudit/ike/TrafficSelectorWithinPinLaw" = some m.cls := findClass_of_methodNamed Bd.named
  have hnm := (name_of_methodNamed Bd.named Bd.method).1
  have X0 : Stand p l e room_1 s m #[(.int p1), (.int p2), (.int p3), (.long q4), (.long q5)] below meth c s₁ [] 0 0 := Stand.of_body Bd
  have e0 : s₁.heap = h0 := by rw [← hh, Bd.state]; rfl
  have N0 := Fr.nil n0
  have K0 : Keep h0 h0 [] := Keep.refl _ _
  have pre0 : ∀ t, Steps p.tables e below (s₁.setTop (mkF m 0 #[.val (.int p1), .val (.int p2), .val (.int p3), .val (.long q4), .second, .val (.long q5), .second, .unset, .unset, .unset, .unset, .unset, .unset, .unset, .unset, .unset, .unset, .unset, .unset, .unset, .unset, .unset, .unset, .unset, .unset, .unset, .unset, .unset, .unset, .unset, .unset, .unset, .unset, .unset, .unset, .unset, .unset] [])) t → Steps p.tables e below (s₁.setTop (entryFrame m #[(.int p1), (.int p2), (.int p3), (.long q4), (.long q5)] maxLocals)) t := fun t k => castTop (ef_0 m p1 p2 p3 q4 q5) k
  refine own_go (S' := fun t => Steps p.tables e below (s₁.setTop (mkF m 0 #[.val (.int p1), .val (.int p2), .val (.int p3), .val (.long q4), .second, .val (.long q5), .second, .unset, .unset, .unset, .unset, .unset, .unset, .unset, .unset, .unset, .unset, .unset, .unset, .unset, .unset, .unset, .unset, .unset, .unset, .unset, .unset, .unset, .unset, .unset, .unset, .unset, .unset, .unset, .unset, .unset, .unset] [])) t) pre0 ?_
  obtain ⟨pa, d_pa⟩ : ∃ z : Int32, z = (p1 &&& (255 : Int32)) := ⟨_, rfl⟩
  obtain ⟨pb, d_pb⟩ : ∃ z : Int32, z = (((p1.toUInt32 >>> ((8 : Int32) &&& 31).toUInt32).toInt32) &&& (255 : Int32)) := ⟨_, rfl⟩
  obtain ⟨va, d_va⟩ : ∃ z : Int32, z = (p2 &&& (65535 : Int32)) := ⟨_, rfl⟩
  obtain ⟨vb, d_vb⟩ : ∃ z : Int32, z = ((p2.toUInt32 >>> ((16 : Int32) &&& 31).toUInt32).toInt32) := ⟨_, rfl⟩
  obtain ⟨vc, d_vc⟩ : ∃ z : Int32, z = (p3 &&& (65535 : Int32)) := ⟨_, rfl⟩
  obtain ⟨vd, d_vd⟩ : ∃ z : Int32, z = ((p3.toUInt32 >>> ((16 : Int32) &&& 31).toUInt32).toInt32) := ⟨_, rfl⟩
  obtain ⟨_, _, ⟨T1, L1, k1, n1⟩, -, X1, ⟨Lc1, hQ1, l1, y1, z1⟩, st1⟩ := Jvm.LawKit.callS X0 hx (y := (⟨"java/lang/Math", "min", "(II)I"⟩ : MethodName)) hown (mvT hZ (hw _ (List.mem_of_getElem? (i := 1) rfl))) (mvT hZ (hw _ (List.mem_of_getElem? (i := 2) rfl))) (mvT hZ (hw _ (List.mem_of_getElem? (i := 3) rfl))) (mvT hZ (hw _ (List.mem_of_getElem? (i := 4) rfl))) (by decide) (backOf (W := 0) (rm1 l Z a0 hw [] va vb h0 n0 Z0 ) hZ (hw _ (List.mem_of_getElem? (i := 4) rfl)) (hw _ (List.mem_of_getElem? (i := 3) rfl)) (by decide) (by decide)) (g := (mkF m 45 #[.val (.int p1), .val (.int p2), .val (.int p3), .val (.long q4), .second, .val (.long q5), .second, .val (.int pa), .val (.int pb), .val (.int va), .val (.int vb), .val (.int vc), .val (.int vd), .unset, .unset, .unset, .unset, .unset, .unset, .unset, .unset, .unset, .unset, .unset, .unset, .unset, .unset, .unset, .unset, .unset, .unset, .unset, .unset, .unset, .unset, .unset, .unset] [(.int vb), (.int va)])) rfl (by rw [hml]; rfl) (argsL := [(.int va), (.int vb)]) (rest := []) (lenOf pd_1 rfl) rfl (by show 2 * 0 + _ ≤ _; exact Nat.le_of_eq rfl) (hb hby at_45) (fun _ _ => ⟨rfl, e0, (by decide : 0 + 0 ≤ _), (by decide : 0 + 0 ≤ _)⟩)
  dsimp only [Pt.U, Pt.locs, Pt.cells, Pt.slots] at X1 l1 y1 z1 st1 hQ1
  subst l1 y1 z1
  obtain ⟨asp, rfl, d_asp, N1q, e1⟩ := hQ1
  have N1 := Fr.app N0 N1q
  obtain ⟨_, _, ⟨T2, L2, k2, n2⟩, -, X2, ⟨Lc2, hQ2, l2, y2, z2⟩, st2⟩ := Jvm.LawKit.callS X1 hx (y := (⟨"java/lang/Math", "max", "(II)I"⟩ : MethodName)) hown (mvT hZ (hw _ (List.mem_of_getElem? (i := 5) rfl))) (mvT hZ (hw _ (List.mem_of_getElem? (i := 6) rfl))) (mvT hZ (hw _ (List.mem_of_getElem? (i := 3) rfl))) (mvT hZ (hw _ (List.mem_of_getElem? (i := 7) rfl))) (by decide) (backOf (W := 0) (rm2 l Z a0 hw [] va vb h0 n0 Z0 ) hZ (hw _ (List.mem_of_getElem? (i := 7) rfl)) (hw _ (List.mem_of_getElem? (i := 3) rfl)) (by decide) (by decide)) (g := (mkF m 54 #[.val (.int p1), .val (.int p2), .val (.int p3), .val (.long q4), .second, .val (.long q5), .second, .val (.int pa), .val (.int pb), .val (.int va), .val (.int vb), .val (.int vc), .val (.int vd), .val (.int asp), .unset, .unset, .unset, .unset, .unset, .unset, .unset, .unset, .unset, .unset, .unset, .unset, .unset, .unset, .unset, .unset, .unset, .unset, .unset, .unset, .unset, .unset, .unset] [(.int vb), (.int va)])) rfl (by rw [hml]; rfl) (argsL := [(.int va), (.int vb)]) (rest := []) (lenOf pd_1 rfl) rfl (by show 2 * 0 + _ ≤ _; exact Nat.le_of_eq rfl) (hb hby at_54) (fun _ _ => ⟨rfl, e1, (by decide : 0 + 0 ≤ _), (by decide : 0 + 0 ≤ _)⟩)
  dsimp only [Pt.U, Pt.locs, Pt.cells, Pt.slots] at X2 l2 y2 z2 st2 hQ2
  subst l2 y2 z2
  obtain ⟨aep, rfl, d_aep, N2q, e2⟩ := hQ2
  have N2 := Fr.app N1 N2q
  obtain ⟨_, _, ⟨T3, L3, k3, n3⟩, -, X3, ⟨Lc3, hQ3, l3, y3, z3⟩, st3⟩ := Jvm.LawKit.callS X2 hx (y := (⟨"java/lang/Math", "min", "(II)I"⟩ : MethodName)) hown (mvT hZ (hw _ (List.mem_of_getElem? (i := 1) rfl))) (mvT hZ (hw _ (List.mem_of_getElem? (i := 2) rfl))) (mvT hZ (hw _ (List.mem_of_getElem? (i := 3) rfl))) (mvT hZ (hw _ (List.mem_of_getElem? (i := 4) rfl))) (by decide) (backOf (W := 0) (rm1 l Z a0 hw [] vc vd h0 n0 Z0 ) hZ (hw _ (List.mem_of_getElem? (i := 4) rfl)) (hw _ (List.mem_of_getElem? (i := 3) rfl)) (by decide) (by decide)) (g := (mkF m 63 #[.val (.int p1), .val (.int p2), .val (.int p3), .val (.long q4), .second, .val (.long q5), .second, .val (.int pa), .val (.int pb), .val (.int va), .val (.int vb), .val (.int vc), .val (.int vd), .val (.int asp), .val (.int aep), .unset, .unset, .unset, .unset, .unset, .unset, .unset, .unset, .unset, .unset, .unset, .unset, .unset, .unset, .unset, .unset, .unset, .unset, .unset, .unset, .unset, .unset] [(.int vd), (.int vc)])) rfl (by rw [hml]; rfl) (argsL := [(.int vc), (.int vd)]) (rest := []) (lenOf pd_1 rfl) rfl (by show 2 * 0 + _ ≤ _; exact Nat.le_of_eq rfl) (hb hby at_63) (fun _ _ => ⟨rfl, e2, (by decide : 0 + 0 ≤ _), (by decide : 0 + 0 ≤ _)⟩)
  dsimp only [Pt.U, Pt.locs, Pt.cells, Pt.slots] at X3 l3 y3 z3 st3 hQ3
  subst l3 y3 z3
  obtain ⟨bsp, rfl, d_bsp, N3q, e3⟩ := hQ3
  have N3 := Fr.app N2 N3q
  obtain ⟨_, _, ⟨T4, L4, k4, n4⟩, -, X4, ⟨Lc4, hQ4, l4, y4, z4⟩, st4⟩ := Jvm.LawKit.callS X3 hx (y := (⟨"java/lang/Math", "max", "(II)I"⟩ : MethodName)) hown (mvT hZ (hw _ (List.mem_of_getElem? (i := 5) rfl))) (mvT hZ (hw _ (List.mem_of_getElem? (i := 6) rfl))) (mvT hZ (hw _ (List.mem_of_getElem? (i := 3) rfl))) (mvT hZ (hw _ (List.mem_of_getElem? (i := 7) rfl))) (by decide) (backOf (W := 0) (rm2 l Z a0 hw [] vc vd h0 n0 Z0 ) hZ (hw _ (List.mem_of_getElem? (i := 7) rfl)) (hw _ (List.mem_of_getElem? (i := 3) rfl)) (by decide) (by decide)) (g := (mkF m 72 #[.val (.int p1), .val (.int p2), .val (.int p3), .val (.long q4), .second, .val (.long q5), .second, .val (.int pa), .val (.int pb), .val (.int va), .val (.int vb), .val (.int vc), .val (.int vd), .val (.int asp), .val (.int aep), .val (.int bsp), .unset, .unset, .unset, .unset, .unset, .unset, .unset, .unset, .unset, .unset, .unset, .unset, .unset, .unset, .unset, .unset, .unset, .unset, .unset, .unset, .unset] [(.int vd), (.int vc)])) rfl (by rw [hml]; rfl) (argsL := [(.int vc), (.int vd)]) (rest := []) (lenOf pd_1 rfl) rfl (by show 2 * 0 + _ ≤ _; exact Nat.le_of_eq rfl) (hb hby at_72) (fun _ _ => ⟨rfl, e3, (by decide : 0 + 0 ≤ _), (by decide : 0 + 0 ≤ _)⟩)
  dsimp only [Pt.U, Pt.locs, Pt.cells, Pt.slots] at X4 l4 y4 z4 st4 hQ4
  subst l4 y4 z4
  obtain ⟨bep, rfl, d_bep, N4q, e4⟩ := hQ4
  have N4 := Fr.app N3 N4q
  obtain ⟨xa, d_xa⟩ : ∃ z : Int64, z = (q4 &&& (4294967295 : Int64)) := ⟨_, rfl⟩
  obtain ⟨xb, d_xb⟩ : ∃ z : Int64, z = ((q4.toUInt64 >>> ((32 : Int32) &&& 0x3f).toInt64.toUInt64).toInt64) := ⟨_, rfl⟩
  obtain ⟨ya, d_ya⟩ : ∃ z : Int64, z = (q5 &&& (4294967295 : Int64)) := ⟨_, rfl⟩
  obtain ⟨yb, d_yb⟩ : ∃ z : Int64, z = ((q5.toUInt64 >>> ((32 : Int32) &&& 0x3f).toInt64.toUInt64).toInt64) := ⟨_, rfl⟩
  obtain ⟨_, _, ⟨T5, L5, k5, n5⟩, -, X5, ⟨Lc5, hQ5, l5, y5, z5⟩, st5⟩ := Jvm.LawKit.callS X4 hx (y := (⟨"java/lang/Math", "min", "(JJ)J"⟩ : MethodName)) hown (mvT hZ (hw _ (List.mem_of_getElem? (i := 9) rfl))) (mvT hZ (hw _ (List.mem_of_getElem? (i := 10) rfl))) (mvT hZ (hw _ (List.mem_of_getElem? (i := 3) rfl))) (mvT hZ (hw _ (List.mem_of_getElem? (i := 11) rfl))) (by decide) (backOf (W := 0) (rm3 l Z a0 hw [] xa xb h0 n0 Z0 ) hZ (hw _ (List.mem_of_getElem? (i := 11) rfl)) (hw _ (List.mem_of_getElem? (i := 3) rfl)) (by decide) (by decide)) (g := (mkF m 109 #[.val (.int p1), .val (.int p2), .val (.int p3), .val (.long q4), .second, .val (.long q5), .second, .val (.int pa), .val (.int pb), .val (.int va), .val (.int vb), .val (.int vc), .val (.int vd), .val (.int asp), .val (.int aep), .val (.int bsp), .val (.int bep), .val (.long xa), .second, .val (.long xb), .second, .val (.long ya), .second, .val (.long yb), .second, .unset, .unset, .unset, .unset, .unset, .unset, .unset, .unset, .unset, .unset, .unset, .unset] [(.long xb), (.long xa)])) rfl (by rw [hml]; rfl) (argsL := [(.long xa), (.long xb)]) (rest := []) (lenOf pd_2 rfl) rfl (by show 2 * 0 + _ ≤ _; exact Nat.le_of_eq rfl) (hb hby at_109) (fun _ _ => ⟨rfl, e4, (by decide : 0 + 0 ≤ _), (by decide : 0 + 0 ≤ _)⟩)
  dsimp only [Pt.U, Pt.locs, Pt.cells, Pt.slots] at X5 l5 y5 z5 st5 hQ5
  subst l5 y5 z5
  obtain ⟨asa, rfl, d_asa, N5q, e5⟩ := hQ5
  have N5 := Fr.app N4 N5q
  obtain ⟨_, _, ⟨T6, L6, k6, n6⟩, -, X6, ⟨Lc6, hQ6, l6, y6, z6⟩, st6⟩ := Jvm.LawKit.callS X5 hx (y := (⟨"java/lang/Math", "max", "(JJ)J"⟩ : MethodName)) hown (mvT hZ (hw _ (List.mem_of_getElem? (i := 12) rfl))) (mvT hZ (hw _ (List.mem_of_getElem? (i := 13) rfl))) (mvT hZ (hw _ (List.mem_of_getElem? (i := 3) rfl))) (mvT hZ (hw _ (List.mem_of_getElem? (i := 14) rfl))) (by decide) (backOf (W := 0) (rm4 l Z a0 hw [] xa xb h0 n0 Z0 ) hZ (hw _ (List.mem_of_getElem? (i := 14) rfl)) (hw _ (List.mem_of_getElem? (i := 3) rfl)) (by decide) (by decide)) (g := (mkF m 118 #[.val (.int p1), .val (.int p2), .val (.int p3), .val (.long q4), .second, .val (.long q5), .second, .val (.int pa), .val (.int pb), .val (.int va), .val (.int vb), .val (.int vc), .val (.int vd), .val (.int asp), .val (.int aep), .val (.int bsp), .val (.int bep), .val (.long xa), .second, .val (.long xb), .second, .val (.long ya), .second, .val (.long yb), .second, .val (.long asa), .second, .unset, .unset, .unset, .unset, .unset, .unset, .unset, .unset, .unset, .unset] [(.long xb), (.long xa)])) rfl (by rw [hml]; rfl) (argsL := [(.long xa), (.long xb)]) (rest := []) (lenOf pd_2 rfl) rfl (by show 2 * 0 + _ ≤ _; exact Nat.le_of_eq rfl) (hb hby at_118) (fun _ _ => ⟨rfl, e5, (by decide : 0 + 0 ≤ _), (by decide : 0 + 0 ≤ _)⟩)
  dsimp only [Pt.U, Pt.locs, Pt.cells, Pt.slots] at X6 l6 y6 z6 st6 hQ6
  subst l6 y6 z6
  obtain ⟨aea, rfl, d_aea, N6q, e6⟩ := hQ6
  have N6 := Fr.app N5 N6q
  obtain ⟨_, _, ⟨T7, L7, k7, n7⟩, -, X7, ⟨Lc7, hQ7, l7, y7, z7⟩, st7⟩ := Jvm.LawKit.callS X6 hx (y := (⟨"java/lang/Math", "min", "(JJ)J"⟩ : MethodName)) hown (mvT hZ (hw _ (List.mem_of_getElem? (i := 9) rfl))) (mvT hZ (hw _ (List.mem_of_getElem? (i := 10) rfl))) (mvT hZ (hw _ (List.mem_of_getElem? (i := 3) rfl))) (mvT hZ (hw _ (List.mem_of_getElem? (i := 11) rfl))) (by decide) (backOf (W := 0) (rm3 l Z a0 hw [] ya yb h0 n0 Z0 ) hZ (hw _ (List.mem_of_getElem? (i := 11) rfl)) (hw _ (List.mem_of_getElem? (i := 3) rfl)) (by decide) (by decide)) (g := (mkF m 127 #[.val (.int p1), .val (.int p2), .val (.int p3), .val (.long q4), .second, .val (.long q5), .second, .val (.int pa), .val (.int pb), .val (.int va), .val (.int vb), .val (.int vc), .val (.int vd), .val (.int asp), .val (.int aep), .val (.int bsp), .val (.int bep), .val (.long xa), .second, .val (.long xb), .second, .val (.long ya), .second, .val (.long yb), .second, .val (.long asa), .second, .val (.long aea), .second, .unset, .unset, .unset, .unset, .unset, .unset, .unset, .unset] [(.long yb), (.long ya)])) rfl (by rw [hml]; rfl) (argsL := [(.long ya), (.long yb)]) (rest := []) (lenOf pd_2 rfl) rfl (by show 2 * 0 + _ ≤ _; exact Nat.le_of_eq rfl) (hb hby at_127) (fun _ _ => ⟨rfl, e6, (by decide : 0 + 0 ≤ _), (by decide : 0 + 0 ≤ _)⟩)
  dsimp only [Pt.U, Pt.locs, Pt.cells, Pt.slots] at X7 l7 y7 z7 st7 hQ7
  subst l7 y7 z7
  obtain ⟨bsa, rfl, d_bsa, N7q, e7⟩ := hQ7
  have N7 := Fr.app N6 N7q
  obtain ⟨_, _, ⟨T8, L8, k8, n8⟩, -, X8, ⟨Lc8, hQ8, l8, y8, z8⟩, st8⟩ := Jvm.LawKit.callS X7 hx (y := (⟨"java/lang/Math", "max", "(JJ)J"⟩ : MethodName)) hown (mvT hZ (hw _ (List.mem_of_getElem? (i := 12) rfl))) (mvT hZ (hw _ (List.mem_of_getElem? (i := 13) rfl))) (mvT hZ (hw _ (List.mem_of_getElem? (i := 3) rfl))) (mvT hZ (hw _ (List.mem_of_getElem? (i := 14) rfl))) (by decide) (backOf (W := 0) (rm4 l Z a0 hw [] ya yb h0 n0 Z0 ) hZ (hw _ (List.mem_of_getElem? (i := 14) rfl)) (hw _ (List.mem_of_getElem? (i := 3) rfl)) (by decide) (by decide)) (g := (mkF m 136 #[.val (.int p1), .val (.int p2), .val (.int p3), .val (.long q4), .second, .val (.long q5), .second, .val (.int pa), .val (.int pb), .val (.int va), .val (.int vb), .val (.int vc), .val (.int vd), .val (.int asp), .val (.int aep), .val (.int bsp), .val (.int bep), .val (.long xa), .second, .val (.long xb), .second, .val (.long ya), .second, .val (.long yb), .second, .val (.long asa), .second, .val (.long aea), .second, .val (.long bsa), .second, .unset, .unset, .unset, .unset, .unset, .unset] [(.long yb), (.long ya)])) rfl (by rw [hml]; rfl) (argsL := [(.long ya), (.long yb)]) (rest := []) (lenOf pd_2 rfl) rfl (by show 2 * 0 + _ ≤ _; exact Nat.le_of_eq rfl) (hb hby at_136) (fun _ _ => ⟨rfl, e7, (by decide : 0 + 0 ≤ _), (by decide : 0 + 0 ≤ _)⟩)
  dsimp only [Pt.U, Pt.locs, Pt.cells, Pt.slots] at X8 l8 y8 z8 st8 hQ8
  subst l8 y8 z8
  obtain ⟨bea, rfl, d_bea, N8q, e8⟩ := hQ8
  have N8 := Fr.app N7 N8q
  have RA := own_mm va vb asp aep 65535 (own_m16 _ _ d_va) (own_s16 _ _ d_vb) d_asp d_aep
  have RB := own_mm vc vd bsp bep 65535 (own_m16 _ _ d_vc) (own_s16 _ _ d_vd) d_bsp d_bep
  have RAL := own_mmL xa xb asa aea 4294967295 (own_m32 _ _ d_xa) (own_s32 _ _ d_xb) d_asa d_aea
  have RBL := own_mmL ya yb bsa bea 4294967295 (own_m32 _ _ d_ya) (own_s32 _ _ d_yb) d_bsa d_bea
  have OA := own_ok pa asp aep asa aea (own_m8 _ _ d_pa) RA RAL
  have OB := own_ok pb bsp bep bsa bea (own_m8 _ _ d_pb) RB RBL
  obtain ⟨T9, h9, X9, e9, E9, A9, D9, -, st9⟩ := newO X8 hx hZ hown (hw _ (List.mem_of_getElem? (i := 15) rfl)) (hw _ (List.mem_of_getElem? (i := 16) rfl)) (hw _ (List.mem_of_getElem? (i := 17) rfl)) e8 (g := (mkF m 141 #[.val (.int p1), .val (.int p2), .val (.int p3), .val (.long q4), .second, .val (.long q5), .second, .val (.int pa), .val (.int pb), .val (.int va), .val (.int vb), .val (.int vc), .val (.int vd), .val (.int asp), .val (.int aep), .val (.int bsp), .val (.int bep), .val (.long xa), .second, .val (.long xb), .second, .val (.long ya), .second, .val (.long yb), .second, .val (.long asa), .second, .val (.long aea), .second, .val (.long bsa), .second, .val (.long bea), .second, .unset, .unset, .unset, .unset] [])) rfl (hb hby at_141) (by decide) (by decide)
  obtain ⟨b9, g9⟩ : ∃ z, z = h0.size := ⟨_, rfl⟩
  rw [← g9] at A9 D9 st9
  have g_b9 : n0 ≤ b9 := Nat.le_trans Z0 (Nat.le_of_eq g9.symm)
  have sz_b9 : h0.size ≤ b9 := Nat.le_trans K0.1 (Nat.le_of_eq g9.symm)
  have Z0 : n0 ≤ h9.size := Nat.le_trans Z0 E9.1
  have K0 := K0.ext E9
  have E_b9 := A9
  have F_b9_protocol : Fld Z h9 b9 "com/example/meticulous_audit/meticulousaudit/ike/TrafficSelector" "protocol" "I" (.int (0 : Int32)) := D9 (Or.inr (hw _ (List.mem_of_getElem? (i := 32) rfl))) (ty := .int) (by decide)
  have F_b9_startPort : Fld Z h9 b9 "com/example/meticulous_audit/meticulousaudit/ike/TrafficSelector" "startPort" "I" (.int (0 : Int32)) := D9 (Or.inr (hw _ (List.mem_of_getElem? (i := 34) rfl))) (ty := .int) (by decide)
  have F_b9_endPort : Fld Z h9 b9 "com/example/meticulous_audit/meticulousaudit/ike/TrafficSelector" "endPort" "I" (.int (0 : Int32)) := D9 (Or.inr (hw _ (List.mem_of_getElem? (i := 36) rfl))) (ty := .int) (by decide)
  have F_b9_startAddress : Fld Z h9 b9 "com/example/meticulous_audit/meticulousaudit/ike/TrafficSelector" "startAddress" "J" (.long (0 : Int64)) := D9 (Or.inr (hw _ (List.mem_of_getElem? (i := 38) rfl))) (ty := .long) (by decide)
  have F_b9_endAddress : Fld Z h9 b9 "com/example/meticulous_audit/meticulousaudit/ike/TrafficSelector" "endAddress" "J" (.long (0 : Int64)) := D9 (Or.inr (hw _ (List.mem_of_getElem? (i := 40) rfl))) (ty := .long) (by decide)
  obtain ⟨_, _, ⟨T10, L10, k10, n10⟩, -, X10, ⟨Lc10, hQ10, l10, y10, z10⟩, st10⟩ := X9.specialBack hx (y := (⟨"com/example/meticulous_audit/meticulousaudit/ike/TrafficSelector", "<init>", "(IIIJJ)V"⟩ : MethodName)) rfl hown (mvT hZ (hw _ (List.mem_of_getElem? (i := 18) rfl))) (mvT hZ (hw _ (List.mem_of_getElem? (i := 19) rfl))) (mvT hZ (hw _ (List.mem_of_getElem? (i := 20) rfl))) (by decide) (backOf (W := 1) (rm5 l Z a0 hw [] b9 pa asp aep asa aea (.int (0 : Int32)) (.int (0 : Int32)) (.int (0 : Int32)) (.long (0 : Int64)) (.long (0 : Int64)) h9 n0 Z0 E_b9 F_b9_protocol F_b9_startPort F_b9_endPort F_b9_startAddress F_b9_endAddress g_b9 OA.1 OA.2.1 OA.2.2.1 OA.2.2.2.1 OA.2.2.2.2.1 OA.2.2.2.2.2.1 OA.2.2.2.2.2.2.1 OA.2.2.2.2.2.2.2) hZ (hw _ (List.mem_of_getElem? (i := 20) rfl)) (hw _ (List.mem_of_getElem? (i := 17) rfl)) (by decide) (by decide)) (g := (mkF m 155 #[.val (.int p1), .val (.int p2), .val (.int p3), .val (.long q4), .second, .val (.long q5), .second, .val (.int pa), .val (.int pb), .val (.int va), .val (.int vb), .val (.int vc), .val (.int vd), .val (.int asp), .val (.int aep), .val (.int bsp), .val (.int bep), .val (.long xa), .second, .val (.long xb), .second, .val (.long ya), .second, .val (.long yb), .second, .val (.long asa), .second, .val (.long aea), .second, .val (.long bsa), .second, .val (.long bea), .second, .unset, .unset, .unset, .unset] [(.long aea), (.long asa), (.int aep), (.int asp), (.int pa), (.ref b9), (.ref b9)])) rfl (by rw [hml]; rfl) (Steps.refl _) (a := b9) (argsL := [(.int pa), (.int asp), (.int aep), (.long asa), (.long aea)]) (rest := [(.ref b9)]) (lenOf pd_3 rfl) rfl (by show 2 * 0 + _ ≤ _; exact Nat.le_of_eq rfl) (hb hby at_155) (fun _ _ => ⟨rfl, e9, (by decide : 1 + 0 ≤ _), (by decide : 5 + 0 ≤ _)⟩)
  dsimp only [Pt.U, Pt.locs, Pt.cells, Pt.slots] at X10 l10 y10 z10 st10 hQ10
  subst l10 y10 z10
  obtain ⟨rfl, N10q, K10, E_b9_new, F_b9_protocol_new, F_b9_startPort_new, F_b9_endPort_new, F_b9_startAddress_new, F_b9_endAddress_new⟩ := hQ10
  have E_b9 := E_b9.keep K10
  have E_b9 := E_b9_new
  have F_b9_protocol := F_b9_protocol_new
  have F_b9_startPort := F_b9_startPort_new
  have F_b9_endPort := F_b9_endPort_new
  have F_b9_startAddress := F_b9_startAddress_new
  have F_b9_endAddress := F_b9_endAddress_new
  have Z0 : n0 ≤ T10.heap.size := Nat.le_trans Z0 K10.1
  have K0 := K0.trans K10 (allS (Or.inr sz_b9) all0)
  have N10 := Fr.app N8 N10q
  obtain ⟨T11, h11, X11, e11, E11, A11, D11, -, st11⟩ := newO X10 hx hZ hown (hw _ (List.mem_of_getElem? (i := 15) rfl)) (hw _ (List.mem_of_getElem? (i := 16) rfl)) (hw _ (List.mem_of_getElem? (i := 17) rfl)) rfl (g := (mkF m 160 #[.val (.int p1), .val (.int p2), .val (.int p3), .val (.long q4), .second, .val (.long q5), .second, .val (.int pa), .val (.int pb), .val (.int va), .val (.int vb), .val (.int vc), .val (.int vd), .val (.int asp), .val (.int aep), .val (.int bsp), .val (.int bep), .val (.long xa), .second, .val (.long xb), .second, .val (.long ya), .second, .val (.long yb), .second, .val (.long asa), .second, .val (.long aea), .second, .val (.long bsa), .second, .val (.long bea), .second, .val (.ref b9), .unset, .unset, .unset] [])) rfl (hb hby at_160) (by decide) (by decide)
  obtain ⟨b11, g11⟩ : ∃ z, z = T10.heap.size := ⟨_, rfl⟩
  rw [← g11] at A11 D11 st11
  have g_b11 : n0 ≤ b11 := Nat.le_trans Z0 (Nat.le_of_eq g11.symm)
  have sz_b11 : h0.size ≤ b11 := Nat.le_trans K0.1 (Nat.le_of_eq g11.symm)
  have ne_b9_b11 : b9 ≠ b11 := Nat.ne_of_lt (Nat.lt_of_lt_of_le E_b9.lt (Nat.le_of_eq g11.symm))
  have E_b9 := E_b9.ext E11
  have F_b9_protocol := F_b9_protocol.ext E11
  have F_b9_startPort := F_b9_startPort.ext E11
  have F_b9_endPort := F_b9_endPort.ext E11
  have F_b9_startAddress := F_b9_startAddress.ext E11
  have F_b9_endAddress := F_b9_endAddress.ext E11
  have Z0 : n0 ≤ h11.size := Nat.le_trans Z0 E11.1
  have K0 := K0.ext E11
  have E_b11 := A11
  have F_b11_protocol : Fld Z h11 b11 "com/example/meticulous_audit/meticulousaudit/ike/TrafficSelector" "protocol" "I" (.int (0 : Int32)) := D11 (Or.inr (hw _ (List.mem_of_getElem? (i := 32) rfl))) (ty := .int) (by decide)
  have F_b11_startPort : Fld Z h11 b11 "com/example/meticulous_audit/meticulousaudit/ike/TrafficSelector" "startPort" "I" (.int (0 : Int32)) := D11 (Or.inr (hw _ (List.mem_of_getElem? (i := 34) rfl))) (ty := .int) (by decide)
  have F_b11_endPort : Fld Z h11 b11 "com/example/meticulous_audit/meticulousaudit/ike/TrafficSelector" "endPort" "I" (.int (0 : Int32)) := D11 (Or.inr (hw _ (List.mem_of_getElem? (i := 36) rfl))) (ty := .int) (by decide)
  have F_b11_startAddress : Fld Z h11 b11 "com/example/meticulous_audit/meticulousaudit/ike/TrafficSelector" "startAddress" "J" (.long (0 : Int64)) := D11 (Or.inr (hw _ (List.mem_of_getElem? (i := 38) rfl))) (ty := .long) (by decide)
  have F_b11_endAddress : Fld Z h11 b11 "com/example/meticulous_audit/meticulousaudit/ike/TrafficSelector" "endAddress" "J" (.long (0 : Int64)) := D11 (Or.inr (hw _ (List.mem_of_getElem? (i := 40) rfl))) (ty := .long) (by decide)
  obtain ⟨_, _, ⟨T12, L12, k12, n12⟩, -, X12, ⟨Lc12, hQ12, l12, y12, z12⟩, st12⟩ := X11.specialBack hx (y := (⟨"com/example/meticulous_audit/meticulousaudit/ike/TrafficSelector", "<init>", "(IIIJJ)V"⟩ : MethodName)) rfl hown (mvT hZ (hw _ (List.mem_of_getElem? (i := 18) rfl))) (mvT hZ (hw _ (List.mem_of_getElem? (i := 19) rfl))) (mvT hZ (hw _ (List.mem_of_getElem? (i := 20) rfl))) (by decide) (backOf (W := 1) (rm5 l Z a0 hw [] b11 pb bsp bep bsa bea (.int (0 : Int32)) (.int (0 : Int32)) (.int (0 : Int32)) (.long (0 : Int64)) (.long (0 : Int64)) h11 n0 Z0 E_b11 F_b11_protocol F_b11_startPort F_b11_endPort F_b11_startAddress F_b11_endAddress g_b11 OB.1 OB.2.1 OB.2.2.1 OB.2.2.2.1 OB.2.2.2.2.1 OB.2.2.2.2.2.1 OB.2.2.2.2.2.2.1 OB.2.2.2.2.2.2.2) hZ (hw _ (List.mem_of_getElem? (i := 20) rfl)) (hw _ (List.mem_of_getElem? (i := 17) rfl)) (by decide) (by decide)) (g := (mkF m 174 #[.val (.int p1), .val (.int p2), .val (.int p3), .val (.long q4), .second, .val (.long q5), .second, .val (.int pa), .val (.int pb), .val (.int va), .val (.int vb), .val (.int vc), .val (.int vd), .val (.int asp), .val (.int aep), .val (.int bsp), .val (.int bep), .val (.long xa), .second, .val (.long xb), .second, .val (.long ya), .second, .val (.long yb), .second, .val (.long asa), .second, .val (.long aea), .second, .val (.long bsa), .second, .val (.long bea), .second, .val (.ref b9), .unset, .unset, .unset] [(.long bea), (.long bsa), (.int bep), (.int bsp), (.int pb), (.ref b11), (.ref b11)])) rfl (by rw [hml]; rfl) (Steps.refl _) (a := b11) (argsL := [(.int pb), (.int bsp), (.int bep), (.long bsa), (.long bea)]) (rest := [(.ref b11)]) (lenOf pd_3 rfl) rfl (by show 2 * 0 + _ ≤ _; exact Nat.le_of_eq rfl) (hb hby at_174) (fun _ _ => ⟨rfl, e11, (by decide : 2 + 0 ≤ _), (by decide : 10 + 0 ≤ _)⟩)
  dsimp only [Pt.U, Pt.locs, Pt.cells, Pt.slots] at X12 l12 y12 z12 st12 hQ12
  subst l12 y12 z12
  obtain ⟨rfl, N12q, K12, E_b11_new, F_b11_protocol_new, F_b11_startPort_new, F_b11_endPort_new, F_b11_startAddress_new, F_b11_endAddress_new⟩ := hQ12
  have E_b9 := E_b9.keep K12
  have E_b11 := E_b11.keep K12
  have F_b9_protocol := F_b9_protocol.keep K12 (ninS ne_b9_b11 nin0)
  have F_b9_startPort := F_b9_startPort.keep K12 (ninS ne_b9_b11 nin0)
  have F_b9_endPort := F_b9_endPort.keep K12 (ninS ne_b9_b11 nin0)
  have F_b9_startAddress := F_b9_startAddress.keep K12 (ninS ne_b9_b11 nin0)
  have F_b9_endAddress := F_b9_endAddress.keep K12 (ninS ne_b9_b11 nin0)
  have E_b11 := E_b11_new
  have F_b11_protocol := F_b11_protocol_new
  have F_b11_startPort := F_b11_startPort_new
  have F_b11_endPort := F_b11_endPort_new
  have F_b11_startAddress := F_b11_startAddress_new
  have F_b11_endAddress := F_b11_endAddress_new
  have Z0 : n0 ≤ T12.heap.size := Nat.le_trans Z0 K12.1
  have K0 := K0.trans K12 (allS (Or.inr sz_b11) all0)
  have N12 := Fr.app N10 N12q
  obtain ⟨qv, d_qv⟩ : ∃ z : Int32, z = (if pa = (0 : Int32) then (if pb = (1 : Int32) then (2 : Int32) else (1 : Int32)) else pa) := ⟨_, rfl⟩
  have j13 : ∀ t, Steps p.tables e below (T12.setTop (mkF m 200 #[.val (.int p1), .val (.int p2), .val (.int p3), .val (.long q4), .second, .val (.long q5), .second, .val (.int pa), .val (.int pb), .val (.int va), .val (.int vb), .val (.int vc), .val (.int vd), .val (.int asp), .val (.int aep), .val (.int bsp), .val (.int bep), .val (.long xa), .second, .val (.long xb), .second, .val (.long ya), .second, .val (.long yb), .second, .val (.long asa), .second, .val (.long aea), .second, .val (.long bsa), .second, .val (.long bea), .second, .val (.ref b9), .val (.ref b11), .unset, .unset] [(.int qv)])) t → Steps p.tables e below (T12.setTop (mkF m 181 #[.val (.int p1), .val (.int p2), .val (.int p3), .val (.long q4), .second, .val (.long q5), .second, .val (.int pa), .val (.int pb), .val (.int va), .val (.int vb), .val (.int vc), .val (.int vd), .val (.int asp), .val (.int aep), .val (.int bsp), .val (.int bep), .val (.long xa), .second, .val (.long xb), .second, .val (.long ya), .second, .val (.long yb), .second, .val (.long asa), .second, .val (.long aea), .second, .val (.long bsa), .second, .val (.long bea), .second, .val (.ref b9), .val (.ref b11), .unset, .unset] [(.int pa)])) t := by
    intro t k
    by_cases hj181 : pa = (0 : Int32)
    · show Steps p.tables e below (T12.setTop (mkF m 181 #[.val (.int p1), .val (.int p2), .val (.int p3), .val (.long q4), .second, .val (.long q5), .second, .val (.int pa), .val (.int pb), .val (.int va), .val (.int vb), .val (.int vc), .val (.int vd), .val (.int asp), .val (.int aep), .val (.int bsp), .val (.int bep), .val (.long xa), .second, .val (.long xb), .second, .val (.long ya), .second, .val (.long yb), .second, .val (.long asa), .second, .val (.long aea), .second, .val (.long bsa), .second, .val (.long bea), .second, .val (.ref b9), .val (.ref b11), .unset, .unset] [(.int pa)])) _
      refine XS.ifYes X12.here hx rfl (pc0 := 181) (pc' := 189) rfl (hb hby at_181) rfl ((if0 _ _).trans (teq hj181).1) (by decide) (by decide) ?_
      show Steps p.tables e below (T12.setTop (mkF m 189 #[.val (.int p1), .val (.int p2), .val (.int p3), .val (.long q4), .second, .val (.long q5), .second, .val (.int pa), .val (.int pb), .val (.int va), .val (.int vb), .val (.int vc), .val (.int vd), .val (.int asp), .val (.int aep), .val (.int bsp), .val (.int bep), .val (.long xa), .second, .val (.long xb), .second, .val (.long ya), .second, .val (.long yb), .second, .val (.long asa), .second, .val (.long aea), .second, .val (.long bsa), .second, .val (.long bea), .second, .val (.ref b9), .val (.ref b11), .unset, .unset] [])) _
      refine XS.iload X12.here hx rfl (hb hby at_189) rfl ?_
      show Steps p.tables e below (T12.setTop (mkF m 191 #[.val (.int p1), .val (.int p2), .val (.int p3), .val (.long q4), .second, .val (.long q5), .second, .val (.int pa), .val (.int pb), .val (.int va), .val (.int vb), .val (.int vc), .val (.int vd), .val (.int asp), .val (.int aep), .val (.int bsp), .val (.int bep), .val (.long xa), .second, .val (.long xb), .second, .val (.long ya), .second, .val (.long yb), .second, .val (.long asa), .second, .val (.long aea), .second, .val (.long bsa), .second, .val (.long bea), .second, .val (.ref b9), .val (.ref b11), .unset, .unset] [(.int pb)])) _
      refine XS.iconst X12.here hx rfl (hb hby at_191) ?_
      by_cases hj192 : pb = (1 : Int32)
      · have q_qv : qv = (2 : Int32) := by rw [d_qv, if_pos hj181, if_pos hj192]
        show Steps p.tables e below (T12.setTop (mkF m 192 #[.val (.int p1), .val (.int p2), .val (.int p3), .val (.long q4), .second, .val (.long q5), .second, .val (.int pa), .val (.int pb), .val (.int va), .val (.int vb), .val (.int vc), .val (.int vd), .val (.int asp), .val (.int aep), .val (.int bsp), .val (.int bep), .val (.long xa), .second, .val (.long xb), .second, .val (.long ya), .second, .val (.long yb), .second, .val (.long asa), .second, .val (.long aea), .second, .val (.long bsa), .second, .val (.long bea), .second, .val (.ref b9), .val (.ref b11), .unset, .unset] [(.int (1 : Int32)), (.int pb)])) _
        refine XS.icmpNo X12.here hx rfl (hb hby at_192) rfl (teq hj192).2 ?_
        show Steps p.tables e below (T12.setTop (mkF m 195 #[.val (.int p1), .val (.int p2), .val (.int p3), .val (.long q4), .second, .val (.long q5), .second, .val (.int pa), .val (.int pb), .val (.int va), .val (.int vb), .val (.int vc), .val (.int vd), .val (.int asp), .val (.int aep), .val (.int bsp), .val (.int bep), .val (.long xa), .second, .val (.long xb), .second, .val (.long ya), .second, .val (.long yb), .second, .val (.long asa), .second, .val (.long aea), .second, .val (.long bsa), .second, .val (.long bea), .second, .val (.ref b9), .val (.ref b11), .unset, .unset] [])) _
        refine XS.iconst X12.here hx rfl (hb hby at_195) ?_
        show Steps p.tables e below (T12.setTop (mkF m 196 #[.val (.int p1), .val (.int p2), .val (.int p3), .val (.long q4), .second, .val (.long q5), .second, .val (.int pa), .val (.int pb), .val (.int va), .val (.int vb), .val (.int vc), .val (.int vd), .val (.int asp), .val (.int aep), .val (.int bsp), .val (.int bep), .val (.long xa), .second, .val (.long xb), .second, .val (.long ya), .second, .val (.long yb), .second, .val (.long asa), .second, .val (.long aea), .second, .val (.long bsa), .second, .val (.long bea), .second, .val (.ref b9), .val (.ref b11), .unset, .unset] [(.int (2 : Int32))])) _
        refine XS.goto X12.here hx rfl (pc0 := 196) (pc' := 200) rfl (hb hby at_196) (by decide) (by decide) ?_
        rw [q_qv] at k
        exact k
      · have q_qv : qv = (1 : Int32) := by rw [d_qv, if_pos hj181, if_neg hj192]
        show Steps p.tables e below (T12.setTop (mkF m 192 #[.val (.int p1), .val (.int p2), .val (.int p3), .val (.long q4), .second, .val (.long q5), .second, .val (.int pa), .val (.int pb), .val (.int va), .val (.int vb), .val (.int vc), .val (.int vd), .val (.int asp), .val (.int aep), .val (.int bsp), .val (.int bep), .val (.long xa), .second, .val (.long xb), .second, .val (.long ya), .second, .val (.long yb), .second, .val (.long asa), .second, .val (.long aea), .second, .val (.long bsa), .second, .val (.long bea), .second, .val (.ref b9), .val (.ref b11), .unset, .unset] [(.int (1 : Int32)), (.int pb)])) _
        refine XS.icmpYes X12.here hx rfl (pc0 := 192) (pc' := 199) rfl (hb hby at_192) rfl (feq hj192).2 (by decide) (by decide) ?_
        show Steps p.tables e below (T12.setTop (mkF m 199 #[.val (.int p1), .val (.int p2), .val (.int p3), .val (.long q4), .second, .val (.long q5), .second, .val (.int pa), .val (.int pb), .val (.int va), .val (.int vb), .val (.int vc), .val (.int vd), .val (.int asp), .val (.int aep), .val (.int bsp), .val (.int bep), .val (.long xa), .second, .val (.long xb), .second, .val (.long ya), .second, .val (.long yb), .second, .val (.long asa), .second, .val (.long aea), .second, .val (.long bsa), .second, .val (.long bea), .second, .val (.ref b9), .val (.ref b11), .unset, .unset] [])) _
        refine XS.iconst X12.here hx rfl (hb hby at_199) ?_
        rw [q_qv] at k
        exact k
    · have q_qv : qv = pa := by rw [d_qv, if_neg hj181]
      show Steps p.tables e below (T12.setTop (mkF m 181 #[.val (.int p1), .val (.int p2), .val (.int p3), .val (.long q4), .second, .val (.long q5), .second, .val (.int pa), .val (.int pb), .val (.int va), .val (.int vb), .val (.int vc), .val (.int vd), .val (.int asp), .val (.int aep), .val (.int bsp), .val (.int bep), .val (.long xa), .second, .val (.long xb), .second, .val (.long ya), .second, .val (.long yb), .second, .val (.long asa), .second, .val (.long aea), .second, .val (.long bsa), .second, .val (.long bea), .second, .val (.ref b9), .val (.ref b11), .unset, .unset] [(.int pa)])) _
      refine XS.ifNo X12.here hx rfl (hb hby at_181) rfl ((if0 _ _).trans (feq hj181).1) ?_
      show Steps p.tables e below (T12.setTop (mkF m 184 #[.val (.int p1), .val (.int p2), .val (.int p3), .val (.long q4), .second, .val (.long q5), .second, .val (.int pa), .val (.int pb), .val (.int va), .val (.int vb), .val (.int vc), .val (.int vd), .val (.int asp), .val (.int aep), .val (.int bsp), .val (.int bep), .val (.long xa), .second, .val (.long xb), .second, .val (.long ya), .second, .val (.long yb), .second, .val (.long asa), .second, .val (.long aea), .second, .val (.long bsa), .second, .val (.long bea), .second, .val (.ref b9), .val (.ref b11), .unset, .unset] [])) _
      refine XS.iload X12.here hx rfl (hb hby at_184) rfl ?_
      show Steps p.tables e below (T12.setTop (mkF m 186 #[.val (.int p1), .val (.int p2), .val (.int p3), .val (.long q4), .second, .val (.long q5), .second, .val (.int pa), .val (.int pb), .val (.int va), .val (.int vb), .val (.int vc), .val (.int vd), .val (.int asp), .val (.int aep), .val (.int bsp), .val (.int bep), .val (.long xa), .second, .val (.long xb), .second, .val (.long ya), .second, .val (.long yb), .second, .val (.long asa), .second, .val (.long aea), .second, .val (.long bsa), .second, .val (.long bea), .second, .val (.ref b9), .val (.ref b11), .unset, .unset] [(.int pa)])) _
      refine XS.goto X12.here hx rfl (pc0 := 186) (pc' := 200) rfl (hb hby at_186) (by decide) (by decide) ?_
      rw [q_qv] at k
      exact k
  obtain ⟨_, _, ⟨T14, L14, k14, n14⟩, -, X14, ⟨Lc14, hQ14, l14, y14, z14⟩, st14⟩ := Jvm.LawKit.callS X12 hx (y := (⟨"com/example/meticulous_audit/meticulousaudit/ike/TrafficSelectorWithinPinLaw", "takes", "(IIIJJIIJ)Z"⟩ : MethodName)) hown (mvT hZ (hw _ (List.mem_of_getElem? (i := 41) rfl))) (mvT hZ (hw _ (List.mem_of_getElem? (i := 42) rfl))) (mvT hZ (hw _ (List.mem_of_getElem? (i := 43) rfl))) (mvT hZ (hw _ (List.mem_of_getElem? (i := 44) rfl))) (by decide) (backOf (W := 0) (rm8 l Z a0 hw [] pb bsp bep bsa bea qv asp asa T12.heap n0 Z0 ) hZ (hw _ (List.mem_of_getElem? (i := 44) rfl)) (hw _ (List.mem_of_getElem? (i := 43) rfl)) (by decide) (by decide)) (g := (mkF m 218 #[.val (.int p1), .val (.int p2), .val (.int p3), .val (.long q4), .second, .val (.long q5), .second, .val (.int pa), .val (.int pb), .val (.int va), .val (.int vb), .val (.int vc), .val (.int vd), .val (.int asp), .val (.int aep), .val (.int bsp), .val (.int bep), .val (.long xa), .second, .val (.long xb), .second, .val (.long ya), .second, .val (.long yb), .second, .val (.long asa), .second, .val (.long aea), .second, .val (.long bsa), .second, .val (.long bea), .second, .val (.ref b9), .val (.ref b11), .val (.int qv), .unset] [(.long asa), (.int asp), (.int qv), (.long bea), (.long bsa), (.int bep), (.int bsp), (.int pb)])) rfl (by rw [hml]; rfl) (argsL := [(.int pb), (.int bsp), (.int bep), (.long bsa), (.long bea), (.int qv), (.int asp), (.long asa)]) (rest := []) (lenOf pd_4 rfl) rfl (by show 2 * 0 + _ ≤ _; exact Nat.le_of_eq rfl) (hb hby at_218) (fun _ _ => ⟨rfl, rfl, (by decide : 2 + 0 ≤ _), (by decide : 10 + 0 ≤ _)⟩)
  dsimp only [Pt.U, Pt.locs, Pt.cells, Pt.slots] at X14 l14 y14 z14 st14 hQ14
  subst l14 y14 z14
  obtain ⟨ta, rfl, d_ta, N14q, e14⟩ := hQ14
  have N14 := Fr.app N12 N14q
  refine own_go (S' := fun t => Steps p.tables e below (T14.setTop (mkF m 221 #[.val (.int p1), .val (.int p2), .val (.int p3), .val (.long q4), .second, .val (.long q5), .second, .val (.int pa), .val (.int pb), .val (.int va), .val (.int vb), .val (.int vc), .val (.int vd), .val (.int asp), .val (.int aep), .val (.int bsp), .val (.int bep), .val (.long xa), .second, .val (.long xb), .second, .val (.long ya), .second, .val (.long yb), .second, .val (.long asa), .second, .val (.long aea), .second, .val (.long bsa), .second, .val (.long bea), .second, .val (.ref b9), .val (.ref b11), .val (.int qv), .unset] [(.int ta)])) t) (fun t k => ?_) ?_
  · show Steps p.tables e below (s₁.setTop (mkF m 0 #[.val (.int p1), .val (.int p2), .val (.int p3), .val (.long q4), .second, .val (.long q5), .second, .unset, .unset, .unset, .unset, .unset, .unset, .unset, .unset, .unset, .unset, .unset, .unset, .unset, .unset, .unset, .unset, .unset, .unset, .unset, .unset, .unset, .unset, .unset, .unset, .unset, .unset, .unset, .unset, .unset, .unset] [])) _
    refine XS.iloadN X0.here hx rfl (hb hby at_0) rfl ?_
    show Steps p.tables e below (s₁.setTop (mkF m 1 #[.val (.int p1), .val (.int p2), .val (.int p3), .val (.long q4), .second, .val (.long q5), .second, .unset, .unset, .unset, .unset, .unset, .unset, .unset, .unset, .unset, .unset, .unset, .unset, .unset, .unset, .unset, .unset, .unset, .unset, .unset, .unset, .unset, .unset, .unset, .unset, .unset, .unset, .unset, .unset, .unset, .unset] [(.int p1)])) _
    refine XS.sipush X0.here hx rfl (hb hby at_1) ?_
    show Steps p.tables e below (s₁.setTop (mkF m 4 #[.val (.int p1), .val (.int p2), .val (.int p3), .val (.long q4), .second, .val (.long q5), .second, .unset, .unset, .unset, .unset, .unset, .unset, .unset, .unset, .unset, .unset, .unset, .unset, .unset, .unset, .unset, .unset, .unset, .unset, .unset, .unset, .unset, .unset, .unset, .unset, .unset, .unset, .unset, .unset, .unset, .unset] [(.int (255 : Int32)), (.int p1)])) _
    refine XS.iand X0.here hx rfl (hb hby at_4) rfl ?_
    show Steps p.tables e below (s₁.setTop (mkF m 5 #[.val (.int p1), .val (.int p2), .val (.int p3), .val (.long q4), .second, .val (.long q5), .second, .unset, .unset, .unset, .unset, .unset, .unset, .unset, .unset, .unset, .unset, .unset, .unset, .unset, .unset, .unset, .unset, .unset, .unset, .unset, .unset, .unset, .unset, .unset, .unset, .unset, .unset, .unset, .unset, .unset, .unset] [(.int (p1 &&& (255 : Int32)))])) _
    rw [← d_pa]
    show Steps p.tables e below (s₁.setTop (mkF m 5 #[.val (.int p1), .val (.int p2), .val (.int p3), .val (.long q4), .second, .val (.long q5), .second, .unset, .unset, .unset, .unset, .unset, .unset, .unset, .unset, .unset, .unset, .unset, .unset, .unset, .unset, .unset, .unset, .unset, .unset, .unset, .unset, .unset, .unset, .unset, .unset, .unset, .unset, .unset, .unset, .unset, .unset] [(.int pa)])) _
    refine XS.istore X0.here hx rfl (hb hby at_5) rfl (l' := #[.val (.int p1), .val (.int p2), .val (.int p3), .val (.long q4), .second, .val (.long q5), .second, .val (.int pa), .unset, .unset, .unset, .unset, .unset, .unset, .unset, .unset, .unset, .unset, .unset, .unset, .unset, .unset, .unset, .unset, .unset, .unset, .unset, .unset, .unset, .unset, .unset, .unset, .unset, .unset, .unset, .unset, .unset]) rfl ?_
    show Steps p.tables e below (s₁.setTop (mkF m 7 #[.val (.int p1), .val (.int p2), .val (.int p3), .val (.long q4), .second, .val (.long q5), .second, .val (.int pa), .unset, .unset, .unset, .unset, .unset, .unset, .unset, .unset, .unset, .unset, .unset, .unset, .unset, .unset, .unset, .unset, .unset, .unset, .unset, .unset, .unset, .unset, .unset, .unset, .unset, .unset, .unset, .unset, .unset] [])) _
    refine XS.iloadN X0.here hx rfl (hb hby at_7) rfl ?_
    show Steps p.tables e below (s₁.setTop (mkF m 8 #[.val (.int p1), .val (.int p2), .val (.int p3), .val (.long q4), .second, .val (.long q5), .second, .val (.int pa), .unset, .unset, .unset, .unset, .unset, .unset, .unset, .unset, .unset, .unset, .unset, .unset, .unset, .unset, .unset, .unset, .unset, .unset, .unset, .unset, .unset, .unset, .unset, .unset, .unset, .unset, .unset, .unset, .unset] [(.int p1)])) _
    refine XS.bipush X0.here hx rfl (hb hby at_8) ?_
    show Steps p.tables e below (s₁.setTop (mkF m 10 #[.val (.int p1), .val (.int p2), .val (.int p3), .val (.long q4), .second, .val (.long q5), .second, .val (.int pa), .unset, .unset, .unset, .unset, .unset, .unset, .unset, .unset, .unset, .unset, .unset, .unset, .unset, .unset, .unset, .unset, .unset, .unset, .unset, .unset, .unset, .unset, .unset, .unset, .unset, .unset, .unset, .unset, .unset] [(.int (8 : Int32)), (.int p1)])) _
    refine XS.iushr X0.here hx rfl (hb hby at_10) rfl ?_
    show Steps p.tables e below (s₁.setTop (mkF m 11 #[.val (.int p1), .val (.int p2), .val (.int p3), .val (.long q4), .second, .val (.long q5), .second, .val (.int pa), .unset, .unset, .unset, .unset, .unset, .unset, .unset, .unset, .unset, .unset, .unset, .unset, .unset, .unset, .unset, .unset, .unset, .unset, .unset, .unset, .unset, .unset, .unset, .unset, .unset, .unset, .unset, .unset, .unset] [(.int ((p1.toUInt32 >>> ((8 : Int32) &&& 31).toUInt32).toInt32))])) _
    refine XS.sipush X0.here hx rfl (hb hby at_11) ?_
    show Steps p.tables e below (s₁.setTop (mkF m 14 #[.val (.int p1), .val (.int p2), .val (.int p3), .val (.long q4), .second, .val (.long q5), .second, .val (.int pa), .unset, .unset, .unset, .unset, .unset, .unset, .unset, .unset, .unset, .unset, .unset, .unset, .unset, .unset, .unset, .unset, .unset, .unset, .unset, .unset, .unset, .unset, .unset, .unset, .unset, .unset, .unset, .unset, .unset] [(.int (255 : Int32)), (.int ((p1.toUInt32 >>> ((8 : Int32) &&& 31).toUInt32).toInt32))])) _
    refine XS.iand X0.here hx rfl (hb hby at_14) rfl ?_
    show Steps p.tables e below (s₁.setTop (mkF m 15 #[.val (.int p1), .val (.int p2), .val (.int p3), .val (.long q4), .second, .val (.long q5), .second, .val (.int pa), .unset, .unset, .unset, .unset, .unset, .unset, .unset, .unset, .unset, .unset, .unset, .unset, .unset, .unset, .unset, .unset, .unset, .unset, .unset, .unset, .unset, .unset, .unset, .unset, .unset, .unset, .unset, .unset, .unset] [(.int (((p1.toUInt32 >>> ((8 : Int32) &&& 31).toUInt32).toInt32) &&& (255 : Int32)))])) _
    rw [← d_pb]
    show Steps p.tables e below (s₁.setTop (mkF m 15 #[.val (.int p1), .val (.int p2), .val (.int p3), .val (.long q4), .second, .val (.long q5), .second, .val (.int pa), .unset, .unset, .unset, .unset, .unset, .unset, .unset, .unset, .unset, .unset, .unset, .unset, .unset, .unset, .unset, .unset, .unset, .unset, .unset, .unset, .unset, .unset, .unset, .unset, .unset, .unset, .unset, .unset, .unset] [(.int pb)])) _
    refine XS.istore X0.here hx rfl (hb hby at_15) rfl (l' := #[.val (.int p1), .val (.int p2), .val (.int p3), .val (.long q4), .second, .val (.long q5), .second, .val (.int pa), .val (.int pb), .unset, .unset, .unset, .unset, .unset, .unset, .unset, .unset, .unset, .unset, .unset, .unset, .unset, .unset, .unset, .unset, .unset, .unset, .unset, .unset, .unset, .unset, .unset, .unset, .unset, .unset, .unset, .unset]) rfl ?_
    show Steps p.tables e below (s₁.setTop (mkF m 17 #[.val (.int p1), .val (.int p2), .val (.int p3), .val (.long q4), .second, .val (.long q5), .second, .val (.int pa), .val (.int pb), .unset, .unset, .unset, .unset, .unset, .unset, .unset, .unset, .unset, .unset, .unset, .unset, .unset, .unset, .unset, .unset, .unset, .unset, .unset, .unset, .unset, .unset, .unset, .unset, .unset, .unset, .unset, .unset] [])) _
    refine XS.iloadN X0.here hx rfl (hb hby at_17) rfl ?_
    show Steps p.tables e below (s₁.setTop (mkF m 18 #[.val (.int p1), .val (.int p2), .val (.int p3), .val (.long q4), .second, .val (.long q5), .second, .val (.int pa), .val (.int pb), .unset, .unset, .unset, .unset, .unset, .unset, .unset, .unset, .unset, .unset, .unset, .unset, .unset, .unset, .unset, .unset, .unset, .unset, .unset, .unset, .unset, .unset, .unset, .unset, .unset, .unset, .unset, .unset] [(.int p2)])) _
    refine X0.ldcInt hx hown (mvT hZ (hw _ (List.mem_of_getElem? (i := 0) rfl))) (g := (mkF m 18 #[.val (.int p1), .val (.int p2), .val (.int p3), .val (.long q4), .second, .val (.long q5), .second, .val (.int pa), .val (.int pb), .unset, .unset, .unset, .unset, .unset, .unset, .unset, .unset, .unset, .unset, .unset, .unset, .unset, .unset, .unset, .unset, .unset, .unset, .unset, .unset, .unset, .unset, .unset, .unset, .unset, .unset, .unset, .unset] [(.int p2)])) rfl (hb hby at_18) _ ?_
    show Steps p.tables e below (s₁.setTop (mkF m 20 #[.val (.int p1), .val (.int p2), .val (.int p3), .val (.long q4), .second, .val (.long q5), .second, .val (.int pa), .val (.int pb), .unset, .unset, .unset, .unset, .unset, .unset, .unset, .unset, .unset, .unset, .unset, .unset, .unset, .unset, .unset, .unset, .unset, .unset, .unset, .unset, .unset, .unset, .unset, .unset, .unset, .unset, .unset, .unset] [(.int (65535 : Int32)), (.int p2)])) _
    refine XS.iand X0.here hx rfl (hb hby at_20) rfl ?_
    show Steps p.tables e below (s₁.setTop (mkF m 21 #[.val (.int p1), .val (.int p2), .val (.int p3), .val (.long q4), .second, .val (.long q5), .second, .val (.int pa), .val (.int pb), .unset, .unset, .unset, .unset, .unset, .unset, .unset, .unset, .unset, .unset, .unset, .unset, .unset, .unset, .unset, .unset, .unset, .unset, .unset, .unset, .unset, .unset, .unset, .unset, .unset, .unset, .unset, .unset] [(.int (p2 &&& (65535 : Int32)))])) _
    rw [← d_va]
    show Steps p.tables e below (s₁.setTop (mkF m 21 #[.val (.int p1), .val (.int p2), .val (.int p3), .val (.long q4), .second, .val (.long q5), .second, .val (.int pa), .val (.int pb), .unset, .unset, .unset, .unset, .unset, .unset, .unset, .unset, .unset, .unset, .unset, .unset, .unset, .unset, .unset, .unset, .unset, .unset, .unset, .unset, .unset, .unset, .unset, .unset, .unset, .unset, .unset, .unset] [(.int va)])) _
    refine XS.istore X0.here hx rfl (hb hby at_21) rfl (l' := #[.val (.int p1), .val (.int p2), .val (.int p3), .val (.long q4), .second, .val (.long q5), .second, .val (.int pa), .val (.int pb), .val (.int va), .unset, .unset, .unset, .unset, .unset, .unset, .unset, .unset, .unset, .unset, .unset, .unset, .unset, .unset, .unset, .unset, .unset, .unset, .unset, .unset, .unset, .unset, .unset, .unset, .unset, .unset, .unset]) rfl ?_
    show Steps p.tables e below (s₁.setTop (mkF m 23 #[.val (.int p1), .val (.int p2), .val (.int p3), .val (.long q4), .second, .val (.long q5), .second, .val (.int pa), .val (.int pb), .val (.int va), .unset, .unset, .unset, .unset, .unset, .unset, .unset, .unset, .unset, .unset, .unset, .unset, .unset, .unset, .unset, .unset, .unset, .unset, .unset, .unset, .unset, .unset, .unset, .unset, .unset, .unset, .unset] [])) _
    refine XS.iloadN X0.here hx rfl (hb hby at_23) rfl ?_
    show Steps p.tables e below (s₁.setTop (mkF m 24 #[.val (.int p1), .val (.int p2), .val (.int p3), .val (.long q4), .second, .val (.long q5), .second, .val (.int pa), .val (.int pb), .val (.int va), .unset, .unset, .unset, .unset, .unset, .unset, .unset, .unset, .unset, .unset, .unset, .unset, .unset, .unset, .unset, .unset, .unset, .unset, .unset, .unset, .unset, .unset, .unset, .unset, .unset, .unset, .unset] [(.int p2)])) _
    refine XS.bipush X0.here hx rfl (hb hby at_24) ?_
    show Steps p.tables e below (s₁.setTop (mkF m 26 #[.val (.int p1), .val (.int p2), .val (.int p3), .val (.long q4), .second, .val (.long q5), .second, .val (.int pa), .val (.int pb), .val (.int va), .unset, .unset, .unset, .unset, .unset, .unset, .unset, .unset, .unset, .unset, .unset, .unset, .unset, .unset, .unset, .unset, .unset, .unset, .unset, .unset, .unset, .unset, .unset, .unset, .unset, .unset, .unset] [(.int (16 : Int32)), (.int p2)])) _
    refine XS.iushr X0.here hx rfl (hb hby at_26) rfl ?_
    show Steps p.tables e below (s₁.setTop (mkF m 27 #[.val (.int p1), .val (.int p2), .val (.int p3), .val (.long q4), .second, .val (.long q5), .second, .val (.int pa), .val (.int pb), .val (.int va), .unset, .unset, .unset, .unset, .unset, .unset, .unset, .unset, .unset, .unset, .unset, .unset, .unset, .unset, .unset, .unset, .unset, .unset, .unset, .unset, .unset, .unset, .unset, .unset, .unset, .unset, .unset] [(.int ((p2.toUInt32 >>> ((16 : Int32) &&& 31).toUInt32).toInt32))])) _
    rw [← d_vb]
    show Steps p.tables e below (s₁.setTop (mkF m 27 #[.val (.int p1), .val (.int p2), .val (.int p3), .val (.long q4), .second, .val (.long q5), .second, .val (.int pa), .val (.int pb), .val (.int va), .unset, .unset, .unset, .unset, .unset, .unset, .unset, .unset, .unset, .unset, .unset, .unset, .unset, .unset, .unset, .unset, .unset, .unset, .unset, .unset, .unset, .unset, .unset, .unset, .unset, .unset, .unset] [(.int vb)])) _
    refine XS.istore X0.here hx rfl (hb hby at_27) rfl (l' := #[.val (.int p1), .val (.int p2), .val (.int p3), .val (.long q4), .second, .val (.long q5), .second, .val (.int pa), .val (.int pb), .val (.int va), .val (.int vb), .unset, .unset, .unset, .unset, .unset, .unset, .unset, .unset, .unset, .unset, .unset, .unset, .unset, .unset, .unset, .unset, .unset, .unset, .unset, .unset, .unset, .unset, .unset, .unset, .unset, .unset]) rfl ?_
    show Steps p.tables e below (s₁.setTop (mkF m 29 #[.val (.int p1), .val (.int p2), .val (.int p3), .val (.long q4), .second, .val (.long q5), .second, .val (.int pa), .val (.int pb), .val (.int va), .val (.int vb), .unset, .unset, .unset, .unset, .unset, .unset, .unset, .unset, .unset, .unset, .unset, .unset, .unset, .unset, .unset, .unset, .unset, .unset, .unset, .unset, .unset, .unset, .unset, .unset, .unset, .unset] [])) _
    refine XS.iloadN X0.here hx rfl (hb hby at_29) rfl ?_
    show Steps p.tables e below (s₁.setTop (mkF m 30 #[.val (.int p1), .val (.int p2), .val (.int p3), .val (.long q4), .second, .val (.long q5), .second, .val (.int pa), .val (.int pb), .val (.int va), .val (.int vb), .unset, .unset, .unset, .unset, .unset, .unset, .unset, .unset, .unset, .unset, .unset, .unset, .unset, .unset, .unset, .unset, .unset, .unset, .unset, .unset, .unset, .unset, .unset, .unset, .unset, .unset] [(.int p3)])) _
    refine X0.ldcInt hx hown (mvT hZ (hw _ (List.mem_of_getElem? (i := 0) rfl))) (g := (mkF m 30 #[.val (.int p1), .val (.int p2), .val (.int p3), .val (.long q4), .second, .val (.long q5), .second, .val (.int pa), .val (.int pb), .val (.int va), .val (.int vb), .unset, .unset, .unset, .unset, .unset, .unset, .unset, .unset, .unset, .unset, .unset, .unset, .unset, .unset, .unset, .unset, .unset, .unset, .unset, .unset, .unset, .unset, .unset, .unset, .unset, .unset] [(.int p3)])) rfl (hb hby at_30) _ ?_
    show Steps p.tables e below (s₁.setTop (mkF m 32 #[.val (.int p1), .val (.int p2), .val (.int p3), .val (.long q4), .second, .val (.long q5), .second, .val (.int pa), .val (.int pb), .val (.int va), .val (.int vb), .unset, .unset, .unset, .unset, .unset, .unset, .unset, .unset, .unset, .unset, .unset, .unset, .unset, .unset, .unset, .unset, .unset, .unset, .unset, .unset, .unset, .unset, .unset, .unset, .unset, .unset] [(.int (65535 : Int32)), (.int p3)])) _
    refine XS.iand X0.here hx rfl (hb hby at_32) rfl ?_
    show Steps p.tables e below (s₁.setTop (mkF m 33 #[.val (.int p1), .val (.int p2), .val (.int p3), .val (.long q4), .second, .val (.long q5), .second, .val (.int pa), .val (.int pb), .val (.int va), .val (.int vb), .unset, .unset, .unset, .unset, .unset, .unset, .unset, .unset, .unset, .unset, .unset, .unset, .unset, .unset, .unset, .unset, .unset, .unset, .unset, .unset, .unset, .unset, .unset, .unset, .unset, .unset] [(.int (p3 &&& (65535 : Int32)))])) _
    rw [← d_vc]
    show Steps p.tables e below (s₁.setTop (mkF m 33 #[.val (.int p1), .val (.int p2), .val (.int p3), .val (.long q4), .second, .val (.long q5), .second, .val (.int pa), .val (.int pb), .val (.int va), .val (.int vb), .unset, .unset, .unset, .unset, .unset, .unset, .unset, .unset, .unset, .unset, .unset, .unset, .unset, .unset, .unset, .unset, .unset, .unset, .unset, .unset, .unset, .unset, .unset, .unset, .unset, .unset] [(.int vc)])) _
    refine XS.istore X0.here hx rfl (hb hby at_33) rfl (l' := #[.val (.int p1), .val (.int p2), .val (.int p3), .val (.long q4), .second, .val (.long q5), .second, .val (.int pa), .val (.int pb), .val (.int va), .val (.int vb), .val (.int vc), .unset, .unset, .unset, .unset, .unset, .unset, .unset, .unset, .unset, .unset, .unset, .unset, .unset, .unset, .unset, .unset, .unset, .unset, .unset, .unset, .unset, .unset, .unset, .unset, .unset]) rfl ?_
    show Steps p.tables e below (s₁.setTop (mkF m 35 #[.val (.int p1), .val (.int p2), .val (.int p3), .val (.long q4), .second, .val (.long q5), .second, .val (.int pa), .val (.int pb), .val (.int va), .val (.int vb), .val (.int vc), .unset, .unset, .unset, .unset, .unset, .unset, .unset, .unset, .unset, .unset, .unset, .unset, .unset, .unset, .unset, .unset, .unset, .unset, .unset, .unset, .unset, .unset, .unset, .unset, .unset] [])) _
    refine XS.iloadN X0.here hx rfl (hb hby at_35) rfl ?_
    show Steps p.tables e below (s₁.setTop (mkF m 36 #[.val (.int p1), .val (.int p2), .val (.int p3), .val (.long q4), .second, .val (.long q5), .second, .val (.int pa), .val (.int pb), .val (.int va), .val (.int vb), .val (.int vc), .unset, .unset, .unset, .unset, .unset, .unset, .unset, .unset, .unset, .unset, .unset, .unset, .unset, .unset, .unset, .unset, .unset, .unset, .unset, .unset, .unset, .unset, .unset, .unset, .unset] [(.int p3)])) _
    refine XS.bipush X0.here hx rfl (hb hby at_36) ?_
    show Steps p.tables e below (s₁.setTop (mkF m 38 #[.val (.int p1), .val (.int p2), .val (.int p3), .val (.long q4), .second, .val (.long q5), .second, .val (.int pa), .val (.int pb), .val (.int va), .val (.int vb), .val (.int vc), .unset, .unset, .unset, .unset, .unset, .unset, .unset, .unset, .unset, .unset, .unset, .unset, .unset, .unset, .unset, .unset, .unset, .unset, .unset, .unset, .unset, .unset, .unset, .unset, .unset] [(.int (16 : Int32)), (.int p3)])) _
    refine XS.iushr X0.here hx rfl (hb hby at_38) rfl ?_
    show Steps p.tables e below (s₁.setTop (mkF m 39 #[.val (.int p1), .val (.int p2), .val (.int p3), .val (.long q4), .second, .val (.long q5), .second, .val (.int pa), .val (.int pb), .val (.int va), .val (.int vb), .val (.int vc), .unset, .unset, .unset, .unset, .unset, .unset, .unset, .unset, .unset, .unset, .unset, .unset, .unset, .unset, .unset, .unset, .unset, .unset, .unset, .unset, .unset, .unset, .unset, .unset, .unset] [(.int ((p3.toUInt32 >>> ((16 : Int32) &&& 31).toUInt32).toInt32))])) _
    rw [← d_vd]
    show Steps p.tables e below (s₁.setTop (mkF m 39 #[.val (.int p1), .val (.int p2), .val (.int p3), .val (.long q4), .second, .val (.long q5), .second, .val (.int pa), .val (.int pb), .val (.int va), .val (.int vb), .val (.int vc), .unset, .unset, .unset, .unset, .unset, .unset, .unset, .unset, .unset, .unset, .unset, .unset, .unset, .unset, .unset, .unset, .unset, .unset, .unset, .unset, .unset, .unset, .unset, .unset, .unset] [(.int vd)])) _
    refine XS.istore X0.here hx rfl (hb hby at_39) rfl (l' := #[.val (.int p1), .val (.int p2), .val (.int p3), .val (.long q4), .second, .val (.long q5), .second, .val (.int pa), .val (.int pb), .val (.int va), .val (.int vb), .val (.int vc), .val (.int vd), .unset, .unset, .unset, .unset, .unset, .unset, .unset, .unset, .unset, .unset, .unset, .unset, .unset, .unset, .unset, .unset, .unset, .unset, .unset, .unset, .unset, .unset, .unset, .unset]) rfl ?_
    show Steps p.tables e below (s₁.setTop (mkF m 41 #[.val (.int p1), .val (.int p2), .val (.int p3), .val (.long q4), .second, .val (.long q5), .second, .val (.int pa), .val (.int pb), .val (.int va), .val (.int vb), .val (.int vc), .val (.int vd), .unset, .unset, .unset, .unset, .unset, .unset, .unset, .unset, .unset, .unset, .unset, .unset, .unset, .unset, .unset, .unset, .unset, .unset, .unset, .unset, .unset, .unset, .unset, .unset] [])) _
    refine XS.iload X0.here hx rfl (hb hby at_41) rfl ?_
    show Steps p.tables e below (s₁.setTop (mkF m 43 #[.val (.int p1), .val (.int p2), .val (.int p3), .val (.long q4), .second, .val (.long q5), .second, .val (.int pa), .val (.int pb), .val (.int va), .val (.int vb), .val (.int vc), .val (.int vd), .unset, .unset, .unset, .unset, .unset, .unset, .unset, .unset, .unset, .unset, .unset, .unset, .unset, .unset, .unset, .unset, .unset, .unset, .unset, .unset, .unset, .unset, .unset, .unset] [(.int va)])) _
    refine XS.iload X0.here hx rfl (hb hby at_43) rfl ?_
    show Steps p.tables e below (s₁.setTop (mkF m 45 #[.val (.int p1), .val (.int p2), .val (.int p3), .val (.long q4), .second, .val (.long q5), .second, .val (.int pa), .val (.int pb), .val (.int va), .val (.int vb), .val (.int vc), .val (.int vd), .unset, .unset, .unset, .unset, .unset, .unset, .unset, .unset, .unset, .unset, .unset, .unset, .unset, .unset, .unset, .unset, .unset, .unset, .unset, .unset, .unset, .unset, .unset, .unset] [(.int vb), (.int va)])) _
    refine st1 _ ?_
    show Steps p.tables e below (T1.setTop (mkF m 48 #[.val (.int p1), .val (.int p2), .val (.int p3), .val (.long q4), .second, .val (.long q5), .second, .val (.int pa), .val (.int pb), .val (.int va), .val (.int vb), .val (.int vc), .val (.int vd), .unset, .unset, .unset, .unset, .unset, .unset, .unset, .unset, .unset, .unset, .unset, .unset, .unset, .unset, .unset, .unset, .unset, .unset, .unset, .unset, .unset, .unset, .unset, .unset] [(.int asp)])) _
    refine XS.istore X1.here hx rfl (hb hby at_48) rfl (l' := #[.val (.int p1), .val (.int p2), .val (.int p3), .val (.long q4), .second, .val (.long q5), .second, .val (.int pa), .val (.int pb), .val (.int va), .val (.int vb), .val (.int vc), .val (.int vd), .val (.int asp), .unset, .unset, .unset, .unset, .unset, .unset, .unset, .unset, .unset, .unset, .unset, .unset, .unset, .unset, .unset, .unset, .unset, .unset, .unset, .unset, .unset, .unset, .unset]) rfl ?_
    show Steps p.tables e below (T1.setTop (mkF m 50 #[.val (.int p1), .val (.int p2), .val (.int p3), .val (.long q4), .second, .val (.long q5), .second, .val (.int pa), .val (.int pb), .val (.int va), .val (.int vb), .val (.int vc), .val (.int vd), .val (.int asp), .unset, .unset, .unset, .unset, .unset, .unset, .unset, .unset, .unset, .unset, .unset, .unset, .unset, .unset, .unset, .unset, .unset, .unset, .unset, .unset, .unset, .unset, .unset] [])) _
    refine XS.iload X1.here hx rfl (hb hby at_50) rfl ?_
    show Steps p.tables e below (T1.setTop (mkF m 52 #[.val (.int p1), .val (.int p2), .val (.int p3), .val (.long q4), .second, .val (.long q5), .second, .val (.int pa), .val (.int pb), .val (.int va), .val (.int vb), .val (.int vc), .val (.int vd), .val (.int asp), .unset, .unset, .unset, .unset, .unset, .unset, .unset, .unset, .unset, .unset, .unset, .unset, .unset, .unset, .unset, .unset, .unset, .unset, .unset, .unset, .unset, .unset, .unset] [(.int va)])) _
    refine XS.iload X1.here hx rfl (hb hby at_52) rfl ?_
    show Steps p.tables e below (T1.setTop (mkF m 54 #[.val (.int p1), .val (.int p2), .val (.int p3), .val (.long q4), .second, .val (.long q5), .second, .val (.int pa), .val (.int pb), .val (.int va), .val (.int vb), .val (.int vc), .val (.int vd), .val (.int asp), .unset, .unset, .unset, .unset, .unset, .unset, .unset, .unset, .unset, .unset, .unset, .unset, .unset, .unset, .unset, .unset, .unset, .unset, .unset, .unset, .unset, .unset, .unset] [(.int vb), (.int va)])) _
    refine st2 _ ?_
    show Steps p.tables e below (T2.setTop (mkF m 57 #[.val (.int p1), .val (.int p2), .val (.int p3), .val (.long q4), .second, .val (.long q5), .second, .val (.int pa), .val (.int pb), .val (.int va), .val (.int vb), .val (.int vc), .val (.int vd), .val (.int asp), .unset, .unset, .unset, .unset, .unset, .unset, .unset, .unset, .unset, .unset, .unset, .unset, .unset, .unset, .unset, .unset, .unset, .unset, .unset, .unset, .unset, .unset, .unset] [(.int aep)])) _
    refine XS.istore X2.here hx rfl (hb hby at_57) rfl (l' := #[.val (.int p1), .val (.int p2), .val (.int p3), .val (.long q4), .second, .val (.long q5), .second, .val (.int pa), .val (.int pb), .val (.int va), .val (.int vb), .val (.int vc), .val (.int vd), .val (.int asp), .val (.int aep), .unset, .unset, .unset, .unset, .unset, .unset, .unset, .unset, .unset, .unset, .unset, .unset, .unset, .unset, .unset, .unset, .unset, .unset, .unset, .unset, .unset, .unset]) rfl ?_
    show Steps p.tables e below (T2.setTop (mkF m 59 #[.val (.int p1), .val (.int p2), .val (.int p3), .val (.long q4), .second, .val (.long q5), .second, .val (.int pa), .val (.int pb), .val (.int va), .val (.int vb), .val (.int vc), .val (.int vd), .val (.int asp), .val (.int aep), .unset, .unset, .unset, .unset, .unset, .unset, .unset, .unset, .unset, .unset, .unset, .unset, .unset, .unset, .unset, .unset, .unset, .unset, .unset, .unset, .unset, .unset] [])) _
    refine XS.iload X2.here hx rfl (hb hby at_59) rfl ?_
    show Steps p.tables e below (T2.setTop (mkF m 61 #[.val (.int p1), .val (.int p2), .val (.int p3), .val (.long q4), .second, .val (.long q5), .second, .val (.int pa), .val (.int pb), .val (.int va), .val (.int vb), .val (.int vc), .val (.int vd), .val (.int asp), .val (.int aep), .unset, .unset, .unset, .unset, .unset, .unset, .unset, .unset, .unset, .unset, .unset, .unset, .unset, .unset, .unset, .unset, .unset, .unset, .unset, .unset, .unset, .unset] [(.int vc)])) _
    refine XS.iload X2.here hx rfl (hb hby at_61) rfl ?_
    show Steps p.tables e below (T2.setTop (mkF m 63 #[.val (.int p1), .val (.int p2), .val (.int p3), .val (.long q4), .second, .val (.long q5), .second, .val (.int pa), .val (.int pb), .val (.int va), .val (.int vb), .val (.int vc), .val (.int vd), .val (.int asp), .val (.int aep), .unset, .unset, .unset, .unset, .unset, .unset, .unset, .unset, .unset, .unset, .unset, .unset, .unset, .unset, .unset, .unset, .unset, .unset, .unset, .unset, .unset, .unset] [(.int vd), (.int vc)])) _
    refine st3 _ ?_
    show Steps p.tables e below (T3.setTop (mkF m 66 #[.val (.int p1), .val (.int p2), .val (.int p3), .val (.long q4), .second, .val (.long q5), .second, .val (.int pa), .val (.int pb), .val (.int va), .val (.int vb), .val (.int vc), .val (.int vd), .val (.int asp), .val (.int aep), .unset, .unset, .unset, .unset, .unset, .unset, .unset, .unset, .unset, .unset, .unset, .unset, .unset, .unset, .unset, .unset, .unset, .unset, .unset, .unset, .unset, .unset] [(.int bsp)])) _
    refine XS.istore X3.here hx rfl (hb hby at_66) rfl (l' := #[.val (.int p1), .val (.int p2), .val (.int p3), .val (.long q4), .second, .val (.long q5), .second, .val (.int pa), .val (.int pb), .val (.int va), .val (.int vb), .val (.int vc), .val (.int vd), .val (.int asp), .val (.int aep), .val (.int bsp), .unset, .unset, .unset, .unset, .unset, .unset, .unset, .unset, .unset, .unset, .unset, .unset, .unset, .unset, .unset, .unset, .unset, .unset, .unset, .unset, .unset]) rfl ?_
    show Steps p.tables e below (T3.setTop (mkF m 68 #[.val (.int p1), .val (.int p2), .val (.int p3), .val (.long q4), .second, .val (.long q5), .second, .val (.int pa), .val (.int pb), .val (.int va), .val (.int vb), .val (.int vc), .val (.int vd), .val (.int asp), .val (.int aep), .val (.int bsp), .unset, .unset, .unset, .unset, .unset, .unset, .unset, .unset, .unset, .unset, .unset, .unset, .unset, .unset, .unset, .unset, .unset, .unset, .unset, .unset, .unset] [])) _
    refine XS.iload X3.here hx rfl (hb hby at_68) rfl ?_
    show Steps p.tables e below (T3.setTop (mkF m 70 #[.val (.int p1), .val (.int p2), .val (.int p3), .val (.long q4), .second, .val (.long q5), .second, .val (.int pa), .val (.int pb), .val (.int va), .val (.int vb), .val (.int vc), .val (.int vd), .val (.int asp), .val (.int aep), .val (.int bsp), .unset, .unset, .unset, .unset, .unset, .unset, .unset, .unset, .unset, .unset, .unset, .unset, .unset, .unset, .unset, .unset, .unset, .unset, .unset, .unset, .unset] [(.int vc)])) _
    refine XS.iload X3.here hx rfl (hb hby at_70) rfl ?_
    show Steps p.tables e below (T3.setTop (mkF m 72 #[.val (.int p1), .val (.int p2), .val (.int p3), .val (.long q4), .second, .val (.long q5), .second, .val (.int pa), .val (.int pb), .val (.int va), .val (.int vb), .val (.int vc), .val (.int vd), .val (.int asp), .val (.int aep), .val (.int bsp), .unset, .unset, .unset, .unset, .unset, .unset, .unset, .unset, .unset, .unset, .unset, .unset, .unset, .unset, .unset, .unset, .unset, .unset, .unset, .unset, .unset] [(.int vd), (.int vc)])) _
    refine st4 _ ?_
    show Steps p.tables e below (T4.setTop (mkF m 75 #[.val (.int p1), .val (.int p2), .val (.int p3), .val (.long q4), .second, .val (.long q5), .second, .val (.int pa), .val (.int pb), .val (.int va), .val (.int vb), .val (.int vc), .val (.int vd), .val (.int asp), .val (.int aep), .val (.int bsp), .unset, .unset, .unset, .unset, .unset, .unset, .unset, .unset, .unset, .unset, .unset, .unset, .unset, .unset, .unset, .unset, .unset, .unset, .unset, .unset, .unset] [(.int bep)])) _
    refine XS.istore X4.here hx rfl (hb hby at_75) rfl (l' := #[.val (.int p1), .val (.int p2), .val (.int p3), .val (.long q4), .second, .val (.long q5), .second, .val (.int pa), .val (.int pb), .val (.int va), .val (.int vb), .val (.int vc), .val (.int vd), .val (.int asp), .val (.int aep), .val (.int bsp), .val (.int bep), .unset, .unset, .unset, .unset, .unset, .unset, .unset, .unset, .unset, .unset, .unset, .unset, .unset, .unset, .unset, .unset, .unset, .unset, .unset, .unset]) rfl ?_
    show Steps p.tables e below (T4.setTop (mkF m 77 #[.val (.int p1), .val (.int p2), .val (.int p3), .val (.long q4), .second, .val (.long q5), .second, .val (.int pa), .val (.int pb), .val (.int va), .val (.int vb), .val (.int vc), .val (.int vd), .val (.int asp), .val (.int aep), .val (.int bsp), .val (.int bep), .unset, .unset, .unset, .unset, .unset, .unset, .unset, .unset, .unset, .unset, .unset, .unset, .unset, .unset, .unset, .unset, .unset, .unset, .unset, .unset] [])) _
    refine XS.lloadN X4.here hx rfl (hb hby at_77) rfl ?_
    show Steps p.tables e below (T4.setTop (mkF m 78 #[.val (.int p1), .val (.int p2), .val (.int p3), .val (.long q4), .second, .val (.long q5), .second, .val (.int pa), .val (.int pb), .val (.int va), .val (.int vb), .val (.int vc), .val (.int vd), .val (.int asp), .val (.int aep), .val (.int bsp), .val (.int bep), .unset, .unset, .unset, .unset, .unset, .unset, .unset, .unset, .unset, .unset, .unset, .unset, .unset, .unset, .unset, .unset, .unset, .unset, .unset, .unset] [(.long q4)])) _
    refine X4.ldc2Long hx hown (mvT hZ (hw _ (List.mem_of_getElem? (i := 8) rfl))) (g := (mkF m 78 #[.val (.int p1), .val (.int p2), .val (.int p3), .val (.long q4), .second, .val (.long q5), .second, .val (.int pa), .val (.int pb), .val (.int va), .val (.int vb), .val (.int vc), .val (.int vd), .val (.int asp), .val (.int aep), .val (.int bsp), .val (.int bep), .unset, .unset, .unset, .unset, .unset, .unset, .unset, .unset, .unset, .unset, .unset, .unset, .unset, .unset, .unset, .unset, .unset, .unset, .unset, .unset] [(.long q4)])) rfl (hb hby at_78) _ ?_
    show Steps p.tables e below (T4.setTop (mkF m 81 #[.val (.int p1), .val (.int p2), .val (.int p3), .val (.long q4), .second, .val (.long q5), .second, .val (.int pa), .val (.int pb), .val (.int va), .val (.int vb), .val (.int vc), .val (.int vd), .val (.int asp), .val (.int aep), .val (.int bsp), .val (.int bep), .unset, .unset, .unset, .unset, .unset, .unset, .unset, .unset, .unset, .unset, .unset, .unset, .unset, .unset, .unset, .unset, .unset, .unset, .unset, .unset] [(.long (4294967295 : Int64)), (.long q4)])) _
    refine XS.land X4.here hx rfl (hb hby at_81) rfl ?_
    show Steps p.tables e below (T4.setTop (mkF m 82 #[.val (.int p1), .val (.int p2), .val (.int p3), .val (.long q4), .second, .val (.long q5), .second, .val (.int pa), .val (.int pb), .val (.int va), .val (.int vb), .val (.int vc), .val (.int vd), .val (.int asp), .val (.int aep), .val (.int bsp), .val (.int bep), .unset, .unset, .unset, .unset, .unset, .unset, .unset, .unset, .unset, .unset, .unset, .unset, .unset, .unset, .unset, .unset, .unset, .unset, .unset, .unset] [(.long (q4 &&& (4294967295 : Int64)))])) _
    rw [← d_xa]
    show Steps p.tables e below (T4.setTop (mkF m 82 #[.val (.int p1), .val (.int p2), .val (.int p3), .val (.long q4), .second, .val (.long q5), .second, .val (.int pa), .val (.int pb), .val (.int va), .val (.int vb), .val (.int vc), .val (.int vd), .val (.int asp), .val (.int aep), .val (.int bsp), .val (.int bep), .unset, .unset, .unset, .unset, .unset, .unset, .unset, .unset, .unset, .unset, .unset, .unset, .unset, .unset, .unset, .unset, .unset, .unset, .unset, .unset] [(.long xa)])) _
    refine XS.lstore X4.here hx rfl (hb hby at_82) rfl (l' := #[.val (.int p1), .val (.int p2), .val (.int p3), .val (.long q4), .second, .val (.long q5), .second, .val (.int pa), .val (.int pb), .val (.int va), .val (.int vb), .val (.int vc), .val (.int vd), .val (.int asp), .val (.int aep), .val (.int bsp), .val (.int bep), .val (.long xa), .second, .unset, .unset, .unset, .unset, .unset, .unset, .unset, .unset, .unset, .unset, .unset, .unset, .unset, .unset, .unset, .unset, .unset, .unset]) rfl ?_
    show Steps p.tables e below (T4.setTop (mkF m 84 #[.val (.int p1), .val (.int p2), .val (.int p3), .val (.long q4), .second, .val (.long q5), .second, .val (.int pa), .val (.int pb), .val (.int va), .val (.int vb), .val (.int vc), .val (.int vd), .val (.int asp), .val (.int aep), .val (.int bsp), .val (.int bep), .val (.long xa), .second, .unset, .unset, .unset, .unset, .unset, .unset, .unset, .unset, .unset, .unset, .unset, .unset, .unset, .unset, .unset, .unset, .unset, .unset] [])) _
    refine XS.lloadN X4.here hx rfl (hb hby at_84) rfl ?_
    show Steps p.tables e below (T4.setTop (mkF m 85 #[.val (.int p1), .val (.int p2), .val (.int p3), .val (.long q4), .second, .val (.long q5), .second, .val (.int pa), .val (.int pb), .val (.int va), .val (.int vb), .val (.int vc), .val (.int vd), .val (.int asp), .val (.int aep), .val (.int bsp), .val (.int bep), .val (.long xa), .second, .unset, .unset, .unset, .unset, .unset, .unset, .unset, .unset, .unset, .unset, .unset, .unset, .unset, .unset, .unset, .unset, .unset, .unset] [(.long q4)])) _
    refine XS.bipush X4.here hx rfl (hb hby at_85) ?_
    show Steps p.tables e below (T4.setTop (mkF m 87 #[.val (.int p1), .val (.int p2), .val (.int p3), .val (.long q4), .second, .val (.long q5), .second, .val (.int pa), .val (.int pb), .val (.int va), .val (.int vb), .val (.int vc), .val (.int vd), .val (.int asp), .val (.int aep), .val (.int bsp), .val (.int bep), .val (.long xa), .second, .unset, .unset, .unset, .unset, .unset, .unset, .unset, .unset, .unset, .unset, .unset, .unset, .unset, .unset, .unset, .unset, .unset, .unset] [(.int (32 : Int32)), (.long q4)])) _
    refine XS.lushr X4.here hx rfl (hb hby at_87) rfl ?_
    show Steps p.tables e below (T4.setTop (mkF m 88 #[.val (.int p1), .val (.int p2), .val (.int p3), .val (.long q4), .second, .val (.long q5), .second, .val (.int pa), .val (.int pb), .val (.int va), .val (.int vb), .val (.int vc), .val (.int vd), .val (.int asp), .val (.int aep), .val (.int bsp), .val (.int bep), .val (.long xa), .second, .unset, .unset, .unset, .unset, .unset, .unset, .unset, .unset, .unset, .unset, .unset, .unset, .unset, .unset, .unset, .unset, .unset, .unset] [(.long ((q4.toUInt64 >>> ((32 : Int32) &&& 0x3f).toInt64.toUInt64).toInt64))])) _
    rw [← d_xb]
    show Steps p.tables e below (T4.setTop (mkF m 88 #[.val (.int p1), .val (.int p2), .val (.int p3), .val (.long q4), .second, .val (.long q5), .second, .val (.int pa), .val (.int pb), .val (.int va), .val (.int vb), .val (.int vc), .val (.int vd), .val (.int asp), .val (.int aep), .val (.int bsp), .val (.int bep), .val (.long xa), .second, .unset, .unset, .unset, .unset, .unset, .unset, .unset, .unset, .unset, .unset, .unset, .unset, .unset, .unset, .unset, .unset, .unset, .unset] [(.long xb)])) _
    refine XS.lstore X4.here hx rfl (hb hby at_88) rfl (l' := #[.val (.int p1), .val (.int p2), .val (.int p3), .val (.long q4), .second, .val (.long q5), .second, .val (.int pa), .val (.int pb), .val (.int va), .val (.int vb), .val (.int vc), .val (.int vd), .val (.int asp), .val (.int aep), .val (.int bsp), .val (.int bep), .val (.long xa), .second, .val (.long xb), .second, .unset, .unset, .unset, .unset, .unset, .unset, .unset, .unset, .unset, .unset, .unset, .unset, .unset, .unset, .unset, .unset]) rfl ?_
    show Steps p.tables e below (T4.setTop (mkF m 90 #[.val (.int p1), .val (.int p2), .val (.int p3), .val (.long q4), .second, .val (.long q5), .second, .val (.int pa), .val (.int pb), .val (.int va), .val (.int vb), .val (.int vc), .val (.int vd), .val (.int asp), .val (.int aep), .val (.int bsp), .val (.int bep), .val (.long xa), .second, .val (.long xb), .second, .unset, .unset, .unset, .unset, .unset, .unset, .unset, .unset, .unset, .unset, .unset, .unset, .unset, .unset, .unset, .unset] [])) _
    refine XS.lload X4.here hx rfl (hb hby at_90) rfl ?_
    show Steps p.tables e below (T4.setTop (mkF m 92 #[.val (.int p1), .val (.int p2), .val (.int p3), .val (.long q4), .second, .val (.long q5), .second, .val (.int pa), .val (.int pb), .val (.int va), .val (.int vb), .val (.int vc), .val (.int vd), .val (.int asp), .val (.int aep), .val (.int bsp), .val (.int bep), .val (.long xa), .second, .val (.long xb), .second, .unset, .unset, .unset, .unset, .unset, .unset, .unset, .unset, .unset, .unset, .unset, .unset, .unset, .unset, .unset, .unset] [(.long q5)])) _
    refine X4.ldc2Long hx hown (mvT hZ (hw _ (List.mem_of_getElem? (i := 8) rfl))) (g := (mkF m 92 #[.val (.int p1), .val (.int p2), .val (.int p3), .val (.long q4), .second, .val (.long q5), .second, .val (.int pa), .val (.int pb), .val (.int va), .val (.int vb), .val (.int vc), .val (.int vd), .val (.int asp), .val (.int aep), .val (.int bsp), .val (.int bep), .val (.long xa), .second, .val (.long xb), .second, .unset, .unset, .unset, .unset, .unset, .unset, .unset, .unset, .unset, .unset, .unset, .unset, .unset, .unset, .unset, .unset] [(.long q5)])) rfl (hb hby at_92) _ ?_
    show Steps p.tables e below (T4.setTop (mkF m 95 #[.val (.int p1), .val (.int p2), .val (.int p3), .val (.long q4), .second, .val (.long q5), .second, .val (.int pa), .val (.int pb), .val (.int va), .val (.int vb), .val (.int vc), .val (.int vd), .val (.int asp), .val (.int aep), .val (.int bsp), .val (.int bep), .val (.long xa), .second, .val (.long xb), .second, .unset, .unset, .unset, .unset, .unset, .unset, .unset, .unset, .unset, .unset, .unset, .unset, .unset, .unset, .unset, .unset] [(.long (4294967295 : Int64)), (.long q5)])) _
    refine XS.land X4.here hx rfl (hb hby at_95) rfl ?_
    show Steps p.tables e below (T4.setTop (mkF m 96 #[.val (.int p1), .val (.int p2), .val (.int p3), .val (.long q4), .second, .val (.long q5), .second, .val (.int pa), .val (.int pb), .val (.int va), .val (.int vb), .val (.int vc), .val (.int vd), .val (.int asp), .val (.int aep), .val (.int bsp), .val (.int bep), .val (.long xa), .second, .val (.long xb), .second, .unset, .unset, .unset, .unset, .unset, .unset, .unset, .unset, .unset, .unset, .unset, .unset, .unset, .unset, .unset, .unset] [(.long (q5 &&& (4294967295 : Int64)))])) _
    rw [← d_ya]
    show Steps p.tables e below (T4.setTop (mkF m 96 #[.val (.int p1), .val (.int p2), .val (.int p3), .val (.long q4), .second, .val (.long q5), .second, .val (.int pa), .val (.int pb), .val (.int va), .val (.int vb), .val (.int vc), .val (.int vd), .val (.int asp), .val (.int aep), .val (.int bsp), .val (.int bep), .val (.long xa), .second, .val (.long xb), .second, .unset, .unset, .unset, .unset, .unset, .unset, .unset, .unset, .unset, .unset, .unset, .unset, .unset, .unset, .unset, .unset] [(.long ya)])) _
    refine XS.lstore X4.here hx rfl (hb hby at_96) rfl (l' := #[.val (.int p1), .val (.int p2), .val (.int p3), .val (.long q4), .second, .val (.long q5), .second, .val (.int pa), .val (.int pb), .val (.int va), .val (.int vb), .val (.int vc), .val (.int vd), .val (.int asp), .val (.int aep), .val (.int bsp), .val (.int bep), .val (.long xa), .second, .val (.long xb), .second, .val (.long ya), .second, .unset, .unset, .unset, .unset, .unset, .unset, .unset, .unset, .unset, .unset, .unset, .unset, .unset, .unset]) rfl ?_
    show Steps p.tables e below (T4.setTop (mkF m 98 #[.val (.int p1), .val (.int p2), .val (.int p3), .val (.long q4), .second, .val (.long q5), .second, .val (.int pa), .val (.int pb), .val (.int va), .val (.int vb), .val (.int vc), .val (.int vd), .val (.int asp), .val (.int aep), .val (.int bsp), .val (.int bep), .val (.long xa), .second, .val (.long xb), .second, .val (.long ya), .second, .unset, .unset, .unset, .unset, .unset, .unset, .unset, .unset, .unset, .unset, .unset, .unset, .unset, .unset] [])) _
    refine XS.lload X4.here hx rfl (hb hby at_98) rfl ?_
    show Steps p.tables e below (T4.setTop (mkF m 100 #[.val (.int p1), .val (.int p2), .val (.int p3), .val (.long q4), .second, .val (.long q5), .second, .val (.int pa), .val (.int pb), .val (.int va), .val (.int vb), .val (.int vc), .val (.int vd), .val (.int asp), .val (.int aep), .val (.int bsp), .val (.int bep), .val (.long xa), .second, .val (.long xb), .second, .val (.long ya), .second, .unset, .unset, .unset, .unset, .unset, .unset, .unset, .unset, .unset, .unset, .unset, .unset, .unset, .unset] [(.long q5)])) _
    refine XS.bipush X4.here hx rfl (hb hby at_100) ?_
    show Steps p.tables e below (T4.setTop (mkF m 102 #[.val (.int p1), .val (.int p2), .val (.int p3), .val (.long q4), .second, .val (.long q5), .second, .val (.int pa), .val (.int pb), .val (.int va), .val (.int vb), .val (.int vc), .val (.int vd), .val (.int asp), .val (.int aep), .val (.int bsp), .val (.int bep), .val (.long xa), .second, .val (.long xb), .second, .val (.long ya), .second, .unset, .unset, .unset, .unset, .unset, .unset, .unset, .unset, .unset, .unset, .unset, .unset, .unset, .unset] [(.int (32 : Int32)), (.long q5)])) _
    refine XS.lushr X4.here hx rfl (hb hby at_102) rfl ?_
    show Steps p.tables e below (T4.setTop (mkF m 103 #[.val (.int p1), .val (.int p2), .val (.int p3), .val (.long q4), .second, .val (.long q5), .second, .val (.int pa), .val (.int pb), .val (.int va), .val (.int vb), .val (.int vc), .val (.int vd), .val (.int asp), .val (.int aep), .val (.int bsp), .val (.int bep), .val (.long xa), .second, .val (.long xb), .second, .val (.long ya), .second, .unset, .unset, .unset, .unset, .unset, .unset, .unset, .unset, .unset, .unset, .unset, .unset, .unset, .unset] [(.long ((q5.toUInt64 >>> ((32 : Int32) &&& 0x3f).toInt64.toUInt64).toInt64))])) _
    rw [← d_yb]
    show Steps p.tables e below (T4.setTop (mkF m 103 #[.val (.int p1), .val (.int p2), .val (.int p3), .val (.long q4), .second, .val (.long q5), .second, .val (.int pa), .val (.int pb), .val (.int va), .val (.int vb), .val (.int vc), .val (.int vd), .val (.int asp), .val (.int aep), .val (.int bsp), .val (.int bep), .val (.long xa), .second, .val (.long xb), .second, .val (.long ya), .second, .unset, .unset, .unset, .unset, .unset, .unset, .unset, .unset, .unset, .unset, .unset, .unset, .unset, .unset] [(.long yb)])) _
    refine XS.lstore X4.here hx rfl (hb hby at_103) rfl (l' := #[.val (.int p1), .val (.int p2), .val (.int p3), .val (.long q4), .second, .val (.long q5), .second, .val (.int pa), .val (.int pb), .val (.int va), .val (.int vb), .val (.int vc), .val (.int vd), .val (.int asp), .val (.int aep), .val (.int bsp), .val (.int bep), .val (.long xa), .second, .val (.long xb), .second, .val (.long ya), .second, .val (.long yb), .second, .unset, .unset, .unset, .unset, .unset, .unset, .unset, .unset, .unset, .unset, .unset, .unset]) rfl ?_
    show Steps p.tables e below (T4.setTop (mkF m 105 #[.val (.int p1), .val (.int p2), .val (.int p3), .val (.long q4), .second, .val (.long q5), .second, .val (.int pa), .val (.int pb), .val (.int va), .val (.int vb), .val (.int vc), .val (.int vd), .val (.int asp), .val (.int aep), .val (.int bsp), .val (.int bep), .val (.long xa), .second, .val (.long xb), .second, .val (.long ya), .second, .val (.long yb), .second, .unset, .unset, .unset, .unset, .unset, .unset, .unset, .unset, .unset, .unset, .unset, .unset] [])) _
    refine XS.lload X4.here hx rfl (hb hby at_105) rfl ?_
    show Steps p.tables e below (T4.setTop (mkF m 107 #[.val (.int p1), .val (.int p2), .val (.int p3), .val (.long q4), .second, .val (.long q5), .second, .val (.int pa), .val (.int pb), .val (.int va), .val (.int vb), .val (.int vc), .val (.int vd), .val (.int asp), .val (.int aep), .val (.int bsp), .val (.int bep), .val (.long xa), .second, .val (.long xb), .second, .val (.long ya), .second, .val (.long yb), .second, .unset, .unset, .unset, .unset, .unset, .unset, .unset, .unset, .unset, .unset, .unset, .unset] [(.long xa)])) _
    refine XS.lload X4.here hx rfl (hb hby at_107) rfl ?_
    show Steps p.tables e below (T4.setTop (mkF m 109 #[.val (.int p1), .val (.int p2), .val (.int p3), .val (.long q4), .second, .val (.long q5), .second, .val (.int pa), .val (.int pb), .val (.int va), .val (.int vb), .val (.int vc), .val (.int vd), .val (.int asp), .val (.int aep), .val (.int bsp), .val (.int bep), .val (.long xa), .second, .val (.long xb), .second, .val (.long ya), .second, .val (.long yb), .second, .unset, .unset, .unset, .unset, .unset, .unset, .unset, .unset, .unset, .unset, .unset, .unset] [(.long xb), (.long xa)])) _
    refine st5 _ ?_
    show Steps p.tables e below (T5.setTop (mkF m 112 #[.val (.int p1), .val (.int p2), .val (.int p3), .val (.long q4), .second, .val (.long q5), .second, .val (.int pa), .val (.int pb), .val (.int va), .val (.int vb), .val (.int vc), .val (.int vd), .val (.int asp), .val (.int aep), .val (.int bsp), .val (.int bep), .val (.long xa), .second, .val (.long xb), .second, .val (.long ya), .second, .val (.long yb), .second, .unset, .unset, .unset, .unset, .unset, .unset, .unset, .unset, .unset, .unset, .unset, .unset] [(.long asa)])) _
    refine XS.lstore X5.here hx rfl (hb hby at_112) rfl (l' := #[.val (.int p1), .val (.int p2), .val (.int p3), .val (.long q4), .second, .val (.long q5), .second, .val (.int pa), .val (.int pb), .val (.int va), .val (.int vb), .val (.int vc), .val (.int vd), .val (.int asp), .val (.int aep), .val (.int bsp), .val (.int bep), .val (.long xa), .second, .val (.long xb), .second, .val (.long ya), .second, .val (.long yb), .second, .val (.long asa), .second, .unset, .unset, .unset, .unset, .unset, .unset, .unset, .unset, .unset, .unset]) rfl ?_
    show Steps p.tables e below (T5.setTop (mkF m 114 #[.val (.int p1), .val (.int p2), .val (.int p3), .val (.long q4), .second, .val (.long q5), .second, .val (.int pa), .val (.int pb), .val (.int va), .val (.int vb), .val (.int vc), .val (.int vd), .val (.int asp), .val (.int aep), .val (.int bsp), .val (.int bep), .val (.long xa), .second, .val (.long xb), .second, .val (.long ya), .second, .val (.long yb), .second, .val (.long asa), .second, .unset, .unset, .unset, .unset, .unset, .unset, .unset, .unset, .unset, .unset] [])) _
    refine XS.lload X5.here hx rfl (hb hby at_114) rfl ?_
    show Steps p.tables e below (T5.setTop (mkF m 116 #[.val (.int p1), .val (.int p2), .val (.int p3), .val (.long q4), .second, .val (.long q5), .second, .val (.int pa), .val (.int pb), .val (.int va), .val (.int vb), .val (.int vc), .val (.int vd), .val (.int asp), .val (.int aep), .val (.int bsp), .val (.int bep), .val (.long xa), .second, .val (.long xb), .second, .val (.long ya), .second, .val (.long yb), .second, .val (.long asa), .second, .unset, .unset, .unset, .unset, .unset, .unset, .unset, .unset, .unset, .unset] [(.long xa)])) _
    refine XS.lload X5.here hx rfl (hb hby at_116) rfl ?_
    show Steps p.tables e below (T5.setTop (mkF m 118 #[.val (.int p1), .val (.int p2), .val (.int p3), .val (.long q4), .second, .val (.long q5), .second, .val (.int pa), .val (.int pb), .val (.int va), .val (.int vb), .val (.int vc), .val (.int vd), .val (.int asp), .val (.int aep), .val (.int bsp), .val (.int bep), .val (.long xa), .second, .val (.long xb), .second, .val (.long ya), .second, .val (.long yb), .second, .val (.long asa), .second, .unset, .unset, .unset, .unset, .unset, .unset, .unset, .unset, .unset, .unset] [(.long xb), (.long xa)])) _
    refine st6 _ ?_
    show Steps p.tables e below (T6.setTop (mkF m 121 #[.val (.int p1), .val (.int p2), .val (.int p3), .val (.long q4), .second, .val (.long q5), .second, .val (.int pa), .val (.int pb), .val (.int va), .val (.int vb), .val (.int vc), .val (.int vd), .val (.int asp), .val (.int aep), .val (.int bsp), .val (.int bep), .val (.long xa), .second, .val (.long xb), .second, .val (.long ya), .second, .val (.long yb), .second, .val (.long asa), .second, .unset, .unset, .unset, .unset, .unset, .unset, .unset, .unset, .unset, .unset] [(.long aea)])) _
    refine XS.lstore X6.here hx rfl (hb hby at_121) rfl (l' := #[.val (.int p1), .val (.int p2), .val (.int p3), .val (.long q4), .second, .val (.long q5), .second, .val (.int pa), .val (.int pb), .val (.int va), .val (.int vb), .val (.int vc), .val (.int vd), .val (.int asp), .val (.int aep), .val (.int bsp), .val (.int bep), .val (.long xa), .second, .val (.long xb), .second, .val (.long ya), .second, .val (.long yb), .second, .val (.long asa), .second, .val (.long aea), .second, .unset, .unset, .unset, .unset, .unset, .unset, .unset, .unset]) rfl ?_
    show Steps p.tables e below (T6.setTop (mkF m 123 #[.val (.int p1), .val (.int p2), .val (.int p3), .val (.long q4), .second, .val (.long q5), .second, .val (.int pa), .val (.int pb), .val (.int va), .val (.int vb), .val (.int vc), .val (.int vd), .val (.int asp), .val (.int aep), .val (.int bsp), .val (.int bep), .val (.long xa), .second, .val (.long xb), .second, .val (.long ya), .second, .val (.long yb), .second, .val (.long asa), .second, .val (.long aea), .second, .unset, .unset, .unset, .unset, .unset, .unset, .unset, .unset] [])) _
    refine XS.lload X6.here hx rfl (hb hby at_123) rfl ?_
    show Steps p.tables e below (T6.setTop (mkF m 125 #[.val (.int p1), .val (.int p2), .val (.int p3), .val (.long q4), .second, .val (.long q5), .second, .val (.int pa), .val (.int pb), .val (.int va), .val (.int vb), .val (.int vc), .val (.int vd), .val (.int asp), .val (.int aep), .val (.int bsp), .val (.int bep), .val (.long xa), .second, .val (.long xb), .second, .val (.long ya), .second, .val (.long yb), .second, .val (.long asa), .second, .val (.long aea), .second, .unset, .unset, .unset, .unset, .unset, .unset, .unset, .unset] [(.long ya)])) _
    refine XS.lload X6.here hx rfl (hb hby at_125) rfl ?_
    show Steps p.tables e below (T6.setTop (mkF m 127 #[.val (.int p1), .val (.int p2), .val (.int p3), .val (.long q4), .second, .val (.long q5), .second, .val (.int pa), .val (.int pb), .val (.int va), .val (.int vb), .val (.int vc), .val (.int vd), .val (.int asp), .val (.int aep), .val (.int bsp), .val (.int bep), .val (.long xa), .second, .val (.long xb), .second, .val (.long ya), .second, .val (.long yb), .second, .val (.long asa), .second, .val (.long aea), .second, .unset, .unset, .unset, .unset, .unset, .unset, .unset, .unset] [(.long yb), (.long ya)])) _
    refine st7 _ ?_
    show Steps p.tables e below (T7.setTop (mkF m 130 #[.val (.int p1), .val (.int p2), .val (.int p3), .val (.long q4), .second, .val (.long q5), .second, .val (.int pa), .val (.int pb), .val (.int va), .val (.int vb), .val (.int vc), .val (.int vd), .val (.int asp), .val (.int aep), .val (.int bsp), .val (.int bep), .val (.long xa), .second, .val (.long xb), .second, .val (.long ya), .second, .val (.long yb), .second, .val (.long asa), .second, .val (.long aea), .second, .unset, .unset, .unset, .unset, .unset, .unset, .unset, .unset] [(.long bsa)])) _
    refine XS.lstore X7.here hx rfl (hb hby at_130) rfl (l' := #[.val (.int p1), .val (.int p2), .val (.int p3), .val (.long q4), .second, .val (.long q5), .second, .val (.int pa), .val (.int pb), .val (.int va), .val (.int vb), .val (.int vc), .val (.int vd), .val (.int asp), .val (.int aep), .val (.int bsp), .val (.int bep), .val (.long xa), .second, .val (.long xb), .second, .val (.long ya), .second, .val (.long yb), .second, .val (.long asa), .second, .val (.long aea), .second, .val (.long bsa), .second, .unset, .unset, .unset, .unset, .unset, .unset]) rfl ?_
    show Steps p.tables e below (T7.setTop (mkF m 132 #[.val (.int p1), .val (.int p2), .val (.int p3), .val (.long q4), .second, .val (.long q5), .second, .val (.int pa), .val (.int pb), .val (.int va), .val (.int vb), .val (.int vc), .val (.int vd), .val (.int asp), .val (.int aep), .val (.int bsp), .val (.int bep), .val (.long xa), .second, .val (.long xb), .second, .val (.long ya), .second, .val (.long yb), .second, .val (.long asa), .second, .val (.long aea), .second, .val (.long bsa), .second, .unset, .unset, .unset, .unset, .unset, .unset] [])) _
    refine XS.lload X7.here hx rfl (hb hby at_132) rfl ?_
    show Steps p.tables e below (T7.setTop (mkF m 134 #[.val (.int p1), .val (.int p2), .val (.int p3), .val (.long q4), .second, .val (.long q5), .second, .val (.int pa), .val (.int pb), .val (.int va), .val (.int vb), .val (.int vc), .val (.int vd), .val (.int asp), .val (.int aep), .val (.int bsp), .val (.int bep), .val (.long xa), .second, .val (.long xb), .second, .val (.long ya), .second, .val (.long yb), .second, .val (.long asa), .second, .val (.long aea), .second, .val (.long bsa), .second, .unset, .unset, .unset, .unset, .unset, .unset] [(.long ya)])) _
    refine XS.lload X7.here hx rfl (hb hby at_134) rfl ?_
    show Steps p.tables e below (T7.setTop (mkF m 136 #[.val (.int p1), .val (.int p2), .val (.int p3), .val (.long q4), .second, .val (.long q5), .second, .val (.int pa), .val (.int pb), .val (.int va), .val (.int vb), .val (.int vc), .val (.int vd), .val (.int asp), .val (.int aep), .val (.int bsp), .val (.int bep), .val (.long xa), .second, .val (.long xb), .second, .val (.long ya), .second, .val (.long yb), .second, .val (.long asa), .second, .val (.long aea), .second, .val (.long bsa), .second, .unset, .unset, .unset, .unset, .unset, .unset] [(.long yb), (.long ya)])) _
    refine st8 _ ?_
    show Steps p.tables e below (T8.setTop (mkF m 139 #[.val (.int p1), .val (.int p2), .val (.int p3), .val (.long q4), .second, .val (.long q5), .second, .val (.int pa), .val (.int pb), .val (.int va), .val (.int vb), .val (.int vc), .val (.int vd), .val (.int asp), .val (.int aep), .val (.int bsp), .val (.int bep), .val (.long xa), .second, .val (.long xb), .second, .val (.long ya), .second, .val (.long yb), .second, .val (.long asa), .second, .val (.long aea), .second, .val (.long bsa), .second, .unset, .unset, .unset, .unset, .unset, .unset] [(.long bea)])) _
    refine XS.lstore X8.here hx rfl (hb hby at_139) rfl (l' := #[.val (.int p1), .val (.int p2), .val (.int p3), .val (.long q4), .second, .val (.long q5), .second, .val (.int pa), .val (.int pb), .val (.int va), .val (.int vb), .val (.int vc), .val (.int vd), .val (.int asp), .val (.int aep), .val (.int bsp), .val (.int bep), .val (.long xa), .second, .val (.long xb), .second, .val (.long ya), .second, .val (.long yb), .second, .val (.long asa), .second, .val (.long aea), .second, .val (.long bsa), .second, .val (.long bea), .second, .unset, .unset, .unset, .unset]) rfl ?_
    show Steps p.tables e below (T8.setTop (mkF m 141 #[.val (.int p1), .val (.int p2), .val (.int p3), .val (.long q4), .second, .val (.long q5), .second, .val (.int pa), .val (.int pb), .val (.int va), .val (.int vb), .val (.int vc), .val (.int vd), .val (.int asp), .val (.int aep), .val (.int bsp), .val (.int bep), .val (.long xa), .second, .val (.long xb), .second, .val (.long ya), .second, .val (.long yb), .second, .val (.long asa), .second, .val (.long aea), .second, .val (.long bsa), .second, .val (.long bea), .second, .unset, .unset, .unset, .unset] [])) _
    refine st9 _ ?_
    show Steps p.tables e below (T9.setTop (mkF m 144 #[.val (.int p1), .val (.int p2), .val (.int p3), .val (.long q4), .second, .val (.long q5), .second, .val (.int pa), .val (.int pb), .val (.int va), .val (.int vb), .val (.int vc), .val (.int vd), .val (.int asp), .val (.int aep), .val (.int bsp), .val (.int bep), .val (.long xa), .second, .val (.long xb), .second, .val (.long ya), .second, .val (.long yb), .second, .val (.long asa), .second, .val (.long aea), .second, .val (.long bsa), .second, .val (.long bea), .second, .unset, .unset, .unset, .unset] [(.ref b9)])) _
    refine XS.dup X9.here hx rfl (hb hby at_144) rfl rfl ?_
    show Steps p.tables e below (T9.setTop (mkF m 145 #[.val (.int p1), .val (.int p2), .val (.int p3), .val (.long q4), .second, .val (.long q5), .second, .val (.int pa), .val (.int pb), .val (.int va), .val (.int vb), .val (.int vc), .val (.int vd), .val (.int asp), .val (.int aep), .val (.int bsp), .val (.int bep), .val (.long xa), .second, .val (.long xb), .second, .val (.long ya), .second, .val (.long yb), .second, .val (.long asa), .second, .val (.long aea), .second, .val (.long bsa), .second, .val (.long bea), .second, .unset, .unset, .unset, .unset] [(.ref b9), (.ref b9)])) _
    refine XS.iload X9.here hx rfl (hb hby at_145) rfl ?_
    show Steps p.tables e below (T9.setTop (mkF m 147 #[.val (.int p1), .val (.int p2), .val (.int p3), .val (.long q4), .second, .val (.long q5), .second, .val (.int pa), .val (.int pb), .val (.int va), .val (.int vb), .val (.int vc), .val (.int vd), .val (.int asp), .val (.int aep), .val (.int bsp), .val (.int bep), .val (.long xa), .second, .val (.long xb), .second, .val (.long ya), .second, .val (.long yb), .second, .val (.long asa), .second, .val (.long aea), .second, .val (.long bsa), .second, .val (.long bea), .second, .unset, .unset, .unset, .unset] [(.int pa), (.ref b9), (.ref b9)])) _
    refine XS.iload X9.here hx rfl (hb hby at_147) rfl ?_
    show Steps p.tables e below (T9.setTop (mkF m 149 #[.val (.int p1), .val (.int p2), .val (.int p3), .val (.long q4), .second, .val (.long q5), .second, .val (.int pa), .val (.int pb), .val (.int va), .val (.int vb), .val (.int vc), .val (.int vd), .val (.int asp), .val (.int aep), .val (.int bsp), .val (.int bep), .val (.long xa), .second, .val (.long xb), .second, .val (.long ya), .second, .val (.long yb), .second, .val (.long asa), .second, .val (.long aea), .second, .val (.long bsa), .second, .val (.long bea), .second, .unset, .unset, .unset, .unset] [(.int asp), (.int pa), (.ref b9), (.ref b9)])) _
    refine XS.iload X9.here hx rfl (hb hby at_149) rfl ?_
    show Steps p.tables e below (T9.setTop (mkF m 151 #[.val (.int p1), .val (.int p2), .val (.int p3), .val (.long q4), .second, .val (.long q5), .second, .val (.int pa), .val (.int pb), .val (.int va), .val (.int vb), .val (.int vc), .val (.int vd), .val (.int asp), .val (.int aep), .val (.int bsp), .val (.int bep), .val (.long xa), .second, .val (.long xb), .second, .val (.long ya), .second, .val (.long yb), .second, .val (.long asa), .second, .val (.long aea), .second, .val (.long bsa), .second, .val (.long bea), .second, .unset, .unset, .unset, .unset] [(.int aep), (.int asp), (.int pa), (.ref b9), (.ref b9)])) _
    refine XS.lload X9.here hx rfl (hb hby at_151) rfl ?_
    show Steps p.tables e below (T9.setTop (mkF m 153 #[.val (.int p1), .val (.int p2), .val (.int p3), .val (.long q4), .second, .val (.long q5), .second, .val (.int pa), .val (.int pb), .val (.int va), .val (.int vb), .val (.int vc), .val (.int vd), .val (.int asp), .val (.int aep), .val (.int bsp), .val (.int bep), .val (.long xa), .second, .val (.long xb), .second, .val (.long ya), .second, .val (.long yb), .second, .val (.long asa), .second, .val (.long aea), .second, .val (.long bsa), .second, .val (.long bea), .second, .unset, .unset, .unset, .unset] [(.long asa), (.int aep), (.int asp), (.int pa), (.ref b9), (.ref b9)])) _
    refine XS.lload X9.here hx rfl (hb hby at_153) rfl ?_
    show Steps p.tables e below (T9.setTop (mkF m 155 #[.val (.int p1), .val (.int p2), .val (.int p3), .val (.long q4), .second, .val (.long q5), .second, .val (.int pa), .val (.int pb), .val (.int va), .val (.int vb), .val (.int vc), .val (.int vd), .val (.int asp), .val (.int aep), .val (.int bsp), .val (.int bep), .val (.long xa), .second, .val (.long xb), .second, .val (.long ya), .second, .val (.long yb), .second, .val (.long asa), .second, .val (.long aea), .second, .val (.long bsa), .second, .val (.long bea), .second, .unset, .unset, .unset, .unset] [(.long aea), (.long asa), (.int aep), (.int asp), (.int pa), (.ref b9), (.ref b9)])) _
    refine st10.trans ?_
    show Steps p.tables e below (T10.setTop (mkF m 158 #[.val (.int p1), .val (.int p2), .val (.int p3), .val (.long q4), .second, .val (.long q5), .second, .val (.int pa), .val (.int pb), .val (.int va), .val (.int vb), .val (.int vc), .val (.int vd), .val (.int asp), .val (.int aep), .val (.int bsp), .val (.int bep), .val (.long xa), .second, .val (.long xb), .second, .val (.long ya), .second, .val (.long yb), .second, .val (.long asa), .second, .val (.long aea), .second, .val (.long bsa), .second, .val (.long bea), .second, .unset, .unset, .unset, .unset] [(.ref b9)])) _
    refine XS.astore X10.here hx rfl (hb hby at_158) rfl rfl (l' := #[.val (.int p1), .val (.int p2), .val (.int p3), .val (.long q4), .second, .val (.long q5), .second, .val (.int pa), .val (.int pb), .val (.int va), .val (.int vb), .val (.int vc), .val (.int vd), .val (.int asp), .val (.int aep), .val (.int bsp), .val (.int bep), .val (.long xa), .second, .val (.long xb), .second, .val (.long ya), .second, .val (.long yb), .second, .val (.long asa), .second, .val (.long aea), .second, .val (.long bsa), .second, .val (.long bea), .second, .val (.ref b9), .unset, .unset, .unset]) rfl ?_
    show Steps p.tables e below (T10.setTop (mkF m 160 #[.val (.int p1), .val (.int p2), .val (.int p3), .val (.long q4), .second, .val (.long q5), .second, .val (.int pa), .val (.int pb), .val (.int va), .val (.int vb), .val (.int vc), .val (.int vd), .val (.int asp), .val (.int aep), .val (.int bsp), .val (.int bep), .val (.long xa), .second, .val (.long xb), .second, .val (.long ya), .second, .val (.long yb), .second, .val (.long asa), .second, .val (.long aea), .second, .val (.long bsa), .second, .val (.long bea), .second, .val (.ref b9), .unset, .unset, .unset] [])) _
    refine st11 _ ?_
    show Steps p.tables e below (T11.setTop (mkF m 163 #[.val (.int p1), .val (.int p2), .val (.int p3), .val (.long q4), .second, .val (.long q5), .second, .val (.int pa), .val (.int pb), .val (.int va), .val (.int vb), .val (.int vc), .val (.int vd), .val (.int asp), .val (.int aep), .val (.int bsp), .val (.int bep), .val (.long xa), .second, .val (.long xb), .second, .val (.long ya), .second, .val (.long yb), .second, .val (.long asa), .second, .val (.long aea), .second, .val (.long bsa), .second, .val (.long bea), .second, .val (.ref b9), .unset, .unset, .unset] [(.ref b11)])) _
    refine XS.dup X11.here hx rfl (hb hby at_163) rfl rfl ?_
    show Steps p.tables e below (T11.setTop (mkF m 164 #[.val (.int p1), .val (.int p2), .val (.int p3), .val (.long q4), .second, .val (.long q5), .second, .val (.int pa), .val (.int pb), .val (.int va), .val (.int vb), .val (.int vc), .val (.int vd), .val (.int asp), .val (.int aep), .val (.int bsp), .val (.int bep), .val (.long xa), .second, .val (.long xb), .second, .val (.long ya), .second, .val (.long yb), .second, .val (.long asa), .second, .val (.long aea), .second, .val (.long bsa), .second, .val (.long bea), .second, .val (.ref b9), .unset, .unset, .unset] [(.ref b11), (.ref b11)])) _
    refine XS.iload X11.here hx rfl (hb hby at_164) rfl ?_
    show Steps p.tables e below (T11.setTop (mkF m 166 #[.val (.int p1), .val (.int p2), .val (.int p3), .val (.long q4), .second, .val (.long q5), .second, .val (.int pa), .val (.int pb), .val (.int va), .val (.int vb), .val (.int vc), .val (.int vd), .val (.int asp), .val (.int aep), .val (.int bsp), .val (.int bep), .val (.long xa), .second, .val (.long xb), .second, .val (.long ya), .second, .val (.long yb), .second, .val (.long asa), .second, .val (.long aea), .second, .val (.long bsa), .second, .val (.long bea), .second, .val (.ref b9), .unset, .unset, .unset] [(.int pb), (.ref b11), (.ref b11)])) _
    refine XS.iload X11.here hx rfl (hb hby at_166) rfl ?_
    show Steps p.tables e below (T11.setTop (mkF m 168 #[.val (.int p1), .val (.int p2), .val (.int p3), .val (.long q4), .second, .val (.long q5), .second, .val (.int pa), .val (.int pb), .val (.int va), .val (.int vb), .val (.int vc), .val (.int vd), .val (.int asp), .val (.int aep), .val (.int bsp), .val (.int bep), .val (.long xa), .second, .val (.long xb), .second, .val (.long ya), .second, .val (.long yb), .second, .val (.long asa), .second, .val (.long aea), .second, .val (.long bsa), .second, .val (.long bea), .second, .val (.ref b9), .unset, .unset, .unset] [(.int bsp), (.int pb), (.ref b11), (.ref b11)])) _
    refine XS.iload X11.here hx rfl (hb hby at_168) rfl ?_
    show Steps p.tables e below (T11.setTop (mkF m 170 #[.val (.int p1), .val (.int p2), .val (.int p3), .val (.long q4), .second, .val (.long q5), .second, .val (.int pa), .val (.int pb), .val (.int va), .val (.int vb), .val (.int vc), .val (.int vd), .val (.int asp), .val (.int aep), .val (.int bsp), .val (.int bep), .val (.long xa), .second, .val (.long xb), .second, .val (.long ya), .second, .val (.long yb), .second, .val (.long asa), .second, .val (.long aea), .second, .val (.long bsa), .second, .val (.long bea), .second, .val (.ref b9), .unset, .unset, .unset] [(.int bep), (.int bsp), (.int pb), (.ref b11), (.ref b11)])) _
    refine XS.lload X11.here hx rfl (hb hby at_170) rfl ?_
    show Steps p.tables e below (T11.setTop (mkF m 172 #[.val (.int p1), .val (.int p2), .val (.int p3), .val (.long q4), .second, .val (.long q5), .second, .val (.int pa), .val (.int pb), .val (.int va), .val (.int vb), .val (.int vc), .val (.int vd), .val (.int asp), .val (.int aep), .val (.int bsp), .val (.int bep), .val (.long xa), .second, .val (.long xb), .second, .val (.long ya), .second, .val (.long yb), .second, .val (.long asa), .second, .val (.long aea), .second, .val (.long bsa), .second, .val (.long bea), .second, .val (.ref b9), .unset, .unset, .unset] [(.long bsa), (.int bep), (.int bsp), (.int pb), (.ref b11), (.ref b11)])) _
    refine XS.lload X11.here hx rfl (hb hby at_172) rfl ?_
    show Steps p.tables e below (T11.setTop (mkF m 174 #[.val (.int p1), .val (.int p2), .val (.int p3), .val (.long q4), .second, .val (.long q5), .second, .val (.int pa), .val (.int pb), .val (.int va), .val (.int vb), .val (.int vc), .val (.int vd), .val (.int asp), .val (.int aep), .val (.int bsp), .val (.int bep), .val (.long xa), .second, .val (.long xb), .second, .val (.long ya), .second, .val (.long yb), .second, .val (.long asa), .second, .val (.long aea), .second, .val (.long bsa), .second, .val (.long bea), .second, .val (.ref b9), .unset, .unset, .unset] [(.long bea), (.long bsa), (.int bep), (.int bsp), (.int pb), (.ref b11), (.ref b11)])) _
    refine st12.trans ?_
    show Steps p.tables e below (T12.setTop (mkF m 177 #[.val (.int p1), .val (.int p2), .val (.int p3), .val (.long q4), .second, .val (.long q5), .second, .val (.int pa), .val (.int pb), .val (.int va), .val (.int vb), .val (.int vc), .val (.int vd), .val (.int asp), .val (.int aep), .val (.int bsp), .val (.int bep), .val (.long xa), .second, .val (.long xb), .second, .val (.long ya), .second, .val (.long yb), .second, .val (.long asa), .second, .val (.long aea), .second, .val (.long bsa), .second, .val (.long bea), .second, .val (.ref b9), .unset, .unset, .unset] [(.ref b11)])) _
    refine XS.astore X12.here hx rfl (hb hby at_177) rfl rfl (l' := #[.val (.int p1), .val (.int p2), .val (.int p3), .val (.long q4), .second, .val (.long q5), .second, .val (.int pa), .val (.int pb), .val (.int va), .val (.int vb), .val (.int vc), .val (.int vd), .val (.int asp), .val (.int aep), .val (.int bsp), .val (.int bep), .val (.long xa), .second, .val (.long xb), .second, .val (.long ya), .second, .val (.long yb), .second, .val (.long asa), .second, .val (.long aea), .second, .val (.long bsa), .second, .val (.long bea), .second, .val (.ref b9), .val (.ref b11), .unset, .unset]) rfl ?_
    show Steps p.tables e below (T12.setTop (mkF m 179 #[.val (.int p1), .val (.int p2), .val (.int p3), .val (.long q4), .second, .val (.long q5), .second, .val (.int pa), .val (.int pb), .val (.int va), .val (.int vb), .val (.int vc), .val (.int vd), .val (.int asp), .val (.int aep), .val (.int bsp), .val (.int bep), .val (.long xa), .second, .val (.long xb), .second, .val (.long ya), .second, .val (.long yb), .second, .val (.long asa), .second, .val (.long aea), .second, .val (.long bsa), .second, .val (.long bea), .second, .val (.ref b9), .val (.ref b11), .unset, .unset] [])) _
    refine XS.iload X12.here hx rfl (hb hby at_179) rfl ?_
    show Steps p.tables e below (T12.setTop (mkF m 181 #[.val (.int p1), .val (.int p2), .val (.int p3), .val (.long q4), .second, .val (.long q5), .second, .val (.int pa), .val (.int pb), .val (.int va), .val (.int vb), .val (.int vc), .val (.int vd), .val (.int asp), .val (.int aep), .val (.int bsp), .val (.int bep), .val (.long xa), .second, .val (.long xb), .second, .val (.long ya), .second, .val (.long yb), .second, .val (.long asa), .second, .val (.long aea), .second, .val (.long bsa), .second, .val (.long bea), .second, .val (.ref b9), .val (.ref b11), .unset, .unset] [(.int pa)])) _
    refine j13 _ ?_
    show Steps p.tables e below (T12.setTop (mkF m 200 #[.val (.int p1), .val (.int p2), .val (.int p3), .val (.long q4), .second, .val (.long q5), .second, .val (.int pa), .val (.int pb), .val (.int va), .val (.int vb), .val (.int vc), .val (.int vd), .val (.int asp), .val (.int aep), .val (.int bsp), .val (.int bep), .val (.long xa), .second, .val (.long xb), .second, .val (.long ya), .second, .val (.long yb), .second, .val (.long asa), .second, .val (.long aea), .second, .val (.long bsa), .second, .val (.long bea), .second, .val (.ref b9), .val (.ref b11), .unset, .unset] [(.int qv)])) _
    refine XS.istore X12.here hx rfl (hb hby at_200) rfl (l' := #[.val (.int p1), .val (.int p2), .val (.int p3), .val (.long q4), .second, .val (.long q5), .second, .val (.int pa), .val (.int pb), .val (.int va), .val (.int vb), .val (.int vc), .val (.int vd), .val (.int asp), .val (.int aep), .val (.int bsp), .val (.int bep), .val (.long xa), .second, .val (.long xb), .second, .val (.long ya), .second, .val (.long yb), .second, .val (.long asa), .second, .val (.long aea), .second, .val (.long bsa), .second, .val (.long bea), .second, .val (.ref b9), .val (.ref b11), .val (.int qv), .unset]) rfl ?_
    show Steps p.tables e below (T12.setTop (mkF m 202 #[.val (.int p1), .val (.int p2), .val (.int p3), .val (.long q4), .second, .val (.long q5), .second, .val (.int pa), .val (.int pb), .val (.int va), .val (.int vb), .val (.int vc), .val (.int vd), .val (.int asp), .val (.int aep), .val (.int bsp), .val (.int bep), .val (.long xa), .second, .val (.long xb), .second, .val (.long ya), .second, .val (.long yb), .second, .val (.long asa), .second, .val (.long aea), .second, .val (.long bsa), .second, .val (.long bea), .second, .val (.ref b9), .val (.ref b11), .val (.int qv), .unset] [])) _
    refine XS.iload X12.here hx rfl (hb hby at_202) rfl ?_
    show Steps p.tables e below (T12.setTop (mkF m 204 #[.val (.int p1), .val (.int p2), .val (.int p3), .val (.long q4), .second, .val (.long q5), .second, .val (.int pa), .val (.int pb), .val (.int va), .val (.int vb), .val (.int vc), .val (.int vd), .val (.int asp), .val (.int aep), .val (.int bsp), .val (.int bep), .val (.long xa), .second, .val (.long xb), .second, .val (.long ya), .second, .val (.long yb), .second, .val (.long asa), .second, .val (.long aea), .second, .val (.long bsa), .second, .val (.long bea), .second, .val (.ref b9), .val (.ref b11), .val (.int qv), .unset] [(.int pb)])) _
    refine XS.iload X12.here hx rfl (hb hby at_204) rfl ?_
    show Steps p.tables e below (T12.setTop (mkF m 206 #[.val (.int p1), .val (.int p2), .val (.int p3), .val (.long q4), .second, .val (.long q5), .second, .val (.int pa), .val (.int pb), .val (.int va), .val (.int vb), .val (.int vc), .val (.int vd), .val (.int asp), .val (.int aep), .val (.int bsp), .val (.int bep), .val (.long xa), .second, .val (.long xb), .second, .val (.long ya), .second, .val (.long yb), .second, .val (.long asa), .second, .val (.long aea), .second, .val (.long bsa), .second, .val (.long bea), .second, .val (.ref b9), .val (.ref b11), .val (.int qv), .unset] [(.int bsp), (.int pb)])) _
    refine XS.iload X12.here hx rfl (hb hby at_206) rfl ?_
    show Steps p.tables e below (T12.setTop (mkF m 208 #[.val (.int p1), .val (.int p2), .val (.int p3), .val (.long q4), .second, .val (.long q5), .second, .val (.int pa), .val (.int pb), .val (.int va), .val (.int vb), .val (.int vc), .val (.int vd), .val (.int asp), .val (.int aep), .val (.int bsp), .val (.int bep), .val (.long xa), .second, .val (.long xb), .second, .val (.long ya), .second, .val (.long yb), .second, .val (.long asa), .second, .val (.long aea), .second, .val (.long bsa), .second, .val (.long bea), .second, .val (.ref b9), .val (.ref b11), .val (.int qv), .unset] [(.int bep), (.int bsp), (.int pb)])) _
    refine XS.lload X12.here hx rfl (hb hby at_208) rfl ?_
    show Steps p.tables e below (T12.setTop (mkF m 210 #[.val (.int p1), .val (.int p2), .val (.int p3), .val (.long q4), .second, .val (.long q5), .second, .val (.int pa), .val (.int pb), .val (.int va), .val (.int vb), .val (.int vc), .val (.int vd), .val (.int asp), .val (.int aep), .val (.int bsp), .val (.int bep), .val (.long xa), .second, .val (.long xb), .second, .val (.long ya), .second, .val (.long yb), .second, .val (.long asa), .second, .val (.long aea), .second, .val (.long bsa), .second, .val (.long bea), .second, .val (.ref b9), .val (.ref b11), .val (.int qv), .unset] [(.long bsa), (.int bep), (.int bsp), (.int pb)])) _
    refine XS.lload X12.here hx rfl (hb hby at_210) rfl ?_
    show Steps p.tables e below (T12.setTop (mkF m 212 #[.val (.int p1), .val (.int p2), .val (.int p3), .val (.long q4), .second, .val (.long q5), .second, .val (.int pa), .val (.int pb), .val (.int va), .val (.int vb), .val (.int vc), .val (.int vd), .val (.int asp), .val (.int aep), .val (.int bsp), .val (.int bep), .val (.long xa), .second, .val (.long xb), .second, .val (.long ya), .second, .val (.long yb), .second, .val (.long asa), .second, .val (.long aea), .second, .val (.long bsa), .second, .val (.long bea), .second, .val (.ref b9), .val (.ref b11), .val (.int qv), .unset] [(.long bea), (.long bsa), (.int bep), (.int bsp), (.int pb)])) _
    refine XS.iload X12.here hx rfl (hb hby at_212) rfl ?_
    show Steps p.tables e below (T12.setTop (mkF m 214 #[.val (.int p1), .val (.int p2), .val (.int p3), .val (.long q4), .second, .val (.long q5), .second, .val (.int pa), .val (.int pb), .val (.int va), .val (.int vb), .val (.int vc), .val (.int vd), .val (.int asp), .val (.int aep), .val (.int bsp), .val (.int bep), .val (.long xa), .second, .val (.long xb), .second, .val (.long ya), .second, .val (.long yb), .second, .val (.long asa), .second, .val (.long aea), .second, .val (.long bsa), .second, .val (.long bea), .second, .val (.ref b9), .val (.ref b11), .val (.int qv), .unset] [(.int qv), (.long bea), (.long bsa), (.int bep), (.int bsp), (.int pb)])) _
    refine XS.iload X12.here hx rfl (hb hby at_214) rfl ?_
    show Steps p.tables e below (T12.setTop (mkF m 216 #[.val (.int p1), .val (.int p2), .val (.int p3), .val (.long q4), .second, .val (.long q5), .second, .val (.int pa), .val (.int pb), .val (.int va), .val (.int vb), .val (.int vc), .val (.int vd), .val (.int asp), .val (.int aep), .val (.int bsp), .val (.int bep), .val (.long xa), .second, .val (.long xb), .second, .val (.long ya), .second, .val (.long yb), .second, .val (.long asa), .second, .val (.long aea), .second, .val (.long bsa), .second, .val (.long bea), .second, .val (.ref b9), .val (.ref b11), .val (.int qv), .unset] [(.int asp), (.int qv), (.long bea), (.long bsa), (.int bep), (.int bsp), (.int pb)])) _
    refine XS.lload X12.here hx rfl (hb hby at_216) rfl ?_
    show Steps p.tables e below (T12.setTop (mkF m 218 #[.val (.int p1), .val (.int p2), .val (.int p3), .val (.long q4), .second, .val (.long q5), .second, .val (.int pa), .val (.int pb), .val (.int va), .val (.int vb), .val (.int vc), .val (.int vd), .val (.int asp), .val (.int aep), .val (.int bsp), .val (.int bep), .val (.long xa), .second, .val (.long xb), .second, .val (.long ya), .second, .val (.long yb), .second, .val (.long asa), .second, .val (.long aea), .second, .val (.long bsa), .second, .val (.long bea), .second, .val (.ref b9), .val (.ref b11), .val (.int qv), .unset] [(.long asa), (.int asp), (.int qv), (.long bea), (.long bsa), (.int bep), (.int bsp), (.int pb)])) _
    refine st14 _ ?_
    exact k
  by_cases hc221 : ta = (0 : Int32)
  · obtain ⟨cq15, kq15, q15a, q15b, q15c⟩ := isOf hZ e14 E_b9
    obtain ⟨_, _, ⟨T15, L15, k15, n15⟩, -, X15, ⟨Lc15, hQ15, l15, y15, z15⟩, st15⟩ := X14.virtualBack hx (y := (⟨"com/example/meticulous_audit/meticulousaudit/ike/TrafficSelector", "within", "(Lcom/example/meticulous_audit/meticulousaudit/ike/TrafficSelector;)Z"⟩ : MethodName)) (z := (⟨"com/example/meticulous_audit/meticulousaudit/ike/TrafficSelector", "within", "(Lcom/example/meticulous_audit/meticulousaudit/ike/TrafficSelector;)Z"⟩ : MethodName)) hown (mvT hZ (hw _ (List.mem_of_getElem? (i := 45) rfl))) (mvT hZ (hw _ (List.mem_of_getElem? (i := 46) rfl))) (notFace_of_selects (args := #[]) (mvT hZ (hw _ (List.mem_of_getElem? (i := 48) rfl)))) (mvT hZ (hw _ (List.mem_of_getElem? (i := 48) rfl))) (mvT hZ (hw _ (List.mem_of_getElem? (i := 47) rfl))) (by decide) (backOf (W := 0) (rm9 l Z a0 hw [] b9 b11 pa asp aep asa aea pb bsp bep bsa bea T12.heap n0 Z0 F_b9_protocol F_b9_startPort F_b9_endPort F_b9_startAddress F_b9_endAddress F_b11_protocol F_b11_startPort F_b11_endPort F_b11_startAddress F_b11_endAddress) hZ (hw _ (List.mem_of_getElem? (i := 49) rfl)) (hw _ (List.mem_of_getElem? (i := 17) rfl)) (by decide) (by decide)) q15a q15c (g := (mkF m 257 #[.val (.int p1), .val (.int p2), .val (.int p3), .val (.long q4), .second, .val (.long q5), .second, .val (.int pa), .val (.int pb), .val (.int va), .val (.int vb), .val (.int vc), .val (.int vd), .val (.int asp), .val (.int aep), .val (.int bsp), .val (.int bep), .val (.long xa), .second, .val (.long xb), .second, .val (.long ya), .second, .val (.long yb), .second, .val (.long asa), .second, .val (.long aea), .second, .val (.long bsa), .second, .val (.long bea), .second, .val (.ref b9), .val (.ref b11), .val (.int qv), .val (.int (0 : Int32))] [(.ref b11), (.ref b9)])) rfl (by rw [hml]; rfl) (Steps.refl _) (argsL := [(.ref b11)]) (rest := []) (lenOf pd_5 rfl) rfl (by show 2 * 0 + _ ≤ _; exact Nat.le_of_eq rfl) (hb hby at_257) (fun _ _ => ⟨rfl, e14, (by decide : 2 + 0 ≤ _), (by decide : 10 + 0 ≤ _)⟩)
    dsimp only [Pt.U, Pt.locs, Pt.cells, Pt.slots] at X15 l15 y15 z15 st15 hQ15
    subst l15 y15 z15
    obtain ⟨got, rfl, d_got, N15q, e15⟩ := hQ15
    have N15 := Fr.app N14 N15q
    have hc262 : got = (0 : Int32) := by first | exact (own_one d_got).2.2.1 ((own_core pa pb qv asp aep bsp bep asa aea bsa bea d_qv RA.2.1 RAL.2.1).mpr ⟨(own_one d_ta).2.1 hc221, (own_one d_tb).2.1 hc243⟩) | exact (own_one d_got).2.2.2 (fun z => (own_one d_tb).1 hc243 ((own_core pa pb qv asp aep bsp bep asa aea bsa bea d_qv RA.2.1 RAL.2.1).mp z).2) | exact (own_one d_got).2.2.2 (fun z => (own_one d_ta).1 hc221 ((own_core pa pb qv asp aep bsp bep asa aea bsa bea d_qv RA.2.1 RAL.2.1).mp z).1)
    obtain ⟨fs, hr, hrun, hended, hW, hsame⟩ := X15.leave (v := some (.int (1 : Int32))) (fun h => by rw [Bd.returns] at h; cases h)
    refine ⟨_, _, ?_, hrun, hended, _, _, rfl, ?_, ⟨_, rfl⟩, hW, hsame.mono (by decide) (by decide)⟩
    · show Steps p.tables e below (T14.setTop (mkF m 221 #[.val (.int p1), .val (.int p2), .val (.int p3), .val (.long q4), .second, .val (.long q5), .second, .val (.int pa), .val (.int pb), .val (.int va), .val (.int vb), .val (.int vc), .val (.int vd), .val (.int asp), .val (.int aep), .val (.int bsp), .val (.int bep), .val (.long xa), .second, .val (.long xb), .second, .val (.long ya), .second, .val (.long yb), .second, .val (.long asa), .second, .val (.long aea), .second, .val (.long bsa), .second, .val (.long bea), .second, .val (.ref b9), .val (.ref b11), .val (.int qv), .unset] [(.int ta)])) _
      refine XS.ifYes X14.here hx rfl (pc0 := 221) (pc' := 250) rfl (hb hby at_221) rfl ((if0 _ _).trans (teq hc221).1) (by decide) (by decide) ?_
      show Steps p.tables e below (T14.setTop (mkF m 250 #[.val (.int p1), .val (.int p2), .val (.int p3), .val (.long q4), .second, .val (.long q5), .second, .val (.int pa), .val (.int pb), .val (.int va), .val (.int vb), .val (.int vc), .val (.int vd), .val (.int asp), .val (.int aep), .val (.int bsp), .val (.int bep), .val (.long xa), .second, .val (.long xb), .second, .val (.long ya), .second, .val (.long yb), .second, .val (.long asa), .second, .val (.long aea), .second, .val (.long bsa), .second, .val (.long bea), .second, .val (.ref b9), .val (.ref b11), .val (.int qv), .unset] [])) _
      refine XS.iconst X14.here hx rfl (hb hby at_250) ?_
      show Steps p.tables e below (T14.setTop (mkF m 251 #[.val (.int p1), .val (.int p2), .val (.int p3), .val (.long q4), .second, .val (.long q5), .second, .val (.int pa), .val (.int pb), .val (.int va), .val (.int vb), .val (.int vc), .val (.int vd), .val (.int asp), .val (.int aep), .val (.int bsp), .val (.int bep), .val (.long xa), .second, .val (.long xb), .second, .val (.long ya), .second, .val (.long yb), .second, .val (.long asa), .second, .val (.long aea), .second, .val (.long bsa), .second, .val (.long bea), .second, .val (.ref b9), .val (.ref b11), .val (.int qv), .unset] [(.int (0 : Int32))])) _
      refine XS.istore X14.here hx rfl (hb hby at_251) rfl (l' := #[.val (.int p1), .val (.int p2), .val (.int p3), .val (.long q4), .second, .val (.long q5), .second, .val (.int pa), .val (.int pb), .val (.int va), .val (.int vb), .val (.int vc), .val (.int vd), .val (.int asp), .val (.int aep), .val (.int bsp), .val (.int bep), .val (.long xa), .second, .val (.long xb), .second, .val (.long ya), .second, .val (.long yb), .second, .val (.long asa), .second, .val (.long aea), .second, .val (.long bsa), .second, .val (.long bea), .second, .val (.ref b9), .val (.ref b11), .val (.int qv), .val (.int (0 : Int32))]) rfl ?_
      show Steps p.tables e below (T14.setTop (mkF m 253 #[.val (.int p1), .val (.int p2), .val (.int p3), .val (.long q4), .second, .val (.long q5), .second, .val (.int pa), .val (.int pb), .val (.int va), .val (.int vb), .val (.int vc), .val (.int vd), .val (.int asp), .val (.int aep), .val (.int bsp), .val (.int bep), .val (.long xa), .second, .val (.long xb), .second, .val (.long ya), .second, .val (.long yb), .second, .val (.long asa), .second, .val (.long aea), .second, .val (.long bsa), .second, .val (.long bea), .second, .val (.ref b9), .val (.ref b11), .val (.int qv), .val (.int (0 : Int32))] [])) _
      refine XS.aload X14.here hx rfl (hb hby at_253) rfl rfl ?_
      show Steps p.tables e below (T14.setTop (mkF m 255 #[.val (.int p1), .val (.int p2), .val (.int p3), .val (.long q4), .second, .val (.long q5), .second, .val (.int pa), .val (.int pb), .val (.int va), .val (.int vb), .val (.int vc), .val (.int vd), .val (.int asp), .val (.int aep), .val (.int bsp), .val (.int bep), .val (.long xa), .second, .val (.long xb), .second, .val (.long ya), .second, .val (.long yb), .second, .val (.long asa), .second, .val (.long aea), .second, .val (.long bsa), .second, .val (.long bea), .second, .val (.ref b9), .val (.ref b11), .val (.int qv), .val (.int (0 : Int32))] [(.ref b9)])) _
      refine XS.aload X14.here hx rfl (hb hby at_255) rfl rfl ?_
      show Steps p.tables e below (T14.setTop (mkF m 257 #[.val (.int p1), .val (.int p2), .val (.int p3), .val (.long q4), .second, .val (.long q5), .second, .val (.int pa), .val (.int pb), .val (.int va), .val (.int vb), .val (.int vc), .val (.int vd), .val (.int asp), .val (.int aep), .val (.int bsp), .val (.int bep), .val (.long xa), .second, .val (.long xb), .second, .val (.long ya), .second, .val (.long yb), .second, .val (.long asa), .second, .val (.long aea), .second, .val (.long bsa), .second, .val (.long bea), .second, .val (.ref b9), .val (.ref b11), .val (.int qv), .val (.int (0 : Int32))] [(.ref b11), (.ref b9)])) _
      refine st15.trans ?_
      show Steps p.tables e below (T15.setTop (mkF m 260 #[.val (.int p1), .val (.int p2), .val (.int p3), .val (.long q4), .second, .val (.long q5), .second, .val (.int pa), .val (.int pb), .val (.int va), .val (.int vb), .val (.int vc), .val (.int vd), .val (.int asp), .val (.int aep), .val (.int bsp), .val (.int bep), .val (.long xa), .second, .val (.long xb), .second, .val (.long ya), .second, .val (.long yb), .second, .val (.long asa), .second, .val (.long aea), .second, .val (.long bsa), .second, .val (.long bea), .second, .val (.ref b9), .val (.ref b11), .val (.int qv), .val (.int (0 : Int32))] [(.int got)])) _
      refine XS.iload X15.here hx rfl (hb hby at_260) rfl ?_
      show Steps p.tables e below (T15.setTop (mkF m 262 #[.val (.int p1), .val (.int p2), .val (.int p3), .val (.long q4), .second, .val (.long q5), .second, .val (.int pa), .val (.int pb), .val (.int va), .val (.int vb), .val (.int vc), .val (.int vd), .val (.int asp), .val (.int aep), .val (.int bsp), .val (.int bep), .val (.long xa), .second, .val (.long xb), .second, .val (.long ya), .second, .val (.long yb), .second, .val (.long asa), .second, .val (.long aea), .second, .val (.long bsa), .second, .val (.long bea), .second, .val (.ref b9), .val (.ref b11), .val (.int qv), .val (.int (0 : Int32))] [(.int (0 : Int32)), (.int got)])) _
      refine XS.icmpNo X15.here hx rfl (hb hby at_262) rfl (teq hc262).2 ?_
      show Steps p.tables e below (T15.setTop (mkF m 265 #[.val (.int p1), .val (.int p2), .val (.int p3), .val (.long q4), .second, .val (.long q5), .second, .val (.int pa), .val (.int pb), .val (.int va), .val (.int vb), .val (.int vc), .val (.int vd), .val (.int asp), .val (.int aep), .val (.int bsp), .val (.int bep), .val (.long xa), .second, .val (.long xb), .second, .val (.long ya), .second, .val (.long yb), .second, .val (.long asa), .second, .val (.long aea), .second, .val (.long bsa), .second, .val (.long bea), .second, .val (.ref b9), .val (.ref b11), .val (.int qv), .val (.int (0 : Int32))] [])) _
      refine XS.iconst X15.here hx rfl (hb hby at_265) ?_
      show Steps p.tables e below (T15.setTop (mkF m 266 #[.val (.int p1), .val (.int p2), .val (.int p3), .val (.long q4), .second, .val (.long q5), .second, .val (.int pa), .val (.int pb), .val (.int va), .val (.int vb), .val (.int vc), .val (.int vd), .val (.int asp), .val (.int aep), .val (.int bsp), .val (.int bep), .val (.long xa), .second, .val (.long xb), .second, .val (.long ya), .second, .val (.long yb), .second, .val (.long asa), .second, .val (.long aea), .second, .val (.long bsa), .second, .val (.long bea), .second, .val (.ref b9), .val (.ref b11), .val (.int qv), .val (.int (0 : Int32))] [(.int (1 : Int32))])) _
      refine XS.goto X15.here hx rfl (pc0 := 266) (pc' := 270) rfl (hb hby at_266) (by decide) (by decide) ?_
      show Steps p.tables e below (T15.setTop (mkF m 270 #[.val (.int p1), .val (.int p2), .val (.int p3), .val (.long q4), .second, .val (.long q5), .second, .val (.int pa), .val (.int pb), .val (.int va), .val (.int vb), .val (.int vc), .val (.int vd), .val (.int asp), .val (.int aep), .val (.int bsp), .val (.int bep), .val (.long xa), .second, .val (.long xb), .second, .val (.long ya), .second, .val (.long yb), .second, .val (.long asa), .second, .val (.long aea), .second, .val (.long bsa), .second, .val (.long bea), .second, .val (.ref b9), .val (.ref b11), .val (.int qv), .val (.int (0 : Int32))] [(.int (1 : Int32))])) _
      exact retN X15 hx (t := .boolean) Bd.returns (by simp) (hb hby at_270) hr
    · show Q0 Z p1 p2 p3 q4 q5 h0 n0 _ T15.heap _
      rw [e15]
      exact ⟨rfl, N15⟩
  · obtain ⟨_, _, ⟨T16, L16, k16, n16⟩, -, X16, ⟨Lc16, hQ16, l16, y16, z16⟩, st16⟩ := Jvm.LawKit.callS X14 hx (y := (⟨"com/example/meticulous_audit/meticulousaudit/ike/TrafficSelectorWithinPinLaw", "takes", "(IIIJJIIJ)Z"⟩ : MethodName)) hown (mvT hZ (hw _ (List.mem_of_getElem? (i := 41) rfl))) (mvT hZ (hw _ (List.mem_of_getElem? (i := 42) rfl))) (mvT hZ (hw _ (List.mem_of_getElem? (i := 43) rfl))) (mvT hZ (hw _ (List.mem_of_getElem? (i := 44) rfl))) (by decide) (backOf (W := 0) (rm8 l Z a0 hw [] pb bsp bep bsa bea qv aep aea T12.heap n0 Z0 ) hZ (hw _ (List.mem_of_getElem? (i := 44) rfl)) (hw _ (List.mem_of_getElem? (i := 43) rfl)) (by decide) (by decide)) (g := (mkF m 240 #[.val (.int p1), .val (.int p2), .val (.int p3), .val (.long q4), .second, .val (.long q5), .second, .val (.int pa), .val (.int pb), .val (.int va), .val (.int vb), .val (.int vc), .val (.int vd), .val (.int asp), .val (.int aep), .val (.int bsp), .val (.int bep), .val (.long xa), .second, .val (.long xb), .second, .val (.long ya), .second, .val (.long yb), .second, .val (.long asa), .second, .val (.long aea), .second, .val (.long bsa), .second, .val (.long bea), .second, .val (.ref b9), .val (.ref b11), .val (.int qv), .unset] [(.long aea), (.int aep), (.int qv), (.long bea), (.long bsa), (.int bep), (.int bsp), (.int pb)])) rfl (by rw [hml]; rfl) (argsL := [(.int pb), (.int bsp), (.int bep), (.long bsa), (.long bea), (.int qv), (.int aep), (.long aea)]) (rest := []) (lenOf pd_4 rfl) rfl (by show 2 * 0 + _ ≤ _; exact Nat.le_of_eq rfl) (hb hby at_240) (fun _ _ => ⟨rfl, e14, (by decide : 2 + 0 ≤ _), (by decide : 10 + 0 ≤ _)⟩)
    dsimp only [Pt.U, Pt.locs, Pt.cells, Pt.slots] at X16 l16 y16 z16 st16 hQ16
    subst l16 y16 z16
    obtain ⟨tb, rfl, d_tb, N16q, e16⟩ := hQ16
    have N16 := Fr.app N14 N16q
    refine own_go (S' := fun t => Steps p.tables e below (T16.setTop (mkF m 243 #[.val (.int p1), .val (.int p2), .val (.int p3), .val (.long q4), .second, .val (.long q5), .second, .val (.int pa), .val (.int pb), .val (.int va), .val (.int vb), .val (.int vc), .val (.int vd), .val (.int asp), .val (.int aep), .val (.int bsp), .val (.int bep), .val (.long xa), .second, .val (.long xb), .second, .val (.long ya), .second, .val (.long yb), .second, .val (.long asa), .second, .val (.long aea), .second, .val (.long bsa), .second, .val (.long bea), .second, .val (.ref b9), .val (.ref b11), .val (.int qv), .unset] [(.int tb)])) t) (fun t k => ?_) ?_
    · show Steps p.tables e below (T14.setTop (mkF m 221 #[.val (.int p1), .val (.int p2), .val (.int p3), .val (.long q4), .second, .val (.long q5), .second, .val (.int pa), .val (.int pb), .val (.int va), .val (.int vb), .val (.int vc), .val (.int vd), .val (.int asp), .val (.int aep), .val (.int bsp), .val (.int bep), .val (.long xa), .second, .val (.long xb), .second, .val (.long ya), .second, .val (.long yb), .second, .val (.long asa), .second, .val (.long aea), .second, .val (.long bsa), .second, .val (.long bea), .second, .val (.ref b9), .val (.ref b11), .val (.int qv), .unset] [(.int ta)])) _
      refine XS.ifNo X14.here hx rfl (hb hby at_221) rfl ((if0 _ _).trans (feq hc221).1) ?_
      show Steps p.tables e below (T14.setTop (mkF m 224 #[.val (.int p1), .val (.int p2), .val (.int p3), .val (.long q4), .second, .val (.long q5), .second, .val (.int pa), .val (.int pb), .val (.int va), .val (.int vb), .val (.int vc), .val (.int vd), .val (.int asp), .val (.int aep), .val (.int bsp), .val (.int bep), .val (.long xa), .second, .val (.long xb), .second, .val (.long ya), .second, .val (.long yb), .second, .val (.long asa), .second, .val (.long aea), .second, .val (.long bsa), .second, .val (.long bea), .second, .val (.ref b9), .val (.ref b11), .val (.int qv), .unset] [])) _
      refine XS.iload X14.here hx rfl (hb hby at_224) rfl ?_
      show Steps p.tables e below (T14.setTop (mkF m 226 #[.val (.int p1), .val (.int p2), .val (.int p3), .val (.long q4), .second, .val (.long q5), .second, .val (.int pa), .val (.int pb), .val (.int va), .val (.int vb), .val (.int vc), .val (.int vd), .val (.int asp), .val (.int aep), .val (.int bsp), .val (.int bep), .val (.long xa), .second, .val (.long xb), .second, .val (.long ya), .second, .val (.long yb), .second, .val (.long asa), .second, .val (.long aea), .second, .val (.long bsa), .second, .val (.long bea), .second, .val (.ref b9), .val (.ref b11), .val (.int qv), .unset] [(.int pb)])) _
      refine XS.iload X14.here hx rfl (hb hby at_226) rfl ?_
      show Steps p.tables e below (T14.setTop (mkF m 228 #[.val (.int p1), .val (.int p2), .val (.int p3), .val (.long q4), .second, .val (.long q5), .second, .val (.int pa), .val (.int pb), .val (.int va), .val (.int vb), .val (.int vc), .val (.int vd), .val (.int asp), .val (.int aep), .val (.int bsp), .val (.int bep), .val (.long xa), .second, .val (.long xb), .second, .val (.long ya), .second, .val (.long yb), .second, .val (.long asa), .second, .val (.long aea), .second, .val (.long bsa), .second, .val (.long bea), .second, .val (.ref b9), .val (.ref b11), .val (.int qv), .unset] [(.int bsp), (.int pb)])) _
      refine XS.iload X14.here hx rfl (hb hby at_228) rfl ?_
      show Steps p.tables e below (T14.setTop (mkF m 230 #[.val (.int p1), .val (.int p2), .val (.int p3), .val (.long q4), .second, .val (.long q5), .second, .val (.int pa), .val (.int pb), .val (.int va), .val (.int vb), .val (.int vc), .val (.int vd), .val (.int asp), .val (.int aep), .val (.int bsp), .val (.int bep), .val (.long xa), .second, .val (.long xb), .second, .val (.long ya), .second, .val (.long yb), .second, .val (.long asa), .second, .val (.long aea), .second, .val (.long bsa), .second, .val (.long bea), .second, .val (.ref b9), .val (.ref b11), .val (.int qv), .unset] [(.int bep), (.int bsp), (.int pb)])) _
      refine XS.lload X14.here hx rfl (hb hby at_230) rfl ?_
      show Steps p.tables e below (T14.setTop (mkF m 232 #[.val (.int p1), .val (.int p2), .val (.int p3), .val (.long q4), .second, .val (.long q5), .second, .val (.int pa), .val (.int pb), .val (.int va), .val (.int vb), .val (.int vc), .val (.int vd), .val (.int asp), .val (.int aep), .val (.int bsp), .val (.int bep), .val (.long xa), .second, .val (.long xb), .second, .val (.long ya), .second, .val (.long yb), .second, .val (.long asa), .second, .val (.long aea), .second, .val (.long bsa), .second, .val (.long bea), .second, .val (.ref b9), .val (.ref b11), .val (.int qv), .unset] [(.long bsa), (.int bep), (.int bsp), (.int pb)])) _
      refine XS.lload X14.here hx rfl (hb hby at_232) rfl ?_
      show Steps p.tables e below (T14.setTop (mkF m 234 #[.val (.int p1), .val (.int p2), .val (.int p3), .val (.long q4), .second, .val (.long q5), .second, .val (.int pa), .val (.int pb), .val (.int va), .val (.int vb), .val (.int vc), .val (.int vd), .val (.int asp), .val (.int aep), .val (.int bsp), .val (.int bep), .val (.long xa), .second, .val (.long xb), .second, .val (.long ya), .second, .val (.long yb), .second, .val (.long asa), .second, .val (.long aea), .second, .val (.long bsa), .second, .val (.long bea), .second, .val (.ref b9), .val (.ref b11), .val (.int qv), .unset] [(.long bea), (.long bsa), (.int bep), (.int bsp), (.int pb)])) _
      refine XS.iload X14.here hx rfl (hb hby at_234) rfl ?_
      show Steps p.tables e below (T14.setTop (mkF m 236 #[.val (.int p1), .val (.int p2), .val (.int p3), .val (.long q4), .second, .val (.long q5), .second, .val (.int pa), .val (.int pb), .val (.int va), .val (.int vb), .val (.int vc), .val (.int vd), .val (.int asp), .val (.int aep), .val (.int bsp), .val (.int bep), .val (.long xa), .second, .val (.long xb), .second, .val (.long ya), .second, .val (.long yb), .second, .val (.long asa), .second, .val (.long aea), .second, .val (.long bsa), .second, .val (.long bea), .second, .val (.ref b9), .val (.ref b11), .val (.int qv), .unset] [(.int qv), (.long bea), (.long bsa), (.int bep), (.int bsp), (.int pb)])) _
      refine XS.iload X14.here hx rfl (hb hby at_236) rfl ?_
      show Steps p.tables e below (T14.setTop (mkF m 238 #[.val (.int p1), .val (.int p2), .val (.int p3), .val (.long q4), .second, .val (.long q5), .second, .val (.int pa), .val (.int pb), .val (.int va), .val (.int vb), .val (.int vc), .val (.int vd), .val (.int asp), .val (.int aep), .val (.int bsp), .val (.int bep), .val (.long xa), .second, .val (.long xb), .second, .val (.long ya), .second, .val (.long yb), .second, .val (.long asa), .second, .val (.long aea), .second, .val (.long bsa), .second, .val (.long bea), .second, .val (.ref b9), .val (.ref b11), .val (.int qv), .unset] [(.int aep), (.int qv), (.long bea), (.long bsa), (.int bep), (.int bsp), (.int pb)])) _
      refine XS.lload X14.here hx rfl (hb hby at_238) rfl ?_
      show Steps p.tables e below (T14.setTop (mkF m 240 #[.val (.int p1), .val (.int p2), .val (.int p3), .val (.long q4), .second, .val (.long q5), .second, .val (.int pa), .val (.int pb), .val (.int va), .val (.int vb), .val (.int vc), .val (.int vd), .val (.int asp), .val (.int aep), .val (.int bsp), .val (.int bep), .val (.long xa), .second, .val (.long xb), .second, .val (.long ya), .second, .val (.long yb), .second, .val (.long asa), .second, .val (.long aea), .second, .val (.long bsa), .second, .val (.long bea), .second, .val (.ref b9), .val (.ref b11), .val (.int qv), .unset] [(.long aea), (.int aep), (.int qv), (.long bea), (.long bsa), (.int bep), (.int bsp), (.int pb)])) _
      refine st16 _ ?_
      exact k
    by_cases hc243 : tb = (0 : Int32)
    · obtain ⟨cq17, kq17, q17a, q17b, q17c⟩ := isOf hZ e16 E_b9
      obtain ⟨_, _, ⟨T17, L17, k17, n17⟩, -, X17, ⟨Lc17, hQ17, l17, y17, z17⟩, st17⟩ := X16.virtualBack hx (y := (⟨"com/example/meticulous_audit/meticulousaudit/ike/TrafficSelector", "within", "(Lcom/example/meticulous_audit/meticulousaudit/ike/TrafficSelector;)Z"⟩ : MethodName)) (z := (⟨"com/example/meticulous_audit/meticulousaudit/ike/TrafficSelector", "within", "(Lcom/example/meticulous_audit/meticulousaudit/ike/TrafficSelector;)Z"⟩ : MethodName)) hown (mvT hZ (hw _ (List.mem_of_getElem? (i := 45) rfl))) (mvT hZ (hw _ (List.mem_of_getElem? (i := 46) rfl))) (notFace_of_selects (args := #[]) (mvT hZ (hw _ (List.mem_of_getElem? (i := 48) rfl)))) (mvT hZ (hw _ (List.mem_of_getElem? (i := 48) rfl))) (mvT hZ (hw _ (List.mem_of_getElem? (i := 47) rfl))) (by decide) (backOf (W := 0) (rm9 l Z a0 hw [] b9 b11 pa asp aep asa aea pb bsp bep bsa bea T12.heap n0 Z0 F_b9_protocol F_b9_startPort F_b9_endPort F_b9_startAddress F_b9_endAddress F_b11_protocol F_b11_startPort F_b11_endPort F_b11_startAddress F_b11_endAddress) hZ (hw _ (List.mem_of_getElem? (i := 49) rfl)) (hw _ (List.mem_of_getElem? (i := 17) rfl)) (by decide) (by decide)) q17a q17c (g := (mkF m 257 #[.val (.int p1), .val (.int p2), .val (.int p3), .val (.long q4), .second, .val (.long q5), .second, .val (.int pa), .val (.int pb), .val (.int va), .val (.int vb), .val (.int vc), .val (.int vd), .val (.int asp), .val (.int aep), .val (.int bsp), .val (.int bep), .val (.long xa), .second, .val (.long xb), .second, .val (.long ya), .second, .val (.long yb), .second, .val (.long asa), .second, .val (.long aea), .second, .val (.long bsa), .second, .val (.long bea), .second, .val (.ref b9), .val (.ref b11), .val (.int qv), .val (.int (0 : Int32))] [(.ref b11), (.ref b9)])) rfl (by rw [hml]; rfl) (Steps.refl _) (argsL := [(.ref b11)]) (rest := []) (lenOf pd_5 rfl) rfl (by show 2 * 0 + _ ≤ _; exact Nat.le_of_eq rfl) (hb hby at_257) (fun _ _ => ⟨rfl, e16, (by decide : 2 + 0 ≤ _), (by decide : 10 + 0 ≤ _)⟩)
      dsimp only [Pt.U, Pt.locs, Pt.cells, Pt.slots] at X17 l17 y17 z17 st17 hQ17
      subst l17 y17 z17
      obtain ⟨got, rfl, d_got, N17q, e17⟩ := hQ17
      have N17 := Fr.app N16 N17q
      have hc262 : got = (0 : Int32) := by first | exact (own_one d_got).2.2.1 ((own_core pa pb qv asp aep bsp bep asa aea bsa bea d_qv RA.2.1 RAL.2.1).mpr ⟨(own_one d_ta).2.1 hc221, (own_one d_tb).2.1 hc243⟩) | exact (own_one d_got).2.2.2 (fun z => (own_one d_tb).1 hc243 ((own_core pa pb qv asp aep bsp bep asa aea bsa bea d_qv RA.2.1 RAL.2.1).mp z).2) | exact (own_one d_got).2.2.2 (fun z => (own_one d_ta).1 hc221 ((own_core pa pb qv asp aep bsp bep asa aea bsa bea d_qv RA.2.1 RAL.2.1).mp z).1)
      obtain ⟨fs, hr, hrun, hended, hW, hsame⟩ := X17.leave (v := some (.int (1 : Int32))) (fun h => by rw [Bd.returns] at h; cases h)
      refine ⟨_, _, ?_, hrun, hended, _, _, rfl, ?_, ⟨_, rfl⟩, hW, hsame.mono (by decide) (by decide)⟩
      · show Steps p.tables e below (T16.setTop (mkF m 243 #[.val (.int p1), .val (.int p2), .val (.int p3), .val (.long q4), .second, .val (.long q5), .second, .val (.int pa), .val (.int pb), .val (.int va), .val (.int vb), .val (.int vc), .val (.int vd), .val (.int asp), .val (.int aep), .val (.int bsp), .val (.int bep), .val (.long xa), .second, .val (.long xb), .second, .val (.long ya), .second, .val (.long yb), .second, .val (.long asa), .second, .val (.long aea), .second, .val (.long bsa), .second, .val (.long bea), .second, .val (.ref b9), .val (.ref b11), .val (.int qv), .unset] [(.int tb)])) _
        refine XS.ifYes X16.here hx rfl (pc0 := 243) (pc' := 250) rfl (hb hby at_243) rfl ((if0 _ _).trans (teq hc243).1) (by decide) (by decide) ?_
        show Steps p.tables e below (T16.setTop (mkF m 250 #[.val (.int p1), .val (.int p2), .val (.int p3), .val (.long q4), .second, .val (.long q5), .second, .val (.int pa), .val (.int pb), .val (.int va), .val (.int vb), .val (.int vc), .val (.int vd), .val (.int asp), .val (.int aep), .val (.int bsp), .val (.int bep), .val (.long xa), .second, .val (.long xb), .second, .val (.long ya), .second, .val (.long yb), .second, .val (.long asa), .second, .val (.long aea), .second, .val (.long bsa), .second, .val (.long bea), .second, .val (.ref b9), .val (.ref b11), .val (.int qv), .unset] [])) _
        refine XS.iconst X16.here hx rfl (hb hby at_250) ?_
        show Steps p.tables e below (T16.setTop (mkF m 251 #[.val (.int p1), .val (.int p2), .val (.int p3), .val (.long q4), .second, .val (.long q5), .second, .val (.int pa), .val (.int pb), .val (.int va), .val (.int vb), .val (.int vc), .val (.int vd), .val (.int asp), .val (.int aep), .val (.int bsp), .val (.int bep), .val (.long xa), .second, .val (.long xb), .second, .val (.long ya), .second, .val (.long yb), .second, .val (.long asa), .second, .val (.long aea), .second, .val (.long bsa), .second, .val (.long bea), .second, .val (.ref b9), .val (.ref b11), .val (.int qv), .unset] [(.int (0 : Int32))])) _
        refine XS.istore X16.here hx rfl (hb hby at_251) rfl (l' := #[.val (.int p1), .val (.int p2), .val (.int p3), .val (.long q4), .second, .val (.long q5), .second, .val (.int pa), .val (.int pb), .val (.int va), .val (.int vb), .val (.int vc), .val (.int vd), .val (.int asp), .val (.int aep), .val (.int bsp), .val (.int bep), .val (.long xa), .second, .val (.long xb), .second, .val (.long ya), .second, .val (.long yb), .second, .val (.long asa), .second, .val (.long aea), .second, .val (.long bsa), .second, .val (.long bea), .second, .val (.ref b9), .val (.ref b11), .val (.int qv), .val (.int (0 : Int32))]) rfl ?_
        show Steps p.tables e below (T16.setTop (mkF m 253 #[.val (.int p1), .val (.int p2), .val (.int p3), .val (.long q4), .second, .val (.long q5), .second, .val (.int pa), .val (.int pb), .val (.int va), .val (.int vb), .val (.int vc), .val (.int vd), .val (.int asp), .val (.int aep), .val (.int bsp), .val (.int bep), .val (.long xa), .second, .val (.long xb), .second, .val (.long ya), .second, .val (.long yb), .second, .val (.long asa), .second, .val (.long aea), .second, .val (.long bsa), .second, .val (.long bea), .second, .val (.ref b9), .val (.ref b11), .val (.int qv), .val (.int (0 : Int32))] [])) _
        refine XS.aload X16.here hx rfl (hb hby at_253) rfl rfl ?_
        show Steps p.tables e below (T16.setTop (mkF m 255 #[.val (.int p1), .val (.int p2), .val (.int p3), .val (.long q4), .second, .val (.long q5), .second, .val (.int pa), .val (.int pb), .val (.int va), .val (.int vb), .val (.int vc), .val (.int vd), .val (.int asp), .val (.int aep), .val (.int bsp), .val (.int bep), .val (.long xa), .second, .val (.long xb), .second, .val (.long ya), .second, .val (.long yb), .second, .val (.long asa), .second, .val (.long aea), .second, .val (.long bsa), .second, .val (.long bea), .second, .val (.ref b9), .val (.ref b11), .val (.int qv), .val (.int (0 : Int32))] [(.ref b9)])) _
        refine XS.aload X16.here hx rfl (hb hby at_255) rfl rfl ?_
        show Steps p.tables e below (T16.setTop (mkF m 257 #[.val (.int p1), .val (.int p2), .val (.int p3), .val (.long q4), .second, .val (.long q5), .second, .val (.int pa), .val (.int pb), .val (.int va), .val (.int vb), .val (.int vc), .val (.int vd), .val (.int asp), .val (.int aep), .val (.int bsp), .val (.int bep), .val (.long xa), .second, .val (.long xb), .second, .val (.long ya), .second, .val (.long yb), .second, .val (.long asa), .second, .val (.long aea), .second, .val (.long bsa), .second, .val (.long bea), .second, .val (.ref b9), .val (.ref b11), .val (.int qv), .val (.int (0 : Int32))] [(.ref b11), (.ref b9)])) _
        refine st17.trans ?_
        show Steps p.tables e below (T17.setTop (mkF m 260 #[.val (.int p1), .val (.int p2), .val (.int p3), .val (.long q4), .second, .val (.long q5), .second, .val (.int pa), .val (.int pb), .val (.int va), .val (.int vb), .val (.int vc), .val (.int vd), .val (.int asp), .val (.int aep), .val (.int bsp), .val (.int bep), .val (.long xa), .second, .val (.long xb), .second, .val (.long ya), .second, .val (.long yb), .second, .val (.long asa), .second, .val (.long aea), .second, .val (.long bsa), .second, .val (.long bea), .second, .val (.ref b9), .val (.ref b11), .val (.int qv), .val (.int (0 : Int32))] [(.int got)])) _
        refine XS.iload X17.here hx rfl (hb hby at_260) rfl ?_
        show Steps p.tables e below (T17.setTop (mkF m 262 #[.val (.int p1), .val (.int p2), .val (.int p3), .val (.long q4), .second, .val (.long q5), .second, .val (.int pa), .val (.int pb), .val (.int va), .val (.int vb), .val (.int vc), .val (.int vd), .val (.int asp), .val (.int aep), .val (.int bsp), .val (.int bep), .val (.long xa), .second, .val (.long xb), .second, .val (.long ya), .second, .val (.long yb), .second, .val (.long asa), .second, .val (.long aea), .second, .val (.long bsa), .second, .val (.long bea), .second, .val (.ref b9), .val (.ref b11), .val (.int qv), .val (.int (0 : Int32))] [(.int (0 : Int32)), (.int got)])) _
        refine XS.icmpNo X17.here hx rfl (hb hby at_262) rfl (teq hc262).2 ?_
        show Steps p.tables e below (T17.setTop (mkF m 265 #[.val (.int p1), .val (.int p2), .val (.int p3), .val (.long q4), .second, .val (.long q5), .second, .val (.int pa), .val (.int pb), .val (.int va), .val (.int vb), .val (.int vc), .val (.int vd), .val (.int asp), .val (.int aep), .val (.int bsp), .val (.int bep), .val (.long xa), .second, .val (.long xb), .second, .val (.long ya), .second, .val (.long yb), .second, .val (.long asa), .second, .val (.long aea), .second, .val (.long bsa), .second, .val (.long bea), .second, .val (.ref b9), .val (.ref b11), .val (.int qv), .val (.int (0 : Int32))] [])) _
        refine XS.iconst X17.here hx rfl (hb hby at_265) ?_
        show Steps p.tables e below (T17.setTop (mkF m 266 #[.val (.int p1), .val (.int p2), .val (.int p3), .val (.long q4), .second, .val (.long q5), .second, .val (.int pa), .val (.int pb), .val (.int va), .val (.int vb), .val (.int vc), .val (.int vd), .val (.int asp), .val (.int aep), .val (.int bsp), .val (.int bep), .val (.long xa), .second, .val (.long xb), .second, .val (.long ya), .second, .val (.long yb), .second, .val (.long asa), .second, .val (.long aea), .second, .val (.long bsa), .second, .val (.long bea), .second, .val (.ref b9), .val (.ref b11), .val (.int qv), .val (.int (0 : Int32))] [(.int (1 : Int32))])) _
        refine XS.goto X17.here hx rfl (pc0 := 266) (pc' := 270) rfl (hb hby at_266) (by decide) (by decide) ?_
        show Steps p.tables e below (T17.setTop (mkF m 270 #[.val (.int p1), .val (.int p2), .val (.int p3), .val (.long q4), .second, .val (.long q5), .second, .val (.int pa), .val (.int pb), .val (.int va), .val (.int vb), .val (.int vc), .val (.int vd), .val (.int asp), .val (.int aep), .val (.int bsp), .val (.int bep), .val (.long xa), .second, .val (.long xb), .second, .val (.long ya), .second, .val (.long yb), .second, .val (.long asa), .second, .val (.long aea), .second, .val (.long bsa), .second, .val (.long bea), .second, .val (.ref b9), .val (.ref b11), .val (.int qv), .val (.int (0 : Int32))] [(.int (1 : Int32))])) _
        exact retN X17 hx (t := .boolean) Bd.returns (by simp) (hb hby at_270) hr
      · show Q0 Z p1 p2 p3 q4 q5 h0 n0 _ T17.heap _
        rw [e17]
        exact ⟨rfl, N17⟩
    · obtain ⟨cq18, kq18, q18a, q18b, q18c⟩ := isOf hZ e16 E_b9
      obtain ⟨_, _, ⟨T18, L18, k18, n18⟩, -, X18, ⟨Lc18, hQ18, l18, y18, z18⟩, st18⟩ := X16.virtualBack hx (y := (⟨"com/example/meticulous_audit/meticulousaudit/ike/TrafficSelector", "within", "(Lcom/example/meticulous_audit/meticulousaudit/ike/TrafficSelector;)Z"⟩ : MethodName)) (z := (⟨"com/example/meticulous_audit/meticulousaudit/ike/TrafficSelector", "within", "(Lcom/example/meticulous_audit/meticulousaudit/ike/TrafficSelector;)Z"⟩ : MethodName)) hown (mvT hZ (hw _ (List.mem_of_getElem? (i := 45) rfl))) (mvT hZ (hw _ (List.mem_of_getElem? (i := 46) rfl))) (notFace_of_selects (args := #[]) (mvT hZ (hw _ (List.mem_of_getElem? (i := 48) rfl)))) (mvT hZ (hw _ (List.mem_of_getElem? (i := 48) rfl))) (mvT hZ (hw _ (List.mem_of_getElem? (i := 47) rfl))) (by decide) (backOf (W := 0) (rm9 l Z a0 hw [] b9 b11 pa asp aep asa aea pb bsp bep bsa bea T12.heap n0 Z0 F_b9_protocol F_b9_startPort F_b9_endPort F_b9_startAddress F_b9_endAddress F_b11_protocol F_b11_startPort F_b11_endPort F_b11_startAddress F_b11_endAddress) hZ (hw _ (List.mem_of_getElem? (i := 49) rfl)) (hw _ (List.mem_of_getElem? (i := 17) rfl)) (by decide) (by decide)) q18a q18c (g := (mkF m 257 #[.val (.int p1), .val (.int p2), .val (.int p3), .val (.long q4), .second, .val (.long q5), .second, .val (.int pa), .val (.int pb), .val (.int va), .val (.int vb), .val (.int vc), .val (.int vd), .val (.int asp), .val (.int aep), .val (.int bsp), .val (.int bep), .val (.long xa), .second, .val (.long xb), .second, .val (.long ya), .second, .val (.long yb), .second, .val (.long asa), .second, .val (.long aea), .second, .val (.long bsa), .second, .val (.long bea), .second, .val (.ref b9), .val (.ref b11), .val (.int qv), .val (.int (1 : Int32))] [(.ref b11), (.ref b9)])) rfl (by rw [hml]; rfl) (Steps.refl _) (argsL := [(.ref b11)]) (rest := []) (lenOf pd_5 rfl) rfl (by show 2 * 0 + _ ≤ _; exact Nat.le_of_eq rfl) (hb hby at_257) (fun _ _ => ⟨rfl, e16, (by decide : 2 + 0 ≤ _), (by decide : 10 + 0 ≤ _)⟩)
      dsimp only [Pt.U, Pt.locs, Pt.cells, Pt.slots] at X18 l18 y18 z18 st18 hQ18
      subst l18 y18 z18
      obtain ⟨got, rfl, d_got, N18q, e18⟩ := hQ18
      have N18 := Fr.app N16 N18q
      have hc262 : got = (1 : Int32) := by first | exact (own_one d_got).2.2.1 ((own_core pa pb qv asp aep bsp bep asa aea bsa bea d_qv RA.2.1 RAL.2.1).mpr ⟨(own_one d_ta).2.1 hc221, (own_one d_tb).2.1 hc243⟩) | exact (own_one d_got).2.2.2 (fun z => (own_one d_tb).1 hc243 ((own_core pa pb qv asp aep bsp bep asa aea bsa bea d_qv RA.2.1 RAL.2.1).mp z).2) | exact (own_one d_got).2.2.2 (fun z => (own_one d_ta).1 hc221 ((own_core pa pb qv asp aep bsp bep asa aea bsa bea d_qv RA.2.1 RAL.2.1).mp z).1)
      obtain ⟨fs, hr, hrun, hended, hW, hsame⟩ := X18.leave (v := some (.int (1 : Int32))) (fun h => by rw [Bd.returns] at h; cases h)
      refine ⟨_, _, ?_, hrun, hended, _, _, rfl, ?_, ⟨_, rfl⟩, hW, hsame.mono (by decide) (by decide)⟩
      · show Steps p.tables e below (T16.setTop (mkF m 243 #[.val (.int p1), .val (.int p2), .val (.int p3), .val (.long q4), .second, .val (.long q5), .second, .val (.int pa), .val (.int pb), .val (.int va), .val (.int vb), .val (.int vc), .val (.int vd), .val (.int asp), .val (.int aep), .val (.int bsp), .val (.int bep), .val (.long xa), .second, .val (.long xb), .second, .val (.long ya), .second, .val (.long yb), .second, .val (.long asa), .second, .val (.long aea), .second, .val (.long bsa), .second, .val (.long bea), .second, .val (.ref b9), .val (.ref b11), .val (.int qv), .unset] [(.int tb)])) _
        refine XS.ifNo X16.here hx rfl (hb hby at_243) rfl ((if0 _ _).trans (feq hc243).1) ?_
        show Steps p.tables e below (T16.setTop (mkF m 246 #[.val (.int p1), .val (.int p2), .val (.int p3), .val (.long q4), .second, .val (.long q5), .second, .val (.int pa), .val (.int pb), .val (.int va), .val (.int vb), .val (.int vc), .val (.int vd), .val (.int asp), .val (.int aep), .val (.int bsp), .val (.int bep), .val (.long xa), .second, .val (.long xb), .second, .val (.long ya), .second, .val (.long yb), .second, .val (.long asa), .second, .val (.long aea), .second, .val (.long bsa), .second, .val (.long bea), .second, .val (.ref b9), .val (.ref b11), .val (.int qv), .unset] [])) _
        refine XS.iconst X16.here hx rfl (hb hby at_246) ?_
        show Steps p.tables e below (T16.setTop (mkF m 247 #[.val (.int p1), .val (.int p2), .val (.int p3), .val (.long q4), .second, .val (.long q5), .second, .val (.int pa), .val (.int pb), .val (.int va), .val (.int vb), .val (.int vc), .val (.int vd), .val (.int asp), .val (.int aep), .val (.int bsp), .val (.int bep), .val (.long xa), .second, .val (.long xb), .second, .val (.long ya), .second, .val (.long yb), .second, .val (.long asa), .second, .val (.long aea), .second, .val (.long bsa), .second, .val (.long bea), .second, .val (.ref b9), .val (.ref b11), .val (.int qv), .unset] [(.int (1 : Int32))])) _
        refine XS.goto X16.here hx rfl (pc0 := 247) (pc' := 251) rfl (hb hby at_247) (by decide) (by decide) ?_
        show Steps p.tables e below (T16.setTop (mkF m 251 #[.val (.int p1), .val (.int p2), .val (.int p3), .val (.long q4), .second, .val (.long q5), .second, .val (.int pa), .val (.int pb), .val (.int va), .val (.int vb), .val (.int vc), .val (.int vd), .val (.int asp), .val (.int aep), .val (.int bsp), .val (.int bep), .val (.long xa), .second, .val (.long xb), .second, .val (.long ya), .second, .val (.long yb), .second, .val (.long asa), .second, .val (.long aea), .second, .val (.long bsa), .second, .val (.long bea), .second, .val (.ref b9), .val (.ref b11), .val (.int qv), .unset] [(.int (1 : Int32))])) _
        refine XS.istore X16.here hx rfl (hb hby at_251) rfl (l' := #[.val (.int p1), .val (.int p2), .val (.int p3), .val (.long q4), .second, .val (.long q5), .second, .val (.int pa), .val (.int pb), .val (.int va), .val (.int vb), .val (.int vc), .val (.int vd), .val (.int asp), .val (.int aep), .val (.int bsp), .val (.int bep), .val (.long xa), .second, .val (.long xb), .second, .val (.long ya), .second, .val (.long yb), .second, .val (.long asa), .second, .val (.long aea), .second, .val (.long bsa), .second, .val (.long bea), .second, .val (.ref b9), .val (.ref b11), .val (.int qv), .val (.int (1 : Int32))]) rfl ?_
        show Steps p.tables e below (T16.setTop (mkF m 253 #[.val (.int p1), .val (.int p2), .val (.int p3), .val (.long q4), .second, .val (.long q5), .second, .val (.int pa), .val (.int pb), .val (.int va), .val (.int vb), .val (.int vc), .val (.int vd), .val (.int asp), .val (.int aep), .val (.int bsp), .val (.int bep), .val (.long xa), .second, .val (.long xb), .second, .val (.long ya), .second, .val (.long yb), .second, .val (.long asa), .second, .val (.long aea), .second, .val (.long bsa), .second, .val (.long bea), .second, .val (.ref b9), .val (.ref b11), .val (.int qv), .val (.int (1 : Int32))] [])) _
        refine XS.aload X16.here hx rfl (hb hby at_253) rfl rfl ?_
        show Steps p.tables e below (T16.setTop (mkF m 255 #[.val (.int p1), .val (.int p2), .val (.int p3), .val (.long q4), .second, .val (.long q5), .second, .val (.int pa), .val (.int pb), .val (.int va), .val (.int vb), .val (.int vc), .val (.int vd), .val (.int asp), .val (.int aep), .val (.int bsp), .val (.int bep), .val (.long xa), .second, .val (.long xb), .second, .val (.long ya), .second, .val (.long yb), .second, .val (.long asa), .second, .val (.long aea), .second, .val (.long bsa), .second, .val (.long bea), .second, .val (.ref b9), .val (.ref b11), .val (.int qv), .val (.int (1 : Int32))] [(.ref b9)])) _
        refine XS.aload X16.here hx rfl (hb hby at_255) rfl rfl ?_
        show Steps p.tables e below (T16.setTop (mkF m 257 #[.val (.int p1), .val (.int p2), .val (.int p3), .val (.long q4), .second, .val (.long q5), .second, .val (.int pa), .val (.int pb), .val (.int va), .val (.int vb), .val (.int vc), .val (.int vd), .val (.int asp), .val (.int aep), .val (.int bsp), .val (.int bep), .val (.long xa), .second, .val (.long xb), .second, .val (.long ya), .second, .val (.long yb), .second, .val (.long asa), .second, .val (.long aea), .second, .val (.long bsa), .second, .val (.long bea), .second, .val (.ref b9), .val (.ref b11), .val (.int qv), .val (.int (1 : Int32))] [(.ref b11), (.ref b9)])) _
        refine st18.trans ?_
        show Steps p.tables e below (T18.setTop (mkF m 260 #[.val (.int p1), .val (.int p2), .val (.int p3), .val (.long q4), .second, .val (.long q5), .second, .val (.int pa), .val (.int pb), .val (.int va), .val (.int vb), .val (.int vc), .val (.int vd), .val (.int asp), .val (.int aep), .val (.int bsp), .val (.int bep), .val (.long xa), .second, .val (.long xb), .second, .val (.long ya), .second, .val (.long yb), .second, .val (.long asa), .second, .val (.long aea), .second, .val (.long bsa), .second, .val (.long bea), .second, .val (.ref b9), .val (.ref b11), .val (.int qv), .val (.int (1 : Int32))] [(.int got)])) _
        refine XS.iload X18.here hx rfl (hb hby at_260) rfl ?_
        show Steps p.tables e below (T18.setTop (mkF m 262 #[.val (.int p1), .val (.int p2), .val (.int p3), .val (.long q4), .second, .val (.long q5), .second, .val (.int pa), .val (.int pb), .val (.int va), .val (.int vb), .val (.int vc), .val (.int vd), .val (.int asp), .val (.int aep), .val (.int bsp), .val (.int bep), .val (.long xa), .second, .val (.long xb), .second, .val (.long ya), .second, .val (.long yb), .second, .val (.long asa), .second, .val (.long aea), .second, .val (.long bsa), .second, .val (.long bea), .second, .val (.ref b9), .val (.ref b11), .val (.int qv), .val (.int (1 : Int32))] [(.int (1 : Int32)), (.int got)])) _
        refine XS.icmpNo X18.here hx rfl (hb hby at_262) rfl (teq hc262).2 ?_
        show Steps p.tables e below (T18.setTop (mkF m 265 #[.val (.int p1), .val (.int p2), .val (.int p3), .val (.long q4), .second, .val (.long q5), .second, .val (.int pa), .val (.int pb), .val (.int va), .val (.int vb), .val (.int vc), .val (.int vd), .val (.int asp), .val (.int aep), .val (.int bsp), .val (.int bep), .val (.long xa), .second, .val (.long xb), .second, .val (.long ya), .second, .val (.long yb), .second, .val (.long asa), .second, .val (.long aea), .second, .val (.long bsa), .second, .val (.long bea), .second, .val (.ref b9), .val (.ref b11), .val (.int qv), .val (.int (1 : Int32))] [])) _
        refine XS.iconst X18.here hx rfl (hb hby at_265) ?_
        show Steps p.tables e below (T18.setTop (mkF m 266 #[.val (.int p1), .val (.int p2), .val (.int p3), .val (.long q4), .second, .val (.long q5), .second, .val (.int pa), .val (.int pb), .val (.int va), .val (.int vb), .val (.int vc), .val (.int vd), .val (.int asp), .val (.int aep), .val (.int bsp), .val (.int bep), .val (.long xa), .second, .val (.long xb), .second, .val (.long ya), .second, .val (.long yb), .second, .val (.long asa), .second, .val (.long aea), .second, .val (.long bsa), .second, .val (.long bea), .second, .val (.ref b9), .val (.ref b11), .val (.int qv), .val (.int (1 : Int32))] [(.int (1 : Int32))])) _
        refine XS.goto X18.here hx rfl (pc0 := 266) (pc' := 270) rfl (hb hby at_266) (by decide) (by decide) ?_
        show Steps p.tables e below (T18.setTop (mkF m 270 #[.val (.int p1), .val (.int p2), .val (.int p3), .val (.long q4), .second, .val (.long q5), .second, .val (.int pa), .val (.int pb), .val (.int va), .val (.int vb), .val (.int vc), .val (.int vd), .val (.int asp), .val (.int aep), .val (.int bsp), .val (.int bep), .val (.long xa), .second, .val (.long xb), .second, .val (.long ya), .second, .val (.long yb), .second, .val (.long asa), .second, .val (.long aea), .second, .val (.long bsa), .second, .val (.long bea), .second, .val (.ref b9), .val (.ref b11), .val (.int qv), .val (.int (1 : Int32))] [(.int (1 : Int32))])) _
        exact retN X18 hx (t := .boolean) Bd.returns (by simp) (hb hby at_270) hr
      · show Q0 Z p1 p2 p3 q4 q5 h0 n0 _ T18.heap _
        rw [e18]
        exact ⟨rfl, N18⟩
set_option maxRecDepth 65536 in
set_option maxHeartbeats 40000000 in
theorem comes_1 {Post : Tables → Env → Array Value → State → Outcome → State → Prop} (hpost : ∀ tb e args s v u, (limb_1_1.after args s (.returned v) u = true ∧ limb_1_2.after args s (.returned v) u = true ∧ True) → FrameEnd s (.returned v) u (Jvm.fieldLocs frame_1_writes args s ++ Jvm.arrayLocs frame_1_arrays args s ++ Jvm.staticLocs frame_1_statics s) 16 128 → Post tb e args s (.returned v) u) :
    ArmFor flags0 classFile x code maxLocals ret World_1 tables_1 room_1 Calls_1 rest_1 Pre_1 Post := by
  intro l hfl _ _ p e ha hc hk s m args below hf hA hF happ hP
  obtain ⟨hcalls, hrest, hpre⟩ := hP
  obtain ⟨-, -, -, hnamed, -, -, -, hat⟩ := (Spec.applies_iff hf).mp happ
  obtain ⟨hg, hn⟩ := and_e (Cond.before_iff.mp (show (Jvm.Cond.and given_1 narrow_1).before args s = true from hpre))
  obtain ⟨hct, hg⟩ := and_e hg
  obtain ⟨ga0, hg⟩ := and_e hg
  obtain ⟨ga1, hg⟩ := and_e hg
  obtain ⟨ga2, hg⟩ := and_e hg
  obtain ⟨ga3, hg⟩ := and_e hg
  have ga4 := hg
  obtain ⟨w0, w1, w2, w3, w4, rfl⟩ : ∃ w0 w1 w2 w3 w4 : Value, args = #[w0, w1, w2, w3, w4] := by
    have hs : args.size = 5 := by simpa [Cond.value, given_1] using hct
    obtain ⟨L⟩ := args
    match L, hs with
    | [w0, w1, w2, w3, w4], _ => exact ⟨w0, w1, w2, w3, w4, rfl⟩
  have hw := fun d (hd : d ∈ tables_1) => atoms_spec (ws := Jvm.Cond.code x code maxLocals ret :: tables_1) hat d (List.mem_cons_of_mem _ hd)
  obtain ⟨i0, ei0⟩ := is_v ga0
  obtain rfl : w0 = (.int i0) := Option.some.inj ei0
  obtain ⟨i1, ei1⟩ := is_v ga1
  obtain rfl : w1 = (.int i1) := Option.some.inj ei1
  obtain ⟨i2, ei2⟩ := is_v ga2
  obtain rfl : w2 = (.int i2) := Option.some.inj ei2
  obtain ⟨i3, ei3⟩ := isL_v ga3
  obtain rfl : w3 = (.long i3) := Option.some.inj ei3
  obtain ⟨i4, ei4⟩ := isL_v ga4
  obtain rfl : w4 = (.long i4) := Option.some.inj ei4
  obtain ⟨n, o, h1, h2, h3, _, L, rfl, ⟨rfl, N⟩, hq⟩ := rm0 l s _ hw tables_1 i0 i1 i2 i3 i4 s.heap s.heap.size (Nat.le_refl _)  p e ha hc hk s m _ below hf ((Spec.applies_iff_loose hf).mp happ).1 ⟨rfl, State.Warmed39.refl s, rfl⟩ trivial
  refine ⟨n, _, h1, h2, h3, hpost _ _ _ _ _ _ ⟨Cond.after_iff.mpr rfl, Cond.after_iff.mpr (eq_i res_at (Term.int_eval (1)) rfl), trivial⟩ ⟨hq.1, hq.2.1, (hq.2.2.sift fun y hy => Or.inr (N y hy)).mono (by decide) (by decide)⟩⟩
theorem main_1_1 : Claimed_1_1 := comes_1 fun _ _ _ _ _ _ h hF => ⟨h.1, hF⟩
theorem main_1_2 : Claimed_1_2 := comes_1 fun _ _ _ _ _ _ h hF => ⟨h.2.1, hF⟩
end Jvm.Pilot.@@N@@
namespace Jvm.Pilot.@@N@@
open Jvm Jvm.ClassFile Sem Op Lib Jvm.Free Jvm.Stand Jvm.Pilot.@@N@@.Jvm.D
/-! MADE BY PROGRAM (witnessworld.py) out of the Statement's table words and the real class files: 11 classes; the members and pool entries that the words name. The judged class is class 1, her method 1. -/
namespace start1
open Jvm.ClassFile
def u (s : String) : CpInfo := .utf8 (stringToUtf16 s)
/-- a pool by its gaps: so many unusable entries, then the entry; so many at the end -/
def gap : Nat → List CpInfo → List CpInfo
  | 0, r => r
  | n + 1, r => .unusable :: gap n r
def poolList (es : List (Nat × CpInfo)) (last : Nat) : List CpInfo := es.foldr (fun e r => gap e.1 (e.2 :: r)) (gap last [])
def pool (es : List (Nat × CpInfo)) (last : Nat) : Array CpInfo := ⟨poolList es last⟩
def fileOf (pool : Array CpInfo) (this : Nat) (attrs : Array Attribute := #[]) (ms : Array MethodInfo := #[]) (fl : Nat := 33) (sup : Nat := 0) (ifs : Array Nat := #[]) (fds : Array FieldInfo := #[]) : ClassFile where
  minorVersion := 0
  majorVersion := 65
  constantPool := pool
  accessFlags := fl
  thisClass := this
  superClass := sup
  interfaces := ifs
  fields := fds
  methods := ms
  attributes := attrs
def plain (name : String) (sup : Option ClassId) : Class where
  name := name
  kind := .ordinary
  loader := none
  accessFlags := 33
  super := sup
  interfaces := #[]
  cf := none
  fields := #[]
  methods := #[]
  instanceTypes := #[]
  staticTypes := #[]
  resolved := #[]
  callSites := []
  init := .initialized
  statics := none
  mirror := none

def pool0 : Array CpInfo := pool [(5, u "<init>"), (0, u "()V"), (1, .class_ 10), (1, u "java/lang/Object")] 113

def k0c0 : Code := { maxStack := 0, maxLocals := 1, code := object_method_1_code, exceptionTable := #[], attributes := #[] }
def k0m0 : Method := { name := "<init>", desc := "()V", sig := { parameters := [], returnType := none }, accessFlags := 1, code := some k0c0 }
/-- java/lang/Object -/
def k0 : Class := { plain "java/lang/Object" none with
  accessFlags := 33
  interfaces := #[]
  cf := some (fileOf pool0 8 #[] #[{ accessFlags := 1, nameIndex := 5, descriptorIndex := 6, attributes := #[] }] 33 0 #[] #[])
  fields := #[]
  methods := #[k0m0]
  instanceTypes := #[]
  staticTypes := #[]
  resolved := Array.replicate 124 none
  statics := none }

def pool1 : Array CpInfo := pool [(2, .class_ 4), (1, u "java/lang/Object"), (0, u "<init>"), (0, u "()V"), (0, .integer 65535), (0, .methodref 9 10), (0, .class_ 11), (0, .nameAndType 12 13), (0, u "java/lang/Math"), (0, u "min"), (0, u "(II)I"), (0, .methodref 9 15), (0, .nameAndType 16 13), (0, u "max"), (0, .long 4294967295), (1, .methodref 9 20), (0, .nameAndType 12 21), (0, u "(JJ)J"), (0, .methodref 9 23), (0, .nameAndType 16 21), (0, .class_ 25), (0, u "com/example/meticulous_audit/meticulousaudit/ike/TrafficSelector"), (0, .methodref 24 27), (0, .nameAndType 5 28), (0, u "(IIIJJ)V"), (0, .methodref 30 31), (0, .class_ 32), (0, .nameAndType 33 34), (0, u "com/example/meticulous_audit/meticulousaudit/ike/TrafficSelectorWithinPinLaw"), (0, u "takes"), (0, u "(IIIJJIIJ)Z"), (0, .methodref 24 36), (0, .nameAndType 37 38), (0, u "within"), (0, u "(Lcom/example/meticulous_audit/meticulousaudit/ike/TrafficSelector;)Z"), (2, u "law"), (0, u "(IIIJJ)Z")] 3

def k1m0 : Method := { name := "<init>", desc := "()V", sig := { parameters := [], returnType := none }, accessFlags := 1, code := none }
def k1c1 : Code := { maxStack := 11, maxLocals := 37, code := code, exceptionTable := #[], attributes := #[] }
def k1m1 : Method := { name := "law", desc := "(IIIJJ)Z", sig := { parameters := [.int, .int, .int, .long, .long], returnType := some .boolean }, accessFlags := 9, code := some k1c1 }
def k1c2 : Code := { maxStack := 4, maxLocals := 11, code := method_3_code, exceptionTable := #[], attributes := #[] }
def k1m2 : Method := { name := "takes", desc := "(IIIJJIIJ)Z", sig := { parameters := [.int, .int, .int, .long, .long, .int, .int, .long], returnType := some .boolean }, accessFlags := 10, code := some k1c2 }
/-- com/example/meticulous_audit/meticulousaudit/ike/TrafficSelectorWithinPinLaw -/
def k1 : Class := { plain "com/example/meticulous_audit/meticulousaudit/ike/TrafficSelectorWithinPinLaw" (some 0) with
  accessFlags := 49
  interfaces := #[]
  cf := some (fileOf pool1 30 #[] #[{ accessFlags := 1, nameIndex := 5, descriptorIndex := 6, attributes := #[] }, { accessFlags := 9, nameIndex := 41, descriptorIndex := 42, attributes := #[] }, { accessFlags := 10, nameIndex := 33, descriptorIndex := 34, attributes := #[] }] 49 2 #[] #[])
  fields := #[]
  methods := #[k1m0, k1m1, k1m2]
  instanceTypes := #[]
  staticTypes := #[]
  resolved := Array.replicate 46 none
  statics := none }

def pool2 : Array CpInfo := pool [(1, .class_ 2), (0, u "java/lang/Math"), (1, .class_ 6), (1, u "java/lang/Object"), (0, u "<init>"), (0, u "()V"), (89, .class_ 100), (1, u "java/lang/Math$RandomNumberGeneratorHolder"), (20, u "(JJ)J"), (50, u "negativeZeroFloatBits"), (0, u "J"), (2, u "negativeZeroDoubleBits"), (21, u "max"), (2, u "min"), (43, u "$assertionsDisabled"), (0, u "Z"), (88, u "(II)I"), (2, u "twoToTheDoubleScaleDown"), (0, u "D"), (4, u "twoToTheDoubleScaleUp"), (9, u "E"), (3, u "PI"), (2, u "TAU"), (2, u "DEGREES_TO_RADIANS"), (0, u "RADIANS_TO_DEGREES")] 94

def k2m0 : Method := { name := "<init>", desc := "()V", sig := { parameters := [], returnType := none }, accessFlags := 2, code := none }
def k2c1 : Code := { maxStack := 2, maxLocals := 2, code := jdk_29_method_65_code, exceptionTable := #[], attributes := #[] }
def k2m1 : Method := { name := "max", desc := "(II)I", sig := { parameters := [.int, .int], returnType := some .int }, accessFlags := 9, code := some k2c1 }
def k2c2 : Code := { maxStack := 4, maxLocals := 4, code := jdk_29_method_66_code, exceptionTable := #[], attributes := #[] }
def k2m2 : Method := { name := "max", desc := "(JJ)J", sig := { parameters := [.long, .long], returnType := some .long }, accessFlags := 9, code := some k2c2 }
def k2c3 : Code := { maxStack := 2, maxLocals := 2, code := jdk_29_method_69_code, exceptionTable := #[], attributes := #[] }
def k2m3 : Method := { name := "min", desc := "(II)I", sig := { parameters := [.int, .int], returnType := some .int }, accessFlags := 9, code := some k2c3 }
def k2c4 : Code := { maxStack := 4, maxLocals := 4, code := jdk_29_method_70_code, exceptionTable := #[], attributes := #[] }
def k2m4 : Method := { name := "min", desc := "(JJ)J", sig := { parameters := [.long, .long], returnType := some .long }, accessFlags := 9, code := some k2c4 }
/-- java/lang/Math -/
def k2 : Class := { plain "java/lang/Math" (some 0) with
  accessFlags := 49
  interfaces := #[]
  cf := some (fileOf pool2 1 #[.nestMembers #[98]] #[{ accessFlags := 2, nameIndex := 7, descriptorIndex := 8, attributes := #[] }, { accessFlags := 9, nameIndex := 198, descriptorIndex := 335, attributes := #[] }, { accessFlags := 9, nameIndex := 198, descriptorIndex := 121, attributes := #[] }, { accessFlags := 9, nameIndex := 201, descriptorIndex := 335, attributes := #[] }, { accessFlags := 9, nameIndex := 201, descriptorIndex := 121, attributes := #[] }] 49 4 #[] #[{ accessFlags := 25, nameIndex := 354, descriptorIndex := 339, attributes := #[] }, { accessFlags := 25, nameIndex := 358, descriptorIndex := 339, attributes := #[] }, { accessFlags := 25, nameIndex := 361, descriptorIndex := 339, attributes := #[] }, { accessFlags := 26, nameIndex := 364, descriptorIndex := 339, attributes := #[] }, { accessFlags := 26, nameIndex := 365, descriptorIndex := 339, attributes := #[] }, { accessFlags := 26, nameIndex := 172, descriptorIndex := 173, attributes := #[] }, { accessFlags := 26, nameIndex := 176, descriptorIndex := 173, attributes := #[] }, { accessFlags := 8, nameIndex := 344, descriptorIndex := 339, attributes := #[] }, { accessFlags := 8, nameIndex := 338, descriptorIndex := 339, attributes := #[] }, { accessFlags := 4120, nameIndex := 245, descriptorIndex := 246, attributes := #[] }])
  fields := #[{ name := "E", type := .double, accessFlags := 25, slot := 0, constantValue := 0 }, { name := "PI", type := .double, accessFlags := 25, slot := 1, constantValue := 0 }, { name := "TAU", type := .double, accessFlags := 25, slot := 2, constantValue := 0 }, { name := "DEGREES_TO_RADIANS", type := .double, accessFlags := 26, slot := 3, constantValue := 0 }, { name := "RADIANS_TO_DEGREES", type := .double, accessFlags := 26, slot := 4, constantValue := 0 }, { name := "negativeZeroFloatBits", type := .long, accessFlags := 26, slot := 5, constantValue := 0 }, { name := "negativeZeroDoubleBits", type := .long, accessFlags := 26, slot := 6, constantValue := 0 }, { name := "twoToTheDoubleScaleUp", type := .double, accessFlags := 8, slot := 7, constantValue := 0 }, { name := "twoToTheDoubleScaleDown", type := .double, accessFlags := 8, slot := 8, constantValue := 0 }, { name := "$assertionsDisabled", type := .boolean, accessFlags := 4120, slot := 9, constantValue := 0 }]
  methods := #[k2m0, k2m1, k2m2, k2m3, k2m4]
  instanceTypes := #[]
  staticTypes := #[.double, .double, .double, .double, .double, .long, .long, .double, .double, .boolean]
  resolved := Array.replicate 460 none
  statics := none }

def pool3 : Array CpInfo := pool [(1, .methodref 2 3), (0, .class_ 4), (0, .nameAndType 5 6), (0, u "java/lang/Object"), (0, u "<init>"), (0, u "()V"), (0, .class_ 8), (0, u "java/lang/Record")] 13

def k3c0 : Code := { maxStack := 1, maxLocals := 1, code := jdk_30_method_1_code, exceptionTable := #[], attributes := #[] }
def k3m0 : Method := { name := "<init>", desc := "()V", sig := { parameters := [], returnType := none }, accessFlags := 4, code := some k3c0 }
/-- java/lang/Record -/
def k3 : Class := { plain "java/lang/Record" (some 0) with
  accessFlags := 1057
  interfaces := #[]
  cf := some (fileOf pool3 7 #[] #[{ accessFlags := 4, nameIndex := 5, descriptorIndex := 6, attributes := #[] }] 1057 2 #[] #[])
  fields := #[]
  methods := #[k3m0]
  instanceTypes := #[]
  staticTypes := #[]
  resolved := Array.replicate 22 none
  statics := none }

def pool4 : Array CpInfo := pool [(1, .methodref 2 3), (0, .class_ 4), (0, .nameAndType 5 6), (0, u "java/lang/Record"), (0, u "<init>"), (0, u "()V"), (0, .integer 65535), (9, .class_ 18), (0, u "com/example/meticulous_audit/meticulousaudit/ike/TrafficSelector"), (0, .long 4294967295), (4, .fieldref 17 25), (0, .nameAndType 26 27), (0, u "protocol"), (0, u "I"), (0, .fieldref 17 29), (0, .nameAndType 30 27), (0, u "startPort"), (0, .fieldref 17 32), (0, .nameAndType 33 27), (0, u "endPort"), (0, .fieldref 17 35), (0, .nameAndType 36 37), (0, u "startAddress"), (0, u "J"), (0, .fieldref 17 39), (0, .nameAndType 40 37), (0, u "endAddress"), (11, u "(IIIJJ)V"), (103, u "within"), (0, u "(Lcom/example/meticulous_audit/meticulousaudit/ike/TrafficSelector;)Z"), (43, u "TS_IPV4_ADDR_RANGE"), (2, u "HEADER_SIZE"), (1, u "SELECTOR_SIZE"), (1, u "MAX_ADDRESS")] 75

def k4c0 : Code := { maxStack := 6, maxLocals := 8, code := prog_31_method_1_code, exceptionTable := #[], attributes := #[] }
def k4m0 : Method := { name := "<init>", desc := "(IIIJJ)V", sig := { parameters := [.int, .int, .int, .long, .long], returnType := none }, accessFlags := 1, code := some k4c0 }
def k4c1 : Code := { maxStack := 4, maxLocals := 2, code := prog_31_method_5_code, exceptionTable := #[], attributes := #[] }
def k4m1 : Method := { name := "within", desc := "(Lcom/example/meticulous_audit/meticulousaudit/ike/TrafficSelector;)Z", sig := { parameters := [(.object "com/example/meticulous_audit/meticulousaudit/ike/TrafficSelector")], returnType := some .boolean }, accessFlags := 1, code := some k4c1 }
/-- com/example/meticulous_audit/meticulousaudit/ike/TrafficSelector -/
def k4 : Class := { plain "com/example/meticulous_audit/meticulousaudit/ike/TrafficSelector" (some 3) with
  accessFlags := 49
  interfaces := #[]
  cf := some (fileOf pool4 17 #[] #[{ accessFlags := 1, nameIndex := 5, descriptorIndex := 52, attributes := #[] }, { accessFlags := 1, nameIndex := 156, descriptorIndex := 157, attributes := #[] }] 49 2 #[] #[{ accessFlags := 18, nameIndex := 26, descriptorIndex := 27, attributes := #[] }, { accessFlags := 18, nameIndex := 30, descriptorIndex := 27, attributes := #[] }, { accessFlags := 18, nameIndex := 33, descriptorIndex := 27, attributes := #[] }, { accessFlags := 18, nameIndex := 36, descriptorIndex := 37, attributes := #[] }, { accessFlags := 18, nameIndex := 40, descriptorIndex := 37, attributes := #[] }, { accessFlags := 25, nameIndex := 201, descriptorIndex := 27, attributes := #[] }, { accessFlags := 26, nameIndex := 204, descriptorIndex := 27, attributes := #[] }, { accessFlags := 26, nameIndex := 206, descriptorIndex := 27, attributes := #[] }, { accessFlags := 26, nameIndex := 208, descriptorIndex := 37, attributes := #[] }])
  fields := #[{ name := "protocol", type := .int, accessFlags := 18, slot := 0, constantValue := 0 }, { name := "startPort", type := .int, accessFlags := 18, slot := 1, constantValue := 0 }, { name := "endPort", type := .int, accessFlags := 18, slot := 2, constantValue := 0 }, { name := "startAddress", type := .long, accessFlags := 18, slot := 3, constantValue := 0 }, { name := "endAddress", type := .long, accessFlags := 18, slot := 4, constantValue := 0 }, { name := "TS_IPV4_ADDR_RANGE", type := .int, accessFlags := 25, slot := 0, constantValue := 0 }, { name := "HEADER_SIZE", type := .int, accessFlags := 26, slot := 1, constantValue := 0 }, { name := "SELECTOR_SIZE", type := .int, accessFlags := 26, slot := 2, constantValue := 0 }, { name := "MAX_ADDRESS", type := .long, accessFlags := 26, slot := 3, constantValue := 0 }]
  methods := #[k4m0, k4m1]
  instanceTypes := #[.int, .int, .int, .long, .long]
  staticTypes := #[.int, .int, .int, .long]
  resolved := Array.replicate 284 none
  statics := none }

def pool5 : Array CpInfo := pool [(1, u "java/lang/Cloneable"), (0, .class_ 1), (0, u "java/lang/Object"), (0, .class_ 3)] 3

/-- java/lang/Cloneable -/
def k5 : Class := { plain "java/lang/Cloneable" (some 0) with
  accessFlags := 1537
  interfaces := #[]
  cf := some (fileOf pool5 2 #[] #[] 1537 4 #[] #[])
  fields := #[]
  methods := #[]
  instanceTypes := #[]
  staticTypes := #[]
  resolved := Array.replicate 8 none
  statics := none }

def pool6 : Array CpInfo := pool [(1, u "java/io/Serializable"), (0, .class_ 1), (0, u "java/lang/Object"), (0, .class_ 3)] 3

/-- java/io/Serializable -/
def k6 : Class := { plain "java/io/Serializable" (some 0) with
  accessFlags := 1537
  interfaces := #[]
  cf := some (fileOf pool6 2 #[] #[] 1537 4 #[] #[])
  fields := #[]
  methods := #[]
  instanceTypes := #[]
  staticTypes := #[]
  resolved := Array.replicate 8 none
  statics := none }

/-- the primitive byte -/
def k7 : Class := { plain "byte" none with kind := .primitive 'B', accessFlags := 0x411 }
/-- [B -/
def k8 : Class := { plain "[B" (some 0) with kind := .array 7 .byte, interfaces := #[5, 6], accessFlags := 1041 }

/-- the primitive int -/
def k9 : Class := { plain "int" none with kind := .primitive 'I', accessFlags := 0x411 }
/-- [I -/
def k10 : Class := { plain "[I" (some 0) with kind := .array 9 .int, interfaces := #[5, 6], accessFlags := 1041 }

def heap : Heap := #[]
def classes : Array Class := #[k0, k1, k2, k3, k4, k5, k6, k7, k8, k9, k10]
def interned : List (Array UInt16 × Addr) := []
def slotsUsed : Nat := 0
def theMethod : MethodId := ⟨1, 1⟩
def args0 : Array Value := #[.int 5, .int 2, .int 3, .long 9, .long 7]
def aboutOver (below : List Frame) : State where
  vm := { classes := classes, interned := interned.toArray }
  heap := heap
  slotsUsed := slotsUsed
  threads := #[{ frames := .invoking theMethod args0 :: below }]
def below0 : List Frame := [.native { method := ⟨0, 0⟩, args := #[] }]
def about1 : State := aboutOver below0
def p0 : Program := .bare "" "" ""
def e0 : Env := launch0.env 0 0 0
theorem w_frames : about1.frames = Frame.invoking theMethod args0 :: below0 := rfl
set_option maxRecDepth 65536 in
theorem w_args : argsFit about1.vm theMethod args0 = true := by decide +kernel
set_option maxRecDepth 65536 in
theorem w_heap : heapFits about1 = true := by decide +kernel
set_option maxRecDepth 65536 in
theorem w_runnable : about1.curStatus? = some .runnable := by decide +kernel
set_option maxRecDepth 65536 in
theorem w_alone : about1.alone = true := by decide +kernel
set_option maxRecDepth 65536 in
theorem w_named : about1.methodNamed? x = some theMethod := by decide +kernel
set_option maxRecDepth 65536 in
theorem w_hears : about1.hears theMethod below0 = true := by decide +kernel
set_option maxRecDepth 65536 in
theorem w_ripe : about1.ripe theMethod args0 below0 = true := by decide +kernel
theorem w_running : about1.status = .running := rfl
set_option maxRecDepth 65536 in
theorem w_room : about1.hasRoom e0.platform room_1 = true :=
  launch0.hasRoom_least _ room_1 (by decide +kernel) (by decide +kernel) (by decide +kernel) (by decide +kernel) (by decide +kernel) (by decide +kernel)
theorem allAtoms_all (ts : List Jvm.Cond) (a : Array Jvm.Value) (st : Jvm.State) : (allAtoms ts).before a st = ts.all (fun c => c.before a st) := by
  induction ts with
  | nil => rfl
  | cons c t ih =>
    show (Jvm.Cond.and c (allAtoms t)).before a st = _
    rw [Jvm.Cond.before_and, ih, List.all_cons]
def words1 : List Jvm.Cond := Jvm.Cond.code x code maxLocals ret :: tables_1
/-- a 'code' word, met by the world's own term for the bytes: nothing is compared byte by byte -/
theorem code_word {y : MethodName} {bytes : ByteArray} {mx : Nat} {rt : Option FieldType} {a : Array Value} {s : State} {m : MethodId} {meth : Method} {c : Code} (h1 : s.methodNamed? y = some m) (h2 : s.vm.method? m = some meth) (h3 : meth.code = some c) (h4 : c.code = bytes)
    (h5 : (c.maxLocals == mx && c.exceptionTable.isEmpty && decide (c.maxStack ≤ mostOperands) && decide (meth.sig.returnType = rt) && !meth.locks && decide (parseMethodDescriptor y.desc = some meth.sig)) = true) : (Jvm.Cond.code y bytes mx rt).before a s = true := by
  simp only [Bool.and_eq_true, beq_iff_eq, Bool.not_eq_true', decide_eq_true_eq] at h5
  obtain ⟨⟨⟨⟨⟨g1, g2⟩, g3⟩, g4⟩, g5⟩, g6⟩ := h5
  simp [Cond.before, Cond.holds, Cond.value, h1, h2, h3, h4, g1, g2, g3, g4, g5, g6]
def isCode : Jvm.Cond → Bool
  | .code _ _ _ _ => true
  | _ => false
theorem all_split {L : List Jvm.Cond} {P : Jvm.Cond → Bool} (h1 : L.all (fun c => isCode c || P c) = true) (h2 : ∀ c ∈ L.filter isCode, P c = true) : L.all P = true := by
  refine List.all_eq_true.mpr fun c hc => ?_
  have h := List.all_eq_true.mp h1 c hc
  rcases Bool.eq_false_or_eq_true (isCode c) with hi | hi
  · exact h2 c (List.mem_filter.mpr ⟨hc, hi⟩)
  · simpa [hi] using h
set_option maxRecDepth 65536 in
theorem w_c0 : (Jvm.Cond.code x code maxLocals ret).before args0 about1 = true := code_word (m := ⟨1, 1⟩) (meth := k1m1) (c := k1c1) (by decide +kernel) rfl rfl rfl (by decide +kernel)
set_option maxRecDepth 65536 in
theorem w_c1 : (Jvm.Cond.code ({ cls := "java/lang/Math", name := "min", desc := "(II)I" } : Jvm.MethodName) jdk_29_method_69_code (2 : Nat) (Option.some Jvm.ClassFile.FieldType.int)).before args0 about1 = true := code_word (m := ⟨2, 3⟩) (meth := k2m3) (c := k2c3) (by decide +kernel) rfl rfl rfl (by decide +kernel)
set_option maxRecDepth 65536 in
theorem w_c2 : (Jvm.Cond.code ({ cls := "java/lang/Math", name := "max", desc := "(II)I" } : Jvm.MethodName) jdk_29_method_65_code (2 : Nat) (Option.some Jvm.ClassFile.FieldType.int)).before args0 about1 = true := code_word (m := ⟨2, 1⟩) (meth := k2m1) (c := k2c1) (by decide +kernel) rfl rfl rfl (by decide +kernel)
set_option maxRecDepth 65536 in
theorem w_c3 : (Jvm.Cond.code ({ cls := "java/lang/Math", name := "min", desc := "(JJ)J" } : Jvm.MethodName) jdk_29_method_70_code (4 : Nat) (Option.some Jvm.ClassFile.FieldType.long)).before args0 about1 = true := code_word (m := ⟨2, 4⟩) (meth := k2m4) (c := k2c4) (by decide +kernel) rfl rfl rfl (by decide +kernel)
set_option maxRecDepth 65536 in
theorem w_c4 : (Jvm.Cond.code ({ cls := "java/lang/Math", name := "max", desc := "(JJ)J" } : Jvm.MethodName) jdk_29_method_66_code (4 : Nat) (Option.some Jvm.ClassFile.FieldType.long)).before args0 about1 = true := code_word (m := ⟨2, 2⟩) (meth := k2m2) (c := k2c2) (by decide +kernel) rfl rfl rfl (by decide +kernel)
set_option maxRecDepth 65536 in
theorem w_c5 : (Jvm.Cond.code ({ cls := "com/example/meticulous_audit/meticulousaudit/ike/TrafficSelector", name := "<init>", desc := "(IIIJJ)V" } : Jvm.MethodName) prog_31_method_1_code (8 : Nat) (Option.none : Option Jvm.ClassFile.FieldType)).before args0 about1 = true := code_word (m := ⟨4, 0⟩) (meth := k4m0) (c := k4c0) (by decide +kernel) rfl rfl rfl (by decide +kernel)
set_option maxRecDepth 65536 in
theorem w_c6 : (Jvm.Cond.code ({ cls := "java/lang/Record", name := "<init>", desc := "()V" } : Jvm.MethodName) jdk_30_method_1_code (1 : Nat) (Option.none : Option Jvm.ClassFile.FieldType)).before args0 about1 = true := code_word (m := ⟨3, 0⟩) (meth := k3m0) (c := k3c0) (by decide +kernel) rfl rfl rfl (by decide +kernel)
set_option maxRecDepth 65536 in
theorem w_c7 : (Jvm.Cond.code ({ cls := "java/lang/Object", name := "<init>", desc := "()V" } : Jvm.MethodName) object_method_1_code (1 : Nat) (Option.none : Option Jvm.ClassFile.FieldType)).before args0 about1 = true := code_word (m := ⟨0, 0⟩) (meth := k0m0) (c := k0c0) (by decide +kernel) rfl rfl rfl (by decide +kernel)
set_option maxRecDepth 65536 in
theorem w_c8 : (Jvm.Cond.code ({ cls := "com/example/meticulous_audit/meticulousaudit/ike/TrafficSelectorWithinPinLaw", name := "takes", desc := "(IIIJJIIJ)Z" } : Jvm.MethodName) method_3_code (11 : Nat) (Option.some Jvm.ClassFile.FieldType.boolean)).before args0 about1 = true := code_word (m := ⟨1, 2⟩) (meth := k1m2) (c := k1c2) (by decide +kernel) rfl rfl rfl (by decide +kernel)
set_option maxRecDepth 65536 in
theorem w_c9 : (Jvm.Cond.code ({ cls := "com/example/meticulous_audit/meticulousaudit/ike/TrafficSelector", name := "within", desc := "(Lcom/example/meticulous_audit/meticulousaudit/ike/TrafficSelector;)Z" } : Jvm.MethodName) prog_31_method_5_code (2 : Nat) (Option.some Jvm.ClassFile.FieldType.boolean)).before args0 about1 = true := code_word (m := ⟨4, 1⟩) (meth := k4m1) (c := k4c1) (by decide +kernel) rfl rfl rfl (by decide +kernel)
def codes1 : List Jvm.Cond := [Jvm.Cond.code x code maxLocals ret, Jvm.Cond.code ({ cls := "java/lang/Math", name := "min", desc := "(II)I" } : Jvm.MethodName) jdk_29_method_69_code (2 : Nat) (Option.some Jvm.ClassFile.FieldType.int), Jvm.Cond.code ({ cls := "java/lang/Math", name := "max", desc := "(II)I" } : Jvm.MethodName) jdk_29_method_65_code (2 : Nat) (Option.some Jvm.ClassFile.FieldType.int), Jvm.Cond.code ({ cls := "java/lang/Math", name := "min", desc := "(JJ)J" } : Jvm.MethodName) jdk_29_method_70_code (4 : Nat) (Option.some Jvm.ClassFile.FieldType.long), Jvm.Cond.code ({ cls := "java/lang/Math", name := "max", desc := "(JJ)J" } : Jvm.MethodName) jdk_29_method_66_code (4 : Nat) (Option.some Jvm.ClassFile.FieldType.long), Jvm.Cond.code ({ cls := "com/example/meticulous_audit/meticulousaudit/ike/TrafficSelector", name := "<init>", desc := "(IIIJJ)V" } : Jvm.MethodName) prog_31_method_1_code (8 : Nat) (Option.none : Option Jvm.ClassFile.FieldType), Jvm.Cond.code ({ cls := "java/lang/Record", name := "<init>", desc := "()V" } : Jvm.MethodName) jdk_30_method_1_code (1 : Nat) (Option.none : Option Jvm.ClassFile.FieldType), Jvm.Cond.code ({ cls := "java/lang/Object", name := "<init>", desc := "()V" } : Jvm.MethodName) object_method_1_code (1 : Nat) (Option.none : Option Jvm.ClassFile.FieldType), Jvm.Cond.code ({ cls := "com/example/meticulous_audit/meticulousaudit/ike/TrafficSelectorWithinPinLaw", name := "takes", desc := "(IIIJJIIJ)Z" } : Jvm.MethodName) method_3_code (11 : Nat) (Option.some Jvm.ClassFile.FieldType.boolean), Jvm.Cond.code ({ cls := "com/example/meticulous_audit/meticulousaudit/ike/TrafficSelector", name := "within", desc := "(Lcom/example/meticulous_audit/meticulousaudit/ike/TrafficSelector;)Z" } : Jvm.MethodName) prog_31_method_5_code (2 : Nat) (Option.some Jvm.ClassFile.FieldType.boolean)]
set_option maxRecDepth 65536 in
theorem codes_eq : words1.filter isCode = codes1 := rfl
theorem w_codes : ∀ c ∈ words1.filter isCode, c.before args0 about1 = true := by
  rw [codes_eq]
  intro c hc
  simp only [codes1, List.mem_cons, List.not_mem_nil, or_false] at hc
  rcases hc with rfl | rfl | rfl | rfl | rfl | rfl | rfl | rfl | rfl | rfl
  · exact w_c0
  · exact w_c1
  · exact w_c2
  · exact w_c3
  · exact w_c4
  · exact w_c5
  · exact w_c6
  · exact w_c7
  · exact w_c8
  · exact w_c9
set_option maxRecDepth 65536 in
theorem w_t1 : (words1.take 24).all (fun c => isCode c || c.before args0 about1) = true := by decide +kernel
set_option maxRecDepth 65536 in
theorem w_t2 : ((words1.drop 24).take 24).all (fun c => isCode c || c.before args0 about1) = true := by decide +kernel
set_option maxRecDepth 65536 in
theorem w_t3 : ((words1.drop 24).drop 24).all (fun c => isCode c || c.before args0 about1) = true := by decide +kernel
theorem w_tables : (allAtoms (Jvm.Cond.code x code maxLocals ret :: tables_1)).before args0 about1 = true := by
  rw [allAtoms_all]
  show words1.all (fun c => c.before args0 about1) = true
  refine all_split ?_ w_codes
  rw [← List.take_append_drop 24 words1, List.all_append, w_t1, ← List.take_append_drop 24 (words1.drop 24), List.all_append, w_t2, w_t3]
  rfl
set_option maxRecDepth 65536 in
theorem w_case : (Jvm.Cond.and given_1 narrow_1).before args0 about1 = true := by decide +kernel
theorem w_applies : (headSpec (Jvm.Cond.code x code maxLocals ret :: tables_1) room_1).applies x e0.platform about1 = true :=
  (Spec.applies_iff w_frames).mpr ⟨w_running, w_runnable, w_alone, w_named, w_hears, w_ripe, w_room, w_tables⟩
theorem atStart : AtStart classFile x code maxLocals ret World_1 tables_1 room_1 Calls_1 rest_1 Pre_1 launch0 p0 e0 about1 theMethod args0 below0 :=
  ⟨lists_1, trivial, launch0.admits_env _ _ _, launch0.least_env, fairChoices_fair.cas, fairChoices_fair.clock, w_frames, w_args, w_heap, w_applies, trivial, trivial, w_case⟩
end start1
theorem witness_1 : WitnessClaimed_1 := ⟨start1.p0, start1.e0, start1.about1, start1.theMethod, start1.args0, start1.below0, start1.atStart⟩
end Jvm.Pilot.@@N@@
