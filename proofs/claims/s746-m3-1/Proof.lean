import JvmDerived
import JvmDerived.Pilot.@@N@@Statement
import JvmDerived.Pilot.@@N@@Code
set_option linter.unusedVariables false
set_option linter.unusedSimpArgs false
namespace Jvm.RoadKit
open Sem ClassFile Op Lib Jvm.Stand Jvm.Free Jvm.LawKit
section New
variable {p : Program} {l : Launch} {e : Env} {R : Room} {s : State} {m : MethodId} {args : Array Value} {below : List Frame} {meth : Method} {c : Code} {T : State} {locs : List Loc} {cells slots : Nat}
theorem retI (X : Stand p l e R s m args below meth c T locs cells slots) (hx : p.tables.exec = Jvm.exec) {pc : Nat} {Ls : Array Slot} {z : Int32} {rest : List Value} (hret : meth.sig.returnType = some .int) (hd : decode c.code pc = .ok (.ireturn, 1)) {fs : List Frame}
    (hl : ∀ (f : JFrame) (acts : List Action), f.method = m → f.locked = none → f.entered = [] → (doReturn e (T.setTop f) acts (some (.int z))).1 = T.setFrames fs) : Steps p.tables e below (T.setTop (mkF m pc Ls (.int z :: rest))) (T.setFrames fs) := by
  have hm' : T.vm.method? m = some meth := X.method'
  have hn : narrow .int (.int z) = .int z := rfl
  show Steps p.tables e below (T.setTop { method := m, pc := pc, locals := Ls, stack := _ :: rest, locked := none }) _
  jvm_step X.here [X.here.top, hx, hd, hm', hret, hn]
  first | (intro acts; rw [hl _ acts rfl rfl rfl]) | rw [hl _ _ rfl rfl rfl]
  exact Steps.refl _
theorem own_lremM {g : JFrame} {target : State} (X : Stand p l e R s m args below meth c T locs cells slots) (hx : p.tables.exec = Jvm.exec) (hg : g.method = m) {x y : Int64} {rest : List Value} (hd : decode c.code g.pc = .ok (.lrem, 1)) (hs : g.stack = .long y :: .long x :: rest) (hy : y ≠ 0)
    (hr : Steps p.tables e below (T.setTop { g with pc := g.pc + 1, stack := .long (x % y) :: rest }) target) : Steps p.tables e below (T.setTop g) target :=
  XS.lrem X.here hx hg hd hs hy (by first | exact hr | (rw [lrem_mod]; exact hr))
theorem own_monoW {s t : State} {o : Outcome} {L : List Loc} {k n k' n' : Nat} (h : ReturnedEndW s o t L k n) (hk : k ≤ k') (hn : n ≤ n') : ReturnedEndW s o t L k' n' := ⟨h.1, h.2.1, h.2.2.1, h.2.2.2.mono hk hn⟩
theorem own_go {α β : Type} {S S' : α → Prop} {P : α → β → Prop} (h : ∀ t, S' t → S t) (g : ∃ n o, S' n ∧ P n o) : ∃ n o, S n ∧ P n o := by
  obtain ⟨n, o, a, b⟩ := g
  exact ⟨n, o, h n a, b⟩
end New
end Jvm.RoadKit
namespace Jvm.Pilot.@@N@@
open Jvm Jvm.ClassFile Sem Op Lib Jvm.Free Jvm.Stand Jvm.LawKit Jvm.RoadKit Bundle Jvm.Pilot.@@N@@.Jvm.D
section Own
variable {Z : State} {h h' : Heap} {a b : Addr} {ty : FieldType} {n : Int32} {f f' : Int32 → Value} {ws : List Addr} {sl : Nat} {v : Value}
def own_Arf (Z : State) (h : Heap) (a : Addr) (ty : FieldType) (n : Int32) (f : Int32 → Value) : Prop := ∃ c : Cell, Arr Z h a c ty ∧ c.slots.size = n.toNatClampNeg ∧ ¬ n < 0 ∧ ∀ j : Int32, ¬ (j < 0 ∨ c.slots.size ≤ j.toNatClampNeg) → c.slots[j.toNatClampNeg]? = some (f j)
theorem own_Arf.lt (F : own_Arf Z h a ty n f) : a < h.size := by obtain ⟨c, A, -⟩ := F; exact A.lt
theorem own_Arf.ext (F : own_Arf Z h a ty n f) (E : Ext h h') : own_Arf Z h' a ty n f := by obtain ⟨c, A, r⟩ := F; exact ⟨c, A.ext E, r⟩
theorem own_Arf.other (F : own_Arf Z h b ty n f) (W : Wr h h' a sl v) (q : b ≠ a) : own_Arf Z h' b ty n f := by obtain ⟨c, A, r⟩ := F; exact ⟨c, A.other W q, r⟩
theorem own_Arf.keep (F : own_Arf Z h a ty n f) (K : Keep h h' ws) (q : a ∉ ws) : own_Arf Z h' a ty n f := by obtain ⟨c, A, r⟩ := F; exact ⟨c, ⟨K.2.1 a c A.1 q, A.2⟩, r⟩
theorem own_Arf.cong (F : own_Arf Z h a ty n f) (q : ∀ i, f i = f' i) : own_Arf Z h a ty n f' := by obtain ⟨c, A, S, N, H⟩ := F; exact ⟨c, A, S, N, fun j hj => by rw [← q]; exact H j hj⟩
theorem own_Arf.of {k : ClassId} {vs : List Value} {dv : Value} (F : Arv Z h a k ty n vs dv) : own_Arf Z h a ty n (fun j => vs.getD j.toNatClampNeg dv) := by obtain ⟨c, A, -, S, N, H, -⟩ := F; exact ⟨c, A, S, N, fun j hj => Has.at H hj rfl⟩
theorem own_Arf.upd {c : Cell} {j : Int32} (A : Arr Z h a c ty) (S : c.slots.size = n.toNatClampNeg) (N : ¬ n < 0) (H : ∀ j : Int32, ¬ (j < 0 ∨ c.slots.size ≤ j.toNatClampNeg) → c.slots[j.toNatClampNeg]? = some (f j)) (W : Wr h h' a j.toNatClampNeg v) (hj : ¬ (j < 0 ∨ c.slots.size ≤ j.toNatClampNeg)) : own_Arf Z h' a ty n (fun i => if i = j then v else f i) := by
  refine ⟨c.setSlot j.toNatClampNeg v, A.same W, by rw [sz_set]; exact S, N, fun i hi => ?_⟩
  rw [sz_set] at hi
  show _ = some (if i = j then v else f i)
  by_cases q : i = j
  · rw [if_pos q]; exact get_hit hj q
  · rw [if_neg q, get_miss (fun z => hj (Or.inl z)) (fun z => hi (Or.inl z)) q]; exact H i hi
end Own
theorem own_mm (x r : Int32) (h : r = (x &&& (7 : Int32))) : 0 ≤ r.toInt ∧ r.toInt ≤ 7 := by
  have h1 := c_mask x (7 : Int32) 3 (by decide) (by decide)
  rw [← h] at h1
  omega
theorem own_rr (m x r : Int32) (hm : 0 ≤ m.toInt ∧ m.toInt ≤ 7) (h : r = (((m + (1 : Int32)) + ((x &&& (2147483647 : Int32)) % (7 : Int32))) % (8 : Int32))) : (0 ≤ r.toInt ∧ r.toInt ≤ 7) ∧ r.toInt ≠ m.toInt := by
  have h1 := c_mask x (2147483647 : Int32) 31 (by decide) (by decide)
  have h2 := (c_irem (x &&& (2147483647 : Int32)) (7 : Int32) 7 (by decide)).1 (by rw [h1]; omega)
  have h3 := c_iadd m (1 : Int32)
  have h4 := c_iadd (m + (1 : Int32)) ((x &&& (2147483647 : Int32)) % (7 : Int32))
  have e1 : (1 : Int32).toInt = 1 := by decide
  have r1 := rng32 (m + (1 : Int32))
  have r2 := rng32 ((m + (1 : Int32)) + ((x &&& (2147483647 : Int32)) % (7 : Int32)))
  rw [e1] at h3
  have h5 : ((m + (1 : Int32)) + ((x &&& (2147483647 : Int32)) % (7 : Int32))).toInt = m.toInt + 1 + ((x &&& (2147483647 : Int32)) % (7 : Int32)).toInt := by omega
  have h6 := (c_irem ((m + (1 : Int32)) + ((x &&& (2147483647 : Int32)) % (7 : Int32))) (8 : Int32) 8 (by decide)).1 (by omega)
  rw [← h] at h6
  omega
theorem own_ns (m r x v n : Int32) (hm : 0 ≤ m.toInt ∧ m.toInt ≤ 7) (hr : 0 ≤ r.toInt ∧ r.toInt ≤ 7) (hv : v = (if m < r then r else m)) (hn : n = ((v + (1 : Int32)) + (x &&& (7 : Int32)))) : 1 ≤ n.toInt ∧ n.toInt ≤ 15 ∧ m.toInt < n.toInt ∧ r.toInt < n.toInt := by
  have h1 := c_mask x (7 : Int32) 3 (by decide) (by decide)
  have h3 := c_iadd v (1 : Int32)
  have h4 := c_iadd (v + (1 : Int32)) (x &&& (7 : Int32))
  rw [← hn] at h4
  have e1 : (1 : Int32).toInt = 1 := by decide
  rw [e1] at h3
  have r1 := rng32 (v + (1 : Int32))
  have r2 := rng32 n
  have hv2 : m.toInt ≤ v.toInt ∧ r.toInt ≤ v.toInt ∧ v.toInt ≤ 7 := by
    simp only [Int32.lt_iff_toInt_lt] at hv
    split at hv <;> subst hv <;> omega
  omega
theorem own_kk (x n k : Int32) (hn : 1 ≤ n.toInt) (h : k = ((x &&& (2147483647 : Int32)) % n)) : 0 ≤ k.toInt ∧ k.toInt < n.toInt := by
  have h1 := c_mask x (2147483647 : Int32) 31 (by decide) (by decide)
  have h2 := (c_iremV (x &&& (2147483647 : Int32)) n).1 (by rw [h1]; omega) (by omega)
  rw [← h] at h2
  omega
theorem own_lt {j n : Int32} (h : 0 ≤ j.toInt) (h2 : j.toInt < n.toInt) : ¬ j < 0 ∧ j < n := by
  rw [Int32.lt_iff_toInt_lt, Int32.lt_iff_toInt_lt]
  have e : (0 : Int32).toInt = 0 := by decide
  omega
theorem own_nn {j : Int32} (h : 0 ≤ j.toInt) : ¬ j < 0 := by
  rw [Int32.lt_iff_toInt_lt]
  have e : (0 : Int32).toInt = 0 := by decide
  omega
theorem own_cap {n : Int32} (h : 0 ≤ n.toInt) (h2 : n.toInt ≤ 15) : n.toNatClampNeg ≤ 15 := by
  have := nat_of (own_nn h)
  omega
theorem own_nz {n : Int32} (h : 1 ≤ n.toInt) : ¬ (n = (0 : Int32)) := by
  intro z
  rw [z] at h
  exact absurd h (by decide)
theorem d1_0 : decode jdk_29_method_65_code 0 = .ok (.iload_n 0, 1) := by decide +kernel
theorem d1_1 : decode jdk_29_method_65_code 1 = .ok (.iload_n 1, 1) := by decide +kernel
theorem d1_2 : decode jdk_29_method_65_code 2 = .ok (.if_icmp .lt 7, 3) := by decide +kernel
theorem d1_5 : decode jdk_29_method_65_code 5 = .ok (.iload_n 0, 1) := by decide +kernel
theorem d1_6 : decode jdk_29_method_65_code 6 = .ok (.goto 4, 3) := by decide +kernel
theorem d1_9 : decode jdk_29_method_65_code 9 = .ok (.iload_n 1, 1) := by decide +kernel
theorem d1_10 : decode jdk_29_method_65_code 10 = .ok (.ireturn, 1) := by decide +kernel
theorem ef_1 (m : MethodId) (x0 : Int32) (x1 : Int32) : entryFrame m #[(.int x0), (.int x1)] 2 = mkF m 0 #[.val (.int x0), .val (.int x1)] [] := by first | (simp [entryFrame, mkF, argsToLocals, Value.category]; done) | rfl
def Q1 (Z : State) (p1 : Int32) (p2 : Int32) (h0 : Heap) (n0 : Nat) (v : Option Value) (h : Heap) (L : List Loc) : Prop := ∃ r : Int32, v = some (.int r) ∧ (r = (if p1 < p2 then p2 else p1)) ∧ Fr n0 L ∧ h = h0
set_option maxRecDepth 65536 in
set_option maxHeartbeats 40000000 in
theorem rm1 (l : Launch) (Z : State) (a0 : Array Value) (hw : ∀ d ∈ tables_1, d.before a0 Z = true) (ws : List Jvm.Cond) (p1 : Int32) (p2 : Int32) (h0 : Heap) (n0 : Nat) (Z0 : n0 ≤ h0.size) :
    MetFree l (⟨"java/lang/Math", "max", "(II)I"⟩ : MethodName) (head1 (Jvm.Cond.code (⟨"java/lang/Math", "max", "(II)I"⟩ : MethodName) jdk_29_method_65_code 2 (some .int) :: ws) ({ frames := 0, cells := 0, slots := 0, locals := 0 } : Room)) (fun a U => a = #[(.int p1), (.int p2)] ∧ Z.Warmed39 U.vm ∧ U.heap = h0) (fun _ _ _ _ _ => True) (fun _ U o U' => ∃ v L, o = .returned v ∧ Q1 Z p1 p2 h0 n0 v U'.heap L ∧ FrameEnd U o U' L ({ frames := 0, cells := 0, slots := 0, locals := 0 } : Room).cells ({ frames := 0, cells := 0, slots := 0, locals := 0 } : Room).slots) := by
  refine MetFree.of_bodySF (Jvm.Free.JP.mathPlain rfl (by decide +kernel)) hisR ?_
  intro p e s m args below meth c s₁ Bd hml0 hP hK
  obtain ⟨rfl, hZ, hh⟩ := hP
  have hx := Bd.exec
  have hby := Bd.bytes
  have hml : c.maxLocals = 2 := hml0
  have hown : s.vm.findClass "java/lang/Math" = some m.cls := findClass_of_methodNamed Bd.named
  have hnm := (name_of_methodNamed Bd.named Bd.method).1
  have X0 : Stand p l e ({ frames := 0, cells := 0, slots := 0, locals := 0 } : Room) s m #[(.int p1), (.int p2)] below meth c s₁ [] 0 0 := Stand.of_body Bd
  have e0 : s₁.heap = h0 := by rw [← hh, Bd.state]; rfl
  have N0 := Fr.nil n0
  have K0 : Keep h0 h0 [] := Keep.refl _ _
  have pre0 : ∀ t, Steps p.tables e below (s₁.setTop (mkF m 0 #[.val (.int p1), .val (.int p2)] [])) t → Steps p.tables e below (s₁.setTop (entryFrame m #[(.int p1), (.int p2)] 2)) t := fun t k => castTop (ef_1 m p1 p2) k
  refine own_go (S' := fun t => Steps p.tables e below (s₁.setTop (mkF m 0 #[.val (.int p1), .val (.int p2)] [])) t) pre0 ?_
  obtain ⟨u, d_u⟩ : ∃ z : Int32, z = (if p1 < p2 then p2 else p1) := ⟨_, rfl⟩
  have j1 : ∀ t, Steps p.tables e below (s₁.setTop (mkF m 10 #[.val (.int p1), .val (.int p2)] [(.int u)])) t → Steps p.tables e below (s₁.setTop (mkF m 2 #[.val (.int p1), .val (.int p2)] [(.int p2), (.int p1)])) t := by
    intro t k
    by_cases hj2 : p1 < p2
    · have q_u : u = p2 := by rw [d_u, if_pos hj2]
      show Steps p.tables e below (s₁.setTop (mkF m 2 #[.val (.int p1), .val (.int p2)] [(.int p2), (.int p1)])) _
      refine XS.icmpYes X0.here hx rfl (pc0 := 2) (pc' := 9) rfl (hb hby d1_2) rfl (tlt hj2).1 (by decide) (by decide) ?_
      show Steps p.tables e below (s₁.setTop (mkF m 9 #[.val (.int p1), .val (.int p2)] [])) _
      refine XS.iloadN X0.here hx rfl (hb hby d1_9) rfl ?_
      rw [q_u] at k
      exact k
    · have q_u : u = p1 := by rw [d_u, if_neg hj2]
      show Steps p.tables e below (s₁.setTop (mkF m 2 #[.val (.int p1), .val (.int p2)] [(.int p2), (.int p1)])) _
      refine XS.icmpNo X0.here hx rfl (hb hby d1_2) rfl (flt hj2).1 ?_
      show Steps p.tables e below (s₁.setTop (mkF m 5 #[.val (.int p1), .val (.int p2)] [])) _
      refine XS.iloadN X0.here hx rfl (hb hby d1_5) rfl ?_
      show Steps p.tables e below (s₁.setTop (mkF m 6 #[.val (.int p1), .val (.int p2)] [(.int p1)])) _
      refine XS.goto X0.here hx rfl (pc0 := 6) (pc' := 10) rfl (hb hby d1_6) (by decide) (by decide) ?_
      rw [q_u] at k
      exact k
  obtain ⟨fs, hr, hrun, hended, hW, hsame⟩ := X0.leave (v := some (.int u)) (fun h => by rw [Bd.returns] at h; cases h)
  refine ⟨_, _, ?_, hrun, hended, _, _, rfl, ?_, ⟨_, rfl⟩, hW, hsame.mono (by decide) (by decide)⟩
  · show Steps p.tables e below (s₁.setTop (mkF m 0 #[.val (.int p1), .val (.int p2)] [])) _
    refine XS.iloadN X0.here hx rfl (hb hby d1_0) rfl ?_
    show Steps p.tables e below (s₁.setTop (mkF m 1 #[.val (.int p1), .val (.int p2)] [(.int p1)])) _
    refine XS.iloadN X0.here hx rfl (hb hby d1_1) rfl ?_
    show Steps p.tables e below (s₁.setTop (mkF m 2 #[.val (.int p1), .val (.int p2)] [(.int p2), (.int p1)])) _
    refine j1 _ ?_
    show Steps p.tables e below (s₁.setTop (mkF m 10 #[.val (.int p1), .val (.int p2)] [(.int u)])) _
    exact retI X0 hx Bd.returns (hb hby d1_10) hr
  · show Q1 Z p1 p2 h0 n0 _ s₁.heap _
    rw [e0]
    exact ⟨_, rfl, d_u, N0, rfl⟩
theorem d3_0 : decode jdk_30_method_1_code 0 = .ok (.aload_n 0, 1) := by decide +kernel
theorem d3_1 : decode jdk_30_method_1_code 1 = .ok (.invokespecial 1, 3) := by decide +kernel
theorem d3_4 : decode jdk_30_method_1_code 4 = .ok (.return_, 1) := by decide +kernel
theorem pn_3 : plainName "java/lang/Record" = true := by first | (simp [plainName, overriddenIn]; done) | decide +kernel
theorem ef_3 (m : MethodId) (x0 : Addr) : entryFrame m #[(.ref x0)] 1 = mkF m 0 #[.val (.ref x0)] [] := by first | (simp [entryFrame, mkF, argsToLocals, Value.category]; done) | rfl
def Q3 (Z : State) (a1 : Addr) (h0 : Heap) (n0 : Nat) (v : Option Value) (h : Heap) (L : List Loc) : Prop := v = none ∧ Fr n0 L ∧ h = h0
set_option maxRecDepth 65536 in
set_option maxHeartbeats 40000000 in
theorem rm3 (l : Launch) (Z : State) (a0 : Array Value) (hw : ∀ d ∈ tables_1, d.before a0 Z = true) (ws : List Jvm.Cond) (a1 : Addr) (h0 : Heap) (n0 : Nat) (Z0 : n0 ≤ h0.size) :
    MetFree l (⟨"java/lang/Record", "<init>", "()V"⟩ : MethodName) (head1 (Jvm.Cond.code (⟨"java/lang/Record", "<init>", "()V"⟩ : MethodName) jdk_30_method_1_code 1 none :: ws) ({ frames := 1, cells := 0, slots := 0, locals := 12 } : Room)) (fun a U => a = #[(.ref a1)] ∧ Z.Warmed39 U.vm ∧ U.heap = h0) (fun _ _ _ _ _ => True) (fun _ U o U' => ∃ v L, o = .returned v ∧ Q3 Z a1 h0 n0 v U'.heap L ∧ FrameEnd U o U' L ({ frames := 1, cells := 0, slots := 0, locals := 12 } : Room).cells ({ frames := 1, cells := 0, slots := 0, locals := 12 } : Room).slots) := by
  refine MetFree.of_bodySF (plainFor_of_name pn_3) hisR ?_
  intro p e s m args below meth c s₁ Bd hml0 hP hK
  obtain ⟨rfl, hZ, hh⟩ := hP
  have hx := Bd.exec
  have hby := Bd.bytes
  have hml : c.maxLocals = 1 := hml0
  have hown : s.vm.findClass "java/lang/Record" = some m.cls := findClass_of_methodNamed Bd.named
  have hnm := (name_of_methodNamed Bd.named Bd.method).1
  have X0 : Stand p l e ({ frames := 1, cells := 0, slots := 0, locals := 12 } : Room) s m #[(.ref a1)] below meth c s₁ [] 0 0 := Stand.of_body Bd
  have e0 : s₁.heap = h0 := by rw [← hh, Bd.state]; rfl
  have N0 := Fr.nil n0
  have K0 : Keep h0 h0 [] := Keep.refl _ _
  have pre0 : ∀ t, Steps p.tables e below (s₁.setTop (mkF m 0 #[.val (.ref a1)] [])) t → Steps p.tables e below (s₁.setTop (entryFrame m #[(.ref a1)] 1)) t := fun t k => castTop (ef_3 m a1) k
  refine own_go (S' := fun t => Steps p.tables e below (s₁.setTop (mkF m 0 #[.val (.ref a1)] [])) t) pre0 ?_
  obtain ⟨T1, X1, e1, st1⟩ := initO X0 hx hZ hown (hw _ (List.mem_of_getElem? (i := 16) rfl)) (hw _ (List.mem_of_getElem? (i := 17) rfl)) (hw _ (List.mem_of_getElem? (i := 18) rfl)) e0 (g := (mkF m 1 #[.val (.ref a1)] [(.ref a1)])) rfl (by rw [hml]; rfl) rfl (hb hby d3_1) (by decide) (W := 0) (by show 2 * 0 + _ ≤ _; exact Nat.le_of_eq rfl) (by decide)
  obtain ⟨fs, hr, hrun, hended, hW, hsame⟩ := X1.leave (v := none) (fun _ => rfl)
  refine ⟨_, _, ?_, hrun, hended, _, _, rfl, ?_, ⟨_, rfl⟩, hW, hsame.mono (by decide) (by decide)⟩
  · show Steps p.tables e below (s₁.setTop (mkF m 0 #[.val (.ref a1)] [])) _
    refine XS.aloadN X0.here hx rfl (hb hby d3_0) rfl rfl ?_
    show Steps p.tables e below (s₁.setTop (mkF m 1 #[.val (.ref a1)] [(.ref a1)])) _
    refine st1 _ ?_
    show Steps p.tables e below (T1.setTop (mkF m 4 #[.val (.ref a1)] [])) _
    exact X1.returnOut hx Bd.returns (hb hby d3_4) hr
  · show Q3 Z a1 h0 n0 _ T1.heap _
    rw [e1]
    exact ⟨rfl, N0, rfl⟩
theorem pd_0 : parseMethodDescriptor "()V" = some ⟨[], none⟩ := by decide +kernel
theorem d2_0 : decode prog_26_method_1_code 0 = .ok (.aload_n 0, 1) := by decide +kernel
theorem d2_1 : decode prog_26_method_1_code 1 = .ok (.invokespecial 1, 3) := by decide +kernel
theorem d2_4 : decode prog_26_method_1_code 4 = .ok (.iload_n 1, 1) := by decide +kernel
theorem d2_5 : decode prog_26_method_1_code 5 = .ok (.ifCond .lt 12, 3) := by decide +kernel
theorem d2_8 : decode prog_26_method_1_code 8 = .ok (.iload_n 2, 1) := by decide +kernel
theorem d2_9 : decode prog_26_method_1_code 9 = .ok (.ifCond .lt 8, 3) := by decide +kernel
theorem d2_12 : decode prog_26_method_1_code 12 = .ok (.iload_n 1, 1) := by decide +kernel
theorem d2_13 : decode prog_26_method_1_code 13 = .ok (.iload_n 2, 1) := by decide +kernel
theorem d2_14 : decode prog_26_method_1_code 14 = .ok (.if_icmp .ne 18, 3) := by decide +kernel
theorem d2_32 : decode prog_26_method_1_code 32 = .ok (.aload_n 0, 1) := by decide +kernel
theorem d2_33 : decode prog_26_method_1_code 33 = .ok (.iload_n 1, 1) := by decide +kernel
theorem d2_34 : decode prog_26_method_1_code 34 = .ok (.putfield 16, 3) := by decide +kernel
theorem d2_37 : decode prog_26_method_1_code 37 = .ok (.aload_n 0, 1) := by decide +kernel
theorem d2_38 : decode prog_26_method_1_code 38 = .ok (.iload_n 2, 1) := by decide +kernel
theorem d2_39 : decode prog_26_method_1_code 39 = .ok (.putfield 22, 3) := by decide +kernel
theorem d2_42 : decode prog_26_method_1_code 42 = .ok (.return_, 1) := by decide +kernel
theorem pn_2 : plainName "com/example/driftline/driftline/model/Mutant" = true := by first | (simp [plainName, overriddenIn]; done) | decide +kernel
theorem ef_2 (m : MethodId) (x0 : Addr) (x1 : Int32) (x2 : Int32) : entryFrame m #[(.ref x0), (.int x1), (.int x2)] 3 = mkF m 0 #[.val (.ref x0), .val (.int x1), .val (.int x2)] [] := by first | (simp [entryFrame, mkF, argsToLocals, Value.category]; done) | rfl
def Q2 (Z : State) (a1 : Addr) (p2 : Int32) (p3 : Int32) (u0 : Value) (u1 : Value) (h0 : Heap) (n0 : Nat) (v : Option Value) (h : Heap) (L : List Loc) : Prop := v = none ∧ Fr n0 L ∧ Keep h0 h [a1] ∧ Exa Z h a1 "com/example/driftline/driftline/model/Mutant" ∧ Fld Z h a1 "com/example/driftline/driftline/model/Mutant" "mutant" "I" (.int p2) ∧ Fld Z h a1 "com/example/driftline/driftline/model/Mutant" "resident" "I" (.int p3)
set_option maxRecDepth 65536 in
set_option maxHeartbeats 40000000 in
theorem rm2 (l : Launch) (Z : State) (a0 : Array Value) (hw : ∀ d ∈ tables_1, d.before a0 Z = true) (ws : List Jvm.Cond) (a1 : Addr) (p2 : Int32) (p3 : Int32) (u0 : Value) (u1 : Value) (h0 : Heap) (n0 : Nat) (Z0 : n0 ≤ h0.size) (E_a1 : Exa Z h0 a1 "com/example/driftline/driftline/model/Mutant") (F_a1_mutant : Fld Z h0 a1 "com/example/driftline/driftline/model/Mutant" "mutant" "I" u0) (F_a1_resident : Fld Z h0 a1 "com/example/driftline/driftline/model/Mutant" "resident" "I" u1) (g_a1 : n0 ≤ a1) (hc5 : ¬ (p2 < (0 : Int32))) (hc9 : ¬ (p3 < (0 : Int32))) (hc14 : ¬ (p2 = p3)) :
    MetFree l (⟨"com/example/driftline/driftline/model/Mutant", "<init>", "(II)V"⟩ : MethodName) (head1 (Jvm.Cond.code (⟨"com/example/driftline/driftline/model/Mutant", "<init>", "(II)V"⟩ : MethodName) prog_26_method_1_code 3 none :: ws) ({ frames := 2, cells := 0, slots := 0, locals := 24 } : Room)) (fun a U => a = #[(.ref a1), (.int p2), (.int p3)] ∧ Z.Warmed39 U.vm ∧ U.heap = h0) (fun _ _ _ _ _ => True) (fun _ U o U' => ∃ v L, o = .returned v ∧ Q2 Z a1 p2 p3 u0 u1 h0 n0 v U'.heap L ∧ FrameEnd U o U' L ({ frames := 2, cells := 0, slots := 0, locals := 24 } : Room).cells ({ frames := 2, cells := 0, slots := 0, locals := 24 } : Room).slots) := by
  refine MetFree.of_bodySF (plainFor_of_name pn_2) hisR ?_
  intro p e s m args below meth c s₁ Bd hml0 hP hK
  obtain ⟨rfl, hZ, hh⟩ := hP
  have hx := Bd.exec
  have hby := Bd.bytes
  have hml : c.maxLocals = 3 := hml0
  have hown : s.vm.findClass "com/example/driftline/driftline/model/Mutant" = some m.cls := findClass_of_methodNamed Bd.named
  have hnm := (name_of_methodNamed Bd.named Bd.method).1
  have X0 : Stand p l e ({ frames := 2, cells := 0, slots := 0, locals := 24 } : Room) s m #[(.ref a1), (.int p2), (.int p3)] below meth c s₁ [] 0 0 := Stand.of_body Bd
  have e0 : s₁.heap = h0 := by rw [← hh, Bd.state]; rfl
  have N0 := Fr.nil n0
  have K0 : Keep h0 h0 [a1] := Keep.refl _ _
  have pre0 : ∀ t, Steps p.tables e below (s₁.setTop (mkF m 0 #[.val (.ref a1), .val (.int p2), .val (.int p3)] [])) t → Steps p.tables e below (s₁.setTop (entryFrame m #[(.ref a1), (.int p2), (.int p3)] 3)) t := fun t k => castTop (ef_2 m a1 p2 p3) k
  refine own_go (S' := fun t => Steps p.tables e below (s₁.setTop (mkF m 0 #[.val (.ref a1), .val (.int p2), .val (.int p3)] [])) t) pre0 ?_
  obtain ⟨_, _, ⟨T1, L1, k1, n1⟩, -, X1, ⟨Lc1, hQ1, l1, y1, z1⟩, st1⟩ := X0.specialBack hx (y := (⟨"java/lang/Record", "<init>", "()V"⟩ : MethodName)) rfl hown (mvT hZ (hw _ (List.mem_of_getElem? (i := 11) rfl))) (mvT hZ (hw _ (List.mem_of_getElem? (i := 12) rfl))) (mvT hZ (hw _ (List.mem_of_getElem? (i := 15) rfl))) (by decide) (backOf (W := 0) (rm3 l Z a0 hw [] a1 h0 n0 Z0 ) hZ (hw _ (List.mem_of_getElem? (i := 15) rfl)) (hw _ (List.mem_of_getElem? (i := 14) rfl)) (by decide) (by decide)) (g := (mkF m 1 #[.val (.ref a1), .val (.int p2), .val (.int p3)] [(.ref a1)])) rfl (by rw [hml]; rfl) (Steps.refl _) (a := a1) (argsL := []) (rest := []) (lenOf pd_0 rfl) rfl (by show 2 * 0 + _ ≤ _; exact Nat.le_of_eq rfl) (hb hby d2_1) (fun _ _ => ⟨rfl, e0, (by decide : 0 + 0 ≤ _), (by decide : 0 + 0 ≤ _)⟩)
  dsimp only [Pt.U, Pt.locs, Pt.cells, Pt.slots] at X1 l1 y1 z1 st1 hQ1
  subst l1 y1 z1
  obtain ⟨rfl, N1q, e1⟩ := hQ1
  have N1 := Fr.app N0 N1q
  obtain ⟨T2, h2, X2, e2, W2, st2⟩ := putF X1 hx hZ hown (host := "") (Or.inl (hw _ (List.mem_of_getElem? (i := 19) rfl))) Via.refl e1 F_a1_mutant E_a1 (Or.inr ⟨(hw _ (List.mem_of_getElem? (i := 20) rfl)), rfl, hnm⟩) (hw _ (List.mem_of_getElem? (i := 6) rfl)) (ty := .int) (by decide) rfl rfl (g := (mkF m 34 #[.val (.ref a1), .val (.int p2), .val (.int p3)] [(.int p2), (.ref a1)])) rfl rfl (hb hby d2_34)
  have F_a1_mutant := F_a1_mutant.same W2
  have F_a1_resident := F_a1_resident.other W2 (Or.inr (slot_ne (Or.inr (hw _ (List.mem_of_getElem? (i := 22) rfl))) (Or.inr (hw _ (List.mem_of_getElem? (i := 20) rfl))) (by decide) (t := .int) (t' := .int) (by decide) (by decide)))
  have E_a1 := E_a1.wr W2
  have Z0 : n0 ≤ h2.size := by rw [W2.size]; exact Z0
  have K0 := K0.wr W2 (Or.inl (List.mem_of_getElem? (i := 0) rfl))
  have N2 := Fr.snoc X2 N1 g_a1
  obtain ⟨T3, h3, X3, e3, W3, st3⟩ := putF X2 hx hZ hown (host := "") (Or.inl (hw _ (List.mem_of_getElem? (i := 21) rfl))) Via.refl e2 F_a1_resident E_a1 (Or.inr ⟨(hw _ (List.mem_of_getElem? (i := 22) rfl)), rfl, hnm⟩) (hw _ (List.mem_of_getElem? (i := 6) rfl)) (ty := .int) (by decide) rfl rfl (g := (mkF m 39 #[.val (.ref a1), .val (.int p2), .val (.int p3)] [(.int p3), (.ref a1)])) rfl rfl (hb hby d2_39)
  have F_a1_mutant := F_a1_mutant.other W3 (Or.inr (slot_ne (Or.inr (hw _ (List.mem_of_getElem? (i := 20) rfl))) (Or.inr (hw _ (List.mem_of_getElem? (i := 22) rfl))) (by decide) (t := .int) (t' := .int) (by decide) (by decide)))
  have F_a1_resident := F_a1_resident.same W3
  have E_a1 := E_a1.wr W3
  have Z0 : n0 ≤ h3.size := by rw [W3.size]; exact Z0
  have K0 := K0.wr W3 (Or.inl (List.mem_of_getElem? (i := 0) rfl))
  have N3 := Fr.snoc X3 N2 g_a1
  obtain ⟨fs, hr, hrun, hended, hW, hsame⟩ := X3.leave (v := none) (fun _ => rfl)
  refine ⟨_, _, ?_, hrun, hended, _, _, rfl, ?_, ⟨_, rfl⟩, hW, hsame.mono (by decide) (by decide)⟩
  · show Steps p.tables e below (s₁.setTop (mkF m 0 #[.val (.ref a1), .val (.int p2), .val (.int p3)] [])) _
    refine XS.aloadN X0.here hx rfl (hb hby d2_0) rfl rfl ?_
    show Steps p.tables e below (s₁.setTop (mkF m 1 #[.val (.ref a1), .val (.int p2), .val (.int p3)] [(.ref a1)])) _
    refine st1.trans ?_
    show Steps p.tables e below (T1.setTop (mkF m 4 #[.val (.ref a1), .val (.int p2), .val (.int p3)] [])) _
    refine XS.iloadN X1.here hx rfl (hb hby d2_4) rfl ?_
    show Steps p.tables e below (T1.setTop (mkF m 5 #[.val (.ref a1), .val (.int p2), .val (.int p3)] [(.int p2)])) _
    refine XS.ifNo X1.here hx rfl (hb hby d2_5) rfl ((if0 _ _).trans (flt hc5).1) ?_
    show Steps p.tables e below (T1.setTop (mkF m 8 #[.val (.ref a1), .val (.int p2), .val (.int p3)] [])) _
    refine XS.iloadN X1.here hx rfl (hb hby d2_8) rfl ?_
    show Steps p.tables e below (T1.setTop (mkF m 9 #[.val (.ref a1), .val (.int p2), .val (.int p3)] [(.int p3)])) _
    refine XS.ifNo X1.here hx rfl (hb hby d2_9) rfl ((if0 _ _).trans (flt hc9).1) ?_
    show Steps p.tables e below (T1.setTop (mkF m 12 #[.val (.ref a1), .val (.int p2), .val (.int p3)] [])) _
    refine XS.iloadN X1.here hx rfl (hb hby d2_12) rfl ?_
    show Steps p.tables e below (T1.setTop (mkF m 13 #[.val (.ref a1), .val (.int p2), .val (.int p3)] [(.int p2)])) _
    refine XS.iloadN X1.here hx rfl (hb hby d2_13) rfl ?_
    show Steps p.tables e below (T1.setTop (mkF m 14 #[.val (.ref a1), .val (.int p2), .val (.int p3)] [(.int p3), (.int p2)])) _
    refine XS.icmpYes X1.here hx rfl (pc0 := 14) (pc' := 32) rfl (hb hby d2_14) rfl (feq hc14).2 (by decide) (by decide) ?_
    show Steps p.tables e below (T1.setTop (mkF m 32 #[.val (.ref a1), .val (.int p2), .val (.int p3)] [])) _
    refine XS.aloadN X1.here hx rfl (hb hby d2_32) rfl rfl ?_
    show Steps p.tables e below (T1.setTop (mkF m 33 #[.val (.ref a1), .val (.int p2), .val (.int p3)] [(.ref a1)])) _
    refine XS.iloadN X1.here hx rfl (hb hby d2_33) rfl ?_
    show Steps p.tables e below (T1.setTop (mkF m 34 #[.val (.ref a1), .val (.int p2), .val (.int p3)] [(.int p2), (.ref a1)])) _
    refine st2 _ ?_
    show Steps p.tables e below (T2.setTop (mkF m 37 #[.val (.ref a1), .val (.int p2), .val (.int p3)] [])) _
    refine XS.aloadN X2.here hx rfl (hb hby d2_37) rfl rfl ?_
    show Steps p.tables e below (T2.setTop (mkF m 38 #[.val (.ref a1), .val (.int p2), .val (.int p3)] [(.ref a1)])) _
    refine XS.iloadN X2.here hx rfl (hb hby d2_38) rfl ?_
    show Steps p.tables e below (T2.setTop (mkF m 39 #[.val (.ref a1), .val (.int p2), .val (.int p3)] [(.int p3), (.ref a1)])) _
    refine st3 _ ?_
    show Steps p.tables e below (T3.setTop (mkF m 42 #[.val (.ref a1), .val (.int p2), .val (.int p3)] [])) _
    exact X3.returnOut hx Bd.returns (hb hby d2_42) hr
  · show Q2 Z a1 p2 p3 u0 u1 h0 n0 _ T3.heap _
    rw [e3]
    exact ⟨rfl, N3, K0, E_a1, F_a1_mutant, F_a1_resident⟩
theorem d5_0 : decode prog_26_method_3_code 0 = .ok (.iload_n 1, 1) := by decide +kernel
theorem d5_1 : decode prog_26_method_3_code 1 = .ok (.newarray .int, 2) := by decide +kernel
theorem d5_3 : decode prog_26_method_3_code 3 = .ok (.astore_n 3, 1) := by decide +kernel
theorem d5_4 : decode prog_26_method_3_code 4 = .ok (.aload_n 3, 1) := by decide +kernel
theorem d5_5 : decode prog_26_method_3_code 5 = .ok (.aload_n 0, 1) := by decide +kernel
theorem d5_6 : decode prog_26_method_3_code 6 = .ok (.getfield 16, 3) := by decide +kernel
theorem d5_9 : decode prog_26_method_3_code 9 = .ok (.iconst 1, 1) := by decide +kernel
theorem d5_10 : decode prog_26_method_3_code 10 = .ok (.iastore, 1) := by decide +kernel
theorem d5_11 : decode prog_26_method_3_code 11 = .ok (.aload_n 3, 1) := by decide +kernel
theorem d5_12 : decode prog_26_method_3_code 12 = .ok (.aload_n 0, 1) := by decide +kernel
theorem d5_13 : decode prog_26_method_3_code 13 = .ok (.getfield 22, 3) := by decide +kernel
theorem d5_16 : decode prog_26_method_3_code 16 = .ok (.iload_n 2, 1) := by decide +kernel
theorem d5_17 : decode prog_26_method_3_code 17 = .ok (.iconst 1, 1) := by decide +kernel
theorem d5_18 : decode prog_26_method_3_code 18 = .ok (.isub, 1) := by decide +kernel
theorem d5_19 : decode prog_26_method_3_code 19 = .ok (.iastore, 1) := by decide +kernel
theorem d5_20 : decode prog_26_method_3_code 20 = .ok (.aload_n 3, 1) := by decide +kernel
theorem d5_21 : decode prog_26_method_3_code 21 = .ok (.areturn, 1) := by decide +kernel
theorem pn_5 : plainName "com/example/driftline/driftline/model/Mutant" = true := by first | (simp [plainName, overriddenIn]; done) | decide +kernel
theorem ef_5 (m : MethodId) (x0 : Addr) (x1 : Int32) (x2 : Int32) : entryFrame m #[(.ref x0), (.int x1), (.int x2)] 4 = mkF m 0 #[.val (.ref x0), .val (.int x1), .val (.int x2), .unset] [] := by first | (simp [entryFrame, mkF, argsToLocals, Value.category]; done) | rfl
def Q5 (Z : State) (a1 : Addr) (p2 : Int32) (p3 : Int32) (mu : Int32) (re : Int32) (h0 : Heap) (n0 : Nat) (v : Option Value) (h : Heap) (L : List Loc) : Prop := ∃ r : Addr, ∃ gg : (Int32 → Int32), v = some (.ref r) ∧ (gg = fun i => if i = re then (p3 - (1 : Int32)) else (if i = mu then (1 : Int32) else (0 : Int32))) ∧ h0.size ≤ r ∧ Fr n0 L ∧ Keep h0 h [] ∧ own_Arf Z h r .int p2 (fun i => .int (gg i))
set_option maxRecDepth 65536 in
set_option maxHeartbeats 40000000 in
theorem rm5 (l : Launch) (Z : State) (a0 : Array Value) (hw : ∀ d ∈ tables_1, d.before a0 Z = true) (ws : List Jvm.Cond) (a1 : Addr) (p2 : Int32) (p3 : Int32) (mu : Int32) (re : Int32) (h0 : Heap) (n0 : Nat) (Z0 : n0 ≤ h0.size) (F_a1_mutant : Fld Z h0 a1 "com/example/driftline/driftline/model/Mutant" "mutant" "I" (.int mu)) (F_a1_resident : Fld Z h0 a1 "com/example/driftline/driftline/model/Mutant" "resident" "I" (.int re)) (hneg : ¬ p2 < 0) (hle : p2.toNatClampNeg ≤ 15) (hmu : ¬ mu < 0 ∧ mu < p2) (hre : ¬ re < 0 ∧ re < p2) :
    MetFree l (⟨"com/example/driftline/driftline/model/Mutant", "counts", "(II)[I"⟩ : MethodName) (head1 (Jvm.Cond.code (⟨"com/example/driftline/driftline/model/Mutant", "counts", "(II)[I"⟩ : MethodName) prog_26_method_3_code 4 (some (.array .int)) :: ws) ({ frames := 0, cells := 1, slots := 15, locals := 0 } : Room)) (fun a U => a = #[(.ref a1), (.int p2), (.int p3)] ∧ Z.Warmed39 U.vm ∧ U.heap = h0) (fun _ _ _ _ _ => True) (fun _ U o U' => ∃ v L, o = .returned v ∧ Q5 Z a1 p2 p3 mu re h0 n0 v U'.heap L ∧ FrameEnd U o U' L ({ frames := 0, cells := 1, slots := 15, locals := 0 } : Room).cells ({ frames := 0, cells := 1, slots := 15, locals := 0 } : Room).slots) := by
  refine MetFree.of_bodySF (plainFor_of_name pn_5) hisR ?_
  intro p e s m args below meth c s₁ Bd hml0 hP hK
  obtain ⟨rfl, hZ, hh⟩ := hP
  have hx := Bd.exec
  have hby := Bd.bytes
  have hml : c.maxLocals = 4 := hml0
  have hown : s.vm.findClass "com/example/driftline/driftline/model/Mutant" = some m.cls := findClass_of_methodNamed Bd.named
  have hnm := (name_of_methodNamed Bd.named Bd.method).1
  have X0 : Stand p l e ({ frames := 0, cells := 1, slots := 15, locals := 0 } : Room) s m #[(.ref a1), (.int p2), (.int p3)] below meth c s₁ [] 0 0 := Stand.of_body Bd
  have e0 : s₁.heap = h0 := by rw [← hh, Bd.state]; rfl
  have N0 := Fr.nil n0
  have K0 : Keep h0 h0 [] := Keep.refl _ _
  have pre0 : ∀ t, Steps p.tables e below (s₁.setTop (mkF m 0 #[.val (.ref a1), .val (.int p2), .val (.int p3), .unset] [])) t → Steps p.tables e below (s₁.setTop (entryFrame m #[(.ref a1), (.int p2), (.int p3)] 4)) t := fun t k => castTop (ef_5 m a1 p2 p3) k
  refine own_go (S' := fun t => Steps p.tables e below (s₁.setTop (mkF m 0 #[.val (.ref a1), .val (.int p2), .val (.int p3), .unset] [])) t) pre0 ?_
  obtain ⟨T1, h1, k1, X1, e1, E1, A1, st1⟩ := newP X0 hx hZ (hw _ (List.mem_of_getElem? (i := 28) rfl)) e0 (g := (mkF m 1 #[.val (.ref a1), .val (.int p2), .val (.int p3), .unset] [(.int p2)])) rfl (hb hby d5_1) rfl hneg (cap := 15) hle (by decide) (by decide) (by decide)
  obtain ⟨b1, g1⟩ : ∃ z, z = h0.size := ⟨_, rfl⟩
  rw [← g1] at A1 st1
  have g_b1 : n0 ≤ b1 := Nat.le_trans Z0 (Nat.le_of_eq g1.symm)
  have sz_b1 : h0.size ≤ b1 := Nat.le_trans K0.1 (Nat.le_of_eq g1.symm)
  have ne_a1_b1 : a1 ≠ b1 := Nat.ne_of_lt (Nat.lt_of_lt_of_le F_a1_mutant.lt (Nat.le_of_eq g1.symm))
  have F_a1_mutant := F_a1_mutant.ext E1
  have F_a1_resident := F_a1_resident.ext E1
  have Z0 : n0 ≤ h1.size := Nat.le_trans Z0 E1.1
  have K0 := K0.ext E1
  have V_b1 : Arv Z h1 b1 k1 .int p2 [] (.int (0 : Int32)) := Arv.new A1 hneg
  obtain ⟨gz, d_gz⟩ : ∃ z : Int32 → Int32, z = fun _ => 0 := ⟨_, rfl⟩
  have V_b1 : own_Arf Z h1 b1 .int p2 (fun i => .int (gz i)) := (own_Arf.of V_b1).cong (fun i => by rw [d_gz]; rfl)
  obtain ⟨T2, X2, e2, st2⟩ := getF X1 hx hZ hown (host := "") (Or.inl (hw _ (List.mem_of_getElem? (i := 19) rfl))) Via.refl e1 F_a1_mutant (g := (mkF m 6 #[.val (.ref a1), .val (.int p2), .val (.int p3), .val (.ref b1)] [(.ref a1), (.ref b1)])) rfl rfl (hb hby d5_6)
  have V_tmp := V_b1
  obtain ⟨cl3, Ar3, S3, n3, H3⟩ := V_tmp
  have hin3 : ¬ (mu < 0 ∨ cl3.slots.size ≤ (mu).toNatClampNeg) := inb_of S3 hmu
  obtain ⟨T3, h3, X3, e3, W3, st3⟩ := stI X2 hx hZ e2 Ar3 (j := mu) hin3 (g := (mkF m 10 #[.val (.ref a1), .val (.int p2), .val (.int p3), .val (.ref b1)] [(.int (1 : Int32)), (.int mu), (.ref b1)])) rfl rfl (hb hby d5_10)
  obtain ⟨ga3, d_ga3⟩ : ∃ z : Int32 → Int32, z = fun i => if i = mu then (1 : Int32) else gz i := ⟨_, rfl⟩
  have V_b1 : own_Arf Z h3 b1 .int p2 (fun i => .int (ga3 i)) := (own_Arf.upd Ar3 S3 n3 H3 W3 hin3).cong (fun i => by rw [d_ga3]; dsimp only; split <;> rfl)
  have F_a1_mutant := F_a1_mutant.other W3 (Or.inl ne_a1_b1)
  have F_a1_resident := F_a1_resident.other W3 (Or.inl ne_a1_b1)
  have Z0 : n0 ≤ h3.size := by rw [W3.size]; exact Z0
  have K0 := K0.wr W3 (Or.inr sz_b1)
  have N3 := Fr.snoc X3 N0 g_b1
  obtain ⟨T4, X4, e4, st4⟩ := getF X3 hx hZ hown (host := "") (Or.inl (hw _ (List.mem_of_getElem? (i := 21) rfl))) Via.refl e3 F_a1_resident (g := (mkF m 13 #[.val (.ref a1), .val (.int p2), .val (.int p3), .val (.ref b1)] [(.ref a1), (.ref b1)])) rfl rfl (hb hby d5_13)
  have V_tmp := V_b1
  obtain ⟨cl5, Ar5, S5, n5, H5⟩ := V_tmp
  have hin5 : ¬ (re < 0 ∨ cl5.slots.size ≤ (re).toNatClampNeg) := inb_of S5 hre
  obtain ⟨T5, h5, X5, e5, W5, st5⟩ := stI X4 hx hZ e4 Ar5 (j := re) hin5 (g := (mkF m 19 #[.val (.ref a1), .val (.int p2), .val (.int p3), .val (.ref b1)] [(.int (p3 - (1 : Int32))), (.int re), (.ref b1)])) rfl rfl (hb hby d5_19)
  obtain ⟨ga5, d_ga5⟩ : ∃ z : Int32 → Int32, z = fun i => if i = re then (p3 - (1 : Int32)) else ga3 i := ⟨_, rfl⟩
  have V_b1 : own_Arf Z h5 b1 .int p2 (fun i => .int (ga5 i)) := (own_Arf.upd Ar5 S5 n5 H5 W5 hin5).cong (fun i => by rw [d_ga5]; dsimp only; split <;> rfl)
  have F_a1_mutant := F_a1_mutant.other W5 (Or.inl ne_a1_b1)
  have F_a1_resident := F_a1_resident.other W5 (Or.inl ne_a1_b1)
  have Z0 : n0 ≤ h5.size := by rw [W5.size]; exact Z0
  have K0 := K0.wr W5 (Or.inr sz_b1)
  have N5 := Fr.snoc X5 N3 g_b1
  obtain ⟨fs, hr, hrun, hended, hW, hsame⟩ := X5.leave (v := some (.ref b1)) (fun h => by rw [Bd.returns] at h; cases h)
  refine ⟨_, _, ?_, hrun, hended, _, _, rfl, ?_, ⟨_, rfl⟩, hW, hsame.mono (by decide) (by decide)⟩
  · show Steps p.tables e below (s₁.setTop (mkF m 0 #[.val (.ref a1), .val (.int p2), .val (.int p3), .unset] [])) _
    refine XS.iloadN X0.here hx rfl (hb hby d5_0) rfl ?_
    show Steps p.tables e below (s₁.setTop (mkF m 1 #[.val (.ref a1), .val (.int p2), .val (.int p3), .unset] [(.int p2)])) _
    refine st1 _ ?_
    show Steps p.tables e below (T1.setTop (mkF m 3 #[.val (.ref a1), .val (.int p2), .val (.int p3), .unset] [(.ref b1)])) _
    refine XS.astoreN X1.here hx rfl (hb hby d5_3) rfl rfl (l' := #[.val (.ref a1), .val (.int p2), .val (.int p3), .val (.ref b1)]) rfl ?_
    show Steps p.tables e below (T1.setTop (mkF m 4 #[.val (.ref a1), .val (.int p2), .val (.int p3), .val (.ref b1)] [])) _
    refine XS.aloadN X1.here hx rfl (hb hby d5_4) rfl rfl ?_
    show Steps p.tables e below (T1.setTop (mkF m 5 #[.val (.ref a1), .val (.int p2), .val (.int p3), .val (.ref b1)] [(.ref b1)])) _
    refine XS.aloadN X1.here hx rfl (hb hby d5_5) rfl rfl ?_
    show Steps p.tables e below (T1.setTop (mkF m 6 #[.val (.ref a1), .val (.int p2), .val (.int p3), .val (.ref b1)] [(.ref a1), (.ref b1)])) _
    refine st2 _ ?_
    show Steps p.tables e below (T2.setTop (mkF m 9 #[.val (.ref a1), .val (.int p2), .val (.int p3), .val (.ref b1)] [(.int mu), (.ref b1)])) _
    refine XS.iconst X2.here hx rfl (hb hby d5_9) ?_
    show Steps p.tables e below (T2.setTop (mkF m 10 #[.val (.ref a1), .val (.int p2), .val (.int p3), .val (.ref b1)] [(.int (1 : Int32)), (.int mu), (.ref b1)])) _
    refine st3 _ ?_
    show Steps p.tables e below (T3.setTop (mkF m 11 #[.val (.ref a1), .val (.int p2), .val (.int p3), .val (.ref b1)] [])) _
    refine XS.aloadN X3.here hx rfl (hb hby d5_11) rfl rfl ?_
    show Steps p.tables e below (T3.setTop (mkF m 12 #[.val (.ref a1), .val (.int p2), .val (.int p3), .val (.ref b1)] [(.ref b1)])) _
    refine XS.aloadN X3.here hx rfl (hb hby d5_12) rfl rfl ?_
    show Steps p.tables e below (T3.setTop (mkF m 13 #[.val (.ref a1), .val (.int p2), .val (.int p3), .val (.ref b1)] [(.ref a1), (.ref b1)])) _
    refine st4 _ ?_
    show Steps p.tables e below (T4.setTop (mkF m 16 #[.val (.ref a1), .val (.int p2), .val (.int p3), .val (.ref b1)] [(.int re), (.ref b1)])) _
    refine XS.iloadN X4.here hx rfl (hb hby d5_16) rfl ?_
    show Steps p.tables e below (T4.setTop (mkF m 17 #[.val (.ref a1), .val (.int p2), .val (.int p3), .val (.ref b1)] [(.int p3), (.int re), (.ref b1)])) _
    refine XS.iconst X4.here hx rfl (hb hby d5_17) ?_
    show Steps p.tables e below (T4.setTop (mkF m 18 #[.val (.ref a1), .val (.int p2), .val (.int p3), .val (.ref b1)] [(.int (1 : Int32)), (.int p3), (.int re), (.ref b1)])) _
    refine XS.isub X4.here hx rfl (hb hby d5_18) rfl ?_
    show Steps p.tables e below (T4.setTop (mkF m 19 #[.val (.ref a1), .val (.int p2), .val (.int p3), .val (.ref b1)] [(.int (p3 - (1 : Int32))), (.int re), (.ref b1)])) _
    refine st5 _ ?_
    show Steps p.tables e below (T5.setTop (mkF m 20 #[.val (.ref a1), .val (.int p2), .val (.int p3), .val (.ref b1)] [])) _
    refine XS.aloadN X5.here hx rfl (hb hby d5_20) rfl rfl ?_
    show Steps p.tables e below (T5.setTop (mkF m 21 #[.val (.ref a1), .val (.int p2), .val (.int p3), .val (.ref b1)] [(.ref b1)])) _
    jvm_step X5.here [X5.here.top, hx, (hb hby d5_21), X5.method', Bd.returns, Value.isRef, FieldType.isReference]
    first | (intro acts; rw [hr _ acts rfl rfl rfl]) | rw [hr _ _ rfl rfl rfl]
    exact Steps.refl _
  · show Q5 Z a1 p2 p3 mu re h0 n0 _ T5.heap _
    rw [e5]
    exact ⟨_, ga5, rfl, by rw [d_ga5, d_ga3, d_gz], sz_b1, N5, K0, V_b1⟩
theorem pd_1 : parseMethodDescriptor "(II)I" = some ⟨[.int, .int], some .int⟩ := by decide +kernel
theorem pd_2 : parseMethodDescriptor "(II)V" = some ⟨[.int, .int], none⟩ := by decide +kernel
theorem pd_3 : parseMethodDescriptor "(II)[I" = some ⟨[.int, .int], some (.array .int)⟩ := by decide +kernel
theorem pn_0 : plainName "com/example/driftline/driftline/model/MutantCountsPinLaw" = true := by first | (simp [plainName, overriddenIn]; done) | decide +kernel
theorem ef_0 (m : MethodId) (x0 : Int32) (x1 : Int32) (x2 : Int32) (x3 : Int32) (x4 : Int32) : entryFrame m #[(.int x0), (.int x1), (.int x2), (.int x3), (.int x4)] maxLocals = mkF m 0 #[.val (.int x0), .val (.int x1), .val (.int x2), .val (.int x3), .val (.int x4), .unset, .unset, .unset, .unset, .unset, .unset, .unset, .unset, .unset] [] := by first | (simp [entryFrame, mkF, argsToLocals, Value.category, maxLocals]; done) | rfl
def Q0 (Z : State) (p1 : Int32) (p2 : Int32) (p3 : Int32) (p4 : Int32) (p5 : Int32) (h0 : Heap) (n0 : Nat) (v : Option Value) (h : Heap) (L : List Loc) : Prop := v = some (.int 1) ∧ Fr n0 L
set_option maxRecDepth 65536 in
set_option maxHeartbeats 40000000 in
theorem rm0 (l : Launch) (Z : State) (a0 : Array Value) (hw : ∀ d ∈ tables_1, d.before a0 Z = true) (ws : List Jvm.Cond) (p1 : Int32) (p2 : Int32) (p3 : Int32) (p4 : Int32) (p5 : Int32) (h0 : Heap) (n0 : Nat) (Z0 : n0 ≤ h0.size) :
    MetFree l x (head1 (Jvm.Cond.code x code maxLocals ret :: ws) room_1) (fun a U => a = #[(.int p1), (.int p2), (.int p3), (.int p4), (.int p5)] ∧ Z.Warmed39 U.vm ∧ U.heap = h0) (fun _ _ _ _ _ => True) (fun _ U o U' => ∃ v L, o = .returned v ∧ Q0 Z p1 p2 p3 p4 p5 h0 n0 v U'.heap L ∧ FrameEnd U o U' L room_1.cells room_1.slots) := by
  refine MetFree.of_bodySF (plainFor_of_name pn_0) hisR ?_
  intro p e s m args below meth c s₁ Bd hml0 hP hK
  obtain ⟨rfl, hZ, hh⟩ := hP
  have hx := Bd.exec
  have hby := Bd.bytes
  have hml : c.maxLocals = 14 := hml0
  have hown : s.vm.findClass "com/example/driftline/driftline/model/MutantCountsPinLaw" = some m.cls := findClass_of_methodNamed Bd.named
  have hnm := (name_of_methodNamed Bd.named Bd.method).1
  have X0 : Stand p l e room_1 s m #[(.int p1), (.int p2), (.int p3), (.int p4), (.int p5)] below meth c s₁ [] 0 0 := Stand.of_body Bd
  have e0 : s₁.heap = h0 := by rw [← hh, Bd.state]; rfl
  have N0 := Fr.nil n0
  have K0 : Keep h0 h0 [] := Keep.refl _ _
  have pre0 : ∀ t, Steps p.tables e below (s₁.setTop (mkF m 0 #[.val (.int p1), .val (.int p2), .val (.int p3), .val (.int p4), .val (.int p5), .unset, .unset, .unset, .unset, .unset, .unset, .unset, .unset, .unset] [])) t → Steps p.tables e below (s₁.setTop (entryFrame m #[(.int p1), (.int p2), (.int p3), (.int p4), (.int p5)] maxLocals)) t := fun t k => castTop (ef_0 m p1 p2 p3 p4 p5) k
  refine own_go (S' := fun t => Steps p.tables e below (s₁.setTop (mkF m 0 #[.val (.int p1), .val (.int p2), .val (.int p3), .val (.int p4), .val (.int p5), .unset, .unset, .unset, .unset, .unset, .unset, .unset, .unset, .unset] [])) t) pre0 ?_
  obtain ⟨mm, d_mm⟩ : ∃ z : Int32, z = (p1 &&& (7 : Int32)) := ⟨_, rfl⟩
  obtain ⟨rr, d_rr⟩ : ∃ z : Int32, z = (((mm + (1 : Int32)) + ((p2 &&& (2147483647 : Int32)) % (7 : Int32))) % (8 : Int32)) := ⟨_, rfl⟩
  have RM := own_mm p1 mm d_mm
  have RR := own_rr mm p2 rr RM d_rr
  obtain ⟨_, _, ⟨T1, L1, k1, n1⟩, -, X1, ⟨Lc1, hQ1, l1, y1, z1⟩, st1⟩ := Jvm.LawKit.callS X0 hx (y := (⟨"java/lang/Math", "max", "(II)I"⟩ : MethodName)) hown (mvT hZ (hw _ (List.mem_of_getElem? (i := 1) rfl))) (mvT hZ (hw _ (List.mem_of_getElem? (i := 2) rfl))) (mvT hZ (hw _ (List.mem_of_getElem? (i := 3) rfl))) (mvT hZ (hw _ (List.mem_of_getElem? (i := 4) rfl))) (by decide) (backOf (W := 0) (rm1 l Z a0 hw [] mm rr h0 n0 Z0 ) hZ (hw _ (List.mem_of_getElem? (i := 4) rfl)) (hw _ (List.mem_of_getElem? (i := 3) rfl)) (by decide) (by decide)) (g := (mkF m 27 #[.val (.int p1), .val (.int p2), .val (.int p3), .val (.int p4), .val (.int p5), .val (.int mm), .val (.int rr), .unset, .unset, .unset, .unset, .unset, .unset, .unset] [(.int rr), (.int mm)])) rfl (by rw [hml]; rfl) (argsL := [(.int mm), (.int rr)]) (rest := []) (lenOf pd_1 rfl) rfl (by show 2 * 0 + _ ≤ _; exact Nat.le_of_eq rfl) (hb hby at_27) (fun _ _ => ⟨rfl, e0, (by decide : 0 + 0 ≤ _), (by decide : 0 + 0 ≤ _)⟩)
  dsimp only [Pt.U, Pt.locs, Pt.cells, Pt.slots] at X1 l1 y1 z1 st1 hQ1
  subst l1 y1 z1
  obtain ⟨mv, rfl, d_mv, N1q, e1⟩ := hQ1
  have N1 := Fr.app N0 N1q
  obtain ⟨ns, d_ns⟩ : ∃ z : Int32, z = ((mv + (1 : Int32)) + (p3 &&& (7 : Int32))) := ⟨_, rfl⟩
  obtain ⟨siz, d_siz⟩ : ∃ z : Int32, z = (if p4 < (2 : Int32) then ((2 : Int32) + (p4 &&& (1 : Int32))) else p4) := ⟨_, rfl⟩
  have j2 : ∀ t, Steps p.tables e below (T1.setTop (mkF m 53 #[.val (.int p1), .val (.int p2), .val (.int p3), .val (.int p4), .val (.int p5), .val (.int mm), .val (.int rr), .val (.int ns), .unset, .unset, .unset, .unset, .unset, .unset] [(.int siz)])) t → Steps p.tables e below (T1.setTop (mkF m 41 #[.val (.int p1), .val (.int p2), .val (.int p3), .val (.int p4), .val (.int p5), .val (.int mm), .val (.int rr), .val (.int ns), .unset, .unset, .unset, .unset, .unset, .unset] [(.int (2 : Int32)), (.int p4)])) t := by
    intro t k
    by_cases hj41 : p4 < (2 : Int32)
    · have q_siz : siz = ((2 : Int32) + (p4 &&& (1 : Int32))) := by rw [d_siz, if_pos hj41]
      show Steps p.tables e below (T1.setTop (mkF m 41 #[.val (.int p1), .val (.int p2), .val (.int p3), .val (.int p4), .val (.int p5), .val (.int mm), .val (.int rr), .val (.int ns), .unset, .unset, .unset, .unset, .unset, .unset] [(.int (2 : Int32)), (.int p4)])) _
      refine XS.icmpYes X1.here hx rfl (pc0 := 41) (pc' := 48) rfl (hb hby at_41) rfl (tlt hj41).1 (by decide) (by decide) ?_
      show Steps p.tables e below (T1.setTop (mkF m 48 #[.val (.int p1), .val (.int p2), .val (.int p3), .val (.int p4), .val (.int p5), .val (.int mm), .val (.int rr), .val (.int ns), .unset, .unset, .unset, .unset, .unset, .unset] [])) _
      refine XS.iconst X1.here hx rfl (hb hby at_48) ?_
      show Steps p.tables e below (T1.setTop (mkF m 49 #[.val (.int p1), .val (.int p2), .val (.int p3), .val (.int p4), .val (.int p5), .val (.int mm), .val (.int rr), .val (.int ns), .unset, .unset, .unset, .unset, .unset, .unset] [(.int (2 : Int32))])) _
      refine XS.iloadN X1.here hx rfl (hb hby at_49) rfl ?_
      show Steps p.tables e below (T1.setTop (mkF m 50 #[.val (.int p1), .val (.int p2), .val (.int p3), .val (.int p4), .val (.int p5), .val (.int mm), .val (.int rr), .val (.int ns), .unset, .unset, .unset, .unset, .unset, .unset] [(.int p4), (.int (2 : Int32))])) _
      refine XS.iconst X1.here hx rfl (hb hby at_50) ?_
      show Steps p.tables e below (T1.setTop (mkF m 51 #[.val (.int p1), .val (.int p2), .val (.int p3), .val (.int p4), .val (.int p5), .val (.int mm), .val (.int rr), .val (.int ns), .unset, .unset, .unset, .unset, .unset, .unset] [(.int (1 : Int32)), (.int p4), (.int (2 : Int32))])) _
      refine XS.iand X1.here hx rfl (hb hby at_51) rfl ?_
      show Steps p.tables e below (T1.setTop (mkF m 52 #[.val (.int p1), .val (.int p2), .val (.int p3), .val (.int p4), .val (.int p5), .val (.int mm), .val (.int rr), .val (.int ns), .unset, .unset, .unset, .unset, .unset, .unset] [(.int (p4 &&& (1 : Int32))), (.int (2 : Int32))])) _
      refine XS.iadd X1.here hx rfl (hb hby at_52) rfl ?_
      rw [q_siz] at k
      exact k
    · have q_siz : siz = p4 := by rw [d_siz, if_neg hj41]
      show Steps p.tables e below (T1.setTop (mkF m 41 #[.val (.int p1), .val (.int p2), .val (.int p3), .val (.int p4), .val (.int p5), .val (.int mm), .val (.int rr), .val (.int ns), .unset, .unset, .unset, .unset, .unset, .unset] [(.int (2 : Int32)), (.int p4)])) _
      refine XS.icmpNo X1.here hx rfl (hb hby at_41) rfl (flt hj41).1 ?_
      show Steps p.tables e below (T1.setTop (mkF m 44 #[.val (.int p1), .val (.int p2), .val (.int p3), .val (.int p4), .val (.int p5), .val (.int mm), .val (.int rr), .val (.int ns), .unset, .unset, .unset, .unset, .unset, .unset] [])) _
      refine XS.iloadN X1.here hx rfl (hb hby at_44) rfl ?_
      show Steps p.tables e below (T1.setTop (mkF m 45 #[.val (.int p1), .val (.int p2), .val (.int p3), .val (.int p4), .val (.int p5), .val (.int mm), .val (.int rr), .val (.int ns), .unset, .unset, .unset, .unset, .unset, .unset] [(.int p4)])) _
      refine XS.goto X1.here hx rfl (pc0 := 45) (pc' := 53) rfl (hb hby at_45) (by decide) (by decide) ?_
      rw [q_siz] at k
      exact k
  have RN := own_ns mm rr p3 mv ns RM RR.1 d_mv d_ns
  obtain ⟨T3, h3, X3, e3, E3, A3, D3, -, st3⟩ := newO X1 hx hZ hown (hw _ (List.mem_of_getElem? (i := 5) rfl)) (hw _ (List.mem_of_getElem? (i := 6) rfl)) (hw _ (List.mem_of_getElem? (i := 7) rfl)) e1 (g := (mkF m 55 #[.val (.int p1), .val (.int p2), .val (.int p3), .val (.int p4), .val (.int p5), .val (.int mm), .val (.int rr), .val (.int ns), .val (.int siz), .unset, .unset, .unset, .unset, .unset] [])) rfl (hb hby at_55) (by decide) (by decide)
  obtain ⟨b3, g3⟩ : ∃ z, z = h0.size := ⟨_, rfl⟩
  rw [← g3] at A3 D3 st3
  have g_b3 : n0 ≤ b3 := Nat.le_trans Z0 (Nat.le_of_eq g3.symm)
  have sz_b3 : h0.size ≤ b3 := Nat.le_trans K0.1 (Nat.le_of_eq g3.symm)
  have Z0 : n0 ≤ h3.size := Nat.le_trans Z0 E3.1
  have K0 := K0.ext E3
  have E_b3 := A3
  have F_b3_mutant : Fld Z h3 b3 "com/example/driftline/driftline/model/Mutant" "mutant" "I" (.int (0 : Int32)) := D3 (Or.inr (hw _ (List.mem_of_getElem? (i := 20) rfl))) (ty := .int) (by decide)
  have F_b3_resident : Fld Z h3 b3 "com/example/driftline/driftline/model/Mutant" "resident" "I" (.int (0 : Int32)) := D3 (Or.inr (hw _ (List.mem_of_getElem? (i := 22) rfl))) (ty := .int) (by decide)
  obtain ⟨_, _, ⟨T4, L4, k4, n4⟩, -, X4, ⟨Lc4, hQ4, l4, y4, z4⟩, st4⟩ := X3.specialBack hx (y := (⟨"com/example/driftline/driftline/model/Mutant", "<init>", "(II)V"⟩ : MethodName)) rfl hown (mvT hZ (hw _ (List.mem_of_getElem? (i := 8) rfl))) (mvT hZ (hw _ (List.mem_of_getElem? (i := 9) rfl))) (mvT hZ (hw _ (List.mem_of_getElem? (i := 10) rfl))) (by decide) (backOf (W := 1) (rm2 l Z a0 hw [] b3 mm rr (.int (0 : Int32)) (.int (0 : Int32)) h3 n0 Z0 E_b3 F_b3_mutant F_b3_resident g_b3 (own_nn RM.1) (own_nn RR.1.1) (fun (z : mm = rr) => RR.2 (congrArg Int32.toInt z.symm))) hZ (hw _ (List.mem_of_getElem? (i := 10) rfl)) (hw _ (List.mem_of_getElem? (i := 7) rfl)) (by decide) (by decide)) (g := (mkF m 63 #[.val (.int p1), .val (.int p2), .val (.int p3), .val (.int p4), .val (.int p5), .val (.int mm), .val (.int rr), .val (.int ns), .val (.int siz), .unset, .unset, .unset, .unset, .unset] [(.int rr), (.int mm), (.ref b3), (.ref b3)])) rfl (by rw [hml]; rfl) (Steps.refl _) (a := b3) (argsL := [(.int mm), (.int rr)]) (rest := [(.ref b3)]) (lenOf pd_2 rfl) rfl (by show 2 * 0 + _ ≤ _; exact Nat.le_of_eq rfl) (hb hby at_63) (fun _ _ => ⟨rfl, e3, (by decide : 1 + 0 ≤ _), (by decide : 2 + 0 ≤ _)⟩)
  dsimp only [Pt.U, Pt.locs, Pt.cells, Pt.slots] at X4 l4 y4 z4 st4 hQ4
  subst l4 y4 z4
  obtain ⟨rfl, N4q, K4, E_b3_new, F_b3_mutant_new, F_b3_resident_new⟩ := hQ4
  have E_b3 := E_b3.keep K4
  have E_b3 := E_b3_new
  have F_b3_mutant := F_b3_mutant_new
  have F_b3_resident := F_b3_resident_new
  have Z0 : n0 ≤ T4.heap.size := Nat.le_trans Z0 K4.1
  have K0 := K0.trans K4 (allS (Or.inr sz_b3) all0)
  have N4 := Fr.app N1 N4q
  obtain ⟨cq5, kq5, q5a, q5b, q5c⟩ := isOf hZ rfl E_b3
  obtain ⟨_, _, ⟨T5, L5, k5, n5⟩, -, X5, ⟨Lc5, hQ5, l5, y5, z5⟩, st5⟩ := X4.virtualBack hx (y := (⟨"com/example/driftline/driftline/model/Mutant", "counts", "(II)[I"⟩ : MethodName)) (z := (⟨"com/example/driftline/driftline/model/Mutant", "counts", "(II)[I"⟩ : MethodName)) hown (mvT hZ (hw _ (List.mem_of_getElem? (i := 23) rfl))) (mvT hZ (hw _ (List.mem_of_getElem? (i := 24) rfl))) (notFace_of_selects (args := #[]) (mvT hZ (hw _ (List.mem_of_getElem? (i := 26) rfl)))) (mvT hZ (hw _ (List.mem_of_getElem? (i := 26) rfl))) (mvT hZ (hw _ (List.mem_of_getElem? (i := 25) rfl))) (by decide) (backOf (W := 0) (rm5 l Z a0 hw [] b3 ns siz mm rr T4.heap n0 Z0 F_b3_mutant F_b3_resident (own_nn (Int.le_trans (by decide) RN.1)) (own_cap (Int.le_trans (by decide) RN.1) RN.2.1) (own_lt RM.1 RN.2.2.1) (own_lt RR.1.1 RN.2.2.2)) hZ (hw _ (List.mem_of_getElem? (i := 27) rfl)) (hw _ (List.mem_of_getElem? (i := 7) rfl)) (by decide) (by decide)) q5a q5c (g := (mkF m 74 #[.val (.int p1), .val (.int p2), .val (.int p3), .val (.int p4), .val (.int p5), .val (.int mm), .val (.int rr), .val (.int ns), .val (.int siz), .val (.ref b3), .unset, .unset, .unset, .unset] [(.int siz), (.int ns), (.ref b3)])) rfl (by rw [hml]; rfl) (Steps.refl _) (argsL := [(.int ns), (.int siz)]) (rest := []) (lenOf pd_3 rfl) rfl (by show 2 * 0 + _ ≤ _; exact Nat.le_of_eq rfl) (hb hby at_74) (fun _ _ => ⟨rfl, rfl, (by decide : 1 + 1 ≤ _), (by decide : 2 + 15 ≤ _)⟩)
  dsimp only [Pt.U, Pt.locs, Pt.cells, Pt.slots] at X5 l5 y5 z5 st5 hQ5
  subst l5 y5 z5
  have lt5_b3 : b3 < T4.heap.size := E_b3.lt
  obtain ⟨ba, gg_5, rfl, d_ba, sz5, N5q, K5, V_ba_new⟩ := hQ5
  have E_b3 := E_b3.keep K5
  have F_b3_mutant := F_b3_mutant.keep K5 nin0
  have F_b3_resident := F_b3_resident.keep K5 nin0
  have V_ba := V_ba_new
  have g_ba : n0 ≤ ba := Nat.le_trans Z0 sz5
  have sz_ba : h0.size ≤ ba := Nat.le_trans K0.1 sz5
  have ne_b3_ba : b3 ≠ ba := Nat.ne_of_lt (Nat.lt_of_lt_of_le lt5_b3 sz5)
  have Z0 : n0 ≤ T5.heap.size := Nat.le_trans Z0 K5.1
  have K0 := K0.trans K5 all0
  have N5 := Fr.app N4 N5q
  obtain ⟨cq6, kq6, q6a, q6b, q6c⟩ := isOf hZ rfl E_b3
  obtain ⟨_, _, ⟨T6, L6, k6, n6⟩, -, X6, ⟨Lc6, hQ6, l6, y6, z6⟩, st6⟩ := X5.virtualBack hx (y := (⟨"com/example/driftline/driftline/model/Mutant", "counts", "(II)[I"⟩ : MethodName)) (z := (⟨"com/example/driftline/driftline/model/Mutant", "counts", "(II)[I"⟩ : MethodName)) hown (mvT hZ (hw _ (List.mem_of_getElem? (i := 23) rfl))) (mvT hZ (hw _ (List.mem_of_getElem? (i := 24) rfl))) (notFace_of_selects (args := #[]) (mvT hZ (hw _ (List.mem_of_getElem? (i := 26) rfl)))) (mvT hZ (hw _ (List.mem_of_getElem? (i := 26) rfl))) (mvT hZ (hw _ (List.mem_of_getElem? (i := 25) rfl))) (by decide) (backOf (W := 0) (rm5 l Z a0 hw [] b3 ns siz mm rr T5.heap n0 Z0 F_b3_mutant F_b3_resident (own_nn (Int.le_trans (by decide) RN.1)) (own_cap (Int.le_trans (by decide) RN.1) RN.2.1) (own_lt RM.1 RN.2.2.1) (own_lt RR.1.1 RN.2.2.2)) hZ (hw _ (List.mem_of_getElem? (i := 27) rfl)) (hw _ (List.mem_of_getElem? (i := 7) rfl)) (by decide) (by decide)) q6a q6c (g := (mkF m 85 #[.val (.int p1), .val (.int p2), .val (.int p3), .val (.int p4), .val (.int p5), .val (.int mm), .val (.int rr), .val (.int ns), .val (.int siz), .val (.ref b3), .val (.ref ba), .unset, .unset, .unset] [(.int siz), (.int ns), (.ref b3)])) rfl (by rw [hml]; rfl) (Steps.refl _) (argsL := [(.int ns), (.int siz)]) (rest := []) (lenOf pd_3 rfl) rfl (by show 2 * 0 + _ ≤ _; exact Nat.le_of_eq rfl) (hb hby at_85) (fun _ _ => ⟨rfl, rfl, (by decide : 2 + 1 ≤ _), (by decide : 17 + 15 ≤ _)⟩)
  dsimp only [Pt.U, Pt.locs, Pt.cells, Pt.slots] at X6 l6 y6 z6 st6 hQ6
  subst l6 y6 z6
  have lt6_b3 : b3 < T5.heap.size := E_b3.lt
  have lt6_ba : ba < T5.heap.size := V_ba.lt
  obtain ⟨bb, gg_6, rfl, d_bb, sz6, N6q, K6, V_bb_new⟩ := hQ6
  have E_b3 := E_b3.keep K6
  have F_b3_mutant := F_b3_mutant.keep K6 nin0
  have F_b3_resident := F_b3_resident.keep K6 nin0
  have V_ba := V_ba.keep K6 nin0
  have V_bb := V_bb_new
  have g_bb : n0 ≤ bb := Nat.le_trans Z0 sz6
  have sz_bb : h0.size ≤ bb := Nat.le_trans K0.1 sz6
  have ne_b3_bb : b3 ≠ bb := Nat.ne_of_lt (Nat.lt_of_lt_of_le lt6_b3 sz6)
  have ne_ba_bb : ba ≠ bb := Nat.ne_of_lt (Nat.lt_of_lt_of_le lt6_ba sz6)
  have Z0 : n0 ≤ T6.heap.size := Nat.le_trans Z0 K6.1
  have K0 := K0.trans K6 all0
  have N6 := Fr.app N5 N6q
  have V_tmp := V_ba
  obtain ⟨cl7, Ar7, S7, n7, H7⟩ := V_tmp
  have hc114 : ns = ns := rfl
  have V_tmp := V_ba
  obtain ⟨cl8, Ar8, S8, n8, H8⟩ := V_tmp
  have hin8 : ¬ (mm < 0 ∨ cl8.slots.size ≤ (mm).toNatClampNeg) := inb_of S8 (own_lt RM.1 RN.2.2.1)
  have hat8 : cl8.slots[(mm).toNatClampNeg]? = some (.int (gg_5 mm)) := H8 _ hin8
  have hc125 : (gg_5 mm) = (1 : Int32) := by rw [d_ba]; exact (if_neg (fun (z : mm = rr) => RR.2 (congrArg Int32.toInt z.symm))).trans (if_pos rfl)
  have V_tmp := V_ba
  obtain ⟨cl9, Ar9, S9, n9, H9⟩ := V_tmp
  have hin9 : ¬ (rr < 0 ∨ cl9.slots.size ≤ (rr).toNatClampNeg) := inb_of S9 (own_lt RR.1.1 RN.2.2.2)
  have hat9 : cl9.slots[(rr).toNatClampNeg]? = some (.int (gg_5 rr)) := H9 _ hin9
  have hc137 : (gg_5 rr) = (siz - (1 : Int32)) := by rw [d_ba]; exact if_pos rfl
  obtain ⟨kk, d_kk⟩ : ∃ z : Int32, z = ((p5 &&& (2147483647 : Int32)) % ns) := ⟨_, rfl⟩
  have RK := own_kk p5 ns kk RN.1 d_kk
  obtain ⟨ex, d_ex⟩ : ∃ z : Int32, z = (if kk = mm then (1 : Int32) else (if kk = rr then (siz - (1 : Int32)) else (0 : Int32))) := ⟨_, rfl⟩
  have j10 : ∀ t, Steps p.tables e below (T6.setTop (mkF m 178 #[.val (.int p1), .val (.int p2), .val (.int p3), .val (.int p4), .val (.int p5), .val (.int mm), .val (.int rr), .val (.int ns), .val (.int siz), .val (.ref b3), .val (.ref ba), .val (.ref bb), .val (.int kk), .unset] [(.int ex)])) t → Steps p.tables e below (T6.setTop (mkF m 156 #[.val (.int p1), .val (.int p2), .val (.int p3), .val (.int p4), .val (.int p5), .val (.int mm), .val (.int rr), .val (.int ns), .val (.int siz), .val (.ref b3), .val (.ref ba), .val (.ref bb), .val (.int kk), .unset] [(.int mm), (.int kk)])) t := by
    intro t k
    by_cases hj156 : kk = mm
    · have q_ex : ex = (1 : Int32) := by rw [d_ex, if_pos hj156]
      show Steps p.tables e below (T6.setTop (mkF m 156 #[.val (.int p1), .val (.int p2), .val (.int p3), .val (.int p4), .val (.int p5), .val (.int mm), .val (.int rr), .val (.int ns), .val (.int siz), .val (.ref b3), .val (.ref ba), .val (.ref bb), .val (.int kk), .unset] [(.int mm), (.int kk)])) _
      refine XS.icmpNo X6.here hx rfl (hb hby at_156) rfl (teq hj156).2 ?_
      show Steps p.tables e below (T6.setTop (mkF m 159 #[.val (.int p1), .val (.int p2), .val (.int p3), .val (.int p4), .val (.int p5), .val (.int mm), .val (.int rr), .val (.int ns), .val (.int siz), .val (.ref b3), .val (.ref ba), .val (.ref bb), .val (.int kk), .unset] [])) _
      refine XS.iconst X6.here hx rfl (hb hby at_159) ?_
      show Steps p.tables e below (T6.setTop (mkF m 160 #[.val (.int p1), .val (.int p2), .val (.int p3), .val (.int p4), .val (.int p5), .val (.int mm), .val (.int rr), .val (.int ns), .val (.int siz), .val (.ref b3), .val (.ref ba), .val (.ref bb), .val (.int kk), .unset] [(.int (1 : Int32))])) _
      refine XS.goto X6.here hx rfl (pc0 := 160) (pc' := 178) rfl (hb hby at_160) (by decide) (by decide) ?_
      rw [q_ex] at k
      exact k
    · show Steps p.tables e below (T6.setTop (mkF m 156 #[.val (.int p1), .val (.int p2), .val (.int p3), .val (.int p4), .val (.int p5), .val (.int mm), .val (.int rr), .val (.int ns), .val (.int siz), .val (.ref b3), .val (.ref ba), .val (.ref bb), .val (.int kk), .unset] [(.int mm), (.int kk)])) _
      refine XS.icmpYes X6.here hx rfl (pc0 := 156) (pc' := 163) rfl (hb hby at_156) rfl (feq hj156).2 (by decide) (by decide) ?_
      show Steps p.tables e below (T6.setTop (mkF m 163 #[.val (.int p1), .val (.int p2), .val (.int p3), .val (.int p4), .val (.int p5), .val (.int mm), .val (.int rr), .val (.int ns), .val (.int siz), .val (.ref b3), .val (.ref ba), .val (.ref bb), .val (.int kk), .unset] [])) _
      refine XS.iload X6.here hx rfl (hb hby at_163) rfl ?_
      show Steps p.tables e below (T6.setTop (mkF m 165 #[.val (.int p1), .val (.int p2), .val (.int p3), .val (.int p4), .val (.int p5), .val (.int mm), .val (.int rr), .val (.int ns), .val (.int siz), .val (.ref b3), .val (.ref ba), .val (.ref bb), .val (.int kk), .unset] [(.int kk)])) _
      refine XS.iload X6.here hx rfl (hb hby at_165) rfl ?_
      by_cases hj167 : kk = rr
      · have q_ex : ex = (siz - (1 : Int32)) := by rw [d_ex, if_neg hj156, if_pos hj167]
        show Steps p.tables e below (T6.setTop (mkF m 167 #[.val (.int p1), .val (.int p2), .val (.int p3), .val (.int p4), .val (.int p5), .val (.int mm), .val (.int rr), .val (.int ns), .val (.int siz), .val (.ref b3), .val (.ref ba), .val (.ref bb), .val (.int kk), .unset] [(.int rr), (.int kk)])) _
        refine XS.icmpNo X6.here hx rfl (hb hby at_167) rfl (teq hj167).2 ?_
        show Steps p.tables e below (T6.setTop (mkF m 170 #[.val (.int p1), .val (.int p2), .val (.int p3), .val (.int p4), .val (.int p5), .val (.int mm), .val (.int rr), .val (.int ns), .val (.int siz), .val (.ref b3), .val (.ref ba), .val (.ref bb), .val (.int kk), .unset] [])) _
        refine XS.iload X6.here hx rfl (hb hby at_170) rfl ?_
        show Steps p.tables e below (T6.setTop (mkF m 172 #[.val (.int p1), .val (.int p2), .val (.int p3), .val (.int p4), .val (.int p5), .val (.int mm), .val (.int rr), .val (.int ns), .val (.int siz), .val (.ref b3), .val (.ref ba), .val (.ref bb), .val (.int kk), .unset] [(.int siz)])) _
        refine XS.iconst X6.here hx rfl (hb hby at_172) ?_
        show Steps p.tables e below (T6.setTop (mkF m 173 #[.val (.int p1), .val (.int p2), .val (.int p3), .val (.int p4), .val (.int p5), .val (.int mm), .val (.int rr), .val (.int ns), .val (.int siz), .val (.ref b3), .val (.ref ba), .val (.ref bb), .val (.int kk), .unset] [(.int (1 : Int32)), (.int siz)])) _
        refine XS.isub X6.here hx rfl (hb hby at_173) rfl ?_
        show Steps p.tables e below (T6.setTop (mkF m 174 #[.val (.int p1), .val (.int p2), .val (.int p3), .val (.int p4), .val (.int p5), .val (.int mm), .val (.int rr), .val (.int ns), .val (.int siz), .val (.ref b3), .val (.ref ba), .val (.ref bb), .val (.int kk), .unset] [(.int (siz - (1 : Int32)))])) _
        refine XS.goto X6.here hx rfl (pc0 := 174) (pc' := 178) rfl (hb hby at_174) (by decide) (by decide) ?_
        rw [q_ex] at k
        exact k
      · have q_ex : ex = (0 : Int32) := by rw [d_ex, if_neg hj156, if_neg hj167]
        show Steps p.tables e below (T6.setTop (mkF m 167 #[.val (.int p1), .val (.int p2), .val (.int p3), .val (.int p4), .val (.int p5), .val (.int mm), .val (.int rr), .val (.int ns), .val (.int siz), .val (.ref b3), .val (.ref ba), .val (.ref bb), .val (.int kk), .unset] [(.int rr), (.int kk)])) _
        refine XS.icmpYes X6.here hx rfl (pc0 := 167) (pc' := 177) rfl (hb hby at_167) rfl (feq hj167).2 (by decide) (by decide) ?_
        show Steps p.tables e below (T6.setTop (mkF m 177 #[.val (.int p1), .val (.int p2), .val (.int p3), .val (.int p4), .val (.int p5), .val (.int mm), .val (.int rr), .val (.int ns), .val (.int siz), .val (.ref b3), .val (.ref ba), .val (.ref bb), .val (.int kk), .unset] [])) _
        refine XS.iconst X6.here hx rfl (hb hby at_177) ?_
        rw [q_ex] at k
        exact k
  have V_tmp := V_ba
  obtain ⟨cl11, Ar11, S11, n11, H11⟩ := V_tmp
  have hin11 : ¬ (kk < 0 ∨ cl11.slots.size ≤ (kk).toNatClampNeg) := inb_of S11 (own_lt RK.1 RK.2)
  have hat11 : cl11.slots[(kk).toNatClampNeg]? = some (.int (gg_5 kk)) := H11 _ hin11
  have hc187 : (gg_5 kk) = ex := by
    rw [d_ba, d_ex]
    by_cases q1 : kk = mm
    · rw [if_pos q1]; exact (if_neg (fun (z : kk = rr) => RR.2 (congrArg Int32.toInt (z.symm.trans q1)))).trans (if_pos q1)
    · rw [if_neg q1]
      by_cases q2 : kk = rr
      · rw [if_pos q2]; exact if_pos q2
      · rw [if_neg q2]; exact (if_neg q2).trans (if_neg q1)
  obtain ⟨fs, hr, hrun, hended, hW, hsame⟩ := X6.leave (v := some (.int (1 : Int32))) (fun h => by rw [Bd.returns] at h; cases h)
  refine ⟨_, _, ?_, hrun, hended, _, _, rfl, ?_, ⟨_, rfl⟩, hW, hsame.mono (by decide) (by decide)⟩
  · show Steps p.tables e below (s₁.setTop (mkF m 0 #[.val (.int p1), .val (.int p2), .val (.int p3), .val (.int p4), .val (.int p5), .unset, .unset, .unset, .unset, .unset, .unset, .unset, .unset, .unset] [])) _
    refine XS.iloadN X0.here hx rfl (hb hby at_0) rfl ?_
    show Steps p.tables e below (s₁.setTop (mkF m 1 #[.val (.int p1), .val (.int p2), .val (.int p3), .val (.int p4), .val (.int p5), .unset, .unset, .unset, .unset, .unset, .unset, .unset, .unset, .unset] [(.int p1)])) _
    refine XS.bipush X0.here hx rfl (hb hby at_1) ?_
    show Steps p.tables e below (s₁.setTop (mkF m 3 #[.val (.int p1), .val (.int p2), .val (.int p3), .val (.int p4), .val (.int p5), .unset, .unset, .unset, .unset, .unset, .unset, .unset, .unset, .unset] [(.int (7 : Int32)), (.int p1)])) _
    refine XS.iand X0.here hx rfl (hb hby at_3) rfl ?_
    show Steps p.tables e below (s₁.setTop (mkF m 4 #[.val (.int p1), .val (.int p2), .val (.int p3), .val (.int p4), .val (.int p5), .unset, .unset, .unset, .unset, .unset, .unset, .unset, .unset, .unset] [(.int (p1 &&& (7 : Int32)))])) _
    rw [← d_mm]
    show Steps p.tables e below (s₁.setTop (mkF m 4 #[.val (.int p1), .val (.int p2), .val (.int p3), .val (.int p4), .val (.int p5), .unset, .unset, .unset, .unset, .unset, .unset, .unset, .unset, .unset] [(.int mm)])) _
    refine XS.istore X0.here hx rfl (hb hby at_4) rfl (l' := #[.val (.int p1), .val (.int p2), .val (.int p3), .val (.int p4), .val (.int p5), .val (.int mm), .unset, .unset, .unset, .unset, .unset, .unset, .unset, .unset]) rfl ?_
    show Steps p.tables e below (s₁.setTop (mkF m 6 #[.val (.int p1), .val (.int p2), .val (.int p3), .val (.int p4), .val (.int p5), .val (.int mm), .unset, .unset, .unset, .unset, .unset, .unset, .unset, .unset] [])) _
    refine XS.iload X0.here hx rfl (hb hby at_6) rfl ?_
    show Steps p.tables e below (s₁.setTop (mkF m 8 #[.val (.int p1), .val (.int p2), .val (.int p3), .val (.int p4), .val (.int p5), .val (.int mm), .unset, .unset, .unset, .unset, .unset, .unset, .unset, .unset] [(.int mm)])) _
    refine XS.iconst X0.here hx rfl (hb hby at_8) ?_
    show Steps p.tables e below (s₁.setTop (mkF m 9 #[.val (.int p1), .val (.int p2), .val (.int p3), .val (.int p4), .val (.int p5), .val (.int mm), .unset, .unset, .unset, .unset, .unset, .unset, .unset, .unset] [(.int (1 : Int32)), (.int mm)])) _
    refine XS.iadd X0.here hx rfl (hb hby at_9) rfl ?_
    show Steps p.tables e below (s₁.setTop (mkF m 10 #[.val (.int p1), .val (.int p2), .val (.int p3), .val (.int p4), .val (.int p5), .val (.int mm), .unset, .unset, .unset, .unset, .unset, .unset, .unset, .unset] [(.int (mm + (1 : Int32)))])) _
    refine XS.iloadN X0.here hx rfl (hb hby at_10) rfl ?_
    show Steps p.tables e below (s₁.setTop (mkF m 11 #[.val (.int p1), .val (.int p2), .val (.int p3), .val (.int p4), .val (.int p5), .val (.int mm), .unset, .unset, .unset, .unset, .unset, .unset, .unset, .unset] [(.int p2), (.int (mm + (1 : Int32)))])) _
    refine X0.ldcInt hx hown (mvT hZ (hw _ (List.mem_of_getElem? (i := 0) rfl))) (g := (mkF m 11 #[.val (.int p1), .val (.int p2), .val (.int p3), .val (.int p4), .val (.int p5), .val (.int mm), .unset, .unset, .unset, .unset, .unset, .unset, .unset, .unset] [(.int p2), (.int (mm + (1 : Int32)))])) rfl (hb hby at_11) _ ?_
    show Steps p.tables e below (s₁.setTop (mkF m 13 #[.val (.int p1), .val (.int p2), .val (.int p3), .val (.int p4), .val (.int p5), .val (.int mm), .unset, .unset, .unset, .unset, .unset, .unset, .unset, .unset] [(.int (2147483647 : Int32)), (.int p2), (.int (mm + (1 : Int32)))])) _
    refine XS.iand X0.here hx rfl (hb hby at_13) rfl ?_
    show Steps p.tables e below (s₁.setTop (mkF m 14 #[.val (.int p1), .val (.int p2), .val (.int p3), .val (.int p4), .val (.int p5), .val (.int mm), .unset, .unset, .unset, .unset, .unset, .unset, .unset, .unset] [(.int (p2 &&& (2147483647 : Int32))), (.int (mm + (1 : Int32)))])) _
    refine XS.bipush X0.here hx rfl (hb hby at_14) ?_
    show Steps p.tables e below (s₁.setTop (mkF m 16 #[.val (.int p1), .val (.int p2), .val (.int p3), .val (.int p4), .val (.int p5), .val (.int mm), .unset, .unset, .unset, .unset, .unset, .unset, .unset, .unset] [(.int (7 : Int32)), (.int (p2 &&& (2147483647 : Int32))), (.int (mm + (1 : Int32)))])) _
    refine iremM X0 hx rfl (hb hby at_16) rfl (by decide) ?_
    show Steps p.tables e below (s₁.setTop (mkF m 17 #[.val (.int p1), .val (.int p2), .val (.int p3), .val (.int p4), .val (.int p5), .val (.int mm), .unset, .unset, .unset, .unset, .unset, .unset, .unset, .unset] [(.int ((p2 &&& (2147483647 : Int32)) % (7 : Int32))), (.int (mm + (1 : Int32)))])) _
    refine XS.iadd X0.here hx rfl (hb hby at_17) rfl ?_
    show Steps p.tables e below (s₁.setTop (mkF m 18 #[.val (.int p1), .val (.int p2), .val (.int p3), .val (.int p4), .val (.int p5), .val (.int mm), .unset, .unset, .unset, .unset, .unset, .unset, .unset, .unset] [(.int ((mm + (1 : Int32)) + ((p2 &&& (2147483647 : Int32)) % (7 : Int32))))])) _
    refine XS.bipush X0.here hx rfl (hb hby at_18) ?_
    show Steps p.tables e below (s₁.setTop (mkF m 20 #[.val (.int p1), .val (.int p2), .val (.int p3), .val (.int p4), .val (.int p5), .val (.int mm), .unset, .unset, .unset, .unset, .unset, .unset, .unset, .unset] [(.int (8 : Int32)), (.int ((mm + (1 : Int32)) + ((p2 &&& (2147483647 : Int32)) % (7 : Int32))))])) _
    refine iremM X0 hx rfl (hb hby at_20) rfl (by decide) ?_
    show Steps p.tables e below (s₁.setTop (mkF m 21 #[.val (.int p1), .val (.int p2), .val (.int p3), .val (.int p4), .val (.int p5), .val (.int mm), .unset, .unset, .unset, .unset, .unset, .unset, .unset, .unset] [(.int (((mm + (1 : Int32)) + ((p2 &&& (2147483647 : Int32)) % (7 : Int32))) % (8 : Int32)))])) _
    rw [← d_rr]
    show Steps p.tables e below (s₁.setTop (mkF m 21 #[.val (.int p1), .val (.int p2), .val (.int p3), .val (.int p4), .val (.int p5), .val (.int mm), .unset, .unset, .unset, .unset, .unset, .unset, .unset, .unset] [(.int rr)])) _
    refine XS.istore X0.here hx rfl (hb hby at_21) rfl (l' := #[.val (.int p1), .val (.int p2), .val (.int p3), .val (.int p4), .val (.int p5), .val (.int mm), .val (.int rr), .unset, .unset, .unset, .unset, .unset, .unset, .unset]) rfl ?_
    show Steps p.tables e below (s₁.setTop (mkF m 23 #[.val (.int p1), .val (.int p2), .val (.int p3), .val (.int p4), .val (.int p5), .val (.int mm), .val (.int rr), .unset, .unset, .unset, .unset, .unset, .unset, .unset] [])) _
    refine XS.iload X0.here hx rfl (hb hby at_23) rfl ?_
    show Steps p.tables e below (s₁.setTop (mkF m 25 #[.val (.int p1), .val (.int p2), .val (.int p3), .val (.int p4), .val (.int p5), .val (.int mm), .val (.int rr), .unset, .unset, .unset, .unset, .unset, .unset, .unset] [(.int mm)])) _
    refine XS.iload X0.here hx rfl (hb hby at_25) rfl ?_
    show Steps p.tables e below (s₁.setTop (mkF m 27 #[.val (.int p1), .val (.int p2), .val (.int p3), .val (.int p4), .val (.int p5), .val (.int mm), .val (.int rr), .unset, .unset, .unset, .unset, .unset, .unset, .unset] [(.int rr), (.int mm)])) _
    refine st1 _ ?_
    show Steps p.tables e below (T1.setTop (mkF m 30 #[.val (.int p1), .val (.int p2), .val (.int p3), .val (.int p4), .val (.int p5), .val (.int mm), .val (.int rr), .unset, .unset, .unset, .unset, .unset, .unset, .unset] [(.int mv)])) _
    refine XS.iconst X1.here hx rfl (hb hby at_30) ?_
    show Steps p.tables e below (T1.setTop (mkF m 31 #[.val (.int p1), .val (.int p2), .val (.int p3), .val (.int p4), .val (.int p5), .val (.int mm), .val (.int rr), .unset, .unset, .unset, .unset, .unset, .unset, .unset] [(.int (1 : Int32)), (.int mv)])) _
    refine XS.iadd X1.here hx rfl (hb hby at_31) rfl ?_
    show Steps p.tables e below (T1.setTop (mkF m 32 #[.val (.int p1), .val (.int p2), .val (.int p3), .val (.int p4), .val (.int p5), .val (.int mm), .val (.int rr), .unset, .unset, .unset, .unset, .unset, .unset, .unset] [(.int (mv + (1 : Int32)))])) _
    refine XS.iloadN X1.here hx rfl (hb hby at_32) rfl ?_
    show Steps p.tables e below (T1.setTop (mkF m 33 #[.val (.int p1), .val (.int p2), .val (.int p3), .val (.int p4), .val (.int p5), .val (.int mm), .val (.int rr), .unset, .unset, .unset, .unset, .unset, .unset, .unset] [(.int p3), (.int (mv + (1 : Int32)))])) _
    refine XS.bipush X1.here hx rfl (hb hby at_33) ?_
    show Steps p.tables e below (T1.setTop (mkF m 35 #[.val (.int p1), .val (.int p2), .val (.int p3), .val (.int p4), .val (.int p5), .val (.int mm), .val (.int rr), .unset, .unset, .unset, .unset, .unset, .unset, .unset] [(.int (7 : Int32)), (.int p3), (.int (mv + (1 : Int32)))])) _
    refine XS.iand X1.here hx rfl (hb hby at_35) rfl ?_
    show Steps p.tables e below (T1.setTop (mkF m 36 #[.val (.int p1), .val (.int p2), .val (.int p3), .val (.int p4), .val (.int p5), .val (.int mm), .val (.int rr), .unset, .unset, .unset, .unset, .unset, .unset, .unset] [(.int (p3 &&& (7 : Int32))), (.int (mv + (1 : Int32)))])) _
    refine XS.iadd X1.here hx rfl (hb hby at_36) rfl ?_
    show Steps p.tables e below (T1.setTop (mkF m 37 #[.val (.int p1), .val (.int p2), .val (.int p3), .val (.int p4), .val (.int p5), .val (.int mm), .val (.int rr), .unset, .unset, .unset, .unset, .unset, .unset, .unset] [(.int ((mv + (1 : Int32)) + (p3 &&& (7 : Int32))))])) _
    rw [← d_ns]
    show Steps p.tables e below (T1.setTop (mkF m 37 #[.val (.int p1), .val (.int p2), .val (.int p3), .val (.int p4), .val (.int p5), .val (.int mm), .val (.int rr), .unset, .unset, .unset, .unset, .unset, .unset, .unset] [(.int ns)])) _
    refine XS.istore X1.here hx rfl (hb hby at_37) rfl (l' := #[.val (.int p1), .val (.int p2), .val (.int p3), .val (.int p4), .val (.int p5), .val (.int mm), .val (.int rr), .val (.int ns), .unset, .unset, .unset, .unset, .unset, .unset]) rfl ?_
    show Steps p.tables e below (T1.setTop (mkF m 39 #[.val (.int p1), .val (.int p2), .val (.int p3), .val (.int p4), .val (.int p5), .val (.int mm), .val (.int rr), .val (.int ns), .unset, .unset, .unset, .unset, .unset, .unset] [])) _
    refine XS.iloadN X1.here hx rfl (hb hby at_39) rfl ?_
    show Steps p.tables e below (T1.setTop (mkF m 40 #[.val (.int p1), .val (.int p2), .val (.int p3), .val (.int p4), .val (.int p5), .val (.int mm), .val (.int rr), .val (.int ns), .unset, .unset, .unset, .unset, .unset, .unset] [(.int p4)])) _
    refine XS.iconst X1.here hx rfl (hb hby at_40) ?_
    show Steps p.tables e below (T1.setTop (mkF m 41 #[.val (.int p1), .val (.int p2), .val (.int p3), .val (.int p4), .val (.int p5), .val (.int mm), .val (.int rr), .val (.int ns), .unset, .unset, .unset, .unset, .unset, .unset] [(.int (2 : Int32)), (.int p4)])) _
    refine j2 _ ?_
    show Steps p.tables e below (T1.setTop (mkF m 53 #[.val (.int p1), .val (.int p2), .val (.int p3), .val (.int p4), .val (.int p5), .val (.int mm), .val (.int rr), .val (.int ns), .unset, .unset, .unset, .unset, .unset, .unset] [(.int siz)])) _
    refine XS.istore X1.here hx rfl (hb hby at_53) rfl (l' := #[.val (.int p1), .val (.int p2), .val (.int p3), .val (.int p4), .val (.int p5), .val (.int mm), .val (.int rr), .val (.int ns), .val (.int siz), .unset, .unset, .unset, .unset, .unset]) rfl ?_
    show Steps p.tables e below (T1.setTop (mkF m 55 #[.val (.int p1), .val (.int p2), .val (.int p3), .val (.int p4), .val (.int p5), .val (.int mm), .val (.int rr), .val (.int ns), .val (.int siz), .unset, .unset, .unset, .unset, .unset] [])) _
    refine st3 _ ?_
    show Steps p.tables e below (T3.setTop (mkF m 58 #[.val (.int p1), .val (.int p2), .val (.int p3), .val (.int p4), .val (.int p5), .val (.int mm), .val (.int rr), .val (.int ns), .val (.int siz), .unset, .unset, .unset, .unset, .unset] [(.ref b3)])) _
    refine XS.dup X3.here hx rfl (hb hby at_58) rfl rfl ?_
    show Steps p.tables e below (T3.setTop (mkF m 59 #[.val (.int p1), .val (.int p2), .val (.int p3), .val (.int p4), .val (.int p5), .val (.int mm), .val (.int rr), .val (.int ns), .val (.int siz), .unset, .unset, .unset, .unset, .unset] [(.ref b3), (.ref b3)])) _
    refine XS.iload X3.here hx rfl (hb hby at_59) rfl ?_
    show Steps p.tables e below (T3.setTop (mkF m 61 #[.val (.int p1), .val (.int p2), .val (.int p3), .val (.int p4), .val (.int p5), .val (.int mm), .val (.int rr), .val (.int ns), .val (.int siz), .unset, .unset, .unset, .unset, .unset] [(.int mm), (.ref b3), (.ref b3)])) _
    refine XS.iload X3.here hx rfl (hb hby at_61) rfl ?_
    show Steps p.tables e below (T3.setTop (mkF m 63 #[.val (.int p1), .val (.int p2), .val (.int p3), .val (.int p4), .val (.int p5), .val (.int mm), .val (.int rr), .val (.int ns), .val (.int siz), .unset, .unset, .unset, .unset, .unset] [(.int rr), (.int mm), (.ref b3), (.ref b3)])) _
    refine st4.trans ?_
    show Steps p.tables e below (T4.setTop (mkF m 66 #[.val (.int p1), .val (.int p2), .val (.int p3), .val (.int p4), .val (.int p5), .val (.int mm), .val (.int rr), .val (.int ns), .val (.int siz), .unset, .unset, .unset, .unset, .unset] [(.ref b3)])) _
    refine XS.astore X4.here hx rfl (hb hby at_66) rfl rfl (l' := #[.val (.int p1), .val (.int p2), .val (.int p3), .val (.int p4), .val (.int p5), .val (.int mm), .val (.int rr), .val (.int ns), .val (.int siz), .val (.ref b3), .unset, .unset, .unset, .unset]) rfl ?_
    show Steps p.tables e below (T4.setTop (mkF m 68 #[.val (.int p1), .val (.int p2), .val (.int p3), .val (.int p4), .val (.int p5), .val (.int mm), .val (.int rr), .val (.int ns), .val (.int siz), .val (.ref b3), .unset, .unset, .unset, .unset] [])) _
    refine XS.aload X4.here hx rfl (hb hby at_68) rfl rfl ?_
    show Steps p.tables e below (T4.setTop (mkF m 70 #[.val (.int p1), .val (.int p2), .val (.int p3), .val (.int p4), .val (.int p5), .val (.int mm), .val (.int rr), .val (.int ns), .val (.int siz), .val (.ref b3), .unset, .unset, .unset, .unset] [(.ref b3)])) _
    refine XS.iload X4.here hx rfl (hb hby at_70) rfl ?_
    show Steps p.tables e below (T4.setTop (mkF m 72 #[.val (.int p1), .val (.int p2), .val (.int p3), .val (.int p4), .val (.int p5), .val (.int mm), .val (.int rr), .val (.int ns), .val (.int siz), .val (.ref b3), .unset, .unset, .unset, .unset] [(.int ns), (.ref b3)])) _
    refine XS.iload X4.here hx rfl (hb hby at_72) rfl ?_
    show Steps p.tables e below (T4.setTop (mkF m 74 #[.val (.int p1), .val (.int p2), .val (.int p3), .val (.int p4), .val (.int p5), .val (.int mm), .val (.int rr), .val (.int ns), .val (.int siz), .val (.ref b3), .unset, .unset, .unset, .unset] [(.int siz), (.int ns), (.ref b3)])) _
    refine st5.trans ?_
    show Steps p.tables e below (T5.setTop (mkF m 77 #[.val (.int p1), .val (.int p2), .val (.int p3), .val (.int p4), .val (.int p5), .val (.int mm), .val (.int rr), .val (.int ns), .val (.int siz), .val (.ref b3), .unset, .unset, .unset, .unset] [(.ref ba)])) _
    refine XS.astore X5.here hx rfl (hb hby at_77) rfl rfl (l' := #[.val (.int p1), .val (.int p2), .val (.int p3), .val (.int p4), .val (.int p5), .val (.int mm), .val (.int rr), .val (.int ns), .val (.int siz), .val (.ref b3), .val (.ref ba), .unset, .unset, .unset]) rfl ?_
    show Steps p.tables e below (T5.setTop (mkF m 79 #[.val (.int p1), .val (.int p2), .val (.int p3), .val (.int p4), .val (.int p5), .val (.int mm), .val (.int rr), .val (.int ns), .val (.int siz), .val (.ref b3), .val (.ref ba), .unset, .unset, .unset] [])) _
    refine XS.aload X5.here hx rfl (hb hby at_79) rfl rfl ?_
    show Steps p.tables e below (T5.setTop (mkF m 81 #[.val (.int p1), .val (.int p2), .val (.int p3), .val (.int p4), .val (.int p5), .val (.int mm), .val (.int rr), .val (.int ns), .val (.int siz), .val (.ref b3), .val (.ref ba), .unset, .unset, .unset] [(.ref b3)])) _
    refine XS.iload X5.here hx rfl (hb hby at_81) rfl ?_
    show Steps p.tables e below (T5.setTop (mkF m 83 #[.val (.int p1), .val (.int p2), .val (.int p3), .val (.int p4), .val (.int p5), .val (.int mm), .val (.int rr), .val (.int ns), .val (.int siz), .val (.ref b3), .val (.ref ba), .unset, .unset, .unset] [(.int ns), (.ref b3)])) _
    refine XS.iload X5.here hx rfl (hb hby at_83) rfl ?_
    show Steps p.tables e below (T5.setTop (mkF m 85 #[.val (.int p1), .val (.int p2), .val (.int p3), .val (.int p4), .val (.int p5), .val (.int mm), .val (.int rr), .val (.int ns), .val (.int siz), .val (.ref b3), .val (.ref ba), .unset, .unset, .unset] [(.int siz), (.int ns), (.ref b3)])) _
    refine st6.trans ?_
    show Steps p.tables e below (T6.setTop (mkF m 88 #[.val (.int p1), .val (.int p2), .val (.int p3), .val (.int p4), .val (.int p5), .val (.int mm), .val (.int rr), .val (.int ns), .val (.int siz), .val (.ref b3), .val (.ref ba), .unset, .unset, .unset] [(.ref bb)])) _
    refine XS.astore X6.here hx rfl (hb hby at_88) rfl rfl (l' := #[.val (.int p1), .val (.int p2), .val (.int p3), .val (.int p4), .val (.int p5), .val (.int mm), .val (.int rr), .val (.int ns), .val (.int siz), .val (.ref b3), .val (.ref ba), .val (.ref bb), .unset, .unset]) rfl ?_
    show Steps p.tables e below (T6.setTop (mkF m 90 #[.val (.int p1), .val (.int p2), .val (.int p3), .val (.int p4), .val (.int p5), .val (.int mm), .val (.int rr), .val (.int ns), .val (.int siz), .val (.ref b3), .val (.ref ba), .val (.ref bb), .unset, .unset] [])) _
    refine XS.aload X6.here hx rfl (hb hby at_90) rfl rfl ?_
    show Steps p.tables e below (T6.setTop (mkF m 92 #[.val (.int p1), .val (.int p2), .val (.int p3), .val (.int p4), .val (.int p5), .val (.int mm), .val (.int rr), .val (.int ns), .val (.int siz), .val (.ref b3), .val (.ref ba), .val (.ref bb), .unset, .unset] [(.ref ba)])) _
    refine XS.ifnullNo X6.here hx rfl (hb hby at_92) rfl ?_
    show Steps p.tables e below (T6.setTop (mkF m 95 #[.val (.int p1), .val (.int p2), .val (.int p3), .val (.int p4), .val (.int p5), .val (.int mm), .val (.int rr), .val (.int ns), .val (.int siz), .val (.ref b3), .val (.ref ba), .val (.ref bb), .unset, .unset] [])) _
    refine XS.aload X6.here hx rfl (hb hby at_95) rfl rfl ?_
    show Steps p.tables e below (T6.setTop (mkF m 97 #[.val (.int p1), .val (.int p2), .val (.int p3), .val (.int p4), .val (.int p5), .val (.int mm), .val (.int rr), .val (.int ns), .val (.int siz), .val (.ref b3), .val (.ref ba), .val (.ref bb), .unset, .unset] [(.ref bb)])) _
    refine XS.ifnullNo X6.here hx rfl (hb hby at_97) rfl ?_
    show Steps p.tables e below (T6.setTop (mkF m 100 #[.val (.int p1), .val (.int p2), .val (.int p3), .val (.int p4), .val (.int p5), .val (.int mm), .val (.int rr), .val (.int ns), .val (.int siz), .val (.ref b3), .val (.ref ba), .val (.ref bb), .unset, .unset] [])) _
    refine XS.aload X6.here hx rfl (hb hby at_100) rfl rfl ?_
    show Steps p.tables e below (T6.setTop (mkF m 102 #[.val (.int p1), .val (.int p2), .val (.int p3), .val (.int p4), .val (.int p5), .val (.int mm), .val (.int rr), .val (.int ns), .val (.int siz), .val (.ref b3), .val (.ref ba), .val (.ref bb), .unset, .unset] [(.ref ba)])) _
    refine XS.aload X6.here hx rfl (hb hby at_102) rfl rfl ?_
    show Steps p.tables e below (T6.setTop (mkF m 104 #[.val (.int p1), .val (.int p2), .val (.int p3), .val (.int p4), .val (.int p5), .val (.int mm), .val (.int rr), .val (.int ns), .val (.int siz), .val (.ref b3), .val (.ref ba), .val (.ref bb), .unset, .unset] [(.ref bb), (.ref ba)])) _
    refine Jvm.RoadKit.acmp (g := (mkF m 104 #[.val (.int p1), .val (.int p2), .val (.int p3), .val (.int p4), .val (.int p5), .val (.int mm), .val (.int rr), .val (.int ns), .val (.int siz), .val (.ref b3), .val (.ref ba), .val (.ref bb), .unset, .unset] [(.ref bb), (.ref ba)])) X6 hx rfl rfl rfl (pc0 := 104) (pc' := 109) (same := false) rfl (hb hby at_104) rfl (decide_eq_false fun q => ne_ba_bb (Value.ref.inj q)) (by decide) (by decide) ?_
    show Steps p.tables e below (T6.setTop (mkF m 109 #[.val (.int p1), .val (.int p2), .val (.int p3), .val (.int p4), .val (.int p5), .val (.int mm), .val (.int rr), .val (.int ns), .val (.int siz), .val (.ref b3), .val (.ref ba), .val (.ref bb), .unset, .unset] [])) _
    refine XS.aload X6.here hx rfl (hb hby at_109) rfl rfl ?_
    show Steps p.tables e below (T6.setTop (mkF m 111 #[.val (.int p1), .val (.int p2), .val (.int p3), .val (.int p4), .val (.int p5), .val (.int mm), .val (.int rr), .val (.int ns), .val (.int siz), .val (.ref b3), .val (.ref ba), .val (.ref bb), .unset, .unset] [(.ref ba)])) _
    refine X6.arraylength hx Ar7.1 (State.isArrayOf_alike hZ.alike Ar7.2.1) (g := (mkF m 111 #[.val (.int p1), .val (.int p2), .val (.int p3), .val (.int p4), .val (.int p5), .val (.int mm), .val (.int rr), .val (.int ns), .val (.int siz), .val (.ref b3), .val (.ref ba), .val (.ref bb), .unset, .unset] [(.ref ba)])) rfl rfl (hb hby at_111) _ ?_
    rw [len_of S7 n7]
    show Steps p.tables e below (T6.setTop (mkF m 112 #[.val (.int p1), .val (.int p2), .val (.int p3), .val (.int p4), .val (.int p5), .val (.int mm), .val (.int rr), .val (.int ns), .val (.int siz), .val (.ref b3), .val (.ref ba), .val (.ref bb), .unset, .unset] [(.int ns)])) _
    refine XS.iload X6.here hx rfl (hb hby at_112) rfl ?_
    show Steps p.tables e below (T6.setTop (mkF m 114 #[.val (.int p1), .val (.int p2), .val (.int p3), .val (.int p4), .val (.int p5), .val (.int mm), .val (.int rr), .val (.int ns), .val (.int siz), .val (.ref b3), .val (.ref ba), .val (.ref bb), .unset, .unset] [(.int ns), (.int ns)])) _
    refine XS.icmpYes X6.here hx rfl (pc0 := 114) (pc' := 119) rfl (hb hby at_114) rfl (teq hc114).1 (by decide) (by decide) ?_
    show Steps p.tables e below (T6.setTop (mkF m 119 #[.val (.int p1), .val (.int p2), .val (.int p3), .val (.int p4), .val (.int p5), .val (.int mm), .val (.int rr), .val (.int ns), .val (.int siz), .val (.ref b3), .val (.ref ba), .val (.ref bb), .unset, .unset] [])) _
    refine XS.aload X6.here hx rfl (hb hby at_119) rfl rfl ?_
    show Steps p.tables e below (T6.setTop (mkF m 121 #[.val (.int p1), .val (.int p2), .val (.int p3), .val (.int p4), .val (.int p5), .val (.int mm), .val (.int rr), .val (.int ns), .val (.int siz), .val (.ref b3), .val (.ref ba), .val (.ref bb), .unset, .unset] [(.ref ba)])) _
    refine XS.iload X6.here hx rfl (hb hby at_121) rfl ?_
    show Steps p.tables e below (T6.setTop (mkF m 123 #[.val (.int p1), .val (.int p2), .val (.int p3), .val (.int p4), .val (.int p5), .val (.int mm), .val (.int rr), .val (.int ns), .val (.int siz), .val (.ref b3), .val (.ref ba), .val (.ref bb), .unset, .unset] [(.int mm), (.ref ba)])) _
    refine X6.iaload hx (j := mm) (v := (.int (gg_5 mm))) Ar8.1 (State.isArrayOf_alike hZ.alike Ar8.2.1) Ar8.2.2 hin8 hat8 (g := (mkF m 123 #[.val (.int p1), .val (.int p2), .val (.int p3), .val (.int p4), .val (.int p5), .val (.int mm), .val (.int rr), .val (.int ns), .val (.int siz), .val (.ref b3), .val (.ref ba), .val (.ref bb), .unset, .unset] [(.int mm), (.ref ba)])) rfl rfl (hb hby at_123) _ ?_
    show Steps p.tables e below (T6.setTop (mkF m 124 #[.val (.int p1), .val (.int p2), .val (.int p3), .val (.int p4), .val (.int p5), .val (.int mm), .val (.int rr), .val (.int ns), .val (.int siz), .val (.ref b3), .val (.ref ba), .val (.ref bb), .unset, .unset] [(.int (gg_5 mm))])) _
    refine XS.iconst X6.here hx rfl (hb hby at_124) ?_
    show Steps p.tables e below (T6.setTop (mkF m 125 #[.val (.int p1), .val (.int p2), .val (.int p3), .val (.int p4), .val (.int p5), .val (.int mm), .val (.int rr), .val (.int ns), .val (.int siz), .val (.ref b3), .val (.ref ba), .val (.ref bb), .unset, .unset] [(.int (1 : Int32)), (.int (gg_5 mm))])) _
    refine XS.icmpNo X6.here hx rfl (hb hby at_125) rfl (teq hc125).2 ?_
    show Steps p.tables e below (T6.setTop (mkF m 128 #[.val (.int p1), .val (.int p2), .val (.int p3), .val (.int p4), .val (.int p5), .val (.int mm), .val (.int rr), .val (.int ns), .val (.int siz), .val (.ref b3), .val (.ref ba), .val (.ref bb), .unset, .unset] [])) _
    refine XS.aload X6.here hx rfl (hb hby at_128) rfl rfl ?_
    show Steps p.tables e below (T6.setTop (mkF m 130 #[.val (.int p1), .val (.int p2), .val (.int p3), .val (.int p4), .val (.int p5), .val (.int mm), .val (.int rr), .val (.int ns), .val (.int siz), .val (.ref b3), .val (.ref ba), .val (.ref bb), .unset, .unset] [(.ref ba)])) _
    refine XS.iload X6.here hx rfl (hb hby at_130) rfl ?_
    show Steps p.tables e below (T6.setTop (mkF m 132 #[.val (.int p1), .val (.int p2), .val (.int p3), .val (.int p4), .val (.int p5), .val (.int mm), .val (.int rr), .val (.int ns), .val (.int siz), .val (.ref b3), .val (.ref ba), .val (.ref bb), .unset, .unset] [(.int rr), (.ref ba)])) _
    refine X6.iaload hx (j := rr) (v := (.int (gg_5 rr))) Ar9.1 (State.isArrayOf_alike hZ.alike Ar9.2.1) Ar9.2.2 hin9 hat9 (g := (mkF m 132 #[.val (.int p1), .val (.int p2), .val (.int p3), .val (.int p4), .val (.int p5), .val (.int mm), .val (.int rr), .val (.int ns), .val (.int siz), .val (.ref b3), .val (.ref ba), .val (.ref bb), .unset, .unset] [(.int rr), (.ref ba)])) rfl rfl (hb hby at_132) _ ?_
    show Steps p.tables e below (T6.setTop (mkF m 133 #[.val (.int p1), .val (.int p2), .val (.int p3), .val (.int p4), .val (.int p5), .val (.int mm), .val (.int rr), .val (.int ns), .val (.int siz), .val (.ref b3), .val (.ref ba), .val (.ref bb), .unset, .unset] [(.int (gg_5 rr))])) _
    refine XS.iload X6.here hx rfl (hb hby at_133) rfl ?_
    show Steps p.tables e below (T6.setTop (mkF m 135 #[.val (.int p1), .val (.int p2), .val (.int p3), .val (.int p4), .val (.int p5), .val (.int mm), .val (.int rr), .val (.int ns), .val (.int siz), .val (.ref b3), .val (.ref ba), .val (.ref bb), .unset, .unset] [(.int siz), (.int (gg_5 rr))])) _
    refine XS.iconst X6.here hx rfl (hb hby at_135) ?_
    show Steps p.tables e below (T6.setTop (mkF m 136 #[.val (.int p1), .val (.int p2), .val (.int p3), .val (.int p4), .val (.int p5), .val (.int mm), .val (.int rr), .val (.int ns), .val (.int siz), .val (.ref b3), .val (.ref ba), .val (.ref bb), .unset, .unset] [(.int (1 : Int32)), (.int siz), (.int (gg_5 rr))])) _
    refine XS.isub X6.here hx rfl (hb hby at_136) rfl ?_
    show Steps p.tables e below (T6.setTop (mkF m 137 #[.val (.int p1), .val (.int p2), .val (.int p3), .val (.int p4), .val (.int p5), .val (.int mm), .val (.int rr), .val (.int ns), .val (.int siz), .val (.ref b3), .val (.ref ba), .val (.ref bb), .unset, .unset] [(.int (siz - (1 : Int32))), (.int (gg_5 rr))])) _
    refine XS.icmpYes X6.here hx rfl (pc0 := 137) (pc' := 142) rfl (hb hby at_137) rfl (teq hc137).1 (by decide) (by decide) ?_
    show Steps p.tables e below (T6.setTop (mkF m 142 #[.val (.int p1), .val (.int p2), .val (.int p3), .val (.int p4), .val (.int p5), .val (.int mm), .val (.int rr), .val (.int ns), .val (.int siz), .val (.ref b3), .val (.ref ba), .val (.ref bb), .unset, .unset] [])) _
    refine XS.iload X6.here hx rfl (hb hby at_142) rfl ?_
    show Steps p.tables e below (T6.setTop (mkF m 144 #[.val (.int p1), .val (.int p2), .val (.int p3), .val (.int p4), .val (.int p5), .val (.int mm), .val (.int rr), .val (.int ns), .val (.int siz), .val (.ref b3), .val (.ref ba), .val (.ref bb), .unset, .unset] [(.int p5)])) _
    refine X6.ldcInt hx hown (mvT hZ (hw _ (List.mem_of_getElem? (i := 0) rfl))) (g := (mkF m 144 #[.val (.int p1), .val (.int p2), .val (.int p3), .val (.int p4), .val (.int p5), .val (.int mm), .val (.int rr), .val (.int ns), .val (.int siz), .val (.ref b3), .val (.ref ba), .val (.ref bb), .unset, .unset] [(.int p5)])) rfl (hb hby at_144) _ ?_
    show Steps p.tables e below (T6.setTop (mkF m 146 #[.val (.int p1), .val (.int p2), .val (.int p3), .val (.int p4), .val (.int p5), .val (.int mm), .val (.int rr), .val (.int ns), .val (.int siz), .val (.ref b3), .val (.ref ba), .val (.ref bb), .unset, .unset] [(.int (2147483647 : Int32)), (.int p5)])) _
    refine XS.iand X6.here hx rfl (hb hby at_146) rfl ?_
    show Steps p.tables e below (T6.setTop (mkF m 147 #[.val (.int p1), .val (.int p2), .val (.int p3), .val (.int p4), .val (.int p5), .val (.int mm), .val (.int rr), .val (.int ns), .val (.int siz), .val (.ref b3), .val (.ref ba), .val (.ref bb), .unset, .unset] [(.int (p5 &&& (2147483647 : Int32)))])) _
    refine XS.iload X6.here hx rfl (hb hby at_147) rfl ?_
    show Steps p.tables e below (T6.setTop (mkF m 149 #[.val (.int p1), .val (.int p2), .val (.int p3), .val (.int p4), .val (.int p5), .val (.int mm), .val (.int rr), .val (.int ns), .val (.int siz), .val (.ref b3), .val (.ref ba), .val (.ref bb), .unset, .unset] [(.int ns), (.int (p5 &&& (2147483647 : Int32)))])) _
    refine iremM X6 hx rfl (hb hby at_149) rfl (own_nz RN.1) ?_
    show Steps p.tables e below (T6.setTop (mkF m 150 #[.val (.int p1), .val (.int p2), .val (.int p3), .val (.int p4), .val (.int p5), .val (.int mm), .val (.int rr), .val (.int ns), .val (.int siz), .val (.ref b3), .val (.ref ba), .val (.ref bb), .unset, .unset] [(.int ((p5 &&& (2147483647 : Int32)) % ns))])) _
    rw [← d_kk]
    show Steps p.tables e below (T6.setTop (mkF m 150 #[.val (.int p1), .val (.int p2), .val (.int p3), .val (.int p4), .val (.int p5), .val (.int mm), .val (.int rr), .val (.int ns), .val (.int siz), .val (.ref b3), .val (.ref ba), .val (.ref bb), .unset, .unset] [(.int kk)])) _
    refine XS.istore X6.here hx rfl (hb hby at_150) rfl (l' := #[.val (.int p1), .val (.int p2), .val (.int p3), .val (.int p4), .val (.int p5), .val (.int mm), .val (.int rr), .val (.int ns), .val (.int siz), .val (.ref b3), .val (.ref ba), .val (.ref bb), .val (.int kk), .unset]) rfl ?_
    show Steps p.tables e below (T6.setTop (mkF m 152 #[.val (.int p1), .val (.int p2), .val (.int p3), .val (.int p4), .val (.int p5), .val (.int mm), .val (.int rr), .val (.int ns), .val (.int siz), .val (.ref b3), .val (.ref ba), .val (.ref bb), .val (.int kk), .unset] [])) _
    refine XS.iload X6.here hx rfl (hb hby at_152) rfl ?_
    show Steps p.tables e below (T6.setTop (mkF m 154 #[.val (.int p1), .val (.int p2), .val (.int p3), .val (.int p4), .val (.int p5), .val (.int mm), .val (.int rr), .val (.int ns), .val (.int siz), .val (.ref b3), .val (.ref ba), .val (.ref bb), .val (.int kk), .unset] [(.int kk)])) _
    refine XS.iload X6.here hx rfl (hb hby at_154) rfl ?_
    show Steps p.tables e below (T6.setTop (mkF m 156 #[.val (.int p1), .val (.int p2), .val (.int p3), .val (.int p4), .val (.int p5), .val (.int mm), .val (.int rr), .val (.int ns), .val (.int siz), .val (.ref b3), .val (.ref ba), .val (.ref bb), .val (.int kk), .unset] [(.int mm), (.int kk)])) _
    refine j10 _ ?_
    show Steps p.tables e below (T6.setTop (mkF m 178 #[.val (.int p1), .val (.int p2), .val (.int p3), .val (.int p4), .val (.int p5), .val (.int mm), .val (.int rr), .val (.int ns), .val (.int siz), .val (.ref b3), .val (.ref ba), .val (.ref bb), .val (.int kk), .unset] [(.int ex)])) _
    refine XS.istore X6.here hx rfl (hb hby at_178) rfl (l' := #[.val (.int p1), .val (.int p2), .val (.int p3), .val (.int p4), .val (.int p5), .val (.int mm), .val (.int rr), .val (.int ns), .val (.int siz), .val (.ref b3), .val (.ref ba), .val (.ref bb), .val (.int kk), .val (.int ex)]) rfl ?_
    show Steps p.tables e below (T6.setTop (mkF m 180 #[.val (.int p1), .val (.int p2), .val (.int p3), .val (.int p4), .val (.int p5), .val (.int mm), .val (.int rr), .val (.int ns), .val (.int siz), .val (.ref b3), .val (.ref ba), .val (.ref bb), .val (.int kk), .val (.int ex)] [])) _
    refine XS.aload X6.here hx rfl (hb hby at_180) rfl rfl ?_
    show Steps p.tables e below (T6.setTop (mkF m 182 #[.val (.int p1), .val (.int p2), .val (.int p3), .val (.int p4), .val (.int p5), .val (.int mm), .val (.int rr), .val (.int ns), .val (.int siz), .val (.ref b3), .val (.ref ba), .val (.ref bb), .val (.int kk), .val (.int ex)] [(.ref ba)])) _
    refine XS.iload X6.here hx rfl (hb hby at_182) rfl ?_
    show Steps p.tables e below (T6.setTop (mkF m 184 #[.val (.int p1), .val (.int p2), .val (.int p3), .val (.int p4), .val (.int p5), .val (.int mm), .val (.int rr), .val (.int ns), .val (.int siz), .val (.ref b3), .val (.ref ba), .val (.ref bb), .val (.int kk), .val (.int ex)] [(.int kk), (.ref ba)])) _
    refine X6.iaload hx (j := kk) (v := (.int (gg_5 kk))) Ar11.1 (State.isArrayOf_alike hZ.alike Ar11.2.1) Ar11.2.2 hin11 hat11 (g := (mkF m 184 #[.val (.int p1), .val (.int p2), .val (.int p3), .val (.int p4), .val (.int p5), .val (.int mm), .val (.int rr), .val (.int ns), .val (.int siz), .val (.ref b3), .val (.ref ba), .val (.ref bb), .val (.int kk), .val (.int ex)] [(.int kk), (.ref ba)])) rfl rfl (hb hby at_184) _ ?_
    show Steps p.tables e below (T6.setTop (mkF m 185 #[.val (.int p1), .val (.int p2), .val (.int p3), .val (.int p4), .val (.int p5), .val (.int mm), .val (.int rr), .val (.int ns), .val (.int siz), .val (.ref b3), .val (.ref ba), .val (.ref bb), .val (.int kk), .val (.int ex)] [(.int (gg_5 kk))])) _
    refine XS.iload X6.here hx rfl (hb hby at_185) rfl ?_
    show Steps p.tables e below (T6.setTop (mkF m 187 #[.val (.int p1), .val (.int p2), .val (.int p3), .val (.int p4), .val (.int p5), .val (.int mm), .val (.int rr), .val (.int ns), .val (.int siz), .val (.ref b3), .val (.ref ba), .val (.ref bb), .val (.int kk), .val (.int ex)] [(.int ex), (.int (gg_5 kk))])) _
    refine XS.icmpNo X6.here hx rfl (hb hby at_187) rfl (teq hc187).2 ?_
    show Steps p.tables e below (T6.setTop (mkF m 190 #[.val (.int p1), .val (.int p2), .val (.int p3), .val (.int p4), .val (.int p5), .val (.int mm), .val (.int rr), .val (.int ns), .val (.int siz), .val (.ref b3), .val (.ref ba), .val (.ref bb), .val (.int kk), .val (.int ex)] [])) _
    refine XS.iconst X6.here hx rfl (hb hby at_190) ?_
    show Steps p.tables e below (T6.setTop (mkF m 191 #[.val (.int p1), .val (.int p2), .val (.int p3), .val (.int p4), .val (.int p5), .val (.int mm), .val (.int rr), .val (.int ns), .val (.int siz), .val (.ref b3), .val (.ref ba), .val (.ref bb), .val (.int kk), .val (.int ex)] [(.int (1 : Int32))])) _
    refine XS.goto X6.here hx rfl (pc0 := 191) (pc' := 195) rfl (hb hby at_191) (by decide) (by decide) ?_
    show Steps p.tables e below (T6.setTop (mkF m 195 #[.val (.int p1), .val (.int p2), .val (.int p3), .val (.int p4), .val (.int p5), .val (.int mm), .val (.int rr), .val (.int ns), .val (.int siz), .val (.ref b3), .val (.ref ba), .val (.ref bb), .val (.int kk), .val (.int ex)] [(.int (1 : Int32))])) _
    exact retN X6 hx (t := .boolean) Bd.returns (by simp) (hb hby at_195) hr
  · show Q0 Z p1 p2 p3 p4 p5 h0 n0 _ T6.heap _
    exact ⟨rfl, N6⟩
set_option maxRecDepth 65536 in
set_option maxHeartbeats 40000000 in
theorem comes_1 {Post : Tables → Env → Array Value → State → Outcome → State → Prop} (hpost : ∀ tb e args s v u, (limb_1_1.after args s (.returned v) u = true ∧ limb_1_2.after args s (.returned v) u = true ∧ True) → FrameEnd s (.returned v) u (Jvm.fieldLocs frame_1_writes args s ++ Jvm.arrayLocs frame_1_arrays args s ++ Jvm.staticLocs frame_1_statics s) 16 128 → Post tb e args s (.returned v) u) :
    ArmFor flags0 classFile x code maxLocals ret World_1 tables_1 room_1 Calls_1 rest_1 Pre_1 Post := by
  intro l hfl _ _ p e ha hc hk s m args below hf hA hF happ hP
  obtain ⟨hcalls, hrest, hpre⟩ := hP
  obtain ⟨-, -, -, hnamed, -, -, -, hat⟩ := (Spec.applies_iff hf).mp happ
  obtain ⟨hg, hn⟩ := and_e (Cond.before_iff.mp (show (Jvm.Cond.and given_1 narrow_1).before args s = true from hpre))
  obtain ⟨hct, hg⟩ := and_e hg
  obtain ⟨ga0, hg⟩ := and_e hg
  obtain ⟨ga1, hg⟩ := and_e hg
  obtain ⟨ga2, hg⟩ := and_e hg
  obtain ⟨ga3, hg⟩ := and_e hg
  have ga4 := hg
  obtain ⟨w0, w1, w2, w3, w4, rfl⟩ : ∃ w0 w1 w2 w3 w4 : Value, args = #[w0, w1, w2, w3, w4] := by
    have hs : args.size = 5 := by simpa [Cond.value, given_1] using hct
    obtain ⟨L⟩ := args
    match L, hs with
    | [w0, w1, w2, w3, w4], _ => exact ⟨w0, w1, w2, w3, w4, rfl⟩
  have hw := fun d (hd : d ∈ tables_1) => atoms_spec (ws := Jvm.Cond.code x code maxLocals ret :: tables_1) hat d (List.mem_cons_of_mem _ hd)
  obtain ⟨i0, ei0⟩ := is_v ga0
  obtain rfl : w0 = (.int i0) := Option.some.inj ei0
  obtain ⟨i1, ei1⟩ := is_v ga1
  obtain rfl : w1 = (.int i1) := Option.some.inj ei1
  obtain ⟨i2, ei2⟩ := is_v ga2
  obtain rfl : w2 = (.int i2) := Option.some.inj ei2
  obtain ⟨i3, ei3⟩ := is_v ga3
  obtain rfl : w3 = (.int i3) := Option.some.inj ei3
  obtain ⟨i4, ei4⟩ := is_v ga4
  obtain rfl : w4 = (.int i4) := Option.some.inj ei4
  obtain ⟨n, o, h1, h2, h3, _, L, rfl, ⟨rfl, N⟩, hq⟩ := rm0 l s _ hw tables_1 i0 i1 i2 i3 i4 s.heap s.heap.size (Nat.le_refl _)  p e ha hc hk s m _ below hf ((Spec.applies_iff_loose hf).mp happ).1 ⟨rfl, State.Warmed39.refl s, rfl⟩ trivial
  refine ⟨n, _, h1, h2, h3, hpost _ _ _ _ _ _ ⟨Cond.after_iff.mpr rfl, Cond.after_iff.mpr (eq_i res_at (Term.int_eval (1)) rfl), trivial⟩ ⟨hq.1, hq.2.1, (hq.2.2.sift fun y hy => Or.inr (N y hy)).mono (by decide) (by decide)⟩⟩
theorem main_1_1 : Claimed_1_1 := comes_1 fun _ _ _ _ _ _ h hF => ⟨h.1, hF⟩
theorem main_1_2 : Claimed_1_2 := comes_1 fun _ _ _ _ _ _ h hF => ⟨h.2.1, hF⟩
end Jvm.Pilot.@@N@@
namespace Jvm.Pilot.@@N@@
open Jvm Jvm.ClassFile Sem Op Lib Jvm.Free Jvm.Stand Jvm.Pilot.@@N@@.Jvm.D
/-! MADE BY PROGRAM (witnessworld.py) out of the Statement's table words and the real class files: 11 classes; the members and pool entries that the words name. The judged class is class 1, her method 1. -/
namespace start1
open Jvm.ClassFile
def u (s : String) : CpInfo := .utf8 (stringToUtf16 s)
/-- a pool by its gaps: so many unusable entries, then the entry; so many at the end -/
def gap : Nat → List CpInfo → List CpInfo
  | 0, r => r
  | n + 1, r => .unusable :: gap n r
def poolList (es : List (Nat × CpInfo)) (last : Nat) : List CpInfo := es.foldr (fun e r => gap e.1 (e.2 :: r)) (gap last [])
def pool (es : List (Nat × CpInfo)) (last : Nat) : Array CpInfo := ⟨poolList es last⟩
def fileOf (pool : Array CpInfo) (this : Nat) (attrs : Array Attribute := #[]) (ms : Array MethodInfo := #[]) (fl : Nat := 33) (sup : Nat := 0) (ifs : Array Nat := #[]) (fds : Array FieldInfo := #[]) : ClassFile where
  minorVersion := 0
  majorVersion := 65
  constantPool := pool
  accessFlags := fl
  thisClass := this
  superClass := sup
  interfaces := ifs
  fields := fds
  methods := ms
  attributes := attrs
def plain (name : String) (sup : Option ClassId) : Class where
  name := name
  kind := .ordinary
  loader := none
  accessFlags := 33
  super := sup
  interfaces := #[]
  cf := none
  fields := #[]
  methods := #[]
  instanceTypes := #[]
  staticTypes := #[]
  resolved := #[]
  callSites := []
  init := .initialized
  statics := none
  mirror := none

def pool0 : Array CpInfo := pool [(5, u "<init>"), (0, u "()V"), (1, .class_ 10), (1, u "java/lang/Object")] 113

def k0c0 : Code := { maxStack := 0, maxLocals := 1, code := object_method_1_code, exceptionTable := #[], attributes := #[] }
def k0m0 : Method := { name := "<init>", desc := "()V", sig := { parameters := [], returnType := none }, accessFlags := 1, code := some k0c0 }
/-- java/lang/Object -/
def k0 : Class := { plain "java/lang/Object" none with
  accessFlags := 33
  interfaces := #[]
  cf := some (fileOf pool0 8 #[] #[{ accessFlags := 1, nameIndex := 5, descriptorIndex := 6, attributes := #[] }] 33 0 #[] #[])
  fields := #[]
  methods := #[k0m0]
  instanceTypes := #[]
  staticTypes := #[]
  resolved := Array.replicate 124 none
  statics := none }

def pool1 : Array CpInfo := pool [(2, .class_ 4), (1, u "java/lang/Object"), (0, u "<init>"), (0, u "()V"), (0, .integer 2147483647), (0, .methodref 9 10), (0, .class_ 11), (0, .nameAndType 12 13), (0, u "java/lang/Math"), (0, u "max"), (0, u "(II)I"), (0, .class_ 15), (0, u "com/example/driftline/driftline/model/Mutant"), (0, .methodref 14 17), (0, .nameAndType 5 18), (0, u "(II)V"), (0, .methodref 14 20), (0, .nameAndType 21 22), (0, u "counts"), (0, u "(II)[I"), (0, .class_ 24), (0, u "com/example/driftline/driftline/model/MutantCountsPinLaw"), (2, u "law"), (0, u "(IIIII)Z")] 5

def k1m0 : Method := { name := "<init>", desc := "()V", sig := { parameters := [], returnType := none }, accessFlags := 2, code := none }
def k1c1 : Code := { maxStack := 4, maxLocals := 14, code := code, exceptionTable := #[], attributes := #[] }
def k1m1 : Method := { name := "law", desc := "(IIIII)Z", sig := { parameters := [.int, .int, .int, .int, .int], returnType := some .boolean }, accessFlags := 9, code := some k1c1 }
/-- com/example/driftline/driftline/model/MutantCountsPinLaw -/
def k1 : Class := { plain "com/example/driftline/driftline/model/MutantCountsPinLaw" (some 0) with
  accessFlags := 49
  interfaces := #[]
  cf := some (fileOf pool1 23 #[] #[{ accessFlags := 2, nameIndex := 5, descriptorIndex := 6, attributes := #[] }, { accessFlags := 9, nameIndex := 27, descriptorIndex := 28, attributes := #[] }] 49 2 #[] #[])
  fields := #[]
  methods := #[k1m0, k1m1]
  instanceTypes := #[]
  staticTypes := #[]
  resolved := Array.replicate 34 none
  statics := none }

def pool2 : Array CpInfo := pool [(1, .class_ 2), (0, u "java/lang/Math"), (1, .class_ 6), (1, u "java/lang/Object"), (0, u "<init>"), (0, u "()V"), (89, .class_ 100), (1, u "java/lang/Math$RandomNumberGeneratorHolder"), (71, u "negativeZeroFloatBits"), (0, u "J"), (2, u "negativeZeroDoubleBits"), (21, u "max"), (46, u "$assertionsDisabled"), (0, u "Z"), (88, u "(II)I"), (2, u "twoToTheDoubleScaleDown"), (0, u "D"), (4, u "twoToTheDoubleScaleUp"), (9, u "E"), (3, u "PI"), (2, u "TAU"), (2, u "DEGREES_TO_RADIANS"), (0, u "RADIANS_TO_DEGREES")] 94

def k2m0 : Method := { name := "<init>", desc := "()V", sig := { parameters := [], returnType := none }, accessFlags := 2, code := none }
def k2c1 : Code := { maxStack := 2, maxLocals := 2, code := jdk_29_method_65_code, exceptionTable := #[], attributes := #[] }
def k2m1 : Method := { name := "max", desc := "(II)I", sig := { parameters := [.int, .int], returnType := some .int }, accessFlags := 9, code := some k2c1 }
/-- java/lang/Math -/
def k2 : Class := { plain "java/lang/Math" (some 0) with
  accessFlags := 49
  interfaces := #[]
  cf := some (fileOf pool2 1 #[.nestMembers #[98]] #[{ accessFlags := 2, nameIndex := 7, descriptorIndex := 8, attributes := #[] }, { accessFlags := 9, nameIndex := 198, descriptorIndex := 335, attributes := #[] }] 49 4 #[] #[{ accessFlags := 25, nameIndex := 354, descriptorIndex := 339, attributes := #[] }, { accessFlags := 25, nameIndex := 358, descriptorIndex := 339, attributes := #[] }, { accessFlags := 25, nameIndex := 361, descriptorIndex := 339, attributes := #[] }, { accessFlags := 26, nameIndex := 364, descriptorIndex := 339, attributes := #[] }, { accessFlags := 26, nameIndex := 365, descriptorIndex := 339, attributes := #[] }, { accessFlags := 26, nameIndex := 172, descriptorIndex := 173, attributes := #[] }, { accessFlags := 26, nameIndex := 176, descriptorIndex := 173, attributes := #[] }, { accessFlags := 8, nameIndex := 344, descriptorIndex := 339, attributes := #[] }, { accessFlags := 8, nameIndex := 338, descriptorIndex := 339, attributes := #[] }, { accessFlags := 4120, nameIndex := 245, descriptorIndex := 246, attributes := #[] }])
  fields := #[{ name := "E", type := .double, accessFlags := 25, slot := 0, constantValue := 0 }, { name := "PI", type := .double, accessFlags := 25, slot := 1, constantValue := 0 }, { name := "TAU", type := .double, accessFlags := 25, slot := 2, constantValue := 0 }, { name := "DEGREES_TO_RADIANS", type := .double, accessFlags := 26, slot := 3, constantValue := 0 }, { name := "RADIANS_TO_DEGREES", type := .double, accessFlags := 26, slot := 4, constantValue := 0 }, { name := "negativeZeroFloatBits", type := .long, accessFlags := 26, slot := 5, constantValue := 0 }, { name := "negativeZeroDoubleBits", type := .long, accessFlags := 26, slot := 6, constantValue := 0 }, { name := "twoToTheDoubleScaleUp", type := .double, accessFlags := 8, slot := 7, constantValue := 0 }, { name := "twoToTheDoubleScaleDown", type := .double, accessFlags := 8, slot := 8, constantValue := 0 }, { name := "$assertionsDisabled", type := .boolean, accessFlags := 4120, slot := 9, constantValue := 0 }]
  methods := #[k2m0, k2m1]
  instanceTypes := #[]
  staticTypes := #[.double, .double, .double, .double, .double, .long, .long, .double, .double, .boolean]
  resolved := Array.replicate 460 none
  statics := none }

def pool3 : Array CpInfo := pool [(1, .methodref 2 3), (0, .class_ 4), (0, .nameAndType 5 6), (0, u "java/lang/Object"), (0, u "<init>"), (0, u "()V"), (0, .class_ 8), (0, u "java/lang/Record")] 13

def k3c0 : Code := { maxStack := 1, maxLocals := 1, code := jdk_30_method_1_code, exceptionTable := #[], attributes := #[] }
def k3m0 : Method := { name := "<init>", desc := "()V", sig := { parameters := [], returnType := none }, accessFlags := 4, code := some k3c0 }
/-- java/lang/Record -/
def k3 : Class := { plain "java/lang/Record" (some 0) with
  accessFlags := 1057
  interfaces := #[]
  cf := some (fileOf pool3 7 #[] #[{ accessFlags := 4, nameIndex := 5, descriptorIndex := 6, attributes := #[] }] 1057 2 #[] #[])
  fields := #[]
  methods := #[k3m0]
  instanceTypes := #[]
  staticTypes := #[]
  resolved := Array.replicate 22 none
  statics := none }

def pool4 : Array CpInfo := pool [(1, .methodref 2 3), (0, .class_ 4), (0, .nameAndType 5 6), (0, u "java/lang/Record"), (0, u "<init>"), (0, u "()V"), (9, .fieldref 17 18), (0, .class_ 19), (0, .nameAndType 20 21), (0, u "com/example/driftline/driftline/model/Mutant"), (0, u "mutant"), (0, u "I"), (0, .fieldref 17 23), (0, .nameAndType 24 21), (0, u "resident"), (12, u "(II)V"), (18, u "counts"), (0, u "(II)[I")] 32

def k4c0 : Code := { maxStack := 4, maxLocals := 3, code := prog_26_method_1_code, exceptionTable := #[], attributes := #[] }
def k4m0 : Method := { name := "<init>", desc := "(II)V", sig := { parameters := [.int, .int], returnType := none }, accessFlags := 1, code := some k4c0 }
def k4c1 : Code := { maxStack := 4, maxLocals := 4, code := prog_26_method_3_code, exceptionTable := #[], attributes := #[] }
def k4m1 : Method := { name := "counts", desc := "(II)[I", sig := { parameters := [.int, .int], returnType := some (.array .int) }, accessFlags := 1, code := some k4c1 }
/-- com/example/driftline/driftline/model/Mutant -/
def k4 : Class := { plain "com/example/driftline/driftline/model/Mutant" (some 3) with
  accessFlags := 49
  interfaces := #[]
  cf := some (fileOf pool4 17 #[] #[{ accessFlags := 1, nameIndex := 5, descriptorIndex := 37, attributes := #[] }, { accessFlags := 1, nameIndex := 56, descriptorIndex := 57, attributes := #[] }] 49 2 #[] #[{ accessFlags := 18, nameIndex := 20, descriptorIndex := 21, attributes := #[] }, { accessFlags := 18, nameIndex := 24, descriptorIndex := 21, attributes := #[] }])
  fields := #[{ name := "mutant", type := .int, accessFlags := 18, slot := 0, constantValue := 0 }, { name := "resident", type := .int, accessFlags := 18, slot := 1, constantValue := 0 }]
  methods := #[k4m0, k4m1]
  instanceTypes := #[.int, .int]
  staticTypes := #[]
  resolved := Array.replicate 90 none
  statics := none }

def pool5 : Array CpInfo := pool [(1, u "java/lang/Cloneable"), (0, .class_ 1), (0, u "java/lang/Object"), (0, .class_ 3)] 3

/-- java/lang/Cloneable -/
def k5 : Class := { plain "java/lang/Cloneable" (some 0) with
  accessFlags := 1537
  interfaces := #[]
  cf := some (fileOf pool5 2 #[] #[] 1537 4 #[] #[])
  fields := #[]
  methods := #[]
  instanceTypes := #[]
  staticTypes := #[]
  resolved := Array.replicate 8 none
  statics := none }

def pool6 : Array CpInfo := pool [(1, u "java/io/Serializable"), (0, .class_ 1), (0, u "java/lang/Object"), (0, .class_ 3)] 3

/-- java/io/Serializable -/
def k6 : Class := { plain "java/io/Serializable" (some 0) with
  accessFlags := 1537
  interfaces := #[]
  cf := some (fileOf pool6 2 #[] #[] 1537 4 #[] #[])
  fields := #[]
  methods := #[]
  instanceTypes := #[]
  staticTypes := #[]
  resolved := Array.replicate 8 none
  statics := none }

/-- the primitive byte -/
def k7 : Class := { plain "byte" none with kind := .primitive 'B', accessFlags := 0x411 }
/-- [B -/
def k8 : Class := { plain "[B" (some 0) with kind := .array 7 .byte, interfaces := #[5, 6], accessFlags := 1041 }

/-- the primitive int -/
def k9 : Class := { plain "int" none with kind := .primitive 'I', accessFlags := 0x411 }
/-- [I -/
def k10 : Class := { plain "[I" (some 0) with kind := .array 9 .int, interfaces := #[5, 6], accessFlags := 1041 }

def heap : Heap := #[]
def classes : Array Class := #[k0, k1, k2, k3, k4, k5, k6, k7, k8, k9, k10]
def interned : List (Array UInt16 × Addr) := []
def slotsUsed : Nat := 0
def theMethod : MethodId := ⟨1, 1⟩
def args0 : Array Value := #[.int 5, .int 2, .int 3, .int 9, .int 7]
def aboutOver (below : List Frame) : State where
  vm := { classes := classes, interned := interned.toArray }
  heap := heap
  slotsUsed := slotsUsed
  threads := #[{ frames := .invoking theMethod args0 :: below }]
def below0 : List Frame := [.native { method := ⟨0, 0⟩, args := #[] }]
def about1 : State := aboutOver below0
def p0 : Program := .bare "" "" ""
def e0 : Env := launch0.env 0 0 0
theorem w_frames : about1.frames = Frame.invoking theMethod args0 :: below0 := rfl
set_option maxRecDepth 65536 in
theorem w_args : argsFit about1.vm theMethod args0 = true := by decide +kernel
set_option maxRecDepth 65536 in
theorem w_heap : heapFits about1 = true := by decide +kernel
set_option maxRecDepth 65536 in
theorem w_runnable : about1.curStatus? = some .runnable := by decide +kernel
set_option maxRecDepth 65536 in
theorem w_alone : about1.alone = true := by decide +kernel
set_option maxRecDepth 65536 in
theorem w_named : about1.methodNamed? x = some theMethod := by decide +kernel
set_option maxRecDepth 65536 in
theorem w_hears : about1.hears theMethod below0 = true := by decide +kernel
set_option maxRecDepth 65536 in
theorem w_ripe : about1.ripe theMethod args0 below0 = true := by decide +kernel
theorem w_running : about1.status = .running := rfl
set_option maxRecDepth 65536 in
theorem w_room : about1.hasRoom e0.platform room_1 = true :=
  launch0.hasRoom_least _ room_1 (by decide +kernel) (by decide +kernel) (by decide +kernel) (by decide +kernel) (by decide +kernel) (by decide +kernel)
theorem allAtoms_all (ts : List Jvm.Cond) (a : Array Jvm.Value) (st : Jvm.State) : (allAtoms ts).before a st = ts.all (fun c => c.before a st) := by
  induction ts with
  | nil => rfl
  | cons c t ih =>
    show (Jvm.Cond.and c (allAtoms t)).before a st = _
    rw [Jvm.Cond.before_and, ih, List.all_cons]
def words1 : List Jvm.Cond := Jvm.Cond.code x code maxLocals ret :: tables_1
/-- a 'code' word, met by the world's own term for the bytes: nothing is compared byte by byte -/
theorem code_word {y : MethodName} {bytes : ByteArray} {mx : Nat} {rt : Option FieldType} {a : Array Value} {s : State} {m : MethodId} {meth : Method} {c : Code} (h1 : s.methodNamed? y = some m) (h2 : s.vm.method? m = some meth) (h3 : meth.code = some c) (h4 : c.code = bytes)
    (h5 : (c.maxLocals == mx && c.exceptionTable.isEmpty && decide (c.maxStack ≤ mostOperands) && decide (meth.sig.returnType = rt) && !meth.locks && decide (parseMethodDescriptor y.desc = some meth.sig)) = true) : (Jvm.Cond.code y bytes mx rt).before a s = true := by
  simp only [Bool.and_eq_true, beq_iff_eq, Bool.not_eq_true', decide_eq_true_eq] at h5
  obtain ⟨⟨⟨⟨⟨g1, g2⟩, g3⟩, g4⟩, g5⟩, g6⟩ := h5
  simp [Cond.before, Cond.holds, Cond.value, h1, h2, h3, h4, g1, g2, g3, g4, g5, g6]
def isCode : Jvm.Cond → Bool
  | .code _ _ _ _ => true
  | _ => false
theorem all_split {L : List Jvm.Cond} {P : Jvm.Cond → Bool} (h1 : L.all (fun c => isCode c || P c) = true) (h2 : ∀ c ∈ L.filter isCode, P c = true) : L.all P = true := by
  refine List.all_eq_true.mpr fun c hc => ?_
  have h := List.all_eq_true.mp h1 c hc
  rcases Bool.eq_false_or_eq_true (isCode c) with hi | hi
  · exact h2 c (List.mem_filter.mpr ⟨hc, hi⟩)
  · simpa [hi] using h
set_option maxRecDepth 65536 in
theorem w_c0 : (Jvm.Cond.code x code maxLocals ret).before args0 about1 = true := code_word (m := ⟨1, 1⟩) (meth := k1m1) (c := k1c1) (by decide +kernel) rfl rfl rfl (by decide +kernel)
set_option maxRecDepth 65536 in
theorem w_c1 : (Jvm.Cond.code ({ cls := "java/lang/Math", name := "max", desc := "(II)I" } : Jvm.MethodName) jdk_29_method_65_code (2 : Nat) (Option.some Jvm.ClassFile.FieldType.int)).before args0 about1 = true := code_word (m := ⟨2, 1⟩) (meth := k2m1) (c := k2c1) (by decide +kernel) rfl rfl rfl (by decide +kernel)
set_option maxRecDepth 65536 in
theorem w_c2 : (Jvm.Cond.code ({ cls := "com/example/driftline/driftline/model/Mutant", name := "<init>", desc := "(II)V" } : Jvm.MethodName) prog_26_method_1_code (3 : Nat) (Option.none : Option Jvm.ClassFile.FieldType)).before args0 about1 = true := code_word (m := ⟨4, 0⟩) (meth := k4m0) (c := k4c0) (by decide +kernel) rfl rfl rfl (by decide +kernel)
set_option maxRecDepth 65536 in
theorem w_c3 : (Jvm.Cond.code ({ cls := "java/lang/Record", name := "<init>", desc := "()V" } : Jvm.MethodName) jdk_30_method_1_code (1 : Nat) (Option.none : Option Jvm.ClassFile.FieldType)).before args0 about1 = true := code_word (m := ⟨3, 0⟩) (meth := k3m0) (c := k3c0) (by decide +kernel) rfl rfl rfl (by decide +kernel)
set_option maxRecDepth 65536 in
theorem w_c4 : (Jvm.Cond.code ({ cls := "java/lang/Object", name := "<init>", desc := "()V" } : Jvm.MethodName) object_method_1_code (1 : Nat) (Option.none : Option Jvm.ClassFile.FieldType)).before args0 about1 = true := code_word (m := ⟨0, 0⟩) (meth := k0m0) (c := k0c0) (by decide +kernel) rfl rfl rfl (by decide +kernel)
set_option maxRecDepth 65536 in
theorem w_c5 : (Jvm.Cond.code ({ cls := "com/example/driftline/driftline/model/Mutant", name := "counts", desc := "(II)[I" } : Jvm.MethodName) prog_26_method_3_code (4 : Nat) (Option.some (Jvm.ClassFile.FieldType.array Jvm.ClassFile.FieldType.int))).before args0 about1 = true := code_word (m := ⟨4, 1⟩) (meth := k4m1) (c := k4c1) (by decide +kernel) rfl rfl rfl (by decide +kernel)
def codes1 : List Jvm.Cond := [Jvm.Cond.code x code maxLocals ret, Jvm.Cond.code ({ cls := "java/lang/Math", name := "max", desc := "(II)I" } : Jvm.MethodName) jdk_29_method_65_code (2 : Nat) (Option.some Jvm.ClassFile.FieldType.int), Jvm.Cond.code ({ cls := "com/example/driftline/driftline/model/Mutant", name := "<init>", desc := "(II)V" } : Jvm.MethodName) prog_26_method_1_code (3 : Nat) (Option.none : Option Jvm.ClassFile.FieldType), Jvm.Cond.code ({ cls := "java/lang/Record", name := "<init>", desc := "()V" } : Jvm.MethodName) jdk_30_method_1_code (1 : Nat) (Option.none : Option Jvm.ClassFile.FieldType), Jvm.Cond.code ({ cls := "java/lang/Object", name := "<init>", desc := "()V" } : Jvm.MethodName) object_method_1_code (1 : Nat) (Option.none : Option Jvm.ClassFile.FieldType), Jvm.Cond.code ({ cls := "com/example/driftline/driftline/model/Mutant", name := "counts", desc := "(II)[I" } : Jvm.MethodName) prog_26_method_3_code (4 : Nat) (Option.some (Jvm.ClassFile.FieldType.array Jvm.ClassFile.FieldType.int))]
set_option maxRecDepth 65536 in
theorem codes_eq : words1.filter isCode = codes1 := rfl
theorem w_codes : ∀ c ∈ words1.filter isCode, c.before args0 about1 = true := by
  rw [codes_eq]
  intro c hc
  simp only [codes1, List.mem_cons, List.not_mem_nil, or_false] at hc
  rcases hc with rfl | rfl | rfl | rfl | rfl | rfl
  · exact w_c0
  · exact w_c1
  · exact w_c2
  · exact w_c3
  · exact w_c4
  · exact w_c5
set_option maxRecDepth 65536 in
theorem w_t1 : (words1.take 24).all (fun c => isCode c || c.before args0 about1) = true := by decide +kernel
set_option maxRecDepth 65536 in
theorem w_t2 : (words1.drop 24).all (fun c => isCode c || c.before args0 about1) = true := by decide +kernel
theorem w_tables : (allAtoms (Jvm.Cond.code x code maxLocals ret :: tables_1)).before args0 about1 = true := by
  rw [allAtoms_all]
  show words1.all (fun c => c.before args0 about1) = true
  refine all_split ?_ w_codes
  rw [← List.take_append_drop 24 words1, List.all_append, w_t1, w_t2]
  rfl
set_option maxRecDepth 65536 in
theorem w_case : (Jvm.Cond.and given_1 narrow_1).before args0 about1 = true := by decide +kernel
theorem w_applies : (headSpec (Jvm.Cond.code x code maxLocals ret :: tables_1) room_1).applies x e0.platform about1 = true :=
  (Spec.applies_iff w_frames).mpr ⟨w_running, w_runnable, w_alone, w_named, w_hears, w_ripe, w_room, w_tables⟩
theorem atStart : AtStart classFile x code maxLocals ret World_1 tables_1 room_1 Calls_1 rest_1 Pre_1 launch0 p0 e0 about1 theMethod args0 below0 :=
  ⟨lists_1, trivial, launch0.admits_env _ _ _, launch0.least_env, fairChoices_fair.cas, fairChoices_fair.clock, w_frames, w_args, w_heap, w_applies, trivial, trivial, w_case⟩
end start1
theorem witness_1 : WitnessClaimed_1 := ⟨start1.p0, start1.e0, start1.about1, start1.theMethod, start1.args0, start1.below0, start1.atStart⟩
end Jvm.Pilot.@@N@@
