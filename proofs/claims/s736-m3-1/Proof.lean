import JvmDerived
import JvmDerived.Pilot.@@N@@Statement
import JvmDerived.Pilot.@@N@@Code
set_option linter.unusedVariables false
set_option linter.unusedSimpArgs false
namespace Jvm.RoadKit
open Sem ClassFile Op Lib Jvm.Stand Jvm.Free Jvm.LawKit
section New
variable {p : Program} {l : Launch} {e : Env} {R : Room} {s : State} {m : MethodId} {args : Array Value} {below : List Frame} {meth : Method} {c : Code} {T : State} {locs : List Loc} {cells slots : Nat}
theorem retI (X : Stand p l e R s m args below meth c T locs cells slots) (hx : p.tables.exec = Jvm.exec) {pc : Nat} {Ls : Array Slot} {z : Int32} {rest : List Value} (hret : meth.sig.returnType = some .int) (hd : decode c.code pc = .ok (.ireturn, 1)) {fs : List Frame}
    (hl : ∀ (f : JFrame) (acts : List Action), f.method = m → f.locked = none → f.entered = [] → (doReturn e (T.setTop f) acts (some (.int z))).1 = T.setFrames fs) : Steps p.tables e below (T.setTop (mkF m pc Ls (.int z :: rest))) (T.setFrames fs) := by
  have hm' : T.vm.method? m = some meth := X.method'
  have hn : narrow .int (.int z) = .int z := rfl
  show Steps p.tables e below (T.setTop { method := m, pc := pc, locals := Ls, stack := _ :: rest, locked := none }) _
  jvm_step X.here [X.here.top, hx, hd, hm', hret, hn]
  first | (intro acts; rw [hl _ acts rfl rfl rfl]) | rw [hl _ _ rfl rfl rfl]
  exact Steps.refl _
theorem own_lremM {g : JFrame} {target : State} (X : Stand p l e R s m args below meth c T locs cells slots) (hx : p.tables.exec = Jvm.exec) (hg : g.method = m) {x y : Int64} {rest : List Value} (hd : decode c.code g.pc = .ok (.lrem, 1)) (hs : g.stack = .long y :: .long x :: rest) (hy : y ≠ 0)
    (hr : Steps p.tables e below (T.setTop { g with pc := g.pc + 1, stack := .long (x % y) :: rest }) target) : Steps p.tables e below (T.setTop g) target :=
  XS.lrem X.here hx hg hd hs hy (by first | exact hr | (rw [lrem_mod]; exact hr))
theorem own_monoW {s t : State} {o : Outcome} {L : List Loc} {k n k' n' : Nat} (h : ReturnedEndW s o t L k n) (hk : k ≤ k') (hn : n ≤ n') : ReturnedEndW s o t L k' n' := ⟨h.1, h.2.1, h.2.2.1, h.2.2.2.mono hk hn⟩
theorem own_go {α β : Type} {S S' : α → Prop} {P : α → β → Prop} (h : ∀ t, S' t → S t) (g : ∃ n o, S' n ∧ P n o) : ∃ n o, S n ∧ P n o := by
  obtain ⟨n, o, a, b⟩ := g
  exact ⟨n, o, h n a, b⟩
end New
end Jvm.RoadKit
namespace Jvm.Pilot.@@N@@
open Jvm Jvm.ClassFile Sem Op Lib Jvm.Free Jvm.Stand Jvm.LawKit Jvm.RoadKit Bundle Jvm.Pilot.@@N@@.Jvm.D
theorem own_nt (c : Int32) : (c ^^^ (-1 : Int32)).toBitVec = ~~~c.toBitVec := by
  rw [Int32.toBitVec_xor, show (-1 : Int32).toBitVec = BitVec.allOnes 32 from by decide, BitVec.xor_allOnes]
theorem own_zero (s c : BitVec 32) (h1 : s &&& ~~~c = 0#32) (h2 : c &&& ~~~s = 0#32) : s = c := by
  apply BitVec.eq_of_getLsbD_eq
  intro i hi
  have t1 := congrArg (fun z => z.getLsbD i) h1
  have t2 := congrArg (fun z => z.getLsbD i) h2
  simp only [BitVec.getLsbD_and, BitVec.getLsbD_not, BitVec.getLsbD_zero, hi, decide_true, Bool.true_and] at t1 t2
  cases q1 : s.getLsbD i <;> cases q2 : c.getLsbD i <;> simp_all
theorem own_self (s : BitVec 32) : s &&& ~~~s = 0#32 := by
  apply BitVec.eq_of_getLsbD_eq
  intro i hi
  simp only [BitVec.getLsbD_and, BitVec.getLsbD_not, BitVec.getLsbD_zero, hi, decide_true, Bool.true_and]
  cases s.getLsbD i <;> rfl
theorem own_eq (s c : Int32) : (s &&& (c ^^^ (-1 : Int32)) = 0 ∧ c &&& (s ^^^ (-1 : Int32)) = 0) ↔ s = c := by
  constructor
  · rintro ⟨h1, h2⟩
    rw [← Int32.toBitVec_inj, Int32.toBitVec_and, own_nt] at h1 h2
    exact Int32.toBitVec_inj.mp (own_zero _ _ h1 h2)
  · rintro rfl
    have h : s &&& (s ^^^ (-1 : Int32)) = 0 := by
      rw [← Int32.toBitVec_inj, Int32.toBitVec_and, own_nt]
      exact own_self _
    exact ⟨h, h⟩
theorem own_xor (c b : BitVec 32) (h : c ^^^ b = c) : b = 0#32 := by
  apply BitVec.eq_of_getLsbD_eq
  intro i hi
  have t := congrArg (fun z => z.getLsbD i) h
  simp only [BitVec.getLsbD_xor] at t
  rw [BitVec.getLsbD_zero]
  cases q1 : c.getLsbD i <;> cases q2 : b.getLsbD i <;> simp_all
theorem own_one (n : Nat) (hn : n < 32) : ¬ 1#32 <<< n = 0#32 := by
  intro h
  have t := congrArg (fun z => z.getLsbD n) h
  simp [hn] at t
theorem own_ne (c q : Int32) : ¬ (c ^^^ ((1 : Int32) <<< ((q &&& (31 : Int32)) &&& 31))) = c := by
  intro h
  rw [← Int32.toBitVec_inj, Int32.toBitVec_xor] at h
  have h := own_xor _ _ h
  rw [Int32.toBitVec_shiftLeft] at h
  have hs := sm32 (q &&& 31) _ rfl
  rw [show (1 : Int32).toBitVec <<< (((q &&& (31 : Int32)) &&& 31).toBitVec.smod 32) = 1#32 <<< (((q &&& (31 : Int32)) &&& 31).toBitVec.smod 32).toNat from rfl, hs] at h
  exact own_one _ (Nat.mod_lt _ (by decide)) h
theorem own_law (c s g e1 e2 e : Int32) (hg : g = (if s = c then (1 : Int32) else (0 : Int32))) (h1 : e1 = (if (s &&& (c ^^^ (-1 : Int32))) = (0 : Int32) then (1 : Int32) else (0 : Int32))) (h2 : e2 = (if (c &&& (s ^^^ (-1 : Int32))) = (0 : Int32) then (1 : Int32) else (0 : Int32))) (he : e = (if e1 = (0 : Int32) then (0 : Int32) else (if e2 = (0 : Int32) then (0 : Int32) else (1 : Int32)))) : g = e := by
  have h := own_eq s c
  subst hg h1 h2 he
  by_cases q : s = c
  · have h3 := h.mpr q
    rw [if_pos q, if_pos h3.1, if_pos h3.2, if_neg (by decide), if_neg (by decide)]
  · rw [if_neg q]
    by_cases q1 : (s &&& (c ^^^ (-1 : Int32))) = (0 : Int32)
    · have q2 : ¬ (c &&& (s ^^^ (-1 : Int32))) = (0 : Int32) := fun z => q (h.mp ⟨q1, z⟩)
      rw [if_pos q1, if_neg q2, if_neg (by decide), if_pos rfl]
    · rw [if_neg q1, if_pos rfl]
theorem d2_0 : decode jdk_30_method_1_code 0 = .ok (.aload_n 0, 1) := by decide +kernel
theorem d2_1 : decode jdk_30_method_1_code 1 = .ok (.invokespecial 1, 3) := by decide +kernel
theorem d2_4 : decode jdk_30_method_1_code 4 = .ok (.return_, 1) := by decide +kernel
theorem pn_2 : plainName "java/lang/Record" = true := by first | (simp [plainName, overriddenIn]; done) | decide +kernel
theorem ef_2 (m : MethodId) (x0 : Addr) : entryFrame m #[(.ref x0)] 1 = mkF m 0 #[.val (.ref x0)] [] := by first | (simp [entryFrame, mkF, argsToLocals, Value.category]; done) | rfl
def Q2 (Z : State) (a1 : Addr) (h0 : Heap) (n0 : Nat) (v : Option Value) (h : Heap) (L : List Loc) : Prop := v = none ∧ Fr n0 L ∧ h = h0
set_option maxRecDepth 65536 in
set_option maxHeartbeats 40000000 in
theorem rm2 (l : Launch) (Z : State) (a0 : Array Value) (hw : ∀ d ∈ tables_1, d.before a0 Z = true) (ws : List Jvm.Cond) (a1 : Addr) (h0 : Heap) (n0 : Nat) (Z0 : n0 ≤ h0.size) :
    MetFree l (⟨"java/lang/Record", "<init>", "()V"⟩ : MethodName) (head1 (Jvm.Cond.code (⟨"java/lang/Record", "<init>", "()V"⟩ : MethodName) jdk_30_method_1_code 1 none :: ws) ({ frames := 1, cells := 0, slots := 0, locals := 12 } : Room)) (fun a U => a = #[(.ref a1)] ∧ Z.Warmed39 U.vm ∧ U.heap = h0) (fun _ _ _ _ _ => True) (fun _ U o U' => ∃ v L, o = .returned v ∧ Q2 Z a1 h0 n0 v U'.heap L ∧ FrameEnd U o U' L ({ frames := 1, cells := 0, slots := 0, locals := 12 } : Room).cells ({ frames := 1, cells := 0, slots := 0, locals := 12 } : Room).slots) := by
  refine MetFree.of_bodySF (plainFor_of_name pn_2) hisR ?_
  intro p e s m args below meth c s₁ Bd hml0 hP hK
  obtain ⟨rfl, hZ, hh⟩ := hP
  have hx := Bd.exec
  have hby := Bd.bytes
  have hml : c.maxLocals = 1 := hml0
  have hown : s.vm.findClass "java/lang/Record" = some m.cls := findClass_of_methodNamed Bd.named
  have hnm := (name_of_methodNamed Bd.named Bd.method).1
  have X0 : Stand p l e ({ frames := 1, cells := 0, slots := 0, locals := 12 } : Room) s m #[(.ref a1)] below meth c s₁ [] 0 0 := Stand.of_body Bd
  have e0 : s₁.heap = h0 := by rw [← hh, Bd.state]; rfl
  have N0 := Fr.nil n0
  have K0 : Keep h0 h0 [] := Keep.refl _ _
  have pre0 : ∀ t, Steps p.tables e below (s₁.setTop (mkF m 0 #[.val (.ref a1)] [])) t → Steps p.tables e below (s₁.setTop (entryFrame m #[(.ref a1)] 1)) t := fun t k => castTop (ef_2 m a1) k
  refine own_go (S' := fun t => Steps p.tables e below (s₁.setTop (mkF m 0 #[.val (.ref a1)] [])) t) pre0 ?_
  obtain ⟨T1, X1, e1, st1⟩ := initO X0 hx hZ hown (hw _ (List.mem_of_getElem? (i := 11) rfl)) (hw _ (List.mem_of_getElem? (i := 12) rfl)) (hw _ (List.mem_of_getElem? (i := 13) rfl)) e0 (g := (mkF m 1 #[.val (.ref a1)] [(.ref a1)])) rfl (by rw [hml]; rfl) rfl (hb hby d2_1) (by decide) (W := 0) (by show 2 * 0 + _ ≤ _; exact Nat.le_of_eq rfl) (by decide)
  obtain ⟨fs, hr, hrun, hended, hW, hsame⟩ := X1.leave (v := none) (fun _ => rfl)
  refine ⟨_, _, ?_, hrun, hended, _, _, rfl, ?_, ⟨_, rfl⟩, hW, hsame.mono (by decide) (by decide)⟩
  · show Steps p.tables e below (s₁.setTop (mkF m 0 #[.val (.ref a1)] [])) _
    refine XS.aloadN X0.here hx rfl (hb hby d2_0) rfl rfl ?_
    show Steps p.tables e below (s₁.setTop (mkF m 1 #[.val (.ref a1)] [(.ref a1)])) _
    refine st1 _ ?_
    show Steps p.tables e below (T1.setTop (mkF m 4 #[.val (.ref a1)] [])) _
    exact X1.returnOut hx Bd.returns (hb hby d2_4) hr
  · show Q2 Z a1 h0 n0 _ T1.heap _
    rw [e1]
    exact ⟨rfl, N0, rfl⟩
theorem pd_0 : parseMethodDescriptor "()V" = some ⟨[], none⟩ := by decide +kernel
theorem d1_0 : decode prog_26_method_1_code 0 = .ok (.aload_n 0, 1) := by decide +kernel
theorem d1_1 : decode prog_26_method_1_code 1 = .ok (.invokespecial 1, 3) := by decide +kernel
theorem d1_4 : decode prog_26_method_1_code 4 = .ok (.aload_n 0, 1) := by decide +kernel
theorem d1_5 : decode prog_26_method_1_code 5 = .ok (.iload_n 1, 1) := by decide +kernel
theorem d1_6 : decode prog_26_method_1_code 6 = .ok (.putfield 7, 3) := by decide +kernel
theorem d1_9 : decode prog_26_method_1_code 9 = .ok (.return_, 1) := by decide +kernel
theorem pn_1 : plainName "com/example/glowmarch/glowmarch/rules/Condition$Exactly" = true := by first | (simp [plainName, overriddenIn]; done) | decide +kernel
theorem ef_1 (m : MethodId) (x0 : Addr) (x1 : Int32) : entryFrame m #[(.ref x0), (.int x1)] 2 = mkF m 0 #[.val (.ref x0), .val (.int x1)] [] := by first | (simp [entryFrame, mkF, argsToLocals, Value.category]; done) | rfl
def Q1 (Z : State) (a1 : Addr) (p2 : Int32) (u : Value) (h0 : Heap) (n0 : Nat) (v : Option Value) (h : Heap) (L : List Loc) : Prop := v = none ∧ Fr n0 L ∧ Keep h0 h [a1] ∧ Exa Z h a1 "com/example/glowmarch/glowmarch/rules/Condition$Exactly" ∧ Fld Z h a1 "com/example/glowmarch/glowmarch/rules/Condition$Exactly" "colours" "I" (.int p2)
set_option maxRecDepth 65536 in
set_option maxHeartbeats 40000000 in
theorem rm1 (l : Launch) (Z : State) (a0 : Array Value) (hw : ∀ d ∈ tables_1, d.before a0 Z = true) (ws : List Jvm.Cond) (a1 : Addr) (p2 : Int32) (u : Value) (h0 : Heap) (n0 : Nat) (Z0 : n0 ≤ h0.size) (E_a1 : Exa Z h0 a1 "com/example/glowmarch/glowmarch/rules/Condition$Exactly") (F_a1_colours : Fld Z h0 a1 "com/example/glowmarch/glowmarch/rules/Condition$Exactly" "colours" "I" u) (g_a1 : n0 ≤ a1) :
    MetFree l (⟨"com/example/glowmarch/glowmarch/rules/Condition$Exactly", "<init>", "(I)V"⟩ : MethodName) (head1 (Jvm.Cond.code (⟨"com/example/glowmarch/glowmarch/rules/Condition$Exactly", "<init>", "(I)V"⟩ : MethodName) prog_26_method_1_code 2 none :: ws) ({ frames := 2, cells := 0, slots := 0, locals := 24 } : Room)) (fun a U => a = #[(.ref a1), (.int p2)] ∧ Z.Warmed39 U.vm ∧ U.heap = h0) (fun _ _ _ _ _ => True) (fun _ U o U' => ∃ v L, o = .returned v ∧ Q1 Z a1 p2 u h0 n0 v U'.heap L ∧ FrameEnd U o U' L ({ frames := 2, cells := 0, slots := 0, locals := 24 } : Room).cells ({ frames := 2, cells := 0, slots := 0, locals := 24 } : Room).slots) := by
  refine MetFree.of_bodySF (plainFor_of_name pn_1) hisR ?_
  intro p e s m args below meth c s₁ Bd hml0 hP hK
  obtain ⟨rfl, hZ, hh⟩ := hP
  have hx := Bd.exec
  have hby := Bd.bytes
  have hml : c.maxLocals = 2 := hml0
  have hown : s.vm.findClass "com/example/glowmarch/glowmarch/rules/Condition$Exactly" = some m.cls := findClass_of_methodNamed Bd.named
  have hnm := (name_of_methodNamed Bd.named Bd.method).1
  have X0 : Stand p l e ({ frames := 2, cells := 0, slots := 0, locals := 24 } : Room) s m #[(.ref a1), (.int p2)] below meth c s₁ [] 0 0 := Stand.of_body Bd
  have e0 : s₁.heap = h0 := by rw [← hh, Bd.state]; rfl
  have N0 := Fr.nil n0
  have K0 : Keep h0 h0 [a1] := Keep.refl _ _
  have pre0 : ∀ t, Steps p.tables e below (s₁.setTop (mkF m 0 #[.val (.ref a1), .val (.int p2)] [])) t → Steps p.tables e below (s₁.setTop (entryFrame m #[(.ref a1), (.int p2)] 2)) t := fun t k => castTop (ef_1 m a1 p2) k
  refine own_go (S' := fun t => Steps p.tables e below (s₁.setTop (mkF m 0 #[.val (.ref a1), .val (.int p2)] [])) t) pre0 ?_
  obtain ⟨_, _, ⟨T1, L1, k1, n1⟩, -, X1, ⟨Lc1, hQ1, l1, y1, z1⟩, st1⟩ := X0.specialBack hx (y := (⟨"java/lang/Record", "<init>", "()V"⟩ : MethodName)) rfl hown (mvT hZ (hw _ (List.mem_of_getElem? (i := 6) rfl))) (mvT hZ (hw _ (List.mem_of_getElem? (i := 7) rfl))) (mvT hZ (hw _ (List.mem_of_getElem? (i := 10) rfl))) (by decide) (backOf (W := 0) (rm2 l Z a0 hw [] a1 h0 n0 Z0 ) hZ (hw _ (List.mem_of_getElem? (i := 10) rfl)) (hw _ (List.mem_of_getElem? (i := 9) rfl)) (by decide) (by decide)) (g := (mkF m 1 #[.val (.ref a1), .val (.int p2)] [(.ref a1)])) rfl (by rw [hml]; rfl) (Steps.refl _) (a := a1) (argsL := []) (rest := []) (lenOf pd_0 rfl) rfl (by show 2 * 0 + _ ≤ _; exact Nat.le_of_eq rfl) (hb hby d1_1) (fun _ _ => ⟨rfl, e0, (by decide : 0 + 0 ≤ _), (by decide : 0 + 0 ≤ _)⟩)
  dsimp only [Pt.U, Pt.locs, Pt.cells, Pt.slots] at X1 l1 y1 z1 st1 hQ1
  subst l1 y1 z1
  obtain ⟨rfl, N1q, e1⟩ := hQ1
  have N1 := Fr.app N0 N1q
  obtain ⟨T2, h2, X2, e2, W2, st2⟩ := putF X1 hx hZ hown (host := "") (Or.inl (hw _ (List.mem_of_getElem? (i := 14) rfl))) Via.refl e1 F_a1_colours E_a1 (Or.inr ⟨(hw _ (List.mem_of_getElem? (i := 15) rfl)), rfl, hnm⟩) (hw _ (List.mem_of_getElem? (i := 1) rfl)) (ty := .int) (by decide) rfl rfl (g := (mkF m 6 #[.val (.ref a1), .val (.int p2)] [(.int p2), (.ref a1)])) rfl rfl (hb hby d1_6)
  have F_a1_colours := F_a1_colours.same W2
  have E_a1 := E_a1.wr W2
  have Z0 : n0 ≤ h2.size := by rw [W2.size]; exact Z0
  have K0 := K0.wr W2 (Or.inl (List.mem_of_getElem? (i := 0) rfl))
  have N2 := Fr.snoc X2 N1 g_a1
  obtain ⟨fs, hr, hrun, hended, hW, hsame⟩ := X2.leave (v := none) (fun _ => rfl)
  refine ⟨_, _, ?_, hrun, hended, _, _, rfl, ?_, ⟨_, rfl⟩, hW, hsame.mono (by decide) (by decide)⟩
  · show Steps p.tables e below (s₁.setTop (mkF m 0 #[.val (.ref a1), .val (.int p2)] [])) _
    refine XS.aloadN X0.here hx rfl (hb hby d1_0) rfl rfl ?_
    show Steps p.tables e below (s₁.setTop (mkF m 1 #[.val (.ref a1), .val (.int p2)] [(.ref a1)])) _
    refine st1.trans ?_
    show Steps p.tables e below (T1.setTop (mkF m 4 #[.val (.ref a1), .val (.int p2)] [])) _
    refine XS.aloadN X1.here hx rfl (hb hby d1_4) rfl rfl ?_
    show Steps p.tables e below (T1.setTop (mkF m 5 #[.val (.ref a1), .val (.int p2)] [(.ref a1)])) _
    refine XS.iloadN X1.here hx rfl (hb hby d1_5) rfl ?_
    show Steps p.tables e below (T1.setTop (mkF m 6 #[.val (.ref a1), .val (.int p2)] [(.int p2), (.ref a1)])) _
    refine st2 _ ?_
    show Steps p.tables e below (T2.setTop (mkF m 9 #[.val (.ref a1), .val (.int p2)] [])) _
    exact X2.returnOut hx Bd.returns (hb hby d1_9) hr
  · show Q1 Z a1 p2 u h0 n0 _ T2.heap _
    rw [e2]
    exact ⟨rfl, N2, K0, E_a1, F_a1_colours⟩
theorem d4_0 : decode prog_26_method_2_code 0 = .ok (.iload_n 1, 1) := by decide +kernel
theorem d4_1 : decode prog_26_method_2_code 1 = .ok (.aload_n 0, 1) := by decide +kernel
theorem d4_2 : decode prog_26_method_2_code 2 = .ok (.getfield 7, 3) := by decide +kernel
theorem d4_5 : decode prog_26_method_2_code 5 = .ok (.if_icmp .ne 7, 3) := by decide +kernel
theorem d4_8 : decode prog_26_method_2_code 8 = .ok (.iconst 1, 1) := by decide +kernel
theorem d4_9 : decode prog_26_method_2_code 9 = .ok (.goto 4, 3) := by decide +kernel
theorem d4_12 : decode prog_26_method_2_code 12 = .ok (.iconst 0, 1) := by decide +kernel
theorem d4_13 : decode prog_26_method_2_code 13 = .ok (.ireturn, 1) := by decide +kernel
theorem pn_4 : plainName "com/example/glowmarch/glowmarch/rules/Condition$Exactly" = true := by first | (simp [plainName, overriddenIn]; done) | decide +kernel
theorem ef_4 (m : MethodId) (x0 : Addr) (x1 : Int32) : entryFrame m #[(.ref x0), (.int x1)] 2 = mkF m 0 #[.val (.ref x0), .val (.int x1)] [] := by first | (simp [entryFrame, mkF, argsToLocals, Value.category]; done) | rfl
def Q4 (Z : State) (a1 : Addr) (p2 : Int32) (w : Int32) (h0 : Heap) (n0 : Nat) (v : Option Value) (h : Heap) (L : List Loc) : Prop := ∃ r : Int32, v = some (.int r) ∧ (r = (if p2 = w then (1 : Int32) else (0 : Int32))) ∧ Fr n0 L ∧ h = h0
set_option maxRecDepth 65536 in
set_option maxHeartbeats 40000000 in
theorem rm4 (l : Launch) (Z : State) (a0 : Array Value) (hw : ∀ d ∈ tables_1, d.before a0 Z = true) (ws : List Jvm.Cond) (a1 : Addr) (p2 : Int32) (w : Int32) (h0 : Heap) (n0 : Nat) (Z0 : n0 ≤ h0.size) (F_a1_colours : Fld Z h0 a1 "com/example/glowmarch/glowmarch/rules/Condition$Exactly" "colours" "I" (.int w)) :
    MetFree l (⟨"com/example/glowmarch/glowmarch/rules/Condition$Exactly", "holds", "(I)Z"⟩ : MethodName) (head1 (Jvm.Cond.code (⟨"com/example/glowmarch/glowmarch/rules/Condition$Exactly", "holds", "(I)Z"⟩ : MethodName) prog_26_method_2_code 2 (some .boolean) :: ws) ({ frames := 0, cells := 0, slots := 0, locals := 0 } : Room)) (fun a U => a = #[(.ref a1), (.int p2)] ∧ Z.Warmed39 U.vm ∧ U.heap = h0) (fun _ _ _ _ _ => True) (fun _ U o U' => ∃ v L, o = .returned v ∧ Q4 Z a1 p2 w h0 n0 v U'.heap L ∧ FrameEnd U o U' L ({ frames := 0, cells := 0, slots := 0, locals := 0 } : Room).cells ({ frames := 0, cells := 0, slots := 0, locals := 0 } : Room).slots) := by
  refine MetFree.of_bodySF (plainFor_of_name pn_4) hisR ?_
  intro p e s m args below meth c s₁ Bd hml0 hP hK
  obtain ⟨rfl, hZ, hh⟩ := hP
  have hx := Bd.exec
  have hby := Bd.bytes
  have hml : c.maxLocals = 2 := hml0
  have hown : s.vm.findClass "com/example/glowmarch/glowmarch/rules/Condition$Exactly" = some m.cls := findClass_of_methodNamed Bd.named
  have hnm := (name_of_methodNamed Bd.named Bd.method).1
  have X0 : Stand p l e ({ frames := 0, cells := 0, slots := 0, locals := 0 } : Room) s m #[(.ref a1), (.int p2)] below meth c s₁ [] 0 0 := Stand.of_body Bd
  have e0 : s₁.heap = h0 := by rw [← hh, Bd.state]; rfl
  have N0 := Fr.nil n0
  have K0 : Keep h0 h0 [] := Keep.refl _ _
  have pre0 : ∀ t, Steps p.tables e below (s₁.setTop (mkF m 0 #[.val (.ref a1), .val (.int p2)] [])) t → Steps p.tables e below (s₁.setTop (entryFrame m #[(.ref a1), (.int p2)] 2)) t := fun t k => castTop (ef_4 m a1 p2) k
  refine own_go (S' := fun t => Steps p.tables e below (s₁.setTop (mkF m 0 #[.val (.ref a1), .val (.int p2)] [])) t) pre0 ?_
  obtain ⟨T1, X1, e1, st1⟩ := getF X0 hx hZ hown (host := "") (Or.inl (hw _ (List.mem_of_getElem? (i := 14) rfl))) Via.refl e0 F_a1_colours (g := (mkF m 2 #[.val (.ref a1), .val (.int p2)] [(.ref a1), (.int p2)])) rfl rfl (hb hby d4_2)
  obtain ⟨u, d_u⟩ : ∃ z : Int32, z = (if p2 = w then (1 : Int32) else (0 : Int32)) := ⟨_, rfl⟩
  have j2 : ∀ t, Steps p.tables e below (T1.setTop (mkF m 13 #[.val (.ref a1), .val (.int p2)] [(.int u)])) t → Steps p.tables e below (T1.setTop (mkF m 5 #[.val (.ref a1), .val (.int p2)] [(.int w), (.int p2)])) t := by
    intro t k
    by_cases hj5 : p2 = w
    · have q_u : u = (1 : Int32) := by rw [d_u, if_pos hj5]
      show Steps p.tables e below (T1.setTop (mkF m 5 #[.val (.ref a1), .val (.int p2)] [(.int w), (.int p2)])) _
      refine XS.icmpNo X1.here hx rfl (hb hby d4_5) rfl (teq hj5).2 ?_
      show Steps p.tables e below (T1.setTop (mkF m 8 #[.val (.ref a1), .val (.int p2)] [])) _
      refine XS.iconst X1.here hx rfl (hb hby d4_8) ?_
      show Steps p.tables e below (T1.setTop (mkF m 9 #[.val (.ref a1), .val (.int p2)] [(.int (1 : Int32))])) _
      refine XS.goto X1.here hx rfl (pc0 := 9) (pc' := 13) rfl (hb hby d4_9) (by decide) (by decide) ?_
      rw [q_u] at k
      exact k
    · have q_u : u = (0 : Int32) := by rw [d_u, if_neg hj5]
      show Steps p.tables e below (T1.setTop (mkF m 5 #[.val (.ref a1), .val (.int p2)] [(.int w), (.int p2)])) _
      refine XS.icmpYes X1.here hx rfl (pc0 := 5) (pc' := 12) rfl (hb hby d4_5) rfl (feq hj5).2 (by decide) (by decide) ?_
      show Steps p.tables e below (T1.setTop (mkF m 12 #[.val (.ref a1), .val (.int p2)] [])) _
      refine XS.iconst X1.here hx rfl (hb hby d4_12) ?_
      rw [q_u] at k
      exact k
  obtain ⟨fs, hr, hrun, hended, hW, hsame⟩ := X1.leave (v := some (.int u)) (fun h => by rw [Bd.returns] at h; cases h)
  refine ⟨_, _, ?_, hrun, hended, _, _, rfl, ?_, ⟨_, rfl⟩, hW, hsame.mono (by decide) (by decide)⟩
  · show Steps p.tables e below (s₁.setTop (mkF m 0 #[.val (.ref a1), .val (.int p2)] [])) _
    refine XS.iloadN X0.here hx rfl (hb hby d4_0) rfl ?_
    show Steps p.tables e below (s₁.setTop (mkF m 1 #[.val (.ref a1), .val (.int p2)] [(.int p2)])) _
    refine XS.aloadN X0.here hx rfl (hb hby d4_1) rfl rfl ?_
    show Steps p.tables e below (s₁.setTop (mkF m 2 #[.val (.ref a1), .val (.int p2)] [(.ref a1), (.int p2)])) _
    refine st1 _ ?_
    show Steps p.tables e below (T1.setTop (mkF m 5 #[.val (.ref a1), .val (.int p2)] [(.int w), (.int p2)])) _
    refine j2 _ ?_
    show Steps p.tables e below (T1.setTop (mkF m 13 #[.val (.ref a1), .val (.int p2)] [(.int u)])) _
    have hnr : nar .boolean u = u := by rw [d_u]; (repeat' split) <;> rfl
    exact retN X1 hx (t := .boolean) Bd.returns (by simp) (hb hby d4_13) (by rw [hnr]; exact hr)
  · show Q4 Z a1 p2 w h0 n0 _ T1.heap _
    rw [e1]
    exact ⟨_, rfl, d_u, N0, rfl⟩
theorem d5_0 : decode prog_26_method_6_code 0 = .ok (.aload_n 0, 1) := by decide +kernel
theorem d5_1 : decode prog_26_method_6_code 1 = .ok (.getfield 7, 3) := by decide +kernel
theorem d5_4 : decode prog_26_method_6_code 4 = .ok (.ireturn, 1) := by decide +kernel
theorem pn_5 : plainName "com/example/glowmarch/glowmarch/rules/Condition$Exactly" = true := by first | (simp [plainName, overriddenIn]; done) | decide +kernel
theorem ef_5 (m : MethodId) (x0 : Addr) : entryFrame m #[(.ref x0)] 1 = mkF m 0 #[.val (.ref x0)] [] := by first | (simp [entryFrame, mkF, argsToLocals, Value.category]; done) | rfl
def Q5 (Z : State) (a1 : Addr) (w : Int32) (h0 : Heap) (n0 : Nat) (v : Option Value) (h : Heap) (L : List Loc) : Prop := ∃ r : Int32, v = some (.int r) ∧ (r = w) ∧ Fr n0 L ∧ h = h0
set_option maxRecDepth 65536 in
set_option maxHeartbeats 40000000 in
theorem rm5 (l : Launch) (Z : State) (a0 : Array Value) (hw : ∀ d ∈ tables_1, d.before a0 Z = true) (ws : List Jvm.Cond) (a1 : Addr) (w : Int32) (h0 : Heap) (n0 : Nat) (Z0 : n0 ≤ h0.size) (F_a1_colours : Fld Z h0 a1 "com/example/glowmarch/glowmarch/rules/Condition$Exactly" "colours" "I" (.int w)) :
    MetFree l (⟨"com/example/glowmarch/glowmarch/rules/Condition$Exactly", "colours", "()I"⟩ : MethodName) (head1 (Jvm.Cond.code (⟨"com/example/glowmarch/glowmarch/rules/Condition$Exactly", "colours", "()I"⟩ : MethodName) prog_26_method_6_code 1 (some .int) :: ws) ({ frames := 0, cells := 0, slots := 0, locals := 0 } : Room)) (fun a U => a = #[(.ref a1)] ∧ Z.Warmed39 U.vm ∧ U.heap = h0) (fun _ _ _ _ _ => True) (fun _ U o U' => ∃ v L, o = .returned v ∧ Q5 Z a1 w h0 n0 v U'.heap L ∧ FrameEnd U o U' L ({ frames := 0, cells := 0, slots := 0, locals := 0 } : Room).cells ({ frames := 0, cells := 0, slots := 0, locals := 0 } : Room).slots) := by
  refine MetFree.of_bodySF (plainFor_of_name pn_5) hisR ?_
  intro p e s m args below meth c s₁ Bd hml0 hP hK
  obtain ⟨rfl, hZ, hh⟩ := hP
  have hx := Bd.exec
  have hby := Bd.bytes
  have hml : c.maxLocals = 1 := hml0
  have hown : s.vm.findClass "com/example/glowmarch/glowmarch/rules/Condition$Exactly" = some m.cls := findClass_of_methodNamed Bd.named
  have hnm := (name_of_methodNamed Bd.named Bd.method).1
  have X0 : Stand p l e ({ frames := 0, cells := 0, slots := 0, locals := 0 } : Room) s m #[(.ref a1)] below meth c s₁ [] 0 0 := Stand.of_body Bd
  have e0 : s₁.heap = h0 := by rw [← hh, Bd.state]; rfl
  have N0 := Fr.nil n0
  have K0 : Keep h0 h0 [] := Keep.refl _ _
  have pre0 : ∀ t, Steps p.tables e below (s₁.setTop (mkF m 0 #[.val (.ref a1)] [])) t → Steps p.tables e below (s₁.setTop (entryFrame m #[(.ref a1)] 1)) t := fun t k => castTop (ef_5 m a1) k
  refine own_go (S' := fun t => Steps p.tables e below (s₁.setTop (mkF m 0 #[.val (.ref a1)] [])) t) pre0 ?_
  obtain ⟨T1, X1, e1, st1⟩ := getF X0 hx hZ hown (host := "") (Or.inl (hw _ (List.mem_of_getElem? (i := 14) rfl))) Via.refl e0 F_a1_colours (g := (mkF m 1 #[.val (.ref a1)] [(.ref a1)])) rfl rfl (hb hby d5_1)
  obtain ⟨fs, hr, hrun, hended, hW, hsame⟩ := X1.leave (v := some (.int w)) (fun h => by rw [Bd.returns] at h; cases h)
  refine ⟨_, _, ?_, hrun, hended, _, _, rfl, ?_, ⟨_, rfl⟩, hW, hsame.mono (by decide) (by decide)⟩
  · show Steps p.tables e below (s₁.setTop (mkF m 0 #[.val (.ref a1)] [])) _
    refine XS.aloadN X0.here hx rfl (hb hby d5_0) rfl rfl ?_
    show Steps p.tables e below (s₁.setTop (mkF m 1 #[.val (.ref a1)] [(.ref a1)])) _
    refine st1 _ ?_
    show Steps p.tables e below (T1.setTop (mkF m 4 #[.val (.ref a1)] [(.int w)])) _
    exact retI X1 hx Bd.returns (hb hby d5_4) hr
  · show Q5 Z a1 w h0 n0 _ T1.heap _
    rw [e1]
    exact ⟨_, rfl, rfl, N0, rfl⟩
theorem pd_1 : parseMethodDescriptor "(I)V" = some ⟨[.int], none⟩ := by decide +kernel
theorem pd_2 : parseMethodDescriptor "(I)Z" = some ⟨[.int], some .boolean⟩ := by decide +kernel
theorem pd_3 : parseMethodDescriptor "()I" = some ⟨[], some .int⟩ := by decide +kernel
theorem pn_0 : plainName "com/example/glowmarch/glowmarch/rules/ExactlyHoldsPinLaw" = true := by first | (simp [plainName, overriddenIn]; done) | decide +kernel
theorem ef_0 (m : MethodId) (x0 : Int32) (x1 : Int32) (x2 : Int32) : entryFrame m #[(.int x0), (.int x1), (.int x2)] maxLocals = mkF m 0 #[.val (.int x0), .val (.int x1), .val (.int x2), .unset, .unset, .unset, .unset, .unset, .unset, .unset] [] := by first | (simp [entryFrame, mkF, argsToLocals, Value.category, maxLocals]; done) | rfl
def Q0 (Z : State) (p1 : Int32) (p2 : Int32) (p3 : Int32) (h0 : Heap) (n0 : Nat) (v : Option Value) (h : Heap) (L : List Loc) : Prop := v = some (.int 1) ∧ Fr n0 L
set_option maxRecDepth 65536 in
set_option maxHeartbeats 40000000 in
theorem rm0 (l : Launch) (Z : State) (a0 : Array Value) (hw : ∀ d ∈ tables_1, d.before a0 Z = true) (ws : List Jvm.Cond) (p1 : Int32) (p2 : Int32) (p3 : Int32) (h0 : Heap) (n0 : Nat) (Z0 : n0 ≤ h0.size) :
    MetFree l x (head1 (Jvm.Cond.code x code maxLocals ret :: ws) room_1) (fun a U => a = #[(.int p1), (.int p2), (.int p3)] ∧ Z.Warmed39 U.vm ∧ U.heap = h0) (fun _ _ _ _ _ => True) (fun _ U o U' => ∃ v L, o = .returned v ∧ Q0 Z p1 p2 p3 h0 n0 v U'.heap L ∧ FrameEnd U o U' L room_1.cells room_1.slots) := by
  refine MetFree.of_bodySF (plainFor_of_name pn_0) hisR ?_
  intro p e s m args below meth c s₁ Bd hml0 hP hK
  obtain ⟨rfl, hZ, hh⟩ := hP
  have hx := Bd.exec
  have hby := Bd.bytes
  have hml : c.maxLocals = 10 := hml0
  have hown : s.vm.findClass "com/example/glowmarch/glowmarch/rules/ExactlyHoldsPinLaw" = some m.cls := findClass_of_methodNamed Bd.named
  have hnm := (name_of_methodNamed Bd.named Bd.method).1
  have X0 : Stand p l e room_1 s m #[(.int p1), (.int p2), (.int p3)] below meth c s₁ [] 0 0 := Stand.of_body Bd
  have e0 : s₁.heap = h0 := by rw [← hh, Bd.state]; rfl
  have N0 := Fr.nil n0
  have K0 : Keep h0 h0 [] := Keep.refl _ _
  have pre0 : ∀ t, Steps p.tables e below (s₁.setTop (mkF m 0 #[.val (.int p1), .val (.int p2), .val (.int p3), .unset, .unset, .unset, .unset, .unset, .unset, .unset] [])) t → Steps p.tables e below (s₁.setTop (entryFrame m #[(.int p1), (.int p2), (.int p3)] maxLocals)) t := fun t k => castTop (ef_0 m p1 p2 p3) k
  refine own_go (S' := fun t => Steps p.tables e below (s₁.setTop (mkF m 0 #[.val (.int p1), .val (.int p2), .val (.int p3), .unset, .unset, .unset, .unset, .unset, .unset, .unset] [])) t) pre0 ?_
  obtain ⟨mm, d_mm⟩ : ∃ z : Int32, z = (p3 &&& (3 : Int32)) := ⟨_, rfl⟩
  obtain ⟨sv, d_sv⟩ : ∃ z : Int32, z = (if mm = (0 : Int32) then p1 else (if mm = (2 : Int32) then (p1 ^^^ ((1 : Int32) <<< ((p2 &&& (31 : Int32)) &&& 31))) else p2)) := ⟨_, rfl⟩
  have j1 : ∀ t, Steps p.tables e below (s₁.setTop (mkF m 35 #[.val (.int p1), .val (.int p2), .val (.int p3), .val (.int mm), .val (.int sv), .unset, .unset, .unset, .unset, .unset] [])) t → Steps p.tables e below (s₁.setTop (mkF m 5 #[.val (.int p1), .val (.int p2), .val (.int p3), .val (.int mm), .unset, .unset, .unset, .unset, .unset, .unset] [(.int mm)])) t := by
    intro t k
    by_cases hj5 : mm = (0 : Int32)
    · have q_sv : sv = p1 := by rw [d_sv, if_pos hj5]
      show Steps p.tables e below (s₁.setTop (mkF m 5 #[.val (.int p1), .val (.int p2), .val (.int p3), .val (.int mm), .unset, .unset, .unset, .unset, .unset, .unset] [(.int mm)])) _
      refine XS.ifNo X0.here hx rfl (hb hby at_5) rfl ((if0 _ _).trans (teq hj5).2) ?_
      show Steps p.tables e below (s₁.setTop (mkF m 8 #[.val (.int p1), .val (.int p2), .val (.int p3), .val (.int mm), .unset, .unset, .unset, .unset, .unset, .unset] [])) _
      refine XS.iloadN X0.here hx rfl (hb hby at_8) rfl ?_
      show Steps p.tables e below (s₁.setTop (mkF m 9 #[.val (.int p1), .val (.int p2), .val (.int p3), .val (.int mm), .unset, .unset, .unset, .unset, .unset, .unset] [(.int p1)])) _
      refine XS.istore X0.here hx rfl (hb hby at_9) rfl (l' := #[.val (.int p1), .val (.int p2), .val (.int p3), .val (.int mm), .val (.int p1), .unset, .unset, .unset, .unset, .unset]) rfl ?_
      show Steps p.tables e below (s₁.setTop (mkF m 11 #[.val (.int p1), .val (.int p2), .val (.int p3), .val (.int mm), .val (.int p1), .unset, .unset, .unset, .unset, .unset] [])) _
      refine XS.goto X0.here hx rfl (pc0 := 11) (pc' := 35) rfl (hb hby at_11) (by decide) (by decide) ?_
      rw [q_sv] at k
      exact k
    · show Steps p.tables e below (s₁.setTop (mkF m 5 #[.val (.int p1), .val (.int p2), .val (.int p3), .val (.int mm), .unset, .unset, .unset, .unset, .unset, .unset] [(.int mm)])) _
      refine XS.ifYes X0.here hx rfl (pc0 := 5) (pc' := 14) rfl (hb hby at_5) rfl ((if0 _ _).trans (feq hj5).2) (by decide) (by decide) ?_
      show Steps p.tables e below (s₁.setTop (mkF m 14 #[.val (.int p1), .val (.int p2), .val (.int p3), .val (.int mm), .unset, .unset, .unset, .unset, .unset, .unset] [])) _
      refine XS.iloadN X0.here hx rfl (hb hby at_14) rfl ?_
      show Steps p.tables e below (s₁.setTop (mkF m 15 #[.val (.int p1), .val (.int p2), .val (.int p3), .val (.int mm), .unset, .unset, .unset, .unset, .unset, .unset] [(.int mm)])) _
      refine XS.iconst X0.here hx rfl (hb hby at_15) ?_
      by_cases hj16 : mm = (2 : Int32)
      · have q_sv : sv = (p1 ^^^ ((1 : Int32) <<< ((p2 &&& (31 : Int32)) &&& 31))) := by rw [d_sv, if_neg hj5, if_pos hj16]
        show Steps p.tables e below (s₁.setTop (mkF m 16 #[.val (.int p1), .val (.int p2), .val (.int p3), .val (.int mm), .unset, .unset, .unset, .unset, .unset, .unset] [(.int (2 : Int32)), (.int mm)])) _
        refine XS.icmpNo X0.here hx rfl (hb hby at_16) rfl (teq hj16).2 ?_
        show Steps p.tables e below (s₁.setTop (mkF m 19 #[.val (.int p1), .val (.int p2), .val (.int p3), .val (.int mm), .unset, .unset, .unset, .unset, .unset, .unset] [])) _
        refine XS.iloadN X0.here hx rfl (hb hby at_19) rfl ?_
        show Steps p.tables e below (s₁.setTop (mkF m 20 #[.val (.int p1), .val (.int p2), .val (.int p3), .val (.int mm), .unset, .unset, .unset, .unset, .unset, .unset] [(.int p1)])) _
        refine XS.iconst X0.here hx rfl (hb hby at_20) ?_
        show Steps p.tables e below (s₁.setTop (mkF m 21 #[.val (.int p1), .val (.int p2), .val (.int p3), .val (.int mm), .unset, .unset, .unset, .unset, .unset, .unset] [(.int (1 : Int32)), (.int p1)])) _
        refine XS.iloadN X0.here hx rfl (hb hby at_21) rfl ?_
        show Steps p.tables e below (s₁.setTop (mkF m 22 #[.val (.int p1), .val (.int p2), .val (.int p3), .val (.int mm), .unset, .unset, .unset, .unset, .unset, .unset] [(.int p2), (.int (1 : Int32)), (.int p1)])) _
        refine XS.bipush X0.here hx rfl (hb hby at_22) ?_
        show Steps p.tables e below (s₁.setTop (mkF m 24 #[.val (.int p1), .val (.int p2), .val (.int p3), .val (.int mm), .unset, .unset, .unset, .unset, .unset, .unset] [(.int (31 : Int32)), (.int p2), (.int (1 : Int32)), (.int p1)])) _
        refine XS.iand X0.here hx rfl (hb hby at_24) rfl ?_
        show Steps p.tables e below (s₁.setTop (mkF m 25 #[.val (.int p1), .val (.int p2), .val (.int p3), .val (.int mm), .unset, .unset, .unset, .unset, .unset, .unset] [(.int (p2 &&& (31 : Int32))), (.int (1 : Int32)), (.int p1)])) _
        refine XS.ishl X0.here hx rfl (hb hby at_25) rfl ?_
        show Steps p.tables e below (s₁.setTop (mkF m 26 #[.val (.int p1), .val (.int p2), .val (.int p3), .val (.int mm), .unset, .unset, .unset, .unset, .unset, .unset] [(.int ((1 : Int32) <<< ((p2 &&& (31 : Int32)) &&& 31))), (.int p1)])) _
        refine XS.ixor X0.here hx rfl (hb hby at_26) rfl ?_
        show Steps p.tables e below (s₁.setTop (mkF m 27 #[.val (.int p1), .val (.int p2), .val (.int p3), .val (.int mm), .unset, .unset, .unset, .unset, .unset, .unset] [(.int (p1 ^^^ ((1 : Int32) <<< ((p2 &&& (31 : Int32)) &&& 31))))])) _
        refine XS.istore X0.here hx rfl (hb hby at_27) rfl (l' := #[.val (.int p1), .val (.int p2), .val (.int p3), .val (.int mm), .val (.int (p1 ^^^ ((1 : Int32) <<< ((p2 &&& (31 : Int32)) &&& 31)))), .unset, .unset, .unset, .unset, .unset]) rfl ?_
        show Steps p.tables e below (s₁.setTop (mkF m 29 #[.val (.int p1), .val (.int p2), .val (.int p3), .val (.int mm), .val (.int (p1 ^^^ ((1 : Int32) <<< ((p2 &&& (31 : Int32)) &&& 31)))), .unset, .unset, .unset, .unset, .unset] [])) _
        refine XS.goto X0.here hx rfl (pc0 := 29) (pc' := 35) rfl (hb hby at_29) (by decide) (by decide) ?_
        rw [q_sv] at k
        exact k
      · have q_sv : sv = p2 := by rw [d_sv, if_neg hj5, if_neg hj16]
        show Steps p.tables e below (s₁.setTop (mkF m 16 #[.val (.int p1), .val (.int p2), .val (.int p3), .val (.int mm), .unset, .unset, .unset, .unset, .unset, .unset] [(.int (2 : Int32)), (.int mm)])) _
        refine XS.icmpYes X0.here hx rfl (pc0 := 16) (pc' := 32) rfl (hb hby at_16) rfl (feq hj16).2 (by decide) (by decide) ?_
        show Steps p.tables e below (s₁.setTop (mkF m 32 #[.val (.int p1), .val (.int p2), .val (.int p3), .val (.int mm), .unset, .unset, .unset, .unset, .unset, .unset] [])) _
        refine XS.iloadN X0.here hx rfl (hb hby at_32) rfl ?_
        show Steps p.tables e below (s₁.setTop (mkF m 33 #[.val (.int p1), .val (.int p2), .val (.int p3), .val (.int mm), .unset, .unset, .unset, .unset, .unset, .unset] [(.int p2)])) _
        refine XS.istore X0.here hx rfl (hb hby at_33) rfl (l' := #[.val (.int p1), .val (.int p2), .val (.int p3), .val (.int mm), .val (.int p2), .unset, .unset, .unset, .unset, .unset]) rfl ?_
        rw [q_sv] at k
        exact k
  obtain ⟨T2, h2, X2, e2, E2, A2, D2, -, st2⟩ := newO X0 hx hZ hown (hw _ (List.mem_of_getElem? (i := 0) rfl)) (hw _ (List.mem_of_getElem? (i := 1) rfl)) (hw _ (List.mem_of_getElem? (i := 2) rfl)) e0 (g := (mkF m 35 #[.val (.int p1), .val (.int p2), .val (.int p3), .val (.int mm), .val (.int sv), .unset, .unset, .unset, .unset, .unset] [])) rfl (hb hby at_35) (by decide) (by decide)
  obtain ⟨b2, g2⟩ : ∃ z, z = h0.size := ⟨_, rfl⟩
  rw [← g2] at A2 D2 st2
  have g_b2 : n0 ≤ b2 := Nat.le_trans Z0 (Nat.le_of_eq g2.symm)
  have sz_b2 : h0.size ≤ b2 := Nat.le_trans K0.1 (Nat.le_of_eq g2.symm)
  have Z0 : n0 ≤ h2.size := Nat.le_trans Z0 E2.1
  have K0 := K0.ext E2
  have E_b2 := A2
  have F_b2_colours : Fld Z h2 b2 "com/example/glowmarch/glowmarch/rules/Condition$Exactly" "colours" "I" (.int (0 : Int32)) := D2 (Or.inr (hw _ (List.mem_of_getElem? (i := 15) rfl))) (ty := .int) (by decide)
  obtain ⟨_, _, ⟨T3, L3, k3, n3⟩, -, X3, ⟨Lc3, hQ3, l3, y3, z3⟩, st3⟩ := X2.specialBack hx (y := (⟨"com/example/glowmarch/glowmarch/rules/Condition$Exactly", "<init>", "(I)V"⟩ : MethodName)) rfl hown (mvT hZ (hw _ (List.mem_of_getElem? (i := 3) rfl))) (mvT hZ (hw _ (List.mem_of_getElem? (i := 4) rfl))) (mvT hZ (hw _ (List.mem_of_getElem? (i := 5) rfl))) (by decide) (backOf (W := 1) (rm1 l Z a0 hw [] b2 p1 (.int (0 : Int32)) h2 n0 Z0 E_b2 F_b2_colours g_b2) hZ (hw _ (List.mem_of_getElem? (i := 5) rfl)) (hw _ (List.mem_of_getElem? (i := 2) rfl)) (by decide) (by decide)) (g := (mkF m 40 #[.val (.int p1), .val (.int p2), .val (.int p3), .val (.int mm), .val (.int sv), .unset, .unset, .unset, .unset, .unset] [(.int p1), (.ref b2), (.ref b2)])) rfl (by rw [hml]; rfl) (Steps.refl _) (a := b2) (argsL := [(.int p1)]) (rest := [(.ref b2)]) (lenOf pd_1 rfl) rfl (by show 2 * 0 + _ ≤ _; exact Nat.le_of_eq rfl) (hb hby at_40) (fun _ _ => ⟨rfl, e2, (by decide : 1 + 0 ≤ _), (by decide : 1 + 0 ≤ _)⟩)
  dsimp only [Pt.U, Pt.locs, Pt.cells, Pt.slots] at X3 l3 y3 z3 st3 hQ3
  subst l3 y3 z3
  obtain ⟨rfl, N3q, K3, E_b2_new, F_b2_colours_new⟩ := hQ3
  have E_b2 := E_b2.keep K3
  have E_b2 := E_b2_new
  have F_b2_colours := F_b2_colours_new
  have Z0 : n0 ≤ T3.heap.size := Nat.le_trans Z0 K3.1
  have K0 := K0.trans K3 (allS (Or.inr sz_b2) all0)
  have N3 := Fr.app N0 N3q
  obtain ⟨cq4, kq4, q4a, q4b, q4c⟩ := isOf hZ rfl E_b2
  obtain ⟨_, _, ⟨T4, L4, k4, n4⟩, -, X4, ⟨Lc4, hQ4, l4, y4, z4⟩, st4⟩ := X3.virtualBack hx (y := (⟨"com/example/glowmarch/glowmarch/rules/Condition$Exactly", "holds", "(I)Z"⟩ : MethodName)) (z := (⟨"com/example/glowmarch/glowmarch/rules/Condition$Exactly", "holds", "(I)Z"⟩ : MethodName)) hown (mvT hZ (hw _ (List.mem_of_getElem? (i := 16) rfl))) (mvT hZ (hw _ (List.mem_of_getElem? (i := 17) rfl))) (notFace_of_selects (args := #[]) (mvT hZ (hw _ (List.mem_of_getElem? (i := 19) rfl)))) (mvT hZ (hw _ (List.mem_of_getElem? (i := 19) rfl))) (mvT hZ (hw _ (List.mem_of_getElem? (i := 18) rfl))) (by decide) (backOf (W := 0) (rm4 l Z a0 hw [] b2 sv p1 T3.heap n0 Z0 F_b2_colours) hZ (hw _ (List.mem_of_getElem? (i := 20) rfl)) (hw _ (List.mem_of_getElem? (i := 2) rfl)) (by decide) (by decide)) q4a q4c (g := (mkF m 49 #[.val (.int p1), .val (.int p2), .val (.int p3), .val (.int mm), .val (.int sv), .val (.ref b2), .unset, .unset, .unset, .unset] [(.int sv), (.ref b2)])) rfl (by rw [hml]; rfl) (Steps.refl _) (argsL := [(.int sv)]) (rest := []) (lenOf pd_2 rfl) rfl (by show 2 * 0 + _ ≤ _; exact Nat.le_of_eq rfl) (hb hby at_49) (fun _ _ => ⟨rfl, rfl, (by decide : 1 + 0 ≤ _), (by decide : 1 + 0 ≤ _)⟩)
  dsimp only [Pt.U, Pt.locs, Pt.cells, Pt.slots] at X4 l4 y4 z4 st4 hQ4
  subst l4 y4 z4
  obtain ⟨got, rfl, d_got, N4q, e4⟩ := hQ4
  have N4 := Fr.app N3 N4q
  obtain ⟨ea, d_ea⟩ : ∃ z : Int32, z = (if (sv &&& (p1 ^^^ (-1 : Int32))) = (0 : Int32) then (1 : Int32) else (0 : Int32)) := ⟨_, rfl⟩
  have j5 : ∀ t, Steps p.tables e below (T4.setTop (mkF m 68 #[.val (.int p1), .val (.int p2), .val (.int p3), .val (.int mm), .val (.int sv), .val (.ref b2), .val (.int got), .unset, .unset, .unset] [(.int ea)])) t → Steps p.tables e below (T4.setTop (mkF m 60 #[.val (.int p1), .val (.int p2), .val (.int p3), .val (.int mm), .val (.int sv), .val (.ref b2), .val (.int got), .unset, .unset, .unset] [(.int (sv &&& (p1 ^^^ (-1 : Int32))))])) t := by
    intro t k
    by_cases hj60 : (sv &&& (p1 ^^^ (-1 : Int32))) = (0 : Int32)
    · have q_ea : ea = (1 : Int32) := by rw [d_ea, if_pos hj60]
      show Steps p.tables e below (T4.setTop (mkF m 60 #[.val (.int p1), .val (.int p2), .val (.int p3), .val (.int mm), .val (.int sv), .val (.ref b2), .val (.int got), .unset, .unset, .unset] [(.int (sv &&& (p1 ^^^ (-1 : Int32))))])) _
      refine XS.ifNo X4.here hx rfl (hb hby at_60) rfl ((if0 _ _).trans (teq hj60).2) ?_
      show Steps p.tables e below (T4.setTop (mkF m 63 #[.val (.int p1), .val (.int p2), .val (.int p3), .val (.int mm), .val (.int sv), .val (.ref b2), .val (.int got), .unset, .unset, .unset] [])) _
      refine XS.iconst X4.here hx rfl (hb hby at_63) ?_
      show Steps p.tables e below (T4.setTop (mkF m 64 #[.val (.int p1), .val (.int p2), .val (.int p3), .val (.int mm), .val (.int sv), .val (.ref b2), .val (.int got), .unset, .unset, .unset] [(.int (1 : Int32))])) _
      refine XS.goto X4.here hx rfl (pc0 := 64) (pc' := 68) rfl (hb hby at_64) (by decide) (by decide) ?_
      rw [q_ea] at k
      exact k
    · have q_ea : ea = (0 : Int32) := by rw [d_ea, if_neg hj60]
      show Steps p.tables e below (T4.setTop (mkF m 60 #[.val (.int p1), .val (.int p2), .val (.int p3), .val (.int mm), .val (.int sv), .val (.ref b2), .val (.int got), .unset, .unset, .unset] [(.int (sv &&& (p1 ^^^ (-1 : Int32))))])) _
      refine XS.ifYes X4.here hx rfl (pc0 := 60) (pc' := 67) rfl (hb hby at_60) rfl ((if0 _ _).trans (feq hj60).2) (by decide) (by decide) ?_
      show Steps p.tables e below (T4.setTop (mkF m 67 #[.val (.int p1), .val (.int p2), .val (.int p3), .val (.int mm), .val (.int sv), .val (.ref b2), .val (.int got), .unset, .unset, .unset] [])) _
      refine XS.iconst X4.here hx rfl (hb hby at_67) ?_
      rw [q_ea] at k
      exact k
  obtain ⟨eb, d_eb⟩ : ∃ z : Int32, z = (if (p1 &&& (sv ^^^ (-1 : Int32))) = (0 : Int32) then (1 : Int32) else (0 : Int32)) := ⟨_, rfl⟩
  have j6 : ∀ t, Steps p.tables e below (T4.setTop (mkF m 84 #[.val (.int p1), .val (.int p2), .val (.int p3), .val (.int mm), .val (.int sv), .val (.ref b2), .val (.int got), .val (.int ea), .unset, .unset] [(.int eb)])) t → Steps p.tables e below (T4.setTop (mkF m 76 #[.val (.int p1), .val (.int p2), .val (.int p3), .val (.int mm), .val (.int sv), .val (.ref b2), .val (.int got), .val (.int ea), .unset, .unset] [(.int (p1 &&& (sv ^^^ (-1 : Int32))))])) t := by
    intro t k
    by_cases hj76 : (p1 &&& (sv ^^^ (-1 : Int32))) = (0 : Int32)
    · have q_eb : eb = (1 : Int32) := by rw [d_eb, if_pos hj76]
      show Steps p.tables e below (T4.setTop (mkF m 76 #[.val (.int p1), .val (.int p2), .val (.int p3), .val (.int mm), .val (.int sv), .val (.ref b2), .val (.int got), .val (.int ea), .unset, .unset] [(.int (p1 &&& (sv ^^^ (-1 : Int32))))])) _
      refine XS.ifNo X4.here hx rfl (hb hby at_76) rfl ((if0 _ _).trans (teq hj76).2) ?_
      show Steps p.tables e below (T4.setTop (mkF m 79 #[.val (.int p1), .val (.int p2), .val (.int p3), .val (.int mm), .val (.int sv), .val (.ref b2), .val (.int got), .val (.int ea), .unset, .unset] [])) _
      refine XS.iconst X4.here hx rfl (hb hby at_79) ?_
      show Steps p.tables e below (T4.setTop (mkF m 80 #[.val (.int p1), .val (.int p2), .val (.int p3), .val (.int mm), .val (.int sv), .val (.ref b2), .val (.int got), .val (.int ea), .unset, .unset] [(.int (1 : Int32))])) _
      refine XS.goto X4.here hx rfl (pc0 := 80) (pc' := 84) rfl (hb hby at_80) (by decide) (by decide) ?_
      rw [q_eb] at k
      exact k
    · have q_eb : eb = (0 : Int32) := by rw [d_eb, if_neg hj76]
      show Steps p.tables e below (T4.setTop (mkF m 76 #[.val (.int p1), .val (.int p2), .val (.int p3), .val (.int mm), .val (.int sv), .val (.ref b2), .val (.int got), .val (.int ea), .unset, .unset] [(.int (p1 &&& (sv ^^^ (-1 : Int32))))])) _
      refine XS.ifYes X4.here hx rfl (pc0 := 76) (pc' := 83) rfl (hb hby at_76) rfl ((if0 _ _).trans (feq hj76).2) (by decide) (by decide) ?_
      show Steps p.tables e below (T4.setTop (mkF m 83 #[.val (.int p1), .val (.int p2), .val (.int p3), .val (.int mm), .val (.int sv), .val (.ref b2), .val (.int got), .val (.int ea), .unset, .unset] [])) _
      refine XS.iconst X4.here hx rfl (hb hby at_83) ?_
      rw [q_eb] at k
      exact k
  obtain ⟨ex, d_ex⟩ : ∃ z : Int32, z = (if ea = (0 : Int32) then (0 : Int32) else (if eb = (0 : Int32) then (0 : Int32) else (1 : Int32))) := ⟨_, rfl⟩
  have j7 : ∀ t, Steps p.tables e below (T4.setTop (mkF m 101 #[.val (.int p1), .val (.int p2), .val (.int p3), .val (.int mm), .val (.int sv), .val (.ref b2), .val (.int got), .val (.int ea), .val (.int eb), .unset] [(.int ex)])) t → Steps p.tables e below (T4.setTop (mkF m 88 #[.val (.int p1), .val (.int p2), .val (.int p3), .val (.int mm), .val (.int sv), .val (.ref b2), .val (.int got), .val (.int ea), .val (.int eb), .unset] [(.int ea)])) t := by
    intro t k
    by_cases hj88 : ea = (0 : Int32)
    · have q_ex : ex = (0 : Int32) := by rw [d_ex, if_pos hj88]
      show Steps p.tables e below (T4.setTop (mkF m 88 #[.val (.int p1), .val (.int p2), .val (.int p3), .val (.int mm), .val (.int sv), .val (.ref b2), .val (.int got), .val (.int ea), .val (.int eb), .unset] [(.int ea)])) _
      refine XS.ifYes X4.here hx rfl (pc0 := 88) (pc' := 100) rfl (hb hby at_88) rfl ((if0 _ _).trans (teq hj88).1) (by decide) (by decide) ?_
      show Steps p.tables e below (T4.setTop (mkF m 100 #[.val (.int p1), .val (.int p2), .val (.int p3), .val (.int mm), .val (.int sv), .val (.ref b2), .val (.int got), .val (.int ea), .val (.int eb), .unset] [])) _
      refine XS.iconst X4.here hx rfl (hb hby at_100) ?_
      rw [q_ex] at k
      exact k
    · show Steps p.tables e below (T4.setTop (mkF m 88 #[.val (.int p1), .val (.int p2), .val (.int p3), .val (.int mm), .val (.int sv), .val (.ref b2), .val (.int got), .val (.int ea), .val (.int eb), .unset] [(.int ea)])) _
      refine XS.ifNo X4.here hx rfl (hb hby at_88) rfl ((if0 _ _).trans (feq hj88).1) ?_
      show Steps p.tables e below (T4.setTop (mkF m 91 #[.val (.int p1), .val (.int p2), .val (.int p3), .val (.int mm), .val (.int sv), .val (.ref b2), .val (.int got), .val (.int ea), .val (.int eb), .unset] [])) _
      refine XS.iload X4.here hx rfl (hb hby at_91) rfl ?_
      by_cases hj93 : eb = (0 : Int32)
      · have q_ex : ex = (0 : Int32) := by rw [d_ex, if_neg hj88, if_pos hj93]
        show Steps p.tables e below (T4.setTop (mkF m 93 #[.val (.int p1), .val (.int p2), .val (.int p3), .val (.int mm), .val (.int sv), .val (.ref b2), .val (.int got), .val (.int ea), .val (.int eb), .unset] [(.int eb)])) _
        refine XS.ifYes X4.here hx rfl (pc0 := 93) (pc' := 100) rfl (hb hby at_93) rfl ((if0 _ _).trans (teq hj93).1) (by decide) (by decide) ?_
        show Steps p.tables e below (T4.setTop (mkF m 100 #[.val (.int p1), .val (.int p2), .val (.int p3), .val (.int mm), .val (.int sv), .val (.ref b2), .val (.int got), .val (.int ea), .val (.int eb), .unset] [])) _
        refine XS.iconst X4.here hx rfl (hb hby at_100) ?_
        rw [q_ex] at k
        exact k
      · have q_ex : ex = (1 : Int32) := by rw [d_ex, if_neg hj88, if_neg hj93]
        show Steps p.tables e below (T4.setTop (mkF m 93 #[.val (.int p1), .val (.int p2), .val (.int p3), .val (.int mm), .val (.int sv), .val (.ref b2), .val (.int got), .val (.int ea), .val (.int eb), .unset] [(.int eb)])) _
        refine XS.ifNo X4.here hx rfl (hb hby at_93) rfl ((if0 _ _).trans (feq hj93).1) ?_
        show Steps p.tables e below (T4.setTop (mkF m 96 #[.val (.int p1), .val (.int p2), .val (.int p3), .val (.int mm), .val (.int sv), .val (.ref b2), .val (.int got), .val (.int ea), .val (.int eb), .unset] [])) _
        refine XS.iconst X4.here hx rfl (hb hby at_96) ?_
        show Steps p.tables e below (T4.setTop (mkF m 97 #[.val (.int p1), .val (.int p2), .val (.int p3), .val (.int mm), .val (.int sv), .val (.ref b2), .val (.int got), .val (.int ea), .val (.int eb), .unset] [(.int (1 : Int32))])) _
        refine XS.goto X4.here hx rfl (pc0 := 97) (pc' := 101) rfl (hb hby at_97) (by decide) (by decide) ?_
        rw [q_ex] at k
        exact k
  refine own_go (S' := fun t => Steps p.tables e below (T4.setTop (mkF m 104 #[.val (.int p1), .val (.int p2), .val (.int p3), .val (.int mm), .val (.int sv), .val (.ref b2), .val (.int got), .val (.int ea), .val (.int eb), .val (.int ex)] [(.int mm)])) t) (fun t k => ?_) ?_
  · show Steps p.tables e below (s₁.setTop (mkF m 0 #[.val (.int p1), .val (.int p2), .val (.int p3), .unset, .unset, .unset, .unset, .unset, .unset, .unset] [])) _
    refine XS.iloadN X0.here hx rfl (hb hby at_0) rfl ?_
    show Steps p.tables e below (s₁.setTop (mkF m 1 #[.val (.int p1), .val (.int p2), .val (.int p3), .unset, .unset, .unset, .unset, .unset, .unset, .unset] [(.int p3)])) _
    refine XS.iconst X0.here hx rfl (hb hby at_1) ?_
    show Steps p.tables e below (s₁.setTop (mkF m 2 #[.val (.int p1), .val (.int p2), .val (.int p3), .unset, .unset, .unset, .unset, .unset, .unset, .unset] [(.int (3 : Int32)), (.int p3)])) _
    refine XS.iand X0.here hx rfl (hb hby at_2) rfl ?_
    show Steps p.tables e below (s₁.setTop (mkF m 3 #[.val (.int p1), .val (.int p2), .val (.int p3), .unset, .unset, .unset, .unset, .unset, .unset, .unset] [(.int (p3 &&& (3 : Int32)))])) _
    rw [← d_mm]
    show Steps p.tables e below (s₁.setTop (mkF m 3 #[.val (.int p1), .val (.int p2), .val (.int p3), .unset, .unset, .unset, .unset, .unset, .unset, .unset] [(.int mm)])) _
    refine XS.istoreN X0.here hx rfl (hb hby at_3) rfl (l' := #[.val (.int p1), .val (.int p2), .val (.int p3), .val (.int mm), .unset, .unset, .unset, .unset, .unset, .unset]) rfl ?_
    show Steps p.tables e below (s₁.setTop (mkF m 4 #[.val (.int p1), .val (.int p2), .val (.int p3), .val (.int mm), .unset, .unset, .unset, .unset, .unset, .unset] [])) _
    refine XS.iloadN X0.here hx rfl (hb hby at_4) rfl ?_
    show Steps p.tables e below (s₁.setTop (mkF m 5 #[.val (.int p1), .val (.int p2), .val (.int p3), .val (.int mm), .unset, .unset, .unset, .unset, .unset, .unset] [(.int mm)])) _
    refine j1 _ ?_
    show Steps p.tables e below (s₁.setTop (mkF m 35 #[.val (.int p1), .val (.int p2), .val (.int p3), .val (.int mm), .val (.int sv), .unset, .unset, .unset, .unset, .unset] [])) _
    refine st2 _ ?_
    show Steps p.tables e below (T2.setTop (mkF m 38 #[.val (.int p1), .val (.int p2), .val (.int p3), .val (.int mm), .val (.int sv), .unset, .unset, .unset, .unset, .unset] [(.ref b2)])) _
    refine XS.dup X2.here hx rfl (hb hby at_38) rfl rfl ?_
    show Steps p.tables e below (T2.setTop (mkF m 39 #[.val (.int p1), .val (.int p2), .val (.int p3), .val (.int mm), .val (.int sv), .unset, .unset, .unset, .unset, .unset] [(.ref b2), (.ref b2)])) _
    refine XS.iloadN X2.here hx rfl (hb hby at_39) rfl ?_
    show Steps p.tables e below (T2.setTop (mkF m 40 #[.val (.int p1), .val (.int p2), .val (.int p3), .val (.int mm), .val (.int sv), .unset, .unset, .unset, .unset, .unset] [(.int p1), (.ref b2), (.ref b2)])) _
    refine st3.trans ?_
    show Steps p.tables e below (T3.setTop (mkF m 43 #[.val (.int p1), .val (.int p2), .val (.int p3), .val (.int mm), .val (.int sv), .unset, .unset, .unset, .unset, .unset] [(.ref b2)])) _
    refine XS.astore X3.here hx rfl (hb hby at_43) rfl rfl (l' := #[.val (.int p1), .val (.int p2), .val (.int p3), .val (.int mm), .val (.int sv), .val (.ref b2), .unset, .unset, .unset, .unset]) rfl ?_
    show Steps p.tables e below (T3.setTop (mkF m 45 #[.val (.int p1), .val (.int p2), .val (.int p3), .val (.int mm), .val (.int sv), .val (.ref b2), .unset, .unset, .unset, .unset] [])) _
    refine XS.aload X3.here hx rfl (hb hby at_45) rfl rfl ?_
    show Steps p.tables e below (T3.setTop (mkF m 47 #[.val (.int p1), .val (.int p2), .val (.int p3), .val (.int mm), .val (.int sv), .val (.ref b2), .unset, .unset, .unset, .unset] [(.ref b2)])) _
    refine XS.iload X3.here hx rfl (hb hby at_47) rfl ?_
    show Steps p.tables e below (T3.setTop (mkF m 49 #[.val (.int p1), .val (.int p2), .val (.int p3), .val (.int mm), .val (.int sv), .val (.ref b2), .unset, .unset, .unset, .unset] [(.int sv), (.ref b2)])) _
    refine st4.trans ?_
    show Steps p.tables e below (T4.setTop (mkF m 52 #[.val (.int p1), .val (.int p2), .val (.int p3), .val (.int mm), .val (.int sv), .val (.ref b2), .unset, .unset, .unset, .unset] [(.int got)])) _
    refine XS.istore X4.here hx rfl (hb hby at_52) rfl (l' := #[.val (.int p1), .val (.int p2), .val (.int p3), .val (.int mm), .val (.int sv), .val (.ref b2), .val (.int got), .unset, .unset, .unset]) rfl ?_
    show Steps p.tables e below (T4.setTop (mkF m 54 #[.val (.int p1), .val (.int p2), .val (.int p3), .val (.int mm), .val (.int sv), .val (.ref b2), .val (.int got), .unset, .unset, .unset] [])) _
    refine XS.iload X4.here hx rfl (hb hby at_54) rfl ?_
    show Steps p.tables e below (T4.setTop (mkF m 56 #[.val (.int p1), .val (.int p2), .val (.int p3), .val (.int mm), .val (.int sv), .val (.ref b2), .val (.int got), .unset, .unset, .unset] [(.int sv)])) _
    refine XS.iloadN X4.here hx rfl (hb hby at_56) rfl ?_
    show Steps p.tables e below (T4.setTop (mkF m 57 #[.val (.int p1), .val (.int p2), .val (.int p3), .val (.int mm), .val (.int sv), .val (.ref b2), .val (.int got), .unset, .unset, .unset] [(.int p1), (.int sv)])) _
    refine XS.iconst X4.here hx rfl (hb hby at_57) ?_
    show Steps p.tables e below (T4.setTop (mkF m 58 #[.val (.int p1), .val (.int p2), .val (.int p3), .val (.int mm), .val (.int sv), .val (.ref b2), .val (.int got), .unset, .unset, .unset] [(.int (-1 : Int32)), (.int p1), (.int sv)])) _
    refine XS.ixor X4.here hx rfl (hb hby at_58) rfl ?_
    show Steps p.tables e below (T4.setTop (mkF m 59 #[.val (.int p1), .val (.int p2), .val (.int p3), .val (.int mm), .val (.int sv), .val (.ref b2), .val (.int got), .unset, .unset, .unset] [(.int (p1 ^^^ (-1 : Int32))), (.int sv)])) _
    refine XS.iand X4.here hx rfl (hb hby at_59) rfl ?_
    show Steps p.tables e below (T4.setTop (mkF m 60 #[.val (.int p1), .val (.int p2), .val (.int p3), .val (.int mm), .val (.int sv), .val (.ref b2), .val (.int got), .unset, .unset, .unset] [(.int (sv &&& (p1 ^^^ (-1 : Int32))))])) _
    refine j5 _ ?_
    show Steps p.tables e below (T4.setTop (mkF m 68 #[.val (.int p1), .val (.int p2), .val (.int p3), .val (.int mm), .val (.int sv), .val (.ref b2), .val (.int got), .unset, .unset, .unset] [(.int ea)])) _
    refine XS.istore X4.here hx rfl (hb hby at_68) rfl (l' := #[.val (.int p1), .val (.int p2), .val (.int p3), .val (.int mm), .val (.int sv), .val (.ref b2), .val (.int got), .val (.int ea), .unset, .unset]) rfl ?_
    show Steps p.tables e below (T4.setTop (mkF m 70 #[.val (.int p1), .val (.int p2), .val (.int p3), .val (.int mm), .val (.int sv), .val (.ref b2), .val (.int got), .val (.int ea), .unset, .unset] [])) _
    refine XS.iloadN X4.here hx rfl (hb hby at_70) rfl ?_
    show Steps p.tables e below (T4.setTop (mkF m 71 #[.val (.int p1), .val (.int p2), .val (.int p3), .val (.int mm), .val (.int sv), .val (.ref b2), .val (.int got), .val (.int ea), .unset, .unset] [(.int p1)])) _
    refine XS.iload X4.here hx rfl (hb hby at_71) rfl ?_
    show Steps p.tables e below (T4.setTop (mkF m 73 #[.val (.int p1), .val (.int p2), .val (.int p3), .val (.int mm), .val (.int sv), .val (.ref b2), .val (.int got), .val (.int ea), .unset, .unset] [(.int sv), (.int p1)])) _
    refine XS.iconst X4.here hx rfl (hb hby at_73) ?_
    show Steps p.tables e below (T4.setTop (mkF m 74 #[.val (.int p1), .val (.int p2), .val (.int p3), .val (.int mm), .val (.int sv), .val (.ref b2), .val (.int got), .val (.int ea), .unset, .unset] [(.int (-1 : Int32)), (.int sv), (.int p1)])) _
    refine XS.ixor X4.here hx rfl (hb hby at_74) rfl ?_
    show Steps p.tables e below (T4.setTop (mkF m 75 #[.val (.int p1), .val (.int p2), .val (.int p3), .val (.int mm), .val (.int sv), .val (.ref b2), .val (.int got), .val (.int ea), .unset, .unset] [(.int (sv ^^^ (-1 : Int32))), (.int p1)])) _
    refine XS.iand X4.here hx rfl (hb hby at_75) rfl ?_
    show Steps p.tables e below (T4.setTop (mkF m 76 #[.val (.int p1), .val (.int p2), .val (.int p3), .val (.int mm), .val (.int sv), .val (.ref b2), .val (.int got), .val (.int ea), .unset, .unset] [(.int (p1 &&& (sv ^^^ (-1 : Int32))))])) _
    refine j6 _ ?_
    show Steps p.tables e below (T4.setTop (mkF m 84 #[.val (.int p1), .val (.int p2), .val (.int p3), .val (.int mm), .val (.int sv), .val (.ref b2), .val (.int got), .val (.int ea), .unset, .unset] [(.int eb)])) _
    refine XS.istore X4.here hx rfl (hb hby at_84) rfl (l' := #[.val (.int p1), .val (.int p2), .val (.int p3), .val (.int mm), .val (.int sv), .val (.ref b2), .val (.int got), .val (.int ea), .val (.int eb), .unset]) rfl ?_
    show Steps p.tables e below (T4.setTop (mkF m 86 #[.val (.int p1), .val (.int p2), .val (.int p3), .val (.int mm), .val (.int sv), .val (.ref b2), .val (.int got), .val (.int ea), .val (.int eb), .unset] [])) _
    refine XS.iload X4.here hx rfl (hb hby at_86) rfl ?_
    show Steps p.tables e below (T4.setTop (mkF m 88 #[.val (.int p1), .val (.int p2), .val (.int p3), .val (.int mm), .val (.int sv), .val (.ref b2), .val (.int got), .val (.int ea), .val (.int eb), .unset] [(.int ea)])) _
    refine j7 _ ?_
    show Steps p.tables e below (T4.setTop (mkF m 101 #[.val (.int p1), .val (.int p2), .val (.int p3), .val (.int mm), .val (.int sv), .val (.ref b2), .val (.int got), .val (.int ea), .val (.int eb), .unset] [(.int ex)])) _
    refine XS.istore X4.here hx rfl (hb hby at_101) rfl (l' := #[.val (.int p1), .val (.int p2), .val (.int p3), .val (.int mm), .val (.int sv), .val (.ref b2), .val (.int got), .val (.int ea), .val (.int eb), .val (.int ex)]) rfl ?_
    show Steps p.tables e below (T4.setTop (mkF m 103 #[.val (.int p1), .val (.int p2), .val (.int p3), .val (.int mm), .val (.int sv), .val (.ref b2), .val (.int got), .val (.int ea), .val (.int eb), .val (.int ex)] [])) _
    refine XS.iloadN X4.here hx rfl (hb hby at_103) rfl ?_
    exact k
  by_cases hc104 : mm = (0 : Int32)
  · have hc109 : ¬ (got = (0 : Int32)) := by rw [d_got, if_pos (by rw [d_sv, if_pos hc104])]; decide
    refine own_go (S' := fun t => Steps p.tables e below (T4.setTop (mkF m 116 #[.val (.int p1), .val (.int p2), .val (.int p3), .val (.int mm), .val (.int sv), .val (.ref b2), .val (.int got), .val (.int ea), .val (.int eb), .val (.int ex)] [(.int (2 : Int32)), (.int mm)])) t) (fun t k => ?_) ?_
    · show Steps p.tables e below (T4.setTop (mkF m 104 #[.val (.int p1), .val (.int p2), .val (.int p3), .val (.int mm), .val (.int sv), .val (.ref b2), .val (.int got), .val (.int ea), .val (.int eb), .val (.int ex)] [(.int mm)])) _
      refine XS.ifNo X4.here hx rfl (hb hby at_104) rfl ((if0 _ _).trans (teq hc104).2) ?_
      show Steps p.tables e below (T4.setTop (mkF m 107 #[.val (.int p1), .val (.int p2), .val (.int p3), .val (.int mm), .val (.int sv), .val (.ref b2), .val (.int got), .val (.int ea), .val (.int eb), .val (.int ex)] [])) _
      refine XS.iload X4.here hx rfl (hb hby at_107) rfl ?_
      show Steps p.tables e below (T4.setTop (mkF m 109 #[.val (.int p1), .val (.int p2), .val (.int p3), .val (.int mm), .val (.int sv), .val (.ref b2), .val (.int got), .val (.int ea), .val (.int eb), .val (.int ex)] [(.int got)])) _
      refine XS.ifYes X4.here hx rfl (pc0 := 109) (pc' := 114) rfl (hb hby at_109) rfl ((if0 _ _).trans (feq hc109).2) (by decide) (by decide) ?_
      show Steps p.tables e below (T4.setTop (mkF m 114 #[.val (.int p1), .val (.int p2), .val (.int p3), .val (.int mm), .val (.int sv), .val (.ref b2), .val (.int got), .val (.int ea), .val (.int eb), .val (.int ex)] [])) _
      refine XS.iloadN X4.here hx rfl (hb hby at_114) rfl ?_
      show Steps p.tables e below (T4.setTop (mkF m 115 #[.val (.int p1), .val (.int p2), .val (.int p3), .val (.int mm), .val (.int sv), .val (.ref b2), .val (.int got), .val (.int ea), .val (.int eb), .val (.int ex)] [(.int mm)])) _
      refine XS.iconst X4.here hx rfl (hb hby at_115) ?_
      exact k
    by_cases hc116 : mm = (2 : Int32)
    · have hc121 : got = (0 : Int32) := by rw [d_got, if_neg (by rw [d_sv, if_neg (by rw [hc116]; decide), if_pos hc116]; exact own_ne p1 p2)]
      have hc130 : got = ex := own_law p1 sv got ea eb ex d_got d_ea d_eb d_ex
      obtain ⟨cq8, kq8, q8a, q8b, q8c⟩ := isOf hZ e4 E_b2
      obtain ⟨_, _, ⟨T8, L8, k8, n8⟩, -, X8, ⟨Lc8, hQ8, l8, y8, z8⟩, st8⟩ := X4.virtualBack hx (y := (⟨"com/example/glowmarch/glowmarch/rules/Condition$Exactly", "colours", "()I"⟩ : MethodName)) (z := (⟨"com/example/glowmarch/glowmarch/rules/Condition$Exactly", "colours", "()I"⟩ : MethodName)) hown (mvT hZ (hw _ (List.mem_of_getElem? (i := 21) rfl))) (mvT hZ (hw _ (List.mem_of_getElem? (i := 22) rfl))) (notFace_of_selects (args := #[]) (mvT hZ (hw _ (List.mem_of_getElem? (i := 24) rfl)))) (mvT hZ (hw _ (List.mem_of_getElem? (i := 24) rfl))) (mvT hZ (hw _ (List.mem_of_getElem? (i := 23) rfl))) (by decide) (backOf (W := 0) (rm5 l Z a0 hw [] b2 p1 T3.heap n0 Z0 F_b2_colours) hZ (hw _ (List.mem_of_getElem? (i := 25) rfl)) (hw _ (List.mem_of_getElem? (i := 2) rfl)) (by decide) (by decide)) q8a q8c (g := (mkF m 135 #[.val (.int p1), .val (.int p2), .val (.int p3), .val (.int mm), .val (.int sv), .val (.ref b2), .val (.int got), .val (.int ea), .val (.int eb), .val (.int ex)] [(.ref b2)])) rfl (by rw [hml]; rfl) (Steps.refl _) (argsL := []) (rest := []) (lenOf pd_3 rfl) rfl (by show 2 * 0 + _ ≤ _; exact Nat.le_of_eq rfl) (hb hby at_135) (fun _ _ => ⟨rfl, e4, (by decide : 1 + 0 ≤ _), (by decide : 1 + 0 ≤ _)⟩)
      dsimp only [Pt.U, Pt.locs, Pt.cells, Pt.slots] at X8 l8 y8 z8 st8 hQ8
      subst l8 y8 z8
      obtain ⟨cl, rfl, d_cl, N8q, e8⟩ := hQ8
      have N8 := Fr.app N4 N8q
      have hc139 : cl = p1 := d_cl
      obtain ⟨fs, hr, hrun, hended, hW, hsame⟩ := X8.leave (v := some (.int (1 : Int32))) (fun h => by rw [Bd.returns] at h; cases h)
      refine ⟨_, _, ?_, hrun, hended, _, _, rfl, ?_, ⟨_, rfl⟩, hW, hsame.mono (by decide) (by decide)⟩
      · show Steps p.tables e below (T4.setTop (mkF m 116 #[.val (.int p1), .val (.int p2), .val (.int p3), .val (.int mm), .val (.int sv), .val (.ref b2), .val (.int got), .val (.int ea), .val (.int eb), .val (.int ex)] [(.int (2 : Int32)), (.int mm)])) _
        refine XS.icmpNo X4.here hx rfl (hb hby at_116) rfl (teq hc116).2 ?_
        show Steps p.tables e below (T4.setTop (mkF m 119 #[.val (.int p1), .val (.int p2), .val (.int p3), .val (.int mm), .val (.int sv), .val (.ref b2), .val (.int got), .val (.int ea), .val (.int eb), .val (.int ex)] [])) _
        refine XS.iload X4.here hx rfl (hb hby at_119) rfl ?_
        show Steps p.tables e below (T4.setTop (mkF m 121 #[.val (.int p1), .val (.int p2), .val (.int p3), .val (.int mm), .val (.int sv), .val (.ref b2), .val (.int got), .val (.int ea), .val (.int eb), .val (.int ex)] [(.int got)])) _
        refine XS.ifYes X4.here hx rfl (pc0 := 121) (pc' := 126) rfl (hb hby at_121) rfl ((if0 _ _).trans (teq hc121).1) (by decide) (by decide) ?_
        show Steps p.tables e below (T4.setTop (mkF m 126 #[.val (.int p1), .val (.int p2), .val (.int p3), .val (.int mm), .val (.int sv), .val (.ref b2), .val (.int got), .val (.int ea), .val (.int eb), .val (.int ex)] [])) _
        refine XS.iload X4.here hx rfl (hb hby at_126) rfl ?_
        show Steps p.tables e below (T4.setTop (mkF m 128 #[.val (.int p1), .val (.int p2), .val (.int p3), .val (.int mm), .val (.int sv), .val (.ref b2), .val (.int got), .val (.int ea), .val (.int eb), .val (.int ex)] [(.int got)])) _
        refine XS.iload X4.here hx rfl (hb hby at_128) rfl ?_
        show Steps p.tables e below (T4.setTop (mkF m 130 #[.val (.int p1), .val (.int p2), .val (.int p3), .val (.int mm), .val (.int sv), .val (.ref b2), .val (.int got), .val (.int ea), .val (.int eb), .val (.int ex)] [(.int ex), (.int got)])) _
        refine XS.icmpNo X4.here hx rfl (hb hby at_130) rfl (teq hc130).2 ?_
        show Steps p.tables e below (T4.setTop (mkF m 133 #[.val (.int p1), .val (.int p2), .val (.int p3), .val (.int mm), .val (.int sv), .val (.ref b2), .val (.int got), .val (.int ea), .val (.int eb), .val (.int ex)] [])) _
        refine XS.aload X4.here hx rfl (hb hby at_133) rfl rfl ?_
        show Steps p.tables e below (T4.setTop (mkF m 135 #[.val (.int p1), .val (.int p2), .val (.int p3), .val (.int mm), .val (.int sv), .val (.ref b2), .val (.int got), .val (.int ea), .val (.int eb), .val (.int ex)] [(.ref b2)])) _
        refine st8.trans ?_
        show Steps p.tables e below (T8.setTop (mkF m 138 #[.val (.int p1), .val (.int p2), .val (.int p3), .val (.int mm), .val (.int sv), .val (.ref b2), .val (.int got), .val (.int ea), .val (.int eb), .val (.int ex)] [(.int cl)])) _
        refine XS.iloadN X8.here hx rfl (hb hby at_138) rfl ?_
        show Steps p.tables e below (T8.setTop (mkF m 139 #[.val (.int p1), .val (.int p2), .val (.int p3), .val (.int mm), .val (.int sv), .val (.ref b2), .val (.int got), .val (.int ea), .val (.int eb), .val (.int ex)] [(.int p1), (.int cl)])) _
        refine XS.icmpNo X8.here hx rfl (hb hby at_139) rfl (teq hc139).2 ?_
        show Steps p.tables e below (T8.setTop (mkF m 142 #[.val (.int p1), .val (.int p2), .val (.int p3), .val (.int mm), .val (.int sv), .val (.ref b2), .val (.int got), .val (.int ea), .val (.int eb), .val (.int ex)] [])) _
        refine XS.iconst X8.here hx rfl (hb hby at_142) ?_
        show Steps p.tables e below (T8.setTop (mkF m 143 #[.val (.int p1), .val (.int p2), .val (.int p3), .val (.int mm), .val (.int sv), .val (.ref b2), .val (.int got), .val (.int ea), .val (.int eb), .val (.int ex)] [(.int (1 : Int32))])) _
        refine XS.goto X8.here hx rfl (pc0 := 143) (pc' := 147) rfl (hb hby at_143) (by decide) (by decide) ?_
        show Steps p.tables e below (T8.setTop (mkF m 147 #[.val (.int p1), .val (.int p2), .val (.int p3), .val (.int mm), .val (.int sv), .val (.ref b2), .val (.int got), .val (.int ea), .val (.int eb), .val (.int ex)] [(.int (1 : Int32))])) _
        exact retN X8 hx (t := .boolean) Bd.returns (by simp) (hb hby at_147) hr
      · show Q0 Z p1 p2 p3 h0 n0 _ T8.heap _
        rw [e8]
        exact ⟨rfl, N8⟩
    · have hc130 : got = ex := own_law p1 sv got ea eb ex d_got d_ea d_eb d_ex
      obtain ⟨cq9, kq9, q9a, q9b, q9c⟩ := isOf hZ e4 E_b2
      obtain ⟨_, _, ⟨T9, L9, k9, n9⟩, -, X9, ⟨Lc9, hQ9, l9, y9, z9⟩, st9⟩ := X4.virtualBack hx (y := (⟨"com/example/glowmarch/glowmarch/rules/Condition$Exactly", "colours", "()I"⟩ : MethodName)) (z := (⟨"com/example/glowmarch/glowmarch/rules/Condition$Exactly", "colours", "()I"⟩ : MethodName)) hown (mvT hZ (hw _ (List.mem_of_getElem? (i := 21) rfl))) (mvT hZ (hw _ (List.mem_of_getElem? (i := 22) rfl))) (notFace_of_selects (args := #[]) (mvT hZ (hw _ (List.mem_of_getElem? (i := 24) rfl)))) (mvT hZ (hw _ (List.mem_of_getElem? (i := 24) rfl))) (mvT hZ (hw _ (List.mem_of_getElem? (i := 23) rfl))) (by decide) (backOf (W := 0) (rm5 l Z a0 hw [] b2 p1 T3.heap n0 Z0 F_b2_colours) hZ (hw _ (List.mem_of_getElem? (i := 25) rfl)) (hw _ (List.mem_of_getElem? (i := 2) rfl)) (by decide) (by decide)) q9a q9c (g := (mkF m 135 #[.val (.int p1), .val (.int p2), .val (.int p3), .val (.int mm), .val (.int sv), .val (.ref b2), .val (.int got), .val (.int ea), .val (.int eb), .val (.int ex)] [(.ref b2)])) rfl (by rw [hml]; rfl) (Steps.refl _) (argsL := []) (rest := []) (lenOf pd_3 rfl) rfl (by show 2 * 0 + _ ≤ _; exact Nat.le_of_eq rfl) (hb hby at_135) (fun _ _ => ⟨rfl, e4, (by decide : 1 + 0 ≤ _), (by decide : 1 + 0 ≤ _)⟩)
      dsimp only [Pt.U, Pt.locs, Pt.cells, Pt.slots] at X9 l9 y9 z9 st9 hQ9
      subst l9 y9 z9
      obtain ⟨cl, rfl, d_cl, N9q, e9⟩ := hQ9
      have N9 := Fr.app N4 N9q
      have hc139 : cl = p1 := d_cl
      obtain ⟨fs, hr, hrun, hended, hW, hsame⟩ := X9.leave (v := some (.int (1 : Int32))) (fun h => by rw [Bd.returns] at h; cases h)
      refine ⟨_, _, ?_, hrun, hended, _, _, rfl, ?_, ⟨_, rfl⟩, hW, hsame.mono (by decide) (by decide)⟩
      · show Steps p.tables e below (T4.setTop (mkF m 116 #[.val (.int p1), .val (.int p2), .val (.int p3), .val (.int mm), .val (.int sv), .val (.ref b2), .val (.int got), .val (.int ea), .val (.int eb), .val (.int ex)] [(.int (2 : Int32)), (.int mm)])) _
        refine XS.icmpYes X4.here hx rfl (pc0 := 116) (pc' := 126) rfl (hb hby at_116) rfl (feq hc116).2 (by decide) (by decide) ?_
        show Steps p.tables e below (T4.setTop (mkF m 126 #[.val (.int p1), .val (.int p2), .val (.int p3), .val (.int mm), .val (.int sv), .val (.ref b2), .val (.int got), .val (.int ea), .val (.int eb), .val (.int ex)] [])) _
        refine XS.iload X4.here hx rfl (hb hby at_126) rfl ?_
        show Steps p.tables e below (T4.setTop (mkF m 128 #[.val (.int p1), .val (.int p2), .val (.int p3), .val (.int mm), .val (.int sv), .val (.ref b2), .val (.int got), .val (.int ea), .val (.int eb), .val (.int ex)] [(.int got)])) _
        refine XS.iload X4.here hx rfl (hb hby at_128) rfl ?_
        show Steps p.tables e below (T4.setTop (mkF m 130 #[.val (.int p1), .val (.int p2), .val (.int p3), .val (.int mm), .val (.int sv), .val (.ref b2), .val (.int got), .val (.int ea), .val (.int eb), .val (.int ex)] [(.int ex), (.int got)])) _
        refine XS.icmpNo X4.here hx rfl (hb hby at_130) rfl (teq hc130).2 ?_
        show Steps p.tables e below (T4.setTop (mkF m 133 #[.val (.int p1), .val (.int p2), .val (.int p3), .val (.int mm), .val (.int sv), .val (.ref b2), .val (.int got), .val (.int ea), .val (.int eb), .val (.int ex)] [])) _
        refine XS.aload X4.here hx rfl (hb hby at_133) rfl rfl ?_
        show Steps p.tables e below (T4.setTop (mkF m 135 #[.val (.int p1), .val (.int p2), .val (.int p3), .val (.int mm), .val (.int sv), .val (.ref b2), .val (.int got), .val (.int ea), .val (.int eb), .val (.int ex)] [(.ref b2)])) _
        refine st9.trans ?_
        show Steps p.tables e below (T9.setTop (mkF m 138 #[.val (.int p1), .val (.int p2), .val (.int p3), .val (.int mm), .val (.int sv), .val (.ref b2), .val (.int got), .val (.int ea), .val (.int eb), .val (.int ex)] [(.int cl)])) _
        refine XS.iloadN X9.here hx rfl (hb hby at_138) rfl ?_
        show Steps p.tables e below (T9.setTop (mkF m 139 #[.val (.int p1), .val (.int p2), .val (.int p3), .val (.int mm), .val (.int sv), .val (.ref b2), .val (.int got), .val (.int ea), .val (.int eb), .val (.int ex)] [(.int p1), (.int cl)])) _
        refine XS.icmpNo X9.here hx rfl (hb hby at_139) rfl (teq hc139).2 ?_
        show Steps p.tables e below (T9.setTop (mkF m 142 #[.val (.int p1), .val (.int p2), .val (.int p3), .val (.int mm), .val (.int sv), .val (.ref b2), .val (.int got), .val (.int ea), .val (.int eb), .val (.int ex)] [])) _
        refine XS.iconst X9.here hx rfl (hb hby at_142) ?_
        show Steps p.tables e below (T9.setTop (mkF m 143 #[.val (.int p1), .val (.int p2), .val (.int p3), .val (.int mm), .val (.int sv), .val (.ref b2), .val (.int got), .val (.int ea), .val (.int eb), .val (.int ex)] [(.int (1 : Int32))])) _
        refine XS.goto X9.here hx rfl (pc0 := 143) (pc' := 147) rfl (hb hby at_143) (by decide) (by decide) ?_
        show Steps p.tables e below (T9.setTop (mkF m 147 #[.val (.int p1), .val (.int p2), .val (.int p3), .val (.int mm), .val (.int sv), .val (.ref b2), .val (.int got), .val (.int ea), .val (.int eb), .val (.int ex)] [(.int (1 : Int32))])) _
        exact retN X9 hx (t := .boolean) Bd.returns (by simp) (hb hby at_147) hr
      · show Q0 Z p1 p2 p3 h0 n0 _ T9.heap _
        rw [e9]
        exact ⟨rfl, N9⟩
  · refine own_go (S' := fun t => Steps p.tables e below (T4.setTop (mkF m 116 #[.val (.int p1), .val (.int p2), .val (.int p3), .val (.int mm), .val (.int sv), .val (.ref b2), .val (.int got), .val (.int ea), .val (.int eb), .val (.int ex)] [(.int (2 : Int32)), (.int mm)])) t) (fun t k => ?_) ?_
    · show Steps p.tables e below (T4.setTop (mkF m 104 #[.val (.int p1), .val (.int p2), .val (.int p3), .val (.int mm), .val (.int sv), .val (.ref b2), .val (.int got), .val (.int ea), .val (.int eb), .val (.int ex)] [(.int mm)])) _
      refine XS.ifYes X4.here hx rfl (pc0 := 104) (pc' := 114) rfl (hb hby at_104) rfl ((if0 _ _).trans (feq hc104).2) (by decide) (by decide) ?_
      show Steps p.tables e below (T4.setTop (mkF m 114 #[.val (.int p1), .val (.int p2), .val (.int p3), .val (.int mm), .val (.int sv), .val (.ref b2), .val (.int got), .val (.int ea), .val (.int eb), .val (.int ex)] [])) _
      refine XS.iloadN X4.here hx rfl (hb hby at_114) rfl ?_
      show Steps p.tables e below (T4.setTop (mkF m 115 #[.val (.int p1), .val (.int p2), .val (.int p3), .val (.int mm), .val (.int sv), .val (.ref b2), .val (.int got), .val (.int ea), .val (.int eb), .val (.int ex)] [(.int mm)])) _
      refine XS.iconst X4.here hx rfl (hb hby at_115) ?_
      exact k
    by_cases hc116 : mm = (2 : Int32)
    · have hc121 : got = (0 : Int32) := by rw [d_got, if_neg (by rw [d_sv, if_neg (by rw [hc116]; decide), if_pos hc116]; exact own_ne p1 p2)]
      have hc130 : got = ex := own_law p1 sv got ea eb ex d_got d_ea d_eb d_ex
      obtain ⟨cq10, kq10, q10a, q10b, q10c⟩ := isOf hZ e4 E_b2
      obtain ⟨_, _, ⟨T10, L10, k10, n10⟩, -, X10, ⟨Lc10, hQ10, l10, y10, z10⟩, st10⟩ := X4.virtualBack hx (y := (⟨"com/example/glowmarch/glowmarch/rules/Condition$Exactly", "colours", "()I"⟩ : MethodName)) (z := (⟨"com/example/glowmarch/glowmarch/rules/Condition$Exactly", "colours", "()I"⟩ : MethodName)) hown (mvT hZ (hw _ (List.mem_of_getElem? (i := 21) rfl))) (mvT hZ (hw _ (List.mem_of_getElem? (i := 22) rfl))) (notFace_of_selects (args := #[]) (mvT hZ (hw _ (List.mem_of_getElem? (i := 24) rfl)))) (mvT hZ (hw _ (List.mem_of_getElem? (i := 24) rfl))) (mvT hZ (hw _ (List.mem_of_getElem? (i := 23) rfl))) (by decide) (backOf (W := 0) (rm5 l Z a0 hw [] b2 p1 T3.heap n0 Z0 F_b2_colours) hZ (hw _ (List.mem_of_getElem? (i := 25) rfl)) (hw _ (List.mem_of_getElem? (i := 2) rfl)) (by decide) (by decide)) q10a q10c (g := (mkF m 135 #[.val (.int p1), .val (.int p2), .val (.int p3), .val (.int mm), .val (.int sv), .val (.ref b2), .val (.int got), .val (.int ea), .val (.int eb), .val (.int ex)] [(.ref b2)])) rfl (by rw [hml]; rfl) (Steps.refl _) (argsL := []) (rest := []) (lenOf pd_3 rfl) rfl (by show 2 * 0 + _ ≤ _; exact Nat.le_of_eq rfl) (hb hby at_135) (fun _ _ => ⟨rfl, e4, (by decide : 1 + 0 ≤ _), (by decide : 1 + 0 ≤ _)⟩)
      dsimp only [Pt.U, Pt.locs, Pt.cells, Pt.slots] at X10 l10 y10 z10 st10 hQ10
      subst l10 y10 z10
      obtain ⟨cl, rfl, d_cl, N10q, e10⟩ := hQ10
      have N10 := Fr.app N4 N10q
      have hc139 : cl = p1 := d_cl
      obtain ⟨fs, hr, hrun, hended, hW, hsame⟩ := X10.leave (v := some (.int (1 : Int32))) (fun h => by rw [Bd.returns] at h; cases h)
      refine ⟨_, _, ?_, hrun, hended, _, _, rfl, ?_, ⟨_, rfl⟩, hW, hsame.mono (by decide) (by decide)⟩
      · show Steps p.tables e below (T4.setTop (mkF m 116 #[.val (.int p1), .val (.int p2), .val (.int p3), .val (.int mm), .val (.int sv), .val (.ref b2), .val (.int got), .val (.int ea), .val (.int eb), .val (.int ex)] [(.int (2 : Int32)), (.int mm)])) _
        refine XS.icmpNo X4.here hx rfl (hb hby at_116) rfl (teq hc116).2 ?_
        show Steps p.tables e below (T4.setTop (mkF m 119 #[.val (.int p1), .val (.int p2), .val (.int p3), .val (.int mm), .val (.int sv), .val (.ref b2), .val (.int got), .val (.int ea), .val (.int eb), .val (.int ex)] [])) _
        refine XS.iload X4.here hx rfl (hb hby at_119) rfl ?_
        show Steps p.tables e below (T4.setTop (mkF m 121 #[.val (.int p1), .val (.int p2), .val (.int p3), .val (.int mm), .val (.int sv), .val (.ref b2), .val (.int got), .val (.int ea), .val (.int eb), .val (.int ex)] [(.int got)])) _
        refine XS.ifYes X4.here hx rfl (pc0 := 121) (pc' := 126) rfl (hb hby at_121) rfl ((if0 _ _).trans (teq hc121).1) (by decide) (by decide) ?_
        show Steps p.tables e below (T4.setTop (mkF m 126 #[.val (.int p1), .val (.int p2), .val (.int p3), .val (.int mm), .val (.int sv), .val (.ref b2), .val (.int got), .val (.int ea), .val (.int eb), .val (.int ex)] [])) _
        refine XS.iload X4.here hx rfl (hb hby at_126) rfl ?_
        show Steps p.tables e below (T4.setTop (mkF m 128 #[.val (.int p1), .val (.int p2), .val (.int p3), .val (.int mm), .val (.int sv), .val (.ref b2), .val (.int got), .val (.int ea), .val (.int eb), .val (.int ex)] [(.int got)])) _
        refine XS.iload X4.here hx rfl (hb hby at_128) rfl ?_
        show Steps p.tables e below (T4.setTop (mkF m 130 #[.val (.int p1), .val (.int p2), .val (.int p3), .val (.int mm), .val (.int sv), .val (.ref b2), .val (.int got), .val (.int ea), .val (.int eb), .val (.int ex)] [(.int ex), (.int got)])) _
        refine XS.icmpNo X4.here hx rfl (hb hby at_130) rfl (teq hc130).2 ?_
        show Steps p.tables e below (T4.setTop (mkF m 133 #[.val (.int p1), .val (.int p2), .val (.int p3), .val (.int mm), .val (.int sv), .val (.ref b2), .val (.int got), .val (.int ea), .val (.int eb), .val (.int ex)] [])) _
        refine XS.aload X4.here hx rfl (hb hby at_133) rfl rfl ?_
        show Steps p.tables e below (T4.setTop (mkF m 135 #[.val (.int p1), .val (.int p2), .val (.int p3), .val (.int mm), .val (.int sv), .val (.ref b2), .val (.int got), .val (.int ea), .val (.int eb), .val (.int ex)] [(.ref b2)])) _
        refine st10.trans ?_
        show Steps p.tables e below (T10.setTop (mkF m 138 #[.val (.int p1), .val (.int p2), .val (.int p3), .val (.int mm), .val (.int sv), .val (.ref b2), .val (.int got), .val (.int ea), .val (.int eb), .val (.int ex)] [(.int cl)])) _
        refine XS.iloadN X10.here hx rfl (hb hby at_138) rfl ?_
        show Steps p.tables e below (T10.setTop (mkF m 139 #[.val (.int p1), .val (.int p2), .val (.int p3), .val (.int mm), .val (.int sv), .val (.ref b2), .val (.int got), .val (.int ea), .val (.int eb), .val (.int ex)] [(.int p1), (.int cl)])) _
        refine XS.icmpNo X10.here hx rfl (hb hby at_139) rfl (teq hc139).2 ?_
        show Steps p.tables e below (T10.setTop (mkF m 142 #[.val (.int p1), .val (.int p2), .val (.int p3), .val (.int mm), .val (.int sv), .val (.ref b2), .val (.int got), .val (.int ea), .val (.int eb), .val (.int ex)] [])) _
        refine XS.iconst X10.here hx rfl (hb hby at_142) ?_
        show Steps p.tables e below (T10.setTop (mkF m 143 #[.val (.int p1), .val (.int p2), .val (.int p3), .val (.int mm), .val (.int sv), .val (.ref b2), .val (.int got), .val (.int ea), .val (.int eb), .val (.int ex)] [(.int (1 : Int32))])) _
        refine XS.goto X10.here hx rfl (pc0 := 143) (pc' := 147) rfl (hb hby at_143) (by decide) (by decide) ?_
        show Steps p.tables e below (T10.setTop (mkF m 147 #[.val (.int p1), .val (.int p2), .val (.int p3), .val (.int mm), .val (.int sv), .val (.ref b2), .val (.int got), .val (.int ea), .val (.int eb), .val (.int ex)] [(.int (1 : Int32))])) _
        exact retN X10 hx (t := .boolean) Bd.returns (by simp) (hb hby at_147) hr
      · show Q0 Z p1 p2 p3 h0 n0 _ T10.heap _
        rw [e10]
        exact ⟨rfl, N10⟩
    · have hc130 : got = ex := own_law p1 sv got ea eb ex d_got d_ea d_eb d_ex
      obtain ⟨cq11, kq11, q11a, q11b, q11c⟩ := isOf hZ e4 E_b2
      obtain ⟨_, _, ⟨T11, L11, k11, n11⟩, -, X11, ⟨Lc11, hQ11, l11, y11, z11⟩, st11⟩ := X4.virtualBack hx (y := (⟨"com/example/glowmarch/glowmarch/rules/Condition$Exactly", "colours", "()I"⟩ : MethodName)) (z := (⟨"com/example/glowmarch/glowmarch/rules/Condition$Exactly", "colours", "()I"⟩ : MethodName)) hown (mvT hZ (hw _ (List.mem_of_getElem? (i := 21) rfl))) (mvT hZ (hw _ (List.mem_of_getElem? (i := 22) rfl))) (notFace_of_selects (args := #[]) (mvT hZ (hw _ (List.mem_of_getElem? (i := 24) rfl)))) (mvT hZ (hw _ (List.mem_of_getElem? (i := 24) rfl))) (mvT hZ (hw _ (List.mem_of_getElem? (i := 23) rfl))) (by decide) (backOf (W := 0) (rm5 l Z a0 hw [] b2 p1 T3.heap n0 Z0 F_b2_colours) hZ (hw _ (List.mem_of_getElem? (i := 25) rfl)) (hw _ (List.mem_of_getElem? (i := 2) rfl)) (by decide) (by decide)) q11a q11c (g := (mkF m 135 #[.val (.int p1), .val (.int p2), .val (.int p3), .val (.int mm), .val (.int sv), .val (.ref b2), .val (.int got), .val (.int ea), .val (.int eb), .val (.int ex)] [(.ref b2)])) rfl (by rw [hml]; rfl) (Steps.refl _) (argsL := []) (rest := []) (lenOf pd_3 rfl) rfl (by show 2 * 0 + _ ≤ _; exact Nat.le_of_eq rfl) (hb hby at_135) (fun _ _ => ⟨rfl, e4, (by decide : 1 + 0 ≤ _), (by decide : 1 + 0 ≤ _)⟩)
      dsimp only [Pt.U, Pt.locs, Pt.cells, Pt.slots] at X11 l11 y11 z11 st11 hQ11
      subst l11 y11 z11
      obtain ⟨cl, rfl, d_cl, N11q, e11⟩ := hQ11
      have N11 := Fr.app N4 N11q
      have hc139 : cl = p1 := d_cl
      obtain ⟨fs, hr, hrun, hended, hW, hsame⟩ := X11.leave (v := some (.int (1 : Int32))) (fun h => by rw [Bd.returns] at h; cases h)
      refine ⟨_, _, ?_, hrun, hended, _, _, rfl, ?_, ⟨_, rfl⟩, hW, hsame.mono (by decide) (by decide)⟩
      · show Steps p.tables e below (T4.setTop (mkF m 116 #[.val (.int p1), .val (.int p2), .val (.int p3), .val (.int mm), .val (.int sv), .val (.ref b2), .val (.int got), .val (.int ea), .val (.int eb), .val (.int ex)] [(.int (2 : Int32)), (.int mm)])) _
        refine XS.icmpYes X4.here hx rfl (pc0 := 116) (pc' := 126) rfl (hb hby at_116) rfl (feq hc116).2 (by decide) (by decide) ?_
        show Steps p.tables e below (T4.setTop (mkF m 126 #[.val (.int p1), .val (.int p2), .val (.int p3), .val (.int mm), .val (.int sv), .val (.ref b2), .val (.int got), .val (.int ea), .val (.int eb), .val (.int ex)] [])) _
        refine XS.iload X4.here hx rfl (hb hby at_126) rfl ?_
        show Steps p.tables e below (T4.setTop (mkF m 128 #[.val (.int p1), .val (.int p2), .val (.int p3), .val (.int mm), .val (.int sv), .val (.ref b2), .val (.int got), .val (.int ea), .val (.int eb), .val (.int ex)] [(.int got)])) _
        refine XS.iload X4.here hx rfl (hb hby at_128) rfl ?_
        show Steps p.tables e below (T4.setTop (mkF m 130 #[.val (.int p1), .val (.int p2), .val (.int p3), .val (.int mm), .val (.int sv), .val (.ref b2), .val (.int got), .val (.int ea), .val (.int eb), .val (.int ex)] [(.int ex), (.int got)])) _
        refine XS.icmpNo X4.here hx rfl (hb hby at_130) rfl (teq hc130).2 ?_
        show Steps p.tables e below (T4.setTop (mkF m 133 #[.val (.int p1), .val (.int p2), .val (.int p3), .val (.int mm), .val (.int sv), .val (.ref b2), .val (.int got), .val (.int ea), .val (.int eb), .val (.int ex)] [])) _
        refine XS.aload X4.here hx rfl (hb hby at_133) rfl rfl ?_
        show Steps p.tables e below (T4.setTop (mkF m 135 #[.val (.int p1), .val (.int p2), .val (.int p3), .val (.int mm), .val (.int sv), .val (.ref b2), .val (.int got), .val (.int ea), .val (.int eb), .val (.int ex)] [(.ref b2)])) _
        refine st11.trans ?_
        show Steps p.tables e below (T11.setTop (mkF m 138 #[.val (.int p1), .val (.int p2), .val (.int p3), .val (.int mm), .val (.int sv), .val (.ref b2), .val (.int got), .val (.int ea), .val (.int eb), .val (.int ex)] [(.int cl)])) _
        refine XS.iloadN X11.here hx rfl (hb hby at_138) rfl ?_
        show Steps p.tables e below (T11.setTop (mkF m 139 #[.val (.int p1), .val (.int p2), .val (.int p3), .val (.int mm), .val (.int sv), .val (.ref b2), .val (.int got), .val (.int ea), .val (.int eb), .val (.int ex)] [(.int p1), (.int cl)])) _
        refine XS.icmpNo X11.here hx rfl (hb hby at_139) rfl (teq hc139).2 ?_
        show Steps p.tables e below (T11.setTop (mkF m 142 #[.val (.int p1), .val (.int p2), .val (.int p3), .val (.int mm), .val (.int sv), .val (.ref b2), .val (.int got), .val (.int ea), .val (.int eb), .val (.int ex)] [])) _
        refine XS.iconst X11.here hx rfl (hb hby at_142) ?_
        show Steps p.tables e below (T11.setTop (mkF m 143 #[.val (.int p1), .val (.int p2), .val (.int p3), .val (.int mm), .val (.int sv), .val (.ref b2), .val (.int got), .val (.int ea), .val (.int eb), .val (.int ex)] [(.int (1 : Int32))])) _
        refine XS.goto X11.here hx rfl (pc0 := 143) (pc' := 147) rfl (hb hby at_143) (by decide) (by decide) ?_
        show Steps p.tables e below (T11.setTop (mkF m 147 #[.val (.int p1), .val (.int p2), .val (.int p3), .val (.int mm), .val (.int sv), .val (.ref b2), .val (.int got), .val (.int ea), .val (.int eb), .val (.int ex)] [(.int (1 : Int32))])) _
        exact retN X11 hx (t := .boolean) Bd.returns (by simp) (hb hby at_147) hr
      · show Q0 Z p1 p2 p3 h0 n0 _ T11.heap _
        rw [e11]
        exact ⟨rfl, N11⟩
set_option maxRecDepth 65536 in
set_option maxHeartbeats 40000000 in
theorem comes_1 {Post : Tables → Env → Array Value → State → Outcome → State → Prop} (hpost : ∀ tb e args s v u, (limb_1_1.after args s (.returned v) u = true ∧ limb_1_2.after args s (.returned v) u = true ∧ True) → FrameEnd s (.returned v) u (Jvm.fieldLocs frame_1_writes args s ++ Jvm.arrayLocs frame_1_arrays args s ++ Jvm.staticLocs frame_1_statics s) 16 128 → Post tb e args s (.returned v) u) :
    ArmFor flags0 classFile x code maxLocals ret World_1 tables_1 room_1 Calls_1 rest_1 Pre_1 Post := by
  intro l hfl _ _ p e ha hc hk s m args below hf hA hF happ hP
  obtain ⟨hcalls, hrest, hpre⟩ := hP
  obtain ⟨-, -, -, hnamed, -, -, -, hat⟩ := (Spec.applies_iff hf).mp happ
  obtain ⟨hg, hn⟩ := and_e (Cond.before_iff.mp (show (Jvm.Cond.and given_1 narrow_1).before args s = true from hpre))
  obtain ⟨hct, hg⟩ := and_e hg
  obtain ⟨ga0, hg⟩ := and_e hg
  obtain ⟨ga1, hg⟩ := and_e hg
  have ga2 := hg
  obtain ⟨w0, w1, w2, rfl⟩ : ∃ w0 w1 w2 : Value, args = #[w0, w1, w2] := by
    have hs : args.size = 3 := by simpa [Cond.value, given_1] using hct
    obtain ⟨L⟩ := args
    match L, hs with
    | [w0, w1, w2], _ => exact ⟨w0, w1, w2, rfl⟩
  have hw := fun d (hd : d ∈ tables_1) => atoms_spec (ws := Jvm.Cond.code x code maxLocals ret :: tables_1) hat d (List.mem_cons_of_mem _ hd)
  obtain ⟨i0, ei0⟩ := is_v ga0
  obtain rfl : w0 = (.int i0) := Option.some.inj ei0
  obtain ⟨i1, ei1⟩ := is_v ga1
  obtain rfl : w1 = (.int i1) := Option.some.inj ei1
  obtain ⟨i2, ei2⟩ := is_v ga2
  obtain rfl : w2 = (.int i2) := Option.some.inj ei2
  obtain ⟨n, o, h1, h2, h3, _, L, rfl, ⟨rfl, N⟩, hq⟩ := rm0 l s _ hw tables_1 i0 i1 i2 s.heap s.heap.size (Nat.le_refl _)  p e ha hc hk s m _ below hf ((Spec.applies_iff_loose hf).mp happ).1 ⟨rfl, State.Warmed39.refl s, rfl⟩ trivial
  refine ⟨n, _, h1, h2, h3, hpost _ _ _ _ _ _ ⟨Cond.after_iff.mpr rfl, Cond.after_iff.mpr (eq_i res_at (Term.int_eval (1)) rfl), trivial⟩ ⟨hq.1, hq.2.1, (hq.2.2.sift fun y hy => Or.inr (N y hy)).mono (by decide) (by decide)⟩⟩
theorem main_1_1 : Claimed_1_1 := comes_1 fun _ _ _ _ _ _ h hF => ⟨h.1, hF⟩
theorem main_1_2 : Claimed_1_2 := comes_1 fun _ _ _ _ _ _ h hF => ⟨h.2.1, hF⟩
end Jvm.Pilot.@@N@@
namespace Jvm.Pilot.@@N@@
open Jvm Jvm.ClassFile Sem Op Lib Jvm.Free Jvm.Stand Jvm.Pilot.@@N@@.Jvm.D
/-! MADE BY PROGRAM (witnessworld.py) out of the Statement's table words and the real class files: 11 classes; the members and pool entries that the words name. The judged class is class 1, her method 1. -/
namespace start1
open Jvm.ClassFile
def u (s : String) : CpInfo := .utf8 (stringToUtf16 s)
/-- a pool by its gaps: so many unusable entries, then the entry; so many at the end -/
def gap : Nat → List CpInfo → List CpInfo
  | 0, r => r
  | n + 1, r => .unusable :: gap n r
def poolList (es : List (Nat × CpInfo)) (last : Nat) : List CpInfo := es.foldr (fun e r => gap e.1 (e.2 :: r)) (gap last [])
def pool (es : List (Nat × CpInfo)) (last : Nat) : Array CpInfo := ⟨poolList es last⟩
def fileOf (pool : Array CpInfo) (this : Nat) (attrs : Array Attribute := #[]) (ms : Array MethodInfo := #[]) (fl : Nat := 33) (sup : Nat := 0) (ifs : Array Nat := #[]) (fds : Array FieldInfo := #[]) : ClassFile where
  minorVersion := 0
  majorVersion := 65
  constantPool := pool
  accessFlags := fl
  thisClass := this
  superClass := sup
  interfaces := ifs
  fields := fds
  methods := ms
  attributes := attrs
def plain (name : String) (sup : Option ClassId) : Class where
  name := name
  kind := .ordinary
  loader := none
  accessFlags := 33
  super := sup
  interfaces := #[]
  cf := none
  fields := #[]
  methods := #[]
  instanceTypes := #[]
  staticTypes := #[]
  resolved := #[]
  callSites := []
  init := .initialized
  statics := none
  mirror := none

def pool0 : Array CpInfo := pool [(5, u "<init>"), (0, u "()V"), (1, .class_ 10), (1, u "java/lang/Object")] 113

def k0c0 : Code := { maxStack := 0, maxLocals := 1, code := object_method_1_code, exceptionTable := #[], attributes := #[] }
def k0m0 : Method := { name := "<init>", desc := "()V", sig := { parameters := [], returnType := none }, accessFlags := 1, code := some k0c0 }
/-- java/lang/Object -/
def k0 : Class := { plain "java/lang/Object" none with
  accessFlags := 33
  interfaces := #[]
  cf := some (fileOf pool0 8 #[] #[{ accessFlags := 1, nameIndex := 5, descriptorIndex := 6, attributes := #[] }] 33 0 #[] #[])
  fields := #[]
  methods := #[k0m0]
  instanceTypes := #[]
  staticTypes := #[]
  resolved := Array.replicate 124 none
  statics := none }

def pool1 : Array CpInfo := pool [(2, .class_ 4), (1, u "java/lang/Object"), (0, u "<init>"), (0, u "()V"), (0, .class_ 8), (0, u "com/example/glowmarch/glowmarch/rules/Condition$Exactly"), (0, .methodref 7 10), (0, .nameAndType 5 11), (0, u "(I)V"), (0, .methodref 7 13), (0, .nameAndType 14 15), (0, u "holds"), (0, u "(I)Z"), (0, .methodref 7 17), (0, .nameAndType 18 19), (0, u "colours"), (0, u "()I"), (0, .class_ 21), (0, u "com/example/glowmarch/glowmarch/rules/ExactlyHoldsPinLaw"), (2, u "law"), (0, u "(III)Z")] 7

def k1m0 : Method := { name := "<init>", desc := "()V", sig := { parameters := [], returnType := none }, accessFlags := 2, code := none }
def k1c1 : Code := { maxStack := 4, maxLocals := 10, code := code, exceptionTable := #[], attributes := #[] }
def k1m1 : Method := { name := "law", desc := "(III)Z", sig := { parameters := [.int, .int, .int], returnType := some .boolean }, accessFlags := 9, code := some k1c1 }
/-- com/example/glowmarch/glowmarch/rules/ExactlyHoldsPinLaw -/
def k1 : Class := { plain "com/example/glowmarch/glowmarch/rules/ExactlyHoldsPinLaw" (some 0) with
  accessFlags := 49
  interfaces := #[]
  cf := some (fileOf pool1 20 #[] #[{ accessFlags := 2, nameIndex := 5, descriptorIndex := 6, attributes := #[] }, { accessFlags := 9, nameIndex := 24, descriptorIndex := 25, attributes := #[] }] 49 2 #[] #[])
  fields := #[]
  methods := #[k1m0, k1m1]
  instanceTypes := #[]
  staticTypes := #[]
  resolved := Array.replicate 33 none
  statics := none }

def pool2 : Array CpInfo := pool [(1, .methodref 2 3), (0, .class_ 4), (0, .nameAndType 5 6), (0, u "java/lang/Object"), (0, u "<init>"), (0, u "()V"), (0, .class_ 8), (0, u "java/lang/Record")] 13

def k2c0 : Code := { maxStack := 1, maxLocals := 1, code := jdk_30_method_1_code, exceptionTable := #[], attributes := #[] }
def k2m0 : Method := { name := "<init>", desc := "()V", sig := { parameters := [], returnType := none }, accessFlags := 4, code := some k2c0 }
/-- java/lang/Record -/
def k2 : Class := { plain "java/lang/Record" (some 0) with
  accessFlags := 1057
  interfaces := #[]
  cf := some (fileOf pool2 7 #[] #[{ accessFlags := 4, nameIndex := 5, descriptorIndex := 6, attributes := #[] }] 1057 2 #[] #[])
  fields := #[]
  methods := #[k2m0]
  instanceTypes := #[]
  staticTypes := #[]
  resolved := Array.replicate 22 none
  statics := none }

def pool3 : Array CpInfo := pool [(1, .class_ 2), (0, u "com/example/glowmarch/glowmarch/rules/Condition"), (0, .class_ 4), (0, u "java/lang/Object"), (5, .class_ 11), (0, u "com/example/glowmarch/glowmarch/rules/Condition$Or"), (0, .class_ 13), (0, u "com/example/glowmarch/glowmarch/rules/Condition$And"), (0, .class_ 15), (0, u "com/example/glowmarch/glowmarch/rules/Condition$Not"), (0, .class_ 17), (0, u "com/example/glowmarch/glowmarch/rules/Condition$Present"), (0, .class_ 19), (0, u "com/example/glowmarch/glowmarch/rules/Condition$Within"), (0, .class_ 21), (0, u "com/example/glowmarch/glowmarch/rules/Condition$Exactly")] 8

/-- com/example/glowmarch/glowmarch/rules/Condition -/
def k3 : Class := { plain "com/example/glowmarch/glowmarch/rules/Condition" (some 0) with
  accessFlags := 1537
  interfaces := #[]
  cf := some (fileOf pool3 1 #[.nestMembers #[10, 12, 14, 16, 18, 20]] #[] 1537 3 #[] #[])
  fields := #[]
  methods := #[]
  instanceTypes := #[]
  staticTypes := #[]
  resolved := Array.replicate 30 none
  statics := none }

def pool4 : Array CpInfo := pool [(1, .methodref 2 3), (0, .class_ 4), (0, .nameAndType 5 6), (0, u "java/lang/Record"), (0, u "<init>"), (0, u "()V"), (0, .fieldref 8 9), (0, .class_ 10), (0, .nameAndType 11 12), (0, u "com/example/glowmarch/glowmarch/rules/Condition$Exactly"), (0, u "colours"), (0, u "I"), (12, .class_ 26), (0, u "com/example/glowmarch/glowmarch/rules/Condition"), (0, u "(I)V"), (3, u "holds"), (0, u "(I)Z"), (2, u "()I")] 22

def k4c0 : Code := { maxStack := 2, maxLocals := 2, code := prog_26_method_1_code, exceptionTable := #[], attributes := #[] }
def k4m0 : Method := { name := "<init>", desc := "(I)V", sig := { parameters := [.int], returnType := none }, accessFlags := 1, code := some k4c0 }
def k4c1 : Code := { maxStack := 2, maxLocals := 2, code := prog_26_method_2_code, exceptionTable := #[], attributes := #[] }
def k4m1 : Method := { name := "holds", desc := "(I)Z", sig := { parameters := [.int], returnType := some .boolean }, accessFlags := 1, code := some k4c1 }
def k4c2 : Code := { maxStack := 1, maxLocals := 1, code := prog_26_method_6_code, exceptionTable := #[], attributes := #[] }
def k4m2 : Method := { name := "colours", desc := "()I", sig := { parameters := [], returnType := some .int }, accessFlags := 1, code := some k4c2 }
/-- com/example/glowmarch/glowmarch/rules/Condition$Exactly -/
def k4 : Class := { plain "com/example/glowmarch/glowmarch/rules/Condition$Exactly" (some 2) with
  accessFlags := 49
  interfaces := #[3]
  cf := some (fileOf pool4 8 #[.nestHost 25] #[{ accessFlags := 1, nameIndex := 5, descriptorIndex := 27, attributes := #[] }, { accessFlags := 1, nameIndex := 31, descriptorIndex := 32, attributes := #[] }, { accessFlags := 1, nameIndex := 11, descriptorIndex := 35, attributes := #[] }] 49 2 #[25] #[{ accessFlags := 18, nameIndex := 11, descriptorIndex := 12, attributes := #[] }])
  fields := #[{ name := "colours", type := .int, accessFlags := 18, slot := 0, constantValue := 0 }]
  methods := #[k4m0, k4m1, k4m2]
  instanceTypes := #[.int]
  staticTypes := #[]
  resolved := Array.replicate 58 none
  statics := none }

def pool5 : Array CpInfo := pool [(1, u "java/lang/Cloneable"), (0, .class_ 1), (0, u "java/lang/Object"), (0, .class_ 3)] 3

/-- java/lang/Cloneable -/
def k5 : Class := { plain "java/lang/Cloneable" (some 0) with
  accessFlags := 1537
  interfaces := #[]
  cf := some (fileOf pool5 2 #[] #[] 1537 4 #[] #[])
  fields := #[]
  methods := #[]
  instanceTypes := #[]
  staticTypes := #[]
  resolved := Array.replicate 8 none
  statics := none }

def pool6 : Array CpInfo := pool [(1, u "java/io/Serializable"), (0, .class_ 1), (0, u "java/lang/Object"), (0, .class_ 3)] 3

/-- java/io/Serializable -/
def k6 : Class := { plain "java/io/Serializable" (some 0) with
  accessFlags := 1537
  interfaces := #[]
  cf := some (fileOf pool6 2 #[] #[] 1537 4 #[] #[])
  fields := #[]
  methods := #[]
  instanceTypes := #[]
  staticTypes := #[]
  resolved := Array.replicate 8 none
  statics := none }

/-- the primitive byte -/
def k7 : Class := { plain "byte" none with kind := .primitive 'B', accessFlags := 0x411 }
/-- [B -/
def k8 : Class := { plain "[B" (some 0) with kind := .array 7 .byte, interfaces := #[5, 6], accessFlags := 1041 }

/-- the primitive int -/
def k9 : Class := { plain "int" none with kind := .primitive 'I', accessFlags := 0x411 }
/-- [I -/
def k10 : Class := { plain "[I" (some 0) with kind := .array 9 .int, interfaces := #[5, 6], accessFlags := 1041 }

def heap : Heap := #[]
def classes : Array Class := #[k0, k1, k2, k3, k4, k5, k6, k7, k8, k9, k10]
def interned : List (Array UInt16 × Addr) := []
def slotsUsed : Nat := 0
def theMethod : MethodId := ⟨1, 1⟩
def args0 : Array Value := #[.int 5, .int 7, .int 2]
def aboutOver (below : List Frame) : State where
  vm := { classes := classes, interned := interned.toArray }
  heap := heap
  slotsUsed := slotsUsed
  threads := #[{ frames := .invoking theMethod args0 :: below }]
def below0 : List Frame := [.native { method := ⟨0, 0⟩, args := #[] }]
def about1 : State := aboutOver below0
def p0 : Program := .bare "" "" ""
def e0 : Env := launch0.env 0 0 0
theorem w_frames : about1.frames = Frame.invoking theMethod args0 :: below0 := rfl
set_option maxRecDepth 65536 in
theorem w_args : argsFit about1.vm theMethod args0 = true := by decide +kernel
set_option maxRecDepth 65536 in
theorem w_heap : heapFits about1 = true := by decide +kernel
set_option maxRecDepth 65536 in
theorem w_runnable : about1.curStatus? = some .runnable := by decide +kernel
set_option maxRecDepth 65536 in
theorem w_alone : about1.alone = true := by decide +kernel
set_option maxRecDepth 65536 in
theorem w_named : about1.methodNamed? x = some theMethod := by decide +kernel
set_option maxRecDepth 65536 in
theorem w_hears : about1.hears theMethod below0 = true := by decide +kernel
set_option maxRecDepth 65536 in
theorem w_ripe : about1.ripe theMethod args0 below0 = true := by decide +kernel
theorem w_running : about1.status = .running := rfl
set_option maxRecDepth 65536 in
theorem w_room : about1.hasRoom e0.platform room_1 = true :=
  launch0.hasRoom_least _ room_1 (by decide +kernel) (by decide +kernel) (by decide +kernel) (by decide +kernel) (by decide +kernel) (by decide +kernel)
theorem allAtoms_all (ts : List Jvm.Cond) (a : Array Jvm.Value) (st : Jvm.State) : (allAtoms ts).before a st = ts.all (fun c => c.before a st) := by
  induction ts with
  | nil => rfl
  | cons c t ih =>
    show (Jvm.Cond.and c (allAtoms t)).before a st = _
    rw [Jvm.Cond.before_and, ih, List.all_cons]
def words1 : List Jvm.Cond := Jvm.Cond.code x code maxLocals ret :: tables_1
/-- a 'code' word, met by the world's own term for the bytes: nothing is compared byte by byte -/
theorem code_word {y : MethodName} {bytes : ByteArray} {mx : Nat} {rt : Option FieldType} {a : Array Value} {s : State} {m : MethodId} {meth : Method} {c : Code} (h1 : s.methodNamed? y = some m) (h2 : s.vm.method? m = some meth) (h3 : meth.code = some c) (h4 : c.code = bytes)
    (h5 : (c.maxLocals == mx && c.exceptionTable.isEmpty && decide (c.maxStack ≤ mostOperands) && decide (meth.sig.returnType = rt) && !meth.locks && decide (parseMethodDescriptor y.desc = some meth.sig)) = true) : (Jvm.Cond.code y bytes mx rt).before a s = true := by
  simp only [Bool.and_eq_true, beq_iff_eq, Bool.not_eq_true', decide_eq_true_eq] at h5
  obtain ⟨⟨⟨⟨⟨g1, g2⟩, g3⟩, g4⟩, g5⟩, g6⟩ := h5
  simp [Cond.before, Cond.holds, Cond.value, h1, h2, h3, h4, g1, g2, g3, g4, g5, g6]
def isCode : Jvm.Cond → Bool
  | .code _ _ _ _ => true
  | _ => false
theorem all_split {L : List Jvm.Cond} {P : Jvm.Cond → Bool} (h1 : L.all (fun c => isCode c || P c) = true) (h2 : ∀ c ∈ L.filter isCode, P c = true) : L.all P = true := by
  refine List.all_eq_true.mpr fun c hc => ?_
  have h := List.all_eq_true.mp h1 c hc
  rcases Bool.eq_false_or_eq_true (isCode c) with hi | hi
  · exact h2 c (List.mem_filter.mpr ⟨hc, hi⟩)
  · simpa [hi] using h
set_option maxRecDepth 65536 in
theorem w_c0 : (Jvm.Cond.code x code maxLocals ret).before args0 about1 = true := code_word (m := ⟨1, 1⟩) (meth := k1m1) (c := k1c1) (by decide +kernel) rfl rfl rfl (by decide +kernel)
set_option maxRecDepth 65536 in
theorem w_c1 : (Jvm.Cond.code ({ cls := "com/example/glowmarch/glowmarch/rules/Condition$Exactly", name := "<init>", desc := "(I)V" } : Jvm.MethodName) prog_26_method_1_code (2 : Nat) (Option.none : Option Jvm.ClassFile.FieldType)).before args0 about1 = true := code_word (m := ⟨4, 0⟩) (meth := k4m0) (c := k4c0) (by decide +kernel) rfl rfl rfl (by decide +kernel)
set_option maxRecDepth 65536 in
theorem w_c2 : (Jvm.Cond.code ({ cls := "java/lang/Record", name := "<init>", desc := "()V" } : Jvm.MethodName) jdk_30_method_1_code (1 : Nat) (Option.none : Option Jvm.ClassFile.FieldType)).before args0 about1 = true := code_word (m := ⟨2, 0⟩) (meth := k2m0) (c := k2c0) (by decide +kernel) rfl rfl rfl (by decide +kernel)
set_option maxRecDepth 65536 in
theorem w_c3 : (Jvm.Cond.code ({ cls := "java/lang/Object", name := "<init>", desc := "()V" } : Jvm.MethodName) object_method_1_code (1 : Nat) (Option.none : Option Jvm.ClassFile.FieldType)).before args0 about1 = true := code_word (m := ⟨0, 0⟩) (meth := k0m0) (c := k0c0) (by decide +kernel) rfl rfl rfl (by decide +kernel)
set_option maxRecDepth 65536 in
theorem w_c4 : (Jvm.Cond.code ({ cls := "com/example/glowmarch/glowmarch/rules/Condition$Exactly", name := "holds", desc := "(I)Z" } : Jvm.MethodName) prog_26_method_2_code (2 : Nat) (Option.some Jvm.ClassFile.FieldType.boolean)).before args0 about1 = true := code_word (m := ⟨4, 1⟩) (meth := k4m1) (c := k4c1) (by decide +kernel) rfl rfl rfl (by decide +kernel)
set_option maxRecDepth 65536 in
theorem w_c5 : (Jvm.Cond.code ({ cls := "com/example/glowmarch/glowmarch/rules/Condition$Exactly", name := "colours", desc := "()I" } : Jvm.MethodName) prog_26_method_6_code (1 : Nat) (Option.some Jvm.ClassFile.FieldType.int)).before args0 about1 = true := code_word (m := ⟨4, 2⟩) (meth := k4m2) (c := k4c2) (by decide +kernel) rfl rfl rfl (by decide +kernel)
def codes1 : List Jvm.Cond := [Jvm.Cond.code x code maxLocals ret, Jvm.Cond.code ({ cls := "com/example/glowmarch/glowmarch/rules/Condition$Exactly", name := "<init>", desc := "(I)V" } : Jvm.MethodName) prog_26_method_1_code (2 : Nat) (Option.none : Option Jvm.ClassFile.FieldType), Jvm.Cond.code ({ cls := "java/lang/Record", name := "<init>", desc := "()V" } : Jvm.MethodName) jdk_30_method_1_code (1 : Nat) (Option.none : Option Jvm.ClassFile.FieldType), Jvm.Cond.code ({ cls := "java/lang/Object", name := "<init>", desc := "()V" } : Jvm.MethodName) object_method_1_code (1 : Nat) (Option.none : Option Jvm.ClassFile.FieldType), Jvm.Cond.code ({ cls := "com/example/glowmarch/glowmarch/rules/Condition$Exactly", name := "holds", desc := "(I)Z" } : Jvm.MethodName) prog_26_method_2_code (2 : Nat) (Option.some Jvm.ClassFile.FieldType.boolean), Jvm.Cond.code ({ cls := "com/example/glowmarch/glowmarch/rules/Condition$Exactly", name := "colours", desc := "()I" } : Jvm.MethodName) prog_26_method_6_code (1 : Nat) (Option.some Jvm.ClassFile.FieldType.int)]
set_option maxRecDepth 65536 in
theorem codes_eq : words1.filter isCode = codes1 := rfl
theorem w_codes : ∀ c ∈ words1.filter isCode, c.before args0 about1 = true := by
  rw [codes_eq]
  intro c hc
  simp only [codes1, List.mem_cons, List.not_mem_nil, or_false] at hc
  rcases hc with rfl | rfl | rfl | rfl | rfl | rfl
  · exact w_c0
  · exact w_c1
  · exact w_c2
  · exact w_c3
  · exact w_c4
  · exact w_c5
set_option maxRecDepth 65536 in
theorem w_t1 : (words1.take 24).all (fun c => isCode c || c.before args0 about1) = true := by decide +kernel
set_option maxRecDepth 65536 in
theorem w_t2 : (words1.drop 24).all (fun c => isCode c || c.before args0 about1) = true := by decide +kernel
theorem w_tables : (allAtoms (Jvm.Cond.code x code maxLocals ret :: tables_1)).before args0 about1 = true := by
  rw [allAtoms_all]
  show words1.all (fun c => c.before args0 about1) = true
  refine all_split ?_ w_codes
  rw [← List.take_append_drop 24 words1, List.all_append, w_t1, w_t2]
  rfl
set_option maxRecDepth 65536 in
theorem w_case : (Jvm.Cond.and given_1 narrow_1).before args0 about1 = true := by decide +kernel
theorem w_applies : (headSpec (Jvm.Cond.code x code maxLocals ret :: tables_1) room_1).applies x e0.platform about1 = true :=
  (Spec.applies_iff w_frames).mpr ⟨w_running, w_runnable, w_alone, w_named, w_hears, w_ripe, w_room, w_tables⟩
theorem atStart : AtStart classFile x code maxLocals ret World_1 tables_1 room_1 Calls_1 rest_1 Pre_1 launch0 p0 e0 about1 theMethod args0 below0 :=
  ⟨lists_1, trivial, launch0.admits_env _ _ _, launch0.least_env, fairChoices_fair.cas, fairChoices_fair.clock, w_frames, w_args, w_heap, w_applies, trivial, trivial, w_case⟩
end start1
theorem witness_1 : WitnessClaimed_1 := ⟨start1.p0, start1.e0, start1.about1, start1.theMethod, start1.args0, start1.below0, start1.atStart⟩
end Jvm.Pilot.@@N@@
