import JvmDerived
import JvmDerived.Pilot.@@N@@Statement
import JvmDerived.Pilot.@@N@@Code
set_option linter.unusedVariables false
set_option linter.unusedSimpArgs false
namespace Jvm.RoadKit
open Sem ClassFile Op Lib Jvm.Stand Jvm.Free Jvm.LawKit
section New
variable {p : Program} {l : Launch} {e : Env} {R : Room} {s : State} {m : MethodId} {args : Array Value} {below : List Frame} {meth : Method} {c : Code} {T : State} {locs : List Loc} {cells slots : Nat}
theorem retI (X : Stand p l e R s m args below meth c T locs cells slots) (hx : p.tables.exec = Jvm.exec) {pc : Nat} {Ls : Array Slot} {z : Int32} {rest : List Value} (hret : meth.sig.returnType = some .int) (hd : decode c.code pc = .ok (.ireturn, 1)) {fs : List Frame}
    (hl : ∀ (f : JFrame) (acts : List Action), f.method = m → f.locked = none → f.entered = [] → (doReturn e (T.setTop f) acts (some (.int z))).1 = T.setFrames fs) : Steps p.tables e below (T.setTop (mkF m pc Ls (.int z :: rest))) (T.setFrames fs) := by
  have hm' : T.vm.method? m = some meth := X.method'
  have hn : narrow .int (.int z) = .int z := rfl
  show Steps p.tables e below (T.setTop { method := m, pc := pc, locals := Ls, stack := _ :: rest, locked := none }) _
  jvm_step X.here [X.here.top, hx, hd, hm', hret, hn]
  first | (intro acts; rw [hl _ acts rfl rfl rfl]) | rw [hl _ _ rfl rfl rfl]
  exact Steps.refl _
theorem own_lremM {g : JFrame} {target : State} (X : Stand p l e R s m args below meth c T locs cells slots) (hx : p.tables.exec = Jvm.exec) (hg : g.method = m) {x y : Int64} {rest : List Value} (hd : decode c.code g.pc = .ok (.lrem, 1)) (hs : g.stack = .long y :: .long x :: rest) (hy : y ≠ 0)
    (hr : Steps p.tables e below (T.setTop { g with pc := g.pc + 1, stack := .long (x % y) :: rest }) target) : Steps p.tables e below (T.setTop g) target :=
  XS.lrem X.here hx hg hd hs hy (by first | exact hr | (rw [lrem_mod]; exact hr))
theorem own_monoW {s t : State} {o : Outcome} {L : List Loc} {k n k' n' : Nat} (h : ReturnedEndW s o t L k n) (hk : k ≤ k') (hn : n ≤ n') : ReturnedEndW s o t L k' n' := ⟨h.1, h.2.1, h.2.2.1, h.2.2.2.mono hk hn⟩
theorem own_go {α β : Type} {S S' : α → Prop} {P : α → β → Prop} (h : ∀ t, S' t → S t) (g : ∃ n o, S' n ∧ P n o) : ∃ n o, S n ∧ P n o := by
  obtain ⟨n, o, a, b⟩ := g
  exact ⟨n, o, h n a, b⟩
end New
end Jvm.RoadKit
namespace Jvm.Pilot.@@N@@
open Jvm Jvm.ClassFile Sem Op Lib Jvm.Free Jvm.Stand Jvm.LawKit Jvm.RoadKit Bundle Jvm.Pilot.@@N@@.Jvm.D
theorem own_ri (x r m : Int32) (k : Nat) (M : Int64) (hk : k ≤ 31) (hm : m.toBitVec.toNat = 2 ^ k - 1) (hM : M.toInt = ((2 ^ k : Nat) : Int) - 1) (h : r = (x &&& m)) : ¬ ((r.toInt64) < (0 : Int64)) ∧ ¬ (M < (r.toInt64)) := by
  have h1 := c_mask x m k hk hm
  rw [← h] at h1
  have h2 : (0 : Int) < ((2 ^ k : Nat) : Int) := by exact_mod_cast Nat.two_pow_pos k
  have h3 := Int.emod_nonneg x.toInt (Int.ne_of_gt h2)
  have h4 := Int.emod_lt_of_pos x.toInt h2
  have e0 : (0 : Int64).toInt = 0 := by decide
  rw [Int64.lt_iff_toInt_lt, Int64.lt_iff_toInt_lt, c_i2l, hM, e0, h1]
  omega
theorem own_rl (x r : Int64) (h : r = (x &&& (4294967295 : Int64))) : ¬ (r < (0 : Int64)) ∧ ¬ ((4294967295 : Int64) < r) := by
  have h1 := c_maskL x (4294967295 : Int64) 32 (by decide) (by decide)
  rw [← h] at h1
  have e0 : (0 : Int64).toInt = 0 := by decide
  have e1 : (4294967295 : Int64).toInt = 4294967295 := by decide
  have e2 : ((2 ^ 32 : Nat) : Int) = 4294967296 := by decide
  rw [Int64.lt_iff_toInt_lt, Int64.lt_iff_toInt_lt, e0, e1, h1, e2]
  omega
theorem own_byte (x r : Int32) (h : r = (x &&& (255 : Int32))) : ∃ k : Fin 256, r = Int32.ofNat k.val := by
  have h1 := c_mask x (255 : Int32) 8 (by decide) (by decide)
  rw [← h] at h1
  have e2 : ((2 ^ 8 : Nat) : Int) = 256 := by decide
  rw [e2] at h1
  refine ⟨⟨r.toInt.toNat, by omega⟩, ?_⟩
  apply Int32.toInt_inj.mp
  rw [Int32.toInt_ofNat_of_lt (by show r.toInt.toNat < 2 ^ 31; omega)]
  show r.toInt = (r.toInt.toNat : Int)
  omega
theorem own_all : ∀ k : Fin 256, (if ((Int32.ofNat k.val) &&& (32 : Int32)) = (0 : Int32) then (0 : Int32) else (1 : Int32)) = (if ((Int32.ofNat k.val) % (64 : Int32)) < (32 : Int32) then (0 : Int32) else (1 : Int32)) ∧ (if (((Int32.ofNat k.val) ^^^ (32 : Int32)) &&& (32 : Int32)) = (0 : Int32) then (0 : Int32) else (1 : Int32)) = (if (if ((Int32.ofNat k.val) % (64 : Int32)) < (32 : Int32) then (0 : Int32) else (1 : Int32)) = (0 : Int32) then (1 : Int32) else (0 : Int32)) ∧ (¬ (((Int32.ofNat k.val) ^^^ (32 : Int32)).toInt64 < (0 : Int64)) ∧ ¬ ((255 : Int64) < ((Int32.ofNat k.val) ^^^ (32 : Int32)).toInt64)) := by decide +kernel
theorem own_law (x f : Int32) (h : f = (x &&& (255 : Int32))) : (if (f &&& (32 : Int32)) = (0 : Int32) then (0 : Int32) else (1 : Int32)) = (if (f % (64 : Int32)) < (32 : Int32) then (0 : Int32) else (1 : Int32)) ∧ (if ((f ^^^ (32 : Int32)) &&& (32 : Int32)) = (0 : Int32) then (0 : Int32) else (1 : Int32)) = (if (if (f % (64 : Int32)) < (32 : Int32) then (0 : Int32) else (1 : Int32)) = (0 : Int32) then (1 : Int32) else (0 : Int32)) ∧ (¬ ((f ^^^ (32 : Int32)).toInt64 < (0 : Int64)) ∧ ¬ ((255 : Int64) < (f ^^^ (32 : Int32)).toInt64)) := by
  obtain ⟨k, hk⟩ := own_byte x f h
  rw [hk]
  exact own_all k
theorem d2_0 : decode jdk_30_method_1_code 0 = .ok (.aload_n 0, 1) := by decide +kernel
theorem d2_1 : decode jdk_30_method_1_code 1 = .ok (.invokespecial 1, 3) := by decide +kernel
theorem d2_4 : decode jdk_30_method_1_code 4 = .ok (.return_, 1) := by decide +kernel
theorem pn_2 : plainName "java/lang/Record" = true := by first | (simp [plainName, overriddenIn]; done) | decide +kernel
theorem ef_2 (m : MethodId) (x0 : Addr) : entryFrame m #[(.ref x0)] 1 = mkF m 0 #[.val (.ref x0)] [] := by first | (simp [entryFrame, mkF, argsToLocals, Value.category]; done) | rfl
def Q2 (Z : State) (a1 : Addr) (h0 : Heap) (n0 : Nat) (v : Option Value) (h : Heap) (L : List Loc) : Prop := v = none ∧ Fr n0 L ∧ h = h0
set_option maxRecDepth 65536 in
set_option maxHeartbeats 40000000 in
theorem rm2 (l : Launch) (Z : State) (a0 : Array Value) (hw : ∀ d ∈ tables_1, d.before a0 Z = true) (ws : List Jvm.Cond) (a1 : Addr) (h0 : Heap) (n0 : Nat) (Z0 : n0 ≤ h0.size) :
    MetFree l (⟨"java/lang/Record", "<init>", "()V"⟩ : MethodName) (head1 (Jvm.Cond.code (⟨"java/lang/Record", "<init>", "()V"⟩ : MethodName) jdk_30_method_1_code 1 none :: ws) ({ frames := 1, cells := 0, slots := 0, locals := 12 } : Room)) (fun a U => a = #[(.ref a1)] ∧ Z.Warmed39 U.vm ∧ U.heap = h0) (fun _ _ _ _ _ => True) (fun _ U o U' => ∃ v L, o = .returned v ∧ Q2 Z a1 h0 n0 v U'.heap L ∧ FrameEnd U o U' L ({ frames := 1, cells := 0, slots := 0, locals := 12 } : Room).cells ({ frames := 1, cells := 0, slots := 0, locals := 12 } : Room).slots) := by
  refine MetFree.of_bodySF (plainFor_of_name pn_2) hisR ?_
  intro p e s m args below meth c s₁ Bd hml0 hP hK
  obtain ⟨rfl, hZ, hh⟩ := hP
  have hx := Bd.exec
  have hby := Bd.bytes
  have hml : c.maxLocals = 1 := hml0
  have hown : s.vm.findClass "java/lang/Record" = some m.cls := findClass_of_methodNamed Bd.named
  have hnm := (name_of_methodNamed Bd.named Bd.method).1
  have X0 : Stand p l e ({ frames := 1, cells := 0, slots := 0, locals := 12 } : Room) s m #[(.ref a1)] below meth c s₁ [] 0 0 := Stand.of_body Bd
  have e0 : s₁.heap = h0 := by rw [← hh, Bd.state]; rfl
  have N0 := Fr.nil n0
  have K0 : Keep h0 h0 [] := Keep.refl _ _
  have pre0 : ∀ t, Steps p.tables e below (s₁.setTop (mkF m 0 #[.val (.ref a1)] [])) t → Steps p.tables e below (s₁.setTop (entryFrame m #[(.ref a1)] 1)) t := fun t k => castTop (ef_2 m a1) k
  refine own_go (S' := fun t => Steps p.tables e below (s₁.setTop (mkF m 0 #[.val (.ref a1)] [])) t) pre0 ?_
  obtain ⟨T1, X1, e1, st1⟩ := initO X0 hx hZ hown (hw _ (List.mem_of_getElem? (i := 12) rfl)) (hw _ (List.mem_of_getElem? (i := 13) rfl)) (hw _ (List.mem_of_getElem? (i := 14) rfl)) e0 (g := (mkF m 1 #[.val (.ref a1)] [(.ref a1)])) rfl (by rw [hml]; rfl) rfl (hb hby d2_1) (by decide) (W := 0) (by show 2 * 0 + _ ≤ _; exact Nat.le_of_eq rfl) (by decide)
  obtain ⟨fs, hr, hrun, hended, hW, hsame⟩ := X1.leave (v := none) (fun _ => rfl)
  refine ⟨_, _, ?_, hrun, hended, _, _, rfl, ?_, ⟨_, rfl⟩, hW, hsame.mono (by decide) (by decide)⟩
  · show Steps p.tables e below (s₁.setTop (mkF m 0 #[.val (.ref a1)] [])) _
    refine XS.aloadN X0.here hx rfl (hb hby d2_0) rfl rfl ?_
    show Steps p.tables e below (s₁.setTop (mkF m 1 #[.val (.ref a1)] [(.ref a1)])) _
    refine st1 _ ?_
    show Steps p.tables e below (T1.setTop (mkF m 4 #[.val (.ref a1)] [])) _
    exact X1.returnOut hx Bd.returns (hb hby d2_4) hr
  · show Q2 Z a1 h0 n0 _ T1.heap _
    rw [e1]
    exact ⟨rfl, N0, rfl⟩
theorem d4_0 : decode prog_18_method_6_code 0 = .ok (.lload_n 1, 1) := by decide +kernel
theorem d4_1 : decode prog_18_method_6_code 1 = .ok (.lconst 0, 1) := by decide +kernel
theorem d4_2 : decode prog_18_method_6_code 2 = .ok (.lcmp, 1) := by decide +kernel
theorem d4_3 : decode prog_18_method_6_code 3 = .ok (.ifCond .lt 9, 3) := by decide +kernel
theorem d4_6 : decode prog_18_method_6_code 6 = .ok (.lload_n 1, 1) := by decide +kernel
theorem d4_7 : decode prog_18_method_6_code 7 = .ok (.lload_n 3, 1) := by decide +kernel
theorem d4_8 : decode prog_18_method_6_code 8 = .ok (.lcmp, 1) := by decide +kernel
theorem d4_9 : decode prog_18_method_6_code 9 = .ok (.ifCond .le 19, 3) := by decide +kernel
theorem d4_28 : decode prog_18_method_6_code 28 = .ok (.return_, 1) := by decide +kernel
theorem pn_4 : plainName "com/example/meticulous_audit/meticulousaudit/ike/IkeHeader" = true := by first | (simp [plainName, overriddenIn]; done) | decide +kernel
theorem ef_4 (m : MethodId) (x0 : Addr) (x1 : Int64) (x2 : Int64) : entryFrame m #[(.ref x0), (.long x1), (.long x2)] 5 = mkF m 0 #[.val (.ref x0), .val (.long x1), .second, .val (.long x2), .second] [] := by first | (simp [entryFrame, mkF, argsToLocals, Value.category]; done) | rfl
def Q4 (Z : State) (a1 : Addr) (q2 : Int64) (q3 : Int64) (h0 : Heap) (n0 : Nat) (v : Option Value) (h : Heap) (L : List Loc) : Prop := v = none ∧ Fr n0 L ∧ h = h0
set_option maxRecDepth 65536 in
set_option maxHeartbeats 40000000 in
theorem rm4 (l : Launch) (Z : State) (a0 : Array Value) (hw : ∀ d ∈ tables_1, d.before a0 Z = true) (ws : List Jvm.Cond) (a1 : Addr) (q2 : Int64) (q3 : Int64) (h0 : Heap) (n0 : Nat) (Z0 : n0 ≤ h0.size) (hc3 : ¬ (q2 < (0 : Int64))) (hc9 : ¬ (q3 < q2)) :
    MetFree l (⟨"com/example/meticulous_audit/meticulousaudit/ike/IkeHeader", "checkRange", "(Ljava/lang/String;JJ)V"⟩ : MethodName) (head1 (Jvm.Cond.code (⟨"com/example/meticulous_audit/meticulousaudit/ike/IkeHeader", "checkRange", "(Ljava/lang/String;JJ)V"⟩ : MethodName) prog_18_method_6_code 5 none :: ws) ({ frames := 0, cells := 0, slots := 0, locals := 0 } : Room)) (fun a U => a = #[(.ref a1), (.long q2), (.long q3)] ∧ Z.Warmed39 U.vm ∧ U.heap = h0) (fun _ _ _ _ _ => True) (fun _ U o U' => ∃ v L, o = .returned v ∧ Q4 Z a1 q2 q3 h0 n0 v U'.heap L ∧ FrameEnd U o U' L ({ frames := 0, cells := 0, slots := 0, locals := 0 } : Room).cells ({ frames := 0, cells := 0, slots := 0, locals := 0 } : Room).slots) := by
  refine MetFree.of_bodySF (plainFor_of_name pn_4) hisR ?_
  intro p e s m args below meth c s₁ Bd hml0 hP hK
  obtain ⟨rfl, hZ, hh⟩ := hP
  have hx := Bd.exec
  have hby := Bd.bytes
  have hml : c.maxLocals = 5 := hml0
  have hown : s.vm.findClass "com/example/meticulous_audit/meticulousaudit/ike/IkeHeader" = some m.cls := findClass_of_methodNamed Bd.named
  have hnm := (name_of_methodNamed Bd.named Bd.method).1
  have X0 : Stand p l e ({ frames := 0, cells := 0, slots := 0, locals := 0 } : Room) s m #[(.ref a1), (.long q2), (.long q3)] below meth c s₁ [] 0 0 := Stand.of_body Bd
  have e0 : s₁.heap = h0 := by rw [← hh, Bd.state]; rfl
  have N0 := Fr.nil n0
  have K0 : Keep h0 h0 [] := Keep.refl _ _
  have pre0 : ∀ t, Steps p.tables e below (s₁.setTop (mkF m 0 #[.val (.ref a1), .val (.long q2), .second, .val (.long q3), .second] [])) t → Steps p.tables e below (s₁.setTop (entryFrame m #[(.ref a1), (.long q2), (.long q3)] 5)) t := fun t k => castTop (ef_4 m a1 q2 q3) k
  refine own_go (S' := fun t => Steps p.tables e below (s₁.setTop (mkF m 0 #[.val (.ref a1), .val (.long q2), .second, .val (.long q3), .second] [])) t) pre0 ?_
  obtain ⟨fs, hr, hrun, hended, hW, hsame⟩ := X0.leave (v := none) (fun _ => rfl)
  refine ⟨_, _, ?_, hrun, hended, _, _, rfl, ?_, ⟨_, rfl⟩, hW, hsame.mono (by decide) (by decide)⟩
  · show Steps p.tables e below (s₁.setTop (mkF m 0 #[.val (.ref a1), .val (.long q2), .second, .val (.long q3), .second] [])) _
    refine XS.lloadN X0.here hx rfl (hb hby d4_0) rfl ?_
    show Steps p.tables e below (s₁.setTop (mkF m 1 #[.val (.ref a1), .val (.long q2), .second, .val (.long q3), .second] [(.long q2)])) _
    refine XS.lconst X0.here hx rfl (hb hby d4_1) ?_
    show Steps p.tables e below (s₁.setTop (mkF m 2 #[.val (.ref a1), .val (.long q2), .second, .val (.long q3), .second] [(.long (0 : Int64)), (.long q2)])) _
    refine XS.lcmp X0.here hx rfl (hb hby d4_2) rfl ?_
    show Steps p.tables e below (s₁.setTop (mkF m 3 #[.val (.ref a1), .val (.long q2), .second, .val (.long q3), .second] [(.int (lcmpW q2 (0 : Int64)))])) _
    refine XS.ifNo X0.here hx rfl (hb hby d4_3) rfl ((if0 _ _).trans (flt (fun z => hc3 ((lw_lt _ _).mp z))).1) ?_
    show Steps p.tables e below (s₁.setTop (mkF m 6 #[.val (.ref a1), .val (.long q2), .second, .val (.long q3), .second] [])) _
    refine XS.lloadN X0.here hx rfl (hb hby d4_6) rfl ?_
    show Steps p.tables e below (s₁.setTop (mkF m 7 #[.val (.ref a1), .val (.long q2), .second, .val (.long q3), .second] [(.long q2)])) _
    refine XS.lloadN X0.here hx rfl (hb hby d4_7) rfl ?_
    show Steps p.tables e below (s₁.setTop (mkF m 8 #[.val (.ref a1), .val (.long q2), .second, .val (.long q3), .second] [(.long q3), (.long q2)])) _
    refine XS.lcmp X0.here hx rfl (hb hby d4_8) rfl ?_
    show Steps p.tables e below (s₁.setTop (mkF m 9 #[.val (.ref a1), .val (.long q2), .second, .val (.long q3), .second] [(.int (lcmpW q2 q3))])) _
    refine XS.ifYes X0.here hx rfl (pc0 := 9) (pc' := 28) rfl (hb hby d4_9) rfl ((if0 _ _).trans (flt (fun z => hc9 ((lw_gt _ _).mp z))).2.2.2) (by decide) (by decide) ?_
    show Steps p.tables e below (s₁.setTop (mkF m 28 #[.val (.ref a1), .val (.long q2), .second, .val (.long q3), .second] [])) _
    exact X0.returnOut hx Bd.returns (hb hby d4_28) hr
  · show Q4 Z a1 q2 q3 h0 n0 _ s₁.heap _
    rw [e0]
    exact ⟨rfl, N0, rfl⟩
theorem pd_0 : parseMethodDescriptor "()V" = some ⟨[], none⟩ := by decide +kernel
theorem pd_1 : parseMethodDescriptor "(Ljava/lang/String;JJ)V" = some ⟨[(.object "java/lang/String"), .long, .long], none⟩ := by decide +kernel
theorem d1_0 : decode prog_18_method_1_code 0 = .ok (.aload_n 0, 1) := by decide +kernel
theorem d1_1 : decode prog_18_method_1_code 1 = .ok (.invokespecial 1, 3) := by decide +kernel
theorem d1_4 : decode prog_18_method_1_code 4 = .ok (.ldc 7, 2) := by decide +kernel
theorem d1_6 : decode prog_18_method_1_code 6 = .ok (.iload 5, 2) := by decide +kernel
theorem d1_8 : decode prog_18_method_1_code 8 = .ok (.i2l, 1) := by decide +kernel
theorem d1_9 : decode prog_18_method_1_code 9 = .ok (.ldc2_w 9, 3) := by decide +kernel
theorem d1_12 : decode prog_18_method_1_code 12 = .ok (.invokestatic 11, 3) := by decide +kernel
theorem d1_15 : decode prog_18_method_1_code 15 = .ok (.ldc 17, 2) := by decide +kernel
theorem d1_17 : decode prog_18_method_1_code 17 = .ok (.iload 6, 2) := by decide +kernel
theorem d1_19 : decode prog_18_method_1_code 19 = .ok (.i2l, 1) := by decide +kernel
theorem d1_20 : decode prog_18_method_1_code 20 = .ok (.ldc2_w 19, 3) := by decide +kernel
theorem d1_23 : decode prog_18_method_1_code 23 = .ok (.invokestatic 11, 3) := by decide +kernel
theorem d1_26 : decode prog_18_method_1_code 26 = .ok (.ldc 21, 2) := by decide +kernel
theorem d1_28 : decode prog_18_method_1_code 28 = .ok (.iload 7, 2) := by decide +kernel
theorem d1_30 : decode prog_18_method_1_code 30 = .ok (.i2l, 1) := by decide +kernel
theorem d1_31 : decode prog_18_method_1_code 31 = .ok (.ldc2_w 19, 3) := by decide +kernel
theorem d1_34 : decode prog_18_method_1_code 34 = .ok (.invokestatic 11, 3) := by decide +kernel
theorem d1_37 : decode prog_18_method_1_code 37 = .ok (.ldc 23, 2) := by decide +kernel
theorem d1_39 : decode prog_18_method_1_code 39 = .ok (.iload 8, 2) := by decide +kernel
theorem d1_41 : decode prog_18_method_1_code 41 = .ok (.i2l, 1) := by decide +kernel
theorem d1_42 : decode prog_18_method_1_code 42 = .ok (.ldc2_w 9, 3) := by decide +kernel
theorem d1_45 : decode prog_18_method_1_code 45 = .ok (.invokestatic 11, 3) := by decide +kernel
theorem d1_48 : decode prog_18_method_1_code 48 = .ok (.ldc 25, 2) := by decide +kernel
theorem d1_50 : decode prog_18_method_1_code 50 = .ok (.iload 9, 2) := by decide +kernel
theorem d1_52 : decode prog_18_method_1_code 52 = .ok (.i2l, 1) := by decide +kernel
theorem d1_53 : decode prog_18_method_1_code 53 = .ok (.ldc2_w 9, 3) := by decide +kernel
theorem d1_56 : decode prog_18_method_1_code 56 = .ok (.invokestatic 11, 3) := by decide +kernel
theorem d1_59 : decode prog_18_method_1_code 59 = .ok (.ldc 27, 2) := by decide +kernel
theorem d1_61 : decode prog_18_method_1_code 61 = .ok (.lload 10, 2) := by decide +kernel
theorem d1_63 : decode prog_18_method_1_code 63 = .ok (.ldc2_w 29, 3) := by decide +kernel
theorem d1_66 : decode prog_18_method_1_code 66 = .ok (.invokestatic 11, 3) := by decide +kernel
theorem d1_69 : decode prog_18_method_1_code 69 = .ok (.ldc 31, 2) := by decide +kernel
theorem d1_71 : decode prog_18_method_1_code 71 = .ok (.lload 12, 2) := by decide +kernel
theorem d1_73 : decode prog_18_method_1_code 73 = .ok (.ldc2_w 29, 3) := by decide +kernel
theorem d1_76 : decode prog_18_method_1_code 76 = .ok (.invokestatic 11, 3) := by decide +kernel
theorem d1_79 : decode prog_18_method_1_code 79 = .ok (.aload_n 0, 1) := by decide +kernel
theorem d1_80 : decode prog_18_method_1_code 80 = .ok (.lload_n 1, 1) := by decide +kernel
theorem d1_81 : decode prog_18_method_1_code 81 = .ok (.putfield 33, 3) := by decide +kernel
theorem d1_84 : decode prog_18_method_1_code 84 = .ok (.aload_n 0, 1) := by decide +kernel
theorem d1_85 : decode prog_18_method_1_code 85 = .ok (.lload_n 3, 1) := by decide +kernel
theorem d1_86 : decode prog_18_method_1_code 86 = .ok (.putfield 37, 3) := by decide +kernel
theorem d1_89 : decode prog_18_method_1_code 89 = .ok (.aload_n 0, 1) := by decide +kernel
theorem d1_90 : decode prog_18_method_1_code 90 = .ok (.iload 5, 2) := by decide +kernel
theorem d1_92 : decode prog_18_method_1_code 92 = .ok (.putfield 40, 3) := by decide +kernel
theorem d1_95 : decode prog_18_method_1_code 95 = .ok (.aload_n 0, 1) := by decide +kernel
theorem d1_96 : decode prog_18_method_1_code 96 = .ok (.iload 6, 2) := by decide +kernel
theorem d1_98 : decode prog_18_method_1_code 98 = .ok (.putfield 44, 3) := by decide +kernel
theorem d1_101 : decode prog_18_method_1_code 101 = .ok (.aload_n 0, 1) := by decide +kernel
theorem d1_102 : decode prog_18_method_1_code 102 = .ok (.iload 7, 2) := by decide +kernel
theorem d1_104 : decode prog_18_method_1_code 104 = .ok (.putfield 47, 3) := by decide +kernel
theorem d1_107 : decode prog_18_method_1_code 107 = .ok (.aload_n 0, 1) := by decide +kernel
theorem d1_108 : decode prog_18_method_1_code 108 = .ok (.iload 8, 2) := by decide +kernel
theorem d1_110 : decode prog_18_method_1_code 110 = .ok (.putfield 50, 3) := by decide +kernel
theorem d1_113 : decode prog_18_method_1_code 113 = .ok (.aload_n 0, 1) := by decide +kernel
theorem d1_114 : decode prog_18_method_1_code 114 = .ok (.iload 9, 2) := by decide +kernel
theorem d1_116 : decode prog_18_method_1_code 116 = .ok (.putfield 53, 3) := by decide +kernel
theorem d1_119 : decode prog_18_method_1_code 119 = .ok (.aload_n 0, 1) := by decide +kernel
theorem d1_120 : decode prog_18_method_1_code 120 = .ok (.lload 10, 2) := by decide +kernel
theorem d1_122 : decode prog_18_method_1_code 122 = .ok (.putfield 55, 3) := by decide +kernel
theorem d1_125 : decode prog_18_method_1_code 125 = .ok (.aload_n 0, 1) := by decide +kernel
theorem d1_126 : decode prog_18_method_1_code 126 = .ok (.lload 12, 2) := by decide +kernel
theorem d1_128 : decode prog_18_method_1_code 128 = .ok (.putfield 58, 3) := by decide +kernel
theorem d1_131 : decode prog_18_method_1_code 131 = .ok (.return_, 1) := by decide +kernel
theorem pn_1 : plainName "com/example/meticulous_audit/meticulousaudit/ike/IkeHeader" = true := by first | (simp [plainName, overriddenIn]; done) | decide +kernel
theorem ef_1 (m : MethodId) (x0 : Addr) (x1 : Int64) (x2 : Int64) (x3 : Int32) (x4 : Int32) (x5 : Int32) (x6 : Int32) (x7 : Int32) (x8 : Int64) (x9 : Int64) : entryFrame m #[(.ref x0), (.long x1), (.long x2), (.int x3), (.int x4), (.int x5), (.int x6), (.int x7), (.long x8), (.long x9)] 14 = mkF m 0 #[.val (.ref x0), .val (.long x1), .second, .val (.long x2), .second, .val (.int x3), .val (.int x4), .val (.int x5), .val (.int x6), .val (.int x7), .val (.long x8), .second, .val (.long x9), .second] [] := by first | (simp [entryFrame, mkF, argsToLocals, Value.category]; done) | rfl
def Q1 (Z : State) (a1 : Addr) (q2 : Int64) (q3 : Int64) (p4 : Int32) (p5 : Int32) (p6 : Int32) (p7 : Int32) (p8 : Int32) (q9 : Int64) (q10 : Int64) (u0 : Value) (u1 : Value) (u2 : Value) (u3 : Value) (u4 : Value) (u5 : Value) (u6 : Value) (u7 : Value) (u8 : Value) (h0 : Heap) (n0 : Nat) (v : Option Value) (h : Heap) (L : List Loc) : Prop := v = none ∧ Fr n0 L ∧ Keep h0 h [a1] ∧ Exa Z h a1 "com/example/meticulous_audit/meticulousaudit/ike/IkeHeader" ∧ Fld Z h a1 "com/example/meticulous_audit/meticulousaudit/ike/IkeHeader" "flags" "I" (.int p8)
set_option maxRecDepth 65536 in
set_option maxHeartbeats 40000000 in
theorem rm1 (l : Launch) (Z : State) (a0 : Array Value) (hw : ∀ d ∈ tables_1, d.before a0 Z = true) (ws : List Jvm.Cond) (a1 : Addr) (q2 : Int64) (q3 : Int64) (p4 : Int32) (p5 : Int32) (p6 : Int32) (p7 : Int32) (p8 : Int32) (q9 : Int64) (q10 : Int64) (u0 : Value) (u1 : Value) (u2 : Value) (u3 : Value) (u4 : Value) (u5 : Value) (u6 : Value) (u7 : Value) (u8 : Value) (h0 : Heap) (n0 : Nat) (Z0 : n0 ≤ h0.size) (E_a1 : Exa Z h0 a1 "com/example/meticulous_audit/meticulousaudit/ike/IkeHeader") (F_a1_initiatorSpi : Fld Z h0 a1 "com/example/meticulous_audit/meticulousaudit/ike/IkeHeader" "initiatorSpi" "J" u0) (F_a1_responderSpi : Fld Z h0 a1 "com/example/meticulous_audit/meticulousaudit/ike/IkeHeader" "responderSpi" "J" u1) (F_a1_nextPayload : Fld Z h0 a1 "com/example/meticulous_audit/meticulousaudit/ike/IkeHeader" "nextPayload" "I" u2) (F_a1_majorVersion : Fld Z h0 a1 "com/example/meticulous_audit/meticulousaudit/ike/IkeHeader" "majorVersion" "I" u3) (F_a1_minorVersion : Fld Z h0 a1 "com/example/meticulous_audit/meticulousaudit/ike/IkeHeader" "minorVersion" "I" u4) (F_a1_exchangeType : Fld Z h0 a1 "com/example/meticulous_audit/meticulousaudit/ike/IkeHeader" "exchangeType" "I" u5) (F_a1_flags : Fld Z h0 a1 "com/example/meticulous_audit/meticulousaudit/ike/IkeHeader" "flags" "I" u6) (F_a1_messageId : Fld Z h0 a1 "com/example/meticulous_audit/meticulousaudit/ike/IkeHeader" "messageId" "J" u7) (F_a1_length : Fld Z h0 a1 "com/example/meticulous_audit/meticulousaudit/ike/IkeHeader" "length" "J" u8) (g_a1 : n0 ≤ a1) (R12a : ¬ ((p4.toInt64) < (0 : Int64))) (R12b : ¬ ((255 : Int64) < (p4.toInt64))) (R23a : ¬ ((p5.toInt64) < (0 : Int64))) (R23b : ¬ ((15 : Int64) < (p5.toInt64))) (R34a : ¬ ((p6.toInt64) < (0 : Int64))) (R34b : ¬ ((15 : Int64) < (p6.toInt64))) (R45a : ¬ ((p7.toInt64) < (0 : Int64))) (R45b : ¬ ((255 : Int64) < (p7.toInt64))) (R56a : ¬ ((p8.toInt64) < (0 : Int64))) (R56b : ¬ ((255 : Int64) < (p8.toInt64))) (R66a : ¬ (q9 < (0 : Int64))) (R66b : ¬ ((4294967295 : Int64) < q9)) (R76a : ¬ (q10 < (0 : Int64))) (R76b : ¬ ((4294967295 : Int64) < q10)) :
    MetFree l (⟨"com/example/meticulous_audit/meticulousaudit/ike/IkeHeader", "<init>", "(JJIIIIIJJ)V"⟩ : MethodName) (head1 (Jvm.Cond.code (⟨"com/example/meticulous_audit/meticulousaudit/ike/IkeHeader", "<init>", "(JJIIIIIJJ)V"⟩ : MethodName) prog_18_method_1_code 14 none :: ws) ({ frames := 2, cells := 14, slots := 316, locals := 24 } : Room)) (fun a U => a = #[(.ref a1), (.long q2), (.long q3), (.int p4), (.int p5), (.int p6), (.int p7), (.int p8), (.long q9), (.long q10)] ∧ Z.Warmed39 U.vm ∧ U.heap = h0) (fun _ _ _ _ _ => True) (fun _ U o U' => ∃ v L, o = .returned v ∧ Q1 Z a1 q2 q3 p4 p5 p6 p7 p8 q9 q10 u0 u1 u2 u3 u4 u5 u6 u7 u8 h0 n0 v U'.heap L ∧ ReturnedEndW U o U' L ({ frames := 2, cells := 14, slots := 316, locals := 24 } : Room).cells ({ frames := 2, cells := 14, slots := 316, locals := 24 } : Room).slots) := by
  refine MetFree.of_bodySF (plainFor_of_name pn_1) hisR ?_
  intro p e s m args below meth c s₁ Bd hml0 hP hK
  obtain ⟨rfl, hZ, hh⟩ := hP
  have hx := Bd.exec
  have hby := Bd.bytes
  have hml : c.maxLocals = 14 := hml0
  have hown : s.vm.findClass "com/example/meticulous_audit/meticulousaudit/ike/IkeHeader" = some m.cls := findClass_of_methodNamed Bd.named
  have hnm := (name_of_methodNamed Bd.named Bd.method).1
  have X0 : Stand p l e ({ frames := 2, cells := 14, slots := 316, locals := 24 } : Room) (s.setVm s.vm) m #[(.ref a1), (.long q2), (.long q3), (.int p4), (.int p5), (.int p6), (.int p7), (.int p8), (.long q9), (.long q10)] below meth c s₁ [] 0 0 := Stand.of_body Bd
  have e0 : s₁.heap = h0 := by rw [← hh, Bd.state]; rfl
  have N0 := Fr.nil n0
  have K0 : Keep h0 h0 [a1] := Keep.refl _ _
  have pre0 : ∀ t, Steps p.tables e below (s₁.setTop (mkF m 0 #[.val (.ref a1), .val (.long q2), .second, .val (.long q3), .second, .val (.int p4), .val (.int p5), .val (.int p6), .val (.int p7), .val (.int p8), .val (.long q9), .second, .val (.long q10), .second] [])) t → Steps p.tables e below (s₁.setTop (entryFrame m #[(.ref a1), (.long q2), (.long q3), (.int p4), (.int p5), (.int p6), (.int p7), (.int p8), (.long q9), (.long q10)] 14)) t := fun t k => castTop (ef_1 m a1 q2 q3 p4 p5 p6 p7 p8 q9 q10) k
  have hS : s.Since s.vm 0 := (State.WarmedH.refl s).since 0
  have hk : 0 ≤ h0.size := Nat.zero_le _
  have wS : ∀ a ∈ Bundle.stringAtoms, a.before a0 Z = true := by
    intro a ha
    simp only [Bundle.stringAtoms, List.mem_cons, List.not_mem_nil, or_false] at ha
    rcases ha with rfl | rfl | rfl | rfl | rfl | rfl | rfl
    · exact (hw _ (List.mem_of_getElem? (i := 16) rfl))
    · exact (hw _ (List.mem_of_getElem? (i := 17) rfl))
    · exact (hw _ (List.mem_of_getElem? (i := 18) rfl))
    · exact (hw _ (List.mem_of_getElem? (i := 19) rfl))
    · exact (hw _ (List.mem_of_getElem? (i := 20) rfl))
    · exact (hw _ (List.mem_of_getElem? (i := 21) rfl))
    · exact (hw _ (List.mem_of_getElem? (i := 22) rfl))
  refine own_go (S' := fun t => Steps p.tables e below (s₁.setTop (mkF m 0 #[.val (.ref a1), .val (.long q2), .second, .val (.long q3), .second, .val (.int p4), .val (.int p5), .val (.int p6), .val (.int p7), .val (.int p8), .val (.long q9), .second, .val (.long q10), .second] [])) t) pre0 ?_
  obtain ⟨_, _, ⟨T1, L1, k1, n1⟩, -, X1, ⟨Lc1, hQ1, l1, y1, z1⟩, st1⟩ := X0.specialBack hx (y := (⟨"java/lang/Record", "<init>", "()V"⟩ : MethodName)) rfl hown (mvT hZ (hw _ (List.mem_of_getElem? (i := 7) rfl))) (mvT hZ (hw _ (List.mem_of_getElem? (i := 8) rfl))) (mvT hZ (hw _ (List.mem_of_getElem? (i := 11) rfl))) (by decide) (backOf (W := 0) (rm2 l Z a0 hw [] a1 h0 n0 Z0 ) hZ (hw _ (List.mem_of_getElem? (i := 11) rfl)) (hw _ (List.mem_of_getElem? (i := 10) rfl)) (by decide) (by decide)) (g := (mkF m 1 #[.val (.ref a1), .val (.long q2), .second, .val (.long q3), .second, .val (.int p4), .val (.int p5), .val (.int p6), .val (.int p7), .val (.int p8), .val (.long q9), .second, .val (.long q10), .second] [(.ref a1)])) rfl (by rw [hml]; rfl) (Steps.refl _) (a := a1) (argsL := []) (rest := []) (lenOf pd_0 rfl) rfl (by show 2 * 0 + _ ≤ _; exact Nat.le_of_eq rfl) (hb hby d1_1) (fun _ _ => ⟨rfl, e0, (by decide : 0 + 0 ≤ _), (by decide : 0 + 0 ≤ _)⟩)
  dsimp only [Pt.U, Pt.locs, Pt.cells, Pt.slots] at X1 l1 y1 z1 st1 hQ1
  subst l1 y1 z1
  obtain ⟨rfl, N1q, e1⟩ := hQ1
  have N1 := Fr.app N0 N1q
  have hZ_2 := hZ
  have hown_2 := hown
  obtain ⟨o2, T2, h2, ks2, X2, e2, E2, hS, hk_2, hZ, hown, st2⟩ := ldcS X1 hx hZ hown (hw _ (List.mem_of_getElem? (i := 15) rfl)) wS e1 hS hk (g := (mkF m 4 #[.val (.ref a1), .val (.long q2), .second, .val (.long q3), .second, .val (.int p4), .val (.int p5), .val (.int p6), .val (.int p7), .val (.int p8), .val (.long q9), .second, .val (.long q10), .second] [])) rfl (hb hby d1_4) (n := 48) (by decide) (by decide) (by decide) (by decide)
  have E_a1 := E_a1.ext E2
  have F_a1_initiatorSpi := F_a1_initiatorSpi.ext E2
  have F_a1_responderSpi := F_a1_responderSpi.ext E2
  have F_a1_nextPayload := F_a1_nextPayload.ext E2
  have F_a1_majorVersion := F_a1_majorVersion.ext E2
  have F_a1_minorVersion := F_a1_minorVersion.ext E2
  have F_a1_exchangeType := F_a1_exchangeType.ext E2
  have F_a1_flags := F_a1_flags.ext E2
  have F_a1_messageId := F_a1_messageId.ext E2
  have F_a1_length := F_a1_length.ext E2
  have Z0 : n0 ≤ h2.size := Nat.le_trans Z0 E2.1
  have K0 := K0.ext E2
  have hk := Nat.le_trans hk E2.1
  have hk := hk_2
  obtain ⟨_, _, ⟨T3, L3, k3, n3⟩, -, X3, ⟨Lc3, hQ3, l3, y3, z3⟩, st3⟩ := Jvm.LawKit.callS X2 hx (y := (⟨"com/example/meticulous_audit/meticulousaudit/ike/IkeHeader", "checkRange", "(Ljava/lang/String;JJ)V"⟩ : MethodName)) hown (mvT hZ (hw _ (List.mem_of_getElem? (i := 24) rfl))) (mvT hZ (hw _ (List.mem_of_getElem? (i := 25) rfl))) (mvT hZ (hw _ (List.mem_of_getElem? (i := 3) rfl))) (mvT hZ (hw _ (List.mem_of_getElem? (i := 26) rfl))) (by decide) (backOf (W := 0) (rm4 l Z a0 hw [] o2 (p4.toInt64) (255 : Int64) h2 n0 Z0 R12a R12b) hZ (hw _ (List.mem_of_getElem? (i := 26) rfl)) (hw _ (List.mem_of_getElem? (i := 3) rfl)) (by decide) (by decide)) (g := (mkF m 12 #[.val (.ref a1), .val (.long q2), .second, .val (.long q3), .second, .val (.int p4), .val (.int p5), .val (.int p6), .val (.int p7), .val (.int p8), .val (.long q9), .second, .val (.long q10), .second] [(.long (255 : Int64)), (.long (p4.toInt64)), (.ref o2)])) rfl (by rw [hml]; rfl) (argsL := [(.ref o2), (.long (p4.toInt64)), (.long (255 : Int64))]) (rest := []) (lenOf pd_1 rfl) rfl (by show 2 * 0 + _ ≤ _; exact Nat.le_of_eq rfl) (hb hby d1_12) (fun _ _ => ⟨rfl, e2, (by decide : 2 + 0 ≤ _), (by decide : 52 + 0 ≤ _)⟩)
  dsimp only [Pt.U, Pt.locs, Pt.cells, Pt.slots] at X3 l3 y3 z3 st3 hQ3
  subst l3 y3 z3
  obtain ⟨rfl, N3q, e3⟩ := hQ3
  have N3 := Fr.app N1 N3q
  have hZ_4 := hZ
  have hown_4 := hown
  obtain ⟨o4, T4, h4, ks4, X4, e4, E4, hS, hk_4, hZ, hown, st4⟩ := ldcS X3 hx hZ hown (hw _ (List.mem_of_getElem? (i := 27) rfl)) wS e3 hS hk (g := (mkF m 15 #[.val (.ref a1), .val (.long q2), .second, .val (.long q3), .second, .val (.int p4), .val (.int p5), .val (.int p6), .val (.int p7), .val (.int p8), .val (.long q9), .second, .val (.long q10), .second] [])) rfl (hb hby d1_15) (n := 52) (by decide) (by decide) (by decide) (by decide)
  have E_a1 := E_a1.ext E4
  have F_a1_initiatorSpi := F_a1_initiatorSpi.ext E4
  have F_a1_responderSpi := F_a1_responderSpi.ext E4
  have F_a1_nextPayload := F_a1_nextPayload.ext E4
  have F_a1_majorVersion := F_a1_majorVersion.ext E4
  have F_a1_minorVersion := F_a1_minorVersion.ext E4
  have F_a1_exchangeType := F_a1_exchangeType.ext E4
  have F_a1_flags := F_a1_flags.ext E4
  have F_a1_messageId := F_a1_messageId.ext E4
  have F_a1_length := F_a1_length.ext E4
  have Z0 : n0 ≤ h4.size := Nat.le_trans Z0 E4.1
  have K0 := K0.ext E4
  have hk := Nat.le_trans hk E4.1
  have hk := hk_4
  obtain ⟨_, _, ⟨T5, L5, k5, n5⟩, -, X5, ⟨Lc5, hQ5, l5, y5, z5⟩, st5⟩ := Jvm.LawKit.callS X4 hx (y := (⟨"com/example/meticulous_audit/meticulousaudit/ike/IkeHeader", "checkRange", "(Ljava/lang/String;JJ)V"⟩ : MethodName)) hown (mvT hZ (hw _ (List.mem_of_getElem? (i := 24) rfl))) (mvT hZ (hw _ (List.mem_of_getElem? (i := 25) rfl))) (mvT hZ (hw _ (List.mem_of_getElem? (i := 3) rfl))) (mvT hZ (hw _ (List.mem_of_getElem? (i := 26) rfl))) (by decide) (backOf (W := 0) (rm4 l Z a0 hw [] o4 (p5.toInt64) (15 : Int64) h4 n0 Z0 R23a R23b) hZ (hw _ (List.mem_of_getElem? (i := 26) rfl)) (hw _ (List.mem_of_getElem? (i := 3) rfl)) (by decide) (by decide)) (g := (mkF m 23 #[.val (.ref a1), .val (.long q2), .second, .val (.long q3), .second, .val (.int p4), .val (.int p5), .val (.int p6), .val (.int p7), .val (.int p8), .val (.long q9), .second, .val (.long q10), .second] [(.long (15 : Int64)), (.long (p5.toInt64)), (.ref o4)])) rfl (by rw [hml]; rfl) (argsL := [(.ref o4), (.long (p5.toInt64)), (.long (15 : Int64))]) (rest := []) (lenOf pd_1 rfl) rfl (by show 2 * 0 + _ ≤ _; exact Nat.le_of_eq rfl) (hb hby d1_23) (fun _ _ => ⟨rfl, e4, (by decide : 4 + 0 ≤ _), (by decide : 108 + 0 ≤ _)⟩)
  dsimp only [Pt.U, Pt.locs, Pt.cells, Pt.slots] at X5 l5 y5 z5 st5 hQ5
  subst l5 y5 z5
  obtain ⟨rfl, N5q, e5⟩ := hQ5
  have N5 := Fr.app N3 N5q
  have hZ_6 := hZ
  have hown_6 := hown
  obtain ⟨o6, T6, h6, ks6, X6, e6, E6, hS, hk_6, hZ, hown, st6⟩ := ldcS X5 hx hZ hown (hw _ (List.mem_of_getElem? (i := 29) rfl)) wS e5 hS hk (g := (mkF m 26 #[.val (.ref a1), .val (.long q2), .second, .val (.long q3), .second, .val (.int p4), .val (.int p5), .val (.int p6), .val (.int p7), .val (.int p8), .val (.long q9), .second, .val (.long q10), .second] [])) rfl (hb hby d1_26) (n := 52) (by decide) (by decide) (by decide) (by decide)
  have E_a1 := E_a1.ext E6
  have F_a1_initiatorSpi := F_a1_initiatorSpi.ext E6
  have F_a1_responderSpi := F_a1_responderSpi.ext E6
  have F_a1_nextPayload := F_a1_nextPayload.ext E6
  have F_a1_majorVersion := F_a1_majorVersion.ext E6
  have F_a1_minorVersion := F_a1_minorVersion.ext E6
  have F_a1_exchangeType := F_a1_exchangeType.ext E6
  have F_a1_flags := F_a1_flags.ext E6
  have F_a1_messageId := F_a1_messageId.ext E6
  have F_a1_length := F_a1_length.ext E6
  have Z0 : n0 ≤ h6.size := Nat.le_trans Z0 E6.1
  have K0 := K0.ext E6
  have hk := Nat.le_trans hk E6.1
  have hk := hk_6
  obtain ⟨_, _, ⟨T7, L7, k7, n7⟩, -, X7, ⟨Lc7, hQ7, l7, y7, z7⟩, st7⟩ := Jvm.LawKit.callS X6 hx (y := (⟨"com/example/meticulous_audit/meticulousaudit/ike/IkeHeader", "checkRange", "(Ljava/lang/String;JJ)V"⟩ : MethodName)) hown (mvT hZ (hw _ (List.mem_of_getElem? (i := 24) rfl))) (mvT hZ (hw _ (List.mem_of_getElem? (i := 25) rfl))) (mvT hZ (hw _ (List.mem_of_getElem? (i := 3) rfl))) (mvT hZ (hw _ (List.mem_of_getElem? (i := 26) rfl))) (by decide) (backOf (W := 0) (rm4 l Z a0 hw [] o6 (p6.toInt64) (15 : Int64) h6 n0 Z0 R34a R34b) hZ (hw _ (List.mem_of_getElem? (i := 26) rfl)) (hw _ (List.mem_of_getElem? (i := 3) rfl)) (by decide) (by decide)) (g := (mkF m 34 #[.val (.ref a1), .val (.long q2), .second, .val (.long q3), .second, .val (.int p4), .val (.int p5), .val (.int p6), .val (.int p7), .val (.int p8), .val (.long q9), .second, .val (.long q10), .second] [(.long (15 : Int64)), (.long (p6.toInt64)), (.ref o6)])) rfl (by rw [hml]; rfl) (argsL := [(.ref o6), (.long (p6.toInt64)), (.long (15 : Int64))]) (rest := []) (lenOf pd_1 rfl) rfl (by show 2 * 0 + _ ≤ _; exact Nat.le_of_eq rfl) (hb hby d1_34) (fun _ _ => ⟨rfl, e6, (by decide : 6 + 0 ≤ _), (by decide : 164 + 0 ≤ _)⟩)
  dsimp only [Pt.U, Pt.locs, Pt.cells, Pt.slots] at X7 l7 y7 z7 st7 hQ7
  subst l7 y7 z7
  obtain ⟨rfl, N7q, e7⟩ := hQ7
  have N7 := Fr.app N5 N7q
  have hZ_8 := hZ
  have hown_8 := hown
  obtain ⟨o8, T8, h8, ks8, X8, e8, E8, hS, hk_8, hZ, hown, st8⟩ := ldcS X7 hx hZ hown (hw _ (List.mem_of_getElem? (i := 30) rfl)) wS e7 hS hk (g := (mkF m 37 #[.val (.ref a1), .val (.long q2), .second, .val (.long q3), .second, .val (.int p4), .val (.int p5), .val (.int p6), .val (.int p7), .val (.int p8), .val (.long q9), .second, .val (.long q10), .second] [])) rfl (hb hby d1_37) (n := 52) (by decide) (by decide) (by decide) (by decide)
  have E_a1 := E_a1.ext E8
  have F_a1_initiatorSpi := F_a1_initiatorSpi.ext E8
  have F_a1_responderSpi := F_a1_responderSpi.ext E8
  have F_a1_nextPayload := F_a1_nextPayload.ext E8
  have F_a1_majorVersion := F_a1_majorVersion.ext E8
  have F_a1_minorVersion := F_a1_minorVersion.ext E8
  have F_a1_exchangeType := F_a1_exchangeType.ext E8
  have F_a1_flags := F_a1_flags.ext E8
  have F_a1_messageId := F_a1_messageId.ext E8
  have F_a1_length := F_a1_length.ext E8
  have Z0 : n0 ≤ h8.size := Nat.le_trans Z0 E8.1
  have K0 := K0.ext E8
  have hk := Nat.le_trans hk E8.1
  have hk := hk_8
  obtain ⟨_, _, ⟨T9, L9, k9, n9⟩, -, X9, ⟨Lc9, hQ9, l9, y9, z9⟩, st9⟩ := Jvm.LawKit.callS X8 hx (y := (⟨"com/example/meticulous_audit/meticulousaudit/ike/IkeHeader", "checkRange", "(Ljava/lang/String;JJ)V"⟩ : MethodName)) hown (mvT hZ (hw _ (List.mem_of_getElem? (i := 24) rfl))) (mvT hZ (hw _ (List.mem_of_getElem? (i := 25) rfl))) (mvT hZ (hw _ (List.mem_of_getElem? (i := 3) rfl))) (mvT hZ (hw _ (List.mem_of_getElem? (i := 26) rfl))) (by decide) (backOf (W := 0) (rm4 l Z a0 hw [] o8 (p7.toInt64) (255 : Int64) h8 n0 Z0 R45a R45b) hZ (hw _ (List.mem_of_getElem? (i := 26) rfl)) (hw _ (List.mem_of_getElem? (i := 3) rfl)) (by decide) (by decide)) (g := (mkF m 45 #[.val (.ref a1), .val (.long q2), .second, .val (.long q3), .second, .val (.int p4), .val (.int p5), .val (.int p6), .val (.int p7), .val (.int p8), .val (.long q9), .second, .val (.long q10), .second] [(.long (255 : Int64)), (.long (p7.toInt64)), (.ref o8)])) rfl (by rw [hml]; rfl) (argsL := [(.ref o8), (.long (p7.toInt64)), (.long (255 : Int64))]) (rest := []) (lenOf pd_1 rfl) rfl (by show 2 * 0 + _ ≤ _; exact Nat.le_of_eq rfl) (hb hby d1_45) (fun _ _ => ⟨rfl, e8, (by decide : 8 + 0 ≤ _), (by decide : 220 + 0 ≤ _)⟩)
  dsimp only [Pt.U, Pt.locs, Pt.cells, Pt.slots] at X9 l9 y9 z9 st9 hQ9
  subst l9 y9 z9
  obtain ⟨rfl, N9q, e9⟩ := hQ9
  have N9 := Fr.app N7 N9q
  have hZ_10 := hZ
  have hown_10 := hown
  obtain ⟨o10, T10, h10, ks10, X10, e10, E10, hS, hk_10, hZ, hown, st10⟩ := ldcS X9 hx hZ hown (hw _ (List.mem_of_getElem? (i := 31) rfl)) wS e9 hS hk (g := (mkF m 48 #[.val (.ref a1), .val (.long q2), .second, .val (.long q3), .second, .val (.int p4), .val (.int p5), .val (.int p6), .val (.int p7), .val (.int p8), .val (.long q9), .second, .val (.long q10), .second] [])) rfl (hb hby d1_48) (n := 20) (by decide) (by decide) (by decide) (by decide)
  have E_a1 := E_a1.ext E10
  have F_a1_initiatorSpi := F_a1_initiatorSpi.ext E10
  have F_a1_responderSpi := F_a1_responderSpi.ext E10
  have F_a1_nextPayload := F_a1_nextPayload.ext E10
  have F_a1_majorVersion := F_a1_majorVersion.ext E10
  have F_a1_minorVersion := F_a1_minorVersion.ext E10
  have F_a1_exchangeType := F_a1_exchangeType.ext E10
  have F_a1_flags := F_a1_flags.ext E10
  have F_a1_messageId := F_a1_messageId.ext E10
  have F_a1_length := F_a1_length.ext E10
  have Z0 : n0 ≤ h10.size := Nat.le_trans Z0 E10.1
  have K0 := K0.ext E10
  have hk := Nat.le_trans hk E10.1
  have hk := hk_10
  obtain ⟨_, _, ⟨T11, L11, k11, n11⟩, -, X11, ⟨Lc11, hQ11, l11, y11, z11⟩, st11⟩ := Jvm.LawKit.callS X10 hx (y := (⟨"com/example/meticulous_audit/meticulousaudit/ike/IkeHeader", "checkRange", "(Ljava/lang/String;JJ)V"⟩ : MethodName)) hown (mvT hZ (hw _ (List.mem_of_getElem? (i := 24) rfl))) (mvT hZ (hw _ (List.mem_of_getElem? (i := 25) rfl))) (mvT hZ (hw _ (List.mem_of_getElem? (i := 3) rfl))) (mvT hZ (hw _ (List.mem_of_getElem? (i := 26) rfl))) (by decide) (backOf (W := 0) (rm4 l Z a0 hw [] o10 (p8.toInt64) (255 : Int64) h10 n0 Z0 R56a R56b) hZ (hw _ (List.mem_of_getElem? (i := 26) rfl)) (hw _ (List.mem_of_getElem? (i := 3) rfl)) (by decide) (by decide)) (g := (mkF m 56 #[.val (.ref a1), .val (.long q2), .second, .val (.long q3), .second, .val (.int p4), .val (.int p5), .val (.int p6), .val (.int p7), .val (.int p8), .val (.long q9), .second, .val (.long q10), .second] [(.long (255 : Int64)), (.long (p8.toInt64)), (.ref o10)])) rfl (by rw [hml]; rfl) (argsL := [(.ref o10), (.long (p8.toInt64)), (.long (255 : Int64))]) (rest := []) (lenOf pd_1 rfl) rfl (by show 2 * 0 + _ ≤ _; exact Nat.le_of_eq rfl) (hb hby d1_56) (fun _ _ => ⟨rfl, e10, (by decide : 10 + 0 ≤ _), (by decide : 244 + 0 ≤ _)⟩)
  dsimp only [Pt.U, Pt.locs, Pt.cells, Pt.slots] at X11 l11 y11 z11 st11 hQ11
  subst l11 y11 z11
  obtain ⟨rfl, N11q, e11⟩ := hQ11
  have N11 := Fr.app N9 N11q
  have hZ_12 := hZ
  have hown_12 := hown
  obtain ⟨o12, T12, h12, ks12, X12, e12, E12, hS, hk_12, hZ, hown, st12⟩ := ldcS X11 hx hZ hown (hw _ (List.mem_of_getElem? (i := 32) rfl)) wS e11 hS hk (g := (mkF m 59 #[.val (.ref a1), .val (.long q2), .second, .val (.long q3), .second, .val (.int p4), .val (.int p5), .val (.int p6), .val (.int p7), .val (.int p8), .val (.long q9), .second, .val (.long q10), .second] [])) rfl (hb hby d1_59) (n := 40) (by decide) (by decide) (by decide) (by decide)
  have E_a1 := E_a1.ext E12
  have F_a1_initiatorSpi := F_a1_initiatorSpi.ext E12
  have F_a1_responderSpi := F_a1_responderSpi.ext E12
  have F_a1_nextPayload := F_a1_nextPayload.ext E12
  have F_a1_majorVersion := F_a1_majorVersion.ext E12
  have F_a1_minorVersion := F_a1_minorVersion.ext E12
  have F_a1_exchangeType := F_a1_exchangeType.ext E12
  have F_a1_flags := F_a1_flags.ext E12
  have F_a1_messageId := F_a1_messageId.ext E12
  have F_a1_length := F_a1_length.ext E12
  have Z0 : n0 ≤ h12.size := Nat.le_trans Z0 E12.1
  have K0 := K0.ext E12
  have hk := Nat.le_trans hk E12.1
  have hk := hk_12
  obtain ⟨_, _, ⟨T13, L13, k13, n13⟩, -, X13, ⟨Lc13, hQ13, l13, y13, z13⟩, st13⟩ := Jvm.LawKit.callS X12 hx (y := (⟨"com/example/meticulous_audit/meticulousaudit/ike/IkeHeader", "checkRange", "(Ljava/lang/String;JJ)V"⟩ : MethodName)) hown (mvT hZ (hw _ (List.mem_of_getElem? (i := 24) rfl))) (mvT hZ (hw _ (List.mem_of_getElem? (i := 25) rfl))) (mvT hZ (hw _ (List.mem_of_getElem? (i := 3) rfl))) (mvT hZ (hw _ (List.mem_of_getElem? (i := 26) rfl))) (by decide) (backOf (W := 0) (rm4 l Z a0 hw [] o12 q9 (4294967295 : Int64) h12 n0 Z0 R66a R66b) hZ (hw _ (List.mem_of_getElem? (i := 26) rfl)) (hw _ (List.mem_of_getElem? (i := 3) rfl)) (by decide) (by decide)) (g := (mkF m 66 #[.val (.ref a1), .val (.long q2), .second, .val (.long q3), .second, .val (.int p4), .val (.int p5), .val (.int p6), .val (.int p7), .val (.int p8), .val (.long q9), .second, .val (.long q10), .second] [(.long (4294967295 : Int64)), (.long q9), (.ref o12)])) rfl (by rw [hml]; rfl) (argsL := [(.ref o12), (.long q9), (.long (4294967295 : Int64))]) (rest := []) (lenOf pd_1 rfl) rfl (by show 2 * 0 + _ ≤ _; exact Nat.le_of_eq rfl) (hb hby d1_66) (fun _ _ => ⟨rfl, e12, (by decide : 12 + 0 ≤ _), (by decide : 288 + 0 ≤ _)⟩)
  dsimp only [Pt.U, Pt.locs, Pt.cells, Pt.slots] at X13 l13 y13 z13 st13 hQ13
  subst l13 y13 z13
  obtain ⟨rfl, N13q, e13⟩ := hQ13
  have N13 := Fr.app N11 N13q
  have hZ_14 := hZ
  have hown_14 := hown
  obtain ⟨o14, T14, h14, ks14, X14, e14, E14, hS, hk_14, hZ, hown, st14⟩ := ldcS X13 hx hZ hown (hw _ (List.mem_of_getElem? (i := 34) rfl)) wS e13 hS hk (g := (mkF m 69 #[.val (.ref a1), .val (.long q2), .second, .val (.long q3), .second, .val (.int p4), .val (.int p5), .val (.int p6), .val (.int p7), .val (.int p8), .val (.long q9), .second, .val (.long q10), .second] [])) rfl (hb hby d1_69) (n := 24) (by decide) (by decide) (by decide) (by decide)
  have E_a1 := E_a1.ext E14
  have F_a1_initiatorSpi := F_a1_initiatorSpi.ext E14
  have F_a1_responderSpi := F_a1_responderSpi.ext E14
  have F_a1_nextPayload := F_a1_nextPayload.ext E14
  have F_a1_majorVersion := F_a1_majorVersion.ext E14
  have F_a1_minorVersion := F_a1_minorVersion.ext E14
  have F_a1_exchangeType := F_a1_exchangeType.ext E14
  have F_a1_flags := F_a1_flags.ext E14
  have F_a1_messageId := F_a1_messageId.ext E14
  have F_a1_length := F_a1_length.ext E14
  have Z0 : n0 ≤ h14.size := Nat.le_trans Z0 E14.1
  have K0 := K0.ext E14
  have hk := Nat.le_trans hk E14.1
  have hk := hk_14
  obtain ⟨_, _, ⟨T15, L15, k15, n15⟩, -, X15, ⟨Lc15, hQ15, l15, y15, z15⟩, st15⟩ := Jvm.LawKit.callS X14 hx (y := (⟨"com/example/meticulous_audit/meticulousaudit/ike/IkeHeader", "checkRange", "(Ljava/lang/String;JJ)V"⟩ : MethodName)) hown (mvT hZ (hw _ (List.mem_of_getElem? (i := 24) rfl))) (mvT hZ (hw _ (List.mem_of_getElem? (i := 25) rfl))) (mvT hZ (hw _ (List.mem_of_getElem? (i := 3) rfl))) (mvT hZ (hw _ (List.mem_of_getElem? (i := 26) rfl))) (by decide) (backOf (W := 0) (rm4 l Z a0 hw [] o14 q10 (4294967295 : Int64) h14 n0 Z0 R76a R76b) hZ (hw _ (List.mem_of_getElem? (i := 26) rfl)) (hw _ (List.mem_of_getElem? (i := 3) rfl)) (by decide) (by decide)) (g := (mkF m 76 #[.val (.ref a1), .val (.long q2), .second, .val (.long q3), .second, .val (.int p4), .val (.int p5), .val (.int p6), .val (.int p7), .val (.int p8), .val (.long q9), .second, .val (.long q10), .second] [(.long (4294967295 : Int64)), (.long q10), (.ref o14)])) rfl (by rw [hml]; rfl) (argsL := [(.ref o14), (.long q10), (.long (4294967295 : Int64))]) (rest := []) (lenOf pd_1 rfl) rfl (by show 2 * 0 + _ ≤ _; exact Nat.le_of_eq rfl) (hb hby d1_76) (fun _ _ => ⟨rfl, e14, (by decide : 14 + 0 ≤ _), (by decide : 316 + 0 ≤ _)⟩)
  dsimp only [Pt.U, Pt.locs, Pt.cells, Pt.slots] at X15 l15 y15 z15 st15 hQ15
  subst l15 y15 z15
  obtain ⟨rfl, N15q, e15⟩ := hQ15
  have N15 := Fr.app N13 N15q
  obtain ⟨T16, h16, X16, e16, W16, st16⟩ := putF X15 hx hZ hown (host := "") (Or.inl (hw _ (List.mem_of_getElem? (i := 35) rfl))) Via.refl e15 F_a1_initiatorSpi E_a1 (Or.inr ⟨(hw _ (List.mem_of_getElem? (i := 36) rfl)), rfl, hnm⟩) (hw _ (List.mem_of_getElem? (i := 2) rfl)) (ty := .long) (by decide) rfl rfl (g := (mkF m 81 #[.val (.ref a1), .val (.long q2), .second, .val (.long q3), .second, .val (.int p4), .val (.int p5), .val (.int p6), .val (.int p7), .val (.int p8), .val (.long q9), .second, .val (.long q10), .second] [(.long q2), (.ref a1)])) rfl rfl (hb hby d1_81)
  have F_a1_initiatorSpi := F_a1_initiatorSpi.same W16
  have F_a1_responderSpi := F_a1_responderSpi.other W16 (Or.inr (slot_ne (Or.inr (hw _ (List.mem_of_getElem? (i := 38) rfl))) (Or.inr (hw _ (List.mem_of_getElem? (i := 36) rfl))) (by decide) (t := .long) (t' := .long) (by decide) (by decide)))
  have F_a1_nextPayload := F_a1_nextPayload.other W16 (Or.inr (slot_ne (Or.inr (hw _ (List.mem_of_getElem? (i := 40) rfl))) (Or.inr (hw _ (List.mem_of_getElem? (i := 36) rfl))) (by decide) (t := .int) (t' := .long) (by decide) (by decide)))
  have F_a1_majorVersion := F_a1_majorVersion.other W16 (Or.inr (slot_ne (Or.inr (hw _ (List.mem_of_getElem? (i := 42) rfl))) (Or.inr (hw _ (List.mem_of_getElem? (i := 36) rfl))) (by decide) (t := .int) (t' := .long) (by decide) (by decide)))
  have F_a1_minorVersion := F_a1_minorVersion.other W16 (Or.inr (slot_ne (Or.inr (hw _ (List.mem_of_getElem? (i := 44) rfl))) (Or.inr (hw _ (List.mem_of_getElem? (i := 36) rfl))) (by decide) (t := .int) (t' := .long) (by decide) (by decide)))
  have F_a1_exchangeType := F_a1_exchangeType.other W16 (Or.inr (slot_ne (Or.inr (hw _ (List.mem_of_getElem? (i := 46) rfl))) (Or.inr (hw _ (List.mem_of_getElem? (i := 36) rfl))) (by decide) (t := .int) (t' := .long) (by decide) (by decide)))
  have F_a1_flags := F_a1_flags.other W16 (Or.inr (slot_ne (Or.inr (hw _ (List.mem_of_getElem? (i := 48) rfl))) (Or.inr (hw _ (List.mem_of_getElem? (i := 36) rfl))) (by decide) (t := .int) (t' := .long) (by decide) (by decide)))
  have F_a1_messageId := F_a1_messageId.other W16 (Or.inr (slot_ne (Or.inr (hw _ (List.mem_of_getElem? (i := 50) rfl))) (Or.inr (hw _ (List.mem_of_getElem? (i := 36) rfl))) (by decide) (t := .long) (t' := .long) (by decide) (by decide)))
  have F_a1_length := F_a1_length.other W16 (Or.inr (slot_ne (Or.inr (hw _ (List.mem_of_getElem? (i := 52) rfl))) (Or.inr (hw _ (List.mem_of_getElem? (i := 36) rfl))) (by decide) (t := .long) (t' := .long) (by decide) (by decide)))
  have E_a1 := E_a1.wr W16
  have Z0 : n0 ≤ h16.size := by rw [W16.size]; exact Z0
  have hk := Nat.le_trans hk (Nat.le_of_eq W16.size.symm)
  have K0 := K0.wr W16 (Or.inl (List.mem_of_getElem? (i := 0) rfl))
  have N16 := Fr.snoc X16 N15 g_a1
  obtain ⟨T17, h17, X17, e17, W17, st17⟩ := putF X16 hx hZ hown (host := "") (Or.inl (hw _ (List.mem_of_getElem? (i := 37) rfl))) Via.refl e16 F_a1_responderSpi E_a1 (Or.inr ⟨(hw _ (List.mem_of_getElem? (i := 38) rfl)), rfl, hnm⟩) (hw _ (List.mem_of_getElem? (i := 2) rfl)) (ty := .long) (by decide) rfl rfl (g := (mkF m 86 #[.val (.ref a1), .val (.long q2), .second, .val (.long q3), .second, .val (.int p4), .val (.int p5), .val (.int p6), .val (.int p7), .val (.int p8), .val (.long q9), .second, .val (.long q10), .second] [(.long q3), (.ref a1)])) rfl rfl (hb hby d1_86)
  have F_a1_initiatorSpi := F_a1_initiatorSpi.other W17 (Or.inr (slot_ne (Or.inr (hw _ (List.mem_of_getElem? (i := 36) rfl))) (Or.inr (hw _ (List.mem_of_getElem? (i := 38) rfl))) (by decide) (t := .long) (t' := .long) (by decide) (by decide)))
  have F_a1_responderSpi := F_a1_responderSpi.same W17
  have F_a1_nextPayload := F_a1_nextPayload.other W17 (Or.inr (slot_ne (Or.inr (hw _ (List.mem_of_getElem? (i := 40) rfl))) (Or.inr (hw _ (List.mem_of_getElem? (i := 38) rfl))) (by decide) (t := .int) (t' := .long) (by decide) (by decide)))
  have F_a1_majorVersion := F_a1_majorVersion.other W17 (Or.inr (slot_ne (Or.inr (hw _ (List.mem_of_getElem? (i := 42) rfl))) (Or.inr (hw _ (List.mem_of_getElem? (i := 38) rfl))) (by decide) (t := .int) (t' := .long) (by decide) (by decide)))
  have F_a1_minorVersion := F_a1_minorVersion.other W17 (Or.inr (slot_ne (Or.inr (hw _ (List.mem_of_getElem? (i := 44) rfl))) (Or.inr (hw _ (List.mem_of_getElem? (i := 38) rfl))) (by decide) (t := .int) (t' := .long) (by decide) (by decide)))
  have F_a1_exchangeType := F_a1_exchangeType.other W17 (Or.inr (slot_ne (Or.inr (hw _ (List.mem_of_getElem? (i := 46) rfl))) (Or.inr (hw _ (List.mem_of_getElem? (i := 38) rfl))) (by decide) (t := .int) (t' := .long) (by decide) (by decide)))
  have F_a1_flags := F_a1_flags.other W17 (Or.inr (slot_ne (Or.inr (hw _ (List.mem_of_getElem? (i := 48) rfl))) (Or.inr (hw _ (List.mem_of_getElem? (i := 38) rfl))) (by decide) (t := .int) (t' := .long) (by decide) (by decide)))
  have F_a1_messageId := F_a1_messageId.other W17 (Or.inr (slot_ne (Or.inr (hw _ (List.mem_of_getElem? (i := 50) rfl))) (Or.inr (hw _ (List.mem_of_getElem? (i := 38) rfl))) (by decide) (t := .long) (t' := .long) (by decide) (by decide)))
  have F_a1_length := F_a1_length.other W17 (Or.inr (slot_ne (Or.inr (hw _ (List.mem_of_getElem? (i := 52) rfl))) (Or.inr (hw _ (List.mem_of_getElem? (i := 38) rfl))) (by decide) (t := .long) (t' := .long) (by decide) (by decide)))
  have E_a1 := E_a1.wr W17
  have Z0 : n0 ≤ h17.size := by rw [W17.size]; exact Z0
  have hk := Nat.le_trans hk (Nat.le_of_eq W17.size.symm)
  have K0 := K0.wr W17 (Or.inl (List.mem_of_getElem? (i := 0) rfl))
  have N17 := Fr.snoc X17 N16 g_a1
  obtain ⟨T18, h18, X18, e18, W18, st18⟩ := putF X17 hx hZ hown (host := "") (Or.inl (hw _ (List.mem_of_getElem? (i := 39) rfl))) Via.refl e17 F_a1_nextPayload E_a1 (Or.inr ⟨(hw _ (List.mem_of_getElem? (i := 40) rfl)), rfl, hnm⟩) (hw _ (List.mem_of_getElem? (i := 2) rfl)) (ty := .int) (by decide) rfl rfl (g := (mkF m 92 #[.val (.ref a1), .val (.long q2), .second, .val (.long q3), .second, .val (.int p4), .val (.int p5), .val (.int p6), .val (.int p7), .val (.int p8), .val (.long q9), .second, .val (.long q10), .second] [(.int p4), (.ref a1)])) rfl rfl (hb hby d1_92)
  have F_a1_initiatorSpi := F_a1_initiatorSpi.other W18 (Or.inr (slot_ne (Or.inr (hw _ (List.mem_of_getElem? (i := 36) rfl))) (Or.inr (hw _ (List.mem_of_getElem? (i := 40) rfl))) (by decide) (t := .long) (t' := .int) (by decide) (by decide)))
  have F_a1_responderSpi := F_a1_responderSpi.other W18 (Or.inr (slot_ne (Or.inr (hw _ (List.mem_of_getElem? (i := 38) rfl))) (Or.inr (hw _ (List.mem_of_getElem? (i := 40) rfl))) (by decide) (t := .long) (t' := .int) (by decide) (by decide)))
  have F_a1_nextPayload := F_a1_nextPayload.same W18
  have F_a1_majorVersion := F_a1_majorVersion.other W18 (Or.inr (slot_ne (Or.inr (hw _ (List.mem_of_getElem? (i := 42) rfl))) (Or.inr (hw _ (List.mem_of_getElem? (i := 40) rfl))) (by decide) (t := .int) (t' := .int) (by decide) (by decide)))
  have F_a1_minorVersion := F_a1_minorVersion.other W18 (Or.inr (slot_ne (Or.inr (hw _ (List.mem_of_getElem? (i := 44) rfl))) (Or.inr (hw _ (List.mem_of_getElem? (i := 40) rfl))) (by decide) (t := .int) (t' := .int) (by decide) (by decide)))
  have F_a1_exchangeType := F_a1_exchangeType.other W18 (Or.inr (slot_ne (Or.inr (hw _ (List.mem_of_getElem? (i := 46) rfl))) (Or.inr (hw _ (List.mem_of_getElem? (i := 40) rfl))) (by decide) (t := .int) (t' := .int) (by decide) (by decide)))
  have F_a1_flags := F_a1_flags.other W18 (Or.inr (slot_ne (Or.inr (hw _ (List.mem_of_getElem? (i := 48) rfl))) (Or.inr (hw _ (List.mem_of_getElem? (i := 40) rfl))) (by decide) (t := .int) (t' := .int) (by decide) (by decide)))
  have F_a1_messageId := F_a1_messageId.other W18 (Or.inr (slot_ne (Or.inr (hw _ (List.mem_of_getElem? (i := 50) rfl))) (Or.inr (hw _ (List.mem_of_getElem? (i := 40) rfl))) (by decide) (t := .long) (t' := .int) (by decide) (by decide)))
  have F_a1_length := F_a1_length.other W18 (Or.inr (slot_ne (Or.inr (hw _ (List.mem_of_getElem? (i := 52) rfl))) (Or.inr (hw _ (List.mem_of_getElem? (i := 40) rfl))) (by decide) (t := .long) (t' := .int) (by decide) (by decide)))
  have E_a1 := E_a1.wr W18
  have Z0 : n0 ≤ h18.size := by rw [W18.size]; exact Z0
  have hk := Nat.le_trans hk (Nat.le_of_eq W18.size.symm)
  have K0 := K0.wr W18 (Or.inl (List.mem_of_getElem? (i := 0) rfl))
  have N18 := Fr.snoc X18 N17 g_a1
  obtain ⟨T19, h19, X19, e19, W19, st19⟩ := putF X18 hx hZ hown (host := "") (Or.inl (hw _ (List.mem_of_getElem? (i := 41) rfl))) Via.refl e18 F_a1_majorVersion E_a1 (Or.inr ⟨(hw _ (List.mem_of_getElem? (i := 42) rfl)), rfl, hnm⟩) (hw _ (List.mem_of_getElem? (i := 2) rfl)) (ty := .int) (by decide) rfl rfl (g := (mkF m 98 #[.val (.ref a1), .val (.long q2), .second, .val (.long q3), .second, .val (.int p4), .val (.int p5), .val (.int p6), .val (.int p7), .val (.int p8), .val (.long q9), .second, .val (.long q10), .second] [(.int p5), (.ref a1)])) rfl rfl (hb hby d1_98)
  have F_a1_initiatorSpi := F_a1_initiatorSpi.other W19 (Or.inr (slot_ne (Or.inr (hw _ (List.mem_of_getElem? (i := 36) rfl))) (Or.inr (hw _ (List.mem_of_getElem? (i := 42) rfl))) (by decide) (t := .long) (t' := .int) (by decide) (by decide)))
  have F_a1_responderSpi := F_a1_responderSpi.other W19 (Or.inr (slot_ne (Or.inr (hw _ (List.mem_of_getElem? (i := 38) rfl))) (Or.inr (hw _ (List.mem_of_getElem? (i := 42) rfl))) (by decide) (t := .long) (t' := .int) (by decide) (by decide)))
  have F_a1_nextPayload := F_a1_nextPayload.other W19 (Or.inr (slot_ne (Or.inr (hw _ (List.mem_of_getElem? (i := 40) rfl))) (Or.inr (hw _ (List.mem_of_getElem? (i := 42) rfl))) (by decide) (t := .int) (t' := .int) (by decide) (by decide)))
  have F_a1_majorVersion := F_a1_majorVersion.same W19
  have F_a1_minorVersion := F_a1_minorVersion.other W19 (Or.inr (slot_ne (Or.inr (hw _ (List.mem_of_getElem? (i := 44) rfl))) (Or.inr (hw _ (List.mem_of_getElem? (i := 42) rfl))) (by decide) (t := .int) (t' := .int) (by decide) (by decide)))
  have F_a1_exchangeType := F_a1_exchangeType.other W19 (Or.inr (slot_ne (Or.inr (hw _ (List.mem_of_getElem? (i := 46) rfl))) (Or.inr (hw _ (List.mem_of_getElem? (i := 42) rfl))) (by decide) (t := .int) (t' := .int) (by decide) (by decide)))
  have F_a1_flags := F_a1_flags.other W19 (Or.inr (slot_ne (Or.inr (hw _ (List.mem_of_getElem? (i := 48) rfl))) (Or.inr (hw _ (List.mem_of_getElem? (i := 42) rfl))) (by decide) (t := .int) (t' := .int) (by decide) (by decide)))
  have F_a1_messageId := F_a1_messageId.other W19 (Or.inr (slot_ne (Or.inr (hw _ (List.mem_of_getElem? (i := 50) rfl))) (Or.inr (hw _ (List.mem_of_getElem? (i := 42) rfl))) (by decide) (t := .long) (t' := .int) (by decide) (by decide)))
  have F_a1_length := F_a1_length.other W19 (Or.inr (slot_ne (Or.inr (hw _ (List.mem_of_getElem? (i := 52) rfl))) (Or.inr (hw _ (List.mem_of_getElem? (i := 42) rfl))) (by decide) (t := .long) (t' := .int) (by decide) (by decide)))
  have E_a1 := E_a1.wr W19
  have Z0 : n0 ≤ h19.size := by rw [W19.size]; exact Z0
  have hk := Nat.le_trans hk (Nat.le_of_eq W19.size.symm)
  have K0 := K0.wr W19 (Or.inl (List.mem_of_getElem? (i := 0) rfl))
  have N19 := Fr.snoc X19 N18 g_a1
  obtain ⟨T20, h20, X20, e20, W20, st20⟩ := putF X19 hx hZ hown (host := "") (Or.inl (hw _ (List.mem_of_getElem? (i := 43) rfl))) Via.refl e19 F_a1_minorVersion E_a1 (Or.inr ⟨(hw _ (List.mem_of_getElem? (i := 44) rfl)), rfl, hnm⟩) (hw _ (List.mem_of_getElem? (i := 2) rfl)) (ty := .int) (by decide) rfl rfl (g := (mkF m 104 #[.val (.ref a1), .val (.long q2), .second, .val (.long q3), .second, .val (.int p4), .val (.int p5), .val (.int p6), .val (.int p7), .val (.int p8), .val (.long q9), .second, .val (.long q10), .second] [(.int p6), (.ref a1)])) rfl rfl (hb hby d1_104)
  have F_a1_initiatorSpi := F_a1_initiatorSpi.other W20 (Or.inr (slot_ne (Or.inr (hw _ (List.mem_of_getElem? (i := 36) rfl))) (Or.inr (hw _ (List.mem_of_getElem? (i := 44) rfl))) (by decide) (t := .long) (t' := .int) (by decide) (by decide)))
  have F_a1_responderSpi := F_a1_responderSpi.other W20 (Or.inr (slot_ne (Or.inr (hw _ (List.mem_of_getElem? (i := 38) rfl))) (Or.inr (hw _ (List.mem_of_getElem? (i := 44) rfl))) (by decide) (t := .long) (t' := .int) (by decide) (by decide)))
  have F_a1_nextPayload := F_a1_nextPayload.other W20 (Or.inr (slot_ne (Or.inr (hw _ (List.mem_of_getElem? (i := 40) rfl))) (Or.inr (hw _ (List.mem_of_getElem? (i := 44) rfl))) (by decide) (t := .int) (t' := .int) (by decide) (by decide)))
  have F_a1_majorVersion := F_a1_majorVersion.other W20 (Or.inr (slot_ne (Or.inr (hw _ (List.mem_of_getElem? (i := 42) rfl))) (Or.inr (hw _ (List.mem_of_getElem? (i := 44) rfl))) (by decide) (t := .int) (t' := .int) (by decide) (by decide)))
  have F_a1_minorVersion := F_a1_minorVersion.same W20
  have F_a1_exchangeType := F_a1_exchangeType.other W20 (Or.inr (slot_ne (Or.inr (hw _ (List.mem_of_getElem? (i := 46) rfl))) (Or.inr (hw _ (List.mem_of_getElem? (i := 44) rfl))) (by decide) (t := .int) (t' := .int) (by decide) (by decide)))
  have F_a1_flags := F_a1_flags.other W20 (Or.inr (slot_ne (Or.inr (hw _ (List.mem_of_getElem? (i := 48) rfl))) (Or.inr (hw _ (List.mem_of_getElem? (i := 44) rfl))) (by decide) (t := .int) (t' := .int) (by decide) (by decide)))
  have F_a1_messageId := F_a1_messageId.other W20 (Or.inr (slot_ne (Or.inr (hw _ (List.mem_of_getElem? (i := 50) rfl))) (Or.inr (hw _ (List.mem_of_getElem? (i := 44) rfl))) (by decide) (t := .long) (t' := .int) (by decide) (by decide)))
  have F_a1_length := F_a1_length.other W20 (Or.inr (slot_ne (Or.inr (hw _ (List.mem_of_getElem? (i := 52) rfl))) (Or.inr (hw _ (List.mem_of_getElem? (i := 44) rfl))) (by decide) (t := .long) (t' := .int) (by decide) (by decide)))
  have E_a1 := E_a1.wr W20
  have Z0 : n0 ≤ h20.size := by rw [W20.size]; exact Z0
  have hk := Nat.le_trans hk (Nat.le_of_eq W20.size.symm)
  have K0 := K0.wr W20 (Or.inl (List.mem_of_getElem? (i := 0) rfl))
  have N20 := Fr.snoc X20 N19 g_a1
  obtain ⟨T21, h21, X21, e21, W21, st21⟩ := putF X20 hx hZ hown (host := "") (Or.inl (hw _ (List.mem_of_getElem? (i := 45) rfl))) Via.refl e20 F_a1_exchangeType E_a1 (Or.inr ⟨(hw _ (List.mem_of_getElem? (i := 46) rfl)), rfl, hnm⟩) (hw _ (List.mem_of_getElem? (i := 2) rfl)) (ty := .int) (by decide) rfl rfl (g := (mkF m 110 #[.val (.ref a1), .val (.long q2), .second, .val (.long q3), .second, .val (.int p4), .val (.int p5), .val (.int p6), .val (.int p7), .val (.int p8), .val (.long q9), .second, .val (.long q10), .second] [(.int p7), (.ref a1)])) rfl rfl (hb hby d1_110)
  have F_a1_initiatorSpi := F_a1_initiatorSpi.other W21 (Or.inr (slot_ne (Or.inr (hw _ (List.mem_of_getElem? (i := 36) rfl))) (Or.inr (hw _ (List.mem_of_getElem? (i := 46) rfl))) (by decide) (t := .long) (t' := .int) (by decide) (by decide)))
  have F_a1_responderSpi := F_a1_responderSpi.other W21 (Or.inr (slot_ne (Or.inr (hw _ (List.mem_of_getElem? (i := 38) rfl))) (Or.inr (hw _ (List.mem_of_getElem? (i := 46) rfl))) (by decide) (t := .long) (t' := .int) (by decide) (by decide)))
  have F_a1_nextPayload := F_a1_nextPayload.other W21 (Or.inr (slot_ne (Or.inr (hw _ (List.mem_of_getElem? (i := 40) rfl))) (Or.inr (hw _ (List.mem_of_getElem? (i := 46) rfl))) (by decide) (t := .int) (t' := .int) (by decide) (by decide)))
  have F_a1_majorVersion := F_a1_majorVersion.other W21 (Or.inr (slot_ne (Or.inr (hw _ (List.mem_of_getElem? (i := 42) rfl))) (Or.inr (hw _ (List.mem_of_getElem? (i := 46) rfl))) (by decide) (t := .int) (t' := .int) (by decide) (by decide)))
  have F_a1_minorVersion := F_a1_minorVersion.other W21 (Or.inr (slot_ne (Or.inr (hw _ (List.mem_of_getElem? (i := 44) rfl))) (Or.inr (hw _ (List.mem_of_getElem? (i := 46) rfl))) (by decide) (t := .int) (t' := .int) (by decide) (by decide)))
  have F_a1_exchangeType := F_a1_exchangeType.same W21
  have F_a1_flags := F_a1_flags.other W21 (Or.inr (slot_ne (Or.inr (hw _ (List.mem_of_getElem? (i := 48) rfl))) (Or.inr (hw _ (List.mem_of_getElem? (i := 46) rfl))) (by decide) (t := .int) (t' := .int) (by decide) (by decide)))
  have F_a1_messageId := F_a1_messageId.other W21 (Or.inr (slot_ne (Or.inr (hw _ (List.mem_of_getElem? (i := 50) rfl))) (Or.inr (hw _ (List.mem_of_getElem? (i := 46) rfl))) (by decide) (t := .long) (t' := .int) (by decide) (by decide)))
  have F_a1_length := F_a1_length.other W21 (Or.inr (slot_ne (Or.inr (hw _ (List.mem_of_getElem? (i := 52) rfl))) (Or.inr (hw _ (List.mem_of_getElem? (i := 46) rfl))) (by decide) (t := .long) (t' := .int) (by decide) (by decide)))
  have E_a1 := E_a1.wr W21
  have Z0 : n0 ≤ h21.size := by rw [W21.size]; exact Z0
  have hk := Nat.le_trans hk (Nat.le_of_eq W21.size.symm)
  have K0 := K0.wr W21 (Or.inl (List.mem_of_getElem? (i := 0) rfl))
  have N21 := Fr.snoc X21 N20 g_a1
  obtain ⟨T22, h22, X22, e22, W22, st22⟩ := putF X21 hx hZ hown (host := "") (Or.inl (hw _ (List.mem_of_getElem? (i := 47) rfl))) Via.refl e21 F_a1_flags E_a1 (Or.inr ⟨(hw _ (List.mem_of_getElem? (i := 48) rfl)), rfl, hnm⟩) (hw _ (List.mem_of_getElem? (i := 2) rfl)) (ty := .int) (by decide) rfl rfl (g := (mkF m 116 #[.val (.ref a1), .val (.long q2), .second, .val (.long q3), .second, .val (.int p4), .val (.int p5), .val (.int p6), .val (.int p7), .val (.int p8), .val (.long q9), .second, .val (.long q10), .second] [(.int p8), (.ref a1)])) rfl rfl (hb hby d1_116)
  have F_a1_initiatorSpi := F_a1_initiatorSpi.other W22 (Or.inr (slot_ne (Or.inr (hw _ (List.mem_of_getElem? (i := 36) rfl))) (Or.inr (hw _ (List.mem_of_getElem? (i := 48) rfl))) (by decide) (t := .long) (t' := .int) (by decide) (by decide)))
  have F_a1_responderSpi := F_a1_responderSpi.other W22 (Or.inr (slot_ne (Or.inr (hw _ (List.mem_of_getElem? (i := 38) rfl))) (Or.inr (hw _ (List.mem_of_getElem? (i := 48) rfl))) (by decide) (t := .long) (t' := .int) (by decide) (by decide)))
  have F_a1_nextPayload := F_a1_nextPayload.other W22 (Or.inr (slot_ne (Or.inr (hw _ (List.mem_of_getElem? (i := 40) rfl))) (Or.inr (hw _ (List.mem_of_getElem? (i := 48) rfl))) (by decide) (t := .int) (t' := .int) (by decide) (by decide)))
  have F_a1_majorVersion := F_a1_majorVersion.other W22 (Or.inr (slot_ne (Or.inr (hw _ (List.mem_of_getElem? (i := 42) rfl))) (Or.inr (hw _ (List.mem_of_getElem? (i := 48) rfl))) (by decide) (t := .int) (t' := .int) (by decide) (by decide)))
  have F_a1_minorVersion := F_a1_minorVersion.other W22 (Or.inr (slot_ne (Or.inr (hw _ (List.mem_of_getElem? (i := 44) rfl))) (Or.inr (hw _ (List.mem_of_getElem? (i := 48) rfl))) (by decide) (t := .int) (t' := .int) (by decide) (by decide)))
  have F_a1_exchangeType := F_a1_exchangeType.other W22 (Or.inr (slot_ne (Or.inr (hw _ (List.mem_of_getElem? (i := 46) rfl))) (Or.inr (hw _ (List.mem_of_getElem? (i := 48) rfl))) (by decide) (t := .int) (t' := .int) (by decide) (by decide)))
  have F_a1_flags := F_a1_flags.same W22
  have F_a1_messageId := F_a1_messageId.other W22 (Or.inr (slot_ne (Or.inr (hw _ (List.mem_of_getElem? (i := 50) rfl))) (Or.inr (hw _ (List.mem_of_getElem? (i := 48) rfl))) (by decide) (t := .long) (t' := .int) (by decide) (by decide)))
  have F_a1_length := F_a1_length.other W22 (Or.inr (slot_ne (Or.inr (hw _ (List.mem_of_getElem? (i := 52) rfl))) (Or.inr (hw _ (List.mem_of_getElem? (i := 48) rfl))) (by decide) (t := .long) (t' := .int) (by decide) (by decide)))
  have E_a1 := E_a1.wr W22
  have Z0 : n0 ≤ h22.size := by rw [W22.size]; exact Z0
  have hk := Nat.le_trans hk (Nat.le_of_eq W22.size.symm)
  have K0 := K0.wr W22 (Or.inl (List.mem_of_getElem? (i := 0) rfl))
  have N22 := Fr.snoc X22 N21 g_a1
  obtain ⟨T23, h23, X23, e23, W23, st23⟩ := putF X22 hx hZ hown (host := "") (Or.inl (hw _ (List.mem_of_getElem? (i := 49) rfl))) Via.refl e22 F_a1_messageId E_a1 (Or.inr ⟨(hw _ (List.mem_of_getElem? (i := 50) rfl)), rfl, hnm⟩) (hw _ (List.mem_of_getElem? (i := 2) rfl)) (ty := .long) (by decide) rfl rfl (g := (mkF m 122 #[.val (.ref a1), .val (.long q2), .second, .val (.long q3), .second, .val (.int p4), .val (.int p5), .val (.int p6), .val (.int p7), .val (.int p8), .val (.long q9), .second, .val (.long q10), .second] [(.long q9), (.ref a1)])) rfl rfl (hb hby d1_122)
  have F_a1_initiatorSpi := F_a1_initiatorSpi.other W23 (Or.inr (slot_ne (Or.inr (hw _ (List.mem_of_getElem? (i := 36) rfl))) (Or.inr (hw _ (List.mem_of_getElem? (i := 50) rfl))) (by decide) (t := .long) (t' := .long) (by decide) (by decide)))
  have F_a1_responderSpi := F_a1_responderSpi.other W23 (Or.inr (slot_ne (Or.inr (hw _ (List.mem_of_getElem? (i := 38) rfl))) (Or.inr (hw _ (List.mem_of_getElem? (i := 50) rfl))) (by decide) (t := .long) (t' := .long) (by decide) (by decide)))
  have F_a1_nextPayload := F_a1_nextPayload.other W23 (Or.inr (slot_ne (Or.inr (hw _ (List.mem_of_getElem? (i := 40) rfl))) (Or.inr (hw _ (List.mem_of_getElem? (i := 50) rfl))) (by decide) (t := .int) (t' := .long) (by decide) (by decide)))
  have F_a1_majorVersion := F_a1_majorVersion.other W23 (Or.inr (slot_ne (Or.inr (hw _ (List.mem_of_getElem? (i := 42) rfl))) (Or.inr (hw _ (List.mem_of_getElem? (i := 50) rfl))) (by decide) (t := .int) (t' := .long) (by decide) (by decide)))
  have F_a1_minorVersion := F_a1_minorVersion.other W23 (Or.inr (slot_ne (Or.inr (hw _ (List.mem_of_getElem? (i := 44) rfl))) (Or.inr (hw _ (List.mem_of_getElem? (i := 50) rfl))) (by decide) (t := .int) (t' := .long) (by decide) (by decide)))
  have F_a1_exchangeType := F_a1_exchangeType.other W23 (Or.inr (slot_ne (Or.inr (hw _ (List.mem_of_getElem? (i := 46) rfl))) (Or.inr (hw _ (List.mem_of_getElem? (i := 50) rfl))) (by decide) (t := .int) (t' := .long) (by decide) (by decide)))
  have F_a1_flags := F_a1_flags.other W23 (Or.inr (slot_ne (Or.inr (hw _ (List.mem_of_getElem? (i := 48) rfl))) (Or.inr (hw _ (List.mem_of_getElem? (i := 50) rfl))) (by decide) (t := .int) (t' := .long) (by decide) (by decide)))
  have F_a1_messageId := F_a1_messageId.same W23
  have F_a1_length := F_a1_length.other W23 (Or.inr (slot_ne (Or.inr (hw _ (List.mem_of_getElem? (i := 52) rfl))) (Or.inr (hw _ (List.mem_of_getElem? (i := 50) rfl))) (by decide) (t := .long) (t' := .long) (by decide) (by decide)))
  have E_a1 := E_a1.wr W23
  have Z0 : n0 ≤ h23.size := by rw [W23.size]; exact Z0
  have hk := Nat.le_trans hk (Nat.le_of_eq W23.size.symm)
  have K0 := K0.wr W23 (Or.inl (List.mem_of_getElem? (i := 0) rfl))
  have N23 := Fr.snoc X23 N22 g_a1
  obtain ⟨T24, h24, X24, e24, W24, st24⟩ := putF X23 hx hZ hown (host := "") (Or.inl (hw _ (List.mem_of_getElem? (i := 51) rfl))) Via.refl e23 F_a1_length E_a1 (Or.inr ⟨(hw _ (List.mem_of_getElem? (i := 52) rfl)), rfl, hnm⟩) (hw _ (List.mem_of_getElem? (i := 2) rfl)) (ty := .long) (by decide) rfl rfl (g := (mkF m 128 #[.val (.ref a1), .val (.long q2), .second, .val (.long q3), .second, .val (.int p4), .val (.int p5), .val (.int p6), .val (.int p7), .val (.int p8), .val (.long q9), .second, .val (.long q10), .second] [(.long q10), (.ref a1)])) rfl rfl (hb hby d1_128)
  have F_a1_initiatorSpi := F_a1_initiatorSpi.other W24 (Or.inr (slot_ne (Or.inr (hw _ (List.mem_of_getElem? (i := 36) rfl))) (Or.inr (hw _ (List.mem_of_getElem? (i := 52) rfl))) (by decide) (t := .long) (t' := .long) (by decide) (by decide)))
  have F_a1_responderSpi := F_a1_responderSpi.other W24 (Or.inr (slot_ne (Or.inr (hw _ (List.mem_of_getElem? (i := 38) rfl))) (Or.inr (hw _ (List.mem_of_getElem? (i := 52) rfl))) (by decide) (t := .long) (t' := .long) (by decide) (by decide)))
  have F_a1_nextPayload := F_a1_nextPayload.other W24 (Or.inr (slot_ne (Or.inr (hw _ (List.mem_of_getElem? (i := 40) rfl))) (Or.inr (hw _ (List.mem_of_getElem? (i := 52) rfl))) (by decide) (t := .int) (t' := .long) (by decide) (by decide)))
  have F_a1_majorVersion := F_a1_majorVersion.other W24 (Or.inr (slot_ne (Or.inr (hw _ (List.mem_of_getElem? (i := 42) rfl))) (Or.inr (hw _ (List.mem_of_getElem? (i := 52) rfl))) (by decide) (t := .int) (t' := .long) (by decide) (by decide)))
  have F_a1_minorVersion := F_a1_minorVersion.other W24 (Or.inr (slot_ne (Or.inr (hw _ (List.mem_of_getElem? (i := 44) rfl))) (Or.inr (hw _ (List.mem_of_getElem? (i := 52) rfl))) (by decide) (t := .int) (t' := .long) (by decide) (by decide)))
  have F_a1_exchangeType := F_a1_exchangeType.other W24 (Or.inr (slot_ne (Or.inr (hw _ (List.mem_of_getElem? (i := 46) rfl))) (Or.inr (hw _ (List.mem_of_getElem? (i := 52) rfl))) (by decide) (t := .int) (t' := .long) (by decide) (by decide)))
  have F_a1_flags := F_a1_flags.other W24 (Or.inr (slot_ne (Or.inr (hw _ (List.mem_of_getElem? (i := 48) rfl))) (Or.inr (hw _ (List.mem_of_getElem? (i := 52) rfl))) (by decide) (t := .int) (t' := .long) (by decide) (by decide)))
  have F_a1_messageId := F_a1_messageId.other W24 (Or.inr (slot_ne (Or.inr (hw _ (List.mem_of_getElem? (i := 50) rfl))) (Or.inr (hw _ (List.mem_of_getElem? (i := 52) rfl))) (by decide) (t := .long) (t' := .long) (by decide) (by decide)))
  have F_a1_length := F_a1_length.same W24
  have E_a1 := E_a1.wr W24
  have Z0 : n0 ≤ h24.size := by rw [W24.size]; exact Z0
  have hk := Nat.le_trans hk (Nat.le_of_eq W24.size.symm)
  have K0 := K0.wr W24 (Or.inl (List.mem_of_getElem? (i := 0) rfl))
  have N24 := Fr.snoc X24 N23 g_a1
  obtain ⟨fs, hr, hrun, hended, hEW⟩ := X24.leaveW hS (by rw [e24]; exact hk) (v := none) (fun _ => rfl)
  refine ⟨_, _, ?_, hrun, hended, _, _, rfl, ?_, own_monoW hEW (by decide) (by decide)⟩
  · show Steps p.tables e below (s₁.setTop (mkF m 0 #[.val (.ref a1), .val (.long q2), .second, .val (.long q3), .second, .val (.int p4), .val (.int p5), .val (.int p6), .val (.int p7), .val (.int p8), .val (.long q9), .second, .val (.long q10), .second] [])) _
    refine XS.aloadN X0.here hx rfl (hb hby d1_0) rfl rfl ?_
    show Steps p.tables e below (s₁.setTop (mkF m 1 #[.val (.ref a1), .val (.long q2), .second, .val (.long q3), .second, .val (.int p4), .val (.int p5), .val (.int p6), .val (.int p7), .val (.int p8), .val (.long q9), .second, .val (.long q10), .second] [(.ref a1)])) _
    refine st1.trans ?_
    show Steps p.tables e below (T1.setTop (mkF m 4 #[.val (.ref a1), .val (.long q2), .second, .val (.long q3), .second, .val (.int p4), .val (.int p5), .val (.int p6), .val (.int p7), .val (.int p8), .val (.long q9), .second, .val (.long q10), .second] [])) _
    refine st2 _ ?_
    show Steps p.tables e below (T2.setTop (mkF m 6 #[.val (.ref a1), .val (.long q2), .second, .val (.long q3), .second, .val (.int p4), .val (.int p5), .val (.int p6), .val (.int p7), .val (.int p8), .val (.long q9), .second, .val (.long q10), .second] [(.ref o2)])) _
    refine XS.iload X2.here hx rfl (hb hby d1_6) rfl ?_
    show Steps p.tables e below (T2.setTop (mkF m 8 #[.val (.ref a1), .val (.long q2), .second, .val (.long q3), .second, .val (.int p4), .val (.int p5), .val (.int p6), .val (.int p7), .val (.int p8), .val (.long q9), .second, .val (.long q10), .second] [(.int p4), (.ref o2)])) _
    refine XS.i2l X2.here hx rfl (hb hby d1_8) rfl ?_
    show Steps p.tables e below (T2.setTop (mkF m 9 #[.val (.ref a1), .val (.long q2), .second, .val (.long q3), .second, .val (.int p4), .val (.int p5), .val (.int p6), .val (.int p7), .val (.int p8), .val (.long q9), .second, .val (.long q10), .second] [(.long (p4.toInt64)), (.ref o2)])) _
    refine X2.ldc2Long hx hown_4 (mvT hZ_4 (hw _ (List.mem_of_getElem? (i := 23) rfl))) (g := (mkF m 9 #[.val (.ref a1), .val (.long q2), .second, .val (.long q3), .second, .val (.int p4), .val (.int p5), .val (.int p6), .val (.int p7), .val (.int p8), .val (.long q9), .second, .val (.long q10), .second] [(.long (p4.toInt64)), (.ref o2)])) rfl (hb hby d1_9) _ ?_
    show Steps p.tables e below (T2.setTop (mkF m 12 #[.val (.ref a1), .val (.long q2), .second, .val (.long q3), .second, .val (.int p4), .val (.int p5), .val (.int p6), .val (.int p7), .val (.int p8), .val (.long q9), .second, .val (.long q10), .second] [(.long (255 : Int64)), (.long (p4.toInt64)), (.ref o2)])) _
    refine st3 _ ?_
    show Steps p.tables e below (T3.setTop (mkF m 15 #[.val (.ref a1), .val (.long q2), .second, .val (.long q3), .second, .val (.int p4), .val (.int p5), .val (.int p6), .val (.int p7), .val (.int p8), .val (.long q9), .second, .val (.long q10), .second] [])) _
    refine st4 _ ?_
    show Steps p.tables e below (T4.setTop (mkF m 17 #[.val (.ref a1), .val (.long q2), .second, .val (.long q3), .second, .val (.int p4), .val (.int p5), .val (.int p6), .val (.int p7), .val (.int p8), .val (.long q9), .second, .val (.long q10), .second] [(.ref o4)])) _
    refine XS.iload X4.here hx rfl (hb hby d1_17) rfl ?_
    show Steps p.tables e below (T4.setTop (mkF m 19 #[.val (.ref a1), .val (.long q2), .second, .val (.long q3), .second, .val (.int p4), .val (.int p5), .val (.int p6), .val (.int p7), .val (.int p8), .val (.long q9), .second, .val (.long q10), .second] [(.int p5), (.ref o4)])) _
    refine XS.i2l X4.here hx rfl (hb hby d1_19) rfl ?_
    show Steps p.tables e below (T4.setTop (mkF m 20 #[.val (.ref a1), .val (.long q2), .second, .val (.long q3), .second, .val (.int p4), .val (.int p5), .val (.int p6), .val (.int p7), .val (.int p8), .val (.long q9), .second, .val (.long q10), .second] [(.long (p5.toInt64)), (.ref o4)])) _
    refine X4.ldc2Long hx hown_6 (mvT hZ_6 (hw _ (List.mem_of_getElem? (i := 28) rfl))) (g := (mkF m 20 #[.val (.ref a1), .val (.long q2), .second, .val (.long q3), .second, .val (.int p4), .val (.int p5), .val (.int p6), .val (.int p7), .val (.int p8), .val (.long q9), .second, .val (.long q10), .second] [(.long (p5.toInt64)), (.ref o4)])) rfl (hb hby d1_20) _ ?_
    show Steps p.tables e below (T4.setTop (mkF m 23 #[.val (.ref a1), .val (.long q2), .second, .val (.long q3), .second, .val (.int p4), .val (.int p5), .val (.int p6), .val (.int p7), .val (.int p8), .val (.long q9), .second, .val (.long q10), .second] [(.long (15 : Int64)), (.long (p5.toInt64)), (.ref o4)])) _
    refine st5 _ ?_
    show Steps p.tables e below (T5.setTop (mkF m 26 #[.val (.ref a1), .val (.long q2), .second, .val (.long q3), .second, .val (.int p4), .val (.int p5), .val (.int p6), .val (.int p7), .val (.int p8), .val (.long q9), .second, .val (.long q10), .second] [])) _
    refine st6 _ ?_
    show Steps p.tables e below (T6.setTop (mkF m 28 #[.val (.ref a1), .val (.long q2), .second, .val (.long q3), .second, .val (.int p4), .val (.int p5), .val (.int p6), .val (.int p7), .val (.int p8), .val (.long q9), .second, .val (.long q10), .second] [(.ref o6)])) _
    refine XS.iload X6.here hx rfl (hb hby d1_28) rfl ?_
    show Steps p.tables e below (T6.setTop (mkF m 30 #[.val (.ref a1), .val (.long q2), .second, .val (.long q3), .second, .val (.int p4), .val (.int p5), .val (.int p6), .val (.int p7), .val (.int p8), .val (.long q9), .second, .val (.long q10), .second] [(.int p6), (.ref o6)])) _
    refine XS.i2l X6.here hx rfl (hb hby d1_30) rfl ?_
    show Steps p.tables e below (T6.setTop (mkF m 31 #[.val (.ref a1), .val (.long q2), .second, .val (.long q3), .second, .val (.int p4), .val (.int p5), .val (.int p6), .val (.int p7), .val (.int p8), .val (.long q9), .second, .val (.long q10), .second] [(.long (p6.toInt64)), (.ref o6)])) _
    refine X6.ldc2Long hx hown_8 (mvT hZ_8 (hw _ (List.mem_of_getElem? (i := 28) rfl))) (g := (mkF m 31 #[.val (.ref a1), .val (.long q2), .second, .val (.long q3), .second, .val (.int p4), .val (.int p5), .val (.int p6), .val (.int p7), .val (.int p8), .val (.long q9), .second, .val (.long q10), .second] [(.long (p6.toInt64)), (.ref o6)])) rfl (hb hby d1_31) _ ?_
    show Steps p.tables e below (T6.setTop (mkF m 34 #[.val (.ref a1), .val (.long q2), .second, .val (.long q3), .second, .val (.int p4), .val (.int p5), .val (.int p6), .val (.int p7), .val (.int p8), .val (.long q9), .second, .val (.long q10), .second] [(.long (15 : Int64)), (.long (p6.toInt64)), (.ref o6)])) _
    refine st7 _ ?_
    show Steps p.tables e below (T7.setTop (mkF m 37 #[.val (.ref a1), .val (.long q2), .second, .val (.long q3), .second, .val (.int p4), .val (.int p5), .val (.int p6), .val (.int p7), .val (.int p8), .val (.long q9), .second, .val (.long q10), .second] [])) _
    refine st8 _ ?_
    show Steps p.tables e below (T8.setTop (mkF m 39 #[.val (.ref a1), .val (.long q2), .second, .val (.long q3), .second, .val (.int p4), .val (.int p5), .val (.int p6), .val (.int p7), .val (.int p8), .val (.long q9), .second, .val (.long q10), .second] [(.ref o8)])) _
    refine XS.iload X8.here hx rfl (hb hby d1_39) rfl ?_
    show Steps p.tables e below (T8.setTop (mkF m 41 #[.val (.ref a1), .val (.long q2), .second, .val (.long q3), .second, .val (.int p4), .val (.int p5), .val (.int p6), .val (.int p7), .val (.int p8), .val (.long q9), .second, .val (.long q10), .second] [(.int p7), (.ref o8)])) _
    refine XS.i2l X8.here hx rfl (hb hby d1_41) rfl ?_
    show Steps p.tables e below (T8.setTop (mkF m 42 #[.val (.ref a1), .val (.long q2), .second, .val (.long q3), .second, .val (.int p4), .val (.int p5), .val (.int p6), .val (.int p7), .val (.int p8), .val (.long q9), .second, .val (.long q10), .second] [(.long (p7.toInt64)), (.ref o8)])) _
    refine X8.ldc2Long hx hown_10 (mvT hZ_10 (hw _ (List.mem_of_getElem? (i := 23) rfl))) (g := (mkF m 42 #[.val (.ref a1), .val (.long q2), .second, .val (.long q3), .second, .val (.int p4), .val (.int p5), .val (.int p6), .val (.int p7), .val (.int p8), .val (.long q9), .second, .val (.long q10), .second] [(.long (p7.toInt64)), (.ref o8)])) rfl (hb hby d1_42) _ ?_
    show Steps p.tables e below (T8.setTop (mkF m 45 #[.val (.ref a1), .val (.long q2), .second, .val (.long q3), .second, .val (.int p4), .val (.int p5), .val (.int p6), .val (.int p7), .val (.int p8), .val (.long q9), .second, .val (.long q10), .second] [(.long (255 : Int64)), (.long (p7.toInt64)), (.ref o8)])) _
    refine st9 _ ?_
    show Steps p.tables e below (T9.setTop (mkF m 48 #[.val (.ref a1), .val (.long q2), .second, .val (.long q3), .second, .val (.int p4), .val (.int p5), .val (.int p6), .val (.int p7), .val (.int p8), .val (.long q9), .second, .val (.long q10), .second] [])) _
    refine st10 _ ?_
    show Steps p.tables e below (T10.setTop (mkF m 50 #[.val (.ref a1), .val (.long q2), .second, .val (.long q3), .second, .val (.int p4), .val (.int p5), .val (.int p6), .val (.int p7), .val (.int p8), .val (.long q9), .second, .val (.long q10), .second] [(.ref o10)])) _
    refine XS.iload X10.here hx rfl (hb hby d1_50) rfl ?_
    show Steps p.tables e below (T10.setTop (mkF m 52 #[.val (.ref a1), .val (.long q2), .second, .val (.long q3), .second, .val (.int p4), .val (.int p5), .val (.int p6), .val (.int p7), .val (.int p8), .val (.long q9), .second, .val (.long q10), .second] [(.int p8), (.ref o10)])) _
    refine XS.i2l X10.here hx rfl (hb hby d1_52) rfl ?_
    show Steps p.tables e below (T10.setTop (mkF m 53 #[.val (.ref a1), .val (.long q2), .second, .val (.long q3), .second, .val (.int p4), .val (.int p5), .val (.int p6), .val (.int p7), .val (.int p8), .val (.long q9), .second, .val (.long q10), .second] [(.long (p8.toInt64)), (.ref o10)])) _
    refine X10.ldc2Long hx hown_12 (mvT hZ_12 (hw _ (List.mem_of_getElem? (i := 23) rfl))) (g := (mkF m 53 #[.val (.ref a1), .val (.long q2), .second, .val (.long q3), .second, .val (.int p4), .val (.int p5), .val (.int p6), .val (.int p7), .val (.int p8), .val (.long q9), .second, .val (.long q10), .second] [(.long (p8.toInt64)), (.ref o10)])) rfl (hb hby d1_53) _ ?_
    show Steps p.tables e below (T10.setTop (mkF m 56 #[.val (.ref a1), .val (.long q2), .second, .val (.long q3), .second, .val (.int p4), .val (.int p5), .val (.int p6), .val (.int p7), .val (.int p8), .val (.long q9), .second, .val (.long q10), .second] [(.long (255 : Int64)), (.long (p8.toInt64)), (.ref o10)])) _
    refine st11 _ ?_
    show Steps p.tables e below (T11.setTop (mkF m 59 #[.val (.ref a1), .val (.long q2), .second, .val (.long q3), .second, .val (.int p4), .val (.int p5), .val (.int p6), .val (.int p7), .val (.int p8), .val (.long q9), .second, .val (.long q10), .second] [])) _
    refine st12 _ ?_
    show Steps p.tables e below (T12.setTop (mkF m 61 #[.val (.ref a1), .val (.long q2), .second, .val (.long q3), .second, .val (.int p4), .val (.int p5), .val (.int p6), .val (.int p7), .val (.int p8), .val (.long q9), .second, .val (.long q10), .second] [(.ref o12)])) _
    refine XS.lload X12.here hx rfl (hb hby d1_61) rfl ?_
    show Steps p.tables e below (T12.setTop (mkF m 63 #[.val (.ref a1), .val (.long q2), .second, .val (.long q3), .second, .val (.int p4), .val (.int p5), .val (.int p6), .val (.int p7), .val (.int p8), .val (.long q9), .second, .val (.long q10), .second] [(.long q9), (.ref o12)])) _
    refine X12.ldc2Long hx hown_14 (mvT hZ_14 (hw _ (List.mem_of_getElem? (i := 33) rfl))) (g := (mkF m 63 #[.val (.ref a1), .val (.long q2), .second, .val (.long q3), .second, .val (.int p4), .val (.int p5), .val (.int p6), .val (.int p7), .val (.int p8), .val (.long q9), .second, .val (.long q10), .second] [(.long q9), (.ref o12)])) rfl (hb hby d1_63) _ ?_
    show Steps p.tables e below (T12.setTop (mkF m 66 #[.val (.ref a1), .val (.long q2), .second, .val (.long q3), .second, .val (.int p4), .val (.int p5), .val (.int p6), .val (.int p7), .val (.int p8), .val (.long q9), .second, .val (.long q10), .second] [(.long (4294967295 : Int64)), (.long q9), (.ref o12)])) _
    refine st13 _ ?_
    show Steps p.tables e below (T13.setTop (mkF m 69 #[.val (.ref a1), .val (.long q2), .second, .val (.long q3), .second, .val (.int p4), .val (.int p5), .val (.int p6), .val (.int p7), .val (.int p8), .val (.long q9), .second, .val (.long q10), .second] [])) _
    refine st14 _ ?_
    show Steps p.tables e below (T14.setTop (mkF m 71 #[.val (.ref a1), .val (.long q2), .second, .val (.long q3), .second, .val (.int p4), .val (.int p5), .val (.int p6), .val (.int p7), .val (.int p8), .val (.long q9), .second, .val (.long q10), .second] [(.ref o14)])) _
    refine XS.lload X14.here hx rfl (hb hby d1_71) rfl ?_
    show Steps p.tables e below (T14.setTop (mkF m 73 #[.val (.ref a1), .val (.long q2), .second, .val (.long q3), .second, .val (.int p4), .val (.int p5), .val (.int p6), .val (.int p7), .val (.int p8), .val (.long q9), .second, .val (.long q10), .second] [(.long q10), (.ref o14)])) _
    refine X14.ldc2Long hx hown (mvT hZ (hw _ (List.mem_of_getElem? (i := 33) rfl))) (g := (mkF m 73 #[.val (.ref a1), .val (.long q2), .second, .val (.long q3), .second, .val (.int p4), .val (.int p5), .val (.int p6), .val (.int p7), .val (.int p8), .val (.long q9), .second, .val (.long q10), .second] [(.long q10), (.ref o14)])) rfl (hb hby d1_73) _ ?_
    show Steps p.tables e below (T14.setTop (mkF m 76 #[.val (.ref a1), .val (.long q2), .second, .val (.long q3), .second, .val (.int p4), .val (.int p5), .val (.int p6), .val (.int p7), .val (.int p8), .val (.long q9), .second, .val (.long q10), .second] [(.long (4294967295 : Int64)), (.long q10), (.ref o14)])) _
    refine st15 _ ?_
    show Steps p.tables e below (T15.setTop (mkF m 79 #[.val (.ref a1), .val (.long q2), .second, .val (.long q3), .second, .val (.int p4), .val (.int p5), .val (.int p6), .val (.int p7), .val (.int p8), .val (.long q9), .second, .val (.long q10), .second] [])) _
    refine XS.aloadN X15.here hx rfl (hb hby d1_79) rfl rfl ?_
    show Steps p.tables e below (T15.setTop (mkF m 80 #[.val (.ref a1), .val (.long q2), .second, .val (.long q3), .second, .val (.int p4), .val (.int p5), .val (.int p6), .val (.int p7), .val (.int p8), .val (.long q9), .second, .val (.long q10), .second] [(.ref a1)])) _
    refine XS.lloadN X15.here hx rfl (hb hby d1_80) rfl ?_
    show Steps p.tables e below (T15.setTop (mkF m 81 #[.val (.ref a1), .val (.long q2), .second, .val (.long q3), .second, .val (.int p4), .val (.int p5), .val (.int p6), .val (.int p7), .val (.int p8), .val (.long q9), .second, .val (.long q10), .second] [(.long q2), (.ref a1)])) _
    refine st16 _ ?_
    show Steps p.tables e below (T16.setTop (mkF m 84 #[.val (.ref a1), .val (.long q2), .second, .val (.long q3), .second, .val (.int p4), .val (.int p5), .val (.int p6), .val (.int p7), .val (.int p8), .val (.long q9), .second, .val (.long q10), .second] [])) _
    refine XS.aloadN X16.here hx rfl (hb hby d1_84) rfl rfl ?_
    show Steps p.tables e below (T16.setTop (mkF m 85 #[.val (.ref a1), .val (.long q2), .second, .val (.long q3), .second, .val (.int p4), .val (.int p5), .val (.int p6), .val (.int p7), .val (.int p8), .val (.long q9), .second, .val (.long q10), .second] [(.ref a1)])) _
    refine XS.lloadN X16.here hx rfl (hb hby d1_85) rfl ?_
    show Steps p.tables e below (T16.setTop (mkF m 86 #[.val (.ref a1), .val (.long q2), .second, .val (.long q3), .second, .val (.int p4), .val (.int p5), .val (.int p6), .val (.int p7), .val (.int p8), .val (.long q9), .second, .val (.long q10), .second] [(.long q3), (.ref a1)])) _
    refine st17 _ ?_
    show Steps p.tables e below (T17.setTop (mkF m 89 #[.val (.ref a1), .val (.long q2), .second, .val (.long q3), .second, .val (.int p4), .val (.int p5), .val (.int p6), .val (.int p7), .val (.int p8), .val (.long q9), .second, .val (.long q10), .second] [])) _
    refine XS.aloadN X17.here hx rfl (hb hby d1_89) rfl rfl ?_
    show Steps p.tables e below (T17.setTop (mkF m 90 #[.val (.ref a1), .val (.long q2), .second, .val (.long q3), .second, .val (.int p4), .val (.int p5), .val (.int p6), .val (.int p7), .val (.int p8), .val (.long q9), .second, .val (.long q10), .second] [(.ref a1)])) _
    refine XS.iload X17.here hx rfl (hb hby d1_90) rfl ?_
    show Steps p.tables e below (T17.setTop (mkF m 92 #[.val (.ref a1), .val (.long q2), .second, .val (.long q3), .second, .val (.int p4), .val (.int p5), .val (.int p6), .val (.int p7), .val (.int p8), .val (.long q9), .second, .val (.long q10), .second] [(.int p4), (.ref a1)])) _
    refine st18 _ ?_
    show Steps p.tables e below (T18.setTop (mkF m 95 #[.val (.ref a1), .val (.long q2), .second, .val (.long q3), .second, .val (.int p4), .val (.int p5), .val (.int p6), .val (.int p7), .val (.int p8), .val (.long q9), .second, .val (.long q10), .second] [])) _
    refine XS.aloadN X18.here hx rfl (hb hby d1_95) rfl rfl ?_
    show Steps p.tables e below (T18.setTop (mkF m 96 #[.val (.ref a1), .val (.long q2), .second, .val (.long q3), .second, .val (.int p4), .val (.int p5), .val (.int p6), .val (.int p7), .val (.int p8), .val (.long q9), .second, .val (.long q10), .second] [(.ref a1)])) _
    refine XS.iload X18.here hx rfl (hb hby d1_96) rfl ?_
    show Steps p.tables e below (T18.setTop (mkF m 98 #[.val (.ref a1), .val (.long q2), .second, .val (.long q3), .second, .val (.int p4), .val (.int p5), .val (.int p6), .val (.int p7), .val (.int p8), .val (.long q9), .second, .val (.long q10), .second] [(.int p5), (.ref a1)])) _
    refine st19 _ ?_
    show Steps p.tables e below (T19.setTop (mkF m 101 #[.val (.ref a1), .val (.long q2), .second, .val (.long q3), .second, .val (.int p4), .val (.int p5), .val (.int p6), .val (.int p7), .val (.int p8), .val (.long q9), .second, .val (.long q10), .second] [])) _
    refine XS.aloadN X19.here hx rfl (hb hby d1_101) rfl rfl ?_
    show Steps p.tables e below (T19.setTop (mkF m 102 #[.val (.ref a1), .val (.long q2), .second, .val (.long q3), .second, .val (.int p4), .val (.int p5), .val (.int p6), .val (.int p7), .val (.int p8), .val (.long q9), .second, .val (.long q10), .second] [(.ref a1)])) _
    refine XS.iload X19.here hx rfl (hb hby d1_102) rfl ?_
    show Steps p.tables e below (T19.setTop (mkF m 104 #[.val (.ref a1), .val (.long q2), .second, .val (.long q3), .second, .val (.int p4), .val (.int p5), .val (.int p6), .val (.int p7), .val (.int p8), .val (.long q9), .second, .val (.long q10), .second] [(.int p6), (.ref a1)])) _
    refine st20 _ ?_
    show Steps p.tables e below (T20.setTop (mkF m 107 #[.val (.ref a1), .val (.long q2), .second, .val (.long q3), .second, .val (.int p4), .val (.int p5), .val (.int p6), .val (.int p7), .val (.int p8), .val (.long q9), .second, .val (.long q10), .second] [])) _
    refine XS.aloadN X20.here hx rfl (hb hby d1_107) rfl rfl ?_
    show Steps p.tables e below (T20.setTop (mkF m 108 #[.val (.ref a1), .val (.long q2), .second, .val (.long q3), .second, .val (.int p4), .val (.int p5), .val (.int p6), .val (.int p7), .val (.int p8), .val (.long q9), .second, .val (.long q10), .second] [(.ref a1)])) _
    refine XS.iload X20.here hx rfl (hb hby d1_108) rfl ?_
    show Steps p.tables e below (T20.setTop (mkF m 110 #[.val (.ref a1), .val (.long q2), .second, .val (.long q3), .second, .val (.int p4), .val (.int p5), .val (.int p6), .val (.int p7), .val (.int p8), .val (.long q9), .second, .val (.long q10), .second] [(.int p7), (.ref a1)])) _
    refine st21 _ ?_
    show Steps p.tables e below (T21.setTop (mkF m 113 #[.val (.ref a1), .val (.long q2), .second, .val (.long q3), .second, .val (.int p4), .val (.int p5), .val (.int p6), .val (.int p7), .val (.int p8), .val (.long q9), .second, .val (.long q10), .second] [])) _
    refine XS.aloadN X21.here hx rfl (hb hby d1_113) rfl rfl ?_
    show Steps p.tables e below (T21.setTop (mkF m 114 #[.val (.ref a1), .val (.long q2), .second, .val (.long q3), .second, .val (.int p4), .val (.int p5), .val (.int p6), .val (.int p7), .val (.int p8), .val (.long q9), .second, .val (.long q10), .second] [(.ref a1)])) _
    refine XS.iload X21.here hx rfl (hb hby d1_114) rfl ?_
    show Steps p.tables e below (T21.setTop (mkF m 116 #[.val (.ref a1), .val (.long q2), .second, .val (.long q3), .second, .val (.int p4), .val (.int p5), .val (.int p6), .val (.int p7), .val (.int p8), .val (.long q9), .second, .val (.long q10), .second] [(.int p8), (.ref a1)])) _
    refine st22 _ ?_
    show Steps p.tables e below (T22.setTop (mkF m 119 #[.val (.ref a1), .val (.long q2), .second, .val (.long q3), .second, .val (.int p4), .val (.int p5), .val (.int p6), .val (.int p7), .val (.int p8), .val (.long q9), .second, .val (.long q10), .second] [])) _
    refine XS.aloadN X22.here hx rfl (hb hby d1_119) rfl rfl ?_
    show Steps p.tables e below (T22.setTop (mkF m 120 #[.val (.ref a1), .val (.long q2), .second, .val (.long q3), .second, .val (.int p4), .val (.int p5), .val (.int p6), .val (.int p7), .val (.int p8), .val (.long q9), .second, .val (.long q10), .second] [(.ref a1)])) _
    refine XS.lload X22.here hx rfl (hb hby d1_120) rfl ?_
    show Steps p.tables e below (T22.setTop (mkF m 122 #[.val (.ref a1), .val (.long q2), .second, .val (.long q3), .second, .val (.int p4), .val (.int p5), .val (.int p6), .val (.int p7), .val (.int p8), .val (.long q9), .second, .val (.long q10), .second] [(.long q9), (.ref a1)])) _
    refine st23 _ ?_
    show Steps p.tables e below (T23.setTop (mkF m 125 #[.val (.ref a1), .val (.long q2), .second, .val (.long q3), .second, .val (.int p4), .val (.int p5), .val (.int p6), .val (.int p7), .val (.int p8), .val (.long q9), .second, .val (.long q10), .second] [])) _
    refine XS.aloadN X23.here hx rfl (hb hby d1_125) rfl rfl ?_
    show Steps p.tables e below (T23.setTop (mkF m 126 #[.val (.ref a1), .val (.long q2), .second, .val (.long q3), .second, .val (.int p4), .val (.int p5), .val (.int p6), .val (.int p7), .val (.int p8), .val (.long q9), .second, .val (.long q10), .second] [(.ref a1)])) _
    refine XS.lload X23.here hx rfl (hb hby d1_126) rfl ?_
    show Steps p.tables e below (T23.setTop (mkF m 128 #[.val (.ref a1), .val (.long q2), .second, .val (.long q3), .second, .val (.int p4), .val (.int p5), .val (.int p6), .val (.int p7), .val (.int p8), .val (.long q9), .second, .val (.long q10), .second] [(.long q10), (.ref a1)])) _
    refine st24 _ ?_
    show Steps p.tables e below (T24.setTop (mkF m 131 #[.val (.ref a1), .val (.long q2), .second, .val (.long q3), .second, .val (.int p4), .val (.int p5), .val (.int p6), .val (.int p7), .val (.int p8), .val (.long q9), .second, .val (.long q10), .second] [])) _
    exact X24.returnOut hx Bd.returns (hb hby d1_131) hr
  · show Q1 Z a1 q2 q3 p4 p5 p6 p7 p8 q9 q10 u0 u1 u2 u3 u4 u5 u6 u7 u8 h0 n0 _ T24.heap _
    rw [e24]
    exact ⟨rfl, N24, K0, E_a1, F_a1_flags⟩
theorem d5_0 : decode prog_18_method_5_code 0 = .ok (.aload_n 0, 1) := by decide +kernel
theorem d5_1 : decode prog_18_method_5_code 1 = .ok (.getfield 53, 3) := by decide +kernel
theorem d5_4 : decode prog_18_method_5_code 4 = .ok (.bipush 32, 2) := by decide +kernel
theorem d5_6 : decode prog_18_method_5_code 6 = .ok (.iand, 1) := by decide +kernel
theorem d5_7 : decode prog_18_method_5_code 7 = .ok (.ifCond .eq 7, 3) := by decide +kernel
theorem d5_10 : decode prog_18_method_5_code 10 = .ok (.iconst 1, 1) := by decide +kernel
theorem d5_11 : decode prog_18_method_5_code 11 = .ok (.goto 4, 3) := by decide +kernel
theorem d5_14 : decode prog_18_method_5_code 14 = .ok (.iconst 0, 1) := by decide +kernel
theorem d5_15 : decode prog_18_method_5_code 15 = .ok (.ireturn, 1) := by decide +kernel
theorem pn_5 : plainName "com/example/meticulous_audit/meticulousaudit/ike/IkeHeader" = true := by first | (simp [plainName, overriddenIn]; done) | decide +kernel
theorem ef_5 (m : MethodId) (x0 : Addr) : entryFrame m #[(.ref x0)] 1 = mkF m 0 #[.val (.ref x0)] [] := by first | (simp [entryFrame, mkF, argsToLocals, Value.category]; done) | rfl
def Q5 (Z : State) (a1 : Addr) (w : Int32) (h0 : Heap) (n0 : Nat) (v : Option Value) (h : Heap) (L : List Loc) : Prop := ∃ r : Int32, v = some (.int r) ∧ (r = (if (w &&& (32 : Int32)) = (0 : Int32) then (0 : Int32) else (1 : Int32))) ∧ Fr n0 L ∧ h = h0
set_option maxRecDepth 65536 in
set_option maxHeartbeats 40000000 in
theorem rm5 (l : Launch) (Z : State) (a0 : Array Value) (hw : ∀ d ∈ tables_1, d.before a0 Z = true) (ws : List Jvm.Cond) (a1 : Addr) (w : Int32) (h0 : Heap) (n0 : Nat) (Z0 : n0 ≤ h0.size) (F_a1_flags : Fld Z h0 a1 "com/example/meticulous_audit/meticulousaudit/ike/IkeHeader" "flags" "I" (.int w)) :
    MetFree l (⟨"com/example/meticulous_audit/meticulousaudit/ike/IkeHeader", "isResponse", "()Z"⟩ : MethodName) (head1 (Jvm.Cond.code (⟨"com/example/meticulous_audit/meticulousaudit/ike/IkeHeader", "isResponse", "()Z"⟩ : MethodName) prog_18_method_5_code 1 (some .boolean) :: ws) ({ frames := 0, cells := 0, slots := 0, locals := 0 } : Room)) (fun a U => a = #[(.ref a1)] ∧ Z.Warmed39 U.vm ∧ U.heap = h0) (fun _ _ _ _ _ => True) (fun _ U o U' => ∃ v L, o = .returned v ∧ Q5 Z a1 w h0 n0 v U'.heap L ∧ FrameEnd U o U' L ({ frames := 0, cells := 0, slots := 0, locals := 0 } : Room).cells ({ frames := 0, cells := 0, slots := 0, locals := 0 } : Room).slots) := by
  refine MetFree.of_bodySF (plainFor_of_name pn_5) hisR ?_
  intro p e s m args below meth c s₁ Bd hml0 hP hK
  obtain ⟨rfl, hZ, hh⟩ := hP
  have hx := Bd.exec
  have hby := Bd.bytes
  have hml : c.maxLocals = 1 := hml0
  have hown : s.vm.findClass "com/example/meticulous_audit/meticulousaudit/ike/IkeHeader" = some m.cls := findClass_of_methodNamed Bd.named
  have hnm := (name_of_methodNamed Bd.named Bd.method).1
  have X0 : Stand p l e ({ frames := 0, cells := 0, slots := 0, locals := 0 } : Room) s m #[(.ref a1)] below meth c s₁ [] 0 0 := Stand.of_body Bd
  have e0 : s₁.heap = h0 := by rw [← hh, Bd.state]; rfl
  have N0 := Fr.nil n0
  have K0 : Keep h0 h0 [] := Keep.refl _ _
  have pre0 : ∀ t, Steps p.tables e below (s₁.setTop (mkF m 0 #[.val (.ref a1)] [])) t → Steps p.tables e below (s₁.setTop (entryFrame m #[(.ref a1)] 1)) t := fun t k => castTop (ef_5 m a1) k
  refine own_go (S' := fun t => Steps p.tables e below (s₁.setTop (mkF m 0 #[.val (.ref a1)] [])) t) pre0 ?_
  obtain ⟨T1, X1, e1, st1⟩ := getF X0 hx hZ hown (host := "") (Or.inl (hw _ (List.mem_of_getElem? (i := 47) rfl))) Via.refl e0 F_a1_flags (g := (mkF m 1 #[.val (.ref a1)] [(.ref a1)])) rfl rfl (hb hby d5_1)
  obtain ⟨u, d_u⟩ : ∃ z : Int32, z = (if (w &&& (32 : Int32)) = (0 : Int32) then (0 : Int32) else (1 : Int32)) := ⟨_, rfl⟩
  have j2 : ∀ t, Steps p.tables e below (T1.setTop (mkF m 15 #[.val (.ref a1)] [(.int u)])) t → Steps p.tables e below (T1.setTop (mkF m 7 #[.val (.ref a1)] [(.int (w &&& (32 : Int32)))])) t := by
    intro t k
    by_cases hj7 : (w &&& (32 : Int32)) = (0 : Int32)
    · have q_u : u = (0 : Int32) := by rw [d_u, if_pos hj7]
      show Steps p.tables e below (T1.setTop (mkF m 7 #[.val (.ref a1)] [(.int (w &&& (32 : Int32)))])) _
      refine XS.ifYes X1.here hx rfl (pc0 := 7) (pc' := 14) rfl (hb hby d5_7) rfl ((if0 _ _).trans (teq hj7).1) (by decide) (by decide) ?_
      show Steps p.tables e below (T1.setTop (mkF m 14 #[.val (.ref a1)] [])) _
      refine XS.iconst X1.here hx rfl (hb hby d5_14) ?_
      rw [q_u] at k
      exact k
    · have q_u : u = (1 : Int32) := by rw [d_u, if_neg hj7]
      show Steps p.tables e below (T1.setTop (mkF m 7 #[.val (.ref a1)] [(.int (w &&& (32 : Int32)))])) _
      refine XS.ifNo X1.here hx rfl (hb hby d5_7) rfl ((if0 _ _).trans (feq hj7).1) ?_
      show Steps p.tables e below (T1.setTop (mkF m 10 #[.val (.ref a1)] [])) _
      refine XS.iconst X1.here hx rfl (hb hby d5_10) ?_
      show Steps p.tables e below (T1.setTop (mkF m 11 #[.val (.ref a1)] [(.int (1 : Int32))])) _
      refine XS.goto X1.here hx rfl (pc0 := 11) (pc' := 15) rfl (hb hby d5_11) (by decide) (by decide) ?_
      rw [q_u] at k
      exact k
  obtain ⟨fs, hr, hrun, hended, hW, hsame⟩ := X1.leave (v := some (.int u)) (fun h => by rw [Bd.returns] at h; cases h)
  refine ⟨_, _, ?_, hrun, hended, _, _, rfl, ?_, ⟨_, rfl⟩, hW, hsame.mono (by decide) (by decide)⟩
  · show Steps p.tables e below (s₁.setTop (mkF m 0 #[.val (.ref a1)] [])) _
    refine XS.aloadN X0.here hx rfl (hb hby d5_0) rfl rfl ?_
    show Steps p.tables e below (s₁.setTop (mkF m 1 #[.val (.ref a1)] [(.ref a1)])) _
    refine st1 _ ?_
    show Steps p.tables e below (T1.setTop (mkF m 4 #[.val (.ref a1)] [(.int w)])) _
    refine XS.bipush X1.here hx rfl (hb hby d5_4) ?_
    show Steps p.tables e below (T1.setTop (mkF m 6 #[.val (.ref a1)] [(.int (32 : Int32)), (.int w)])) _
    refine XS.iand X1.here hx rfl (hb hby d5_6) rfl ?_
    show Steps p.tables e below (T1.setTop (mkF m 7 #[.val (.ref a1)] [(.int (w &&& (32 : Int32)))])) _
    refine j2 _ ?_
    show Steps p.tables e below (T1.setTop (mkF m 15 #[.val (.ref a1)] [(.int u)])) _
    have hnr : nar .boolean u = u := by rw [d_u]; (repeat' split) <;> rfl
    exact retN X1 hx (t := .boolean) Bd.returns (by simp) (hb hby d5_15) (by rw [hnr]; exact hr)
  · show Q5 Z a1 w h0 n0 _ T1.heap _
    rw [e1]
    exact ⟨_, rfl, d_u, N0, rfl⟩
theorem pd_2 : parseMethodDescriptor "(JJIIIIIJJ)V" = some ⟨[.long, .long, .int, .int, .int, .int, .int, .long, .long], none⟩ := by decide +kernel
theorem pd_3 : parseMethodDescriptor "()Z" = some ⟨[], some .boolean⟩ := by decide +kernel
theorem pn_0 : plainName "com/example/meticulous_audit/meticulousaudit/ike/IkeHeaderIsResponsePinLaw" = true := by first | (simp [plainName, overriddenIn]; done) | decide +kernel
theorem ef_0 (m : MethodId) (x0 : Int64) (x1 : Int64) (x2 : Int32) (x3 : Int32) (x4 : Int64) (x5 : Int64) : entryFrame m #[(.long x0), (.long x1), (.int x2), (.int x3), (.long x4), (.long x5)] maxLocals = mkF m 0 #[.val (.long x0), .second, .val (.long x1), .second, .val (.int x2), .val (.int x3), .val (.long x4), .second, .val (.long x5), .second, .unset, .unset, .unset, .unset, .unset, .unset, .unset, .unset, .unset, .unset, .unset, .unset] [] := by first | (simp [entryFrame, mkF, argsToLocals, Value.category, maxLocals]; done) | rfl
def Q0 (Z : State) (q1 : Int64) (q2 : Int64) (p3 : Int32) (p4 : Int32) (q5 : Int64) (q6 : Int64) (h0 : Heap) (n0 : Nat) (v : Option Value) (h : Heap) (L : List Loc) : Prop := v = some (.int 1) ∧ Fr n0 L
set_option maxRecDepth 65536 in
set_option maxHeartbeats 40000000 in
theorem rm0 (l : Launch) (Z : State) (a0 : Array Value) (hw : ∀ d ∈ tables_1, d.before a0 Z = true) (ws : List Jvm.Cond) (q1 : Int64) (q2 : Int64) (p3 : Int32) (p4 : Int32) (q5 : Int64) (q6 : Int64) (h0 : Heap) (n0 : Nat) (Z0 : n0 ≤ h0.size) :
    MetFree l x (head1 (Jvm.Cond.code x code maxLocals ret :: ws) room_1) (fun a U => a = #[(.long q1), (.long q2), (.int p3), (.int p4), (.long q5), (.long q6)] ∧ Z.Warmed39 U.vm ∧ U.heap = h0) (fun _ _ _ _ _ => True) (fun _ U o U' => ∃ v L, o = .returned v ∧ Q0 Z q1 q2 p3 p4 q5 q6 h0 n0 v U'.heap L ∧ ReturnedEndW U o U' L room_1.cells room_1.slots) := by
  refine MetFree.of_bodySF (plainFor_of_name pn_0) hisR ?_
  intro p e s m args below meth c s₁ Bd hml0 hP hK
  obtain ⟨rfl, hZ, hh⟩ := hP
  have hx := Bd.exec
  have hby := Bd.bytes
  have hml : c.maxLocals = 22 := hml0
  have hown : s.vm.findClass "com/example/meticulous_audit/meticulousaudit/ike/IkeHeaderIsResponsePinLaw" = some m.cls := findClass_of_methodNamed Bd.named
  have hnm := (name_of_methodNamed Bd.named Bd.method).1
  have X0 : Stand p l e room_1 (s.setVm s.vm) m #[(.long q1), (.long q2), (.int p3), (.int p4), (.long q5), (.long q6)] below meth c s₁ [] 0 0 := Stand.of_body Bd
  have e0 : s₁.heap = h0 := by rw [← hh, Bd.state]; rfl
  have N0 := Fr.nil n0
  have K0 : Keep h0 h0 [] := Keep.refl _ _
  have pre0 : ∀ t, Steps p.tables e below (s₁.setTop (mkF m 0 #[.val (.long q1), .second, .val (.long q2), .second, .val (.int p3), .val (.int p4), .val (.long q5), .second, .val (.long q6), .second, .unset, .unset, .unset, .unset, .unset, .unset, .unset, .unset, .unset, .unset, .unset, .unset] [])) t → Steps p.tables e below (s₁.setTop (entryFrame m #[(.long q1), (.long q2), (.int p3), (.int p4), (.long q5), (.long q6)] maxLocals)) t := fun t k => castTop (ef_0 m q1 q2 p3 p4 q5 q6) k
  have hS : s.Since s.vm 0 := (State.WarmedH.refl s).since 0
  have hk : 0 ≤ h0.size := Nat.zero_le _
  have wS : ∀ a ∈ Bundle.stringAtoms, a.before a0 Z = true := by
    intro a ha
    simp only [Bundle.stringAtoms, List.mem_cons, List.not_mem_nil, or_false] at ha
    rcases ha with rfl | rfl | rfl | rfl | rfl | rfl | rfl
    · exact (hw _ (List.mem_of_getElem? (i := 16) rfl))
    · exact (hw _ (List.mem_of_getElem? (i := 17) rfl))
    · exact (hw _ (List.mem_of_getElem? (i := 18) rfl))
    · exact (hw _ (List.mem_of_getElem? (i := 19) rfl))
    · exact (hw _ (List.mem_of_getElem? (i := 20) rfl))
    · exact (hw _ (List.mem_of_getElem? (i := 21) rfl))
    · exact (hw _ (List.mem_of_getElem? (i := 22) rfl))
  refine own_go (S' := fun t => Steps p.tables e below (s₁.setTop (mkF m 0 #[.val (.long q1), .second, .val (.long q2), .second, .val (.int p3), .val (.int p4), .val (.long q5), .second, .val (.long q6), .second, .unset, .unset, .unset, .unset, .unset, .unset, .unset, .unset, .unset, .unset, .unset, .unset] [])) t) pre0 ?_
  obtain ⟨fl, d_fl⟩ : ∃ z : Int32, z = (p4 &&& (255 : Int32)) := ⟨_, rfl⟩
  obtain ⟨np, d_np⟩ : ∃ z : Int32, z = (p3 &&& (255 : Int32)) := ⟨_, rfl⟩
  obtain ⟨mj, d_mj⟩ : ∃ z : Int32, z = (((p3.toUInt32 >>> ((8 : Int32) &&& 31).toUInt32).toInt32) &&& (15 : Int32)) := ⟨_, rfl⟩
  obtain ⟨mi, d_mi⟩ : ∃ z : Int32, z = (((p3.toUInt32 >>> ((12 : Int32) &&& 31).toUInt32).toInt32) &&& (15 : Int32)) := ⟨_, rfl⟩
  obtain ⟨et, d_et⟩ : ∃ z : Int32, z = (((p3.toUInt32 >>> ((16 : Int32) &&& 31).toUInt32).toInt32) &&& (255 : Int32)) := ⟨_, rfl⟩
  obtain ⟨ml, d_ml⟩ : ∃ z : Int64, z = (q5 &&& (4294967295 : Int64)) := ⟨_, rfl⟩
  obtain ⟨ll, d_ll⟩ : ∃ z : Int64, z = (q6 &&& (4294967295 : Int64)) := ⟨_, rfl⟩
  have Rnp := own_ri _ np (255 : Int32) 8 (255 : Int64) (by decide) (by decide) (by decide) d_np
  have Rmj := own_ri _ mj (15 : Int32) 4 (15 : Int64) (by decide) (by decide) (by decide) d_mj
  have Rmi := own_ri _ mi (15 : Int32) 4 (15 : Int64) (by decide) (by decide) (by decide) d_mi
  have Ret := own_ri _ et (255 : Int32) 8 (255 : Int64) (by decide) (by decide) (by decide) d_et
  have Rfl := own_ri _ fl (255 : Int32) 8 (255 : Int64) (by decide) (by decide) (by decide) d_fl
  have Rml := own_rl _ ml d_ml
  have Rll := own_rl _ ll d_ll
  have LW := own_law _ fl d_fl
  obtain ⟨ex, d_ex⟩ : ∃ z : Int32, z = (if (fl % (64 : Int32)) < (32 : Int32) then (0 : Int32) else (1 : Int32)) := ⟨_, rfl⟩
  have j1 : ∀ t, Steps p.tables e below (s₁.setTop (mkF m 78 #[.val (.long q1), .second, .val (.long q2), .second, .val (.int p3), .val (.int p4), .val (.long q5), .second, .val (.long q6), .second, .val (.int fl), .val (.int np), .val (.int mj), .val (.int mi), .val (.int et), .val (.long ml), .second, .val (.long ll), .second, .unset, .unset, .unset] [(.int ex)])) t → Steps p.tables e below (s₁.setTop (mkF m 70 #[.val (.long q1), .second, .val (.long q2), .second, .val (.int p3), .val (.int p4), .val (.long q5), .second, .val (.long q6), .second, .val (.int fl), .val (.int np), .val (.int mj), .val (.int mi), .val (.int et), .val (.long ml), .second, .val (.long ll), .second, .unset, .unset, .unset] [(.int (32 : Int32)), (.int (fl % (64 : Int32)))])) t := by
    intro t k
    by_cases hj70 : (fl % (64 : Int32)) < (32 : Int32)
    · have q_ex : ex = (0 : Int32) := by rw [d_ex, if_pos hj70]
      show Steps p.tables e below (s₁.setTop (mkF m 70 #[.val (.long q1), .second, .val (.long q2), .second, .val (.int p3), .val (.int p4), .val (.long q5), .second, .val (.long q6), .second, .val (.int fl), .val (.int np), .val (.int mj), .val (.int mi), .val (.int et), .val (.long ml), .second, .val (.long ll), .second, .unset, .unset, .unset] [(.int (32 : Int32)), (.int (fl % (64 : Int32)))])) _
      refine XS.icmpYes X0.here hx rfl (pc0 := 70) (pc' := 77) rfl (hb hby at_70) rfl (tlt hj70).1 (by decide) (by decide) ?_
      show Steps p.tables e below (s₁.setTop (mkF m 77 #[.val (.long q1), .second, .val (.long q2), .second, .val (.int p3), .val (.int p4), .val (.long q5), .second, .val (.long q6), .second, .val (.int fl), .val (.int np), .val (.int mj), .val (.int mi), .val (.int et), .val (.long ml), .second, .val (.long ll), .second, .unset, .unset, .unset] [])) _
      refine XS.iconst X0.here hx rfl (hb hby at_77) ?_
      rw [q_ex] at k
      exact k
    · have q_ex : ex = (1 : Int32) := by rw [d_ex, if_neg hj70]
      show Steps p.tables e below (s₁.setTop (mkF m 70 #[.val (.long q1), .second, .val (.long q2), .second, .val (.int p3), .val (.int p4), .val (.long q5), .second, .val (.long q6), .second, .val (.int fl), .val (.int np), .val (.int mj), .val (.int mi), .val (.int et), .val (.long ml), .second, .val (.long ll), .second, .unset, .unset, .unset] [(.int (32 : Int32)), (.int (fl % (64 : Int32)))])) _
      refine XS.icmpNo X0.here hx rfl (hb hby at_70) rfl (flt hj70).1 ?_
      show Steps p.tables e below (s₁.setTop (mkF m 73 #[.val (.long q1), .second, .val (.long q2), .second, .val (.int p3), .val (.int p4), .val (.long q5), .second, .val (.long q6), .second, .val (.int fl), .val (.int np), .val (.int mj), .val (.int mi), .val (.int et), .val (.long ml), .second, .val (.long ll), .second, .unset, .unset, .unset] [])) _
      refine XS.iconst X0.here hx rfl (hb hby at_73) ?_
      show Steps p.tables e below (s₁.setTop (mkF m 74 #[.val (.long q1), .second, .val (.long q2), .second, .val (.int p3), .val (.int p4), .val (.long q5), .second, .val (.long q6), .second, .val (.int fl), .val (.int np), .val (.int mj), .val (.int mi), .val (.int et), .val (.long ml), .second, .val (.long ll), .second, .unset, .unset, .unset] [(.int (1 : Int32))])) _
      refine XS.goto X0.here hx rfl (pc0 := 74) (pc' := 78) rfl (hb hby at_74) (by decide) (by decide) ?_
      rw [q_ex] at k
      exact k
  obtain ⟨T2, h2, X2, e2, E2, A2, D2, -, st2⟩ := newO X0 hx hZ hown (hw _ (List.mem_of_getElem? (i := 1) rfl)) (hw _ (List.mem_of_getElem? (i := 2) rfl)) (hw _ (List.mem_of_getElem? (i := 3) rfl)) e0 (g := (mkF m 80 #[.val (.long q1), .second, .val (.long q2), .second, .val (.int p3), .val (.int p4), .val (.long q5), .second, .val (.long q6), .second, .val (.int fl), .val (.int np), .val (.int mj), .val (.int mi), .val (.int et), .val (.long ml), .second, .val (.long ll), .second, .val (.int ex), .unset, .unset] [])) rfl (hb hby at_80) (by decide) (by decide)
  obtain ⟨b2, g2⟩ : ∃ z, z = h0.size := ⟨_, rfl⟩
  rw [← g2] at A2 D2 st2
  have g_b2 : n0 ≤ b2 := Nat.le_trans Z0 (Nat.le_of_eq g2.symm)
  have sz_b2 : h0.size ≤ b2 := Nat.le_trans K0.1 (Nat.le_of_eq g2.symm)
  have Z0 : n0 ≤ h2.size := Nat.le_trans Z0 E2.1
  have K0 := K0.ext E2
  have hk := Nat.le_trans hk E2.1
  have E_b2 := A2
  have F_b2_initiatorSpi : Fld Z h2 b2 "com/example/meticulous_audit/meticulousaudit/ike/IkeHeader" "initiatorSpi" "J" (.long (0 : Int64)) := D2 (Or.inr (hw _ (List.mem_of_getElem? (i := 36) rfl))) (ty := .long) (by decide)
  have F_b2_responderSpi : Fld Z h2 b2 "com/example/meticulous_audit/meticulousaudit/ike/IkeHeader" "responderSpi" "J" (.long (0 : Int64)) := D2 (Or.inr (hw _ (List.mem_of_getElem? (i := 38) rfl))) (ty := .long) (by decide)
  have F_b2_nextPayload : Fld Z h2 b2 "com/example/meticulous_audit/meticulousaudit/ike/IkeHeader" "nextPayload" "I" (.int (0 : Int32)) := D2 (Or.inr (hw _ (List.mem_of_getElem? (i := 40) rfl))) (ty := .int) (by decide)
  have F_b2_majorVersion : Fld Z h2 b2 "com/example/meticulous_audit/meticulousaudit/ike/IkeHeader" "majorVersion" "I" (.int (0 : Int32)) := D2 (Or.inr (hw _ (List.mem_of_getElem? (i := 42) rfl))) (ty := .int) (by decide)
  have F_b2_minorVersion : Fld Z h2 b2 "com/example/meticulous_audit/meticulousaudit/ike/IkeHeader" "minorVersion" "I" (.int (0 : Int32)) := D2 (Or.inr (hw _ (List.mem_of_getElem? (i := 44) rfl))) (ty := .int) (by decide)
  have F_b2_exchangeType : Fld Z h2 b2 "com/example/meticulous_audit/meticulousaudit/ike/IkeHeader" "exchangeType" "I" (.int (0 : Int32)) := D2 (Or.inr (hw _ (List.mem_of_getElem? (i := 46) rfl))) (ty := .int) (by decide)
  have F_b2_flags : Fld Z h2 b2 "com/example/meticulous_audit/meticulousaudit/ike/IkeHeader" "flags" "I" (.int (0 : Int32)) := D2 (Or.inr (hw _ (List.mem_of_getElem? (i := 48) rfl))) (ty := .int) (by decide)
  have F_b2_messageId : Fld Z h2 b2 "com/example/meticulous_audit/meticulousaudit/ike/IkeHeader" "messageId" "J" (.long (0 : Int64)) := D2 (Or.inr (hw _ (List.mem_of_getElem? (i := 50) rfl))) (ty := .long) (by decide)
  have F_b2_length : Fld Z h2 b2 "com/example/meticulous_audit/meticulousaudit/ike/IkeHeader" "length" "J" (.long (0 : Int64)) := D2 (Or.inr (hw _ (List.mem_of_getElem? (i := 52) rfl))) (ty := .long) (by decide)
  obtain ⟨_, _, ⟨T3, L3, k3, n3⟩, -, X3, hS3, hg3, ⟨Lc3, hQ3, l3, y3, z3⟩, st3⟩ := X2.specialBackS hx (y := (⟨"com/example/meticulous_audit/meticulousaudit/ike/IkeHeader", "<init>", "(JJIIIIIJJ)V"⟩ : MethodName)) rfl hown (mvT hZ (hw _ (List.mem_of_getElem? (i := 4) rfl))) (mvT hZ (hw _ (List.mem_of_getElem? (i := 5) rfl))) (mvT hZ (hw _ (List.mem_of_getElem? (i := 6) rfl))) (by decide) (backOfS (W := 1) (rm1 l Z a0 hw [] b2 q1 q2 np mj mi et fl ml ll (.long (0 : Int64)) (.long (0 : Int64)) (.int (0 : Int32)) (.int (0 : Int32)) (.int (0 : Int32)) (.int (0 : Int32)) (.int (0 : Int32)) (.long (0 : Int64)) (.long (0 : Int64)) h2 n0 Z0 E_b2 F_b2_initiatorSpi F_b2_responderSpi F_b2_nextPayload F_b2_majorVersion F_b2_minorVersion F_b2_exchangeType F_b2_flags F_b2_messageId F_b2_length g_b2 Rnp.1 Rnp.2 Rmj.1 Rmj.2 Rmi.1 Rmi.2 Ret.1 Ret.2 Rfl.1 Rfl.2 Rml.1 Rml.2 Rll.1 Rll.2) hZ (hw _ (List.mem_of_getElem? (i := 6) rfl)) (hw _ (List.mem_of_getElem? (i := 3) rfl)) (by decide) (by decide)) (g := (mkF m 100 #[.val (.long q1), .second, .val (.long q2), .second, .val (.int p3), .val (.int p4), .val (.long q5), .second, .val (.long q6), .second, .val (.int fl), .val (.int np), .val (.int mj), .val (.int mi), .val (.int et), .val (.long ml), .second, .val (.long ll), .second, .val (.int ex), .unset, .unset] [(.long ll), (.long ml), (.int fl), (.int et), (.int mi), (.int mj), (.int np), (.long q2), (.long q1), (.ref b2), (.ref b2)])) rfl (by rw [hml]; rfl) (Steps.refl _) (a := b2) (argsL := [(.long q1), (.long q2), (.int np), (.int mj), (.int mi), (.int et), (.int fl), (.long ml), (.long ll)]) (rest := [(.ref b2)]) (lenOf pd_2 rfl) rfl (by show 2 * 0 + _ ≤ _; exact Nat.le_of_eq rfl) (hb hby at_100) (fun _ _ => ⟨rfl, e2, (by decide : 1 + 14 ≤ _), (by decide : 9 + 316 ≤ _)⟩)
  dsimp only [Pt.U, Pt.locs, Pt.cells, Pt.slots] at X3 l3 y3 z3 st3 hQ3 hS3 hg3
  subst l3 y3 z3
  have hZ_3 := hZ
  have hown_3 := hown
  obtain ⟨X3, hS, hZ, hown⟩ := rebS hS (by rw [e2]; exact hk : _ ≤ T2.heap.size) X3 hS3 hg3 hZ hown
  obtain ⟨rfl, N3q, K3, E_b2_new, F_b2_flags_new⟩ := hQ3
  have E_b2 := E_b2.keep K3
  have E_b2 := E_b2_new
  have F_b2_flags := F_b2_flags_new
  have Z0 : n0 ≤ T3.heap.size := Nat.le_trans Z0 K3.1
  have hk := Nat.le_refl T3.heap.size
  have K0 := K0.trans K3 (allS (Or.inr sz_b2) all0)
  have N3 := Fr.app N0 N3q
  obtain ⟨T4, h4, X4, e4, E4, A4, D4, -, st4⟩ := newO X3 hx hZ hown (hw _ (List.mem_of_getElem? (i := 1) rfl)) (hw _ (List.mem_of_getElem? (i := 2) rfl)) (hw _ (List.mem_of_getElem? (i := 3) rfl)) rfl (g := (mkF m 105 #[.val (.long q1), .second, .val (.long q2), .second, .val (.int p3), .val (.int p4), .val (.long q5), .second, .val (.long q6), .second, .val (.int fl), .val (.int np), .val (.int mj), .val (.int mi), .val (.int et), .val (.long ml), .second, .val (.long ll), .second, .val (.int ex), .val (.ref b2), .unset] [])) rfl (hb hby at_105) (by decide) (by decide)
  obtain ⟨b4, g4⟩ : ∃ z, z = T3.heap.size := ⟨_, rfl⟩
  rw [← g4] at A4 D4 st4
  have g_b4 : n0 ≤ b4 := Nat.le_trans Z0 (Nat.le_of_eq g4.symm)
  have sz_b4 : h0.size ≤ b4 := Nat.le_trans K0.1 (Nat.le_of_eq g4.symm)
  have ne_b2_b4 : b2 ≠ b4 := Nat.ne_of_lt (Nat.lt_of_lt_of_le E_b2.lt (Nat.le_of_eq g4.symm))
  have E_b2 := E_b2.ext E4
  have F_b2_flags := F_b2_flags.ext E4
  have Z0 : n0 ≤ h4.size := Nat.le_trans Z0 E4.1
  have K0 := K0.ext E4
  have hk := Nat.le_trans hk E4.1
  have E_b4 := A4
  have F_b4_initiatorSpi : Fld Z h4 b4 "com/example/meticulous_audit/meticulousaudit/ike/IkeHeader" "initiatorSpi" "J" (.long (0 : Int64)) := D4 (Or.inr (hw _ (List.mem_of_getElem? (i := 36) rfl))) (ty := .long) (by decide)
  have F_b4_responderSpi : Fld Z h4 b4 "com/example/meticulous_audit/meticulousaudit/ike/IkeHeader" "responderSpi" "J" (.long (0 : Int64)) := D4 (Or.inr (hw _ (List.mem_of_getElem? (i := 38) rfl))) (ty := .long) (by decide)
  have F_b4_nextPayload : Fld Z h4 b4 "com/example/meticulous_audit/meticulousaudit/ike/IkeHeader" "nextPayload" "I" (.int (0 : Int32)) := D4 (Or.inr (hw _ (List.mem_of_getElem? (i := 40) rfl))) (ty := .int) (by decide)
  have F_b4_majorVersion : Fld Z h4 b4 "com/example/meticulous_audit/meticulousaudit/ike/IkeHeader" "majorVersion" "I" (.int (0 : Int32)) := D4 (Or.inr (hw _ (List.mem_of_getElem? (i := 42) rfl))) (ty := .int) (by decide)
  have F_b4_minorVersion : Fld Z h4 b4 "com/example/meticulous_audit/meticulousaudit/ike/IkeHeader" "minorVersion" "I" (.int (0 : Int32)) := D4 (Or.inr (hw _ (List.mem_of_getElem? (i := 44) rfl))) (ty := .int) (by decide)
  have F_b4_exchangeType : Fld Z h4 b4 "com/example/meticulous_audit/meticulousaudit/ike/IkeHeader" "exchangeType" "I" (.int (0 : Int32)) := D4 (Or.inr (hw _ (List.mem_of_getElem? (i := 46) rfl))) (ty := .int) (by decide)
  have F_b4_flags : Fld Z h4 b4 "com/example/meticulous_audit/meticulousaudit/ike/IkeHeader" "flags" "I" (.int (0 : Int32)) := D4 (Or.inr (hw _ (List.mem_of_getElem? (i := 48) rfl))) (ty := .int) (by decide)
  have F_b4_messageId : Fld Z h4 b4 "com/example/meticulous_audit/meticulousaudit/ike/IkeHeader" "messageId" "J" (.long (0 : Int64)) := D4 (Or.inr (hw _ (List.mem_of_getElem? (i := 50) rfl))) (ty := .long) (by decide)
  have F_b4_length : Fld Z h4 b4 "com/example/meticulous_audit/meticulousaudit/ike/IkeHeader" "length" "J" (.long (0 : Int64)) := D4 (Or.inr (hw _ (List.mem_of_getElem? (i := 52) rfl))) (ty := .long) (by decide)
  obtain ⟨_, _, ⟨T5, L5, k5, n5⟩, -, X5, hS5, hg5, ⟨Lc5, hQ5, l5, y5, z5⟩, st5⟩ := X4.specialBackS hx (y := (⟨"com/example/meticulous_audit/meticulousaudit/ike/IkeHeader", "<init>", "(JJIIIIIJJ)V"⟩ : MethodName)) rfl hown (mvT hZ (hw _ (List.mem_of_getElem? (i := 4) rfl))) (mvT hZ (hw _ (List.mem_of_getElem? (i := 5) rfl))) (mvT hZ (hw _ (List.mem_of_getElem? (i := 6) rfl))) (by decide) (backOfS (W := 1) (rm1 l Z a0 hw [] b4 q1 q2 np mj mi et (fl ^^^ (32 : Int32)) ml ll (.long (0 : Int64)) (.long (0 : Int64)) (.int (0 : Int32)) (.int (0 : Int32)) (.int (0 : Int32)) (.int (0 : Int32)) (.int (0 : Int32)) (.long (0 : Int64)) (.long (0 : Int64)) h4 n0 Z0 E_b4 F_b4_initiatorSpi F_b4_responderSpi F_b4_nextPayload F_b4_majorVersion F_b4_minorVersion F_b4_exchangeType F_b4_flags F_b4_messageId F_b4_length g_b4 Rnp.1 Rnp.2 Rmj.1 Rmj.2 Rmi.1 Rmi.2 Ret.1 Ret.2 LW.2.2.1 LW.2.2.2 Rml.1 Rml.2 Rll.1 Rll.2) hZ (hw _ (List.mem_of_getElem? (i := 6) rfl)) (hw _ (List.mem_of_getElem? (i := 3) rfl)) (by decide) (by decide)) (g := (mkF m 128 #[.val (.long q1), .second, .val (.long q2), .second, .val (.int p3), .val (.int p4), .val (.long q5), .second, .val (.long q6), .second, .val (.int fl), .val (.int np), .val (.int mj), .val (.int mi), .val (.int et), .val (.long ml), .second, .val (.long ll), .second, .val (.int ex), .val (.ref b2), .unset] [(.long ll), (.long ml), (.int (fl ^^^ (32 : Int32))), (.int et), (.int mi), (.int mj), (.int np), (.long q2), (.long q1), (.ref b4), (.ref b4)])) rfl (by rw [hml]; rfl) (Steps.refl _) (a := b4) (argsL := [(.long q1), (.long q2), (.int np), (.int mj), (.int mi), (.int et), (.int (fl ^^^ (32 : Int32))), (.long ml), (.long ll)]) (rest := [(.ref b4)]) (lenOf pd_2 rfl) rfl (by show 2 * 0 + _ ≤ _; exact Nat.le_of_eq rfl) (hb hby at_128) (fun _ _ => ⟨rfl, e4, (by decide : 16 + 14 ≤ _), (by decide : 334 + 316 ≤ _)⟩)
  dsimp only [Pt.U, Pt.locs, Pt.cells, Pt.slots] at X5 l5 y5 z5 st5 hQ5 hS5 hg5
  subst l5 y5 z5
  have hZ_5 := hZ
  have hown_5 := hown
  obtain ⟨X5, hS, hZ, hown⟩ := rebS hS (by rw [e4]; exact hk : _ ≤ T4.heap.size) X5 hS5 hg5 hZ hown
  obtain ⟨rfl, N5q, K5, E_b4_new, F_b4_flags_new⟩ := hQ5
  have E_b2 := E_b2.keep K5
  have E_b4 := E_b4.keep K5
  have F_b2_flags := F_b2_flags.keep K5 (ninS ne_b2_b4 nin0)
  have E_b4 := E_b4_new
  have F_b4_flags := F_b4_flags_new
  have Z0 : n0 ≤ T5.heap.size := Nat.le_trans Z0 K5.1
  have hk := Nat.le_refl T5.heap.size
  have K0 := K0.trans K5 (allS (Or.inr sz_b4) all0)
  have N5 := Fr.app N3 N5q
  obtain ⟨cq6, kq6, q6a, q6b, q6c⟩ := isOf hZ rfl E_b2
  obtain ⟨_, _, ⟨T6, L6, k6, n6⟩, -, X6, ⟨Lc6, hQ6, l6, y6, z6⟩, st6⟩ := X5.virtualBack hx (y := (⟨"com/example/meticulous_audit/meticulousaudit/ike/IkeHeader", "isResponse", "()Z"⟩ : MethodName)) (z := (⟨"com/example/meticulous_audit/meticulousaudit/ike/IkeHeader", "isResponse", "()Z"⟩ : MethodName)) hown (mvT hZ (hw _ (List.mem_of_getElem? (i := 53) rfl))) (mvT hZ (hw _ (List.mem_of_getElem? (i := 54) rfl))) (notFace_of_selects (args := #[]) (mvT hZ (hw _ (List.mem_of_getElem? (i := 56) rfl)))) (mvT hZ (hw _ (List.mem_of_getElem? (i := 56) rfl))) (mvT hZ (hw _ (List.mem_of_getElem? (i := 55) rfl))) (by decide) (backOf (W := 0) (rm5 l Z a0 hw [] b2 fl T5.heap n0 Z0 F_b2_flags) hZ (hw _ (List.mem_of_getElem? (i := 57) rfl)) (hw _ (List.mem_of_getElem? (i := 3) rfl)) (by decide) (by decide)) q6a q6c (g := (mkF m 135 #[.val (.long q1), .second, .val (.long q2), .second, .val (.int p3), .val (.int p4), .val (.long q5), .second, .val (.long q6), .second, .val (.int fl), .val (.int np), .val (.int mj), .val (.int mi), .val (.int et), .val (.long ml), .second, .val (.long ll), .second, .val (.int ex), .val (.ref b2), .val (.ref b4)] [(.ref b2)])) rfl (by rw [hml]; rfl) (Steps.refl _) (argsL := []) (rest := []) (lenOf pd_3 rfl) rfl (by show 2 * 0 + _ ≤ _; exact Nat.le_of_eq rfl) (hb hby at_135) (fun _ _ => ⟨rfl, rfl, (by decide : 30 + 0 ≤ _), (by decide : 650 + 0 ≤ _)⟩)
  dsimp only [Pt.U, Pt.locs, Pt.cells, Pt.slots] at X6 l6 y6 z6 st6 hQ6
  subst l6 y6 z6
  obtain ⟨ga, rfl, d_ga, N6q, e6⟩ := hQ6
  have N6 := Fr.app N5 N6q
  have hc140 : ga = ex := by rw [d_ga, d_ex]; exact LW.1
  obtain ⟨cq7, kq7, q7a, q7b, q7c⟩ := isOf hZ e6 E_b4
  obtain ⟨_, _, ⟨T7, L7, k7, n7⟩, -, X7, ⟨Lc7, hQ7, l7, y7, z7⟩, st7⟩ := X6.virtualBack hx (y := (⟨"com/example/meticulous_audit/meticulousaudit/ike/IkeHeader", "isResponse", "()Z"⟩ : MethodName)) (z := (⟨"com/example/meticulous_audit/meticulousaudit/ike/IkeHeader", "isResponse", "()Z"⟩ : MethodName)) hown (mvT hZ (hw _ (List.mem_of_getElem? (i := 53) rfl))) (mvT hZ (hw _ (List.mem_of_getElem? (i := 54) rfl))) (notFace_of_selects (args := #[]) (mvT hZ (hw _ (List.mem_of_getElem? (i := 56) rfl)))) (mvT hZ (hw _ (List.mem_of_getElem? (i := 56) rfl))) (mvT hZ (hw _ (List.mem_of_getElem? (i := 55) rfl))) (by decide) (backOf (W := 0) (rm5 l Z a0 hw [] b4 (fl ^^^ (32 : Int32)) T5.heap n0 Z0 F_b4_flags) hZ (hw _ (List.mem_of_getElem? (i := 57) rfl)) (hw _ (List.mem_of_getElem? (i := 3) rfl)) (by decide) (by decide)) q7a q7c (g := (mkF m 145 #[.val (.long q1), .second, .val (.long q2), .second, .val (.int p3), .val (.int p4), .val (.long q5), .second, .val (.long q6), .second, .val (.int fl), .val (.int np), .val (.int mj), .val (.int mi), .val (.int et), .val (.long ml), .second, .val (.long ll), .second, .val (.int ex), .val (.ref b2), .val (.ref b4)] [(.ref b4)])) rfl (by rw [hml]; rfl) (Steps.refl _) (argsL := []) (rest := []) (lenOf pd_3 rfl) rfl (by show 2 * 0 + _ ≤ _; exact Nat.le_of_eq rfl) (hb hby at_145) (fun _ _ => ⟨rfl, e6, (by decide : 30 + 0 ≤ _), (by decide : 650 + 0 ≤ _)⟩)
  dsimp only [Pt.U, Pt.locs, Pt.cells, Pt.slots] at X7 l7 y7 z7 st7 hQ7
  subst l7 y7 z7
  obtain ⟨gb, rfl, d_gb, N7q, e7⟩ := hQ7
  have N7 := Fr.app N6 N7q
  obtain ⟨no, d_no⟩ : ∃ z : Int32, z = (if ex = (0 : Int32) then (1 : Int32) else (0 : Int32)) := ⟨_, rfl⟩
  have j8 : ∀ t, Steps p.tables e below (T7.setTop (mkF m 158 #[.val (.long q1), .second, .val (.long q2), .second, .val (.int p3), .val (.int p4), .val (.long q5), .second, .val (.long q6), .second, .val (.int fl), .val (.int np), .val (.int mj), .val (.int mi), .val (.int et), .val (.long ml), .second, .val (.long ll), .second, .val (.int ex), .val (.ref b2), .val (.ref b4)] [(.int no), (.int gb)])) t → Steps p.tables e below (T7.setTop (mkF m 150 #[.val (.long q1), .second, .val (.long q2), .second, .val (.int p3), .val (.int p4), .val (.long q5), .second, .val (.long q6), .second, .val (.int fl), .val (.int np), .val (.int mj), .val (.int mi), .val (.int et), .val (.long ml), .second, .val (.long ll), .second, .val (.int ex), .val (.ref b2), .val (.ref b4)] [(.int ex), (.int gb)])) t := by
    intro t k
    by_cases hj150 : ex = (0 : Int32)
    · have q_no : no = (1 : Int32) := by rw [d_no, if_pos hj150]
      show Steps p.tables e below (T7.setTop (mkF m 150 #[.val (.long q1), .second, .val (.long q2), .second, .val (.int p3), .val (.int p4), .val (.long q5), .second, .val (.long q6), .second, .val (.int fl), .val (.int np), .val (.int mj), .val (.int mi), .val (.int et), .val (.long ml), .second, .val (.long ll), .second, .val (.int ex), .val (.ref b2), .val (.ref b4)] [(.int ex), (.int gb)])) _
      refine XS.ifNo X7.here hx rfl (hb hby at_150) rfl ((if0 _ _).trans (teq hj150).2) ?_
      show Steps p.tables e below (T7.setTop (mkF m 153 #[.val (.long q1), .second, .val (.long q2), .second, .val (.int p3), .val (.int p4), .val (.long q5), .second, .val (.long q6), .second, .val (.int fl), .val (.int np), .val (.int mj), .val (.int mi), .val (.int et), .val (.long ml), .second, .val (.long ll), .second, .val (.int ex), .val (.ref b2), .val (.ref b4)] [(.int gb)])) _
      refine XS.iconst X7.here hx rfl (hb hby at_153) ?_
      show Steps p.tables e below (T7.setTop (mkF m 154 #[.val (.long q1), .second, .val (.long q2), .second, .val (.int p3), .val (.int p4), .val (.long q5), .second, .val (.long q6), .second, .val (.int fl), .val (.int np), .val (.int mj), .val (.int mi), .val (.int et), .val (.long ml), .second, .val (.long ll), .second, .val (.int ex), .val (.ref b2), .val (.ref b4)] [(.int (1 : Int32)), (.int gb)])) _
      refine XS.goto X7.here hx rfl (pc0 := 154) (pc' := 158) rfl (hb hby at_154) (by decide) (by decide) ?_
      rw [q_no] at k
      exact k
    · have q_no : no = (0 : Int32) := by rw [d_no, if_neg hj150]
      show Steps p.tables e below (T7.setTop (mkF m 150 #[.val (.long q1), .second, .val (.long q2), .second, .val (.int p3), .val (.int p4), .val (.long q5), .second, .val (.long q6), .second, .val (.int fl), .val (.int np), .val (.int mj), .val (.int mi), .val (.int et), .val (.long ml), .second, .val (.long ll), .second, .val (.int ex), .val (.ref b2), .val (.ref b4)] [(.int ex), (.int gb)])) _
      refine XS.ifYes X7.here hx rfl (pc0 := 150) (pc' := 157) rfl (hb hby at_150) rfl ((if0 _ _).trans (feq hj150).2) (by decide) (by decide) ?_
      show Steps p.tables e below (T7.setTop (mkF m 157 #[.val (.long q1), .second, .val (.long q2), .second, .val (.int p3), .val (.int p4), .val (.long q5), .second, .val (.long q6), .second, .val (.int fl), .val (.int np), .val (.int mj), .val (.int mi), .val (.int et), .val (.long ml), .second, .val (.long ll), .second, .val (.int ex), .val (.ref b2), .val (.ref b4)] [(.int gb)])) _
      refine XS.iconst X7.here hx rfl (hb hby at_157) ?_
      rw [q_no] at k
      exact k
  have hc158 : gb = no := by rw [d_gb, d_no, d_ex]; exact LW.2.1
  obtain ⟨fs, hr, hrun, hended, hEW⟩ := X7.leaveW hS (by rw [e7]; exact hk) (v := some (.int (1 : Int32))) (fun h => by rw [Bd.returns] at h; cases h)
  refine ⟨_, _, ?_, hrun, hended, _, _, rfl, ?_, own_monoW hEW (by decide) (by decide)⟩
  · show Steps p.tables e below (s₁.setTop (mkF m 0 #[.val (.long q1), .second, .val (.long q2), .second, .val (.int p3), .val (.int p4), .val (.long q5), .second, .val (.long q6), .second, .unset, .unset, .unset, .unset, .unset, .unset, .unset, .unset, .unset, .unset, .unset, .unset] [])) _
    refine XS.iload X0.here hx rfl (hb hby at_0) rfl ?_
    show Steps p.tables e below (s₁.setTop (mkF m 2 #[.val (.long q1), .second, .val (.long q2), .second, .val (.int p3), .val (.int p4), .val (.long q5), .second, .val (.long q6), .second, .unset, .unset, .unset, .unset, .unset, .unset, .unset, .unset, .unset, .unset, .unset, .unset] [(.int p4)])) _
    refine XS.sipush X0.here hx rfl (hb hby at_2) ?_
    show Steps p.tables e below (s₁.setTop (mkF m 5 #[.val (.long q1), .second, .val (.long q2), .second, .val (.int p3), .val (.int p4), .val (.long q5), .second, .val (.long q6), .second, .unset, .unset, .unset, .unset, .unset, .unset, .unset, .unset, .unset, .unset, .unset, .unset] [(.int (255 : Int32)), (.int p4)])) _
    refine XS.iand X0.here hx rfl (hb hby at_5) rfl ?_
    show Steps p.tables e below (s₁.setTop (mkF m 6 #[.val (.long q1), .second, .val (.long q2), .second, .val (.int p3), .val (.int p4), .val (.long q5), .second, .val (.long q6), .second, .unset, .unset, .unset, .unset, .unset, .unset, .unset, .unset, .unset, .unset, .unset, .unset] [(.int (p4 &&& (255 : Int32)))])) _
    rw [← d_fl]
    show Steps p.tables e below (s₁.setTop (mkF m 6 #[.val (.long q1), .second, .val (.long q2), .second, .val (.int p3), .val (.int p4), .val (.long q5), .second, .val (.long q6), .second, .unset, .unset, .unset, .unset, .unset, .unset, .unset, .unset, .unset, .unset, .unset, .unset] [(.int fl)])) _
    refine XS.istore X0.here hx rfl (hb hby at_6) rfl (l' := #[.val (.long q1), .second, .val (.long q2), .second, .val (.int p3), .val (.int p4), .val (.long q5), .second, .val (.long q6), .second, .val (.int fl), .unset, .unset, .unset, .unset, .unset, .unset, .unset, .unset, .unset, .unset, .unset]) rfl ?_
    show Steps p.tables e below (s₁.setTop (mkF m 8 #[.val (.long q1), .second, .val (.long q2), .second, .val (.int p3), .val (.int p4), .val (.long q5), .second, .val (.long q6), .second, .val (.int fl), .unset, .unset, .unset, .unset, .unset, .unset, .unset, .unset, .unset, .unset, .unset] [])) _
    refine XS.iload X0.here hx rfl (hb hby at_8) rfl ?_
    show Steps p.tables e below (s₁.setTop (mkF m 10 #[.val (.long q1), .second, .val (.long q2), .second, .val (.int p3), .val (.int p4), .val (.long q5), .second, .val (.long q6), .second, .val (.int fl), .unset, .unset, .unset, .unset, .unset, .unset, .unset, .unset, .unset, .unset, .unset] [(.int p3)])) _
    refine XS.sipush X0.here hx rfl (hb hby at_10) ?_
    show Steps p.tables e below (s₁.setTop (mkF m 13 #[.val (.long q1), .second, .val (.long q2), .second, .val (.int p3), .val (.int p4), .val (.long q5), .second, .val (.long q6), .second, .val (.int fl), .unset, .unset, .unset, .unset, .unset, .unset, .unset, .unset, .unset, .unset, .unset] [(.int (255 : Int32)), (.int p3)])) _
    refine XS.iand X0.here hx rfl (hb hby at_13) rfl ?_
    show Steps p.tables e below (s₁.setTop (mkF m 14 #[.val (.long q1), .second, .val (.long q2), .second, .val (.int p3), .val (.int p4), .val (.long q5), .second, .val (.long q6), .second, .val (.int fl), .unset, .unset, .unset, .unset, .unset, .unset, .unset, .unset, .unset, .unset, .unset] [(.int (p3 &&& (255 : Int32)))])) _
    rw [← d_np]
    show Steps p.tables e below (s₁.setTop (mkF m 14 #[.val (.long q1), .second, .val (.long q2), .second, .val (.int p3), .val (.int p4), .val (.long q5), .second, .val (.long q6), .second, .val (.int fl), .unset, .unset, .unset, .unset, .unset, .unset, .unset, .unset, .unset, .unset, .unset] [(.int np)])) _
    refine XS.istore X0.here hx rfl (hb hby at_14) rfl (l' := #[.val (.long q1), .second, .val (.long q2), .second, .val (.int p3), .val (.int p4), .val (.long q5), .second, .val (.long q6), .second, .val (.int fl), .val (.int np), .unset, .unset, .unset, .unset, .unset, .unset, .unset, .unset, .unset, .unset]) rfl ?_
    show Steps p.tables e below (s₁.setTop (mkF m 16 #[.val (.long q1), .second, .val (.long q2), .second, .val (.int p3), .val (.int p4), .val (.long q5), .second, .val (.long q6), .second, .val (.int fl), .val (.int np), .unset, .unset, .unset, .unset, .unset, .unset, .unset, .unset, .unset, .unset] [])) _
    refine XS.iload X0.here hx rfl (hb hby at_16) rfl ?_
    show Steps p.tables e below (s₁.setTop (mkF m 18 #[.val (.long q1), .second, .val (.long q2), .second, .val (.int p3), .val (.int p4), .val (.long q5), .second, .val (.long q6), .second, .val (.int fl), .val (.int np), .unset, .unset, .unset, .unset, .unset, .unset, .unset, .unset, .unset, .unset] [(.int p3)])) _
    refine XS.bipush X0.here hx rfl (hb hby at_18) ?_
    show Steps p.tables e below (s₁.setTop (mkF m 20 #[.val (.long q1), .second, .val (.long q2), .second, .val (.int p3), .val (.int p4), .val (.long q5), .second, .val (.long q6), .second, .val (.int fl), .val (.int np), .unset, .unset, .unset, .unset, .unset, .unset, .unset, .unset, .unset, .unset] [(.int (8 : Int32)), (.int p3)])) _
    refine XS.iushr X0.here hx rfl (hb hby at_20) rfl ?_
    show Steps p.tables e below (s₁.setTop (mkF m 21 #[.val (.long q1), .second, .val (.long q2), .second, .val (.int p3), .val (.int p4), .val (.long q5), .second, .val (.long q6), .second, .val (.int fl), .val (.int np), .unset, .unset, .unset, .unset, .unset, .unset, .unset, .unset, .unset, .unset] [(.int ((p3.toUInt32 >>> ((8 : Int32) &&& 31).toUInt32).toInt32))])) _
    refine XS.bipush X0.here hx rfl (hb hby at_21) ?_
    show Steps p.tables e below (s₁.setTop (mkF m 23 #[.val (.long q1), .second, .val (.long q2), .second, .val (.int p3), .val (.int p4), .val (.long q5), .second, .val (.long q6), .second, .val (.int fl), .val (.int np), .unset, .unset, .unset, .unset, .unset, .unset, .unset, .unset, .unset, .unset] [(.int (15 : Int32)), (.int ((p3.toUInt32 >>> ((8 : Int32) &&& 31).toUInt32).toInt32))])) _
    refine XS.iand X0.here hx rfl (hb hby at_23) rfl ?_
    show Steps p.tables e below (s₁.setTop (mkF m 24 #[.val (.long q1), .second, .val (.long q2), .second, .val (.int p3), .val (.int p4), .val (.long q5), .second, .val (.long q6), .second, .val (.int fl), .val (.int np), .unset, .unset, .unset, .unset, .unset, .unset, .unset, .unset, .unset, .unset] [(.int (((p3.toUInt32 >>> ((8 : Int32) &&& 31).toUInt32).toInt32) &&& (15 : Int32)))])) _
    rw [← d_mj]
    show Steps p.tables e below (s₁.setTop (mkF m 24 #[.val (.long q1), .second, .val (.long q2), .second, .val (.int p3), .val (.int p4), .val (.long q5), .second, .val (.long q6), .second, .val (.int fl), .val (.int np), .unset, .unset, .unset, .unset, .unset, .unset, .unset, .unset, .unset, .unset] [(.int mj)])) _
    refine XS.istore X0.here hx rfl (hb hby at_24) rfl (l' := #[.val (.long q1), .second, .val (.long q2), .second, .val (.int p3), .val (.int p4), .val (.long q5), .second, .val (.long q6), .second, .val (.int fl), .val (.int np), .val (.int mj), .unset, .unset, .unset, .unset, .unset, .unset, .unset, .unset, .unset]) rfl ?_
    show Steps p.tables e below (s₁.setTop (mkF m 26 #[.val (.long q1), .second, .val (.long q2), .second, .val (.int p3), .val (.int p4), .val (.long q5), .second, .val (.long q6), .second, .val (.int fl), .val (.int np), .val (.int mj), .unset, .unset, .unset, .unset, .unset, .unset, .unset, .unset, .unset] [])) _
    refine XS.iload X0.here hx rfl (hb hby at_26) rfl ?_
    show Steps p.tables e below (s₁.setTop (mkF m 28 #[.val (.long q1), .second, .val (.long q2), .second, .val (.int p3), .val (.int p4), .val (.long q5), .second, .val (.long q6), .second, .val (.int fl), .val (.int np), .val (.int mj), .unset, .unset, .unset, .unset, .unset, .unset, .unset, .unset, .unset] [(.int p3)])) _
    refine XS.bipush X0.here hx rfl (hb hby at_28) ?_
    show Steps p.tables e below (s₁.setTop (mkF m 30 #[.val (.long q1), .second, .val (.long q2), .second, .val (.int p3), .val (.int p4), .val (.long q5), .second, .val (.long q6), .second, .val (.int fl), .val (.int np), .val (.int mj), .unset, .unset, .unset, .unset, .unset, .unset, .unset, .unset, .unset] [(.int (12 : Int32)), (.int p3)])) _
    refine XS.iushr X0.here hx rfl (hb hby at_30) rfl ?_
    show Steps p.tables e below (s₁.setTop (mkF m 31 #[.val (.long q1), .second, .val (.long q2), .second, .val (.int p3), .val (.int p4), .val (.long q5), .second, .val (.long q6), .second, .val (.int fl), .val (.int np), .val (.int mj), .unset, .unset, .unset, .unset, .unset, .unset, .unset, .unset, .unset] [(.int ((p3.toUInt32 >>> ((12 : Int32) &&& 31).toUInt32).toInt32))])) _
    refine XS.bipush X0.here hx rfl (hb hby at_31) ?_
    show Steps p.tables e below (s₁.setTop (mkF m 33 #[.val (.long q1), .second, .val (.long q2), .second, .val (.int p3), .val (.int p4), .val (.long q5), .second, .val (.long q6), .second, .val (.int fl), .val (.int np), .val (.int mj), .unset, .unset, .unset, .unset, .unset, .unset, .unset, .unset, .unset] [(.int (15 : Int32)), (.int ((p3.toUInt32 >>> ((12 : Int32) &&& 31).toUInt32).toInt32))])) _
    refine XS.iand X0.here hx rfl (hb hby at_33) rfl ?_
    show Steps p.tables e below (s₁.setTop (mkF m 34 #[.val (.long q1), .second, .val (.long q2), .second, .val (.int p3), .val (.int p4), .val (.long q5), .second, .val (.long q6), .second, .val (.int fl), .val (.int np), .val (.int mj), .unset, .unset, .unset, .unset, .unset, .unset, .unset, .unset, .unset] [(.int (((p3.toUInt32 >>> ((12 : Int32) &&& 31).toUInt32).toInt32) &&& (15 : Int32)))])) _
    rw [← d_mi]
    show Steps p.tables e below (s₁.setTop (mkF m 34 #[.val (.long q1), .second, .val (.long q2), .second, .val (.int p3), .val (.int p4), .val (.long q5), .second, .val (.long q6), .second, .val (.int fl), .val (.int np), .val (.int mj), .unset, .unset, .unset, .unset, .unset, .unset, .unset, .unset, .unset] [(.int mi)])) _
    refine XS.istore X0.here hx rfl (hb hby at_34) rfl (l' := #[.val (.long q1), .second, .val (.long q2), .second, .val (.int p3), .val (.int p4), .val (.long q5), .second, .val (.long q6), .second, .val (.int fl), .val (.int np), .val (.int mj), .val (.int mi), .unset, .unset, .unset, .unset, .unset, .unset, .unset, .unset]) rfl ?_
    show Steps p.tables e below (s₁.setTop (mkF m 36 #[.val (.long q1), .second, .val (.long q2), .second, .val (.int p3), .val (.int p4), .val (.long q5), .second, .val (.long q6), .second, .val (.int fl), .val (.int np), .val (.int mj), .val (.int mi), .unset, .unset, .unset, .unset, .unset, .unset, .unset, .unset] [])) _
    refine XS.iload X0.here hx rfl (hb hby at_36) rfl ?_
    show Steps p.tables e below (s₁.setTop (mkF m 38 #[.val (.long q1), .second, .val (.long q2), .second, .val (.int p3), .val (.int p4), .val (.long q5), .second, .val (.long q6), .second, .val (.int fl), .val (.int np), .val (.int mj), .val (.int mi), .unset, .unset, .unset, .unset, .unset, .unset, .unset, .unset] [(.int p3)])) _
    refine XS.bipush X0.here hx rfl (hb hby at_38) ?_
    show Steps p.tables e below (s₁.setTop (mkF m 40 #[.val (.long q1), .second, .val (.long q2), .second, .val (.int p3), .val (.int p4), .val (.long q5), .second, .val (.long q6), .second, .val (.int fl), .val (.int np), .val (.int mj), .val (.int mi), .unset, .unset, .unset, .unset, .unset, .unset, .unset, .unset] [(.int (16 : Int32)), (.int p3)])) _
    refine XS.iushr X0.here hx rfl (hb hby at_40) rfl ?_
    show Steps p.tables e below (s₁.setTop (mkF m 41 #[.val (.long q1), .second, .val (.long q2), .second, .val (.int p3), .val (.int p4), .val (.long q5), .second, .val (.long q6), .second, .val (.int fl), .val (.int np), .val (.int mj), .val (.int mi), .unset, .unset, .unset, .unset, .unset, .unset, .unset, .unset] [(.int ((p3.toUInt32 >>> ((16 : Int32) &&& 31).toUInt32).toInt32))])) _
    refine XS.sipush X0.here hx rfl (hb hby at_41) ?_
    show Steps p.tables e below (s₁.setTop (mkF m 44 #[.val (.long q1), .second, .val (.long q2), .second, .val (.int p3), .val (.int p4), .val (.long q5), .second, .val (.long q6), .second, .val (.int fl), .val (.int np), .val (.int mj), .val (.int mi), .unset, .unset, .unset, .unset, .unset, .unset, .unset, .unset] [(.int (255 : Int32)), (.int ((p3.toUInt32 >>> ((16 : Int32) &&& 31).toUInt32).toInt32))])) _
    refine XS.iand X0.here hx rfl (hb hby at_44) rfl ?_
    show Steps p.tables e below (s₁.setTop (mkF m 45 #[.val (.long q1), .second, .val (.long q2), .second, .val (.int p3), .val (.int p4), .val (.long q5), .second, .val (.long q6), .second, .val (.int fl), .val (.int np), .val (.int mj), .val (.int mi), .unset, .unset, .unset, .unset, .unset, .unset, .unset, .unset] [(.int (((p3.toUInt32 >>> ((16 : Int32) &&& 31).toUInt32).toInt32) &&& (255 : Int32)))])) _
    rw [← d_et]
    show Steps p.tables e below (s₁.setTop (mkF m 45 #[.val (.long q1), .second, .val (.long q2), .second, .val (.int p3), .val (.int p4), .val (.long q5), .second, .val (.long q6), .second, .val (.int fl), .val (.int np), .val (.int mj), .val (.int mi), .unset, .unset, .unset, .unset, .unset, .unset, .unset, .unset] [(.int et)])) _
    refine XS.istore X0.here hx rfl (hb hby at_45) rfl (l' := #[.val (.long q1), .second, .val (.long q2), .second, .val (.int p3), .val (.int p4), .val (.long q5), .second, .val (.long q6), .second, .val (.int fl), .val (.int np), .val (.int mj), .val (.int mi), .val (.int et), .unset, .unset, .unset, .unset, .unset, .unset, .unset]) rfl ?_
    show Steps p.tables e below (s₁.setTop (mkF m 47 #[.val (.long q1), .second, .val (.long q2), .second, .val (.int p3), .val (.int p4), .val (.long q5), .second, .val (.long q6), .second, .val (.int fl), .val (.int np), .val (.int mj), .val (.int mi), .val (.int et), .unset, .unset, .unset, .unset, .unset, .unset, .unset] [])) _
    refine XS.lload X0.here hx rfl (hb hby at_47) rfl ?_
    show Steps p.tables e below (s₁.setTop (mkF m 49 #[.val (.long q1), .second, .val (.long q2), .second, .val (.int p3), .val (.int p4), .val (.long q5), .second, .val (.long q6), .second, .val (.int fl), .val (.int np), .val (.int mj), .val (.int mi), .val (.int et), .unset, .unset, .unset, .unset, .unset, .unset, .unset] [(.long q5)])) _
    refine X0.ldc2Long hx hown_3 (mvT hZ_3 (hw _ (List.mem_of_getElem? (i := 0) rfl))) (g := (mkF m 49 #[.val (.long q1), .second, .val (.long q2), .second, .val (.int p3), .val (.int p4), .val (.long q5), .second, .val (.long q6), .second, .val (.int fl), .val (.int np), .val (.int mj), .val (.int mi), .val (.int et), .unset, .unset, .unset, .unset, .unset, .unset, .unset] [(.long q5)])) rfl (hb hby at_49) _ ?_
    show Steps p.tables e below (s₁.setTop (mkF m 52 #[.val (.long q1), .second, .val (.long q2), .second, .val (.int p3), .val (.int p4), .val (.long q5), .second, .val (.long q6), .second, .val (.int fl), .val (.int np), .val (.int mj), .val (.int mi), .val (.int et), .unset, .unset, .unset, .unset, .unset, .unset, .unset] [(.long (4294967295 : Int64)), (.long q5)])) _
    refine XS.land X0.here hx rfl (hb hby at_52) rfl ?_
    show Steps p.tables e below (s₁.setTop (mkF m 53 #[.val (.long q1), .second, .val (.long q2), .second, .val (.int p3), .val (.int p4), .val (.long q5), .second, .val (.long q6), .second, .val (.int fl), .val (.int np), .val (.int mj), .val (.int mi), .val (.int et), .unset, .unset, .unset, .unset, .unset, .unset, .unset] [(.long (q5 &&& (4294967295 : Int64)))])) _
    rw [← d_ml]
    show Steps p.tables e below (s₁.setTop (mkF m 53 #[.val (.long q1), .second, .val (.long q2), .second, .val (.int p3), .val (.int p4), .val (.long q5), .second, .val (.long q6), .second, .val (.int fl), .val (.int np), .val (.int mj), .val (.int mi), .val (.int et), .unset, .unset, .unset, .unset, .unset, .unset, .unset] [(.long ml)])) _
    refine XS.lstore X0.here hx rfl (hb hby at_53) rfl (l' := #[.val (.long q1), .second, .val (.long q2), .second, .val (.int p3), .val (.int p4), .val (.long q5), .second, .val (.long q6), .second, .val (.int fl), .val (.int np), .val (.int mj), .val (.int mi), .val (.int et), .val (.long ml), .second, .unset, .unset, .unset, .unset, .unset]) rfl ?_
    show Steps p.tables e below (s₁.setTop (mkF m 55 #[.val (.long q1), .second, .val (.long q2), .second, .val (.int p3), .val (.int p4), .val (.long q5), .second, .val (.long q6), .second, .val (.int fl), .val (.int np), .val (.int mj), .val (.int mi), .val (.int et), .val (.long ml), .second, .unset, .unset, .unset, .unset, .unset] [])) _
    refine XS.lload X0.here hx rfl (hb hby at_55) rfl ?_
    show Steps p.tables e below (s₁.setTop (mkF m 57 #[.val (.long q1), .second, .val (.long q2), .second, .val (.int p3), .val (.int p4), .val (.long q5), .second, .val (.long q6), .second, .val (.int fl), .val (.int np), .val (.int mj), .val (.int mi), .val (.int et), .val (.long ml), .second, .unset, .unset, .unset, .unset, .unset] [(.long q6)])) _
    refine X0.ldc2Long hx hown_3 (mvT hZ_3 (hw _ (List.mem_of_getElem? (i := 0) rfl))) (g := (mkF m 57 #[.val (.long q1), .second, .val (.long q2), .second, .val (.int p3), .val (.int p4), .val (.long q5), .second, .val (.long q6), .second, .val (.int fl), .val (.int np), .val (.int mj), .val (.int mi), .val (.int et), .val (.long ml), .second, .unset, .unset, .unset, .unset, .unset] [(.long q6)])) rfl (hb hby at_57) _ ?_
    show Steps p.tables e below (s₁.setTop (mkF m 60 #[.val (.long q1), .second, .val (.long q2), .second, .val (.int p3), .val (.int p4), .val (.long q5), .second, .val (.long q6), .second, .val (.int fl), .val (.int np), .val (.int mj), .val (.int mi), .val (.int et), .val (.long ml), .second, .unset, .unset, .unset, .unset, .unset] [(.long (4294967295 : Int64)), (.long q6)])) _
    refine XS.land X0.here hx rfl (hb hby at_60) rfl ?_
    show Steps p.tables e below (s₁.setTop (mkF m 61 #[.val (.long q1), .second, .val (.long q2), .second, .val (.int p3), .val (.int p4), .val (.long q5), .second, .val (.long q6), .second, .val (.int fl), .val (.int np), .val (.int mj), .val (.int mi), .val (.int et), .val (.long ml), .second, .unset, .unset, .unset, .unset, .unset] [(.long (q6 &&& (4294967295 : Int64)))])) _
    rw [← d_ll]
    show Steps p.tables e below (s₁.setTop (mkF m 61 #[.val (.long q1), .second, .val (.long q2), .second, .val (.int p3), .val (.int p4), .val (.long q5), .second, .val (.long q6), .second, .val (.int fl), .val (.int np), .val (.int mj), .val (.int mi), .val (.int et), .val (.long ml), .second, .unset, .unset, .unset, .unset, .unset] [(.long ll)])) _
    refine XS.lstore X0.here hx rfl (hb hby at_61) rfl (l' := #[.val (.long q1), .second, .val (.long q2), .second, .val (.int p3), .val (.int p4), .val (.long q5), .second, .val (.long q6), .second, .val (.int fl), .val (.int np), .val (.int mj), .val (.int mi), .val (.int et), .val (.long ml), .second, .val (.long ll), .second, .unset, .unset, .unset]) rfl ?_
    show Steps p.tables e below (s₁.setTop (mkF m 63 #[.val (.long q1), .second, .val (.long q2), .second, .val (.int p3), .val (.int p4), .val (.long q5), .second, .val (.long q6), .second, .val (.int fl), .val (.int np), .val (.int mj), .val (.int mi), .val (.int et), .val (.long ml), .second, .val (.long ll), .second, .unset, .unset, .unset] [])) _
    refine XS.iload X0.here hx rfl (hb hby at_63) rfl ?_
    show Steps p.tables e below (s₁.setTop (mkF m 65 #[.val (.long q1), .second, .val (.long q2), .second, .val (.int p3), .val (.int p4), .val (.long q5), .second, .val (.long q6), .second, .val (.int fl), .val (.int np), .val (.int mj), .val (.int mi), .val (.int et), .val (.long ml), .second, .val (.long ll), .second, .unset, .unset, .unset] [(.int fl)])) _
    refine XS.bipush X0.here hx rfl (hb hby at_65) ?_
    show Steps p.tables e below (s₁.setTop (mkF m 67 #[.val (.long q1), .second, .val (.long q2), .second, .val (.int p3), .val (.int p4), .val (.long q5), .second, .val (.long q6), .second, .val (.int fl), .val (.int np), .val (.int mj), .val (.int mi), .val (.int et), .val (.long ml), .second, .val (.long ll), .second, .unset, .unset, .unset] [(.int (64 : Int32)), (.int fl)])) _
    refine iremM X0 hx rfl (hb hby at_67) rfl (by decide) ?_
    show Steps p.tables e below (s₁.setTop (mkF m 68 #[.val (.long q1), .second, .val (.long q2), .second, .val (.int p3), .val (.int p4), .val (.long q5), .second, .val (.long q6), .second, .val (.int fl), .val (.int np), .val (.int mj), .val (.int mi), .val (.int et), .val (.long ml), .second, .val (.long ll), .second, .unset, .unset, .unset] [(.int (fl % (64 : Int32)))])) _
    refine XS.bipush X0.here hx rfl (hb hby at_68) ?_
    show Steps p.tables e below (s₁.setTop (mkF m 70 #[.val (.long q1), .second, .val (.long q2), .second, .val (.int p3), .val (.int p4), .val (.long q5), .second, .val (.long q6), .second, .val (.int fl), .val (.int np), .val (.int mj), .val (.int mi), .val (.int et), .val (.long ml), .second, .val (.long ll), .second, .unset, .unset, .unset] [(.int (32 : Int32)), (.int (fl % (64 : Int32)))])) _
    refine j1 _ ?_
    show Steps p.tables e below (s₁.setTop (mkF m 78 #[.val (.long q1), .second, .val (.long q2), .second, .val (.int p3), .val (.int p4), .val (.long q5), .second, .val (.long q6), .second, .val (.int fl), .val (.int np), .val (.int mj), .val (.int mi), .val (.int et), .val (.long ml), .second, .val (.long ll), .second, .unset, .unset, .unset] [(.int ex)])) _
    refine XS.istore X0.here hx rfl (hb hby at_78) rfl (l' := #[.val (.long q1), .second, .val (.long q2), .second, .val (.int p3), .val (.int p4), .val (.long q5), .second, .val (.long q6), .second, .val (.int fl), .val (.int np), .val (.int mj), .val (.int mi), .val (.int et), .val (.long ml), .second, .val (.long ll), .second, .val (.int ex), .unset, .unset]) rfl ?_
    show Steps p.tables e below (s₁.setTop (mkF m 80 #[.val (.long q1), .second, .val (.long q2), .second, .val (.int p3), .val (.int p4), .val (.long q5), .second, .val (.long q6), .second, .val (.int fl), .val (.int np), .val (.int mj), .val (.int mi), .val (.int et), .val (.long ml), .second, .val (.long ll), .second, .val (.int ex), .unset, .unset] [])) _
    refine st2 _ ?_
    show Steps p.tables e below (T2.setTop (mkF m 83 #[.val (.long q1), .second, .val (.long q2), .second, .val (.int p3), .val (.int p4), .val (.long q5), .second, .val (.long q6), .second, .val (.int fl), .val (.int np), .val (.int mj), .val (.int mi), .val (.int et), .val (.long ml), .second, .val (.long ll), .second, .val (.int ex), .unset, .unset] [(.ref b2)])) _
    refine XS.dup X2.here hx rfl (hb hby at_83) rfl rfl ?_
    show Steps p.tables e below (T2.setTop (mkF m 84 #[.val (.long q1), .second, .val (.long q2), .second, .val (.int p3), .val (.int p4), .val (.long q5), .second, .val (.long q6), .second, .val (.int fl), .val (.int np), .val (.int mj), .val (.int mi), .val (.int et), .val (.long ml), .second, .val (.long ll), .second, .val (.int ex), .unset, .unset] [(.ref b2), (.ref b2)])) _
    refine XS.lloadN X2.here hx rfl (hb hby at_84) rfl ?_
    show Steps p.tables e below (T2.setTop (mkF m 85 #[.val (.long q1), .second, .val (.long q2), .second, .val (.int p3), .val (.int p4), .val (.long q5), .second, .val (.long q6), .second, .val (.int fl), .val (.int np), .val (.int mj), .val (.int mi), .val (.int et), .val (.long ml), .second, .val (.long ll), .second, .val (.int ex), .unset, .unset] [(.long q1), (.ref b2), (.ref b2)])) _
    refine XS.lloadN X2.here hx rfl (hb hby at_85) rfl ?_
    show Steps p.tables e below (T2.setTop (mkF m 86 #[.val (.long q1), .second, .val (.long q2), .second, .val (.int p3), .val (.int p4), .val (.long q5), .second, .val (.long q6), .second, .val (.int fl), .val (.int np), .val (.int mj), .val (.int mi), .val (.int et), .val (.long ml), .second, .val (.long ll), .second, .val (.int ex), .unset, .unset] [(.long q2), (.long q1), (.ref b2), (.ref b2)])) _
    refine XS.iload X2.here hx rfl (hb hby at_86) rfl ?_
    show Steps p.tables e below (T2.setTop (mkF m 88 #[.val (.long q1), .second, .val (.long q2), .second, .val (.int p3), .val (.int p4), .val (.long q5), .second, .val (.long q6), .second, .val (.int fl), .val (.int np), .val (.int mj), .val (.int mi), .val (.int et), .val (.long ml), .second, .val (.long ll), .second, .val (.int ex), .unset, .unset] [(.int np), (.long q2), (.long q1), (.ref b2), (.ref b2)])) _
    refine XS.iload X2.here hx rfl (hb hby at_88) rfl ?_
    show Steps p.tables e below (T2.setTop (mkF m 90 #[.val (.long q1), .second, .val (.long q2), .second, .val (.int p3), .val (.int p4), .val (.long q5), .second, .val (.long q6), .second, .val (.int fl), .val (.int np), .val (.int mj), .val (.int mi), .val (.int et), .val (.long ml), .second, .val (.long ll), .second, .val (.int ex), .unset, .unset] [(.int mj), (.int np), (.long q2), (.long q1), (.ref b2), (.ref b2)])) _
    refine XS.iload X2.here hx rfl (hb hby at_90) rfl ?_
    show Steps p.tables e below (T2.setTop (mkF m 92 #[.val (.long q1), .second, .val (.long q2), .second, .val (.int p3), .val (.int p4), .val (.long q5), .second, .val (.long q6), .second, .val (.int fl), .val (.int np), .val (.int mj), .val (.int mi), .val (.int et), .val (.long ml), .second, .val (.long ll), .second, .val (.int ex), .unset, .unset] [(.int mi), (.int mj), (.int np), (.long q2), (.long q1), (.ref b2), (.ref b2)])) _
    refine XS.iload X2.here hx rfl (hb hby at_92) rfl ?_
    show Steps p.tables e below (T2.setTop (mkF m 94 #[.val (.long q1), .second, .val (.long q2), .second, .val (.int p3), .val (.int p4), .val (.long q5), .second, .val (.long q6), .second, .val (.int fl), .val (.int np), .val (.int mj), .val (.int mi), .val (.int et), .val (.long ml), .second, .val (.long ll), .second, .val (.int ex), .unset, .unset] [(.int et), (.int mi), (.int mj), (.int np), (.long q2), (.long q1), (.ref b2), (.ref b2)])) _
    refine XS.iload X2.here hx rfl (hb hby at_94) rfl ?_
    show Steps p.tables e below (T2.setTop (mkF m 96 #[.val (.long q1), .second, .val (.long q2), .second, .val (.int p3), .val (.int p4), .val (.long q5), .second, .val (.long q6), .second, .val (.int fl), .val (.int np), .val (.int mj), .val (.int mi), .val (.int et), .val (.long ml), .second, .val (.long ll), .second, .val (.int ex), .unset, .unset] [(.int fl), (.int et), (.int mi), (.int mj), (.int np), (.long q2), (.long q1), (.ref b2), (.ref b2)])) _
    refine XS.lload X2.here hx rfl (hb hby at_96) rfl ?_
    show Steps p.tables e below (T2.setTop (mkF m 98 #[.val (.long q1), .second, .val (.long q2), .second, .val (.int p3), .val (.int p4), .val (.long q5), .second, .val (.long q6), .second, .val (.int fl), .val (.int np), .val (.int mj), .val (.int mi), .val (.int et), .val (.long ml), .second, .val (.long ll), .second, .val (.int ex), .unset, .unset] [(.long ml), (.int fl), (.int et), (.int mi), (.int mj), (.int np), (.long q2), (.long q1), (.ref b2), (.ref b2)])) _
    refine XS.lload X2.here hx rfl (hb hby at_98) rfl ?_
    show Steps p.tables e below (T2.setTop (mkF m 100 #[.val (.long q1), .second, .val (.long q2), .second, .val (.int p3), .val (.int p4), .val (.long q5), .second, .val (.long q6), .second, .val (.int fl), .val (.int np), .val (.int mj), .val (.int mi), .val (.int et), .val (.long ml), .second, .val (.long ll), .second, .val (.int ex), .unset, .unset] [(.long ll), (.long ml), (.int fl), (.int et), (.int mi), (.int mj), (.int np), (.long q2), (.long q1), (.ref b2), (.ref b2)])) _
    refine st3.trans ?_
    show Steps p.tables e below (T3.setTop (mkF m 103 #[.val (.long q1), .second, .val (.long q2), .second, .val (.int p3), .val (.int p4), .val (.long q5), .second, .val (.long q6), .second, .val (.int fl), .val (.int np), .val (.int mj), .val (.int mi), .val (.int et), .val (.long ml), .second, .val (.long ll), .second, .val (.int ex), .unset, .unset] [(.ref b2)])) _
    refine XS.astore X3.here hx rfl (hb hby at_103) rfl rfl (l' := #[.val (.long q1), .second, .val (.long q2), .second, .val (.int p3), .val (.int p4), .val (.long q5), .second, .val (.long q6), .second, .val (.int fl), .val (.int np), .val (.int mj), .val (.int mi), .val (.int et), .val (.long ml), .second, .val (.long ll), .second, .val (.int ex), .val (.ref b2), .unset]) rfl ?_
    show Steps p.tables e below (T3.setTop (mkF m 105 #[.val (.long q1), .second, .val (.long q2), .second, .val (.int p3), .val (.int p4), .val (.long q5), .second, .val (.long q6), .second, .val (.int fl), .val (.int np), .val (.int mj), .val (.int mi), .val (.int et), .val (.long ml), .second, .val (.long ll), .second, .val (.int ex), .val (.ref b2), .unset] [])) _
    refine st4 _ ?_
    show Steps p.tables e below (T4.setTop (mkF m 108 #[.val (.long q1), .second, .val (.long q2), .second, .val (.int p3), .val (.int p4), .val (.long q5), .second, .val (.long q6), .second, .val (.int fl), .val (.int np), .val (.int mj), .val (.int mi), .val (.int et), .val (.long ml), .second, .val (.long ll), .second, .val (.int ex), .val (.ref b2), .unset] [(.ref b4)])) _
    refine XS.dup X4.here hx rfl (hb hby at_108) rfl rfl ?_
    show Steps p.tables e below (T4.setTop (mkF m 109 #[.val (.long q1), .second, .val (.long q2), .second, .val (.int p3), .val (.int p4), .val (.long q5), .second, .val (.long q6), .second, .val (.int fl), .val (.int np), .val (.int mj), .val (.int mi), .val (.int et), .val (.long ml), .second, .val (.long ll), .second, .val (.int ex), .val (.ref b2), .unset] [(.ref b4), (.ref b4)])) _
    refine XS.lloadN X4.here hx rfl (hb hby at_109) rfl ?_
    show Steps p.tables e below (T4.setTop (mkF m 110 #[.val (.long q1), .second, .val (.long q2), .second, .val (.int p3), .val (.int p4), .val (.long q5), .second, .val (.long q6), .second, .val (.int fl), .val (.int np), .val (.int mj), .val (.int mi), .val (.int et), .val (.long ml), .second, .val (.long ll), .second, .val (.int ex), .val (.ref b2), .unset] [(.long q1), (.ref b4), (.ref b4)])) _
    refine XS.lloadN X4.here hx rfl (hb hby at_110) rfl ?_
    show Steps p.tables e below (T4.setTop (mkF m 111 #[.val (.long q1), .second, .val (.long q2), .second, .val (.int p3), .val (.int p4), .val (.long q5), .second, .val (.long q6), .second, .val (.int fl), .val (.int np), .val (.int mj), .val (.int mi), .val (.int et), .val (.long ml), .second, .val (.long ll), .second, .val (.int ex), .val (.ref b2), .unset] [(.long q2), (.long q1), (.ref b4), (.ref b4)])) _
    refine XS.iload X4.here hx rfl (hb hby at_111) rfl ?_
    show Steps p.tables e below (T4.setTop (mkF m 113 #[.val (.long q1), .second, .val (.long q2), .second, .val (.int p3), .val (.int p4), .val (.long q5), .second, .val (.long q6), .second, .val (.int fl), .val (.int np), .val (.int mj), .val (.int mi), .val (.int et), .val (.long ml), .second, .val (.long ll), .second, .val (.int ex), .val (.ref b2), .unset] [(.int np), (.long q2), (.long q1), (.ref b4), (.ref b4)])) _
    refine XS.iload X4.here hx rfl (hb hby at_113) rfl ?_
    show Steps p.tables e below (T4.setTop (mkF m 115 #[.val (.long q1), .second, .val (.long q2), .second, .val (.int p3), .val (.int p4), .val (.long q5), .second, .val (.long q6), .second, .val (.int fl), .val (.int np), .val (.int mj), .val (.int mi), .val (.int et), .val (.long ml), .second, .val (.long ll), .second, .val (.int ex), .val (.ref b2), .unset] [(.int mj), (.int np), (.long q2), (.long q1), (.ref b4), (.ref b4)])) _
    refine XS.iload X4.here hx rfl (hb hby at_115) rfl ?_
    show Steps p.tables e below (T4.setTop (mkF m 117 #[.val (.long q1), .second, .val (.long q2), .second, .val (.int p3), .val (.int p4), .val (.long q5), .second, .val (.long q6), .second, .val (.int fl), .val (.int np), .val (.int mj), .val (.int mi), .val (.int et), .val (.long ml), .second, .val (.long ll), .second, .val (.int ex), .val (.ref b2), .unset] [(.int mi), (.int mj), (.int np), (.long q2), (.long q1), (.ref b4), (.ref b4)])) _
    refine XS.iload X4.here hx rfl (hb hby at_117) rfl ?_
    show Steps p.tables e below (T4.setTop (mkF m 119 #[.val (.long q1), .second, .val (.long q2), .second, .val (.int p3), .val (.int p4), .val (.long q5), .second, .val (.long q6), .second, .val (.int fl), .val (.int np), .val (.int mj), .val (.int mi), .val (.int et), .val (.long ml), .second, .val (.long ll), .second, .val (.int ex), .val (.ref b2), .unset] [(.int et), (.int mi), (.int mj), (.int np), (.long q2), (.long q1), (.ref b4), (.ref b4)])) _
    refine XS.iload X4.here hx rfl (hb hby at_119) rfl ?_
    show Steps p.tables e below (T4.setTop (mkF m 121 #[.val (.long q1), .second, .val (.long q2), .second, .val (.int p3), .val (.int p4), .val (.long q5), .second, .val (.long q6), .second, .val (.int fl), .val (.int np), .val (.int mj), .val (.int mi), .val (.int et), .val (.long ml), .second, .val (.long ll), .second, .val (.int ex), .val (.ref b2), .unset] [(.int fl), (.int et), (.int mi), (.int mj), (.int np), (.long q2), (.long q1), (.ref b4), (.ref b4)])) _
    refine XS.bipush X4.here hx rfl (hb hby at_121) ?_
    show Steps p.tables e below (T4.setTop (mkF m 123 #[.val (.long q1), .second, .val (.long q2), .second, .val (.int p3), .val (.int p4), .val (.long q5), .second, .val (.long q6), .second, .val (.int fl), .val (.int np), .val (.int mj), .val (.int mi), .val (.int et), .val (.long ml), .second, .val (.long ll), .second, .val (.int ex), .val (.ref b2), .unset] [(.int (32 : Int32)), (.int fl), (.int et), (.int mi), (.int mj), (.int np), (.long q2), (.long q1), (.ref b4), (.ref b4)])) _
    refine XS.ixor X4.here hx rfl (hb hby at_123) rfl ?_
    show Steps p.tables e below (T4.setTop (mkF m 124 #[.val (.long q1), .second, .val (.long q2), .second, .val (.int p3), .val (.int p4), .val (.long q5), .second, .val (.long q6), .second, .val (.int fl), .val (.int np), .val (.int mj), .val (.int mi), .val (.int et), .val (.long ml), .second, .val (.long ll), .second, .val (.int ex), .val (.ref b2), .unset] [(.int (fl ^^^ (32 : Int32))), (.int et), (.int mi), (.int mj), (.int np), (.long q2), (.long q1), (.ref b4), (.ref b4)])) _
    refine XS.lload X4.here hx rfl (hb hby at_124) rfl ?_
    show Steps p.tables e below (T4.setTop (mkF m 126 #[.val (.long q1), .second, .val (.long q2), .second, .val (.int p3), .val (.int p4), .val (.long q5), .second, .val (.long q6), .second, .val (.int fl), .val (.int np), .val (.int mj), .val (.int mi), .val (.int et), .val (.long ml), .second, .val (.long ll), .second, .val (.int ex), .val (.ref b2), .unset] [(.long ml), (.int (fl ^^^ (32 : Int32))), (.int et), (.int mi), (.int mj), (.int np), (.long q2), (.long q1), (.ref b4), (.ref b4)])) _
    refine XS.lload X4.here hx rfl (hb hby at_126) rfl ?_
    show Steps p.tables e below (T4.setTop (mkF m 128 #[.val (.long q1), .second, .val (.long q2), .second, .val (.int p3), .val (.int p4), .val (.long q5), .second, .val (.long q6), .second, .val (.int fl), .val (.int np), .val (.int mj), .val (.int mi), .val (.int et), .val (.long ml), .second, .val (.long ll), .second, .val (.int ex), .val (.ref b2), .unset] [(.long ll), (.long ml), (.int (fl ^^^ (32 : Int32))), (.int et), (.int mi), (.int mj), (.int np), (.long q2), (.long q1), (.ref b4), (.ref b4)])) _
    refine st5.trans ?_
    show Steps p.tables e below (T5.setTop (mkF m 131 #[.val (.long q1), .second, .val (.long q2), .second, .val (.int p3), .val (.int p4), .val (.long q5), .second, .val (.long q6), .second, .val (.int fl), .val (.int np), .val (.int mj), .val (.int mi), .val (.int et), .val (.long ml), .second, .val (.long ll), .second, .val (.int ex), .val (.ref b2), .unset] [(.ref b4)])) _
    refine XS.astore X5.here hx rfl (hb hby at_131) rfl rfl (l' := #[.val (.long q1), .second, .val (.long q2), .second, .val (.int p3), .val (.int p4), .val (.long q5), .second, .val (.long q6), .second, .val (.int fl), .val (.int np), .val (.int mj), .val (.int mi), .val (.int et), .val (.long ml), .second, .val (.long ll), .second, .val (.int ex), .val (.ref b2), .val (.ref b4)]) rfl ?_
    show Steps p.tables e below (T5.setTop (mkF m 133 #[.val (.long q1), .second, .val (.long q2), .second, .val (.int p3), .val (.int p4), .val (.long q5), .second, .val (.long q6), .second, .val (.int fl), .val (.int np), .val (.int mj), .val (.int mi), .val (.int et), .val (.long ml), .second, .val (.long ll), .second, .val (.int ex), .val (.ref b2), .val (.ref b4)] [])) _
    refine XS.aload X5.here hx rfl (hb hby at_133) rfl rfl ?_
    show Steps p.tables e below (T5.setTop (mkF m 135 #[.val (.long q1), .second, .val (.long q2), .second, .val (.int p3), .val (.int p4), .val (.long q5), .second, .val (.long q6), .second, .val (.int fl), .val (.int np), .val (.int mj), .val (.int mi), .val (.int et), .val (.long ml), .second, .val (.long ll), .second, .val (.int ex), .val (.ref b2), .val (.ref b4)] [(.ref b2)])) _
    refine st6.trans ?_
    show Steps p.tables e below (T6.setTop (mkF m 138 #[.val (.long q1), .second, .val (.long q2), .second, .val (.int p3), .val (.int p4), .val (.long q5), .second, .val (.long q6), .second, .val (.int fl), .val (.int np), .val (.int mj), .val (.int mi), .val (.int et), .val (.long ml), .second, .val (.long ll), .second, .val (.int ex), .val (.ref b2), .val (.ref b4)] [(.int ga)])) _
    refine XS.iload X6.here hx rfl (hb hby at_138) rfl ?_
    show Steps p.tables e below (T6.setTop (mkF m 140 #[.val (.long q1), .second, .val (.long q2), .second, .val (.int p3), .val (.int p4), .val (.long q5), .second, .val (.long q6), .second, .val (.int fl), .val (.int np), .val (.int mj), .val (.int mi), .val (.int et), .val (.long ml), .second, .val (.long ll), .second, .val (.int ex), .val (.ref b2), .val (.ref b4)] [(.int ex), (.int ga)])) _
    refine XS.icmpNo X6.here hx rfl (hb hby at_140) rfl (teq hc140).2 ?_
    show Steps p.tables e below (T6.setTop (mkF m 143 #[.val (.long q1), .second, .val (.long q2), .second, .val (.int p3), .val (.int p4), .val (.long q5), .second, .val (.long q6), .second, .val (.int fl), .val (.int np), .val (.int mj), .val (.int mi), .val (.int et), .val (.long ml), .second, .val (.long ll), .second, .val (.int ex), .val (.ref b2), .val (.ref b4)] [])) _
    refine XS.aload X6.here hx rfl (hb hby at_143) rfl rfl ?_
    show Steps p.tables e below (T6.setTop (mkF m 145 #[.val (.long q1), .second, .val (.long q2), .second, .val (.int p3), .val (.int p4), .val (.long q5), .second, .val (.long q6), .second, .val (.int fl), .val (.int np), .val (.int mj), .val (.int mi), .val (.int et), .val (.long ml), .second, .val (.long ll), .second, .val (.int ex), .val (.ref b2), .val (.ref b4)] [(.ref b4)])) _
    refine st7.trans ?_
    show Steps p.tables e below (T7.setTop (mkF m 148 #[.val (.long q1), .second, .val (.long q2), .second, .val (.int p3), .val (.int p4), .val (.long q5), .second, .val (.long q6), .second, .val (.int fl), .val (.int np), .val (.int mj), .val (.int mi), .val (.int et), .val (.long ml), .second, .val (.long ll), .second, .val (.int ex), .val (.ref b2), .val (.ref b4)] [(.int gb)])) _
    refine XS.iload X7.here hx rfl (hb hby at_148) rfl ?_
    show Steps p.tables e below (T7.setTop (mkF m 150 #[.val (.long q1), .second, .val (.long q2), .second, .val (.int p3), .val (.int p4), .val (.long q5), .second, .val (.long q6), .second, .val (.int fl), .val (.int np), .val (.int mj), .val (.int mi), .val (.int et), .val (.long ml), .second, .val (.long ll), .second, .val (.int ex), .val (.ref b2), .val (.ref b4)] [(.int ex), (.int gb)])) _
    refine j8 _ ?_
    show Steps p.tables e below (T7.setTop (mkF m 158 #[.val (.long q1), .second, .val (.long q2), .second, .val (.int p3), .val (.int p4), .val (.long q5), .second, .val (.long q6), .second, .val (.int fl), .val (.int np), .val (.int mj), .val (.int mi), .val (.int et), .val (.long ml), .second, .val (.long ll), .second, .val (.int ex), .val (.ref b2), .val (.ref b4)] [(.int no), (.int gb)])) _
    refine XS.icmpNo X7.here hx rfl (hb hby at_158) rfl (teq hc158).2 ?_
    show Steps p.tables e below (T7.setTop (mkF m 161 #[.val (.long q1), .second, .val (.long q2), .second, .val (.int p3), .val (.int p4), .val (.long q5), .second, .val (.long q6), .second, .val (.int fl), .val (.int np), .val (.int mj), .val (.int mi), .val (.int et), .val (.long ml), .second, .val (.long ll), .second, .val (.int ex), .val (.ref b2), .val (.ref b4)] [])) _
    refine XS.iconst X7.here hx rfl (hb hby at_161) ?_
    show Steps p.tables e below (T7.setTop (mkF m 162 #[.val (.long q1), .second, .val (.long q2), .second, .val (.int p3), .val (.int p4), .val (.long q5), .second, .val (.long q6), .second, .val (.int fl), .val (.int np), .val (.int mj), .val (.int mi), .val (.int et), .val (.long ml), .second, .val (.long ll), .second, .val (.int ex), .val (.ref b2), .val (.ref b4)] [(.int (1 : Int32))])) _
    refine XS.goto X7.here hx rfl (pc0 := 162) (pc' := 166) rfl (hb hby at_162) (by decide) (by decide) ?_
    show Steps p.tables e below (T7.setTop (mkF m 166 #[.val (.long q1), .second, .val (.long q2), .second, .val (.int p3), .val (.int p4), .val (.long q5), .second, .val (.long q6), .second, .val (.int fl), .val (.int np), .val (.int mj), .val (.int mi), .val (.int et), .val (.long ml), .second, .val (.long ll), .second, .val (.int ex), .val (.ref b2), .val (.ref b4)] [(.int (1 : Int32))])) _
    exact retN X7 hx (t := .boolean) Bd.returns (by simp) (hb hby at_166) hr
  · show Q0 Z q1 q2 p3 p4 q5 q6 h0 n0 _ T7.heap _
    rw [e7]
    exact ⟨rfl, N7⟩
set_option maxRecDepth 65536 in
set_option maxHeartbeats 40000000 in
theorem comes_1 {Post : Tables → Env → Array Value → State → Outcome → State → Prop} (hpost : ∀ tb e args s v u, (limb_1_1.after args s (.returned v) u = true ∧ limb_1_2.after args s (.returned v) u = true ∧ True) → ReturnedEndW s (.returned v) u (Jvm.fieldLocs frame_1_writes args s ++ Jvm.arrayLocs frame_1_arrays args s ++ Jvm.staticLocs frame_1_statics s) 32 7296 → Post tb e args s (.returned v) u) :
    ArmFor flags0 classFile x code maxLocals ret World_1 tables_1 room_1 Calls_1 rest_1 Pre_1 Post := by
  intro l hfl _ _ p e ha hc hk s m args below hf hA hF happ hP
  obtain ⟨hcalls, hrest, hpre⟩ := hP
  obtain ⟨-, -, -, hnamed, -, -, -, hat⟩ := (Spec.applies_iff hf).mp happ
  obtain ⟨hg, hn⟩ := and_e (Cond.before_iff.mp (show (Jvm.Cond.and given_1 narrow_1).before args s = true from hpre))
  obtain ⟨hct, hg⟩ := and_e hg
  obtain ⟨ga0, hg⟩ := and_e hg
  obtain ⟨ga1, hg⟩ := and_e hg
  obtain ⟨ga2, hg⟩ := and_e hg
  obtain ⟨ga3, hg⟩ := and_e hg
  obtain ⟨ga4, hg⟩ := and_e hg
  have ga5 := hg
  obtain ⟨w0, w1, w2, w3, w4, w5, rfl⟩ : ∃ w0 w1 w2 w3 w4 w5 : Value, args = #[w0, w1, w2, w3, w4, w5] := by
    have hs : args.size = 6 := by simpa [Cond.value, given_1] using hct
    obtain ⟨L⟩ := args
    match L, hs with
    | [w0, w1, w2, w3, w4, w5], _ => exact ⟨w0, w1, w2, w3, w4, w5, rfl⟩
  have hw := fun d (hd : d ∈ tables_1) => atoms_spec (ws := Jvm.Cond.code x code maxLocals ret :: tables_1) hat d (List.mem_cons_of_mem _ hd)
  obtain ⟨i0, ei0⟩ := isL_v ga0
  obtain rfl : w0 = (.long i0) := Option.some.inj ei0
  obtain ⟨i1, ei1⟩ := isL_v ga1
  obtain rfl : w1 = (.long i1) := Option.some.inj ei1
  obtain ⟨i2, ei2⟩ := is_v ga2
  obtain rfl : w2 = (.int i2) := Option.some.inj ei2
  obtain ⟨i3, ei3⟩ := is_v ga3
  obtain rfl : w3 = (.int i3) := Option.some.inj ei3
  obtain ⟨i4, ei4⟩ := isL_v ga4
  obtain rfl : w4 = (.long i4) := Option.some.inj ei4
  obtain ⟨i5, ei5⟩ := isL_v ga5
  obtain rfl : w5 = (.long i5) := Option.some.inj ei5
  obtain ⟨n, o, h1, h2, h3, _, L, rfl, ⟨rfl, N⟩, hq⟩ := rm0 l s _ hw tables_1 i0 i1 i2 i3 i4 i5 s.heap s.heap.size (Nat.le_refl _)  p e ha hc hk s m _ below hf ((Spec.applies_iff_loose hf).mp happ).1 ⟨rfl, State.Warmed39.refl s, rfl⟩ trivial
  refine ⟨n, _, h1, h2, h3, hpost _ _ _ _ _ _ ⟨Cond.after_iff.mpr rfl, Cond.after_iff.mpr (eq_i res_at (Term.int_eval (1)) rfl), trivial⟩ ⟨hq.1, hq.2.1, hq.2.2.1, (hq.2.2.2.sift fun y hy => Or.inr (N y hy)).mono (by decide) (by decide)⟩⟩
theorem main_1_1 : Claimed_1_1 := comes_1 fun _ _ _ _ _ _ h hF => ⟨h.1, hF⟩
theorem main_1_2 : Claimed_1_2 := comes_1 fun _ _ _ _ _ _ h hF => ⟨h.2.1, hF⟩
end Jvm.Pilot.@@N@@
namespace Jvm.Pilot.@@N@@
open Jvm Jvm.ClassFile Sem Op Lib Jvm.Free Jvm.Stand Jvm.Pilot.@@N@@.Jvm.D
/-! MADE BY PROGRAM (witnessworld.py) out of the Statement's table words and the real class files: 15 classes; the members and pool entries that the words name. The judged class is class 1, her method 1. -/
namespace start1
open Jvm.ClassFile
def u (s : String) : CpInfo := .utf8 (stringToUtf16 s)
/-- a pool by its gaps: so many unusable entries, then the entry; so many at the end -/
def gap : Nat → List CpInfo → List CpInfo
  | 0, r => r
  | n + 1, r => .unusable :: gap n r
def poolList (es : List (Nat × CpInfo)) (last : Nat) : List CpInfo := es.foldr (fun e r => gap e.1 (e.2 :: r)) (gap last [])
def pool (es : List (Nat × CpInfo)) (last : Nat) : Array CpInfo := ⟨poolList es last⟩
def fileOf (pool : Array CpInfo) (this : Nat) (attrs : Array Attribute := #[]) (ms : Array MethodInfo := #[]) (fl : Nat := 33) (sup : Nat := 0) (ifs : Array Nat := #[]) (fds : Array FieldInfo := #[]) : ClassFile where
  minorVersion := 0
  majorVersion := 65
  constantPool := pool
  accessFlags := fl
  thisClass := this
  superClass := sup
  interfaces := ifs
  fields := fds
  methods := ms
  attributes := attrs
def plain (name : String) (sup : Option ClassId) : Class where
  name := name
  kind := .ordinary
  loader := none
  accessFlags := 33
  super := sup
  interfaces := #[]
  cf := none
  fields := #[]
  methods := #[]
  instanceTypes := #[]
  staticTypes := #[]
  resolved := #[]
  callSites := []
  init := .initialized
  statics := none
  mirror := none

def pool0 : Array CpInfo := pool [(5, u "<init>"), (0, u "()V"), (1, .class_ 10), (1, u "java/lang/Object")] 113

def k0c0 : Code := { maxStack := 0, maxLocals := 1, code := object_method_1_code, exceptionTable := #[], attributes := #[] }
def k0m0 : Method := { name := "<init>", desc := "()V", sig := { parameters := [], returnType := none }, accessFlags := 1, code := some k0c0 }
/-- java/lang/Object -/
def k0 : Class := { plain "java/lang/Object" none with
  accessFlags := 33
  interfaces := #[]
  cf := some (fileOf pool0 8 #[] #[{ accessFlags := 1, nameIndex := 5, descriptorIndex := 6, attributes := #[] }] 33 0 #[] #[])
  fields := #[]
  methods := #[k0m0]
  instanceTypes := #[]
  staticTypes := #[]
  resolved := Array.replicate 124 none
  statics := none }

def pool1 : Array CpInfo := pool [(2, .class_ 4), (1, u "java/lang/Object"), (0, u "<init>"), (0, u "()V"), (0, .long 4294967295), (1, .class_ 10), (0, u "com/example/meticulous_audit/meticulousaudit/ike/IkeHeader"), (0, .methodref 9 12), (0, .nameAndType 5 13), (0, u "(JJIIIIIJJ)V"), (0, .methodref 9 15), (0, .nameAndType 16 17), (0, u "isResponse"), (0, u "()Z"), (0, .class_ 19), (0, u "com/example/meticulous_audit/meticulousaudit/ike/IkeHeaderIsResponsePinLaw"), (2, u "law"), (0, u "(JJIIJJ)Z")] 3

def k1m0 : Method := { name := "<init>", desc := "()V", sig := { parameters := [], returnType := none }, accessFlags := 1, code := none }
def k1c1 : Code := { maxStack := 15, maxLocals := 22, code := code, exceptionTable := #[], attributes := #[] }
def k1m1 : Method := { name := "law", desc := "(JJIIJJ)Z", sig := { parameters := [.long, .long, .int, .int, .long, .long], returnType := some .boolean }, accessFlags := 9, code := some k1c1 }
/-- com/example/meticulous_audit/meticulousaudit/ike/IkeHeaderIsResponsePinLaw -/
def k1 : Class := { plain "com/example/meticulous_audit/meticulousaudit/ike/IkeHeaderIsResponsePinLaw" (some 0) with
  accessFlags := 49
  interfaces := #[]
  cf := some (fileOf pool1 18 #[] #[{ accessFlags := 1, nameIndex := 5, descriptorIndex := 6, attributes := #[] }, { accessFlags := 9, nameIndex := 22, descriptorIndex := 23, attributes := #[] }] 49 2 #[] #[])
  fields := #[]
  methods := #[k1m0, k1m1]
  instanceTypes := #[]
  staticTypes := #[]
  resolved := Array.replicate 27 none
  statics := none }

def pool2 : Array CpInfo := pool [(1, .methodref 2 3), (0, .class_ 4), (0, .nameAndType 5 6), (0, u "java/lang/Object"), (0, u "<init>"), (0, u "()V"), (0, .class_ 8), (0, u "java/lang/Record")] 13

def k2c0 : Code := { maxStack := 1, maxLocals := 1, code := jdk_30_method_1_code, exceptionTable := #[], attributes := #[] }
def k2m0 : Method := { name := "<init>", desc := "()V", sig := { parameters := [], returnType := none }, accessFlags := 4, code := some k2c0 }
/-- java/lang/Record -/
def k2 : Class := { plain "java/lang/Record" (some 0) with
  accessFlags := 1057
  interfaces := #[]
  cf := some (fileOf pool2 7 #[] #[{ accessFlags := 4, nameIndex := 5, descriptorIndex := 6, attributes := #[] }] 1057 2 #[] #[])
  fields := #[]
  methods := #[k2m0]
  instanceTypes := #[]
  staticTypes := #[]
  resolved := Array.replicate 22 none
  statics := none }

def pool3 : Array CpInfo := pool [(1, .methodref 2 3), (0, .class_ 4), (0, .nameAndType 5 6), (0, u "java/lang/Record"), (0, u "<init>"), (0, u "()V"), (0, .string 8), (0, u "next payload"), (0, .long 255), (1, .methodref 12 13), (0, .class_ 14), (0, .nameAndType 15 16), (0, u "com/example/meticulous_audit/meticulousaudit/ike/IkeHeader"), (0, u "checkRange"), (0, u "(Ljava/lang/String;JJ)V"), (0, .string 18), (0, u "major version"), (0, .long 15), (1, .string 22), (0, u "minor version"), (0, .string 24), (0, u "exchange type"), (0, .string 26), (0, u "flags"), (0, .string 28), (0, u "message ID"), (0, .long 4294967295), (1, .string 32), (0, u "length"), (0, .fieldref 12 34), (0, .nameAndType 35 36), (0, u "initiatorSpi"), (0, u "J"), (0, .fieldref 12 38), (0, .nameAndType 39 36), (0, u "responderSpi"), (0, .fieldref 12 41), (0, .nameAndType 42 43), (0, u "nextPayload"), (0, u "I"), (0, .fieldref 12 45), (0, .nameAndType 46 43), (0, u "majorVersion"), (0, .fieldref 12 48), (0, .nameAndType 49 43), (0, u "minorVersion"), (0, .fieldref 12 51), (0, .nameAndType 52 43), (0, u "exchangeType"), (0, .fieldref 12 54), (0, .nameAndType 26 43), (0, .fieldref 12 56), (0, .nameAndType 57 36), (0, u "messageId"), (0, .fieldref 12 59), (0, .nameAndType 32 36), (60, u "(JJIIIIIJJ)V"), (33, u "SIZE"), (2, u "INITIATOR"), (1, u "VERSION"), (1, u "RESPONSE"), (1, u "MAX_UNSIGNED_32"), (10, u "()Z"), (0, u "isResponse")] 40

def k3c0 : Code := { maxStack := 5, maxLocals := 14, code := prog_18_method_1_code, exceptionTable := #[], attributes := #[] }
def k3m0 : Method := { name := "<init>", desc := "(JJIIIIIJJ)V", sig := { parameters := [.long, .long, .int, .int, .int, .int, .int, .long, .long], returnType := none }, accessFlags := 1, code := some k3c0 }
def k3c1 : Code := { maxStack := 2, maxLocals := 1, code := prog_18_method_5_code, exceptionTable := #[], attributes := #[] }
def k3m1 : Method := { name := "isResponse", desc := "()Z", sig := { parameters := [], returnType := some .boolean }, accessFlags := 1, code := some k3c1 }
def k3c2 : Code := { maxStack := 7, maxLocals := 5, code := prog_18_method_6_code, exceptionTable := #[], attributes := #[] }
def k3m2 : Method := { name := "checkRange", desc := "(Ljava/lang/String;JJ)V", sig := { parameters := [(.object "java/lang/String"), .long, .long], returnType := none }, accessFlags := 10, code := some k3c2 }
/-- com/example/meticulous_audit/meticulousaudit/ike/IkeHeader -/
def k3 : Class := { plain "com/example/meticulous_audit/meticulousaudit/ike/IkeHeader" (some 2) with
  accessFlags := 49
  interfaces := #[]
  cf := some (fileOf pool3 12 #[] #[{ accessFlags := 1, nameIndex := 5, descriptorIndex := 120, attributes := #[] }, { accessFlags := 1, nameIndex := 175, descriptorIndex := 174, attributes := #[] }, { accessFlags := 10, nameIndex := 15, descriptorIndex := 16, attributes := #[] }] 49 2 #[] #[{ accessFlags := 18, nameIndex := 35, descriptorIndex := 36, attributes := #[] }, { accessFlags := 18, nameIndex := 39, descriptorIndex := 36, attributes := #[] }, { accessFlags := 18, nameIndex := 42, descriptorIndex := 43, attributes := #[] }, { accessFlags := 18, nameIndex := 46, descriptorIndex := 43, attributes := #[] }, { accessFlags := 18, nameIndex := 49, descriptorIndex := 43, attributes := #[] }, { accessFlags := 18, nameIndex := 52, descriptorIndex := 43, attributes := #[] }, { accessFlags := 18, nameIndex := 26, descriptorIndex := 43, attributes := #[] }, { accessFlags := 18, nameIndex := 57, descriptorIndex := 36, attributes := #[] }, { accessFlags := 18, nameIndex := 32, descriptorIndex := 36, attributes := #[] }, { accessFlags := 25, nameIndex := 154, descriptorIndex := 43, attributes := #[] }, { accessFlags := 25, nameIndex := 157, descriptorIndex := 43, attributes := #[] }, { accessFlags := 25, nameIndex := 159, descriptorIndex := 43, attributes := #[] }, { accessFlags := 25, nameIndex := 161, descriptorIndex := 43, attributes := #[] }, { accessFlags := 26, nameIndex := 163, descriptorIndex := 36, attributes := #[] }])
  fields := #[{ name := "initiatorSpi", type := .long, accessFlags := 18, slot := 0, constantValue := 0 }, { name := "responderSpi", type := .long, accessFlags := 18, slot := 1, constantValue := 0 }, { name := "nextPayload", type := .int, accessFlags := 18, slot := 2, constantValue := 0 }, { name := "majorVersion", type := .int, accessFlags := 18, slot := 3, constantValue := 0 }, { name := "minorVersion", type := .int, accessFlags := 18, slot := 4, constantValue := 0 }, { name := "exchangeType", type := .int, accessFlags := 18, slot := 5, constantValue := 0 }, { name := "flags", type := .int, accessFlags := 18, slot := 6, constantValue := 0 }, { name := "messageId", type := .long, accessFlags := 18, slot := 7, constantValue := 0 }, { name := "length", type := .long, accessFlags := 18, slot := 8, constantValue := 0 }, { name := "SIZE", type := .int, accessFlags := 25, slot := 0, constantValue := 0 }, { name := "INITIATOR", type := .int, accessFlags := 25, slot := 1, constantValue := 0 }, { name := "VERSION", type := .int, accessFlags := 25, slot := 2, constantValue := 0 }, { name := "RESPONSE", type := .int, accessFlags := 25, slot := 3, constantValue := 0 }, { name := "MAX_UNSIGNED_32", type := .long, accessFlags := 26, slot := 4, constantValue := 0 }]
  methods := #[k3m0, k3m1, k3m2]
  instanceTypes := #[.long, .long, .int, .int, .int, .int, .int, .long, .long]
  staticTypes := #[.int, .int, .int, .int, .long]
  resolved := Array.replicate 216 none
  statics := none }

def pool4 : Array CpInfo := pool [(1, .class_ 2), (0, u "java/io/Serializable"), (0, .class_ 4), (0, u "java/lang/Object")] 2

/-- java/io/Serializable -/
def k4 : Class := { plain "java/io/Serializable" (some 0) with
  accessFlags := 1537
  interfaces := #[]
  cf := some (fileOf pool4 1 #[] #[] 1537 3 #[] #[])
  fields := #[]
  methods := #[]
  instanceTypes := #[]
  staticTypes := #[]
  resolved := Array.replicate 7 none
  statics := none }

def pool5 : Array CpInfo := pool [(1, .class_ 2), (0, u "java/lang/Comparable"), (0, .class_ 4), (0, u "java/lang/Object")] 7

/-- java/lang/Comparable -/
def k5 : Class := { plain "java/lang/Comparable" (some 0) with
  accessFlags := 1537
  interfaces := #[]
  cf := some (fileOf pool5 1 #[] #[] 1537 3 #[] #[])
  fields := #[]
  methods := #[]
  instanceTypes := #[]
  staticTypes := #[]
  resolved := Array.replicate 12 none
  statics := none }

def pool6 : Array CpInfo := pool [(2, .class_ 4), (1, u "java/lang/CharSequence"), (42, .class_ 48), (0, u "java/lang/CharSequence$1CodePointIterator"), (10, .class_ 60), (0, u "java/lang/CharSequence$1CharIterator"), (5, .class_ 67), (0, u "java/lang/Object")] 63

/-- java/lang/CharSequence -/
def k6 : Class := { plain "java/lang/CharSequence" (some 0) with
  accessFlags := 1537
  interfaces := #[]
  cf := some (fileOf pool6 2 #[.nestMembers #[47, 59]] #[] 1537 66 #[] #[])
  fields := #[]
  methods := #[]
  instanceTypes := #[]
  staticTypes := #[]
  resolved := Array.replicate 131 none
  statics := none }

def pool7 : Array CpInfo := pool [(1, .class_ 2), (0, u "java/lang/constant/Constable"), (0, .class_ 4), (0, u "java/lang/Object")] 6

/-- java/lang/constant/Constable -/
def k7 : Class := { plain "java/lang/constant/Constable" (some 0) with
  accessFlags := 1537
  interfaces := #[]
  cf := some (fileOf pool7 1 #[] #[] 1537 3 #[] #[])
  fields := #[]
  methods := #[]
  instanceTypes := #[]
  staticTypes := #[]
  resolved := Array.replicate 11 none
  statics := none }

def pool8 : Array CpInfo := pool [(1, .class_ 2), (0, u "java/lang/constant/ConstantDesc"), (0, .class_ 4), (0, u "java/lang/Object")] 32

/-- java/lang/constant/ConstantDesc -/
def k8 : Class := { plain "java/lang/constant/ConstantDesc" (some 0) with
  accessFlags := 1537
  interfaces := #[]
  cf := some (fileOf pool8 1 #[] #[] 1537 3 #[] #[])
  fields := #[]
  methods := #[]
  instanceTypes := #[]
  staticTypes := #[]
  resolved := Array.replicate 37 none
  statics := none }

def pool9 : Array CpInfo := pool [(2, .class_ 4), (1, u "java/lang/Object"), (0, u "<init>"), (0, u "()V"), (3, .class_ 12), (1, u "java/lang/String"), (0, u "value"), (0, u "[B"), (2, u "coder"), (0, u "B"), (2, u "hash"), (0, u "I"), (2, u "hashIsZero"), (0, u "Z"), (13, u "COMPACT_STRINGS"), (534, .class_ 576), (0, u "java/lang/CharSequence"), (22, u "CASE_INSENSITIVE_ORDER"), (0, u "Ljava/util/Comparator;"), (500, u "serialPersistentFields"), (0, u "[Ljava/io/ObjectStreamField;"), (0, .class_ 1104), (0, u "java/lang/String$CaseInsensitiveComparator"), (1, .class_ 1107), (0, u "java/io/Serializable"), (0, .class_ 1109), (0, u "java/lang/Comparable"), (0, .class_ 1111), (0, u "java/lang/constant/Constable"), (0, .class_ 1113), (0, u "java/lang/constant/ConstantDesc"), (2, u "serialVersionUID"), (0, u "J"), (3, u "REPL"), (0, u "C"), (2, u "LATIN1"), (1, u "UTF16")] 323

def k9m0 : Method := { name := "<init>", desc := "()V", sig := { parameters := [], returnType := none }, accessFlags := 1, code := none }
/-- java/lang/String -/
def k9 : Class := { plain "java/lang/String" (some 0) with
  accessFlags := 49
  interfaces := #[4, 5, 6, 7, 8]
  cf := some (fileOf pool9 10 #[.nestMembers #[1103]] #[{ accessFlags := 1, nameIndex := 5, descriptorIndex := 6, attributes := #[] }] 49 2 #[1106, 1108, 575, 1110, 1112] #[{ accessFlags := 18, nameIndex := 13, descriptorIndex := 14, attributes := #[] }, { accessFlags := 18, nameIndex := 17, descriptorIndex := 18, attributes := #[] }, { accessFlags := 2, nameIndex := 21, descriptorIndex := 22, attributes := #[] }, { accessFlags := 2, nameIndex := 25, descriptorIndex := 26, attributes := #[] }, { accessFlags := 26, nameIndex := 1116, descriptorIndex := 1117, attributes := #[] }, { accessFlags := 24, nameIndex := 40, descriptorIndex := 26, attributes := #[] }, { accessFlags := 26, nameIndex := 1101, descriptorIndex := 1102, attributes := #[] }, { accessFlags := 26, nameIndex := 1121, descriptorIndex := 1122, attributes := #[] }, { accessFlags := 25, nameIndex := 599, descriptorIndex := 600, attributes := #[] }, { accessFlags := 24, nameIndex := 1125, descriptorIndex := 18, attributes := #[] }, { accessFlags := 24, nameIndex := 1127, descriptorIndex := 18, attributes := #[] }])
  fields := #[{ name := "value", type := (.array .byte), accessFlags := 18, slot := 0, constantValue := 0 }, { name := "coder", type := .byte, accessFlags := 18, slot := 1, constantValue := 0 }, { name := "hash", type := .int, accessFlags := 2, slot := 2, constantValue := 0 }, { name := "hashIsZero", type := .boolean, accessFlags := 2, slot := 3, constantValue := 0 }, { name := "serialVersionUID", type := .long, accessFlags := 26, slot := 0, constantValue := 0 }, { name := "COMPACT_STRINGS", type := .boolean, accessFlags := 24, slot := 1, constantValue := 0 }, { name := "serialPersistentFields", type := (.array (.object "java/io/ObjectStreamField")), accessFlags := 26, slot := 2, constantValue := 0 }, { name := "REPL", type := .char, accessFlags := 26, slot := 3, constantValue := 0 }, { name := "CASE_INSENSITIVE_ORDER", type := (.object "java/util/Comparator"), accessFlags := 25, slot := 4, constantValue := 0 }, { name := "LATIN1", type := .byte, accessFlags := 24, slot := 5, constantValue := 0 }, { name := "UTF16", type := .byte, accessFlags := 24, slot := 6, constantValue := 0 }]
  methods := #[k9m0]
  instanceTypes := #[(.array .byte), .byte, .int, .boolean]
  staticTypes := #[.long, .boolean, (.array (.object "java/io/ObjectStreamField")), .char, (.object "java/util/Comparator"), .byte, .byte]
  resolved := Array.replicate 1451 none
  statics := none }

def pool10 : Array CpInfo := pool [(1, u "java/lang/Cloneable"), (0, .class_ 1), (0, u "java/lang/Object"), (0, .class_ 3)] 3

/-- java/lang/Cloneable -/
def k10 : Class := { plain "java/lang/Cloneable" (some 0) with
  accessFlags := 1537
  interfaces := #[]
  cf := some (fileOf pool10 2 #[] #[] 1537 4 #[] #[])
  fields := #[]
  methods := #[]
  instanceTypes := #[]
  staticTypes := #[]
  resolved := Array.replicate 8 none
  statics := none }

/-- the primitive byte -/
def k11 : Class := { plain "byte" none with kind := .primitive 'B', accessFlags := 0x411 }
/-- [B -/
def k12 : Class := { plain "[B" (some 0) with kind := .array 11 .byte, interfaces := #[10, 4], accessFlags := 1041 }

/-- the primitive int -/
def k13 : Class := { plain "int" none with kind := .primitive 'I', accessFlags := 0x411 }
/-- [I -/
def k14 : Class := { plain "[I" (some 0) with kind := .array 13 .int, interfaces := #[10, 4], accessFlags := 1041 }

def heap : Heap := #[]
def classes : Array Class := #[k0, k1, k2, k3, k4, k5, k6, k7, k8, k9, k10, k11, k12, k13, k14]
def interned : List (Array UInt16 × Addr) := []
def slotsUsed : Nat := 0
def theMethod : MethodId := ⟨1, 1⟩
def args0 : Array Value := #[.long 5, .long 7, .int 3, .int 9, .long 1, .long 2]
def aboutOver (below : List Frame) : State where
  vm := { classes := classes, interned := interned.toArray }
  heap := heap
  slotsUsed := slotsUsed
  threads := #[{ frames := .invoking theMethod args0 :: below }]
def below0 : List Frame := [.native { method := ⟨0, 0⟩, args := #[] }]
def about1 : State := aboutOver below0
def p0 : Program := .bare "" "" ""
def e0 : Env := launch0.env 0 0 0
theorem w_frames : about1.frames = Frame.invoking theMethod args0 :: below0 := rfl
set_option maxRecDepth 65536 in
theorem w_args : argsFit about1.vm theMethod args0 = true := by decide +kernel
set_option maxRecDepth 65536 in
theorem w_heap : heapFits about1 = true := by decide +kernel
set_option maxRecDepth 65536 in
theorem w_runnable : about1.curStatus? = some .runnable := by decide +kernel
set_option maxRecDepth 65536 in
theorem w_alone : about1.alone = true := by decide +kernel
set_option maxRecDepth 65536 in
theorem w_named : about1.methodNamed? x = some theMethod := by decide +kernel
set_option maxRecDepth 65536 in
theorem w_hears : about1.hears theMethod below0 = true := by decide +kernel
set_option maxRecDepth 65536 in
theorem w_ripe : about1.ripe theMethod args0 below0 = true := by decide +kernel
theorem w_running : about1.status = .running := rfl
set_option maxRecDepth 65536 in
theorem w_room : about1.hasRoom e0.platform room_1 = true :=
  launch0.hasRoom_least _ room_1 (by decide +kernel) (by decide +kernel) (by decide +kernel) (by decide +kernel) (by decide +kernel) (by decide +kernel)
theorem allAtoms_all (ts : List Jvm.Cond) (a : Array Jvm.Value) (st : Jvm.State) : (allAtoms ts).before a st = ts.all (fun c => c.before a st) := by
  induction ts with
  | nil => rfl
  | cons c t ih =>
    show (Jvm.Cond.and c (allAtoms t)).before a st = _
    rw [Jvm.Cond.before_and, ih, List.all_cons]
def words1 : List Jvm.Cond := Jvm.Cond.code x code maxLocals ret :: tables_1
/-- a 'code' word, met by the world's own term for the bytes: nothing is compared byte by byte -/
theorem code_word {y : MethodName} {bytes : ByteArray} {mx : Nat} {rt : Option FieldType} {a : Array Value} {s : State} {m : MethodId} {meth : Method} {c : Code} (h1 : s.methodNamed? y = some m) (h2 : s.vm.method? m = some meth) (h3 : meth.code = some c) (h4 : c.code = bytes)
    (h5 : (c.maxLocals == mx && c.exceptionTable.isEmpty && decide (c.maxStack ≤ mostOperands) && decide (meth.sig.returnType = rt) && !meth.locks && decide (parseMethodDescriptor y.desc = some meth.sig)) = true) : (Jvm.Cond.code y bytes mx rt).before a s = true := by
  simp only [Bool.and_eq_true, beq_iff_eq, Bool.not_eq_true', decide_eq_true_eq] at h5
  obtain ⟨⟨⟨⟨⟨g1, g2⟩, g3⟩, g4⟩, g5⟩, g6⟩ := h5
  simp [Cond.before, Cond.holds, Cond.value, h1, h2, h3, h4, g1, g2, g3, g4, g5, g6]
def isCode : Jvm.Cond → Bool
  | .code _ _ _ _ => true
  | _ => false
theorem all_split {L : List Jvm.Cond} {P : Jvm.Cond → Bool} (h1 : L.all (fun c => isCode c || P c) = true) (h2 : ∀ c ∈ L.filter isCode, P c = true) : L.all P = true := by
  refine List.all_eq_true.mpr fun c hc => ?_
  have h := List.all_eq_true.mp h1 c hc
  rcases Bool.eq_false_or_eq_true (isCode c) with hi | hi
  · exact h2 c (List.mem_filter.mpr ⟨hc, hi⟩)
  · simpa [hi] using h
set_option maxRecDepth 65536 in
theorem w_c0 : (Jvm.Cond.code x code maxLocals ret).before args0 about1 = true := code_word (m := ⟨1, 1⟩) (meth := k1m1) (c := k1c1) (by decide +kernel) rfl rfl rfl (by decide +kernel)
set_option maxRecDepth 65536 in
theorem w_c1 : (Jvm.Cond.code ({ cls := "com/example/meticulous_audit/meticulousaudit/ike/IkeHeader", name := "<init>", desc := "(JJIIIIIJJ)V" } : Jvm.MethodName) prog_18_method_1_code (14 : Nat) (Option.none : Option Jvm.ClassFile.FieldType)).before args0 about1 = true := code_word (m := ⟨3, 0⟩) (meth := k3m0) (c := k3c0) (by decide +kernel) rfl rfl rfl (by decide +kernel)
set_option maxRecDepth 65536 in
theorem w_c2 : (Jvm.Cond.code ({ cls := "java/lang/Record", name := "<init>", desc := "()V" } : Jvm.MethodName) jdk_30_method_1_code (1 : Nat) (Option.none : Option Jvm.ClassFile.FieldType)).before args0 about1 = true := code_word (m := ⟨2, 0⟩) (meth := k2m0) (c := k2c0) (by decide +kernel) rfl rfl rfl (by decide +kernel)
set_option maxRecDepth 65536 in
theorem w_c3 : (Jvm.Cond.code ({ cls := "java/lang/Object", name := "<init>", desc := "()V" } : Jvm.MethodName) object_method_1_code (1 : Nat) (Option.none : Option Jvm.ClassFile.FieldType)).before args0 about1 = true := code_word (m := ⟨0, 0⟩) (meth := k0m0) (c := k0c0) (by decide +kernel) rfl rfl rfl (by decide +kernel)
set_option maxRecDepth 65536 in
theorem w_c4 : (Jvm.Cond.code ({ cls := "com/example/meticulous_audit/meticulousaudit/ike/IkeHeader", name := "checkRange", desc := "(Ljava/lang/String;JJ)V" } : Jvm.MethodName) prog_18_method_6_code (5 : Nat) (Option.none : Option Jvm.ClassFile.FieldType)).before args0 about1 = true := code_word (m := ⟨3, 2⟩) (meth := k3m2) (c := k3c2) (by decide +kernel) rfl rfl rfl (by decide +kernel)
set_option maxRecDepth 65536 in
theorem w_c5 : (Jvm.Cond.code ({ cls := "com/example/meticulous_audit/meticulousaudit/ike/IkeHeader", name := "isResponse", desc := "()Z" } : Jvm.MethodName) prog_18_method_5_code (1 : Nat) (Option.some Jvm.ClassFile.FieldType.boolean)).before args0 about1 = true := code_word (m := ⟨3, 1⟩) (meth := k3m1) (c := k3c1) (by decide +kernel) rfl rfl rfl (by decide +kernel)
def codes1 : List Jvm.Cond := [Jvm.Cond.code x code maxLocals ret, Jvm.Cond.code ({ cls := "com/example/meticulous_audit/meticulousaudit/ike/IkeHeader", name := "<init>", desc := "(JJIIIIIJJ)V" } : Jvm.MethodName) prog_18_method_1_code (14 : Nat) (Option.none : Option Jvm.ClassFile.FieldType), Jvm.Cond.code ({ cls := "java/lang/Record", name := "<init>", desc := "()V" } : Jvm.MethodName) jdk_30_method_1_code (1 : Nat) (Option.none : Option Jvm.ClassFile.FieldType), Jvm.Cond.code ({ cls := "java/lang/Object", name := "<init>", desc := "()V" } : Jvm.MethodName) object_method_1_code (1 : Nat) (Option.none : Option Jvm.ClassFile.FieldType), Jvm.Cond.code ({ cls := "com/example/meticulous_audit/meticulousaudit/ike/IkeHeader", name := "checkRange", desc := "(Ljava/lang/String;JJ)V" } : Jvm.MethodName) prog_18_method_6_code (5 : Nat) (Option.none : Option Jvm.ClassFile.FieldType), Jvm.Cond.code ({ cls := "com/example/meticulous_audit/meticulousaudit/ike/IkeHeader", name := "isResponse", desc := "()Z" } : Jvm.MethodName) prog_18_method_5_code (1 : Nat) (Option.some Jvm.ClassFile.FieldType.boolean)]
set_option maxRecDepth 65536 in
theorem codes_eq : words1.filter isCode = codes1 := rfl
theorem w_codes : ∀ c ∈ words1.filter isCode, c.before args0 about1 = true := by
  rw [codes_eq]
  intro c hc
  simp only [codes1, List.mem_cons, List.not_mem_nil, or_false] at hc
  rcases hc with rfl | rfl | rfl | rfl | rfl | rfl
  · exact w_c0
  · exact w_c1
  · exact w_c2
  · exact w_c3
  · exact w_c4
  · exact w_c5
set_option maxRecDepth 65536 in
theorem w_t1 : (words1.take 24).all (fun c => isCode c || c.before args0 about1) = true := by decide +kernel
set_option maxRecDepth 65536 in
theorem w_t2 : ((words1.drop 24).take 24).all (fun c => isCode c || c.before args0 about1) = true := by decide +kernel
set_option maxRecDepth 65536 in
theorem w_t3 : ((words1.drop 24).drop 24).all (fun c => isCode c || c.before args0 about1) = true := by decide +kernel
theorem w_tables : (allAtoms (Jvm.Cond.code x code maxLocals ret :: tables_1)).before args0 about1 = true := by
  rw [allAtoms_all]
  show words1.all (fun c => c.before args0 about1) = true
  refine all_split ?_ w_codes
  rw [← List.take_append_drop 24 words1, List.all_append, w_t1, ← List.take_append_drop 24 (words1.drop 24), List.all_append, w_t2, w_t3]
  rfl
set_option maxRecDepth 65536 in
theorem w_case : (Jvm.Cond.and given_1 narrow_1).before args0 about1 = true := by decide +kernel
theorem w_applies : (headSpec (Jvm.Cond.code x code maxLocals ret :: tables_1) room_1).applies x e0.platform about1 = true :=
  (Spec.applies_iff w_frames).mpr ⟨w_running, w_runnable, w_alone, w_named, w_hears, w_ripe, w_room, w_tables⟩
theorem atStart : AtStart classFile x code maxLocals ret World_1 tables_1 room_1 Calls_1 rest_1 Pre_1 launch0 p0 e0 about1 theMethod args0 below0 :=
  ⟨lists_1, trivial, launch0.admits_env _ _ _, launch0.least_env, fairChoices_fair.cas, fairChoices_fair.clock, w_frames, w_args, w_heap, w_applies, trivial, trivial, w_case⟩
end start1
theorem witness_1 : WitnessClaimed_1 := ⟨start1.p0, start1.e0, start1.about1, start1.theMethod, start1.args0, start1.below0, start1.atStart⟩
end Jvm.Pilot.@@N@@
