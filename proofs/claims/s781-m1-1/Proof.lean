import JvmDerived
import JvmDerived.Pilot.@@N@@Statement
import JvmDerived.Pilot.@@N@@Code
set_option linter.unusedVariables false
set_option linter.unusedSimpArgs false
namespace Jvm.RoadKit
open Sem ClassFile Op Lib Jvm.Stand Jvm.Free Jvm.LawKit
section New
variable {p : Program} {l : Launch} {e : Env} {R : Room} {s : State} {m : MethodId} {args : Array Value} {below : List Frame} {meth : Method} {c : Code} {T : State} {locs : List Loc} {cells slots : Nat}
theorem retI (X : Stand p l e R s m args below meth c T locs cells slots) (hx : p.tables.exec = Jvm.exec) {pc : Nat} {Ls : Array Slot} {z : Int32} {rest : List Value} (hret : meth.sig.returnType = some .int) (hd : decode c.code pc = .ok (.ireturn, 1)) {fs : List Frame}
    (hl : ∀ (f : JFrame) (acts : List Action), f.method = m → f.locked = none → f.entered = [] → (doReturn e (T.setTop f) acts (some (.int z))).1 = T.setFrames fs) : Steps p.tables e below (T.setTop (mkF m pc Ls (.int z :: rest))) (T.setFrames fs) := by
  have hm' : T.vm.method? m = some meth := X.method'
  have hn : narrow .int (.int z) = .int z := rfl
  show Steps p.tables e below (T.setTop { method := m, pc := pc, locals := Ls, stack := _ :: rest, locked := none }) _
  jvm_step X.here [X.here.top, hx, hd, hm', hret, hn]
  first | (intro acts; rw [hl _ acts rfl rfl rfl]) | rw [hl _ _ rfl rfl rfl]
  exact Steps.refl _
theorem own_lremM {g : JFrame} {target : State} (X : Stand p l e R s m args below meth c T locs cells slots) (hx : p.tables.exec = Jvm.exec) (hg : g.method = m) {x y : Int64} {rest : List Value} (hd : decode c.code g.pc = .ok (.lrem, 1)) (hs : g.stack = .long y :: .long x :: rest) (hy : y ≠ 0)
    (hr : Steps p.tables e below (T.setTop { g with pc := g.pc + 1, stack := .long (x % y) :: rest }) target) : Steps p.tables e below (T.setTop g) target :=
  XS.lrem X.here hx hg hd hs hy (by first | exact hr | (rw [lrem_mod]; exact hr))
theorem own_monoW {s t : State} {o : Outcome} {L : List Loc} {k n k' n' : Nat} (h : ReturnedEndW s o t L k n) (hk : k ≤ k') (hn : n ≤ n') : ReturnedEndW s o t L k' n' := ⟨h.1, h.2.1, h.2.2.1, h.2.2.2.mono hk hn⟩
theorem own_go {α β : Type} {S S' : α → Prop} {P : α → β → Prop} (h : ∀ t, S' t → S t) (g : ∃ n o, S' n ∧ P n o) : ∃ n o, S n ∧ P n o := by
  obtain ⟨n, o, a, b⟩ := g
  exact ⟨n, o, h n a, b⟩
end New
end Jvm.RoadKit
namespace Jvm.Pilot.@@N@@
open Jvm Jvm.ClassFile Sem Op Lib Jvm.Free Jvm.Stand Jvm.LawKit Jvm.RoadKit Bundle Jvm.Pilot.@@N@@.Jvm.D
theorem own_topbit (x : BitVec 64) : x ^^^ (-9223372036854775808 : Int64).toBitVec = x + (-9223372036854775808 : Int64).toBitVec := by
  apply BitVec.eq_of_getLsbD_eq
  intro i hi
  have e : (-9223372036854775808 : Int64).toBitVec.toNat = 2 ^ 63 := by decide
  have hc : BitVec.carry i x (-9223372036854775808 : Int64).toBitVec false = false := by
    unfold BitVec.carry
    have h1 : 2 ^ 63 % 2 ^ i = 0 := Nat.mod_eq_zero_of_dvd (Nat.pow_dvd_pow 2 (by omega))
    have h2 : x.toNat % 2 ^ i < 2 ^ i := Nat.mod_lt _ (Nat.two_pow_pos i)
    rw [e, h1]
    simp only [Bool.toNat_false, Nat.add_zero, decide_eq_false_iff_not]
    omega
  rw [BitVec.getLsbD_xor, BitVec.getLsbD_add hi, hc]
  simp
theorem own_xmin (q : Int64) : (q ^^^ (-9223372036854775808 : Int64)).toInt = if q.toInt < 0 then q.toInt + 9223372036854775808 else q.toInt - 9223372036854775808 := by
  have h : (q ^^^ (-9223372036854775808 : Int64)) = q + (-9223372036854775808 : Int64) := by
    apply Int64.toBitVec_inj.mp
    rw [Int64.toBitVec_xor, Int64.toBitVec_add]
    exact own_topbit q.toBitVec
  have h1 := c_ladd q (-9223372036854775808 : Int64)
  rw [← h] at h1
  have e : ((-9223372036854775808 : Int64)).toInt = -9223372036854775808 := by decide
  have r1 := rng64 q
  have r2 := rng64 (q ^^^ (-9223372036854775808 : Int64))
  rw [e] at h1
  split <;> omega
theorem own_hi (q hi : Int64) (h : hi = (((q ^^^ (-9223372036854775808 : Int64)).toUInt64 >>> ((32 : Int32) &&& 0x3f).toInt64.toUInt64).toInt64)) : hi.toInt = (q.toInt + 9223372036854775808) / 4294967296 := by
  have h1 := c_lushr (q ^^^ (-9223372036854775808 : Int64)) (32 : Int32) 32 (by decide) (by decide)
  rw [← h, own_xmin] at h1
  have r1 := rng64 q
  have e : ((2 ^ 32 : Nat) : Int) = 4294967296 := by decide
  rw [h1, e]
  split <;> omega
theorem own_lo (q lo : Int64) (h : lo = ((q ^^^ (-9223372036854775808 : Int64)) &&& (4294967295 : Int64))) : lo.toInt = (q.toInt + 9223372036854775808) % 4294967296 := by
  have h1 := c_maskL (q ^^^ (-9223372036854775808 : Int64)) (4294967295 : Int64) 32 (by decide) (by decide)
  rw [← h, own_xmin] at h1
  have r1 := rng64 q
  have e : ((2 ^ 32 : Nat) : Int) = 4294967296 := by decide
  rw [h1, e]
  split <;> omega
set_option maxHeartbeats 4000000 in
theorem own_wf (q hi lo : Int64) (h1 : hi.toInt = (q.toInt + 9223372036854775808) / 4294967296) (h2 : lo.toInt = (q.toInt + 9223372036854775808) % 4294967296) :
    ¬ (hi < (0 : Int64)) ∧ hi < (4294967296 : Int64) ∧ ¬ (lo < (0 : Int64)) ∧ lo < (4294967296 : Int64) ∧ ((hi * (4294967296 : Int64)) + lo) + (-9223372036854775808 : Int64) = q := by
  have r := rng64 q
  have e0 : (0 : Int64).toInt = 0 := by decide
  have e1 : ((4294967296 : Int64)).toInt = 4294967296 := by decide
  have e2 : ((-9223372036854775808 : Int64)).toInt = -9223372036854775808 := by decide
  rw [Int64.lt_iff_toInt_lt, Int64.lt_iff_toInt_lt, Int64.lt_iff_toInt_lt, Int64.lt_iff_toInt_lt, e0, e1]
  refine ⟨by omega, by omega, by omega, by omega, ?_⟩
  have k1 : hi.toInt * 4294967296 + lo.toInt = q.toInt + 9223372036854775808 := by omega
  clear h1 h2
  apply Int64.toInt_inj.mp
  have m1 := c_lmul hi (4294967296 : Int64)
  have m2 := c_ladd (hi * (4294967296 : Int64)) lo
  have m3 := c_ladd ((hi * (4294967296 : Int64)) + lo) (-9223372036854775808 : Int64)
  have r2 := rng64 (((hi * (4294967296 : Int64)) + lo) + (-9223372036854775808 : Int64))
  rw [e1] at m1
  rw [e2] at m3
  generalize (((hi * (4294967296 : Int64)) + lo) + (-9223372036854775808 : Int64)).toInt = z3 at m3 r2 ⊢
  generalize ((hi * (4294967296 : Int64)) + lo).toInt = z2 at m2 m3
  generalize (hi * (4294967296 : Int64)).toInt = z1 at m1 m2
  generalize hi.toInt = zh at m1 k1
  generalize lo.toInt = zl at m2 k1
  generalize q.toInt = zq at r k1 ⊢
  clear e0 e1 e2
  omega
theorem own_law (a b ha la hb lb : Int64) (h1 : ha.toInt = (a.toInt + 9223372036854775808) / 4294967296) (h2 : la.toInt = (a.toInt + 9223372036854775808) % 4294967296) (h3 : hb.toInt = (b.toInt + 9223372036854775808) / 4294967296) (h4 : lb.toInt = (b.toInt + 9223372036854775808) % 4294967296) :
    (if ha < hb then (1 : Int32) else (if ha = hb then (if la < lb then (1 : Int32) else (0 : Int32)) else (0 : Int32))) = (if a < b then (1 : Int32) else (0 : Int32)) := by
  simp only [Int64.lt_iff_toInt_lt, ← Int64.toInt_inj, h1, h2, h3, h4]
  by_cases c1 : (a.toInt + 9223372036854775808) / 4294967296 < (b.toInt + 9223372036854775808) / 4294967296
  · rw [if_pos c1, if_pos (by omega)]
  · rw [if_neg c1]
    by_cases c2 : (a.toInt + 9223372036854775808) / 4294967296 = (b.toInt + 9223372036854775808) / 4294967296
    · rw [if_pos c2]
      by_cases c3 : (a.toInt + 9223372036854775808) % 4294967296 < (b.toInt + 9223372036854775808) % 4294967296
      · rw [if_pos c3, if_pos (by omega)]
      · rw [if_neg c3, if_neg (by omega)]
    · rw [if_neg c2, if_neg (by omega)]
theorem d1_0 : decode prog_33_method_8_code 0 = .ok (.lload_n 0, 1) := by decide +kernel
theorem d1_1 : decode prog_33_method_8_code 1 = .ok (.ldc2_w 58, 3) := by decide +kernel
theorem d1_4 : decode prog_33_method_8_code 4 = .ok (.lxor, 1) := by decide +kernel
theorem d1_5 : decode prog_33_method_8_code 5 = .ok (.lstore_n 2, 1) := by decide +kernel
theorem d1_6 : decode prog_33_method_8_code 6 = .ok (.iconst 2, 1) := by decide +kernel
theorem d1_7 : decode prog_33_method_8_code 7 = .ok (.newarray .long, 2) := by decide +kernel
theorem d1_9 : decode prog_33_method_8_code 9 = .ok (.dup, 1) := by decide +kernel
theorem d1_10 : decode prog_33_method_8_code 10 = .ok (.iconst 0, 1) := by decide +kernel
theorem d1_11 : decode prog_33_method_8_code 11 = .ok (.lload_n 2, 1) := by decide +kernel
theorem d1_12 : decode prog_33_method_8_code 12 = .ok (.bipush 32, 2) := by decide +kernel
theorem d1_14 : decode prog_33_method_8_code 14 = .ok (.lushr, 1) := by decide +kernel
theorem d1_15 : decode prog_33_method_8_code 15 = .ok (.lastore, 1) := by decide +kernel
theorem d1_16 : decode prog_33_method_8_code 16 = .ok (.dup, 1) := by decide +kernel
theorem d1_17 : decode prog_33_method_8_code 17 = .ok (.iconst 1, 1) := by decide +kernel
theorem d1_18 : decode prog_33_method_8_code 18 = .ok (.lload_n 2, 1) := by decide +kernel
theorem d1_19 : decode prog_33_method_8_code 19 = .ok (.ldc2_w 60, 3) := by decide +kernel
theorem d1_22 : decode prog_33_method_8_code 22 = .ok (.land, 1) := by decide +kernel
theorem d1_23 : decode prog_33_method_8_code 23 = .ok (.lastore, 1) := by decide +kernel
theorem d1_24 : decode prog_33_method_8_code 24 = .ok (.areturn, 1) := by decide +kernel
theorem pn_1 : plainName "com/example/spillway/spillway/RedisScript" = true := by first | (simp [plainName, overriddenIn]; done) | decide +kernel
theorem ef_1 (m : MethodId) (x0 : Int64) : entryFrame m #[(.long x0)] 4 = mkF m 0 #[.val (.long x0), .second, .unset, .unset] [] := by first | (simp [entryFrame, mkF, argsToLocals, Value.category]; done) | rfl
def Q1 (Z : State) (q1 : Int64) (h0 : Heap) (n0 : Nat) (v : Option Value) (h : Heap) (L : List Loc) : Prop := ∃ r : Addr, ∃ kk : ClassId, ∃ hi : Int64, ∃ lo : Int64, v = some (.ref r) ∧ (hi = (((q1 ^^^ (-9223372036854775808 : Int64)).toUInt64 >>> ((32 : Int32) &&& 0x3f).toInt64.toUInt64).toInt64) ∧ lo = ((q1 ^^^ (-9223372036854775808 : Int64)) &&& (4294967295 : Int64))) ∧ h0.size ≤ r ∧ Fr n0 L ∧ Keep h0 h [] ∧ Arv Z h r kk .long (2 : Int32) [(.long hi), (.long lo)] (.long (0 : Int64))
set_option maxRecDepth 65536 in
set_option maxHeartbeats 40000000 in
theorem rm1 (l : Launch) (Z : State) (a0 : Array Value) (hw : ∀ d ∈ tables_1, d.before a0 Z = true) (ws : List Jvm.Cond) (q1 : Int64) (h0 : Heap) (n0 : Nat) (Z0 : n0 ≤ h0.size) :
    MetFree l (⟨"com/example/spillway/spillway/RedisScript", "halves", "(J)[J"⟩ : MethodName) (head1 (Jvm.Cond.code (⟨"com/example/spillway/spillway/RedisScript", "halves", "(J)[J"⟩ : MethodName) prog_33_method_8_code 4 (some (.array .long)) :: ws) ({ frames := 0, cells := 1, slots := 2, locals := 0 } : Room)) (fun a U => a = #[(.long q1)] ∧ Z.Warmed39 U.vm ∧ U.heap = h0) (fun _ _ _ _ _ => True) (fun _ U o U' => ∃ v L, o = .returned v ∧ Q1 Z q1 h0 n0 v U'.heap L ∧ FrameEnd U o U' L ({ frames := 0, cells := 1, slots := 2, locals := 0 } : Room).cells ({ frames := 0, cells := 1, slots := 2, locals := 0 } : Room).slots) := by
  refine MetFree.of_bodySF (plainFor_of_name pn_1) hisR ?_
  intro p e s m args below meth c s₁ Bd hml0 hP hK
  obtain ⟨rfl, hZ, hh⟩ := hP
  have hx := Bd.exec
  have hby := Bd.bytes
  have hml : c.maxLocals = 4 := hml0
  have hown : s.vm.findClass "com/example/spillway/spillway/RedisScript" = some m.cls := findClass_of_methodNamed Bd.named
  have hnm := (name_of_methodNamed Bd.named Bd.method).1
  have X0 : Stand p l e ({ frames := 0, cells := 1, slots := 2, locals := 0 } : Room) s m #[(.long q1)] below meth c s₁ [] 0 0 := Stand.of_body Bd
  have e0 : s₁.heap = h0 := by rw [← hh, Bd.state]; rfl
  have N0 := Fr.nil n0
  have K0 : Keep h0 h0 [] := Keep.refl _ _
  have pre0 : ∀ t, Steps p.tables e below (s₁.setTop (mkF m 0 #[.val (.long q1), .second, .unset, .unset] [])) t → Steps p.tables e below (s₁.setTop (entryFrame m #[(.long q1)] 4)) t := fun t k => castTop (ef_1 m q1) k
  refine own_go (S' := fun t => Steps p.tables e below (s₁.setTop (mkF m 0 #[.val (.long q1), .second, .unset, .unset] [])) t) pre0 ?_
  obtain ⟨T1, h1, k1, X1, e1, E1, A1, st1⟩ := newP X0 hx hZ (hw _ (List.mem_of_getElem? (i := 5) rfl)) e0 (g := (mkF m 7 #[.val (.long q1), .second, .val (.long (q1 ^^^ (-9223372036854775808 : Int64))), .second] [(.int (2 : Int32))])) rfl (hb hby d1_7) rfl (by decide) (cap := 2) (by decide) (by decide) (by decide) (by decide)
  obtain ⟨b1, g1⟩ : ∃ z, z = h0.size := ⟨_, rfl⟩
  rw [← g1] at A1 st1
  have g_b1 : n0 ≤ b1 := Nat.le_trans Z0 (Nat.le_of_eq g1.symm)
  have sz_b1 : h0.size ≤ b1 := Nat.le_trans K0.1 (Nat.le_of_eq g1.symm)
  have Z0 : n0 ≤ h1.size := Nat.le_trans Z0 E1.1
  have K0 := K0.ext E1
  have V_b1 : Arv Z h1 b1 k1 .long (2 : Int32) [(.long (0 : Int64)), (.long (0 : Int64))] (.long (0 : Int64)) := (Arv.new A1 (by decide)).pad (pad_rep [] (.long (0 : Int64)) 2)
  have V_tmp := V_b1
  obtain ⟨cl2, Ar2, aq2, S2, n2, H2, G2⟩ := V_tmp
  have hin2 : ¬ ((0 : Int32) < 0 ∨ cl2.slots.size ≤ ((0 : Int32)).toNatClampNeg) := inb_of S2 ⟨by decide, by decide⟩
  obtain ⟨T2, h2, X2, e2, W2, st2⟩ := stJ X1 hx hZ e1 Ar2 (j := (0 : Int32)) hin2 (g := (mkF m 15 #[.val (.long q1), .second, .val (.long (q1 ^^^ (-9223372036854775808 : Int64))), .second] [(.long (((q1 ^^^ (-9223372036854775808 : Int64)).toUInt64 >>> ((32 : Int32) &&& 0x3f).toInt64.toUInt64).toInt64)), (.int (0 : Int32)), (.ref b1), (.ref b1)])) rfl rfl (hb hby d1_15)
  have V_b1 : Arv Z h2 b1 k1 .long (2 : Int32) [(.long (((q1 ^^^ (-9223372036854775808 : Int64)).toUInt64 >>> ((32 : Int32) &&& 0x3f).toInt64.toUInt64).toInt64)), (.long (0 : Int64))] (.long (0 : Int64)) := Arv.set Ar2 aq2 S2 n2 H2 G2 rfl W2 0 rfl (Nat.le_of_ble_eq_true rfl)
  have Z0 : n0 ≤ h2.size := by rw [W2.size]; exact Z0
  have K0 := K0.wr W2 (Or.inr sz_b1)
  have N2 := Fr.snoc X2 N0 g_b1
  have V_tmp := V_b1
  obtain ⟨cl3, Ar3, aq3, S3, n3, H3, G3⟩ := V_tmp
  have hin3 : ¬ ((1 : Int32) < 0 ∨ cl3.slots.size ≤ ((1 : Int32)).toNatClampNeg) := inb_of S3 ⟨by decide, by decide⟩
  obtain ⟨T3, h3, X3, e3, W3, st3⟩ := stJ X2 hx hZ e2 Ar3 (j := (1 : Int32)) hin3 (g := (mkF m 23 #[.val (.long q1), .second, .val (.long (q1 ^^^ (-9223372036854775808 : Int64))), .second] [(.long ((q1 ^^^ (-9223372036854775808 : Int64)) &&& (4294967295 : Int64))), (.int (1 : Int32)), (.ref b1), (.ref b1)])) rfl rfl (hb hby d1_23)
  have V_b1 : Arv Z h3 b1 k1 .long (2 : Int32) [(.long (((q1 ^^^ (-9223372036854775808 : Int64)).toUInt64 >>> ((32 : Int32) &&& 0x3f).toInt64.toUInt64).toInt64)), (.long ((q1 ^^^ (-9223372036854775808 : Int64)) &&& (4294967295 : Int64)))] (.long (0 : Int64)) := Arv.set Ar3 aq3 S3 n3 H3 G3 rfl W3 1 rfl (Nat.le_of_ble_eq_true rfl)
  have Z0 : n0 ≤ h3.size := by rw [W3.size]; exact Z0
  have K0 := K0.wr W3 (Or.inr sz_b1)
  have N3 := Fr.snoc X3 N2 g_b1
  obtain ⟨fs, hr, hrun, hended, hW, hsame⟩ := X3.leave (v := some (.ref b1)) (fun h => by rw [Bd.returns] at h; cases h)
  refine ⟨_, _, ?_, hrun, hended, _, _, rfl, ?_, ⟨_, rfl⟩, hW, hsame.mono (by decide) (by decide)⟩
  · show Steps p.tables e below (s₁.setTop (mkF m 0 #[.val (.long q1), .second, .unset, .unset] [])) _
    refine XS.lloadN X0.here hx rfl (hb hby d1_0) rfl ?_
    show Steps p.tables e below (s₁.setTop (mkF m 1 #[.val (.long q1), .second, .unset, .unset] [(.long q1)])) _
    refine X0.ldc2Long hx hown (mvT hZ (hw _ (List.mem_of_getElem? (i := 4) rfl))) (g := (mkF m 1 #[.val (.long q1), .second, .unset, .unset] [(.long q1)])) rfl (hb hby d1_1) _ ?_
    show Steps p.tables e below (s₁.setTop (mkF m 4 #[.val (.long q1), .second, .unset, .unset] [(.long (-9223372036854775808 : Int64)), (.long q1)])) _
    refine XS.lxor X0.here hx rfl (hb hby d1_4) rfl ?_
    show Steps p.tables e below (s₁.setTop (mkF m 5 #[.val (.long q1), .second, .unset, .unset] [(.long (q1 ^^^ (-9223372036854775808 : Int64)))])) _
    refine XS.lstoreN X0.here hx rfl (hb hby d1_5) rfl (l' := #[.val (.long q1), .second, .val (.long (q1 ^^^ (-9223372036854775808 : Int64))), .second]) rfl ?_
    show Steps p.tables e below (s₁.setTop (mkF m 6 #[.val (.long q1), .second, .val (.long (q1 ^^^ (-9223372036854775808 : Int64))), .second] [])) _
    refine XS.iconst X0.here hx rfl (hb hby d1_6) ?_
    show Steps p.tables e below (s₁.setTop (mkF m 7 #[.val (.long q1), .second, .val (.long (q1 ^^^ (-9223372036854775808 : Int64))), .second] [(.int (2 : Int32))])) _
    refine st1 _ ?_
    show Steps p.tables e below (T1.setTop (mkF m 9 #[.val (.long q1), .second, .val (.long (q1 ^^^ (-9223372036854775808 : Int64))), .second] [(.ref b1)])) _
    refine XS.dup X1.here hx rfl (hb hby d1_9) rfl rfl ?_
    show Steps p.tables e below (T1.setTop (mkF m 10 #[.val (.long q1), .second, .val (.long (q1 ^^^ (-9223372036854775808 : Int64))), .second] [(.ref b1), (.ref b1)])) _
    refine XS.iconst X1.here hx rfl (hb hby d1_10) ?_
    show Steps p.tables e below (T1.setTop (mkF m 11 #[.val (.long q1), .second, .val (.long (q1 ^^^ (-9223372036854775808 : Int64))), .second] [(.int (0 : Int32)), (.ref b1), (.ref b1)])) _
    refine XS.lloadN X1.here hx rfl (hb hby d1_11) rfl ?_
    show Steps p.tables e below (T1.setTop (mkF m 12 #[.val (.long q1), .second, .val (.long (q1 ^^^ (-9223372036854775808 : Int64))), .second] [(.long (q1 ^^^ (-9223372036854775808 : Int64))), (.int (0 : Int32)), (.ref b1), (.ref b1)])) _
    refine XS.bipush X1.here hx rfl (hb hby d1_12) ?_
    show Steps p.tables e below (T1.setTop (mkF m 14 #[.val (.long q1), .second, .val (.long (q1 ^^^ (-9223372036854775808 : Int64))), .second] [(.int (32 : Int32)), (.long (q1 ^^^ (-9223372036854775808 : Int64))), (.int (0 : Int32)), (.ref b1), (.ref b1)])) _
    refine XS.lushr X1.here hx rfl (hb hby d1_14) rfl ?_
    show Steps p.tables e below (T1.setTop (mkF m 15 #[.val (.long q1), .second, .val (.long (q1 ^^^ (-9223372036854775808 : Int64))), .second] [(.long (((q1 ^^^ (-9223372036854775808 : Int64)).toUInt64 >>> ((32 : Int32) &&& 0x3f).toInt64.toUInt64).toInt64)), (.int (0 : Int32)), (.ref b1), (.ref b1)])) _
    refine st2 _ ?_
    show Steps p.tables e below (T2.setTop (mkF m 16 #[.val (.long q1), .second, .val (.long (q1 ^^^ (-9223372036854775808 : Int64))), .second] [(.ref b1)])) _
    refine XS.dup X2.here hx rfl (hb hby d1_16) rfl rfl ?_
    show Steps p.tables e below (T2.setTop (mkF m 17 #[.val (.long q1), .second, .val (.long (q1 ^^^ (-9223372036854775808 : Int64))), .second] [(.ref b1), (.ref b1)])) _
    refine XS.iconst X2.here hx rfl (hb hby d1_17) ?_
    show Steps p.tables e below (T2.setTop (mkF m 18 #[.val (.long q1), .second, .val (.long (q1 ^^^ (-9223372036854775808 : Int64))), .second] [(.int (1 : Int32)), (.ref b1), (.ref b1)])) _
    refine XS.lloadN X2.here hx rfl (hb hby d1_18) rfl ?_
    show Steps p.tables e below (T2.setTop (mkF m 19 #[.val (.long q1), .second, .val (.long (q1 ^^^ (-9223372036854775808 : Int64))), .second] [(.long (q1 ^^^ (-9223372036854775808 : Int64))), (.int (1 : Int32)), (.ref b1), (.ref b1)])) _
    refine X2.ldc2Long hx hown (mvT hZ (hw _ (List.mem_of_getElem? (i := 6) rfl))) (g := (mkF m 19 #[.val (.long q1), .second, .val (.long (q1 ^^^ (-9223372036854775808 : Int64))), .second] [(.long (q1 ^^^ (-9223372036854775808 : Int64))), (.int (1 : Int32)), (.ref b1), (.ref b1)])) rfl (hb hby d1_19) _ ?_
    show Steps p.tables e below (T2.setTop (mkF m 22 #[.val (.long q1), .second, .val (.long (q1 ^^^ (-9223372036854775808 : Int64))), .second] [(.long (4294967295 : Int64)), (.long (q1 ^^^ (-9223372036854775808 : Int64))), (.int (1 : Int32)), (.ref b1), (.ref b1)])) _
    refine XS.land X2.here hx rfl (hb hby d1_22) rfl ?_
    show Steps p.tables e below (T2.setTop (mkF m 23 #[.val (.long q1), .second, .val (.long (q1 ^^^ (-9223372036854775808 : Int64))), .second] [(.long ((q1 ^^^ (-9223372036854775808 : Int64)) &&& (4294967295 : Int64))), (.int (1 : Int32)), (.ref b1), (.ref b1)])) _
    refine st3 _ ?_
    show Steps p.tables e below (T3.setTop (mkF m 24 #[.val (.long q1), .second, .val (.long (q1 ^^^ (-9223372036854775808 : Int64))), .second] [(.ref b1)])) _
    jvm_step X3.here [X3.here.top, hx, (hb hby d1_24), X3.method', Bd.returns, Value.isRef, FieldType.isReference]
    first | (intro acts; rw [hr _ acts rfl rfl rfl]) | rw [hr _ _ rfl rfl rfl]
    exact Steps.refl _
  · show Q1 Z q1 h0 n0 _ T3.heap _
    rw [e3]
    exact ⟨_, k1, (((q1 ^^^ (-9223372036854775808 : Int64)).toUInt64 >>> ((32 : Int32) &&& 0x3f).toInt64.toUInt64).toInt64), ((q1 ^^^ (-9223372036854775808 : Int64)) &&& (4294967295 : Int64)), rfl, ⟨rfl, rfl⟩, sz_b1, N3, K0, V_b1⟩
theorem d2_0 : decode method_2_code 0 = .ok (.aload_n 0, 1) := by decide +kernel
theorem d2_1 : decode method_2_code 1 = .ok (.ifnull 9, 3) := by decide +kernel
theorem d2_4 : decode method_2_code 4 = .ok (.aload_n 0, 1) := by decide +kernel
theorem d2_5 : decode method_2_code 5 = .ok (.arraylength, 1) := by decide +kernel
theorem d2_6 : decode method_2_code 6 = .ok (.iconst 2, 1) := by decide +kernel
theorem d2_7 : decode method_2_code 7 = .ok (.if_icmp .eq 5, 3) := by decide +kernel
theorem d2_12 : decode method_2_code 12 = .ok (.aload_n 0, 1) := by decide +kernel
theorem d2_13 : decode method_2_code 13 = .ok (.iconst 0, 1) := by decide +kernel
theorem d2_14 : decode method_2_code 14 = .ok (.laload, 1) := by decide +kernel
theorem d2_15 : decode method_2_code 15 = .ok (.lconst 0, 1) := by decide +kernel
theorem d2_16 : decode method_2_code 16 = .ok (.lcmp, 1) := by decide +kernel
theorem d2_17 : decode method_2_code 17 = .ok (.ifCond .lt 31, 3) := by decide +kernel
theorem d2_20 : decode method_2_code 20 = .ok (.aload_n 0, 1) := by decide +kernel
theorem d2_21 : decode method_2_code 21 = .ok (.iconst 0, 1) := by decide +kernel
theorem d2_22 : decode method_2_code 22 = .ok (.laload, 1) := by decide +kernel
theorem d2_23 : decode method_2_code 23 = .ok (.ldc2_w 9, 3) := by decide +kernel
theorem d2_26 : decode method_2_code 26 = .ok (.lcmp, 1) := by decide +kernel
theorem d2_27 : decode method_2_code 27 = .ok (.ifCond .ge 21, 3) := by decide +kernel
theorem d2_30 : decode method_2_code 30 = .ok (.aload_n 0, 1) := by decide +kernel
theorem d2_31 : decode method_2_code 31 = .ok (.iconst 1, 1) := by decide +kernel
theorem d2_32 : decode method_2_code 32 = .ok (.laload, 1) := by decide +kernel
theorem d2_33 : decode method_2_code 33 = .ok (.lconst 0, 1) := by decide +kernel
theorem d2_34 : decode method_2_code 34 = .ok (.lcmp, 1) := by decide +kernel
theorem d2_35 : decode method_2_code 35 = .ok (.ifCond .lt 13, 3) := by decide +kernel
theorem d2_38 : decode method_2_code 38 = .ok (.aload_n 0, 1) := by decide +kernel
theorem d2_39 : decode method_2_code 39 = .ok (.iconst 1, 1) := by decide +kernel
theorem d2_40 : decode method_2_code 40 = .ok (.laload, 1) := by decide +kernel
theorem d2_41 : decode method_2_code 41 = .ok (.ldc2_w 9, 3) := by decide +kernel
theorem d2_44 : decode method_2_code 44 = .ok (.lcmp, 1) := by decide +kernel
theorem d2_45 : decode method_2_code 45 = .ok (.ifCond .lt 5, 3) := by decide +kernel
theorem d2_50 : decode method_2_code 50 = .ok (.aload_n 0, 1) := by decide +kernel
theorem d2_51 : decode method_2_code 51 = .ok (.iconst 0, 1) := by decide +kernel
theorem d2_52 : decode method_2_code 52 = .ok (.laload, 1) := by decide +kernel
theorem d2_53 : decode method_2_code 53 = .ok (.ldc2_w 9, 3) := by decide +kernel
theorem d2_56 : decode method_2_code 56 = .ok (.lmul, 1) := by decide +kernel
theorem d2_57 : decode method_2_code 57 = .ok (.aload_n 0, 1) := by decide +kernel
theorem d2_58 : decode method_2_code 58 = .ok (.iconst 1, 1) := by decide +kernel
theorem d2_59 : decode method_2_code 59 = .ok (.laload, 1) := by decide +kernel
theorem d2_60 : decode method_2_code 60 = .ok (.ladd, 1) := by decide +kernel
theorem d2_61 : decode method_2_code 61 = .ok (.ldc2_w 13, 3) := by decide +kernel
theorem d2_64 : decode method_2_code 64 = .ok (.ladd, 1) := by decide +kernel
theorem d2_65 : decode method_2_code 65 = .ok (.lstore_n 3, 1) := by decide +kernel
theorem d2_66 : decode method_2_code 66 = .ok (.lload_n 3, 1) := by decide +kernel
theorem d2_67 : decode method_2_code 67 = .ok (.lload_n 1, 1) := by decide +kernel
theorem d2_68 : decode method_2_code 68 = .ok (.lcmp, 1) := by decide +kernel
theorem d2_69 : decode method_2_code 69 = .ok (.ifCond .ne 7, 3) := by decide +kernel
theorem d2_72 : decode method_2_code 72 = .ok (.iconst 1, 1) := by decide +kernel
theorem d2_73 : decode method_2_code 73 = .ok (.goto 4, 3) := by decide +kernel
theorem d2_77 : decode method_2_code 77 = .ok (.ireturn, 1) := by decide +kernel
theorem pn_2 : plainName "com/example/spillway/spillway/RedisScriptHalvesPinLaw" = true := by first | (simp [plainName, overriddenIn]; done) | decide +kernel
theorem ef_2 (m : MethodId) (x0 : Addr) (x1 : Int64) : entryFrame m #[(.ref x0), (.long x1)] 5 = mkF m 0 #[.val (.ref x0), .val (.long x1), .second, .unset, .unset] [] := by first | (simp [entryFrame, mkF, argsToLocals, Value.category]; done) | rfl
def Q2 (Z : State) (a1 : Addr) (q2 : Int64) (kk : ClassId) (hi : Int64) (lo : Int64) (h0 : Heap) (n0 : Nat) (v : Option Value) (h : Heap) (L : List Loc) : Prop := ∃ r : Int32, v = some (.int r) ∧ (r = (1 : Int32)) ∧ Fr n0 L ∧ h = h0
set_option maxRecDepth 65536 in
set_option maxHeartbeats 40000000 in
theorem rm2 (l : Launch) (Z : State) (a0 : Array Value) (hw : ∀ d ∈ tables_1, d.before a0 Z = true) (ws : List Jvm.Cond) (a1 : Addr) (q2 : Int64) (kk : ClassId) (hi : Int64) (lo : Int64) (h0 : Heap) (n0 : Nat) (Z0 : n0 ≤ h0.size) (V_a1 : Arv Z h0 a1 kk .long (2 : Int32) [(.long hi), (.long lo)] (.long (0 : Int64))) (hc17 : ¬ (hi < (0 : Int64))) (hc27 : hi < (4294967296 : Int64)) (hc35 : ¬ (lo < (0 : Int64))) (hc45 : lo < (4294967296 : Int64)) (hc69 : ((hi * (4294967296 : Int64)) + lo) + (-9223372036854775808 : Int64) = q2) :
    MetFree l (⟨"com/example/spillway/spillway/RedisScriptHalvesPinLaw", "wellFormed", "([JJ)Z"⟩ : MethodName) (head1 (Jvm.Cond.code (⟨"com/example/spillway/spillway/RedisScriptHalvesPinLaw", "wellFormed", "([JJ)Z"⟩ : MethodName) method_2_code 5 (some .boolean) :: ws) ({ frames := 0, cells := 0, slots := 0, locals := 0 } : Room)) (fun a U => a = #[(.ref a1), (.long q2)] ∧ Z.Warmed39 U.vm ∧ U.heap = h0) (fun _ _ _ _ _ => True) (fun _ U o U' => ∃ v L, o = .returned v ∧ Q2 Z a1 q2 kk hi lo h0 n0 v U'.heap L ∧ FrameEnd U o U' L ({ frames := 0, cells := 0, slots := 0, locals := 0 } : Room).cells ({ frames := 0, cells := 0, slots := 0, locals := 0 } : Room).slots) := by
  refine MetFree.of_bodySF (plainFor_of_name pn_2) hisR ?_
  intro p e s m args below meth c s₁ Bd hml0 hP hK
  obtain ⟨rfl, hZ, hh⟩ := hP
  have hx := Bd.exec
  have hby := Bd.bytes
  have hml : c.maxLocals = 5 := hml0
  have hown : s.vm.findClass "com/example/spillway/spillway/RedisScriptHalvesPinLaw" = some m.cls := findClass_of_methodNamed Bd.named
  have hnm := (name_of_methodNamed Bd.named Bd.method).1
  have X0 : Stand p l e ({ frames := 0, cells := 0, slots := 0, locals := 0 } : Room) s m #[(.ref a1), (.long q2)] below meth c s₁ [] 0 0 := Stand.of_body Bd
  have e0 : s₁.heap = h0 := by rw [← hh, Bd.state]; rfl
  have N0 := Fr.nil n0
  have K0 : Keep h0 h0 [] := Keep.refl _ _
  have pre0 : ∀ t, Steps p.tables e below (s₁.setTop (mkF m 0 #[.val (.ref a1), .val (.long q2), .second, .unset, .unset] [])) t → Steps p.tables e below (s₁.setTop (entryFrame m #[(.ref a1), (.long q2)] 5)) t := fun t k => castTop (ef_2 m a1 q2) k
  refine own_go (S' := fun t => Steps p.tables e below (s₁.setTop (mkF m 0 #[.val (.ref a1), .val (.long q2), .second, .unset, .unset] [])) t) pre0 ?_
  have V_tmp := V_a1
  obtain ⟨cl1, Ar1, aq1, S1, n1, H1, G1⟩ := V_tmp
  have hc7 : (2 : Int32) = (2 : Int32) := rfl
  have V_tmp := V_a1
  obtain ⟨cl2, Ar2, aq2, S2, n2, H2, G2⟩ := V_tmp
  have hin2 : ¬ ((0 : Int32) < 0 ∨ cl2.slots.size ≤ ((0 : Int32)).toNatClampNeg) := inb_of S2 ⟨by decide, by decide⟩
  have hat2 : cl2.slots[((0 : Int32)).toNatClampNeg]? = some (.long hi) := Has.at H2 hin2 rfl
  have V_tmp := V_a1
  obtain ⟨cl3, Ar3, aq3, S3, n3, H3, G3⟩ := V_tmp
  have hin3 : ¬ ((0 : Int32) < 0 ∨ cl3.slots.size ≤ ((0 : Int32)).toNatClampNeg) := inb_of S3 ⟨by decide, by decide⟩
  have hat3 : cl3.slots[((0 : Int32)).toNatClampNeg]? = some (.long hi) := Has.at H3 hin3 rfl
  have V_tmp := V_a1
  obtain ⟨cl4, Ar4, aq4, S4, n4, H4, G4⟩ := V_tmp
  have hin4 : ¬ ((1 : Int32) < 0 ∨ cl4.slots.size ≤ ((1 : Int32)).toNatClampNeg) := inb_of S4 ⟨by decide, by decide⟩
  have hat4 : cl4.slots[((1 : Int32)).toNatClampNeg]? = some (.long lo) := Has.at H4 hin4 rfl
  have V_tmp := V_a1
  obtain ⟨cl5, Ar5, aq5, S5, n5, H5, G5⟩ := V_tmp
  have hin5 : ¬ ((1 : Int32) < 0 ∨ cl5.slots.size ≤ ((1 : Int32)).toNatClampNeg) := inb_of S5 ⟨by decide, by decide⟩
  have hat5 : cl5.slots[((1 : Int32)).toNatClampNeg]? = some (.long lo) := Has.at H5 hin5 rfl
  have V_tmp := V_a1
  obtain ⟨cl6, Ar6, aq6, S6, n6, H6, G6⟩ := V_tmp
  have hin6 : ¬ ((0 : Int32) < 0 ∨ cl6.slots.size ≤ ((0 : Int32)).toNatClampNeg) := inb_of S6 ⟨by decide, by decide⟩
  have hat6 : cl6.slots[((0 : Int32)).toNatClampNeg]? = some (.long hi) := Has.at H6 hin6 rfl
  have V_tmp := V_a1
  obtain ⟨cl7, Ar7, aq7, S7, n7, H7, G7⟩ := V_tmp
  have hin7 : ¬ ((1 : Int32) < 0 ∨ cl7.slots.size ≤ ((1 : Int32)).toNatClampNeg) := inb_of S7 ⟨by decide, by decide⟩
  have hat7 : cl7.slots[((1 : Int32)).toNatClampNeg]? = some (.long lo) := Has.at H7 hin7 rfl
  obtain ⟨fs, hr, hrun, hended, hW, hsame⟩ := X0.leave (v := some (.int (1 : Int32))) (fun h => by rw [Bd.returns] at h; cases h)
  refine ⟨_, _, ?_, hrun, hended, _, _, rfl, ?_, ⟨_, rfl⟩, hW, hsame.mono (by decide) (by decide)⟩
  · show Steps p.tables e below (s₁.setTop (mkF m 0 #[.val (.ref a1), .val (.long q2), .second, .unset, .unset] [])) _
    refine XS.aloadN X0.here hx rfl (hb hby d2_0) rfl rfl ?_
    show Steps p.tables e below (s₁.setTop (mkF m 1 #[.val (.ref a1), .val (.long q2), .second, .unset, .unset] [(.ref a1)])) _
    refine XS.ifnullNo X0.here hx rfl (hb hby d2_1) rfl ?_
    show Steps p.tables e below (s₁.setTop (mkF m 4 #[.val (.ref a1), .val (.long q2), .second, .unset, .unset] [])) _
    refine XS.aloadN X0.here hx rfl (hb hby d2_4) rfl rfl ?_
    show Steps p.tables e below (s₁.setTop (mkF m 5 #[.val (.ref a1), .val (.long q2), .second, .unset, .unset] [(.ref a1)])) _
    refine X0.arraylength hx (by rw [e0]; exact Ar1.1) (State.isArrayOf_alike hZ.alike Ar1.2.1) (g := (mkF m 5 #[.val (.ref a1), .val (.long q2), .second, .unset, .unset] [(.ref a1)])) rfl rfl (hb hby d2_5) _ ?_
    rw [len_of S1 n1]
    show Steps p.tables e below (s₁.setTop (mkF m 6 #[.val (.ref a1), .val (.long q2), .second, .unset, .unset] [(.int (2 : Int32))])) _
    refine XS.iconst X0.here hx rfl (hb hby d2_6) ?_
    show Steps p.tables e below (s₁.setTop (mkF m 7 #[.val (.ref a1), .val (.long q2), .second, .unset, .unset] [(.int (2 : Int32)), (.int (2 : Int32))])) _
    refine XS.icmpYes X0.here hx rfl (pc0 := 7) (pc' := 12) rfl (hb hby d2_7) rfl (teq hc7).1 (by decide) (by decide) ?_
    show Steps p.tables e below (s₁.setTop (mkF m 12 #[.val (.ref a1), .val (.long q2), .second, .unset, .unset] [])) _
    refine XS.aloadN X0.here hx rfl (hb hby d2_12) rfl rfl ?_
    show Steps p.tables e below (s₁.setTop (mkF m 13 #[.val (.ref a1), .val (.long q2), .second, .unset, .unset] [(.ref a1)])) _
    refine XS.iconst X0.here hx rfl (hb hby d2_13) ?_
    show Steps p.tables e below (s₁.setTop (mkF m 14 #[.val (.ref a1), .val (.long q2), .second, .unset, .unset] [(.int (0 : Int32)), (.ref a1)])) _
    refine X0.laload hx (j := (0 : Int32)) (v := (.long hi)) (by rw [e0]; exact Ar2.1) (State.isArrayOf_alike hZ.alike Ar2.2.1) Ar2.2.2 hin2 hat2 (g := (mkF m 14 #[.val (.ref a1), .val (.long q2), .second, .unset, .unset] [(.int (0 : Int32)), (.ref a1)])) rfl rfl (hb hby d2_14) _ ?_
    show Steps p.tables e below (s₁.setTop (mkF m 15 #[.val (.ref a1), .val (.long q2), .second, .unset, .unset] [(.long hi)])) _
    refine XS.lconst X0.here hx rfl (hb hby d2_15) ?_
    show Steps p.tables e below (s₁.setTop (mkF m 16 #[.val (.ref a1), .val (.long q2), .second, .unset, .unset] [(.long (0 : Int64)), (.long hi)])) _
    refine XS.lcmp X0.here hx rfl (hb hby d2_16) rfl ?_
    show Steps p.tables e below (s₁.setTop (mkF m 17 #[.val (.ref a1), .val (.long q2), .second, .unset, .unset] [(.int (lcmpW hi (0 : Int64)))])) _
    refine XS.ifNo X0.here hx rfl (hb hby d2_17) rfl ((if0 _ _).trans (flt (fun z => hc17 ((lw_lt _ _).mp z))).1) ?_
    show Steps p.tables e below (s₁.setTop (mkF m 20 #[.val (.ref a1), .val (.long q2), .second, .unset, .unset] [])) _
    refine XS.aloadN X0.here hx rfl (hb hby d2_20) rfl rfl ?_
    show Steps p.tables e below (s₁.setTop (mkF m 21 #[.val (.ref a1), .val (.long q2), .second, .unset, .unset] [(.ref a1)])) _
    refine XS.iconst X0.here hx rfl (hb hby d2_21) ?_
    show Steps p.tables e below (s₁.setTop (mkF m 22 #[.val (.ref a1), .val (.long q2), .second, .unset, .unset] [(.int (0 : Int32)), (.ref a1)])) _
    refine X0.laload hx (j := (0 : Int32)) (v := (.long hi)) (by rw [e0]; exact Ar3.1) (State.isArrayOf_alike hZ.alike Ar3.2.1) Ar3.2.2 hin3 hat3 (g := (mkF m 22 #[.val (.ref a1), .val (.long q2), .second, .unset, .unset] [(.int (0 : Int32)), (.ref a1)])) rfl rfl (hb hby d2_22) _ ?_
    show Steps p.tables e below (s₁.setTop (mkF m 23 #[.val (.ref a1), .val (.long q2), .second, .unset, .unset] [(.long hi)])) _
    refine X0.ldc2Long hx hown (mvT hZ (hw _ (List.mem_of_getElem? (i := 11) rfl))) (g := (mkF m 23 #[.val (.ref a1), .val (.long q2), .second, .unset, .unset] [(.long hi)])) rfl (hb hby d2_23) _ ?_
    show Steps p.tables e below (s₁.setTop (mkF m 26 #[.val (.ref a1), .val (.long q2), .second, .unset, .unset] [(.long (4294967296 : Int64)), (.long hi)])) _
    refine XS.lcmp X0.here hx rfl (hb hby d2_26) rfl ?_
    show Steps p.tables e below (s₁.setTop (mkF m 27 #[.val (.ref a1), .val (.long q2), .second, .unset, .unset] [(.int (lcmpW hi (4294967296 : Int64)))])) _
    refine XS.ifNo X0.here hx rfl (hb hby d2_27) rfl ((if0 _ _).trans (tlt ((lw_lt _ _).mpr hc27)).2.1) ?_
    show Steps p.tables e below (s₁.setTop (mkF m 30 #[.val (.ref a1), .val (.long q2), .second, .unset, .unset] [])) _
    refine XS.aloadN X0.here hx rfl (hb hby d2_30) rfl rfl ?_
    show Steps p.tables e below (s₁.setTop (mkF m 31 #[.val (.ref a1), .val (.long q2), .second, .unset, .unset] [(.ref a1)])) _
    refine XS.iconst X0.here hx rfl (hb hby d2_31) ?_
    show Steps p.tables e below (s₁.setTop (mkF m 32 #[.val (.ref a1), .val (.long q2), .second, .unset, .unset] [(.int (1 : Int32)), (.ref a1)])) _
    refine X0.laload hx (j := (1 : Int32)) (v := (.long lo)) (by rw [e0]; exact Ar4.1) (State.isArrayOf_alike hZ.alike Ar4.2.1) Ar4.2.2 hin4 hat4 (g := (mkF m 32 #[.val (.ref a1), .val (.long q2), .second, .unset, .unset] [(.int (1 : Int32)), (.ref a1)])) rfl rfl (hb hby d2_32) _ ?_
    show Steps p.tables e below (s₁.setTop (mkF m 33 #[.val (.ref a1), .val (.long q2), .second, .unset, .unset] [(.long lo)])) _
    refine XS.lconst X0.here hx rfl (hb hby d2_33) ?_
    show Steps p.tables e below (s₁.setTop (mkF m 34 #[.val (.ref a1), .val (.long q2), .second, .unset, .unset] [(.long (0 : Int64)), (.long lo)])) _
    refine XS.lcmp X0.here hx rfl (hb hby d2_34) rfl ?_
    show Steps p.tables e below (s₁.setTop (mkF m 35 #[.val (.ref a1), .val (.long q2), .second, .unset, .unset] [(.int (lcmpW lo (0 : Int64)))])) _
    refine XS.ifNo X0.here hx rfl (hb hby d2_35) rfl ((if0 _ _).trans (flt (fun z => hc35 ((lw_lt _ _).mp z))).1) ?_
    show Steps p.tables e below (s₁.setTop (mkF m 38 #[.val (.ref a1), .val (.long q2), .second, .unset, .unset] [])) _
    refine XS.aloadN X0.here hx rfl (hb hby d2_38) rfl rfl ?_
    show Steps p.tables e below (s₁.setTop (mkF m 39 #[.val (.ref a1), .val (.long q2), .second, .unset, .unset] [(.ref a1)])) _
    refine XS.iconst X0.here hx rfl (hb hby d2_39) ?_
    show Steps p.tables e below (s₁.setTop (mkF m 40 #[.val (.ref a1), .val (.long q2), .second, .unset, .unset] [(.int (1 : Int32)), (.ref a1)])) _
    refine X0.laload hx (j := (1 : Int32)) (v := (.long lo)) (by rw [e0]; exact Ar5.1) (State.isArrayOf_alike hZ.alike Ar5.2.1) Ar5.2.2 hin5 hat5 (g := (mkF m 40 #[.val (.ref a1), .val (.long q2), .second, .unset, .unset] [(.int (1 : Int32)), (.ref a1)])) rfl rfl (hb hby d2_40) _ ?_
    show Steps p.tables e below (s₁.setTop (mkF m 41 #[.val (.ref a1), .val (.long q2), .second, .unset, .unset] [(.long lo)])) _
    refine X0.ldc2Long hx hown (mvT hZ (hw _ (List.mem_of_getElem? (i := 11) rfl))) (g := (mkF m 41 #[.val (.ref a1), .val (.long q2), .second, .unset, .unset] [(.long lo)])) rfl (hb hby d2_41) _ ?_
    show Steps p.tables e below (s₁.setTop (mkF m 44 #[.val (.ref a1), .val (.long q2), .second, .unset, .unset] [(.long (4294967296 : Int64)), (.long lo)])) _
    refine XS.lcmp X0.here hx rfl (hb hby d2_44) rfl ?_
    show Steps p.tables e below (s₁.setTop (mkF m 45 #[.val (.ref a1), .val (.long q2), .second, .unset, .unset] [(.int (lcmpW lo (4294967296 : Int64)))])) _
    refine XS.ifYes X0.here hx rfl (pc0 := 45) (pc' := 50) rfl (hb hby d2_45) rfl ((if0 _ _).trans (tlt ((lw_lt _ _).mpr hc45)).1) (by decide) (by decide) ?_
    show Steps p.tables e below (s₁.setTop (mkF m 50 #[.val (.ref a1), .val (.long q2), .second, .unset, .unset] [])) _
    refine XS.aloadN X0.here hx rfl (hb hby d2_50) rfl rfl ?_
    show Steps p.tables e below (s₁.setTop (mkF m 51 #[.val (.ref a1), .val (.long q2), .second, .unset, .unset] [(.ref a1)])) _
    refine XS.iconst X0.here hx rfl (hb hby d2_51) ?_
    show Steps p.tables e below (s₁.setTop (mkF m 52 #[.val (.ref a1), .val (.long q2), .second, .unset, .unset] [(.int (0 : Int32)), (.ref a1)])) _
    refine X0.laload hx (j := (0 : Int32)) (v := (.long hi)) (by rw [e0]; exact Ar6.1) (State.isArrayOf_alike hZ.alike Ar6.2.1) Ar6.2.2 hin6 hat6 (g := (mkF m 52 #[.val (.ref a1), .val (.long q2), .second, .unset, .unset] [(.int (0 : Int32)), (.ref a1)])) rfl rfl (hb hby d2_52) _ ?_
    show Steps p.tables e below (s₁.setTop (mkF m 53 #[.val (.ref a1), .val (.long q2), .second, .unset, .unset] [(.long hi)])) _
    refine X0.ldc2Long hx hown (mvT hZ (hw _ (List.mem_of_getElem? (i := 11) rfl))) (g := (mkF m 53 #[.val (.ref a1), .val (.long q2), .second, .unset, .unset] [(.long hi)])) rfl (hb hby d2_53) _ ?_
    show Steps p.tables e below (s₁.setTop (mkF m 56 #[.val (.ref a1), .val (.long q2), .second, .unset, .unset] [(.long (4294967296 : Int64)), (.long hi)])) _
    refine XS.lmul X0.here hx rfl (hb hby d2_56) rfl ?_
    show Steps p.tables e below (s₁.setTop (mkF m 57 #[.val (.ref a1), .val (.long q2), .second, .unset, .unset] [(.long (hi * (4294967296 : Int64)))])) _
    refine XS.aloadN X0.here hx rfl (hb hby d2_57) rfl rfl ?_
    show Steps p.tables e below (s₁.setTop (mkF m 58 #[.val (.ref a1), .val (.long q2), .second, .unset, .unset] [(.ref a1), (.long (hi * (4294967296 : Int64)))])) _
    refine XS.iconst X0.here hx rfl (hb hby d2_58) ?_
    show Steps p.tables e below (s₁.setTop (mkF m 59 #[.val (.ref a1), .val (.long q2), .second, .unset, .unset] [(.int (1 : Int32)), (.ref a1), (.long (hi * (4294967296 : Int64)))])) _
    refine X0.laload hx (j := (1 : Int32)) (v := (.long lo)) (by rw [e0]; exact Ar7.1) (State.isArrayOf_alike hZ.alike Ar7.2.1) Ar7.2.2 hin7 hat7 (g := (mkF m 59 #[.val (.ref a1), .val (.long q2), .second, .unset, .unset] [(.int (1 : Int32)), (.ref a1), (.long (hi * (4294967296 : Int64)))])) rfl rfl (hb hby d2_59) _ ?_
    show Steps p.tables e below (s₁.setTop (mkF m 60 #[.val (.ref a1), .val (.long q2), .second, .unset, .unset] [(.long lo), (.long (hi * (4294967296 : Int64)))])) _
    refine XS.ladd X0.here hx rfl (hb hby d2_60) rfl ?_
    show Steps p.tables e below (s₁.setTop (mkF m 61 #[.val (.ref a1), .val (.long q2), .second, .unset, .unset] [(.long ((hi * (4294967296 : Int64)) + lo))])) _
    refine X0.ldc2Long hx hown (mvT hZ (hw _ (List.mem_of_getElem? (i := 12) rfl))) (g := (mkF m 61 #[.val (.ref a1), .val (.long q2), .second, .unset, .unset] [(.long ((hi * (4294967296 : Int64)) + lo))])) rfl (hb hby d2_61) _ ?_
    show Steps p.tables e below (s₁.setTop (mkF m 64 #[.val (.ref a1), .val (.long q2), .second, .unset, .unset] [(.long (-9223372036854775808 : Int64)), (.long ((hi * (4294967296 : Int64)) + lo))])) _
    refine XS.ladd X0.here hx rfl (hb hby d2_64) rfl ?_
    show Steps p.tables e below (s₁.setTop (mkF m 65 #[.val (.ref a1), .val (.long q2), .second, .unset, .unset] [(.long (((hi * (4294967296 : Int64)) + lo) + (-9223372036854775808 : Int64)))])) _
    refine XS.lstoreN X0.here hx rfl (hb hby d2_65) rfl (l' := #[.val (.ref a1), .val (.long q2), .second, .val (.long (((hi * (4294967296 : Int64)) + lo) + (-9223372036854775808 : Int64))), .second]) rfl ?_
    show Steps p.tables e below (s₁.setTop (mkF m 66 #[.val (.ref a1), .val (.long q2), .second, .val (.long (((hi * (4294967296 : Int64)) + lo) + (-9223372036854775808 : Int64))), .second] [])) _
    refine XS.lloadN X0.here hx rfl (hb hby d2_66) rfl ?_
    show Steps p.tables e below (s₁.setTop (mkF m 67 #[.val (.ref a1), .val (.long q2), .second, .val (.long (((hi * (4294967296 : Int64)) + lo) + (-9223372036854775808 : Int64))), .second] [(.long (((hi * (4294967296 : Int64)) + lo) + (-9223372036854775808 : Int64)))])) _
    refine XS.lloadN X0.here hx rfl (hb hby d2_67) rfl ?_
    show Steps p.tables e below (s₁.setTop (mkF m 68 #[.val (.ref a1), .val (.long q2), .second, .val (.long (((hi * (4294967296 : Int64)) + lo) + (-9223372036854775808 : Int64))), .second] [(.long q2), (.long (((hi * (4294967296 : Int64)) + lo) + (-9223372036854775808 : Int64)))])) _
    refine XS.lcmp X0.here hx rfl (hb hby d2_68) rfl ?_
    show Steps p.tables e below (s₁.setTop (mkF m 69 #[.val (.ref a1), .val (.long q2), .second, .val (.long (((hi * (4294967296 : Int64)) + lo) + (-9223372036854775808 : Int64))), .second] [(.int (lcmpW (((hi * (4294967296 : Int64)) + lo) + (-9223372036854775808 : Int64)) q2))])) _
    refine XS.ifNo X0.here hx rfl (hb hby d2_69) rfl ((if0 _ _).trans (teq ((lw_eq _ _).mpr hc69)).2) ?_
    show Steps p.tables e below (s₁.setTop (mkF m 72 #[.val (.ref a1), .val (.long q2), .second, .val (.long (((hi * (4294967296 : Int64)) + lo) + (-9223372036854775808 : Int64))), .second] [])) _
    refine XS.iconst X0.here hx rfl (hb hby d2_72) ?_
    show Steps p.tables e below (s₁.setTop (mkF m 73 #[.val (.ref a1), .val (.long q2), .second, .val (.long (((hi * (4294967296 : Int64)) + lo) + (-9223372036854775808 : Int64))), .second] [(.int (1 : Int32))])) _
    refine XS.goto X0.here hx rfl (pc0 := 73) (pc' := 77) rfl (hb hby d2_73) (by decide) (by decide) ?_
    show Steps p.tables e below (s₁.setTop (mkF m 77 #[.val (.ref a1), .val (.long q2), .second, .val (.long (((hi * (4294967296 : Int64)) + lo) + (-9223372036854775808 : Int64))), .second] [(.int (1 : Int32))])) _
    exact retN X0 hx (t := .boolean) Bd.returns (by simp) (hb hby d2_77) hr
  · show Q2 Z a1 q2 kk hi lo h0 n0 _ s₁.heap _
    rw [e0]
    exact ⟨_, rfl, rfl, N0, rfl⟩
theorem pd_0 : parseMethodDescriptor "(J)[J" = some ⟨[.long], some (.array .long)⟩ := by decide +kernel
theorem pd_1 : parseMethodDescriptor "([JJ)Z" = some ⟨[(.array .long), .long], some .boolean⟩ := by decide +kernel
theorem pn_0 : plainName "com/example/spillway/spillway/RedisScriptHalvesPinLaw" = true := by first | (simp [plainName, overriddenIn]; done) | decide +kernel
theorem ef_0 (m : MethodId) (x0 : Int64) (x1 : Int64) : entryFrame m #[(.long x0), (.long x1)] maxLocals = mkF m 0 #[.val (.long x0), .second, .val (.long x1), .second, .unset, .unset, .unset] [] := by first | (simp [entryFrame, mkF, argsToLocals, Value.category, maxLocals]; done) | rfl
def Q0 (Z : State) (q1 : Int64) (q2 : Int64) (h0 : Heap) (n0 : Nat) (v : Option Value) (h : Heap) (L : List Loc) : Prop := v = some (.int 1) ∧ Fr n0 L
set_option maxRecDepth 65536 in
set_option maxHeartbeats 40000000 in
theorem rm0 (l : Launch) (Z : State) (a0 : Array Value) (hw : ∀ d ∈ tables_1, d.before a0 Z = true) (ws : List Jvm.Cond) (q1 : Int64) (q2 : Int64) (h0 : Heap) (n0 : Nat) (Z0 : n0 ≤ h0.size) :
    MetFree l x (head1 (Jvm.Cond.code x code maxLocals ret :: ws) room_1) (fun a U => a = #[(.long q1), (.long q2)] ∧ Z.Warmed39 U.vm ∧ U.heap = h0) (fun _ _ _ _ _ => True) (fun _ U o U' => ∃ v L, o = .returned v ∧ Q0 Z q1 q2 h0 n0 v U'.heap L ∧ FrameEnd U o U' L room_1.cells room_1.slots) := by
  refine MetFree.of_bodySF (plainFor_of_name pn_0) hisR ?_
  intro p e s m args below meth c s₁ Bd hml0 hP hK
  obtain ⟨rfl, hZ, hh⟩ := hP
  have hx := Bd.exec
  have hby := Bd.bytes
  have hml : c.maxLocals = 7 := hml0
  have hown : s.vm.findClass "com/example/spillway/spillway/RedisScriptHalvesPinLaw" = some m.cls := findClass_of_methodNamed Bd.named
  have hnm := (name_of_methodNamed Bd.named Bd.method).1
  have X0 : Stand p l e room_1 s m #[(.long q1), (.long q2)] below meth c s₁ [] 0 0 := Stand.of_body Bd
  have e0 : s₁.heap = h0 := by rw [← hh, Bd.state]; rfl
  have N0 := Fr.nil n0
  have K0 : Keep h0 h0 [] := Keep.refl _ _
  have pre0 : ∀ t, Steps p.tables e below (s₁.setTop (mkF m 0 #[.val (.long q1), .second, .val (.long q2), .second, .unset, .unset, .unset] [])) t → Steps p.tables e below (s₁.setTop (entryFrame m #[(.long q1), (.long q2)] maxLocals)) t := fun t k => castTop (ef_0 m q1 q2) k
  refine own_go (S' := fun t => Steps p.tables e below (s₁.setTop (mkF m 0 #[.val (.long q1), .second, .val (.long q2), .second, .unset, .unset, .unset] [])) t) pre0 ?_
  obtain ⟨_, _, ⟨T1, L1, k1, n1⟩, -, X1, ⟨Lc1, hQ1, l1, y1, z1⟩, st1⟩ := Jvm.LawKit.callS X0 hx (y := (⟨"com/example/spillway/spillway/RedisScript", "halves", "(J)[J"⟩ : MethodName)) hown (mvT hZ (hw _ (List.mem_of_getElem? (i := 0) rfl))) (mvT hZ (hw _ (List.mem_of_getElem? (i := 1) rfl))) (mvT hZ (hw _ (List.mem_of_getElem? (i := 2) rfl))) (mvT hZ (hw _ (List.mem_of_getElem? (i := 3) rfl))) (by decide) (backOf (W := 0) (rm1 l Z a0 hw [] q1 h0 n0 Z0 ) hZ (hw _ (List.mem_of_getElem? (i := 3) rfl)) (hw _ (List.mem_of_getElem? (i := 2) rfl)) (by decide) (by decide)) (g := (mkF m 1 #[.val (.long q1), .second, .val (.long q2), .second, .unset, .unset, .unset] [(.long q1)])) rfl (by rw [hml]; rfl) (argsL := [(.long q1)]) (rest := []) (lenOf pd_0 rfl) rfl (by show 2 * 0 + _ ≤ _; exact Nat.le_of_eq rfl) (hb hby at_1) (fun _ _ => ⟨rfl, e0, (by decide : 0 + 1 ≤ _), (by decide : 0 + 2 ≤ _)⟩)
  dsimp only [Pt.U, Pt.locs, Pt.cells, Pt.slots] at X1 l1 y1 z1 st1 hQ1
  subst l1 y1 z1
  obtain ⟨b1, kk_1, hi_1, lo_1, rfl, d_b1, sz1, N1q, K1, V_b1_new⟩ := hQ1
  have V_b1 := V_b1_new
  have g_b1 : n0 ≤ b1 := Nat.le_trans Z0 sz1
  have sz_b1 : h0.size ≤ b1 := Nat.le_trans K0.1 sz1
  have Z0 : n0 ≤ T1.heap.size := Nat.le_trans Z0 K1.1
  have K0 := K0.trans K1 all0
  have N1 := Fr.app N0 N1q
  obtain ⟨_, _, ⟨T2, L2, k2, n2⟩, -, X2, ⟨Lc2, hQ2, l2, y2, z2⟩, st2⟩ := Jvm.LawKit.callS X1 hx (y := (⟨"com/example/spillway/spillway/RedisScript", "halves", "(J)[J"⟩ : MethodName)) hown (mvT hZ (hw _ (List.mem_of_getElem? (i := 0) rfl))) (mvT hZ (hw _ (List.mem_of_getElem? (i := 1) rfl))) (mvT hZ (hw _ (List.mem_of_getElem? (i := 2) rfl))) (mvT hZ (hw _ (List.mem_of_getElem? (i := 3) rfl))) (by decide) (backOf (W := 0) (rm1 l Z a0 hw [] q2 T1.heap n0 Z0 ) hZ (hw _ (List.mem_of_getElem? (i := 3) rfl)) (hw _ (List.mem_of_getElem? (i := 2) rfl)) (by decide) (by decide)) (g := (mkF m 7 #[.val (.long q1), .second, .val (.long q2), .second, .val (.ref b1), .unset, .unset] [(.long q2)])) rfl (by rw [hml]; rfl) (argsL := [(.long q2)]) (rest := []) (lenOf pd_0 rfl) rfl (by show 2 * 0 + _ ≤ _; exact Nat.le_of_eq rfl) (hb hby at_7) (fun _ _ => ⟨rfl, rfl, (by decide : 1 + 1 ≤ _), (by decide : 2 + 2 ≤ _)⟩)
  dsimp only [Pt.U, Pt.locs, Pt.cells, Pt.slots] at X2 l2 y2 z2 st2 hQ2
  subst l2 y2 z2
  have lt2_b1 : b1 < T1.heap.size := V_b1.lt
  obtain ⟨b2, kk_2, hi_2, lo_2, rfl, d_b2, sz2, N2q, K2, V_b2_new⟩ := hQ2
  have V_b1 := V_b1.keep K2 nin0
  have V_b2 := V_b2_new
  have g_b2 : n0 ≤ b2 := Nat.le_trans Z0 sz2
  have sz_b2 : h0.size ≤ b2 := Nat.le_trans K0.1 sz2
  have ne_b1_b2 : b1 ≠ b2 := Nat.ne_of_lt (Nat.lt_of_lt_of_le lt2_b1 sz2)
  have Z0 : n0 ≤ T2.heap.size := Nat.le_trans Z0 K2.1
  have K0 := K0.trans K2 all0
  have N2 := Fr.app N1 N2q
  have WFa := own_wf q1 hi_1 lo_1 (own_hi _ _ d_b1.1) (own_lo _ _ d_b1.2)
  obtain ⟨_, _, ⟨T3, L3, k3, n3⟩, -, X3, ⟨Lc3, hQ3, l3, y3, z3⟩, st3⟩ := Jvm.LawKit.callS X2 hx (y := (⟨"com/example/spillway/spillway/RedisScriptHalvesPinLaw", "wellFormed", "([JJ)Z"⟩ : MethodName)) hown (mvT hZ (hw _ (List.mem_of_getElem? (i := 7) rfl))) (mvT hZ (hw _ (List.mem_of_getElem? (i := 8) rfl))) (mvT hZ (hw _ (List.mem_of_getElem? (i := 9) rfl))) (mvT hZ (hw _ (List.mem_of_getElem? (i := 10) rfl))) (by decide) (backOf (W := 0) (rm2 l Z a0 hw [] b1 q1 kk_1 hi_1 lo_1 T2.heap n0 Z0 V_b1 WFa.1 WFa.2.1 WFa.2.2.1 WFa.2.2.2.1 WFa.2.2.2.2) hZ (hw _ (List.mem_of_getElem? (i := 10) rfl)) (hw _ (List.mem_of_getElem? (i := 9) rfl)) (by decide) (by decide)) (g := (mkF m 15 #[.val (.long q1), .second, .val (.long q2), .second, .val (.ref b1), .val (.ref b2), .unset] [(.long q1), (.ref b1)])) rfl (by rw [hml]; rfl) (argsL := [(.ref b1), (.long q1)]) (rest := []) (lenOf pd_1 rfl) rfl (by show 2 * 0 + _ ≤ _; exact Nat.le_of_eq rfl) (hb hby at_15) (fun _ _ => ⟨rfl, rfl, (by decide : 2 + 0 ≤ _), (by decide : 4 + 0 ≤ _)⟩)
  dsimp only [Pt.U, Pt.locs, Pt.cells, Pt.slots] at X3 l3 y3 z3 st3 hQ3
  subst l3 y3 z3
  obtain ⟨wa, rfl, d_wa, N3q, e3⟩ := hQ3
  have N3 := Fr.app N2 N3q
  have hc18 : ¬ (wa = (0 : Int32)) := by rw [d_wa]; decide
  have WFb := own_wf q2 hi_2 lo_2 (own_hi _ _ d_b2.1) (own_lo _ _ d_b2.2)
  obtain ⟨_, _, ⟨T4, L4, k4, n4⟩, -, X4, ⟨Lc4, hQ4, l4, y4, z4⟩, st4⟩ := Jvm.LawKit.callS X3 hx (y := (⟨"com/example/spillway/spillway/RedisScriptHalvesPinLaw", "wellFormed", "([JJ)Z"⟩ : MethodName)) hown (mvT hZ (hw _ (List.mem_of_getElem? (i := 7) rfl))) (mvT hZ (hw _ (List.mem_of_getElem? (i := 8) rfl))) (mvT hZ (hw _ (List.mem_of_getElem? (i := 9) rfl))) (mvT hZ (hw _ (List.mem_of_getElem? (i := 10) rfl))) (by decide) (backOf (W := 0) (rm2 l Z a0 hw [] b2 q2 kk_2 hi_2 lo_2 T2.heap n0 Z0 V_b2 WFb.1 WFb.2.1 WFb.2.2.1 WFb.2.2.2.1 WFb.2.2.2.2) hZ (hw _ (List.mem_of_getElem? (i := 10) rfl)) (hw _ (List.mem_of_getElem? (i := 9) rfl)) (by decide) (by decide)) (g := (mkF m 24 #[.val (.long q1), .second, .val (.long q2), .second, .val (.ref b1), .val (.ref b2), .unset] [(.long q2), (.ref b2)])) rfl (by rw [hml]; rfl) (argsL := [(.ref b2), (.long q2)]) (rest := []) (lenOf pd_1 rfl) rfl (by show 2 * 0 + _ ≤ _; exact Nat.le_of_eq rfl) (hb hby at_24) (fun _ _ => ⟨rfl, e3, (by decide : 2 + 0 ≤ _), (by decide : 4 + 0 ≤ _)⟩)
  dsimp only [Pt.U, Pt.locs, Pt.cells, Pt.slots] at X4 l4 y4 z4 st4 hQ4
  subst l4 y4 z4
  obtain ⟨wb, rfl, d_wb, N4q, e4⟩ := hQ4
  have N4 := Fr.app N3 N4q
  have hc27 : ¬ (wb = (0 : Int32)) := by rw [d_wb]; decide
  have V_tmp := V_b1
  obtain ⟨cl5, Ar5, aq5, S5, n5, H5, G5⟩ := V_tmp
  have hin5 : ¬ ((0 : Int32) < 0 ∨ cl5.slots.size ≤ ((0 : Int32)).toNatClampNeg) := inb_of S5 ⟨by decide, by decide⟩
  have hat5 : cl5.slots[((0 : Int32)).toNatClampNeg]? = some (.long hi_1) := Has.at H5 hin5 rfl
  have V_tmp := V_b2
  obtain ⟨cl6, Ar6, aq6, S6, n6, H6, G6⟩ := V_tmp
  have hin6 : ¬ ((0 : Int32) < 0 ∨ cl6.slots.size ≤ ((0 : Int32)).toNatClampNeg) := inb_of S6 ⟨by decide, by decide⟩
  have hat6 : cl6.slots[((0 : Int32)).toNatClampNeg]? = some (.long hi_2) := Has.at H6 hin6 rfl
  have V_tmp := V_b1
  obtain ⟨cl7, Ar7, aq7, S7, n7, H7, G7⟩ := V_tmp
  have hin7 : ¬ ((0 : Int32) < 0 ∨ cl7.slots.size ≤ ((0 : Int32)).toNatClampNeg) := inb_of S7 ⟨by decide, by decide⟩
  have hat7 : cl7.slots[((0 : Int32)).toNatClampNeg]? = some (.long hi_1) := Has.at H7 hin7 rfl
  have V_tmp := V_b2
  obtain ⟨cl8, Ar8, aq8, S8, n8, H8, G8⟩ := V_tmp
  have hin8 : ¬ ((0 : Int32) < 0 ∨ cl8.slots.size ≤ ((0 : Int32)).toNatClampNeg) := inb_of S8 ⟨by decide, by decide⟩
  have hat8 : cl8.slots[((0 : Int32)).toNatClampNeg]? = some (.long hi_2) := Has.at H8 hin8 rfl
  have V_tmp := V_b1
  obtain ⟨cl9, Ar9, aq9, S9, n9, H9, G9⟩ := V_tmp
  have hin9 : ¬ ((1 : Int32) < 0 ∨ cl9.slots.size ≤ ((1 : Int32)).toNatClampNeg) := inb_of S9 ⟨by decide, by decide⟩
  have hat9 : cl9.slots[((1 : Int32)).toNatClampNeg]? = some (.long lo_1) := Has.at H9 hin9 rfl
  have V_tmp := V_b2
  obtain ⟨cl10, Ar10, aq10, S10, n10, H10, G10⟩ := V_tmp
  have hin10 : ¬ ((1 : Int32) < 0 ∨ cl10.slots.size ≤ ((1 : Int32)).toNatClampNeg) := inb_of S10 ⟨by decide, by decide⟩
  have hat10 : cl10.slots[((1 : Int32)).toNatClampNeg]? = some (.long lo_2) := Has.at H10 hin10 rfl
  obtain ⟨pl, d_pl⟩ : ∃ z : Int32, z = (if hi_1 < hi_2 then (1 : Int32) else (if hi_1 = hi_2 then (if lo_1 < lo_2 then (1 : Int32) else (0 : Int32)) else (0 : Int32))) := ⟨_, rfl⟩
  have j11 : ∀ t, Steps p.tables e below (T4.setTop (mkF m 73 #[.val (.long q1), .second, .val (.long q2), .second, .val (.ref b1), .val (.ref b2), .unset] [(.int pl)])) t → Steps p.tables e below (T4.setTop (mkF m 41 #[.val (.long q1), .second, .val (.long q2), .second, .val (.ref b1), .val (.ref b2), .unset] [(.int (lcmpW hi_1 hi_2))])) t := by
    intro t k
    by_cases hj41 : hi_1 < hi_2
    · have q_pl : pl = (1 : Int32) := by rw [d_pl, if_pos hj41]
      show Steps p.tables e below (T4.setTop (mkF m 41 #[.val (.long q1), .second, .val (.long q2), .second, .val (.ref b1), .val (.ref b2), .unset] [(.int (lcmpW hi_1 hi_2))])) _
      refine XS.ifYes X4.here hx rfl (pc0 := 41) (pc' := 68) rfl (hb hby at_41) rfl ((if0 _ _).trans (tlt ((lw_lt _ _).mpr hj41)).1) (by decide) (by decide) ?_
      show Steps p.tables e below (T4.setTop (mkF m 68 #[.val (.long q1), .second, .val (.long q2), .second, .val (.ref b1), .val (.ref b2), .unset] [])) _
      refine XS.iconst X4.here hx rfl (hb hby at_68) ?_
      show Steps p.tables e below (T4.setTop (mkF m 69 #[.val (.long q1), .second, .val (.long q2), .second, .val (.ref b1), .val (.ref b2), .unset] [(.int (1 : Int32))])) _
      refine XS.goto X4.here hx rfl (pc0 := 69) (pc' := 73) rfl (hb hby at_69) (by decide) (by decide) ?_
      rw [q_pl] at k
      exact k
    · show Steps p.tables e below (T4.setTop (mkF m 41 #[.val (.long q1), .second, .val (.long q2), .second, .val (.ref b1), .val (.ref b2), .unset] [(.int (lcmpW hi_1 hi_2))])) _
      refine XS.ifNo X4.here hx rfl (hb hby at_41) rfl ((if0 _ _).trans (flt (fun z => hj41 ((lw_lt _ _).mp z))).1) ?_
      show Steps p.tables e below (T4.setTop (mkF m 44 #[.val (.long q1), .second, .val (.long q2), .second, .val (.ref b1), .val (.ref b2), .unset] [])) _
      refine XS.aload X4.here hx rfl (hb hby at_44) rfl rfl ?_
      show Steps p.tables e below (T4.setTop (mkF m 46 #[.val (.long q1), .second, .val (.long q2), .second, .val (.ref b1), .val (.ref b2), .unset] [(.ref b1)])) _
      refine XS.iconst X4.here hx rfl (hb hby at_46) ?_
      show Steps p.tables e below (T4.setTop (mkF m 47 #[.val (.long q1), .second, .val (.long q2), .second, .val (.ref b1), .val (.ref b2), .unset] [(.int (0 : Int32)), (.ref b1)])) _
      refine X4.laload hx (j := (0 : Int32)) (v := (.long hi_1)) (by rw [e4]; exact Ar7.1) (State.isArrayOf_alike hZ.alike Ar7.2.1) Ar7.2.2 hin7 hat7 (g := (mkF m 47 #[.val (.long q1), .second, .val (.long q2), .second, .val (.ref b1), .val (.ref b2), .unset] [(.int (0 : Int32)), (.ref b1)])) rfl rfl (hb hby at_47) _ ?_
      show Steps p.tables e below (T4.setTop (mkF m 48 #[.val (.long q1), .second, .val (.long q2), .second, .val (.ref b1), .val (.ref b2), .unset] [(.long hi_1)])) _
      refine XS.aload X4.here hx rfl (hb hby at_48) rfl rfl ?_
      show Steps p.tables e below (T4.setTop (mkF m 50 #[.val (.long q1), .second, .val (.long q2), .second, .val (.ref b1), .val (.ref b2), .unset] [(.ref b2), (.long hi_1)])) _
      refine XS.iconst X4.here hx rfl (hb hby at_50) ?_
      show Steps p.tables e below (T4.setTop (mkF m 51 #[.val (.long q1), .second, .val (.long q2), .second, .val (.ref b1), .val (.ref b2), .unset] [(.int (0 : Int32)), (.ref b2), (.long hi_1)])) _
      refine X4.laload hx (j := (0 : Int32)) (v := (.long hi_2)) (by rw [e4]; exact Ar8.1) (State.isArrayOf_alike hZ.alike Ar8.2.1) Ar8.2.2 hin8 hat8 (g := (mkF m 51 #[.val (.long q1), .second, .val (.long q2), .second, .val (.ref b1), .val (.ref b2), .unset] [(.int (0 : Int32)), (.ref b2), (.long hi_1)])) rfl rfl (hb hby at_51) _ ?_
      show Steps p.tables e below (T4.setTop (mkF m 52 #[.val (.long q1), .second, .val (.long q2), .second, .val (.ref b1), .val (.ref b2), .unset] [(.long hi_2), (.long hi_1)])) _
      refine XS.lcmp X4.here hx rfl (hb hby at_52) rfl ?_
      by_cases hj53 : hi_1 = hi_2
      · show Steps p.tables e below (T4.setTop (mkF m 53 #[.val (.long q1), .second, .val (.long q2), .second, .val (.ref b1), .val (.ref b2), .unset] [(.int (lcmpW hi_1 hi_2))])) _
        refine XS.ifNo X4.here hx rfl (hb hby at_53) rfl ((if0 _ _).trans (teq ((lw_eq _ _).mpr hj53)).2) ?_
        show Steps p.tables e below (T4.setTop (mkF m 56 #[.val (.long q1), .second, .val (.long q2), .second, .val (.ref b1), .val (.ref b2), .unset] [])) _
        refine XS.aload X4.here hx rfl (hb hby at_56) rfl rfl ?_
        show Steps p.tables e below (T4.setTop (mkF m 58 #[.val (.long q1), .second, .val (.long q2), .second, .val (.ref b1), .val (.ref b2), .unset] [(.ref b1)])) _
        refine XS.iconst X4.here hx rfl (hb hby at_58) ?_
        show Steps p.tables e below (T4.setTop (mkF m 59 #[.val (.long q1), .second, .val (.long q2), .second, .val (.ref b1), .val (.ref b2), .unset] [(.int (1 : Int32)), (.ref b1)])) _
        refine X4.laload hx (j := (1 : Int32)) (v := (.long lo_1)) (by rw [e4]; exact Ar9.1) (State.isArrayOf_alike hZ.alike Ar9.2.1) Ar9.2.2 hin9 hat9 (g := (mkF m 59 #[.val (.long q1), .second, .val (.long q2), .second, .val (.ref b1), .val (.ref b2), .unset] [(.int (1 : Int32)), (.ref b1)])) rfl rfl (hb hby at_59) _ ?_
        show Steps p.tables e below (T4.setTop (mkF m 60 #[.val (.long q1), .second, .val (.long q2), .second, .val (.ref b1), .val (.ref b2), .unset] [(.long lo_1)])) _
        refine XS.aload X4.here hx rfl (hb hby at_60) rfl rfl ?_
        show Steps p.tables e below (T4.setTop (mkF m 62 #[.val (.long q1), .second, .val (.long q2), .second, .val (.ref b1), .val (.ref b2), .unset] [(.ref b2), (.long lo_1)])) _
        refine XS.iconst X4.here hx rfl (hb hby at_62) ?_
        show Steps p.tables e below (T4.setTop (mkF m 63 #[.val (.long q1), .second, .val (.long q2), .second, .val (.ref b1), .val (.ref b2), .unset] [(.int (1 : Int32)), (.ref b2), (.long lo_1)])) _
        refine X4.laload hx (j := (1 : Int32)) (v := (.long lo_2)) (by rw [e4]; exact Ar10.1) (State.isArrayOf_alike hZ.alike Ar10.2.1) Ar10.2.2 hin10 hat10 (g := (mkF m 63 #[.val (.long q1), .second, .val (.long q2), .second, .val (.ref b1), .val (.ref b2), .unset] [(.int (1 : Int32)), (.ref b2), (.long lo_1)])) rfl rfl (hb hby at_63) _ ?_
        show Steps p.tables e below (T4.setTop (mkF m 64 #[.val (.long q1), .second, .val (.long q2), .second, .val (.ref b1), .val (.ref b2), .unset] [(.long lo_2), (.long lo_1)])) _
        refine XS.lcmp X4.here hx rfl (hb hby at_64) rfl ?_
        by_cases hj65 : lo_1 < lo_2
        · have q_pl : pl = (1 : Int32) := by rw [d_pl, if_neg hj41, if_pos hj53, if_pos hj65]
          show Steps p.tables e below (T4.setTop (mkF m 65 #[.val (.long q1), .second, .val (.long q2), .second, .val (.ref b1), .val (.ref b2), .unset] [(.int (lcmpW lo_1 lo_2))])) _
          refine XS.ifNo X4.here hx rfl (hb hby at_65) rfl ((if0 _ _).trans (tlt ((lw_lt _ _).mpr hj65)).2.1) ?_
          show Steps p.tables e below (T4.setTop (mkF m 68 #[.val (.long q1), .second, .val (.long q2), .second, .val (.ref b1), .val (.ref b2), .unset] [])) _
          refine XS.iconst X4.here hx rfl (hb hby at_68) ?_
          show Steps p.tables e below (T4.setTop (mkF m 69 #[.val (.long q1), .second, .val (.long q2), .second, .val (.ref b1), .val (.ref b2), .unset] [(.int (1 : Int32))])) _
          refine XS.goto X4.here hx rfl (pc0 := 69) (pc' := 73) rfl (hb hby at_69) (by decide) (by decide) ?_
          rw [q_pl] at k
          exact k
        · have q_pl : pl = (0 : Int32) := by rw [d_pl, if_neg hj41, if_pos hj53, if_neg hj65]
          show Steps p.tables e below (T4.setTop (mkF m 65 #[.val (.long q1), .second, .val (.long q2), .second, .val (.ref b1), .val (.ref b2), .unset] [(.int (lcmpW lo_1 lo_2))])) _
          refine XS.ifYes X4.here hx rfl (pc0 := 65) (pc' := 72) rfl (hb hby at_65) rfl ((if0 _ _).trans (flt (fun z => hj65 ((lw_lt _ _).mp z))).2.1) (by decide) (by decide) ?_
          show Steps p.tables e below (T4.setTop (mkF m 72 #[.val (.long q1), .second, .val (.long q2), .second, .val (.ref b1), .val (.ref b2), .unset] [])) _
          refine XS.iconst X4.here hx rfl (hb hby at_72) ?_
          rw [q_pl] at k
          exact k
      · have q_pl : pl = (0 : Int32) := by rw [d_pl, if_neg hj41, if_neg hj53]
        show Steps p.tables e below (T4.setTop (mkF m 53 #[.val (.long q1), .second, .val (.long q2), .second, .val (.ref b1), .val (.ref b2), .unset] [(.int (lcmpW hi_1 hi_2))])) _
        refine XS.ifYes X4.here hx rfl (pc0 := 53) (pc' := 72) rfl (hb hby at_53) rfl ((if0 _ _).trans (feq (fun z => hj53 ((lw_eq _ _).mp z))).2) (by decide) (by decide) ?_
        show Steps p.tables e below (T4.setTop (mkF m 72 #[.val (.long q1), .second, .val (.long q2), .second, .val (.ref b1), .val (.ref b2), .unset] [])) _
        refine XS.iconst X4.here hx rfl (hb hby at_72) ?_
        rw [q_pl] at k
        exact k
  obtain ⟨ab, d_ab⟩ : ∃ z : Int32, z = (if q1 < q2 then (1 : Int32) else (0 : Int32)) := ⟨_, rfl⟩
  have j12 : ∀ t, Steps p.tables e below (T4.setTop (mkF m 88 #[.val (.long q1), .second, .val (.long q2), .second, .val (.ref b1), .val (.ref b2), .val (.int pl)] [(.int ab), (.int pl)])) t → Steps p.tables e below (T4.setTop (mkF m 80 #[.val (.long q1), .second, .val (.long q2), .second, .val (.ref b1), .val (.ref b2), .val (.int pl)] [(.int (lcmpW q1 q2)), (.int pl)])) t := by
    intro t k
    by_cases hj80 : q1 < q2
    · have q_ab : ab = (1 : Int32) := by rw [d_ab, if_pos hj80]
      show Steps p.tables e below (T4.setTop (mkF m 80 #[.val (.long q1), .second, .val (.long q2), .second, .val (.ref b1), .val (.ref b2), .val (.int pl)] [(.int (lcmpW q1 q2)), (.int pl)])) _
      refine XS.ifNo X4.here hx rfl (hb hby at_80) rfl ((if0 _ _).trans (tlt ((lw_lt _ _).mpr hj80)).2.1) ?_
      show Steps p.tables e below (T4.setTop (mkF m 83 #[.val (.long q1), .second, .val (.long q2), .second, .val (.ref b1), .val (.ref b2), .val (.int pl)] [(.int pl)])) _
      refine XS.iconst X4.here hx rfl (hb hby at_83) ?_
      show Steps p.tables e below (T4.setTop (mkF m 84 #[.val (.long q1), .second, .val (.long q2), .second, .val (.ref b1), .val (.ref b2), .val (.int pl)] [(.int (1 : Int32)), (.int pl)])) _
      refine XS.goto X4.here hx rfl (pc0 := 84) (pc' := 88) rfl (hb hby at_84) (by decide) (by decide) ?_
      rw [q_ab] at k
      exact k
    · have q_ab : ab = (0 : Int32) := by rw [d_ab, if_neg hj80]
      show Steps p.tables e below (T4.setTop (mkF m 80 #[.val (.long q1), .second, .val (.long q2), .second, .val (.ref b1), .val (.ref b2), .val (.int pl)] [(.int (lcmpW q1 q2)), (.int pl)])) _
      refine XS.ifYes X4.here hx rfl (pc0 := 80) (pc' := 87) rfl (hb hby at_80) rfl ((if0 _ _).trans (flt (fun z => hj80 ((lw_lt _ _).mp z))).2.1) (by decide) (by decide) ?_
      show Steps p.tables e below (T4.setTop (mkF m 87 #[.val (.long q1), .second, .val (.long q2), .second, .val (.ref b1), .val (.ref b2), .val (.int pl)] [(.int pl)])) _
      refine XS.iconst X4.here hx rfl (hb hby at_87) ?_
      rw [q_ab] at k
      exact k
  have hc88 : pl = ab := by rw [d_pl, d_ab]; exact own_law q1 q2 hi_1 lo_1 hi_2 lo_2 (own_hi _ _ d_b1.1) (own_lo _ _ d_b1.2) (own_hi _ _ d_b2.1) (own_lo _ _ d_b2.2)
  obtain ⟨fs, hr, hrun, hended, hW, hsame⟩ := X4.leave (v := some (.int (1 : Int32))) (fun h => by rw [Bd.returns] at h; cases h)
  refine ⟨_, _, ?_, hrun, hended, _, _, rfl, ?_, ⟨_, rfl⟩, hW, hsame.mono (by decide) (by decide)⟩
  · show Steps p.tables e below (s₁.setTop (mkF m 0 #[.val (.long q1), .second, .val (.long q2), .second, .unset, .unset, .unset] [])) _
    refine XS.lloadN X0.here hx rfl (hb hby at_0) rfl ?_
    show Steps p.tables e below (s₁.setTop (mkF m 1 #[.val (.long q1), .second, .val (.long q2), .second, .unset, .unset, .unset] [(.long q1)])) _
    refine st1 _ ?_
    show Steps p.tables e below (T1.setTop (mkF m 4 #[.val (.long q1), .second, .val (.long q2), .second, .unset, .unset, .unset] [(.ref b1)])) _
    refine XS.astore X1.here hx rfl (hb hby at_4) rfl rfl (l' := #[.val (.long q1), .second, .val (.long q2), .second, .val (.ref b1), .unset, .unset]) rfl ?_
    show Steps p.tables e below (T1.setTop (mkF m 6 #[.val (.long q1), .second, .val (.long q2), .second, .val (.ref b1), .unset, .unset] [])) _
    refine XS.lloadN X1.here hx rfl (hb hby at_6) rfl ?_
    show Steps p.tables e below (T1.setTop (mkF m 7 #[.val (.long q1), .second, .val (.long q2), .second, .val (.ref b1), .unset, .unset] [(.long q2)])) _
    refine st2 _ ?_
    show Steps p.tables e below (T2.setTop (mkF m 10 #[.val (.long q1), .second, .val (.long q2), .second, .val (.ref b1), .unset, .unset] [(.ref b2)])) _
    refine XS.astore X2.here hx rfl (hb hby at_10) rfl rfl (l' := #[.val (.long q1), .second, .val (.long q2), .second, .val (.ref b1), .val (.ref b2), .unset]) rfl ?_
    show Steps p.tables e below (T2.setTop (mkF m 12 #[.val (.long q1), .second, .val (.long q2), .second, .val (.ref b1), .val (.ref b2), .unset] [])) _
    refine XS.aload X2.here hx rfl (hb hby at_12) rfl rfl ?_
    show Steps p.tables e below (T2.setTop (mkF m 14 #[.val (.long q1), .second, .val (.long q2), .second, .val (.ref b1), .val (.ref b2), .unset] [(.ref b1)])) _
    refine XS.lloadN X2.here hx rfl (hb hby at_14) rfl ?_
    show Steps p.tables e below (T2.setTop (mkF m 15 #[.val (.long q1), .second, .val (.long q2), .second, .val (.ref b1), .val (.ref b2), .unset] [(.long q1), (.ref b1)])) _
    refine st3 _ ?_
    show Steps p.tables e below (T3.setTop (mkF m 18 #[.val (.long q1), .second, .val (.long q2), .second, .val (.ref b1), .val (.ref b2), .unset] [(.int wa)])) _
    refine XS.ifNo X3.here hx rfl (hb hby at_18) rfl ((if0 _ _).trans (feq hc18).1) ?_
    show Steps p.tables e below (T3.setTop (mkF m 21 #[.val (.long q1), .second, .val (.long q2), .second, .val (.ref b1), .val (.ref b2), .unset] [])) _
    refine XS.aload X3.here hx rfl (hb hby at_21) rfl rfl ?_
    show Steps p.tables e below (T3.setTop (mkF m 23 #[.val (.long q1), .second, .val (.long q2), .second, .val (.ref b1), .val (.ref b2), .unset] [(.ref b2)])) _
    refine XS.lloadN X3.here hx rfl (hb hby at_23) rfl ?_
    show Steps p.tables e below (T3.setTop (mkF m 24 #[.val (.long q1), .second, .val (.long q2), .second, .val (.ref b1), .val (.ref b2), .unset] [(.long q2), (.ref b2)])) _
    refine st4 _ ?_
    show Steps p.tables e below (T4.setTop (mkF m 27 #[.val (.long q1), .second, .val (.long q2), .second, .val (.ref b1), .val (.ref b2), .unset] [(.int wb)])) _
    refine XS.ifYes X4.here hx rfl (pc0 := 27) (pc' := 32) rfl (hb hby at_27) rfl ((if0 _ _).trans (feq hc27).2) (by decide) (by decide) ?_
    show Steps p.tables e below (T4.setTop (mkF m 32 #[.val (.long q1), .second, .val (.long q2), .second, .val (.ref b1), .val (.ref b2), .unset] [])) _
    refine XS.aload X4.here hx rfl (hb hby at_32) rfl rfl ?_
    show Steps p.tables e below (T4.setTop (mkF m 34 #[.val (.long q1), .second, .val (.long q2), .second, .val (.ref b1), .val (.ref b2), .unset] [(.ref b1)])) _
    refine XS.iconst X4.here hx rfl (hb hby at_34) ?_
    show Steps p.tables e below (T4.setTop (mkF m 35 #[.val (.long q1), .second, .val (.long q2), .second, .val (.ref b1), .val (.ref b2), .unset] [(.int (0 : Int32)), (.ref b1)])) _
    refine X4.laload hx (j := (0 : Int32)) (v := (.long hi_1)) (by rw [e4]; exact Ar5.1) (State.isArrayOf_alike hZ.alike Ar5.2.1) Ar5.2.2 hin5 hat5 (g := (mkF m 35 #[.val (.long q1), .second, .val (.long q2), .second, .val (.ref b1), .val (.ref b2), .unset] [(.int (0 : Int32)), (.ref b1)])) rfl rfl (hb hby at_35) _ ?_
    show Steps p.tables e below (T4.setTop (mkF m 36 #[.val (.long q1), .second, .val (.long q2), .second, .val (.ref b1), .val (.ref b2), .unset] [(.long hi_1)])) _
    refine XS.aload X4.here hx rfl (hb hby at_36) rfl rfl ?_
    show Steps p.tables e below (T4.setTop (mkF m 38 #[.val (.long q1), .second, .val (.long q2), .second, .val (.ref b1), .val (.ref b2), .unset] [(.ref b2), (.long hi_1)])) _
    refine XS.iconst X4.here hx rfl (hb hby at_38) ?_
    show Steps p.tables e below (T4.setTop (mkF m 39 #[.val (.long q1), .second, .val (.long q2), .second, .val (.ref b1), .val (.ref b2), .unset] [(.int (0 : Int32)), (.ref b2), (.long hi_1)])) _
    refine X4.laload hx (j := (0 : Int32)) (v := (.long hi_2)) (by rw [e4]; exact Ar6.1) (State.isArrayOf_alike hZ.alike Ar6.2.1) Ar6.2.2 hin6 hat6 (g := (mkF m 39 #[.val (.long q1), .second, .val (.long q2), .second, .val (.ref b1), .val (.ref b2), .unset] [(.int (0 : Int32)), (.ref b2), (.long hi_1)])) rfl rfl (hb hby at_39) _ ?_
    show Steps p.tables e below (T4.setTop (mkF m 40 #[.val (.long q1), .second, .val (.long q2), .second, .val (.ref b1), .val (.ref b2), .unset] [(.long hi_2), (.long hi_1)])) _
    refine XS.lcmp X4.here hx rfl (hb hby at_40) rfl ?_
    show Steps p.tables e below (T4.setTop (mkF m 41 #[.val (.long q1), .second, .val (.long q2), .second, .val (.ref b1), .val (.ref b2), .unset] [(.int (lcmpW hi_1 hi_2))])) _
    refine j11 _ ?_
    show Steps p.tables e below (T4.setTop (mkF m 73 #[.val (.long q1), .second, .val (.long q2), .second, .val (.ref b1), .val (.ref b2), .unset] [(.int pl)])) _
    refine XS.istore X4.here hx rfl (hb hby at_73) rfl (l' := #[.val (.long q1), .second, .val (.long q2), .second, .val (.ref b1), .val (.ref b2), .val (.int pl)]) rfl ?_
    show Steps p.tables e below (T4.setTop (mkF m 75 #[.val (.long q1), .second, .val (.long q2), .second, .val (.ref b1), .val (.ref b2), .val (.int pl)] [])) _
    refine XS.iload X4.here hx rfl (hb hby at_75) rfl ?_
    show Steps p.tables e below (T4.setTop (mkF m 77 #[.val (.long q1), .second, .val (.long q2), .second, .val (.ref b1), .val (.ref b2), .val (.int pl)] [(.int pl)])) _
    refine XS.lloadN X4.here hx rfl (hb hby at_77) rfl ?_
    show Steps p.tables e below (T4.setTop (mkF m 78 #[.val (.long q1), .second, .val (.long q2), .second, .val (.ref b1), .val (.ref b2), .val (.int pl)] [(.long q1), (.int pl)])) _
    refine XS.lloadN X4.here hx rfl (hb hby at_78) rfl ?_
    show Steps p.tables e below (T4.setTop (mkF m 79 #[.val (.long q1), .second, .val (.long q2), .second, .val (.ref b1), .val (.ref b2), .val (.int pl)] [(.long q2), (.long q1), (.int pl)])) _
    refine XS.lcmp X4.here hx rfl (hb hby at_79) rfl ?_
    show Steps p.tables e below (T4.setTop (mkF m 80 #[.val (.long q1), .second, .val (.long q2), .second, .val (.ref b1), .val (.ref b2), .val (.int pl)] [(.int (lcmpW q1 q2)), (.int pl)])) _
    refine j12 _ ?_
    show Steps p.tables e below (T4.setTop (mkF m 88 #[.val (.long q1), .second, .val (.long q2), .second, .val (.ref b1), .val (.ref b2), .val (.int pl)] [(.int ab), (.int pl)])) _
    refine XS.icmpNo X4.here hx rfl (hb hby at_88) rfl (teq hc88).2 ?_
    show Steps p.tables e below (T4.setTop (mkF m 91 #[.val (.long q1), .second, .val (.long q2), .second, .val (.ref b1), .val (.ref b2), .val (.int pl)] [])) _
    refine XS.iconst X4.here hx rfl (hb hby at_91) ?_
    show Steps p.tables e below (T4.setTop (mkF m 92 #[.val (.long q1), .second, .val (.long q2), .second, .val (.ref b1), .val (.ref b2), .val (.int pl)] [(.int (1 : Int32))])) _
    refine XS.goto X4.here hx rfl (pc0 := 92) (pc' := 96) rfl (hb hby at_92) (by decide) (by decide) ?_
    show Steps p.tables e below (T4.setTop (mkF m 96 #[.val (.long q1), .second, .val (.long q2), .second, .val (.ref b1), .val (.ref b2), .val (.int pl)] [(.int (1 : Int32))])) _
    exact retN X4 hx (t := .boolean) Bd.returns (by simp) (hb hby at_96) hr
  · show Q0 Z q1 q2 h0 n0 _ T4.heap _
    rw [e4]
    exact ⟨rfl, N4⟩
set_option maxRecDepth 65536 in
set_option maxHeartbeats 40000000 in
theorem comes_1 {Post : Tables → Env → Array Value → State → Outcome → State → Prop} (hpost : ∀ tb e args s v u, (limb_1_1.after args s (.returned v) u = true ∧ limb_1_2.after args s (.returned v) u = true ∧ True) → FrameEnd s (.returned v) u (Jvm.fieldLocs frame_1_writes args s ++ Jvm.arrayLocs frame_1_arrays args s ++ Jvm.staticLocs frame_1_statics s) 16 128 → Post tb e args s (.returned v) u) :
    ArmFor flags0 classFile x code maxLocals ret World_1 tables_1 room_1 Calls_1 rest_1 Pre_1 Post := by
  intro l hfl _ _ p e ha hc hk s m args below hf hA hF happ hP
  obtain ⟨hcalls, hrest, hpre⟩ := hP
  obtain ⟨-, -, -, hnamed, -, -, -, hat⟩ := (Spec.applies_iff hf).mp happ
  obtain ⟨hg, hn⟩ := and_e (Cond.before_iff.mp (show (Jvm.Cond.and given_1 narrow_1).before args s = true from hpre))
  obtain ⟨hct, hg⟩ := and_e hg
  obtain ⟨ga0, hg⟩ := and_e hg
  have ga1 := hg
  obtain ⟨w0, w1, rfl⟩ : ∃ w0 w1 : Value, args = #[w0, w1] := by
    have hs : args.size = 2 := by simpa [Cond.value, given_1] using hct
    obtain ⟨L⟩ := args
    match L, hs with
    | [w0, w1], _ => exact ⟨w0, w1, rfl⟩
  have hw := fun d (hd : d ∈ tables_1) => atoms_spec (ws := Jvm.Cond.code x code maxLocals ret :: tables_1) hat d (List.mem_cons_of_mem _ hd)
  obtain ⟨i0, ei0⟩ := isL_v ga0
  obtain rfl : w0 = (.long i0) := Option.some.inj ei0
  obtain ⟨i1, ei1⟩ := isL_v ga1
  obtain rfl : w1 = (.long i1) := Option.some.inj ei1
  obtain ⟨n, o, h1, h2, h3, _, L, rfl, ⟨rfl, N⟩, hq⟩ := rm0 l s _ hw tables_1 i0 i1 s.heap s.heap.size (Nat.le_refl _)  p e ha hc hk s m _ below hf ((Spec.applies_iff_loose hf).mp happ).1 ⟨rfl, State.Warmed39.refl s, rfl⟩ trivial
  refine ⟨n, _, h1, h2, h3, hpost _ _ _ _ _ _ ⟨Cond.after_iff.mpr rfl, Cond.after_iff.mpr (eq_i res_at (Term.int_eval (1)) rfl), trivial⟩ ⟨hq.1, hq.2.1, (hq.2.2.sift fun y hy => Or.inr (N y hy)).mono (by decide) (by decide)⟩⟩
theorem main_1_1 : Claimed_1_1 := comes_1 fun _ _ _ _ _ _ h hF => ⟨h.1, hF⟩
theorem main_1_2 : Claimed_1_2 := comes_1 fun _ _ _ _ _ _ h hF => ⟨h.2.1, hF⟩
end Jvm.Pilot.@@N@@
namespace Jvm.Pilot.@@N@@
open Jvm Jvm.ClassFile Sem Op Lib Jvm.Free Jvm.Stand Jvm.Pilot.@@N@@.Jvm.D
/-! MADE BY PROGRAM (witnessworld.py) out of the Statement's table words and the real class files: 11 classes; the members and pool entries that the words name. The judged class is class 1, her method 2. -/
namespace start1
open Jvm.ClassFile
def u (s : String) : CpInfo := .utf8 (stringToUtf16 s)
/-- a pool by its gaps: so many unusable entries, then the entry; so many at the end -/
def gap : Nat → List CpInfo → List CpInfo
  | 0, r => r
  | n + 1, r => .unusable :: gap n r
def poolList (es : List (Nat × CpInfo)) (last : Nat) : List CpInfo := es.foldr (fun e r => gap e.1 (e.2 :: r)) (gap last [])
def pool (es : List (Nat × CpInfo)) (last : Nat) : Array CpInfo := ⟨poolList es last⟩
def fileOf (pool : Array CpInfo) (this : Nat) (attrs : Array Attribute := #[]) (ms : Array MethodInfo := #[]) (fl : Nat := 33) (sup : Nat := 0) (ifs : Array Nat := #[]) (fds : Array FieldInfo := #[]) : ClassFile where
  minorVersion := 0
  majorVersion := 65
  constantPool := pool
  accessFlags := fl
  thisClass := this
  superClass := sup
  interfaces := ifs
  fields := fds
  methods := ms
  attributes := attrs
def plain (name : String) (sup : Option ClassId) : Class where
  name := name
  kind := .ordinary
  loader := none
  accessFlags := 33
  super := sup
  interfaces := #[]
  cf := none
  fields := #[]
  methods := #[]
  instanceTypes := #[]
  staticTypes := #[]
  resolved := #[]
  callSites := []
  init := .initialized
  statics := none
  mirror := none

def pool0 : Array CpInfo := pool [(5, u "<init>"), (0, u "()V"), (1, .class_ 10), (1, u "java/lang/Object")] 113

def k0m0 : Method := { name := "<init>", desc := "()V", sig := { parameters := [], returnType := none }, accessFlags := 1, code := none }
/-- java/lang/Object -/
def k0 : Class := { plain "java/lang/Object" none with
  accessFlags := 33
  interfaces := #[]
  cf := some (fileOf pool0 8 #[] #[{ accessFlags := 1, nameIndex := 5, descriptorIndex := 6, attributes := #[] }] 33 0 #[] #[])
  fields := #[]
  methods := #[k0m0]
  instanceTypes := #[]
  staticTypes := #[]
  resolved := Array.replicate 124 none
  statics := none }

def pool1 : Array CpInfo := pool [(2, .class_ 4), (1, u "java/lang/Object"), (0, u "<init>"), (0, u "()V"), (0, .class_ 8), (0, u "com/example/spillway/spillway/RedisScriptHalvesPinLaw"), (0, .long 4294967296), (3, .long 9223372036854775808), (1, .interfaceMethodref 16 17), (0, .class_ 18), (0, .nameAndType 19 20), (0, u "com/example/spillway/spillway/RedisScript"), (0, u "halves"), (0, u "(J)[J"), (0, .methodref 7 22), (0, .nameAndType 23 24), (0, u "wellFormed"), (0, u "([JJ)Z"), (0, u "TWO_32"), (0, u "J"), (4, u "law"), (0, u "(JJ)Z")] 4

def k1m0 : Method := { name := "<init>", desc := "()V", sig := { parameters := [], returnType := none }, accessFlags := 1, code := none }
def k1c1 : Code := { maxStack := 4, maxLocals := 5, code := method_2_code, exceptionTable := #[], attributes := #[] }
def k1m1 : Method := { name := "wellFormed", desc := "([JJ)Z", sig := { parameters := [(.array .long), .long], returnType := some .boolean }, accessFlags := 10, code := some k1c1 }
def k1c2 : Code := { maxStack := 5, maxLocals := 7, code := code, exceptionTable := #[], attributes := #[] }
def k1m2 : Method := { name := "law", desc := "(JJ)Z", sig := { parameters := [.long, .long], returnType := some .boolean }, accessFlags := 9, code := some k1c2 }
/-- com/example/spillway/spillway/RedisScriptHalvesPinLaw -/
def k1 : Class := { plain "com/example/spillway/spillway/RedisScriptHalvesPinLaw" (some 0) with
  accessFlags := 49
  interfaces := #[]
  cf := some (fileOf pool1 7 #[] #[{ accessFlags := 1, nameIndex := 5, descriptorIndex := 6, attributes := #[] }, { accessFlags := 10, nameIndex := 23, descriptorIndex := 24, attributes := #[] }, { accessFlags := 9, nameIndex := 31, descriptorIndex := 32, attributes := #[] }] 49 2 #[] #[{ accessFlags := 26, nameIndex := 25, descriptorIndex := 26, attributes := #[] }])
  fields := #[{ name := "TWO_32", type := .long, accessFlags := 26, slot := 0, constantValue := 0 }]
  methods := #[k1m0, k1m1, k1m2]
  instanceTypes := #[]
  staticTypes := #[.long]
  resolved := Array.replicate 37 none
  statics := none }

def pool2 : Array CpInfo := pool [(2, .class_ 4), (1, u "com/example/spillway/spillway/RedisScript"), (53, .long 9223372036854775808), (1, .long 4294967295), (11, .class_ 73), (0, u "java/lang/Object"), (0, u "EXACT_IN_DOUBLES"), (0, u "J"), (23, u "halves"), (0, u "(J)[J")] 19

def k2c0 : Code := { maxStack := 7, maxLocals := 4, code := prog_33_method_8_code, exceptionTable := #[], attributes := #[] }
def k2m0 : Method := { name := "halves", desc := "(J)[J", sig := { parameters := [.long], returnType := some (.array .long) }, accessFlags := 9, code := some k2c0 }
/-- com/example/spillway/spillway/RedisScript -/
def k2 : Class := { plain "com/example/spillway/spillway/RedisScript" (some 0) with
  accessFlags := 1536
  interfaces := #[]
  cf := some (fileOf pool2 2 #[] #[{ accessFlags := 9, nameIndex := 99, descriptorIndex := 100, attributes := #[] }] 1536 72 #[] #[{ accessFlags := 25, nameIndex := 74, descriptorIndex := 75, attributes := #[] }])
  fields := #[{ name := "EXACT_IN_DOUBLES", type := .long, accessFlags := 25, slot := 0, constantValue := 0 }]
  methods := #[k2m0]
  instanceTypes := #[]
  staticTypes := #[.long]
  resolved := Array.replicate 120 none
  statics := none }

def pool3 : Array CpInfo := pool [(1, u "java/lang/Cloneable"), (0, .class_ 1), (0, u "java/lang/Object"), (0, .class_ 3)] 3

/-- java/lang/Cloneable -/
def k3 : Class := { plain "java/lang/Cloneable" (some 0) with
  accessFlags := 1537
  interfaces := #[]
  cf := some (fileOf pool3 2 #[] #[] 1537 4 #[] #[])
  fields := #[]
  methods := #[]
  instanceTypes := #[]
  staticTypes := #[]
  resolved := Array.replicate 8 none
  statics := none }

def pool4 : Array CpInfo := pool [(1, u "java/io/Serializable"), (0, .class_ 1), (0, u "java/lang/Object"), (0, .class_ 3)] 3

/-- java/io/Serializable -/
def k4 : Class := { plain "java/io/Serializable" (some 0) with
  accessFlags := 1537
  interfaces := #[]
  cf := some (fileOf pool4 2 #[] #[] 1537 4 #[] #[])
  fields := #[]
  methods := #[]
  instanceTypes := #[]
  staticTypes := #[]
  resolved := Array.replicate 8 none
  statics := none }

/-- the primitive byte -/
def k5 : Class := { plain "byte" none with kind := .primitive 'B', accessFlags := 0x411 }
/-- [B -/
def k6 : Class := { plain "[B" (some 0) with kind := .array 5 .byte, interfaces := #[3, 4], accessFlags := 1041 }

/-- the primitive int -/
def k7 : Class := { plain "int" none with kind := .primitive 'I', accessFlags := 0x411 }
/-- [I -/
def k8 : Class := { plain "[I" (some 0) with kind := .array 7 .int, interfaces := #[3, 4], accessFlags := 1041 }

/-- the primitive long -/
def k9 : Class := { plain "long" none with kind := .primitive 'J', accessFlags := 0x411 }
/-- [J -/
def k10 : Class := { plain "[J" (some 0) with kind := .array 9 .long, interfaces := #[3, 4], accessFlags := 1041 }

def heap : Heap := #[]
def classes : Array Class := #[k0, k1, k2, k3, k4, k5, k6, k7, k8, k9, k10]
def interned : List (Array UInt16 × Addr) := []
def slotsUsed : Nat := 0
def theMethod : MethodId := ⟨1, 2⟩
def args0 : Array Value := #[.long 5, .long 2]
def aboutOver (below : List Frame) : State where
  vm := { classes := classes, interned := interned.toArray }
  heap := heap
  slotsUsed := slotsUsed
  threads := #[{ frames := .invoking theMethod args0 :: below }]
def below0 : List Frame := [.native { method := ⟨0, 0⟩, args := #[] }]
def about1 : State := aboutOver below0
def p0 : Program := .bare "" "" ""
def e0 : Env := launch0.env 0 0 0
theorem w_frames : about1.frames = Frame.invoking theMethod args0 :: below0 := rfl
set_option maxRecDepth 65536 in
theorem w_args : argsFit about1.vm theMethod args0 = true := by decide +kernel
set_option maxRecDepth 65536 in
theorem w_heap : heapFits about1 = true := by decide +kernel
set_option maxRecDepth 65536 in
theorem w_runnable : about1.curStatus? = some .runnable := by decide +kernel
set_option maxRecDepth 65536 in
theorem w_alone : about1.alone = true := by decide +kernel
set_option maxRecDepth 65536 in
theorem w_named : about1.methodNamed? x = some theMethod := by decide +kernel
set_option maxRecDepth 65536 in
theorem w_hears : about1.hears theMethod below0 = true := by decide +kernel
set_option maxRecDepth 65536 in
theorem w_ripe : about1.ripe theMethod args0 below0 = true := by decide +kernel
theorem w_running : about1.status = .running := rfl
set_option maxRecDepth 65536 in
theorem w_room : about1.hasRoom e0.platform room_1 = true :=
  launch0.hasRoom_least _ room_1 (by decide +kernel) (by decide +kernel) (by decide +kernel) (by decide +kernel) (by decide +kernel) (by decide +kernel)
theorem allAtoms_all (ts : List Jvm.Cond) (a : Array Jvm.Value) (st : Jvm.State) : (allAtoms ts).before a st = ts.all (fun c => c.before a st) := by
  induction ts with
  | nil => rfl
  | cons c t ih =>
    show (Jvm.Cond.and c (allAtoms t)).before a st = _
    rw [Jvm.Cond.before_and, ih, List.all_cons]
def words1 : List Jvm.Cond := Jvm.Cond.code x code maxLocals ret :: tables_1
/-- a 'code' word, met by the world's own term for the bytes: nothing is compared byte by byte -/
theorem code_word {y : MethodName} {bytes : ByteArray} {mx : Nat} {rt : Option FieldType} {a : Array Value} {s : State} {m : MethodId} {meth : Method} {c : Code} (h1 : s.methodNamed? y = some m) (h2 : s.vm.method? m = some meth) (h3 : meth.code = some c) (h4 : c.code = bytes)
    (h5 : (c.maxLocals == mx && c.exceptionTable.isEmpty && decide (c.maxStack ≤ mostOperands) && decide (meth.sig.returnType = rt) && !meth.locks && decide (parseMethodDescriptor y.desc = some meth.sig)) = true) : (Jvm.Cond.code y bytes mx rt).before a s = true := by
  simp only [Bool.and_eq_true, beq_iff_eq, Bool.not_eq_true', decide_eq_true_eq] at h5
  obtain ⟨⟨⟨⟨⟨g1, g2⟩, g3⟩, g4⟩, g5⟩, g6⟩ := h5
  simp [Cond.before, Cond.holds, Cond.value, h1, h2, h3, h4, g1, g2, g3, g4, g5, g6]
def isCode : Jvm.Cond → Bool
  | .code _ _ _ _ => true
  | _ => false
theorem all_split {L : List Jvm.Cond} {P : Jvm.Cond → Bool} (h1 : L.all (fun c => isCode c || P c) = true) (h2 : ∀ c ∈ L.filter isCode, P c = true) : L.all P = true := by
  refine List.all_eq_true.mpr fun c hc => ?_
  have h := List.all_eq_true.mp h1 c hc
  rcases Bool.eq_false_or_eq_true (isCode c) with hi | hi
  · exact h2 c (List.mem_filter.mpr ⟨hc, hi⟩)
  · simpa [hi] using h
set_option maxRecDepth 65536 in
theorem w_c0 : (Jvm.Cond.code x code maxLocals ret).before args0 about1 = true := code_word (m := ⟨1, 2⟩) (meth := k1m2) (c := k1c2) (by decide +kernel) rfl rfl rfl (by decide +kernel)
set_option maxRecDepth 65536 in
theorem w_c1 : (Jvm.Cond.code ({ cls := "com/example/spillway/spillway/RedisScript", name := "halves", desc := "(J)[J" } : Jvm.MethodName) prog_33_method_8_code (4 : Nat) (Option.some (Jvm.ClassFile.FieldType.array Jvm.ClassFile.FieldType.long))).before args0 about1 = true := code_word (m := ⟨2, 0⟩) (meth := k2m0) (c := k2c0) (by decide +kernel) rfl rfl rfl (by decide +kernel)
set_option maxRecDepth 65536 in
theorem w_c2 : (Jvm.Cond.code ({ cls := "com/example/spillway/spillway/RedisScriptHalvesPinLaw", name := "wellFormed", desc := "([JJ)Z" } : Jvm.MethodName) method_2_code (5 : Nat) (Option.some Jvm.ClassFile.FieldType.boolean)).before args0 about1 = true := code_word (m := ⟨1, 1⟩) (meth := k1m1) (c := k1c1) (by decide +kernel) rfl rfl rfl (by decide +kernel)
def codes1 : List Jvm.Cond := [Jvm.Cond.code x code maxLocals ret, Jvm.Cond.code ({ cls := "com/example/spillway/spillway/RedisScript", name := "halves", desc := "(J)[J" } : Jvm.MethodName) prog_33_method_8_code (4 : Nat) (Option.some (Jvm.ClassFile.FieldType.array Jvm.ClassFile.FieldType.long)), Jvm.Cond.code ({ cls := "com/example/spillway/spillway/RedisScriptHalvesPinLaw", name := "wellFormed", desc := "([JJ)Z" } : Jvm.MethodName) method_2_code (5 : Nat) (Option.some Jvm.ClassFile.FieldType.boolean)]
set_option maxRecDepth 65536 in
theorem codes_eq : words1.filter isCode = codes1 := rfl
theorem w_codes : ∀ c ∈ words1.filter isCode, c.before args0 about1 = true := by
  rw [codes_eq]
  intro c hc
  simp only [codes1, List.mem_cons, List.not_mem_nil, or_false] at hc
  rcases hc with rfl | rfl | rfl
  · exact w_c0
  · exact w_c1
  · exact w_c2
set_option maxRecDepth 65536 in
theorem w_t1 : words1.all (fun c => isCode c || c.before args0 about1) = true := by decide +kernel
theorem w_tables : (allAtoms (Jvm.Cond.code x code maxLocals ret :: tables_1)).before args0 about1 = true := by
  rw [allAtoms_all]
  show words1.all (fun c => c.before args0 about1) = true
  refine all_split ?_ w_codes
  rw [w_t1]
set_option maxRecDepth 65536 in
theorem w_case : (Jvm.Cond.and given_1 narrow_1).before args0 about1 = true := by decide +kernel
theorem w_applies : (headSpec (Jvm.Cond.code x code maxLocals ret :: tables_1) room_1).applies x e0.platform about1 = true :=
  (Spec.applies_iff w_frames).mpr ⟨w_running, w_runnable, w_alone, w_named, w_hears, w_ripe, w_room, w_tables⟩
theorem atStart : AtStart classFile x code maxLocals ret World_1 tables_1 room_1 Calls_1 rest_1 Pre_1 launch0 p0 e0 about1 theMethod args0 below0 :=
  ⟨lists_1, trivial, launch0.admits_env _ _ _, launch0.least_env, fairChoices_fair.cas, fairChoices_fair.clock, w_frames, w_args, w_heap, w_applies, trivial, trivial, w_case⟩
end start1
theorem witness_1 : WitnessClaimed_1 := ⟨start1.p0, start1.e0, start1.about1, start1.theMethod, start1.args0, start1.below0, start1.atStart⟩
end Jvm.Pilot.@@N@@
