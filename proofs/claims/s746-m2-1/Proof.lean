import JvmDerived
import JvmDerived.Pilot.@@N@@Statement
import JvmDerived.Pilot.@@N@@Code
set_option linter.unusedVariables false
set_option linter.unusedSimpArgs false
namespace Jvm.RoadKit
open Sem ClassFile Op Lib Jvm.Stand Jvm.Free Jvm.LawKit
section New
variable {p : Program} {l : Launch} {e : Env} {R : Room} {s : State} {m : MethodId} {args : Array Value} {below : List Frame} {meth : Method} {c : Code} {T : State} {locs : List Loc} {cells slots : Nat}
theorem retI (X : Stand p l e R s m args below meth c T locs cells slots) (hx : p.tables.exec = Jvm.exec) {pc : Nat} {Ls : Array Slot} {z : Int32} {rest : List Value} (hret : meth.sig.returnType = some .int) (hd : decode c.code pc = .ok (.ireturn, 1)) {fs : List Frame}
    (hl : ∀ (f : JFrame) (acts : List Action), f.method = m → f.locked = none → f.entered = [] → (doReturn e (T.setTop f) acts (some (.int z))).1 = T.setFrames fs) : Steps p.tables e below (T.setTop (mkF m pc Ls (.int z :: rest))) (T.setFrames fs) := by
  have hm' : T.vm.method? m = some meth := X.method'
  have hn : narrow .int (.int z) = .int z := rfl
  show Steps p.tables e below (T.setTop { method := m, pc := pc, locals := Ls, stack := _ :: rest, locked := none }) _
  jvm_step X.here [X.here.top, hx, hd, hm', hret, hn]
  first | (intro acts; rw [hl _ acts rfl rfl rfl]) | rw [hl _ _ rfl rfl rfl]
  exact Steps.refl _
theorem own_lremM {g : JFrame} {target : State} (X : Stand p l e R s m args below meth c T locs cells slots) (hx : p.tables.exec = Jvm.exec) (hg : g.method = m) {x y : Int64} {rest : List Value} (hd : decode c.code g.pc = .ok (.lrem, 1)) (hs : g.stack = .long y :: .long x :: rest) (hy : y ≠ 0)
    (hr : Steps p.tables e below (T.setTop { g with pc := g.pc + 1, stack := .long (x % y) :: rest }) target) : Steps p.tables e below (T.setTop g) target :=
  XS.lrem X.here hx hg hd hs hy (by first | exact hr | (rw [lrem_mod]; exact hr))
theorem own_monoW {s t : State} {o : Outcome} {L : List Loc} {k n k' n' : Nat} (h : ReturnedEndW s o t L k n) (hk : k ≤ k') (hn : n ≤ n') : ReturnedEndW s o t L k' n' := ⟨h.1, h.2.1, h.2.2.1, h.2.2.2.mono hk hn⟩
theorem own_go {α β : Type} {S S' : α → Prop} {P : α → β → Prop} (h : ∀ t, S' t → S t) (g : ∃ n o, S' n ∧ P n o) : ∃ n o, S n ∧ P n o := by
  obtain ⟨n, o, a, b⟩ := g
  exact ⟨n, o, h n a, b⟩
end New
end Jvm.RoadKit
namespace Jvm.Pilot.@@N@@
open Jvm Jvm.ClassFile Sem Op Lib Jvm.Free Jvm.Stand Jvm.LawKit Jvm.RoadKit Bundle Jvm.Pilot.@@N@@.Jvm.D
def own_mur (z : Int64) : Int64 := (((((z ^^^ ((z.toUInt64 >>> ((33 : Int32) &&& 0x3f).toInt64.toUInt64).toInt64)) * (-49064778989728563 : Int64)) ^^^ ((((z ^^^ ((z.toUInt64 >>> ((33 : Int32) &&& 0x3f).toInt64.toUInt64).toInt64)) * (-49064778989728563 : Int64)).toUInt64 >>> ((33 : Int32) &&& 0x3f).toInt64.toUInt64).toInt64)) * (-4265267296055464877 : Int64)) ^^^ ((((((z ^^^ ((z.toUInt64 >>> ((33 : Int32) &&& 0x3f).toInt64.toUInt64).toInt64)) * (-49064778989728563 : Int64)) ^^^ ((((z ^^^ ((z.toUInt64 >>> ((33 : Int32) &&& 0x3f).toInt64.toUInt64).toInt64)) * (-49064778989728563 : Int64)).toUInt64 >>> ((33 : Int32) &&& 0x3f).toInt64.toUInt64).toInt64)) * (-4265267296055464877 : Int64)).toUInt64 >>> ((33 : Int32) &&& 0x3f).toInt64.toUInt64).toInt64))
def own_sta (z : Int64) : Int64 := (((((z ^^^ ((z.toUInt64 >>> ((30 : Int32) &&& 0x3f).toInt64.toUInt64).toInt64)) * (-4658895280553007687 : Int64)) ^^^ ((((z ^^^ ((z.toUInt64 >>> ((30 : Int32) &&& 0x3f).toInt64.toUInt64).toInt64)) * (-4658895280553007687 : Int64)).toUInt64 >>> ((27 : Int32) &&& 0x3f).toInt64.toUInt64).toInt64)) * (-7723592293110705685 : Int64)) ^^^ ((((((z ^^^ ((z.toUInt64 >>> ((30 : Int32) &&& 0x3f).toInt64.toUInt64).toInt64)) * (-4658895280553007687 : Int64)) ^^^ ((((z ^^^ ((z.toUInt64 >>> ((30 : Int32) &&& 0x3f).toInt64.toUInt64).toInt64)) * (-4658895280553007687 : Int64)).toUInt64 >>> ((27 : Int32) &&& 0x3f).toInt64.toUInt64).toInt64)) * (-7723592293110705685 : Int64)).toUInt64 >>> ((31 : Int32) &&& 0x3f).toInt64.toUInt64).toInt64))
def own_lea (z : Int64) : Int64 := (((((z ^^^ ((z.toUInt64 >>> ((32 : Int32) &&& 0x3f).toInt64.toUInt64).toInt64)) * (-2685821657736338717 : Int64)) ^^^ ((((z ^^^ ((z.toUInt64 >>> ((32 : Int32) &&& 0x3f).toInt64.toUInt64).toInt64)) * (-2685821657736338717 : Int64)).toUInt64 >>> ((32 : Int32) &&& 0x3f).toInt64.toUInt64).toInt64)) * (-2685821657736338717 : Int64)) ^^^ ((((((z ^^^ ((z.toUInt64 >>> ((32 : Int32) &&& 0x3f).toInt64.toUInt64).toInt64)) * (-2685821657736338717 : Int64)) ^^^ ((((z ^^^ ((z.toUInt64 >>> ((32 : Int32) &&& 0x3f).toInt64.toUInt64).toInt64)) * (-2685821657736338717 : Int64)).toUInt64 >>> ((32 : Int32) &&& 0x3f).toInt64.toUInt64).toInt64)) * (-2685821657736338717 : Int64)).toUInt64 >>> ((32 : Int32) &&& 0x3f).toInt64.toUInt64).toInt64))
def own_rot (z : Int64) (k : Int32) : Int64 := ((z <<< (k &&& 0x3f).toInt64) ||| ((z.toUInt64 >>> ((-k) &&& 0x3f).toInt64.toUInt64).toInt64))
def own_s (a s : Int64) : Int64 := (((-3372029247567499371 : Int64) * s) + a)
def own_x0 (x y : Int64) : Int64 := (((own_rot x (24 : Int32)) ^^^ (y ^^^ x)) ^^^ ((y ^^^ x) <<< ((16 : Int32) &&& 0x3f).toInt64))
def own_x1 (x y : Int64) : Int64 := (own_rot (y ^^^ x) (37 : Int32))
def own_ia (q : Int64) : Int64 := ((own_mur (q ^^^ (7640891576956012809 : Int64))) ||| (1 : Int64))
def own_ix (q : Int64) : Int64 := (own_sta (q ^^^ (7640891576956012809 : Int64)))
def own_iy (q : Int64) : Int64 := (own_sta ((q ^^^ (7640891576956012809 : Int64)) + (-7046029254386353131 : Int64)))
theorem own_odd (z : Int64) : ¬ ((z ||| (1 : Int64)) &&& (1 : Int64)) = (0 : Int64) := by
  intro h
  rw [← Int64.toBitVec_inj, Int64.toBitVec_and, Int64.toBitVec_or] at h
  have t := congrArg (fun w => w.getLsbD 0) h
  simp at t
theorem d3_0 : decode prog_21_method_8_code 0 = .ok (.lload_n 0, 1) := by decide +kernel
theorem d3_1 : decode prog_21_method_8_code 1 = .ok (.lload_n 0, 1) := by decide +kernel
theorem d3_2 : decode prog_21_method_8_code 2 = .ok (.bipush 33, 2) := by decide +kernel
theorem d3_4 : decode prog_21_method_8_code 4 = .ok (.lushr, 1) := by decide +kernel
theorem d3_5 : decode prog_21_method_8_code 5 = .ok (.lxor, 1) := by decide +kernel
theorem d3_6 : decode prog_21_method_8_code 6 = .ok (.ldc2_w 56, 3) := by decide +kernel
theorem d3_9 : decode prog_21_method_8_code 9 = .ok (.lmul, 1) := by decide +kernel
theorem d3_10 : decode prog_21_method_8_code 10 = .ok (.lstore_n 2, 1) := by decide +kernel
theorem d3_11 : decode prog_21_method_8_code 11 = .ok (.lload_n 2, 1) := by decide +kernel
theorem d3_12 : decode prog_21_method_8_code 12 = .ok (.lload_n 2, 1) := by decide +kernel
theorem d3_13 : decode prog_21_method_8_code 13 = .ok (.bipush 33, 2) := by decide +kernel
theorem d3_15 : decode prog_21_method_8_code 15 = .ok (.lushr, 1) := by decide +kernel
theorem d3_16 : decode prog_21_method_8_code 16 = .ok (.lxor, 1) := by decide +kernel
theorem d3_17 : decode prog_21_method_8_code 17 = .ok (.ldc2_w 58, 3) := by decide +kernel
theorem d3_20 : decode prog_21_method_8_code 20 = .ok (.lmul, 1) := by decide +kernel
theorem d3_21 : decode prog_21_method_8_code 21 = .ok (.lstore 4, 2) := by decide +kernel
theorem d3_23 : decode prog_21_method_8_code 23 = .ok (.lload 4, 2) := by decide +kernel
theorem d3_25 : decode prog_21_method_8_code 25 = .ok (.lload 4, 2) := by decide +kernel
theorem d3_27 : decode prog_21_method_8_code 27 = .ok (.bipush 33, 2) := by decide +kernel
theorem d3_29 : decode prog_21_method_8_code 29 = .ok (.lushr, 1) := by decide +kernel
theorem d3_30 : decode prog_21_method_8_code 30 = .ok (.lxor, 1) := by decide +kernel
theorem d3_31 : decode prog_21_method_8_code 31 = .ok (.lreturn, 1) := by decide +kernel
theorem pn_3 : plainName "com/example/driftline/driftline/model/LxmRandom" = true := by first | (simp [plainName, overriddenIn]; done) | decide +kernel
theorem ef_3 (m : MethodId) (x0 : Int64) : entryFrame m #[(.long x0)] 6 = mkF m 0 #[.val (.long x0), .second, .unset, .unset, .unset, .unset] [] := by first | (simp [entryFrame, mkF, argsToLocals, Value.category]; done) | rfl
def Q3 (Z : State) (q1 : Int64) (h0 : Heap) (n0 : Nat) (v : Option Value) (h : Heap) (L : List Loc) : Prop := ∃ r : Int64, v = some (.long r) ∧ (r = own_mur q1) ∧ Fr n0 L ∧ h = h0
set_option maxRecDepth 65536 in
set_option maxHeartbeats 40000000 in
theorem rm3 (l : Launch) (Z : State) (a0 : Array Value) (hw : ∀ d ∈ tables_1, d.before a0 Z = true) (ws : List Jvm.Cond) (q1 : Int64) (h0 : Heap) (n0 : Nat) (Z0 : n0 ≤ h0.size) :
    MetFree l (⟨"com/example/driftline/driftline/model/LxmRandom", "murmur", "(J)J"⟩ : MethodName) (head1 (Jvm.Cond.code (⟨"com/example/driftline/driftline/model/LxmRandom", "murmur", "(J)J"⟩ : MethodName) prog_21_method_8_code 6 (some .long) :: ws) ({ frames := 0, cells := 0, slots := 0, locals := 0 } : Room)) (fun a U => a = #[(.long q1)] ∧ Z.Warmed39 U.vm ∧ U.heap = h0) (fun _ _ _ _ _ => True) (fun _ U o U' => ∃ v L, o = .returned v ∧ Q3 Z q1 h0 n0 v U'.heap L ∧ FrameEnd U o U' L ({ frames := 0, cells := 0, slots := 0, locals := 0 } : Room).cells ({ frames := 0, cells := 0, slots := 0, locals := 0 } : Room).slots) := by
  refine MetFree.of_bodySF (plainFor_of_name pn_3) hisR ?_
  intro p e s m args below meth c s₁ Bd hml0 hP hK
  obtain ⟨rfl, hZ, hh⟩ := hP
  have hx := Bd.exec
  have hby := Bd.bytes
  have hml : c.maxLocals = 6 := hml0
  have hown : s.vm.findClass "com/example/driftline/driftline/model/LxmRandom" = some m.cls := findClass_of_methodNamed Bd.named
  have hnm := (name_of_methodNamed Bd.named Bd.method).1
  have X0 : Stand p l e ({ frames := 0, cells := 0, slots := 0, locals := 0 } : Room) s m #[(.long q1)] below meth c s₁ [] 0 0 := Stand.of_body Bd
  have e0 : s₁.heap = h0 := by rw [← hh, Bd.state]; rfl
  have N0 := Fr.nil n0
  have K0 : Keep h0 h0 [] := Keep.refl _ _
  have pre0 : ∀ t, Steps p.tables e below (s₁.setTop (mkF m 0 #[.val (.long q1), .second, .unset, .unset, .unset, .unset] [])) t → Steps p.tables e below (s₁.setTop (entryFrame m #[(.long q1)] 6)) t := fun t k => castTop (ef_3 m q1) k
  refine own_go (S' := fun t => Steps p.tables e below (s₁.setTop (mkF m 0 #[.val (.long q1), .second, .unset, .unset, .unset, .unset] [])) t) pre0 ?_
  obtain ⟨fs, hr, hrun, hended, hW, hsame⟩ := X0.leave (v := some (.long (((((q1 ^^^ ((q1.toUInt64 >>> ((33 : Int32) &&& 0x3f).toInt64.toUInt64).toInt64)) * (-49064778989728563 : Int64)) ^^^ ((((q1 ^^^ ((q1.toUInt64 >>> ((33 : Int32) &&& 0x3f).toInt64.toUInt64).toInt64)) * (-49064778989728563 : Int64)).toUInt64 >>> ((33 : Int32) &&& 0x3f).toInt64.toUInt64).toInt64)) * (-4265267296055464877 : Int64)) ^^^ ((((((q1 ^^^ ((q1.toUInt64 >>> ((33 : Int32) &&& 0x3f).toInt64.toUInt64).toInt64)) * (-49064778989728563 : Int64)) ^^^ ((((q1 ^^^ ((q1.toUInt64 >>> ((33 : Int32) &&& 0x3f).toInt64.toUInt64).toInt64)) * (-49064778989728563 : Int64)).toUInt64 >>> ((33 : Int32) &&& 0x3f).toInt64.toUInt64).toInt64)) * (-4265267296055464877 : Int64)).toUInt64 >>> ((33 : Int32) &&& 0x3f).toInt64.toUInt64).toInt64)))) (fun h => by rw [Bd.returns] at h; cases h)
  refine ⟨_, _, ?_, hrun, hended, _, _, rfl, ?_, ⟨_, rfl⟩, hW, hsame.mono (by decide) (by decide)⟩
  · show Steps p.tables e below (s₁.setTop (mkF m 0 #[.val (.long q1), .second, .unset, .unset, .unset, .unset] [])) _
    refine XS.lloadN X0.here hx rfl (hb hby d3_0) rfl ?_
    show Steps p.tables e below (s₁.setTop (mkF m 1 #[.val (.long q1), .second, .unset, .unset, .unset, .unset] [(.long q1)])) _
    refine XS.lloadN X0.here hx rfl (hb hby d3_1) rfl ?_
    show Steps p.tables e below (s₁.setTop (mkF m 2 #[.val (.long q1), .second, .unset, .unset, .unset, .unset] [(.long q1), (.long q1)])) _
    refine XS.bipush X0.here hx rfl (hb hby d3_2) ?_
    show Steps p.tables e below (s₁.setTop (mkF m 4 #[.val (.long q1), .second, .unset, .unset, .unset, .unset] [(.int (33 : Int32)), (.long q1), (.long q1)])) _
    refine XS.lushr X0.here hx rfl (hb hby d3_4) rfl ?_
    show Steps p.tables e below (s₁.setTop (mkF m 5 #[.val (.long q1), .second, .unset, .unset, .unset, .unset] [(.long ((q1.toUInt64 >>> ((33 : Int32) &&& 0x3f).toInt64.toUInt64).toInt64)), (.long q1)])) _
    refine XS.lxor X0.here hx rfl (hb hby d3_5) rfl ?_
    show Steps p.tables e below (s₁.setTop (mkF m 6 #[.val (.long q1), .second, .unset, .unset, .unset, .unset] [(.long (q1 ^^^ ((q1.toUInt64 >>> ((33 : Int32) &&& 0x3f).toInt64.toUInt64).toInt64)))])) _
    refine X0.ldc2Long hx hown (mvT hZ (hw _ (List.mem_of_getElem? (i := 13) rfl))) (g := (mkF m 6 #[.val (.long q1), .second, .unset, .unset, .unset, .unset] [(.long (q1 ^^^ ((q1.toUInt64 >>> ((33 : Int32) &&& 0x3f).toInt64.toUInt64).toInt64)))])) rfl (hb hby d3_6) _ ?_
    show Steps p.tables e below (s₁.setTop (mkF m 9 #[.val (.long q1), .second, .unset, .unset, .unset, .unset] [(.long (-49064778989728563 : Int64)), (.long (q1 ^^^ ((q1.toUInt64 >>> ((33 : Int32) &&& 0x3f).toInt64.toUInt64).toInt64)))])) _
    refine XS.lmul X0.here hx rfl (hb hby d3_9) rfl ?_
    show Steps p.tables e below (s₁.setTop (mkF m 10 #[.val (.long q1), .second, .unset, .unset, .unset, .unset] [(.long ((q1 ^^^ ((q1.toUInt64 >>> ((33 : Int32) &&& 0x3f).toInt64.toUInt64).toInt64)) * (-49064778989728563 : Int64)))])) _
    refine XS.lstoreN X0.here hx rfl (hb hby d3_10) rfl (l' := #[.val (.long q1), .second, .val (.long ((q1 ^^^ ((q1.toUInt64 >>> ((33 : Int32) &&& 0x3f).toInt64.toUInt64).toInt64)) * (-49064778989728563 : Int64))), .second, .unset, .unset]) rfl ?_
    show Steps p.tables e below (s₁.setTop (mkF m 11 #[.val (.long q1), .second, .val (.long ((q1 ^^^ ((q1.toUInt64 >>> ((33 : Int32) &&& 0x3f).toInt64.toUInt64).toInt64)) * (-49064778989728563 : Int64))), .second, .unset, .unset] [])) _
    refine XS.lloadN X0.here hx rfl (hb hby d3_11) rfl ?_
    show Steps p.tables e below (s₁.setTop (mkF m 12 #[.val (.long q1), .second, .val (.long ((q1 ^^^ ((q1.toUInt64 >>> ((33 : Int32) &&& 0x3f).toInt64.toUInt64).toInt64)) * (-49064778989728563 : Int64))), .second, .unset, .unset] [(.long ((q1 ^^^ ((q1.toUInt64 >>> ((33 : Int32) &&& 0x3f).toInt64.toUInt64).toInt64)) * (-49064778989728563 : Int64)))])) _
    refine XS.lloadN X0.here hx rfl (hb hby d3_12) rfl ?_
    show Steps p.tables e below (s₁.setTop (mkF m 13 #[.val (.long q1), .second, .val (.long ((q1 ^^^ ((q1.toUInt64 >>> ((33 : Int32) &&& 0x3f).toInt64.toUInt64).toInt64)) * (-49064778989728563 : Int64))), .second, .unset, .unset] [(.long ((q1 ^^^ ((q1.toUInt64 >>> ((33 : Int32) &&& 0x3f).toInt64.toUInt64).toInt64)) * (-49064778989728563 : Int64))), (.long ((q1 ^^^ ((q1.toUInt64 >>> ((33 : Int32) &&& 0x3f).toInt64.toUInt64).toInt64)) * (-49064778989728563 : Int64)))])) _
    refine XS.bipush X0.here hx rfl (hb hby d3_13) ?_
    show Steps p.tables e below (s₁.setTop (mkF m 15 #[.val (.long q1), .second, .val (.long ((q1 ^^^ ((q1.toUInt64 >>> ((33 : Int32) &&& 0x3f).toInt64.toUInt64).toInt64)) * (-49064778989728563 : Int64))), .second, .unset, .unset] [(.int (33 : Int32)), (.long ((q1 ^^^ ((q1.toUInt64 >>> ((33 : Int32) &&& 0x3f).toInt64.toUInt64).toInt64)) * (-49064778989728563 : Int64))), (.long ((q1 ^^^ ((q1.toUInt64 >>> ((33 : Int32) &&& 0x3f).toInt64.toUInt64).toInt64)) * (-49064778989728563 : Int64)))])) _
    refine XS.lushr X0.here hx rfl (hb hby d3_15) rfl ?_
    show Steps p.tables e below (s₁.setTop (mkF m 16 #[.val (.long q1), .second, .val (.long ((q1 ^^^ ((q1.toUInt64 >>> ((33 : Int32) &&& 0x3f).toInt64.toUInt64).toInt64)) * (-49064778989728563 : Int64))), .second, .unset, .unset] [(.long ((((q1 ^^^ ((q1.toUInt64 >>> ((33 : Int32) &&& 0x3f).toInt64.toUInt64).toInt64)) * (-49064778989728563 : Int64)).toUInt64 >>> ((33 : Int32) &&& 0x3f).toInt64.toUInt64).toInt64)), (.long ((q1 ^^^ ((q1.toUInt64 >>> ((33 : Int32) &&& 0x3f).toInt64.toUInt64).toInt64)) * (-49064778989728563 : Int64)))])) _
    refine XS.lxor X0.here hx rfl (hb hby d3_16) rfl ?_
    show Steps p.tables e below (s₁.setTop (mkF m 17 #[.val (.long q1), .second, .val (.long ((q1 ^^^ ((q1.toUInt64 >>> ((33 : Int32) &&& 0x3f).toInt64.toUInt64).toInt64)) * (-49064778989728563 : Int64))), .second, .unset, .unset] [(.long (((q1 ^^^ ((q1.toUInt64 >>> ((33 : Int32) &&& 0x3f).toInt64.toUInt64).toInt64)) * (-49064778989728563 : Int64)) ^^^ ((((q1 ^^^ ((q1.toUInt64 >>> ((33 : Int32) &&& 0x3f).toInt64.toUInt64).toInt64)) * (-49064778989728563 : Int64)).toUInt64 >>> ((33 : Int32) &&& 0x3f).toInt64.toUInt64).toInt64)))])) _
    refine X0.ldc2Long hx hown (mvT hZ (hw _ (List.mem_of_getElem? (i := 14) rfl))) (g := (mkF m 17 #[.val (.long q1), .second, .val (.long ((q1 ^^^ ((q1.toUInt64 >>> ((33 : Int32) &&& 0x3f).toInt64.toUInt64).toInt64)) * (-49064778989728563 : Int64))), .second, .unset, .unset] [(.long (((q1 ^^^ ((q1.toUInt64 >>> ((33 : Int32) &&& 0x3f).toInt64.toUInt64).toInt64)) * (-49064778989728563 : Int64)) ^^^ ((((q1 ^^^ ((q1.toUInt64 >>> ((33 : Int32) &&& 0x3f).toInt64.toUInt64).toInt64)) * (-49064778989728563 : Int64)).toUInt64 >>> ((33 : Int32) &&& 0x3f).toInt64.toUInt64).toInt64)))])) rfl (hb hby d3_17) _ ?_
    show Steps p.tables e below (s₁.setTop (mkF m 20 #[.val (.long q1), .second, .val (.long ((q1 ^^^ ((q1.toUInt64 >>> ((33 : Int32) &&& 0x3f).toInt64.toUInt64).toInt64)) * (-49064778989728563 : Int64))), .second, .unset, .unset] [(.long (-4265267296055464877 : Int64)), (.long (((q1 ^^^ ((q1.toUInt64 >>> ((33 : Int32) &&& 0x3f).toInt64.toUInt64).toInt64)) * (-49064778989728563 : Int64)) ^^^ ((((q1 ^^^ ((q1.toUInt64 >>> ((33 : Int32) &&& 0x3f).toInt64.toUInt64).toInt64)) * (-49064778989728563 : Int64)).toUInt64 >>> ((33 : Int32) &&& 0x3f).toInt64.toUInt64).toInt64)))])) _
    refine XS.lmul X0.here hx rfl (hb hby d3_20) rfl ?_
    show Steps p.tables e below (s₁.setTop (mkF m 21 #[.val (.long q1), .second, .val (.long ((q1 ^^^ ((q1.toUInt64 >>> ((33 : Int32) &&& 0x3f).toInt64.toUInt64).toInt64)) * (-49064778989728563 : Int64))), .second, .unset, .unset] [(.long ((((q1 ^^^ ((q1.toUInt64 >>> ((33 : Int32) &&& 0x3f).toInt64.toUInt64).toInt64)) * (-49064778989728563 : Int64)) ^^^ ((((q1 ^^^ ((q1.toUInt64 >>> ((33 : Int32) &&& 0x3f).toInt64.toUInt64).toInt64)) * (-49064778989728563 : Int64)).toUInt64 >>> ((33 : Int32) &&& 0x3f).toInt64.toUInt64).toInt64)) * (-4265267296055464877 : Int64)))])) _
    refine XS.lstore X0.here hx rfl (hb hby d3_21) rfl (l' := #[.val (.long q1), .second, .val (.long ((q1 ^^^ ((q1.toUInt64 >>> ((33 : Int32) &&& 0x3f).toInt64.toUInt64).toInt64)) * (-49064778989728563 : Int64))), .second, .val (.long ((((q1 ^^^ ((q1.toUInt64 >>> ((33 : Int32) &&& 0x3f).toInt64.toUInt64).toInt64)) * (-49064778989728563 : Int64)) ^^^ ((((q1 ^^^ ((q1.toUInt64 >>> ((33 : Int32) &&& 0x3f).toInt64.toUInt64).toInt64)) * (-49064778989728563 : Int64)).toUInt64 >>> ((33 : Int32) &&& 0x3f).toInt64.toUInt64).toInt64)) * (-4265267296055464877 : Int64))), .second]) rfl ?_
    show Steps p.tables e below (s₁.setTop (mkF m 23 #[.val (.long q1), .second, .val (.long ((q1 ^^^ ((q1.toUInt64 >>> ((33 : Int32) &&& 0x3f).toInt64.toUInt64).toInt64)) * (-49064778989728563 : Int64))), .second, .val (.long ((((q1 ^^^ ((q1.toUInt64 >>> ((33 : Int32) &&& 0x3f).toInt64.toUInt64).toInt64)) * (-49064778989728563 : Int64)) ^^^ ((((q1 ^^^ ((q1.toUInt64 >>> ((33 : Int32) &&& 0x3f).toInt64.toUInt64).toInt64)) * (-49064778989728563 : Int64)).toUInt64 >>> ((33 : Int32) &&& 0x3f).toInt64.toUInt64).toInt64)) * (-4265267296055464877 : Int64))), .second] [])) _
    refine XS.lload X0.here hx rfl (hb hby d3_23) rfl ?_
    show Steps p.tables e below (s₁.setTop (mkF m 25 #[.val (.long q1), .second, .val (.long ((q1 ^^^ ((q1.toUInt64 >>> ((33 : Int32) &&& 0x3f).toInt64.toUInt64).toInt64)) * (-49064778989728563 : Int64))), .second, .val (.long ((((q1 ^^^ ((q1.toUInt64 >>> ((33 : Int32) &&& 0x3f).toInt64.toUInt64).toInt64)) * (-49064778989728563 : Int64)) ^^^ ((((q1 ^^^ ((q1.toUInt64 >>> ((33 : Int32) &&& 0x3f).toInt64.toUInt64).toInt64)) * (-49064778989728563 : Int64)).toUInt64 >>> ((33 : Int32) &&& 0x3f).toInt64.toUInt64).toInt64)) * (-4265267296055464877 : Int64))), .second] [(.long ((((q1 ^^^ ((q1.toUInt64 >>> ((33 : Int32) &&& 0x3f).toInt64.toUInt64).toInt64)) * (-49064778989728563 : Int64)) ^^^ ((((q1 ^^^ ((q1.toUInt64 >>> ((33 : Int32) &&& 0x3f).toInt64.toUInt64).toInt64)) * (-49064778989728563 : Int64)).toUInt64 >>> ((33 : Int32) &&& 0x3f).toInt64.toUInt64).toInt64)) * (-4265267296055464877 : Int64)))])) _
    refine XS.lload X0.here hx rfl (hb hby d3_25) rfl ?_
    show Steps p.tables e below (s₁.setTop (mkF m 27 #[.val (.long q1), .second, .val (.long ((q1 ^^^ ((q1.toUInt64 >>> ((33 : Int32) &&& 0x3f).toInt64.toUInt64).toInt64)) * (-49064778989728563 : Int64))), .second, .val (.long ((((q1 ^^^ ((q1.toUInt64 >>> ((33 : Int32) &&& 0x3f).toInt64.toUInt64).toInt64)) * (-49064778989728563 : Int64)) ^^^ ((((q1 ^^^ ((q1.toUInt64 >>> ((33 : Int32) &&& 0x3f).toInt64.toUInt64).toInt64)) * (-49064778989728563 : Int64)).toUInt64 >>> ((33 : Int32) &&& 0x3f).toInt64.toUInt64).toInt64)) * (-4265267296055464877 : Int64))), .second] [(.long ((((q1 ^^^ ((q1.toUInt64 >>> ((33 : Int32) &&& 0x3f).toInt64.toUInt64).toInt64)) * (-49064778989728563 : Int64)) ^^^ ((((q1 ^^^ ((q1.toUInt64 >>> ((33 : Int32) &&& 0x3f).toInt64.toUInt64).toInt64)) * (-49064778989728563 : Int64)).toUInt64 >>> ((33 : Int32) &&& 0x3f).toInt64.toUInt64).toInt64)) * (-4265267296055464877 : Int64))), (.long ((((q1 ^^^ ((q1.toUInt64 >>> ((33 : Int32) &&& 0x3f).toInt64.toUInt64).toInt64)) * (-49064778989728563 : Int64)) ^^^ ((((q1 ^^^ ((q1.toUInt64 >>> ((33 : Int32) &&& 0x3f).toInt64.toUInt64).toInt64)) * (-49064778989728563 : Int64)).toUInt64 >>> ((33 : Int32) &&& 0x3f).toInt64.toUInt64).toInt64)) * (-4265267296055464877 : Int64)))])) _
    refine XS.bipush X0.here hx rfl (hb hby d3_27) ?_
    show Steps p.tables e below (s₁.setTop (mkF m 29 #[.val (.long q1), .second, .val (.long ((q1 ^^^ ((q1.toUInt64 >>> ((33 : Int32) &&& 0x3f).toInt64.toUInt64).toInt64)) * (-49064778989728563 : Int64))), .second, .val (.long ((((q1 ^^^ ((q1.toUInt64 >>> ((33 : Int32) &&& 0x3f).toInt64.toUInt64).toInt64)) * (-49064778989728563 : Int64)) ^^^ ((((q1 ^^^ ((q1.toUInt64 >>> ((33 : Int32) &&& 0x3f).toInt64.toUInt64).toInt64)) * (-49064778989728563 : Int64)).toUInt64 >>> ((33 : Int32) &&& 0x3f).toInt64.toUInt64).toInt64)) * (-4265267296055464877 : Int64))), .second] [(.int (33 : Int32)), (.long ((((q1 ^^^ ((q1.toUInt64 >>> ((33 : Int32) &&& 0x3f).toInt64.toUInt64).toInt64)) * (-49064778989728563 : Int64)) ^^^ ((((q1 ^^^ ((q1.toUInt64 >>> ((33 : Int32) &&& 0x3f).toInt64.toUInt64).toInt64)) * (-49064778989728563 : Int64)).toUInt64 >>> ((33 : Int32) &&& 0x3f).toInt64.toUInt64).toInt64)) * (-4265267296055464877 : Int64))), (.long ((((q1 ^^^ ((q1.toUInt64 >>> ((33 : Int32) &&& 0x3f).toInt64.toUInt64).toInt64)) * (-49064778989728563 : Int64)) ^^^ ((((q1 ^^^ ((q1.toUInt64 >>> ((33 : Int32) &&& 0x3f).toInt64.toUInt64).toInt64)) * (-49064778989728563 : Int64)).toUInt64 >>> ((33 : Int32) &&& 0x3f).toInt64.toUInt64).toInt64)) * (-4265267296055464877 : Int64)))])) _
    refine XS.lushr X0.here hx rfl (hb hby d3_29) rfl ?_
    show Steps p.tables e below (s₁.setTop (mkF m 30 #[.val (.long q1), .second, .val (.long ((q1 ^^^ ((q1.toUInt64 >>> ((33 : Int32) &&& 0x3f).toInt64.toUInt64).toInt64)) * (-49064778989728563 : Int64))), .second, .val (.long ((((q1 ^^^ ((q1.toUInt64 >>> ((33 : Int32) &&& 0x3f).toInt64.toUInt64).toInt64)) * (-49064778989728563 : Int64)) ^^^ ((((q1 ^^^ ((q1.toUInt64 >>> ((33 : Int32) &&& 0x3f).toInt64.toUInt64).toInt64)) * (-49064778989728563 : Int64)).toUInt64 >>> ((33 : Int32) &&& 0x3f).toInt64.toUInt64).toInt64)) * (-4265267296055464877 : Int64))), .second] [(.long ((((((q1 ^^^ ((q1.toUInt64 >>> ((33 : Int32) &&& 0x3f).toInt64.toUInt64).toInt64)) * (-49064778989728563 : Int64)) ^^^ ((((q1 ^^^ ((q1.toUInt64 >>> ((33 : Int32) &&& 0x3f).toInt64.toUInt64).toInt64)) * (-49064778989728563 : Int64)).toUInt64 >>> ((33 : Int32) &&& 0x3f).toInt64.toUInt64).toInt64)) * (-4265267296055464877 : Int64)).toUInt64 >>> ((33 : Int32) &&& 0x3f).toInt64.toUInt64).toInt64)), (.long ((((q1 ^^^ ((q1.toUInt64 >>> ((33 : Int32) &&& 0x3f).toInt64.toUInt64).toInt64)) * (-49064778989728563 : Int64)) ^^^ ((((q1 ^^^ ((q1.toUInt64 >>> ((33 : Int32) &&& 0x3f).toInt64.toUInt64).toInt64)) * (-49064778989728563 : Int64)).toUInt64 >>> ((33 : Int32) &&& 0x3f).toInt64.toUInt64).toInt64)) * (-4265267296055464877 : Int64)))])) _
    refine XS.lxor X0.here hx rfl (hb hby d3_30) rfl ?_
    show Steps p.tables e below (s₁.setTop (mkF m 31 #[.val (.long q1), .second, .val (.long ((q1 ^^^ ((q1.toUInt64 >>> ((33 : Int32) &&& 0x3f).toInt64.toUInt64).toInt64)) * (-49064778989728563 : Int64))), .second, .val (.long ((((q1 ^^^ ((q1.toUInt64 >>> ((33 : Int32) &&& 0x3f).toInt64.toUInt64).toInt64)) * (-49064778989728563 : Int64)) ^^^ ((((q1 ^^^ ((q1.toUInt64 >>> ((33 : Int32) &&& 0x3f).toInt64.toUInt64).toInt64)) * (-49064778989728563 : Int64)).toUInt64 >>> ((33 : Int32) &&& 0x3f).toInt64.toUInt64).toInt64)) * (-4265267296055464877 : Int64))), .second] [(.long (((((q1 ^^^ ((q1.toUInt64 >>> ((33 : Int32) &&& 0x3f).toInt64.toUInt64).toInt64)) * (-49064778989728563 : Int64)) ^^^ ((((q1 ^^^ ((q1.toUInt64 >>> ((33 : Int32) &&& 0x3f).toInt64.toUInt64).toInt64)) * (-49064778989728563 : Int64)).toUInt64 >>> ((33 : Int32) &&& 0x3f).toInt64.toUInt64).toInt64)) * (-4265267296055464877 : Int64)) ^^^ ((((((q1 ^^^ ((q1.toUInt64 >>> ((33 : Int32) &&& 0x3f).toInt64.toUInt64).toInt64)) * (-49064778989728563 : Int64)) ^^^ ((((q1 ^^^ ((q1.toUInt64 >>> ((33 : Int32) &&& 0x3f).toInt64.toUInt64).toInt64)) * (-49064778989728563 : Int64)).toUInt64 >>> ((33 : Int32) &&& 0x3f).toInt64.toUInt64).toInt64)) * (-4265267296055464877 : Int64)).toUInt64 >>> ((33 : Int32) &&& 0x3f).toInt64.toUInt64).toInt64)))])) _
    exact X0.lreturnOut hx Bd.returns (hb hby d3_31) hr
  · show Q3 Z q1 h0 n0 _ s₁.heap _
    rw [e0]
    exact ⟨_, rfl, rfl, N0, rfl⟩
theorem d4_0 : decode prog_21_method_9_code 0 = .ok (.lload_n 0, 1) := by decide +kernel
theorem d4_1 : decode prog_21_method_9_code 1 = .ok (.lload_n 0, 1) := by decide +kernel
theorem d4_2 : decode prog_21_method_9_code 2 = .ok (.bipush 30, 2) := by decide +kernel
theorem d4_4 : decode prog_21_method_9_code 4 = .ok (.lushr, 1) := by decide +kernel
theorem d4_5 : decode prog_21_method_9_code 5 = .ok (.lxor, 1) := by decide +kernel
theorem d4_6 : decode prog_21_method_9_code 6 = .ok (.ldc2_w 60, 3) := by decide +kernel
theorem d4_9 : decode prog_21_method_9_code 9 = .ok (.lmul, 1) := by decide +kernel
theorem d4_10 : decode prog_21_method_9_code 10 = .ok (.lstore_n 2, 1) := by decide +kernel
theorem d4_11 : decode prog_21_method_9_code 11 = .ok (.lload_n 2, 1) := by decide +kernel
theorem d4_12 : decode prog_21_method_9_code 12 = .ok (.lload_n 2, 1) := by decide +kernel
theorem d4_13 : decode prog_21_method_9_code 13 = .ok (.bipush 27, 2) := by decide +kernel
theorem d4_15 : decode prog_21_method_9_code 15 = .ok (.lushr, 1) := by decide +kernel
theorem d4_16 : decode prog_21_method_9_code 16 = .ok (.lxor, 1) := by decide +kernel
theorem d4_17 : decode prog_21_method_9_code 17 = .ok (.ldc2_w 62, 3) := by decide +kernel
theorem d4_20 : decode prog_21_method_9_code 20 = .ok (.lmul, 1) := by decide +kernel
theorem d4_21 : decode prog_21_method_9_code 21 = .ok (.lstore 4, 2) := by decide +kernel
theorem d4_23 : decode prog_21_method_9_code 23 = .ok (.lload 4, 2) := by decide +kernel
theorem d4_25 : decode prog_21_method_9_code 25 = .ok (.lload 4, 2) := by decide +kernel
theorem d4_27 : decode prog_21_method_9_code 27 = .ok (.bipush 31, 2) := by decide +kernel
theorem d4_29 : decode prog_21_method_9_code 29 = .ok (.lushr, 1) := by decide +kernel
theorem d4_30 : decode prog_21_method_9_code 30 = .ok (.lxor, 1) := by decide +kernel
theorem d4_31 : decode prog_21_method_9_code 31 = .ok (.lreturn, 1) := by decide +kernel
theorem pn_4 : plainName "com/example/driftline/driftline/model/LxmRandom" = true := by first | (simp [plainName, overriddenIn]; done) | decide +kernel
theorem ef_4 (m : MethodId) (x0 : Int64) : entryFrame m #[(.long x0)] 6 = mkF m 0 #[.val (.long x0), .second, .unset, .unset, .unset, .unset] [] := by first | (simp [entryFrame, mkF, argsToLocals, Value.category]; done) | rfl
def Q4 (Z : State) (q1 : Int64) (h0 : Heap) (n0 : Nat) (v : Option Value) (h : Heap) (L : List Loc) : Prop := ∃ r : Int64, v = some (.long r) ∧ (r = own_sta q1) ∧ Fr n0 L ∧ h = h0
set_option maxRecDepth 65536 in
set_option maxHeartbeats 40000000 in
theorem rm4 (l : Launch) (Z : State) (a0 : Array Value) (hw : ∀ d ∈ tables_1, d.before a0 Z = true) (ws : List Jvm.Cond) (q1 : Int64) (h0 : Heap) (n0 : Nat) (Z0 : n0 ≤ h0.size) :
    MetFree l (⟨"com/example/driftline/driftline/model/LxmRandom", "stafford", "(J)J"⟩ : MethodName) (head1 (Jvm.Cond.code (⟨"com/example/driftline/driftline/model/LxmRandom", "stafford", "(J)J"⟩ : MethodName) prog_21_method_9_code 6 (some .long) :: ws) ({ frames := 0, cells := 0, slots := 0, locals := 0 } : Room)) (fun a U => a = #[(.long q1)] ∧ Z.Warmed39 U.vm ∧ U.heap = h0) (fun _ _ _ _ _ => True) (fun _ U o U' => ∃ v L, o = .returned v ∧ Q4 Z q1 h0 n0 v U'.heap L ∧ FrameEnd U o U' L ({ frames := 0, cells := 0, slots := 0, locals := 0 } : Room).cells ({ frames := 0, cells := 0, slots := 0, locals := 0 } : Room).slots) := by
  refine MetFree.of_bodySF (plainFor_of_name pn_4) hisR ?_
  intro p e s m args below meth c s₁ Bd hml0 hP hK
  obtain ⟨rfl, hZ, hh⟩ := hP
  have hx := Bd.exec
  have hby := Bd.bytes
  have hml : c.maxLocals = 6 := hml0
  have hown : s.vm.findClass "com/example/driftline/driftline/model/LxmRandom" = some m.cls := findClass_of_methodNamed Bd.named
  have hnm := (name_of_methodNamed Bd.named Bd.method).1
  have X0 : Stand p l e ({ frames := 0, cells := 0, slots := 0, locals := 0 } : Room) s m #[(.long q1)] below meth c s₁ [] 0 0 := Stand.of_body Bd
  have e0 : s₁.heap = h0 := by rw [← hh, Bd.state]; rfl
  have N0 := Fr.nil n0
  have K0 : Keep h0 h0 [] := Keep.refl _ _
  have pre0 : ∀ t, Steps p.tables e below (s₁.setTop (mkF m 0 #[.val (.long q1), .second, .unset, .unset, .unset, .unset] [])) t → Steps p.tables e below (s₁.setTop (entryFrame m #[(.long q1)] 6)) t := fun t k => castTop (ef_4 m q1) k
  refine own_go (S' := fun t => Steps p.tables e below (s₁.setTop (mkF m 0 #[.val (.long q1), .second, .unset, .unset, .unset, .unset] [])) t) pre0 ?_
  obtain ⟨fs, hr, hrun, hended, hW, hsame⟩ := X0.leave (v := some (.long (((((q1 ^^^ ((q1.toUInt64 >>> ((30 : Int32) &&& 0x3f).toInt64.toUInt64).toInt64)) * (-4658895280553007687 : Int64)) ^^^ ((((q1 ^^^ ((q1.toUInt64 >>> ((30 : Int32) &&& 0x3f).toInt64.toUInt64).toInt64)) * (-4658895280553007687 : Int64)).toUInt64 >>> ((27 : Int32) &&& 0x3f).toInt64.toUInt64).toInt64)) * (-7723592293110705685 : Int64)) ^^^ ((((((q1 ^^^ ((q1.toUInt64 >>> ((30 : Int32) &&& 0x3f).toInt64.toUInt64).toInt64)) * (-4658895280553007687 : Int64)) ^^^ ((((q1 ^^^ ((q1.toUInt64 >>> ((30 : Int32) &&& 0x3f).toInt64.toUInt64).toInt64)) * (-4658895280553007687 : Int64)).toUInt64 >>> ((27 : Int32) &&& 0x3f).toInt64.toUInt64).toInt64)) * (-7723592293110705685 : Int64)).toUInt64 >>> ((31 : Int32) &&& 0x3f).toInt64.toUInt64).toInt64)))) (fun h => by rw [Bd.returns] at h; cases h)
  refine ⟨_, _, ?_, hrun, hended, _, _, rfl, ?_, ⟨_, rfl⟩, hW, hsame.mono (by decide) (by decide)⟩
  · show Steps p.tables e below (s₁.setTop (mkF m 0 #[.val (.long q1), .second, .unset, .unset, .unset, .unset] [])) _
    refine XS.lloadN X0.here hx rfl (hb hby d4_0) rfl ?_
    show Steps p.tables e below (s₁.setTop (mkF m 1 #[.val (.long q1), .second, .unset, .unset, .unset, .unset] [(.long q1)])) _
    refine XS.lloadN X0.here hx rfl (hb hby d4_1) rfl ?_
    show Steps p.tables e below (s₁.setTop (mkF m 2 #[.val (.long q1), .second, .unset, .unset, .unset, .unset] [(.long q1), (.long q1)])) _
    refine XS.bipush X0.here hx rfl (hb hby d4_2) ?_
    show Steps p.tables e below (s₁.setTop (mkF m 4 #[.val (.long q1), .second, .unset, .unset, .unset, .unset] [(.int (30 : Int32)), (.long q1), (.long q1)])) _
    refine XS.lushr X0.here hx rfl (hb hby d4_4) rfl ?_
    show Steps p.tables e below (s₁.setTop (mkF m 5 #[.val (.long q1), .second, .unset, .unset, .unset, .unset] [(.long ((q1.toUInt64 >>> ((30 : Int32) &&& 0x3f).toInt64.toUInt64).toInt64)), (.long q1)])) _
    refine XS.lxor X0.here hx rfl (hb hby d4_5) rfl ?_
    show Steps p.tables e below (s₁.setTop (mkF m 6 #[.val (.long q1), .second, .unset, .unset, .unset, .unset] [(.long (q1 ^^^ ((q1.toUInt64 >>> ((30 : Int32) &&& 0x3f).toInt64.toUInt64).toInt64)))])) _
    refine X0.ldc2Long hx hown (mvT hZ (hw _ (List.mem_of_getElem? (i := 22) rfl))) (g := (mkF m 6 #[.val (.long q1), .second, .unset, .unset, .unset, .unset] [(.long (q1 ^^^ ((q1.toUInt64 >>> ((30 : Int32) &&& 0x3f).toInt64.toUInt64).toInt64)))])) rfl (hb hby d4_6) _ ?_
    show Steps p.tables e below (s₁.setTop (mkF m 9 #[.val (.long q1), .second, .unset, .unset, .unset, .unset] [(.long (-4658895280553007687 : Int64)), (.long (q1 ^^^ ((q1.toUInt64 >>> ((30 : Int32) &&& 0x3f).toInt64.toUInt64).toInt64)))])) _
    refine XS.lmul X0.here hx rfl (hb hby d4_9) rfl ?_
    show Steps p.tables e below (s₁.setTop (mkF m 10 #[.val (.long q1), .second, .unset, .unset, .unset, .unset] [(.long ((q1 ^^^ ((q1.toUInt64 >>> ((30 : Int32) &&& 0x3f).toInt64.toUInt64).toInt64)) * (-4658895280553007687 : Int64)))])) _
    refine XS.lstoreN X0.here hx rfl (hb hby d4_10) rfl (l' := #[.val (.long q1), .second, .val (.long ((q1 ^^^ ((q1.toUInt64 >>> ((30 : Int32) &&& 0x3f).toInt64.toUInt64).toInt64)) * (-4658895280553007687 : Int64))), .second, .unset, .unset]) rfl ?_
    show Steps p.tables e below (s₁.setTop (mkF m 11 #[.val (.long q1), .second, .val (.long ((q1 ^^^ ((q1.toUInt64 >>> ((30 : Int32) &&& 0x3f).toInt64.toUInt64).toInt64)) * (-4658895280553007687 : Int64))), .second, .unset, .unset] [])) _
    refine XS.lloadN X0.here hx rfl (hb hby d4_11) rfl ?_
    show Steps p.tables e below (s₁.setTop (mkF m 12 #[.val (.long q1), .second, .val (.long ((q1 ^^^ ((q1.toUInt64 >>> ((30 : Int32) &&& 0x3f).toInt64.toUInt64).toInt64)) * (-4658895280553007687 : Int64))), .second, .unset, .unset] [(.long ((q1 ^^^ ((q1.toUInt64 >>> ((30 : Int32) &&& 0x3f).toInt64.toUInt64).toInt64)) * (-4658895280553007687 : Int64)))])) _
    refine XS.lloadN X0.here hx rfl (hb hby d4_12) rfl ?_
    show Steps p.tables e below (s₁.setTop (mkF m 13 #[.val (.long q1), .second, .val (.long ((q1 ^^^ ((q1.toUInt64 >>> ((30 : Int32) &&& 0x3f).toInt64.toUInt64).toInt64)) * (-4658895280553007687 : Int64))), .second, .unset, .unset] [(.long ((q1 ^^^ ((q1.toUInt64 >>> ((30 : Int32) &&& 0x3f).toInt64.toUInt64).toInt64)) * (-4658895280553007687 : Int64))), (.long ((q1 ^^^ ((q1.toUInt64 >>> ((30 : Int32) &&& 0x3f).toInt64.toUInt64).toInt64)) * (-4658895280553007687 : Int64)))])) _
    refine XS.bipush X0.here hx rfl (hb hby d4_13) ?_
    show Steps p.tables e below (s₁.setTop (mkF m 15 #[.val (.long q1), .second, .val (.long ((q1 ^^^ ((q1.toUInt64 >>> ((30 : Int32) &&& 0x3f).toInt64.toUInt64).toInt64)) * (-4658895280553007687 : Int64))), .second, .unset, .unset] [(.int (27 : Int32)), (.long ((q1 ^^^ ((q1.toUInt64 >>> ((30 : Int32) &&& 0x3f).toInt64.toUInt64).toInt64)) * (-4658895280553007687 : Int64))), (.long ((q1 ^^^ ((q1.toUInt64 >>> ((30 : Int32) &&& 0x3f).toInt64.toUInt64).toInt64)) * (-4658895280553007687 : Int64)))])) _
    refine XS.lushr X0.here hx rfl (hb hby d4_15) rfl ?_
    show Steps p.tables e below (s₁.setTop (mkF m 16 #[.val (.long q1), .second, .val (.long ((q1 ^^^ ((q1.toUInt64 >>> ((30 : Int32) &&& 0x3f).toInt64.toUInt64).toInt64)) * (-4658895280553007687 : Int64))), .second, .unset, .unset] [(.long ((((q1 ^^^ ((q1.toUInt64 >>> ((30 : Int32) &&& 0x3f).toInt64.toUInt64).toInt64)) * (-4658895280553007687 : Int64)).toUInt64 >>> ((27 : Int32) &&& 0x3f).toInt64.toUInt64).toInt64)), (.long ((q1 ^^^ ((q1.toUInt64 >>> ((30 : Int32) &&& 0x3f).toInt64.toUInt64).toInt64)) * (-4658895280553007687 : Int64)))])) _
    refine XS.lxor X0.here hx rfl (hb hby d4_16) rfl ?_
    show Steps p.tables e below (s₁.setTop (mkF m 17 #[.val (.long q1), .second, .val (.long ((q1 ^^^ ((q1.toUInt64 >>> ((30 : Int32) &&& 0x3f).toInt64.toUInt64).toInt64)) * (-4658895280553007687 : Int64))), .second, .unset, .unset] [(.long (((q1 ^^^ ((q1.toUInt64 >>> ((30 : Int32) &&& 0x3f).toInt64.toUInt64).toInt64)) * (-4658895280553007687 : Int64)) ^^^ ((((q1 ^^^ ((q1.toUInt64 >>> ((30 : Int32) &&& 0x3f).toInt64.toUInt64).toInt64)) * (-4658895280553007687 : Int64)).toUInt64 >>> ((27 : Int32) &&& 0x3f).toInt64.toUInt64).toInt64)))])) _
    refine X0.ldc2Long hx hown (mvT hZ (hw _ (List.mem_of_getElem? (i := 23) rfl))) (g := (mkF m 17 #[.val (.long q1), .second, .val (.long ((q1 ^^^ ((q1.toUInt64 >>> ((30 : Int32) &&& 0x3f).toInt64.toUInt64).toInt64)) * (-4658895280553007687 : Int64))), .second, .unset, .unset] [(.long (((q1 ^^^ ((q1.toUInt64 >>> ((30 : Int32) &&& 0x3f).toInt64.toUInt64).toInt64)) * (-4658895280553007687 : Int64)) ^^^ ((((q1 ^^^ ((q1.toUInt64 >>> ((30 : Int32) &&& 0x3f).toInt64.toUInt64).toInt64)) * (-4658895280553007687 : Int64)).toUInt64 >>> ((27 : Int32) &&& 0x3f).toInt64.toUInt64).toInt64)))])) rfl (hb hby d4_17) _ ?_
    show Steps p.tables e below (s₁.setTop (mkF m 20 #[.val (.long q1), .second, .val (.long ((q1 ^^^ ((q1.toUInt64 >>> ((30 : Int32) &&& 0x3f).toInt64.toUInt64).toInt64)) * (-4658895280553007687 : Int64))), .second, .unset, .unset] [(.long (-7723592293110705685 : Int64)), (.long (((q1 ^^^ ((q1.toUInt64 >>> ((30 : Int32) &&& 0x3f).toInt64.toUInt64).toInt64)) * (-4658895280553007687 : Int64)) ^^^ ((((q1 ^^^ ((q1.toUInt64 >>> ((30 : Int32) &&& 0x3f).toInt64.toUInt64).toInt64)) * (-4658895280553007687 : Int64)).toUInt64 >>> ((27 : Int32) &&& 0x3f).toInt64.toUInt64).toInt64)))])) _
    refine XS.lmul X0.here hx rfl (hb hby d4_20) rfl ?_
    show Steps p.tables e below (s₁.setTop (mkF m 21 #[.val (.long q1), .second, .val (.long ((q1 ^^^ ((q1.toUInt64 >>> ((30 : Int32) &&& 0x3f).toInt64.toUInt64).toInt64)) * (-4658895280553007687 : Int64))), .second, .unset, .unset] [(.long ((((q1 ^^^ ((q1.toUInt64 >>> ((30 : Int32) &&& 0x3f).toInt64.toUInt64).toInt64)) * (-4658895280553007687 : Int64)) ^^^ ((((q1 ^^^ ((q1.toUInt64 >>> ((30 : Int32) &&& 0x3f).toInt64.toUInt64).toInt64)) * (-4658895280553007687 : Int64)).toUInt64 >>> ((27 : Int32) &&& 0x3f).toInt64.toUInt64).toInt64)) * (-7723592293110705685 : Int64)))])) _
    refine XS.lstore X0.here hx rfl (hb hby d4_21) rfl (l' := #[.val (.long q1), .second, .val (.long ((q1 ^^^ ((q1.toUInt64 >>> ((30 : Int32) &&& 0x3f).toInt64.toUInt64).toInt64)) * (-4658895280553007687 : Int64))), .second, .val (.long ((((q1 ^^^ ((q1.toUInt64 >>> ((30 : Int32) &&& 0x3f).toInt64.toUInt64).toInt64)) * (-4658895280553007687 : Int64)) ^^^ ((((q1 ^^^ ((q1.toUInt64 >>> ((30 : Int32) &&& 0x3f).toInt64.toUInt64).toInt64)) * (-4658895280553007687 : Int64)).toUInt64 >>> ((27 : Int32) &&& 0x3f).toInt64.toUInt64).toInt64)) * (-7723592293110705685 : Int64))), .second]) rfl ?_
    show Steps p.tables e below (s₁.setTop (mkF m 23 #[.val (.long q1), .second, .val (.long ((q1 ^^^ ((q1.toUInt64 >>> ((30 : Int32) &&& 0x3f).toInt64.toUInt64).toInt64)) * (-4658895280553007687 : Int64))), .second, .val (.long ((((q1 ^^^ ((q1.toUInt64 >>> ((30 : Int32) &&& 0x3f).toInt64.toUInt64).toInt64)) * (-4658895280553007687 : Int64)) ^^^ ((((q1 ^^^ ((q1.toUInt64 >>> ((30 : Int32) &&& 0x3f).toInt64.toUInt64).toInt64)) * (-4658895280553007687 : Int64)).toUInt64 >>> ((27 : Int32) &&& 0x3f).toInt64.toUInt64).toInt64)) * (-7723592293110705685 : Int64))), .second] [])) _
    refine XS.lload X0.here hx rfl (hb hby d4_23) rfl ?_
    show Steps p.tables e below (s₁.setTop (mkF m 25 #[.val (.long q1), .second, .val (.long ((q1 ^^^ ((q1.toUInt64 >>> ((30 : Int32) &&& 0x3f).toInt64.toUInt64).toInt64)) * (-4658895280553007687 : Int64))), .second, .val (.long ((((q1 ^^^ ((q1.toUInt64 >>> ((30 : Int32) &&& 0x3f).toInt64.toUInt64).toInt64)) * (-4658895280553007687 : Int64)) ^^^ ((((q1 ^^^ ((q1.toUInt64 >>> ((30 : Int32) &&& 0x3f).toInt64.toUInt64).toInt64)) * (-4658895280553007687 : Int64)).toUInt64 >>> ((27 : Int32) &&& 0x3f).toInt64.toUInt64).toInt64)) * (-7723592293110705685 : Int64))), .second] [(.long ((((q1 ^^^ ((q1.toUInt64 >>> ((30 : Int32) &&& 0x3f).toInt64.toUInt64).toInt64)) * (-4658895280553007687 : Int64)) ^^^ ((((q1 ^^^ ((q1.toUInt64 >>> ((30 : Int32) &&& 0x3f).toInt64.toUInt64).toInt64)) * (-4658895280553007687 : Int64)).toUInt64 >>> ((27 : Int32) &&& 0x3f).toInt64.toUInt64).toInt64)) * (-7723592293110705685 : Int64)))])) _
    refine XS.lload X0.here hx rfl (hb hby d4_25) rfl ?_
    show Steps p.tables e below (s₁.setTop (mkF m 27 #[.val (.long q1), .second, .val (.long ((q1 ^^^ ((q1.toUInt64 >>> ((30 : Int32) &&& 0x3f).toInt64.toUInt64).toInt64)) * (-4658895280553007687 : Int64))), .second, .val (.long ((((q1 ^^^ ((q1.toUInt64 >>> ((30 : Int32) &&& 0x3f).toInt64.toUInt64).toInt64)) * (-4658895280553007687 : Int64)) ^^^ ((((q1 ^^^ ((q1.toUInt64 >>> ((30 : Int32) &&& 0x3f).toInt64.toUInt64).toInt64)) * (-4658895280553007687 : Int64)).toUInt64 >>> ((27 : Int32) &&& 0x3f).toInt64.toUInt64).toInt64)) * (-7723592293110705685 : Int64))), .second] [(.long ((((q1 ^^^ ((q1.toUInt64 >>> ((30 : Int32) &&& 0x3f).toInt64.toUInt64).toInt64)) * (-4658895280553007687 : Int64)) ^^^ ((((q1 ^^^ ((q1.toUInt64 >>> ((30 : Int32) &&& 0x3f).toInt64.toUInt64).toInt64)) * (-4658895280553007687 : Int64)).toUInt64 >>> ((27 : Int32) &&& 0x3f).toInt64.toUInt64).toInt64)) * (-7723592293110705685 : Int64))), (.long ((((q1 ^^^ ((q1.toUInt64 >>> ((30 : Int32) &&& 0x3f).toInt64.toUInt64).toInt64)) * (-4658895280553007687 : Int64)) ^^^ ((((q1 ^^^ ((q1.toUInt64 >>> ((30 : Int32) &&& 0x3f).toInt64.toUInt64).toInt64)) * (-4658895280553007687 : Int64)).toUInt64 >>> ((27 : Int32) &&& 0x3f).toInt64.toUInt64).toInt64)) * (-7723592293110705685 : Int64)))])) _
    refine XS.bipush X0.here hx rfl (hb hby d4_27) ?_
    show Steps p.tables e below (s₁.setTop (mkF m 29 #[.val (.long q1), .second, .val (.long ((q1 ^^^ ((q1.toUInt64 >>> ((30 : Int32) &&& 0x3f).toInt64.toUInt64).toInt64)) * (-4658895280553007687 : Int64))), .second, .val (.long ((((q1 ^^^ ((q1.toUInt64 >>> ((30 : Int32) &&& 0x3f).toInt64.toUInt64).toInt64)) * (-4658895280553007687 : Int64)) ^^^ ((((q1 ^^^ ((q1.toUInt64 >>> ((30 : Int32) &&& 0x3f).toInt64.toUInt64).toInt64)) * (-4658895280553007687 : Int64)).toUInt64 >>> ((27 : Int32) &&& 0x3f).toInt64.toUInt64).toInt64)) * (-7723592293110705685 : Int64))), .second] [(.int (31 : Int32)), (.long ((((q1 ^^^ ((q1.toUInt64 >>> ((30 : Int32) &&& 0x3f).toInt64.toUInt64).toInt64)) * (-4658895280553007687 : Int64)) ^^^ ((((q1 ^^^ ((q1.toUInt64 >>> ((30 : Int32) &&& 0x3f).toInt64.toUInt64).toInt64)) * (-4658895280553007687 : Int64)).toUInt64 >>> ((27 : Int32) &&& 0x3f).toInt64.toUInt64).toInt64)) * (-7723592293110705685 : Int64))), (.long ((((q1 ^^^ ((q1.toUInt64 >>> ((30 : Int32) &&& 0x3f).toInt64.toUInt64).toInt64)) * (-4658895280553007687 : Int64)) ^^^ ((((q1 ^^^ ((q1.toUInt64 >>> ((30 : Int32) &&& 0x3f).toInt64.toUInt64).toInt64)) * (-4658895280553007687 : Int64)).toUInt64 >>> ((27 : Int32) &&& 0x3f).toInt64.toUInt64).toInt64)) * (-7723592293110705685 : Int64)))])) _
    refine XS.lushr X0.here hx rfl (hb hby d4_29) rfl ?_
    show Steps p.tables e below (s₁.setTop (mkF m 30 #[.val (.long q1), .second, .val (.long ((q1 ^^^ ((q1.toUInt64 >>> ((30 : Int32) &&& 0x3f).toInt64.toUInt64).toInt64)) * (-4658895280553007687 : Int64))), .second, .val (.long ((((q1 ^^^ ((q1.toUInt64 >>> ((30 : Int32) &&& 0x3f).toInt64.toUInt64).toInt64)) * (-4658895280553007687 : Int64)) ^^^ ((((q1 ^^^ ((q1.toUInt64 >>> ((30 : Int32) &&& 0x3f).toInt64.toUInt64).toInt64)) * (-4658895280553007687 : Int64)).toUInt64 >>> ((27 : Int32) &&& 0x3f).toInt64.toUInt64).toInt64)) * (-7723592293110705685 : Int64))), .second] [(.long ((((((q1 ^^^ ((q1.toUInt64 >>> ((30 : Int32) &&& 0x3f).toInt64.toUInt64).toInt64)) * (-4658895280553007687 : Int64)) ^^^ ((((q1 ^^^ ((q1.toUInt64 >>> ((30 : Int32) &&& 0x3f).toInt64.toUInt64).toInt64)) * (-4658895280553007687 : Int64)).toUInt64 >>> ((27 : Int32) &&& 0x3f).toInt64.toUInt64).toInt64)) * (-7723592293110705685 : Int64)).toUInt64 >>> ((31 : Int32) &&& 0x3f).toInt64.toUInt64).toInt64)), (.long ((((q1 ^^^ ((q1.toUInt64 >>> ((30 : Int32) &&& 0x3f).toInt64.toUInt64).toInt64)) * (-4658895280553007687 : Int64)) ^^^ ((((q1 ^^^ ((q1.toUInt64 >>> ((30 : Int32) &&& 0x3f).toInt64.toUInt64).toInt64)) * (-4658895280553007687 : Int64)).toUInt64 >>> ((27 : Int32) &&& 0x3f).toInt64.toUInt64).toInt64)) * (-7723592293110705685 : Int64)))])) _
    refine XS.lxor X0.here hx rfl (hb hby d4_30) rfl ?_
    show Steps p.tables e below (s₁.setTop (mkF m 31 #[.val (.long q1), .second, .val (.long ((q1 ^^^ ((q1.toUInt64 >>> ((30 : Int32) &&& 0x3f).toInt64.toUInt64).toInt64)) * (-4658895280553007687 : Int64))), .second, .val (.long ((((q1 ^^^ ((q1.toUInt64 >>> ((30 : Int32) &&& 0x3f).toInt64.toUInt64).toInt64)) * (-4658895280553007687 : Int64)) ^^^ ((((q1 ^^^ ((q1.toUInt64 >>> ((30 : Int32) &&& 0x3f).toInt64.toUInt64).toInt64)) * (-4658895280553007687 : Int64)).toUInt64 >>> ((27 : Int32) &&& 0x3f).toInt64.toUInt64).toInt64)) * (-7723592293110705685 : Int64))), .second] [(.long (((((q1 ^^^ ((q1.toUInt64 >>> ((30 : Int32) &&& 0x3f).toInt64.toUInt64).toInt64)) * (-4658895280553007687 : Int64)) ^^^ ((((q1 ^^^ ((q1.toUInt64 >>> ((30 : Int32) &&& 0x3f).toInt64.toUInt64).toInt64)) * (-4658895280553007687 : Int64)).toUInt64 >>> ((27 : Int32) &&& 0x3f).toInt64.toUInt64).toInt64)) * (-7723592293110705685 : Int64)) ^^^ ((((((q1 ^^^ ((q1.toUInt64 >>> ((30 : Int32) &&& 0x3f).toInt64.toUInt64).toInt64)) * (-4658895280553007687 : Int64)) ^^^ ((((q1 ^^^ ((q1.toUInt64 >>> ((30 : Int32) &&& 0x3f).toInt64.toUInt64).toInt64)) * (-4658895280553007687 : Int64)).toUInt64 >>> ((27 : Int32) &&& 0x3f).toInt64.toUInt64).toInt64)) * (-7723592293110705685 : Int64)).toUInt64 >>> ((31 : Int32) &&& 0x3f).toInt64.toUInt64).toInt64)))])) _
    exact X0.lreturnOut hx Bd.returns (hb hby d4_31) hr
  · show Q4 Z q1 h0 n0 _ s₁.heap _
    rw [e0]
    exact ⟨_, rfl, rfl, N0, rfl⟩
theorem d10_0 : decode prog_21_method_7_code 0 = .ok (.lload_n 0, 1) := by decide +kernel
theorem d10_1 : decode prog_21_method_7_code 1 = .ok (.lload_n 0, 1) := by decide +kernel
theorem d10_2 : decode prog_21_method_7_code 2 = .ok (.bipush 32, 2) := by decide +kernel
theorem d10_4 : decode prog_21_method_7_code 4 = .ok (.lushr, 1) := by decide +kernel
theorem d10_5 : decode prog_21_method_7_code 5 = .ok (.lxor, 1) := by decide +kernel
theorem d10_6 : decode prog_21_method_7_code 6 = .ok (.ldc2_w 54, 3) := by decide +kernel
theorem d10_9 : decode prog_21_method_7_code 9 = .ok (.lmul, 1) := by decide +kernel
theorem d10_10 : decode prog_21_method_7_code 10 = .ok (.lstore_n 2, 1) := by decide +kernel
theorem d10_11 : decode prog_21_method_7_code 11 = .ok (.lload_n 2, 1) := by decide +kernel
theorem d10_12 : decode prog_21_method_7_code 12 = .ok (.lload_n 2, 1) := by decide +kernel
theorem d10_13 : decode prog_21_method_7_code 13 = .ok (.bipush 32, 2) := by decide +kernel
theorem d10_15 : decode prog_21_method_7_code 15 = .ok (.lushr, 1) := by decide +kernel
theorem d10_16 : decode prog_21_method_7_code 16 = .ok (.lxor, 1) := by decide +kernel
theorem d10_17 : decode prog_21_method_7_code 17 = .ok (.ldc2_w 54, 3) := by decide +kernel
theorem d10_20 : decode prog_21_method_7_code 20 = .ok (.lmul, 1) := by decide +kernel
theorem d10_21 : decode prog_21_method_7_code 21 = .ok (.lstore 4, 2) := by decide +kernel
theorem d10_23 : decode prog_21_method_7_code 23 = .ok (.lload 4, 2) := by decide +kernel
theorem d10_25 : decode prog_21_method_7_code 25 = .ok (.lload 4, 2) := by decide +kernel
theorem d10_27 : decode prog_21_method_7_code 27 = .ok (.bipush 32, 2) := by decide +kernel
theorem d10_29 : decode prog_21_method_7_code 29 = .ok (.lushr, 1) := by decide +kernel
theorem d10_30 : decode prog_21_method_7_code 30 = .ok (.lxor, 1) := by decide +kernel
theorem d10_31 : decode prog_21_method_7_code 31 = .ok (.lreturn, 1) := by decide +kernel
theorem pn_10 : plainName "com/example/driftline/driftline/model/LxmRandom" = true := by first | (simp [plainName, overriddenIn]; done) | decide +kernel
theorem ef_10 (m : MethodId) (x0 : Int64) : entryFrame m #[(.long x0)] 6 = mkF m 0 #[.val (.long x0), .second, .unset, .unset, .unset, .unset] [] := by first | (simp [entryFrame, mkF, argsToLocals, Value.category]; done) | rfl
def Q10 (Z : State) (q1 : Int64) (h0 : Heap) (n0 : Nat) (v : Option Value) (h : Heap) (L : List Loc) : Prop := ∃ r : Int64, v = some (.long r) ∧ (r = own_lea q1) ∧ Fr n0 L ∧ h = h0
set_option maxRecDepth 65536 in
set_option maxHeartbeats 40000000 in
theorem rm10 (l : Launch) (Z : State) (a0 : Array Value) (hw : ∀ d ∈ tables_1, d.before a0 Z = true) (ws : List Jvm.Cond) (q1 : Int64) (h0 : Heap) (n0 : Nat) (Z0 : n0 ≤ h0.size) :
    MetFree l (⟨"com/example/driftline/driftline/model/LxmRandom", "lea", "(J)J"⟩ : MethodName) (head1 (Jvm.Cond.code (⟨"com/example/driftline/driftline/model/LxmRandom", "lea", "(J)J"⟩ : MethodName) prog_21_method_7_code 6 (some .long) :: ws) ({ frames := 0, cells := 0, slots := 0, locals := 0 } : Room)) (fun a U => a = #[(.long q1)] ∧ Z.Warmed39 U.vm ∧ U.heap = h0) (fun _ _ _ _ _ => True) (fun _ U o U' => ∃ v L, o = .returned v ∧ Q10 Z q1 h0 n0 v U'.heap L ∧ FrameEnd U o U' L ({ frames := 0, cells := 0, slots := 0, locals := 0 } : Room).cells ({ frames := 0, cells := 0, slots := 0, locals := 0 } : Room).slots) := by
  refine MetFree.of_bodySF (plainFor_of_name pn_10) hisR ?_
  intro p e s m args below meth c s₁ Bd hml0 hP hK
  obtain ⟨rfl, hZ, hh⟩ := hP
  have hx := Bd.exec
  have hby := Bd.bytes
  have hml : c.maxLocals = 6 := hml0
  have hown : s.vm.findClass "com/example/driftline/driftline/model/LxmRandom" = some m.cls := findClass_of_methodNamed Bd.named
  have hnm := (name_of_methodNamed Bd.named Bd.method).1
  have X0 : Stand p l e ({ frames := 0, cells := 0, slots := 0, locals := 0 } : Room) s m #[(.long q1)] below meth c s₁ [] 0 0 := Stand.of_body Bd
  have e0 : s₁.heap = h0 := by rw [← hh, Bd.state]; rfl
  have N0 := Fr.nil n0
  have K0 : Keep h0 h0 [] := Keep.refl _ _
  have pre0 : ∀ t, Steps p.tables e below (s₁.setTop (mkF m 0 #[.val (.long q1), .second, .unset, .unset, .unset, .unset] [])) t → Steps p.tables e below (s₁.setTop (entryFrame m #[(.long q1)] 6)) t := fun t k => castTop (ef_10 m q1) k
  refine own_go (S' := fun t => Steps p.tables e below (s₁.setTop (mkF m 0 #[.val (.long q1), .second, .unset, .unset, .unset, .unset] [])) t) pre0 ?_
  obtain ⟨fs, hr, hrun, hended, hW, hsame⟩ := X0.leave (v := some (.long (((((q1 ^^^ ((q1.toUInt64 >>> ((32 : Int32) &&& 0x3f).toInt64.toUInt64).toInt64)) * (-2685821657736338717 : Int64)) ^^^ ((((q1 ^^^ ((q1.toUInt64 >>> ((32 : Int32) &&& 0x3f).toInt64.toUInt64).toInt64)) * (-2685821657736338717 : Int64)).toUInt64 >>> ((32 : Int32) &&& 0x3f).toInt64.toUInt64).toInt64)) * (-2685821657736338717 : Int64)) ^^^ ((((((q1 ^^^ ((q1.toUInt64 >>> ((32 : Int32) &&& 0x3f).toInt64.toUInt64).toInt64)) * (-2685821657736338717 : Int64)) ^^^ ((((q1 ^^^ ((q1.toUInt64 >>> ((32 : Int32) &&& 0x3f).toInt64.toUInt64).toInt64)) * (-2685821657736338717 : Int64)).toUInt64 >>> ((32 : Int32) &&& 0x3f).toInt64.toUInt64).toInt64)) * (-2685821657736338717 : Int64)).toUInt64 >>> ((32 : Int32) &&& 0x3f).toInt64.toUInt64).toInt64)))) (fun h => by rw [Bd.returns] at h; cases h)
  refine ⟨_, _, ?_, hrun, hended, _, _, rfl, ?_, ⟨_, rfl⟩, hW, hsame.mono (by decide) (by decide)⟩
  · show Steps p.tables e below (s₁.setTop (mkF m 0 #[.val (.long q1), .second, .unset, .unset, .unset, .unset] [])) _
    refine XS.lloadN X0.here hx rfl (hb hby d10_0) rfl ?_
    show Steps p.tables e below (s₁.setTop (mkF m 1 #[.val (.long q1), .second, .unset, .unset, .unset, .unset] [(.long q1)])) _
    refine XS.lloadN X0.here hx rfl (hb hby d10_1) rfl ?_
    show Steps p.tables e below (s₁.setTop (mkF m 2 #[.val (.long q1), .second, .unset, .unset, .unset, .unset] [(.long q1), (.long q1)])) _
    refine XS.bipush X0.here hx rfl (hb hby d10_2) ?_
    show Steps p.tables e below (s₁.setTop (mkF m 4 #[.val (.long q1), .second, .unset, .unset, .unset, .unset] [(.int (32 : Int32)), (.long q1), (.long q1)])) _
    refine XS.lushr X0.here hx rfl (hb hby d10_4) rfl ?_
    show Steps p.tables e below (s₁.setTop (mkF m 5 #[.val (.long q1), .second, .unset, .unset, .unset, .unset] [(.long ((q1.toUInt64 >>> ((32 : Int32) &&& 0x3f).toInt64.toUInt64).toInt64)), (.long q1)])) _
    refine XS.lxor X0.here hx rfl (hb hby d10_5) rfl ?_
    show Steps p.tables e below (s₁.setTop (mkF m 6 #[.val (.long q1), .second, .unset, .unset, .unset, .unset] [(.long (q1 ^^^ ((q1.toUInt64 >>> ((32 : Int32) &&& 0x3f).toInt64.toUInt64).toInt64)))])) _
    refine X0.ldc2Long hx hown (mvT hZ (hw _ (List.mem_of_getElem? (i := 56) rfl))) (g := (mkF m 6 #[.val (.long q1), .second, .unset, .unset, .unset, .unset] [(.long (q1 ^^^ ((q1.toUInt64 >>> ((32 : Int32) &&& 0x3f).toInt64.toUInt64).toInt64)))])) rfl (hb hby d10_6) _ ?_
    show Steps p.tables e below (s₁.setTop (mkF m 9 #[.val (.long q1), .second, .unset, .unset, .unset, .unset] [(.long (-2685821657736338717 : Int64)), (.long (q1 ^^^ ((q1.toUInt64 >>> ((32 : Int32) &&& 0x3f).toInt64.toUInt64).toInt64)))])) _
    refine XS.lmul X0.here hx rfl (hb hby d10_9) rfl ?_
    show Steps p.tables e below (s₁.setTop (mkF m 10 #[.val (.long q1), .second, .unset, .unset, .unset, .unset] [(.long ((q1 ^^^ ((q1.toUInt64 >>> ((32 : Int32) &&& 0x3f).toInt64.toUInt64).toInt64)) * (-2685821657736338717 : Int64)))])) _
    refine XS.lstoreN X0.here hx rfl (hb hby d10_10) rfl (l' := #[.val (.long q1), .second, .val (.long ((q1 ^^^ ((q1.toUInt64 >>> ((32 : Int32) &&& 0x3f).toInt64.toUInt64).toInt64)) * (-2685821657736338717 : Int64))), .second, .unset, .unset]) rfl ?_
    show Steps p.tables e below (s₁.setTop (mkF m 11 #[.val (.long q1), .second, .val (.long ((q1 ^^^ ((q1.toUInt64 >>> ((32 : Int32) &&& 0x3f).toInt64.toUInt64).toInt64)) * (-2685821657736338717 : Int64))), .second, .unset, .unset] [])) _
    refine XS.lloadN X0.here hx rfl (hb hby d10_11) rfl ?_
    show Steps p.tables e below (s₁.setTop (mkF m 12 #[.val (.long q1), .second, .val (.long ((q1 ^^^ ((q1.toUInt64 >>> ((32 : Int32) &&& 0x3f).toInt64.toUInt64).toInt64)) * (-2685821657736338717 : Int64))), .second, .unset, .unset] [(.long ((q1 ^^^ ((q1.toUInt64 >>> ((32 : Int32) &&& 0x3f).toInt64.toUInt64).toInt64)) * (-2685821657736338717 : Int64)))])) _
    refine XS.lloadN X0.here hx rfl (hb hby d10_12) rfl ?_
    show Steps p.tables e below (s₁.setTop (mkF m 13 #[.val (.long q1), .second, .val (.long ((q1 ^^^ ((q1.toUInt64 >>> ((32 : Int32) &&& 0x3f).toInt64.toUInt64).toInt64)) * (-2685821657736338717 : Int64))), .second, .unset, .unset] [(.long ((q1 ^^^ ((q1.toUInt64 >>> ((32 : Int32) &&& 0x3f).toInt64.toUInt64).toInt64)) * (-2685821657736338717 : Int64))), (.long ((q1 ^^^ ((q1.toUInt64 >>> ((32 : Int32) &&& 0x3f).toInt64.toUInt64).toInt64)) * (-2685821657736338717 : Int64)))])) _
    refine XS.bipush X0.here hx rfl (hb hby d10_13) ?_
    show Steps p.tables e below (s₁.setTop (mkF m 15 #[.val (.long q1), .second, .val (.long ((q1 ^^^ ((q1.toUInt64 >>> ((32 : Int32) &&& 0x3f).toInt64.toUInt64).toInt64)) * (-2685821657736338717 : Int64))), .second, .unset, .unset] [(.int (32 : Int32)), (.long ((q1 ^^^ ((q1.toUInt64 >>> ((32 : Int32) &&& 0x3f).toInt64.toUInt64).toInt64)) * (-2685821657736338717 : Int64))), (.long ((q1 ^^^ ((q1.toUInt64 >>> ((32 : Int32) &&& 0x3f).toInt64.toUInt64).toInt64)) * (-2685821657736338717 : Int64)))])) _
    refine XS.lushr X0.here hx rfl (hb hby d10_15) rfl ?_
    show Steps p.tables e below (s₁.setTop (mkF m 16 #[.val (.long q1), .second, .val (.long ((q1 ^^^ ((q1.toUInt64 >>> ((32 : Int32) &&& 0x3f).toInt64.toUInt64).toInt64)) * (-2685821657736338717 : Int64))), .second, .unset, .unset] [(.long ((((q1 ^^^ ((q1.toUInt64 >>> ((32 : Int32) &&& 0x3f).toInt64.toUInt64).toInt64)) * (-2685821657736338717 : Int64)).toUInt64 >>> ((32 : Int32) &&& 0x3f).toInt64.toUInt64).toInt64)), (.long ((q1 ^^^ ((q1.toUInt64 >>> ((32 : Int32) &&& 0x3f).toInt64.toUInt64).toInt64)) * (-2685821657736338717 : Int64)))])) _
    refine XS.lxor X0.here hx rfl (hb hby d10_16) rfl ?_
    show Steps p.tables e below (s₁.setTop (mkF m 17 #[.val (.long q1), .second, .val (.long ((q1 ^^^ ((q1.toUInt64 >>> ((32 : Int32) &&& 0x3f).toInt64.toUInt64).toInt64)) * (-2685821657736338717 : Int64))), .second, .unset, .unset] [(.long (((q1 ^^^ ((q1.toUInt64 >>> ((32 : Int32) &&& 0x3f).toInt64.toUInt64).toInt64)) * (-2685821657736338717 : Int64)) ^^^ ((((q1 ^^^ ((q1.toUInt64 >>> ((32 : Int32) &&& 0x3f).toInt64.toUInt64).toInt64)) * (-2685821657736338717 : Int64)).toUInt64 >>> ((32 : Int32) &&& 0x3f).toInt64.toUInt64).toInt64)))])) _
    refine X0.ldc2Long hx hown (mvT hZ (hw _ (List.mem_of_getElem? (i := 56) rfl))) (g := (mkF m 17 #[.val (.long q1), .second, .val (.long ((q1 ^^^ ((q1.toUInt64 >>> ((32 : Int32) &&& 0x3f).toInt64.toUInt64).toInt64)) * (-2685821657736338717 : Int64))), .second, .unset, .unset] [(.long (((q1 ^^^ ((q1.toUInt64 >>> ((32 : Int32) &&& 0x3f).toInt64.toUInt64).toInt64)) * (-2685821657736338717 : Int64)) ^^^ ((((q1 ^^^ ((q1.toUInt64 >>> ((32 : Int32) &&& 0x3f).toInt64.toUInt64).toInt64)) * (-2685821657736338717 : Int64)).toUInt64 >>> ((32 : Int32) &&& 0x3f).toInt64.toUInt64).toInt64)))])) rfl (hb hby d10_17) _ ?_
    show Steps p.tables e below (s₁.setTop (mkF m 20 #[.val (.long q1), .second, .val (.long ((q1 ^^^ ((q1.toUInt64 >>> ((32 : Int32) &&& 0x3f).toInt64.toUInt64).toInt64)) * (-2685821657736338717 : Int64))), .second, .unset, .unset] [(.long (-2685821657736338717 : Int64)), (.long (((q1 ^^^ ((q1.toUInt64 >>> ((32 : Int32) &&& 0x3f).toInt64.toUInt64).toInt64)) * (-2685821657736338717 : Int64)) ^^^ ((((q1 ^^^ ((q1.toUInt64 >>> ((32 : Int32) &&& 0x3f).toInt64.toUInt64).toInt64)) * (-2685821657736338717 : Int64)).toUInt64 >>> ((32 : Int32) &&& 0x3f).toInt64.toUInt64).toInt64)))])) _
    refine XS.lmul X0.here hx rfl (hb hby d10_20) rfl ?_
    show Steps p.tables e below (s₁.setTop (mkF m 21 #[.val (.long q1), .second, .val (.long ((q1 ^^^ ((q1.toUInt64 >>> ((32 : Int32) &&& 0x3f).toInt64.toUInt64).toInt64)) * (-2685821657736338717 : Int64))), .second, .unset, .unset] [(.long ((((q1 ^^^ ((q1.toUInt64 >>> ((32 : Int32) &&& 0x3f).toInt64.toUInt64).toInt64)) * (-2685821657736338717 : Int64)) ^^^ ((((q1 ^^^ ((q1.toUInt64 >>> ((32 : Int32) &&& 0x3f).toInt64.toUInt64).toInt64)) * (-2685821657736338717 : Int64)).toUInt64 >>> ((32 : Int32) &&& 0x3f).toInt64.toUInt64).toInt64)) * (-2685821657736338717 : Int64)))])) _
    refine XS.lstore X0.here hx rfl (hb hby d10_21) rfl (l' := #[.val (.long q1), .second, .val (.long ((q1 ^^^ ((q1.toUInt64 >>> ((32 : Int32) &&& 0x3f).toInt64.toUInt64).toInt64)) * (-2685821657736338717 : Int64))), .second, .val (.long ((((q1 ^^^ ((q1.toUInt64 >>> ((32 : Int32) &&& 0x3f).toInt64.toUInt64).toInt64)) * (-2685821657736338717 : Int64)) ^^^ ((((q1 ^^^ ((q1.toUInt64 >>> ((32 : Int32) &&& 0x3f).toInt64.toUInt64).toInt64)) * (-2685821657736338717 : Int64)).toUInt64 >>> ((32 : Int32) &&& 0x3f).toInt64.toUInt64).toInt64)) * (-2685821657736338717 : Int64))), .second]) rfl ?_
    show Steps p.tables e below (s₁.setTop (mkF m 23 #[.val (.long q1), .second, .val (.long ((q1 ^^^ ((q1.toUInt64 >>> ((32 : Int32) &&& 0x3f).toInt64.toUInt64).toInt64)) * (-2685821657736338717 : Int64))), .second, .val (.long ((((q1 ^^^ ((q1.toUInt64 >>> ((32 : Int32) &&& 0x3f).toInt64.toUInt64).toInt64)) * (-2685821657736338717 : Int64)) ^^^ ((((q1 ^^^ ((q1.toUInt64 >>> ((32 : Int32) &&& 0x3f).toInt64.toUInt64).toInt64)) * (-2685821657736338717 : Int64)).toUInt64 >>> ((32 : Int32) &&& 0x3f).toInt64.toUInt64).toInt64)) * (-2685821657736338717 : Int64))), .second] [])) _
    refine XS.lload X0.here hx rfl (hb hby d10_23) rfl ?_
    show Steps p.tables e below (s₁.setTop (mkF m 25 #[.val (.long q1), .second, .val (.long ((q1 ^^^ ((q1.toUInt64 >>> ((32 : Int32) &&& 0x3f).toInt64.toUInt64).toInt64)) * (-2685821657736338717 : Int64))), .second, .val (.long ((((q1 ^^^ ((q1.toUInt64 >>> ((32 : Int32) &&& 0x3f).toInt64.toUInt64).toInt64)) * (-2685821657736338717 : Int64)) ^^^ ((((q1 ^^^ ((q1.toUInt64 >>> ((32 : Int32) &&& 0x3f).toInt64.toUInt64).toInt64)) * (-2685821657736338717 : Int64)).toUInt64 >>> ((32 : Int32) &&& 0x3f).toInt64.toUInt64).toInt64)) * (-2685821657736338717 : Int64))), .second] [(.long ((((q1 ^^^ ((q1.toUInt64 >>> ((32 : Int32) &&& 0x3f).toInt64.toUInt64).toInt64)) * (-2685821657736338717 : Int64)) ^^^ ((((q1 ^^^ ((q1.toUInt64 >>> ((32 : Int32) &&& 0x3f).toInt64.toUInt64).toInt64)) * (-2685821657736338717 : Int64)).toUInt64 >>> ((32 : Int32) &&& 0x3f).toInt64.toUInt64).toInt64)) * (-2685821657736338717 : Int64)))])) _
    refine XS.lload X0.here hx rfl (hb hby d10_25) rfl ?_
    show Steps p.tables e below (s₁.setTop (mkF m 27 #[.val (.long q1), .second, .val (.long ((q1 ^^^ ((q1.toUInt64 >>> ((32 : Int32) &&& 0x3f).toInt64.toUInt64).toInt64)) * (-2685821657736338717 : Int64))), .second, .val (.long ((((q1 ^^^ ((q1.toUInt64 >>> ((32 : Int32) &&& 0x3f).toInt64.toUInt64).toInt64)) * (-2685821657736338717 : Int64)) ^^^ ((((q1 ^^^ ((q1.toUInt64 >>> ((32 : Int32) &&& 0x3f).toInt64.toUInt64).toInt64)) * (-2685821657736338717 : Int64)).toUInt64 >>> ((32 : Int32) &&& 0x3f).toInt64.toUInt64).toInt64)) * (-2685821657736338717 : Int64))), .second] [(.long ((((q1 ^^^ ((q1.toUInt64 >>> ((32 : Int32) &&& 0x3f).toInt64.toUInt64).toInt64)) * (-2685821657736338717 : Int64)) ^^^ ((((q1 ^^^ ((q1.toUInt64 >>> ((32 : Int32) &&& 0x3f).toInt64.toUInt64).toInt64)) * (-2685821657736338717 : Int64)).toUInt64 >>> ((32 : Int32) &&& 0x3f).toInt64.toUInt64).toInt64)) * (-2685821657736338717 : Int64))), (.long ((((q1 ^^^ ((q1.toUInt64 >>> ((32 : Int32) &&& 0x3f).toInt64.toUInt64).toInt64)) * (-2685821657736338717 : Int64)) ^^^ ((((q1 ^^^ ((q1.toUInt64 >>> ((32 : Int32) &&& 0x3f).toInt64.toUInt64).toInt64)) * (-2685821657736338717 : Int64)).toUInt64 >>> ((32 : Int32) &&& 0x3f).toInt64.toUInt64).toInt64)) * (-2685821657736338717 : Int64)))])) _
    refine XS.bipush X0.here hx rfl (hb hby d10_27) ?_
    show Steps p.tables e below (s₁.setTop (mkF m 29 #[.val (.long q1), .second, .val (.long ((q1 ^^^ ((q1.toUInt64 >>> ((32 : Int32) &&& 0x3f).toInt64.toUInt64).toInt64)) * (-2685821657736338717 : Int64))), .second, .val (.long ((((q1 ^^^ ((q1.toUInt64 >>> ((32 : Int32) &&& 0x3f).toInt64.toUInt64).toInt64)) * (-2685821657736338717 : Int64)) ^^^ ((((q1 ^^^ ((q1.toUInt64 >>> ((32 : Int32) &&& 0x3f).toInt64.toUInt64).toInt64)) * (-2685821657736338717 : Int64)).toUInt64 >>> ((32 : Int32) &&& 0x3f).toInt64.toUInt64).toInt64)) * (-2685821657736338717 : Int64))), .second] [(.int (32 : Int32)), (.long ((((q1 ^^^ ((q1.toUInt64 >>> ((32 : Int32) &&& 0x3f).toInt64.toUInt64).toInt64)) * (-2685821657736338717 : Int64)) ^^^ ((((q1 ^^^ ((q1.toUInt64 >>> ((32 : Int32) &&& 0x3f).toInt64.toUInt64).toInt64)) * (-2685821657736338717 : Int64)).toUInt64 >>> ((32 : Int32) &&& 0x3f).toInt64.toUInt64).toInt64)) * (-2685821657736338717 : Int64))), (.long ((((q1 ^^^ ((q1.toUInt64 >>> ((32 : Int32) &&& 0x3f).toInt64.toUInt64).toInt64)) * (-2685821657736338717 : Int64)) ^^^ ((((q1 ^^^ ((q1.toUInt64 >>> ((32 : Int32) &&& 0x3f).toInt64.toUInt64).toInt64)) * (-2685821657736338717 : Int64)).toUInt64 >>> ((32 : Int32) &&& 0x3f).toInt64.toUInt64).toInt64)) * (-2685821657736338717 : Int64)))])) _
    refine XS.lushr X0.here hx rfl (hb hby d10_29) rfl ?_
    show Steps p.tables e below (s₁.setTop (mkF m 30 #[.val (.long q1), .second, .val (.long ((q1 ^^^ ((q1.toUInt64 >>> ((32 : Int32) &&& 0x3f).toInt64.toUInt64).toInt64)) * (-2685821657736338717 : Int64))), .second, .val (.long ((((q1 ^^^ ((q1.toUInt64 >>> ((32 : Int32) &&& 0x3f).toInt64.toUInt64).toInt64)) * (-2685821657736338717 : Int64)) ^^^ ((((q1 ^^^ ((q1.toUInt64 >>> ((32 : Int32) &&& 0x3f).toInt64.toUInt64).toInt64)) * (-2685821657736338717 : Int64)).toUInt64 >>> ((32 : Int32) &&& 0x3f).toInt64.toUInt64).toInt64)) * (-2685821657736338717 : Int64))), .second] [(.long ((((((q1 ^^^ ((q1.toUInt64 >>> ((32 : Int32) &&& 0x3f).toInt64.toUInt64).toInt64)) * (-2685821657736338717 : Int64)) ^^^ ((((q1 ^^^ ((q1.toUInt64 >>> ((32 : Int32) &&& 0x3f).toInt64.toUInt64).toInt64)) * (-2685821657736338717 : Int64)).toUInt64 >>> ((32 : Int32) &&& 0x3f).toInt64.toUInt64).toInt64)) * (-2685821657736338717 : Int64)).toUInt64 >>> ((32 : Int32) &&& 0x3f).toInt64.toUInt64).toInt64)), (.long ((((q1 ^^^ ((q1.toUInt64 >>> ((32 : Int32) &&& 0x3f).toInt64.toUInt64).toInt64)) * (-2685821657736338717 : Int64)) ^^^ ((((q1 ^^^ ((q1.toUInt64 >>> ((32 : Int32) &&& 0x3f).toInt64.toUInt64).toInt64)) * (-2685821657736338717 : Int64)).toUInt64 >>> ((32 : Int32) &&& 0x3f).toInt64.toUInt64).toInt64)) * (-2685821657736338717 : Int64)))])) _
    refine XS.lxor X0.here hx rfl (hb hby d10_30) rfl ?_
    show Steps p.tables e below (s₁.setTop (mkF m 31 #[.val (.long q1), .second, .val (.long ((q1 ^^^ ((q1.toUInt64 >>> ((32 : Int32) &&& 0x3f).toInt64.toUInt64).toInt64)) * (-2685821657736338717 : Int64))), .second, .val (.long ((((q1 ^^^ ((q1.toUInt64 >>> ((32 : Int32) &&& 0x3f).toInt64.toUInt64).toInt64)) * (-2685821657736338717 : Int64)) ^^^ ((((q1 ^^^ ((q1.toUInt64 >>> ((32 : Int32) &&& 0x3f).toInt64.toUInt64).toInt64)) * (-2685821657736338717 : Int64)).toUInt64 >>> ((32 : Int32) &&& 0x3f).toInt64.toUInt64).toInt64)) * (-2685821657736338717 : Int64))), .second] [(.long (((((q1 ^^^ ((q1.toUInt64 >>> ((32 : Int32) &&& 0x3f).toInt64.toUInt64).toInt64)) * (-2685821657736338717 : Int64)) ^^^ ((((q1 ^^^ ((q1.toUInt64 >>> ((32 : Int32) &&& 0x3f).toInt64.toUInt64).toInt64)) * (-2685821657736338717 : Int64)).toUInt64 >>> ((32 : Int32) &&& 0x3f).toInt64.toUInt64).toInt64)) * (-2685821657736338717 : Int64)) ^^^ ((((((q1 ^^^ ((q1.toUInt64 >>> ((32 : Int32) &&& 0x3f).toInt64.toUInt64).toInt64)) * (-2685821657736338717 : Int64)) ^^^ ((((q1 ^^^ ((q1.toUInt64 >>> ((32 : Int32) &&& 0x3f).toInt64.toUInt64).toInt64)) * (-2685821657736338717 : Int64)).toUInt64 >>> ((32 : Int32) &&& 0x3f).toInt64.toUInt64).toInt64)) * (-2685821657736338717 : Int64)).toUInt64 >>> ((32 : Int32) &&& 0x3f).toInt64.toUInt64).toInt64)))])) _
    exact X0.lreturnOut hx Bd.returns (hb hby d10_31) hr
  · show Q10 Z q1 h0 n0 _ s₁.heap _
    rw [e0]
    exact ⟨_, rfl, rfl, N0, rfl⟩
theorem d11_0 : decode jdk_35_method_51_code 0 = .ok (.lload_n 0, 1) := by decide +kernel
theorem d11_1 : decode jdk_35_method_51_code 1 = .ok (.iload_n 2, 1) := by decide +kernel
theorem d11_2 : decode jdk_35_method_51_code 2 = .ok (.lshl, 1) := by decide +kernel
theorem d11_3 : decode jdk_35_method_51_code 3 = .ok (.lload_n 0, 1) := by decide +kernel
theorem d11_4 : decode jdk_35_method_51_code 4 = .ok (.iload_n 2, 1) := by decide +kernel
theorem d11_5 : decode jdk_35_method_51_code 5 = .ok (.ineg, 1) := by decide +kernel
theorem d11_6 : decode jdk_35_method_51_code 6 = .ok (.lushr, 1) := by decide +kernel
theorem d11_7 : decode jdk_35_method_51_code 7 = .ok (.lor, 1) := by decide +kernel
theorem d11_8 : decode jdk_35_method_51_code 8 = .ok (.lreturn, 1) := by decide +kernel
theorem pn_11 : plainName "java/lang/Long" = true := by first | (simp [plainName, overriddenIn]; done) | decide +kernel
theorem ef_11 (m : MethodId) (x0 : Int64) (x1 : Int32) : entryFrame m #[(.long x0), (.int x1)] 3 = mkF m 0 #[.val (.long x0), .second, .val (.int x1)] [] := by first | (simp [entryFrame, mkF, argsToLocals, Value.category]; done) | rfl
def Q11 (Z : State) (q1 : Int64) (p2 : Int32) (h0 : Heap) (n0 : Nat) (v : Option Value) (h : Heap) (L : List Loc) : Prop := ∃ r : Int64, v = some (.long r) ∧ (r = own_rot q1 p2) ∧ Fr n0 L ∧ h = h0
set_option maxRecDepth 65536 in
set_option maxHeartbeats 40000000 in
theorem rm11 (l : Launch) (Z : State) (a0 : Array Value) (hw : ∀ d ∈ tables_1, d.before a0 Z = true) (ws : List Jvm.Cond) (q1 : Int64) (p2 : Int32) (h0 : Heap) (n0 : Nat) (Z0 : n0 ≤ h0.size) :
    MetFree l (⟨"java/lang/Long", "rotateLeft", "(JI)J"⟩ : MethodName) (head1 (Jvm.Cond.code (⟨"java/lang/Long", "rotateLeft", "(JI)J"⟩ : MethodName) jdk_35_method_51_code 3 (some .long) :: ws) ({ frames := 0, cells := 0, slots := 0, locals := 0 } : Room)) (fun a U => a = #[(.long q1), (.int p2)] ∧ Z.Warmed39 U.vm ∧ U.heap = h0) (fun _ _ _ _ _ => True) (fun _ U o U' => ∃ v L, o = .returned v ∧ Q11 Z q1 p2 h0 n0 v U'.heap L ∧ FrameEnd U o U' L ({ frames := 0, cells := 0, slots := 0, locals := 0 } : Room).cells ({ frames := 0, cells := 0, slots := 0, locals := 0 } : Room).slots) := by
  refine MetFree.of_bodySF (plainFor_of_name pn_11) hisR ?_
  intro p e s m args below meth c s₁ Bd hml0 hP hK
  obtain ⟨rfl, hZ, hh⟩ := hP
  have hx := Bd.exec
  have hby := Bd.bytes
  have hml : c.maxLocals = 3 := hml0
  have hown : s.vm.findClass "java/lang/Long" = some m.cls := findClass_of_methodNamed Bd.named
  have hnm := (name_of_methodNamed Bd.named Bd.method).1
  have X0 : Stand p l e ({ frames := 0, cells := 0, slots := 0, locals := 0 } : Room) s m #[(.long q1), (.int p2)] below meth c s₁ [] 0 0 := Stand.of_body Bd
  have e0 : s₁.heap = h0 := by rw [← hh, Bd.state]; rfl
  have N0 := Fr.nil n0
  have K0 : Keep h0 h0 [] := Keep.refl _ _
  have pre0 : ∀ t, Steps p.tables e below (s₁.setTop (mkF m 0 #[.val (.long q1), .second, .val (.int p2)] [])) t → Steps p.tables e below (s₁.setTop (entryFrame m #[(.long q1), (.int p2)] 3)) t := fun t k => castTop (ef_11 m q1 p2) k
  refine own_go (S' := fun t => Steps p.tables e below (s₁.setTop (mkF m 0 #[.val (.long q1), .second, .val (.int p2)] [])) t) pre0 ?_
  obtain ⟨fs, hr, hrun, hended, hW, hsame⟩ := X0.leave (v := some (.long ((q1 <<< (p2 &&& 0x3f).toInt64) ||| ((q1.toUInt64 >>> ((-p2) &&& 0x3f).toInt64.toUInt64).toInt64)))) (fun h => by rw [Bd.returns] at h; cases h)
  refine ⟨_, _, ?_, hrun, hended, _, _, rfl, ?_, ⟨_, rfl⟩, hW, hsame.mono (by decide) (by decide)⟩
  · show Steps p.tables e below (s₁.setTop (mkF m 0 #[.val (.long q1), .second, .val (.int p2)] [])) _
    refine XS.lloadN X0.here hx rfl (hb hby d11_0) rfl ?_
    show Steps p.tables e below (s₁.setTop (mkF m 1 #[.val (.long q1), .second, .val (.int p2)] [(.long q1)])) _
    refine XS.iloadN X0.here hx rfl (hb hby d11_1) rfl ?_
    show Steps p.tables e below (s₁.setTop (mkF m 2 #[.val (.long q1), .second, .val (.int p2)] [(.int p2), (.long q1)])) _
    refine XS.lshl X0.here hx rfl (hb hby d11_2) rfl ?_
    show Steps p.tables e below (s₁.setTop (mkF m 3 #[.val (.long q1), .second, .val (.int p2)] [(.long (q1 <<< (p2 &&& 0x3f).toInt64))])) _
    refine XS.lloadN X0.here hx rfl (hb hby d11_3) rfl ?_
    show Steps p.tables e below (s₁.setTop (mkF m 4 #[.val (.long q1), .second, .val (.int p2)] [(.long q1), (.long (q1 <<< (p2 &&& 0x3f).toInt64))])) _
    refine XS.iloadN X0.here hx rfl (hb hby d11_4) rfl ?_
    show Steps p.tables e below (s₁.setTop (mkF m 5 #[.val (.long q1), .second, .val (.int p2)] [(.int p2), (.long q1), (.long (q1 <<< (p2 &&& 0x3f).toInt64))])) _
    refine XS.ineg X0.here hx rfl (hb hby d11_5) rfl ?_
    show Steps p.tables e below (s₁.setTop (mkF m 6 #[.val (.long q1), .second, .val (.int p2)] [(.int (-p2)), (.long q1), (.long (q1 <<< (p2 &&& 0x3f).toInt64))])) _
    refine XS.lushr X0.here hx rfl (hb hby d11_6) rfl ?_
    show Steps p.tables e below (s₁.setTop (mkF m 7 #[.val (.long q1), .second, .val (.int p2)] [(.long ((q1.toUInt64 >>> ((-p2) &&& 0x3f).toInt64.toUInt64).toInt64)), (.long (q1 <<< (p2 &&& 0x3f).toInt64))])) _
    refine XS.lor X0.here hx rfl (hb hby d11_7) rfl ?_
    show Steps p.tables e below (s₁.setTop (mkF m 8 #[.val (.long q1), .second, .val (.int p2)] [(.long ((q1 <<< (p2 &&& 0x3f).toInt64) ||| ((q1.toUInt64 >>> ((-p2) &&& 0x3f).toInt64.toUInt64).toInt64)))])) _
    exact X0.lreturnOut hx Bd.returns (hb hby d11_8) hr
  · show Q11 Z q1 p2 h0 n0 _ s₁.heap _
    rw [e0]
    exact ⟨_, rfl, rfl, N0, rfl⟩
theorem pd_0 : parseMethodDescriptor "(J)J" = some ⟨[.long], some .long⟩ := by decide +kernel
theorem d1_0 : decode prog_21_method_1_code 0 = .ok (.aload_n 0, 1) := by decide +kernel
theorem d1_1 : decode prog_21_method_1_code 1 = .ok (.invokespecial 1, 3) := by decide +kernel
theorem d1_4 : decode prog_21_method_1_code 4 = .ok (.lload_n 1, 1) := by decide +kernel
theorem d1_5 : decode prog_21_method_1_code 5 = .ok (.ldc2_w 9, 3) := by decide +kernel
theorem d1_8 : decode prog_21_method_1_code 8 = .ok (.lxor, 1) := by decide +kernel
theorem d1_9 : decode prog_21_method_1_code 9 = .ok (.lstore_n 3, 1) := by decide +kernel
theorem d1_10 : decode prog_21_method_1_code 10 = .ok (.aload_n 0, 1) := by decide +kernel
theorem d1_11 : decode prog_21_method_1_code 11 = .ok (.lload_n 3, 1) := by decide +kernel
theorem d1_12 : decode prog_21_method_1_code 12 = .ok (.invokestatic 11, 3) := by decide +kernel
theorem d1_15 : decode prog_21_method_1_code 15 = .ok (.lconst 1, 1) := by decide +kernel
theorem d1_16 : decode prog_21_method_1_code 16 = .ok (.lor, 1) := by decide +kernel
theorem d1_17 : decode prog_21_method_1_code 17 = .ok (.putfield 15, 3) := by decide +kernel
theorem d1_20 : decode prog_21_method_1_code 20 = .ok (.aload_n 0, 1) := by decide +kernel
theorem d1_21 : decode prog_21_method_1_code 21 = .ok (.lconst 1, 1) := by decide +kernel
theorem d1_22 : decode prog_21_method_1_code 22 = .ok (.putfield 19, 3) := by decide +kernel
theorem d1_25 : decode prog_21_method_1_code 25 = .ok (.aload_n 0, 1) := by decide +kernel
theorem d1_26 : decode prog_21_method_1_code 26 = .ok (.lload_n 3, 1) := by decide +kernel
theorem d1_27 : decode prog_21_method_1_code 27 = .ok (.invokestatic 22, 3) := by decide +kernel
theorem d1_30 : decode prog_21_method_1_code 30 = .ok (.putfield 25, 3) := by decide +kernel
theorem d1_33 : decode prog_21_method_1_code 33 = .ok (.aload_n 0, 1) := by decide +kernel
theorem d1_34 : decode prog_21_method_1_code 34 = .ok (.lload_n 3, 1) := by decide +kernel
theorem d1_35 : decode prog_21_method_1_code 35 = .ok (.ldc2_w 28, 3) := by decide +kernel
theorem d1_38 : decode prog_21_method_1_code 38 = .ok (.ladd, 1) := by decide +kernel
theorem d1_39 : decode prog_21_method_1_code 39 = .ok (.invokestatic 22, 3) := by decide +kernel
theorem d1_42 : decode prog_21_method_1_code 42 = .ok (.putfield 30, 3) := by decide +kernel
theorem d1_45 : decode prog_21_method_1_code 45 = .ok (.return_, 1) := by decide +kernel
theorem pn_1 : plainName "com/example/driftline/driftline/model/LxmRandom" = true := by first | (simp [plainName, overriddenIn]; done) | decide +kernel
theorem ef_1 (m : MethodId) (x0 : Addr) (x1 : Int64) : entryFrame m #[(.ref x0), (.long x1)] 5 = mkF m 0 #[.val (.ref x0), .val (.long x1), .second, .unset, .unset] [] := by first | (simp [entryFrame, mkF, argsToLocals, Value.category]; done) | rfl
def Q1 (Z : State) (a1 : Addr) (q2 : Int64) (u0 : Value) (u1 : Value) (u2 : Value) (u3 : Value) (h0 : Heap) (n0 : Nat) (v : Option Value) (h : Heap) (L : List Loc) : Prop := v = none ∧ Fr n0 L ∧ Keep h0 h [a1] ∧ Exa Z h a1 "com/example/driftline/driftline/model/LxmRandom" ∧ Fld Z h a1 "com/example/driftline/driftline/model/LxmRandom" "a" "J" (.long (own_ia q2)) ∧ Fld Z h a1 "com/example/driftline/driftline/model/LxmRandom" "s" "J" (.long (1 : Int64)) ∧ Fld Z h a1 "com/example/driftline/driftline/model/LxmRandom" "x0" "J" (.long (own_ix q2)) ∧ Fld Z h a1 "com/example/driftline/driftline/model/LxmRandom" "x1" "J" (.long (own_iy q2))
set_option maxRecDepth 65536 in
set_option maxHeartbeats 40000000 in
theorem rm1 (l : Launch) (Z : State) (a0 : Array Value) (hw : ∀ d ∈ tables_1, d.before a0 Z = true) (ws : List Jvm.Cond) (a1 : Addr) (q2 : Int64) (u0 : Value) (u1 : Value) (u2 : Value) (u3 : Value) (h0 : Heap) (n0 : Nat) (Z0 : n0 ≤ h0.size) (E_a1 : Exa Z h0 a1 "com/example/driftline/driftline/model/LxmRandom") (F_a1_a : Fld Z h0 a1 "com/example/driftline/driftline/model/LxmRandom" "a" "J" u0) (F_a1_s : Fld Z h0 a1 "com/example/driftline/driftline/model/LxmRandom" "s" "J" u1) (F_a1_x0 : Fld Z h0 a1 "com/example/driftline/driftline/model/LxmRandom" "x0" "J" u2) (F_a1_x1 : Fld Z h0 a1 "com/example/driftline/driftline/model/LxmRandom" "x1" "J" u3) (g_a1 : n0 ≤ a1) :
    MetFree l (⟨"com/example/driftline/driftline/model/LxmRandom", "<init>", "(J)V"⟩ : MethodName) (head1 (Jvm.Cond.code (⟨"com/example/driftline/driftline/model/LxmRandom", "<init>", "(J)V"⟩ : MethodName) prog_21_method_1_code 5 none :: ws) ({ frames := 1, cells := 0, slots := 0, locals := 18 } : Room)) (fun a U => a = #[(.ref a1), (.long q2)] ∧ Z.Warmed39 U.vm ∧ U.heap = h0) (fun _ _ _ _ _ => True) (fun _ U o U' => ∃ v L, o = .returned v ∧ Q1 Z a1 q2 u0 u1 u2 u3 h0 n0 v U'.heap L ∧ FrameEnd U o U' L ({ frames := 1, cells := 0, slots := 0, locals := 18 } : Room).cells ({ frames := 1, cells := 0, slots := 0, locals := 18 } : Room).slots) := by
  refine MetFree.of_bodySF (plainFor_of_name pn_1) hisR ?_
  intro p e s m args below meth c s₁ Bd hml0 hP hK
  obtain ⟨rfl, hZ, hh⟩ := hP
  have hx := Bd.exec
  have hby := Bd.bytes
  have hml : c.maxLocals = 5 := hml0
  have hown : s.vm.findClass "com/example/driftline/driftline/model/LxmRandom" = some m.cls := findClass_of_methodNamed Bd.named
  have hnm := (name_of_methodNamed Bd.named Bd.method).1
  have X0 : Stand p l e ({ frames := 1, cells := 0, slots := 0, locals := 18 } : Room) s m #[(.ref a1), (.long q2)] below meth c s₁ [] 0 0 := Stand.of_body Bd
  have e0 : s₁.heap = h0 := by rw [← hh, Bd.state]; rfl
  have N0 := Fr.nil n0
  have K0 : Keep h0 h0 [a1] := Keep.refl _ _
  have pre0 : ∀ t, Steps p.tables e below (s₁.setTop (mkF m 0 #[.val (.ref a1), .val (.long q2), .second, .unset, .unset] [])) t → Steps p.tables e below (s₁.setTop (entryFrame m #[(.ref a1), (.long q2)] 5)) t := fun t k => castTop (ef_1 m a1 q2) k
  refine own_go (S' := fun t => Steps p.tables e below (s₁.setTop (mkF m 0 #[.val (.ref a1), .val (.long q2), .second, .unset, .unset] [])) t) pre0 ?_
  obtain ⟨T1, X1, e1, st1⟩ := initO X0 hx hZ hown (hw _ (List.mem_of_getElem? (i := 6) rfl)) (hw _ (List.mem_of_getElem? (i := 7) rfl)) (hw _ (List.mem_of_getElem? (i := 8) rfl)) e0 (g := (mkF m 1 #[.val (.ref a1), .val (.long q2), .second, .unset, .unset] [(.ref a1)])) rfl (by rw [hml]; rfl) rfl (hb hby d1_1) (by decide) (W := 0) (by show 2 * 0 + _ ≤ _; exact Nat.le_of_eq rfl) (by decide)
  obtain ⟨_, _, ⟨T2, L2, k2, n2⟩, -, X2, ⟨Lc2, hQ2, l2, y2, z2⟩, st2⟩ := Jvm.LawKit.callS X1 hx (y := (⟨"com/example/driftline/driftline/model/LxmRandom", "murmur", "(J)J"⟩ : MethodName)) hown (mvT hZ (hw _ (List.mem_of_getElem? (i := 10) rfl))) (mvT hZ (hw _ (List.mem_of_getElem? (i := 11) rfl))) (mvT hZ (hw _ (List.mem_of_getElem? (i := 2) rfl))) (mvT hZ (hw _ (List.mem_of_getElem? (i := 12) rfl))) (by decide) (backOf (W := 1) (rm3 l Z a0 hw [] (q2 ^^^ (7640891576956012809 : Int64)) h0 n0 Z0 ) hZ (hw _ (List.mem_of_getElem? (i := 12) rfl)) (hw _ (List.mem_of_getElem? (i := 2) rfl)) (by decide) (by decide)) (g := (mkF m 12 #[.val (.ref a1), .val (.long q2), .second, .val (.long (q2 ^^^ (7640891576956012809 : Int64))), .second] [(.long (q2 ^^^ (7640891576956012809 : Int64))), (.ref a1)])) rfl (by rw [hml]; rfl) (argsL := [(.long (q2 ^^^ (7640891576956012809 : Int64)))]) (rest := [(.ref a1)]) (lenOf pd_0 rfl) rfl (by show 2 * 0 + _ ≤ _; exact Nat.le_of_eq rfl) (hb hby d1_12) (fun _ _ => ⟨rfl, e1, (by decide : 0 + 0 ≤ _), (by decide : 0 + 0 ≤ _)⟩)
  dsimp only [Pt.U, Pt.locs, Pt.cells, Pt.slots] at X2 l2 y2 z2 st2 hQ2
  subst l2 y2 z2
  obtain ⟨r2, rfl, d_r2, N2q, e2⟩ := hQ2
  subst d_r2
  have N2 := Fr.app N0 N2q
  obtain ⟨T3, h3, X3, e3, W3, st3⟩ := putF X2 hx hZ hown (host := "") (Or.inl (hw _ (List.mem_of_getElem? (i := 15) rfl))) Via.refl e2 F_a1_a E_a1 (Or.inr ⟨(hw _ (List.mem_of_getElem? (i := 16) rfl)), rfl, hnm⟩) (hw _ (List.mem_of_getElem? (i := 1) rfl)) (ty := .long) (by decide) rfl rfl (g := (mkF m 17 #[.val (.ref a1), .val (.long q2), .second, .val (.long (q2 ^^^ (7640891576956012809 : Int64))), .second] [(.long ((own_mur (q2 ^^^ (7640891576956012809 : Int64))) ||| (1 : Int64))), (.ref a1)])) rfl rfl (hb hby d1_17)
  have F_a1_a := F_a1_a.same W3
  have F_a1_s := F_a1_s.other W3 (Or.inr (slot_ne (Or.inl (hw _ (List.mem_of_getElem? (i := 18) rfl))) (Or.inr (hw _ (List.mem_of_getElem? (i := 16) rfl))) (by decide) (t := .long) (t' := .long) (by decide) (by decide)))
  have F_a1_x0 := F_a1_x0.other W3 (Or.inr (slot_ne (Or.inl (hw _ (List.mem_of_getElem? (i := 25) rfl))) (Or.inr (hw _ (List.mem_of_getElem? (i := 16) rfl))) (by decide) (t := .long) (t' := .long) (by decide) (by decide)))
  have F_a1_x1 := F_a1_x1.other W3 (Or.inr (slot_ne (Or.inl (hw _ (List.mem_of_getElem? (i := 28) rfl))) (Or.inr (hw _ (List.mem_of_getElem? (i := 16) rfl))) (by decide) (t := .long) (t' := .long) (by decide) (by decide)))
  have E_a1 := E_a1.wr W3
  have Z0 : n0 ≤ h3.size := by rw [W3.size]; exact Z0
  have K0 := K0.wr W3 (Or.inl (List.mem_of_getElem? (i := 0) rfl))
  have N3 := Fr.snoc X3 N2 g_a1
  obtain ⟨T4, h4, X4, e4, W4, st4⟩ := putF X3 hx hZ hown (host := "") (Or.inl (hw _ (List.mem_of_getElem? (i := 17) rfl))) Via.refl e3 F_a1_s E_a1 (Or.inl (hw _ (List.mem_of_getElem? (i := 18) rfl))) (hw _ (List.mem_of_getElem? (i := 1) rfl)) (ty := .long) (by decide) rfl rfl (g := (mkF m 22 #[.val (.ref a1), .val (.long q2), .second, .val (.long (q2 ^^^ (7640891576956012809 : Int64))), .second] [(.long (1 : Int64)), (.ref a1)])) rfl rfl (hb hby d1_22)
  have F_a1_a := F_a1_a.other W4 (Or.inr (slot_ne (Or.inr (hw _ (List.mem_of_getElem? (i := 16) rfl))) (Or.inl (hw _ (List.mem_of_getElem? (i := 18) rfl))) (by decide) (t := .long) (t' := .long) (by decide) (by decide)))
  have F_a1_s := F_a1_s.same W4
  have F_a1_x0 := F_a1_x0.other W4 (Or.inr (slot_ne (Or.inl (hw _ (List.mem_of_getElem? (i := 25) rfl))) (Or.inl (hw _ (List.mem_of_getElem? (i := 18) rfl))) (by decide) (t := .long) (t' := .long) (by decide) (by decide)))
  have F_a1_x1 := F_a1_x1.other W4 (Or.inr (slot_ne (Or.inl (hw _ (List.mem_of_getElem? (i := 28) rfl))) (Or.inl (hw _ (List.mem_of_getElem? (i := 18) rfl))) (by decide) (t := .long) (t' := .long) (by decide) (by decide)))
  have E_a1 := E_a1.wr W4
  have Z0 : n0 ≤ h4.size := by rw [W4.size]; exact Z0
  have K0 := K0.wr W4 (Or.inl (List.mem_of_getElem? (i := 0) rfl))
  have N4 := Fr.snoc X4 N3 g_a1
  obtain ⟨_, _, ⟨T5, L5, k5, n5⟩, -, X5, ⟨Lc5, hQ5, l5, y5, z5⟩, st5⟩ := Jvm.LawKit.callS X4 hx (y := (⟨"com/example/driftline/driftline/model/LxmRandom", "stafford", "(J)J"⟩ : MethodName)) hown (mvT hZ (hw _ (List.mem_of_getElem? (i := 19) rfl))) (mvT hZ (hw _ (List.mem_of_getElem? (i := 20) rfl))) (mvT hZ (hw _ (List.mem_of_getElem? (i := 2) rfl))) (mvT hZ (hw _ (List.mem_of_getElem? (i := 21) rfl))) (by decide) (backOf (W := 1) (rm4 l Z a0 hw [] (q2 ^^^ (7640891576956012809 : Int64)) h4 n0 Z0 ) hZ (hw _ (List.mem_of_getElem? (i := 21) rfl)) (hw _ (List.mem_of_getElem? (i := 2) rfl)) (by decide) (by decide)) (g := (mkF m 27 #[.val (.ref a1), .val (.long q2), .second, .val (.long (q2 ^^^ (7640891576956012809 : Int64))), .second] [(.long (q2 ^^^ (7640891576956012809 : Int64))), (.ref a1)])) rfl (by rw [hml]; rfl) (argsL := [(.long (q2 ^^^ (7640891576956012809 : Int64)))]) (rest := [(.ref a1)]) (lenOf pd_0 rfl) rfl (by show 2 * 0 + _ ≤ _; exact Nat.le_of_eq rfl) (hb hby d1_27) (fun _ _ => ⟨rfl, e4, (by decide : 0 + 0 ≤ _), (by decide : 0 + 0 ≤ _)⟩)
  dsimp only [Pt.U, Pt.locs, Pt.cells, Pt.slots] at X5 l5 y5 z5 st5 hQ5
  subst l5 y5 z5
  obtain ⟨r5, rfl, d_r5, N5q, e5⟩ := hQ5
  subst d_r5
  have N5 := Fr.app N4 N5q
  obtain ⟨T6, h6, X6, e6, W6, st6⟩ := putF X5 hx hZ hown (host := "") (Or.inl (hw _ (List.mem_of_getElem? (i := 24) rfl))) Via.refl e5 F_a1_x0 E_a1 (Or.inl (hw _ (List.mem_of_getElem? (i := 25) rfl))) (hw _ (List.mem_of_getElem? (i := 1) rfl)) (ty := .long) (by decide) rfl rfl (g := (mkF m 30 #[.val (.ref a1), .val (.long q2), .second, .val (.long (q2 ^^^ (7640891576956012809 : Int64))), .second] [(.long (own_sta (q2 ^^^ (7640891576956012809 : Int64)))), (.ref a1)])) rfl rfl (hb hby d1_30)
  have F_a1_a := F_a1_a.other W6 (Or.inr (slot_ne (Or.inr (hw _ (List.mem_of_getElem? (i := 16) rfl))) (Or.inl (hw _ (List.mem_of_getElem? (i := 25) rfl))) (by decide) (t := .long) (t' := .long) (by decide) (by decide)))
  have F_a1_s := F_a1_s.other W6 (Or.inr (slot_ne (Or.inl (hw _ (List.mem_of_getElem? (i := 18) rfl))) (Or.inl (hw _ (List.mem_of_getElem? (i := 25) rfl))) (by decide) (t := .long) (t' := .long) (by decide) (by decide)))
  have F_a1_x0 := F_a1_x0.same W6
  have F_a1_x1 := F_a1_x1.other W6 (Or.inr (slot_ne (Or.inl (hw _ (List.mem_of_getElem? (i := 28) rfl))) (Or.inl (hw _ (List.mem_of_getElem? (i := 25) rfl))) (by decide) (t := .long) (t' := .long) (by decide) (by decide)))
  have E_a1 := E_a1.wr W6
  have Z0 : n0 ≤ h6.size := by rw [W6.size]; exact Z0
  have K0 := K0.wr W6 (Or.inl (List.mem_of_getElem? (i := 0) rfl))
  have N6 := Fr.snoc X6 N5 g_a1
  obtain ⟨_, _, ⟨T7, L7, k7, n7⟩, -, X7, ⟨Lc7, hQ7, l7, y7, z7⟩, st7⟩ := Jvm.LawKit.callS X6 hx (y := (⟨"com/example/driftline/driftline/model/LxmRandom", "stafford", "(J)J"⟩ : MethodName)) hown (mvT hZ (hw _ (List.mem_of_getElem? (i := 19) rfl))) (mvT hZ (hw _ (List.mem_of_getElem? (i := 20) rfl))) (mvT hZ (hw _ (List.mem_of_getElem? (i := 2) rfl))) (mvT hZ (hw _ (List.mem_of_getElem? (i := 21) rfl))) (by decide) (backOf (W := 1) (rm4 l Z a0 hw [] ((q2 ^^^ (7640891576956012809 : Int64)) + (-7046029254386353131 : Int64)) h6 n0 Z0 ) hZ (hw _ (List.mem_of_getElem? (i := 21) rfl)) (hw _ (List.mem_of_getElem? (i := 2) rfl)) (by decide) (by decide)) (g := (mkF m 39 #[.val (.ref a1), .val (.long q2), .second, .val (.long (q2 ^^^ (7640891576956012809 : Int64))), .second] [(.long ((q2 ^^^ (7640891576956012809 : Int64)) + (-7046029254386353131 : Int64))), (.ref a1)])) rfl (by rw [hml]; rfl) (argsL := [(.long ((q2 ^^^ (7640891576956012809 : Int64)) + (-7046029254386353131 : Int64)))]) (rest := [(.ref a1)]) (lenOf pd_0 rfl) rfl (by show 2 * 0 + _ ≤ _; exact Nat.le_of_eq rfl) (hb hby d1_39) (fun _ _ => ⟨rfl, e6, (by decide : 0 + 0 ≤ _), (by decide : 0 + 0 ≤ _)⟩)
  dsimp only [Pt.U, Pt.locs, Pt.cells, Pt.slots] at X7 l7 y7 z7 st7 hQ7
  subst l7 y7 z7
  obtain ⟨r7, rfl, d_r7, N7q, e7⟩ := hQ7
  subst d_r7
  have N7 := Fr.app N6 N7q
  obtain ⟨T8, h8, X8, e8, W8, st8⟩ := putF X7 hx hZ hown (host := "") (Or.inl (hw _ (List.mem_of_getElem? (i := 27) rfl))) Via.refl e7 F_a1_x1 E_a1 (Or.inl (hw _ (List.mem_of_getElem? (i := 28) rfl))) (hw _ (List.mem_of_getElem? (i := 1) rfl)) (ty := .long) (by decide) rfl rfl (g := (mkF m 42 #[.val (.ref a1), .val (.long q2), .second, .val (.long (q2 ^^^ (7640891576956012809 : Int64))), .second] [(.long (own_sta ((q2 ^^^ (7640891576956012809 : Int64)) + (-7046029254386353131 : Int64)))), (.ref a1)])) rfl rfl (hb hby d1_42)
  have F_a1_a := F_a1_a.other W8 (Or.inr (slot_ne (Or.inr (hw _ (List.mem_of_getElem? (i := 16) rfl))) (Or.inl (hw _ (List.mem_of_getElem? (i := 28) rfl))) (by decide) (t := .long) (t' := .long) (by decide) (by decide)))
  have F_a1_s := F_a1_s.other W8 (Or.inr (slot_ne (Or.inl (hw _ (List.mem_of_getElem? (i := 18) rfl))) (Or.inl (hw _ (List.mem_of_getElem? (i := 28) rfl))) (by decide) (t := .long) (t' := .long) (by decide) (by decide)))
  have F_a1_x0 := F_a1_x0.other W8 (Or.inr (slot_ne (Or.inl (hw _ (List.mem_of_getElem? (i := 25) rfl))) (Or.inl (hw _ (List.mem_of_getElem? (i := 28) rfl))) (by decide) (t := .long) (t' := .long) (by decide) (by decide)))
  have F_a1_x1 := F_a1_x1.same W8
  have E_a1 := E_a1.wr W8
  have Z0 : n0 ≤ h8.size := by rw [W8.size]; exact Z0
  have K0 := K0.wr W8 (Or.inl (List.mem_of_getElem? (i := 0) rfl))
  have N8 := Fr.snoc X8 N7 g_a1
  obtain ⟨fs, hr, hrun, hended, hW, hsame⟩ := X8.leave (v := none) (fun _ => rfl)
  refine ⟨_, _, ?_, hrun, hended, _, _, rfl, ?_, ⟨_, rfl⟩, hW, hsame.mono (by decide) (by decide)⟩
  · show Steps p.tables e below (s₁.setTop (mkF m 0 #[.val (.ref a1), .val (.long q2), .second, .unset, .unset] [])) _
    refine XS.aloadN X0.here hx rfl (hb hby d1_0) rfl rfl ?_
    show Steps p.tables e below (s₁.setTop (mkF m 1 #[.val (.ref a1), .val (.long q2), .second, .unset, .unset] [(.ref a1)])) _
    refine st1 _ ?_
    show Steps p.tables e below (T1.setTop (mkF m 4 #[.val (.ref a1), .val (.long q2), .second, .unset, .unset] [])) _
    refine XS.lloadN X1.here hx rfl (hb hby d1_4) rfl ?_
    show Steps p.tables e below (T1.setTop (mkF m 5 #[.val (.ref a1), .val (.long q2), .second, .unset, .unset] [(.long q2)])) _
    refine X1.ldc2Long hx hown (mvT hZ (hw _ (List.mem_of_getElem? (i := 9) rfl))) (g := (mkF m 5 #[.val (.ref a1), .val (.long q2), .second, .unset, .unset] [(.long q2)])) rfl (hb hby d1_5) _ ?_
    show Steps p.tables e below (T1.setTop (mkF m 8 #[.val (.ref a1), .val (.long q2), .second, .unset, .unset] [(.long (7640891576956012809 : Int64)), (.long q2)])) _
    refine XS.lxor X1.here hx rfl (hb hby d1_8) rfl ?_
    show Steps p.tables e below (T1.setTop (mkF m 9 #[.val (.ref a1), .val (.long q2), .second, .unset, .unset] [(.long (q2 ^^^ (7640891576956012809 : Int64)))])) _
    refine XS.lstoreN X1.here hx rfl (hb hby d1_9) rfl (l' := #[.val (.ref a1), .val (.long q2), .second, .val (.long (q2 ^^^ (7640891576956012809 : Int64))), .second]) rfl ?_
    show Steps p.tables e below (T1.setTop (mkF m 10 #[.val (.ref a1), .val (.long q2), .second, .val (.long (q2 ^^^ (7640891576956012809 : Int64))), .second] [])) _
    refine XS.aloadN X1.here hx rfl (hb hby d1_10) rfl rfl ?_
    show Steps p.tables e below (T1.setTop (mkF m 11 #[.val (.ref a1), .val (.long q2), .second, .val (.long (q2 ^^^ (7640891576956012809 : Int64))), .second] [(.ref a1)])) _
    refine XS.lloadN X1.here hx rfl (hb hby d1_11) rfl ?_
    show Steps p.tables e below (T1.setTop (mkF m 12 #[.val (.ref a1), .val (.long q2), .second, .val (.long (q2 ^^^ (7640891576956012809 : Int64))), .second] [(.long (q2 ^^^ (7640891576956012809 : Int64))), (.ref a1)])) _
    refine st2 _ ?_
    show Steps p.tables e below (T2.setTop (mkF m 15 #[.val (.ref a1), .val (.long q2), .second, .val (.long (q2 ^^^ (7640891576956012809 : Int64))), .second] [(.long (own_mur (q2 ^^^ (7640891576956012809 : Int64)))), (.ref a1)])) _
    refine XS.lconst X2.here hx rfl (hb hby d1_15) ?_
    show Steps p.tables e below (T2.setTop (mkF m 16 #[.val (.ref a1), .val (.long q2), .second, .val (.long (q2 ^^^ (7640891576956012809 : Int64))), .second] [(.long (1 : Int64)), (.long (own_mur (q2 ^^^ (7640891576956012809 : Int64)))), (.ref a1)])) _
    refine XS.lor X2.here hx rfl (hb hby d1_16) rfl ?_
    show Steps p.tables e below (T2.setTop (mkF m 17 #[.val (.ref a1), .val (.long q2), .second, .val (.long (q2 ^^^ (7640891576956012809 : Int64))), .second] [(.long ((own_mur (q2 ^^^ (7640891576956012809 : Int64))) ||| (1 : Int64))), (.ref a1)])) _
    refine st3 _ ?_
    show Steps p.tables e below (T3.setTop (mkF m 20 #[.val (.ref a1), .val (.long q2), .second, .val (.long (q2 ^^^ (7640891576956012809 : Int64))), .second] [])) _
    refine XS.aloadN X3.here hx rfl (hb hby d1_20) rfl rfl ?_
    show Steps p.tables e below (T3.setTop (mkF m 21 #[.val (.ref a1), .val (.long q2), .second, .val (.long (q2 ^^^ (7640891576956012809 : Int64))), .second] [(.ref a1)])) _
    refine XS.lconst X3.here hx rfl (hb hby d1_21) ?_
    show Steps p.tables e below (T3.setTop (mkF m 22 #[.val (.ref a1), .val (.long q2), .second, .val (.long (q2 ^^^ (7640891576956012809 : Int64))), .second] [(.long (1 : Int64)), (.ref a1)])) _
    refine st4 _ ?_
    show Steps p.tables e below (T4.setTop (mkF m 25 #[.val (.ref a1), .val (.long q2), .second, .val (.long (q2 ^^^ (7640891576956012809 : Int64))), .second] [])) _
    refine XS.aloadN X4.here hx rfl (hb hby d1_25) rfl rfl ?_
    show Steps p.tables e below (T4.setTop (mkF m 26 #[.val (.ref a1), .val (.long q2), .second, .val (.long (q2 ^^^ (7640891576956012809 : Int64))), .second] [(.ref a1)])) _
    refine XS.lloadN X4.here hx rfl (hb hby d1_26) rfl ?_
    show Steps p.tables e below (T4.setTop (mkF m 27 #[.val (.ref a1), .val (.long q2), .second, .val (.long (q2 ^^^ (7640891576956012809 : Int64))), .second] [(.long (q2 ^^^ (7640891576956012809 : Int64))), (.ref a1)])) _
    refine st5 _ ?_
    show Steps p.tables e below (T5.setTop (mkF m 30 #[.val (.ref a1), .val (.long q2), .second, .val (.long (q2 ^^^ (7640891576956012809 : Int64))), .second] [(.long (own_sta (q2 ^^^ (7640891576956012809 : Int64)))), (.ref a1)])) _
    refine st6 _ ?_
    show Steps p.tables e below (T6.setTop (mkF m 33 #[.val (.ref a1), .val (.long q2), .second, .val (.long (q2 ^^^ (7640891576956012809 : Int64))), .second] [])) _
    refine XS.aloadN X6.here hx rfl (hb hby d1_33) rfl rfl ?_
    show Steps p.tables e below (T6.setTop (mkF m 34 #[.val (.ref a1), .val (.long q2), .second, .val (.long (q2 ^^^ (7640891576956012809 : Int64))), .second] [(.ref a1)])) _
    refine XS.lloadN X6.here hx rfl (hb hby d1_34) rfl ?_
    show Steps p.tables e below (T6.setTop (mkF m 35 #[.val (.ref a1), .val (.long q2), .second, .val (.long (q2 ^^^ (7640891576956012809 : Int64))), .second] [(.long (q2 ^^^ (7640891576956012809 : Int64))), (.ref a1)])) _
    refine X6.ldc2Long hx hown (mvT hZ (hw _ (List.mem_of_getElem? (i := 26) rfl))) (g := (mkF m 35 #[.val (.ref a1), .val (.long q2), .second, .val (.long (q2 ^^^ (7640891576956012809 : Int64))), .second] [(.long (q2 ^^^ (7640891576956012809 : Int64))), (.ref a1)])) rfl (hb hby d1_35) _ ?_
    show Steps p.tables e below (T6.setTop (mkF m 38 #[.val (.ref a1), .val (.long q2), .second, .val (.long (q2 ^^^ (7640891576956012809 : Int64))), .second] [(.long (-7046029254386353131 : Int64)), (.long (q2 ^^^ (7640891576956012809 : Int64))), (.ref a1)])) _
    refine XS.ladd X6.here hx rfl (hb hby d1_38) rfl ?_
    show Steps p.tables e below (T6.setTop (mkF m 39 #[.val (.ref a1), .val (.long q2), .second, .val (.long (q2 ^^^ (7640891576956012809 : Int64))), .second] [(.long ((q2 ^^^ (7640891576956012809 : Int64)) + (-7046029254386353131 : Int64))), (.ref a1)])) _
    refine st7 _ ?_
    show Steps p.tables e below (T7.setTop (mkF m 42 #[.val (.ref a1), .val (.long q2), .second, .val (.long (q2 ^^^ (7640891576956012809 : Int64))), .second] [(.long (own_sta ((q2 ^^^ (7640891576956012809 : Int64)) + (-7046029254386353131 : Int64)))), (.ref a1)])) _
    refine st8 _ ?_
    show Steps p.tables e below (T8.setTop (mkF m 45 #[.val (.ref a1), .val (.long q2), .second, .val (.long (q2 ^^^ (7640891576956012809 : Int64))), .second] [])) _
    exact X8.returnOut hx Bd.returns (hb hby d1_45) hr
  · show Q1 Z a1 q2 u0 u1 u2 u3 h0 n0 _ T8.heap _
    rw [e8]
    exact ⟨rfl, N8, K0, E_a1, F_a1_a, F_a1_s, F_a1_x0, F_a1_x1⟩
theorem d5_0 : decode prog_21_method_4_code 0 = .ok (.iconst 4, 1) := by decide +kernel
theorem d5_1 : decode prog_21_method_4_code 1 = .ok (.newarray .long, 2) := by decide +kernel
theorem d5_3 : decode prog_21_method_4_code 3 = .ok (.dup, 1) := by decide +kernel
theorem d5_4 : decode prog_21_method_4_code 4 = .ok (.iconst 0, 1) := by decide +kernel
theorem d5_5 : decode prog_21_method_4_code 5 = .ok (.aload_n 0, 1) := by decide +kernel
theorem d5_6 : decode prog_21_method_4_code 6 = .ok (.getfield 15, 3) := by decide +kernel
theorem d5_9 : decode prog_21_method_4_code 9 = .ok (.lastore, 1) := by decide +kernel
theorem d5_10 : decode prog_21_method_4_code 10 = .ok (.dup, 1) := by decide +kernel
theorem d5_11 : decode prog_21_method_4_code 11 = .ok (.iconst 1, 1) := by decide +kernel
theorem d5_12 : decode prog_21_method_4_code 12 = .ok (.aload_n 0, 1) := by decide +kernel
theorem d5_13 : decode prog_21_method_4_code 13 = .ok (.getfield 19, 3) := by decide +kernel
theorem d5_16 : decode prog_21_method_4_code 16 = .ok (.lastore, 1) := by decide +kernel
theorem d5_17 : decode prog_21_method_4_code 17 = .ok (.dup, 1) := by decide +kernel
theorem d5_18 : decode prog_21_method_4_code 18 = .ok (.iconst 2, 1) := by decide +kernel
theorem d5_19 : decode prog_21_method_4_code 19 = .ok (.aload_n 0, 1) := by decide +kernel
theorem d5_20 : decode prog_21_method_4_code 20 = .ok (.getfield 25, 3) := by decide +kernel
theorem d5_23 : decode prog_21_method_4_code 23 = .ok (.lastore, 1) := by decide +kernel
theorem d5_24 : decode prog_21_method_4_code 24 = .ok (.dup, 1) := by decide +kernel
theorem d5_25 : decode prog_21_method_4_code 25 = .ok (.iconst 3, 1) := by decide +kernel
theorem d5_26 : decode prog_21_method_4_code 26 = .ok (.aload_n 0, 1) := by decide +kernel
theorem d5_27 : decode prog_21_method_4_code 27 = .ok (.getfield 30, 3) := by decide +kernel
theorem d5_30 : decode prog_21_method_4_code 30 = .ok (.lastore, 1) := by decide +kernel
theorem d5_31 : decode prog_21_method_4_code 31 = .ok (.areturn, 1) := by decide +kernel
theorem pn_5 : plainName "com/example/driftline/driftline/model/LxmRandom" = true := by first | (simp [plainName, overriddenIn]; done) | decide +kernel
theorem ef_5 (m : MethodId) (x0 : Addr) : entryFrame m #[(.ref x0)] 1 = mkF m 0 #[.val (.ref x0)] [] := by first | (simp [entryFrame, mkF, argsToLocals, Value.category]; done) | rfl
def Q5 (Z : State) (a1 : Addr) (va : Int64) (vs : Int64) (vx : Int64) (vy : Int64) (h0 : Heap) (n0 : Nat) (v : Option Value) (h : Heap) (L : List Loc) : Prop := ∃ r : Addr, ∃ kk : ClassId, v = some (.ref r) ∧ (True) ∧ h0.size ≤ r ∧ Fr n0 L ∧ Keep h0 h [] ∧ Arv Z h r kk .long (4 : Int32) [(.long va), (.long vs), (.long vx), (.long vy)] (.long (0 : Int64))
set_option maxRecDepth 65536 in
set_option maxHeartbeats 40000000 in
theorem rm5 (l : Launch) (Z : State) (a0 : Array Value) (hw : ∀ d ∈ tables_1, d.before a0 Z = true) (ws : List Jvm.Cond) (a1 : Addr) (va : Int64) (vs : Int64) (vx : Int64) (vy : Int64) (h0 : Heap) (n0 : Nat) (Z0 : n0 ≤ h0.size) (F_a1_a : Fld Z h0 a1 "com/example/driftline/driftline/model/LxmRandom" "a" "J" (.long va)) (F_a1_s : Fld Z h0 a1 "com/example/driftline/driftline/model/LxmRandom" "s" "J" (.long vs)) (F_a1_x0 : Fld Z h0 a1 "com/example/driftline/driftline/model/LxmRandom" "x0" "J" (.long vx)) (F_a1_x1 : Fld Z h0 a1 "com/example/driftline/driftline/model/LxmRandom" "x1" "J" (.long vy)) :
    MetFree l (⟨"com/example/driftline/driftline/model/LxmRandom", "state", "()[J"⟩ : MethodName) (head1 (Jvm.Cond.code (⟨"com/example/driftline/driftline/model/LxmRandom", "state", "()[J"⟩ : MethodName) prog_21_method_4_code 1 (some (.array .long)) :: ws) ({ frames := 0, cells := 1, slots := 4, locals := 0 } : Room)) (fun a U => a = #[(.ref a1)] ∧ Z.Warmed39 U.vm ∧ U.heap = h0) (fun _ _ _ _ _ => True) (fun _ U o U' => ∃ v L, o = .returned v ∧ Q5 Z a1 va vs vx vy h0 n0 v U'.heap L ∧ FrameEnd U o U' L ({ frames := 0, cells := 1, slots := 4, locals := 0 } : Room).cells ({ frames := 0, cells := 1, slots := 4, locals := 0 } : Room).slots) := by
  refine MetFree.of_bodySF (plainFor_of_name pn_5) hisR ?_
  intro p e s m args below meth c s₁ Bd hml0 hP hK
  obtain ⟨rfl, hZ, hh⟩ := hP
  have hx := Bd.exec
  have hby := Bd.bytes
  have hml : c.maxLocals = 1 := hml0
  have hown : s.vm.findClass "com/example/driftline/driftline/model/LxmRandom" = some m.cls := findClass_of_methodNamed Bd.named
  have hnm := (name_of_methodNamed Bd.named Bd.method).1
  have X0 : Stand p l e ({ frames := 0, cells := 1, slots := 4, locals := 0 } : Room) s m #[(.ref a1)] below meth c s₁ [] 0 0 := Stand.of_body Bd
  have e0 : s₁.heap = h0 := by rw [← hh, Bd.state]; rfl
  have N0 := Fr.nil n0
  have K0 : Keep h0 h0 [] := Keep.refl _ _
  have pre0 : ∀ t, Steps p.tables e below (s₁.setTop (mkF m 0 #[.val (.ref a1)] [])) t → Steps p.tables e below (s₁.setTop (entryFrame m #[(.ref a1)] 1)) t := fun t k => castTop (ef_5 m a1) k
  refine own_go (S' := fun t => Steps p.tables e below (s₁.setTop (mkF m 0 #[.val (.ref a1)] [])) t) pre0 ?_
  obtain ⟨T1, h1, k1, X1, e1, E1, A1, st1⟩ := newP X0 hx hZ (hw _ (List.mem_of_getElem? (i := 34) rfl)) e0 (g := (mkF m 1 #[.val (.ref a1)] [(.int (4 : Int32))])) rfl (hb hby d5_1) rfl (by decide) (cap := 4) (by decide) (by decide) (by decide) (by decide)
  obtain ⟨b1, g1⟩ : ∃ z, z = h0.size := ⟨_, rfl⟩
  rw [← g1] at A1 st1
  have g_b1 : n0 ≤ b1 := Nat.le_trans Z0 (Nat.le_of_eq g1.symm)
  have sz_b1 : h0.size ≤ b1 := Nat.le_trans K0.1 (Nat.le_of_eq g1.symm)
  have ne_a1_b1 : a1 ≠ b1 := Nat.ne_of_lt (Nat.lt_of_lt_of_le F_a1_a.lt (Nat.le_of_eq g1.symm))
  have F_a1_a := F_a1_a.ext E1
  have F_a1_s := F_a1_s.ext E1
  have F_a1_x0 := F_a1_x0.ext E1
  have F_a1_x1 := F_a1_x1.ext E1
  have Z0 : n0 ≤ h1.size := Nat.le_trans Z0 E1.1
  have K0 := K0.ext E1
  have V_b1 : Arv Z h1 b1 k1 .long (4 : Int32) [(.long (0 : Int64)), (.long (0 : Int64)), (.long (0 : Int64)), (.long (0 : Int64))] (.long (0 : Int64)) := (Arv.new A1 (by decide)).pad (pad_rep [] (.long (0 : Int64)) 4)
  obtain ⟨T2, X2, e2, st2⟩ := getF X1 hx hZ hown (host := "") (Or.inl (hw _ (List.mem_of_getElem? (i := 15) rfl))) Via.refl e1 F_a1_a (g := (mkF m 6 #[.val (.ref a1)] [(.ref a1), (.int (0 : Int32)), (.ref b1), (.ref b1)])) rfl rfl (hb hby d5_6)
  have V_tmp := V_b1
  obtain ⟨cl3, Ar3, aq3, S3, n3, H3, G3⟩ := V_tmp
  have hin3 : ¬ ((0 : Int32) < 0 ∨ cl3.slots.size ≤ ((0 : Int32)).toNatClampNeg) := inb_of S3 ⟨by decide, by decide⟩
  obtain ⟨T3, h3, X3, e3, W3, st3⟩ := stJ X2 hx hZ e2 Ar3 (j := (0 : Int32)) hin3 (g := (mkF m 9 #[.val (.ref a1)] [(.long va), (.int (0 : Int32)), (.ref b1), (.ref b1)])) rfl rfl (hb hby d5_9)
  have V_b1 : Arv Z h3 b1 k1 .long (4 : Int32) [(.long va), (.long (0 : Int64)), (.long (0 : Int64)), (.long (0 : Int64))] (.long (0 : Int64)) := Arv.set Ar3 aq3 S3 n3 H3 G3 rfl W3 0 rfl (Nat.le_of_ble_eq_true rfl)
  have F_a1_a := F_a1_a.other W3 (Or.inl ne_a1_b1)
  have F_a1_s := F_a1_s.other W3 (Or.inl ne_a1_b1)
  have F_a1_x0 := F_a1_x0.other W3 (Or.inl ne_a1_b1)
  have F_a1_x1 := F_a1_x1.other W3 (Or.inl ne_a1_b1)
  have Z0 : n0 ≤ h3.size := by rw [W3.size]; exact Z0
  have K0 := K0.wr W3 (Or.inr sz_b1)
  have N3 := Fr.snoc X3 N0 g_b1
  obtain ⟨T4, X4, e4, st4⟩ := getF X3 hx hZ hown (host := "") (Or.inl (hw _ (List.mem_of_getElem? (i := 17) rfl))) Via.refl e3 F_a1_s (g := (mkF m 13 #[.val (.ref a1)] [(.ref a1), (.int (1 : Int32)), (.ref b1), (.ref b1)])) rfl rfl (hb hby d5_13)
  have V_tmp := V_b1
  obtain ⟨cl5, Ar5, aq5, S5, n5, H5, G5⟩ := V_tmp
  have hin5 : ¬ ((1 : Int32) < 0 ∨ cl5.slots.size ≤ ((1 : Int32)).toNatClampNeg) := inb_of S5 ⟨by decide, by decide⟩
  obtain ⟨T5, h5, X5, e5, W5, st5⟩ := stJ X4 hx hZ e4 Ar5 (j := (1 : Int32)) hin5 (g := (mkF m 16 #[.val (.ref a1)] [(.long vs), (.int (1 : Int32)), (.ref b1), (.ref b1)])) rfl rfl (hb hby d5_16)
  have V_b1 : Arv Z h5 b1 k1 .long (4 : Int32) [(.long va), (.long vs), (.long (0 : Int64)), (.long (0 : Int64))] (.long (0 : Int64)) := Arv.set Ar5 aq5 S5 n5 H5 G5 rfl W5 1 rfl (Nat.le_of_ble_eq_true rfl)
  have F_a1_a := F_a1_a.other W5 (Or.inl ne_a1_b1)
  have F_a1_s := F_a1_s.other W5 (Or.inl ne_a1_b1)
  have F_a1_x0 := F_a1_x0.other W5 (Or.inl ne_a1_b1)
  have F_a1_x1 := F_a1_x1.other W5 (Or.inl ne_a1_b1)
  have Z0 : n0 ≤ h5.size := by rw [W5.size]; exact Z0
  have K0 := K0.wr W5 (Or.inr sz_b1)
  have N5 := Fr.snoc X5 N3 g_b1
  obtain ⟨T6, X6, e6, st6⟩ := getF X5 hx hZ hown (host := "") (Or.inl (hw _ (List.mem_of_getElem? (i := 24) rfl))) Via.refl e5 F_a1_x0 (g := (mkF m 20 #[.val (.ref a1)] [(.ref a1), (.int (2 : Int32)), (.ref b1), (.ref b1)])) rfl rfl (hb hby d5_20)
  have V_tmp := V_b1
  obtain ⟨cl7, Ar7, aq7, S7, n7, H7, G7⟩ := V_tmp
  have hin7 : ¬ ((2 : Int32) < 0 ∨ cl7.slots.size ≤ ((2 : Int32)).toNatClampNeg) := inb_of S7 ⟨by decide, by decide⟩
  obtain ⟨T7, h7, X7, e7, W7, st7⟩ := stJ X6 hx hZ e6 Ar7 (j := (2 : Int32)) hin7 (g := (mkF m 23 #[.val (.ref a1)] [(.long vx), (.int (2 : Int32)), (.ref b1), (.ref b1)])) rfl rfl (hb hby d5_23)
  have V_b1 : Arv Z h7 b1 k1 .long (4 : Int32) [(.long va), (.long vs), (.long vx), (.long (0 : Int64))] (.long (0 : Int64)) := Arv.set Ar7 aq7 S7 n7 H7 G7 rfl W7 2 rfl (Nat.le_of_ble_eq_true rfl)
  have F_a1_a := F_a1_a.other W7 (Or.inl ne_a1_b1)
  have F_a1_s := F_a1_s.other W7 (Or.inl ne_a1_b1)
  have F_a1_x0 := F_a1_x0.other W7 (Or.inl ne_a1_b1)
  have F_a1_x1 := F_a1_x1.other W7 (Or.inl ne_a1_b1)
  have Z0 : n0 ≤ h7.size := by rw [W7.size]; exact Z0
  have K0 := K0.wr W7 (Or.inr sz_b1)
  have N7 := Fr.snoc X7 N5 g_b1
  obtain ⟨T8, X8, e8, st8⟩ := getF X7 hx hZ hown (host := "") (Or.inl (hw _ (List.mem_of_getElem? (i := 27) rfl))) Via.refl e7 F_a1_x1 (g := (mkF m 27 #[.val (.ref a1)] [(.ref a1), (.int (3 : Int32)), (.ref b1), (.ref b1)])) rfl rfl (hb hby d5_27)
  have V_tmp := V_b1
  obtain ⟨cl9, Ar9, aq9, S9, n9, H9, G9⟩ := V_tmp
  have hin9 : ¬ ((3 : Int32) < 0 ∨ cl9.slots.size ≤ ((3 : Int32)).toNatClampNeg) := inb_of S9 ⟨by decide, by decide⟩
  obtain ⟨T9, h9, X9, e9, W9, st9⟩ := stJ X8 hx hZ e8 Ar9 (j := (3 : Int32)) hin9 (g := (mkF m 30 #[.val (.ref a1)] [(.long vy), (.int (3 : Int32)), (.ref b1), (.ref b1)])) rfl rfl (hb hby d5_30)
  have V_b1 : Arv Z h9 b1 k1 .long (4 : Int32) [(.long va), (.long vs), (.long vx), (.long vy)] (.long (0 : Int64)) := Arv.set Ar9 aq9 S9 n9 H9 G9 rfl W9 3 rfl (Nat.le_of_ble_eq_true rfl)
  have F_a1_a := F_a1_a.other W9 (Or.inl ne_a1_b1)
  have F_a1_s := F_a1_s.other W9 (Or.inl ne_a1_b1)
  have F_a1_x0 := F_a1_x0.other W9 (Or.inl ne_a1_b1)
  have F_a1_x1 := F_a1_x1.other W9 (Or.inl ne_a1_b1)
  have Z0 : n0 ≤ h9.size := by rw [W9.size]; exact Z0
  have K0 := K0.wr W9 (Or.inr sz_b1)
  have N9 := Fr.snoc X9 N7 g_b1
  obtain ⟨fs, hr, hrun, hended, hW, hsame⟩ := X9.leave (v := some (.ref b1)) (fun h => by rw [Bd.returns] at h; cases h)
  refine ⟨_, _, ?_, hrun, hended, _, _, rfl, ?_, ⟨_, rfl⟩, hW, hsame.mono (by decide) (by decide)⟩
  · show Steps p.tables e below (s₁.setTop (mkF m 0 #[.val (.ref a1)] [])) _
    refine XS.iconst X0.here hx rfl (hb hby d5_0) ?_
    show Steps p.tables e below (s₁.setTop (mkF m 1 #[.val (.ref a1)] [(.int (4 : Int32))])) _
    refine st1 _ ?_
    show Steps p.tables e below (T1.setTop (mkF m 3 #[.val (.ref a1)] [(.ref b1)])) _
    refine XS.dup X1.here hx rfl (hb hby d5_3) rfl rfl ?_
    show Steps p.tables e below (T1.setTop (mkF m 4 #[.val (.ref a1)] [(.ref b1), (.ref b1)])) _
    refine XS.iconst X1.here hx rfl (hb hby d5_4) ?_
    show Steps p.tables e below (T1.setTop (mkF m 5 #[.val (.ref a1)] [(.int (0 : Int32)), (.ref b1), (.ref b1)])) _
    refine XS.aloadN X1.here hx rfl (hb hby d5_5) rfl rfl ?_
    show Steps p.tables e below (T1.setTop (mkF m 6 #[.val (.ref a1)] [(.ref a1), (.int (0 : Int32)), (.ref b1), (.ref b1)])) _
    refine st2 _ ?_
    show Steps p.tables e below (T2.setTop (mkF m 9 #[.val (.ref a1)] [(.long va), (.int (0 : Int32)), (.ref b1), (.ref b1)])) _
    refine st3 _ ?_
    show Steps p.tables e below (T3.setTop (mkF m 10 #[.val (.ref a1)] [(.ref b1)])) _
    refine XS.dup X3.here hx rfl (hb hby d5_10) rfl rfl ?_
    show Steps p.tables e below (T3.setTop (mkF m 11 #[.val (.ref a1)] [(.ref b1), (.ref b1)])) _
    refine XS.iconst X3.here hx rfl (hb hby d5_11) ?_
    show Steps p.tables e below (T3.setTop (mkF m 12 #[.val (.ref a1)] [(.int (1 : Int32)), (.ref b1), (.ref b1)])) _
    refine XS.aloadN X3.here hx rfl (hb hby d5_12) rfl rfl ?_
    show Steps p.tables e below (T3.setTop (mkF m 13 #[.val (.ref a1)] [(.ref a1), (.int (1 : Int32)), (.ref b1), (.ref b1)])) _
    refine st4 _ ?_
    show Steps p.tables e below (T4.setTop (mkF m 16 #[.val (.ref a1)] [(.long vs), (.int (1 : Int32)), (.ref b1), (.ref b1)])) _
    refine st5 _ ?_
    show Steps p.tables e below (T5.setTop (mkF m 17 #[.val (.ref a1)] [(.ref b1)])) _
    refine XS.dup X5.here hx rfl (hb hby d5_17) rfl rfl ?_
    show Steps p.tables e below (T5.setTop (mkF m 18 #[.val (.ref a1)] [(.ref b1), (.ref b1)])) _
    refine XS.iconst X5.here hx rfl (hb hby d5_18) ?_
    show Steps p.tables e below (T5.setTop (mkF m 19 #[.val (.ref a1)] [(.int (2 : Int32)), (.ref b1), (.ref b1)])) _
    refine XS.aloadN X5.here hx rfl (hb hby d5_19) rfl rfl ?_
    show Steps p.tables e below (T5.setTop (mkF m 20 #[.val (.ref a1)] [(.ref a1), (.int (2 : Int32)), (.ref b1), (.ref b1)])) _
    refine st6 _ ?_
    show Steps p.tables e below (T6.setTop (mkF m 23 #[.val (.ref a1)] [(.long vx), (.int (2 : Int32)), (.ref b1), (.ref b1)])) _
    refine st7 _ ?_
    show Steps p.tables e below (T7.setTop (mkF m 24 #[.val (.ref a1)] [(.ref b1)])) _
    refine XS.dup X7.here hx rfl (hb hby d5_24) rfl rfl ?_
    show Steps p.tables e below (T7.setTop (mkF m 25 #[.val (.ref a1)] [(.ref b1), (.ref b1)])) _
    refine XS.iconst X7.here hx rfl (hb hby d5_25) ?_
    show Steps p.tables e below (T7.setTop (mkF m 26 #[.val (.ref a1)] [(.int (3 : Int32)), (.ref b1), (.ref b1)])) _
    refine XS.aloadN X7.here hx rfl (hb hby d5_26) rfl rfl ?_
    show Steps p.tables e below (T7.setTop (mkF m 27 #[.val (.ref a1)] [(.ref a1), (.int (3 : Int32)), (.ref b1), (.ref b1)])) _
    refine st8 _ ?_
    show Steps p.tables e below (T8.setTop (mkF m 30 #[.val (.ref a1)] [(.long vy), (.int (3 : Int32)), (.ref b1), (.ref b1)])) _
    refine st9 _ ?_
    show Steps p.tables e below (T9.setTop (mkF m 31 #[.val (.ref a1)] [(.ref b1)])) _
    jvm_step X9.here [X9.here.top, hx, (hb hby d5_31), X9.method', Bd.returns, Value.isRef, FieldType.isReference]
    first | (intro acts; rw [hr _ acts rfl rfl rfl]) | rw [hr _ _ rfl rfl rfl]
    exact Steps.refl _
  · show Q5 Z a1 va vs vx vy h0 n0 _ T9.heap _
    rw [e9]
    exact ⟨_, k1, rfl, trivial, sz_b1, N9, K0, V_b1⟩
theorem pd_1 : parseMethodDescriptor "(JI)J" = some ⟨[.long, .int], some .long⟩ := by decide +kernel
theorem d9_0 : decode prog_21_method_6_code 0 = .ok (.aload_n 0, 1) := by decide +kernel
theorem d9_1 : decode prog_21_method_6_code 1 = .ok (.getfield 19, 3) := by decide +kernel
theorem d9_4 : decode prog_21_method_6_code 4 = .ok (.aload_n 0, 1) := by decide +kernel
theorem d9_5 : decode prog_21_method_6_code 5 = .ok (.getfield 25, 3) := by decide +kernel
theorem d9_8 : decode prog_21_method_6_code 8 = .ok (.ladd, 1) := by decide +kernel
theorem d9_9 : decode prog_21_method_6_code 9 = .ok (.invokestatic 43, 3) := by decide +kernel
theorem d9_12 : decode prog_21_method_6_code 12 = .ok (.lstore_n 1, 1) := by decide +kernel
theorem d9_13 : decode prog_21_method_6_code 13 = .ok (.aload_n 0, 1) := by decide +kernel
theorem d9_14 : decode prog_21_method_6_code 14 = .ok (.ldc2_w 46, 3) := by decide +kernel
theorem d9_17 : decode prog_21_method_6_code 17 = .ok (.aload_n 0, 1) := by decide +kernel
theorem d9_18 : decode prog_21_method_6_code 18 = .ok (.getfield 19, 3) := by decide +kernel
theorem d9_21 : decode prog_21_method_6_code 21 = .ok (.lmul, 1) := by decide +kernel
theorem d9_22 : decode prog_21_method_6_code 22 = .ok (.aload_n 0, 1) := by decide +kernel
theorem d9_23 : decode prog_21_method_6_code 23 = .ok (.getfield 15, 3) := by decide +kernel
theorem d9_26 : decode prog_21_method_6_code 26 = .ok (.ladd, 1) := by decide +kernel
theorem d9_27 : decode prog_21_method_6_code 27 = .ok (.putfield 19, 3) := by decide +kernel
theorem d9_30 : decode prog_21_method_6_code 30 = .ok (.aload_n 0, 1) := by decide +kernel
theorem d9_31 : decode prog_21_method_6_code 31 = .ok (.getfield 30, 3) := by decide +kernel
theorem d9_34 : decode prog_21_method_6_code 34 = .ok (.aload_n 0, 1) := by decide +kernel
theorem d9_35 : decode prog_21_method_6_code 35 = .ok (.getfield 25, 3) := by decide +kernel
theorem d9_38 : decode prog_21_method_6_code 38 = .ok (.lxor, 1) := by decide +kernel
theorem d9_39 : decode prog_21_method_6_code 39 = .ok (.lstore_n 3, 1) := by decide +kernel
theorem d9_40 : decode prog_21_method_6_code 40 = .ok (.aload_n 0, 1) := by decide +kernel
theorem d9_41 : decode prog_21_method_6_code 41 = .ok (.aload_n 0, 1) := by decide +kernel
theorem d9_42 : decode prog_21_method_6_code 42 = .ok (.getfield 25, 3) := by decide +kernel
theorem d9_45 : decode prog_21_method_6_code 45 = .ok (.bipush 24, 2) := by decide +kernel
theorem d9_47 : decode prog_21_method_6_code 47 = .ok (.invokestatic 48, 3) := by decide +kernel
theorem d9_50 : decode prog_21_method_6_code 50 = .ok (.lload_n 3, 1) := by decide +kernel
theorem d9_51 : decode prog_21_method_6_code 51 = .ok (.lxor, 1) := by decide +kernel
theorem d9_52 : decode prog_21_method_6_code 52 = .ok (.lload_n 3, 1) := by decide +kernel
theorem d9_53 : decode prog_21_method_6_code 53 = .ok (.bipush 16, 2) := by decide +kernel
theorem d9_55 : decode prog_21_method_6_code 55 = .ok (.lshl, 1) := by decide +kernel
theorem d9_56 : decode prog_21_method_6_code 56 = .ok (.lxor, 1) := by decide +kernel
theorem d9_57 : decode prog_21_method_6_code 57 = .ok (.putfield 25, 3) := by decide +kernel
theorem d9_60 : decode prog_21_method_6_code 60 = .ok (.aload_n 0, 1) := by decide +kernel
theorem d9_61 : decode prog_21_method_6_code 61 = .ok (.lload_n 3, 1) := by decide +kernel
theorem d9_62 : decode prog_21_method_6_code 62 = .ok (.bipush 37, 2) := by decide +kernel
theorem d9_64 : decode prog_21_method_6_code 64 = .ok (.invokestatic 48, 3) := by decide +kernel
theorem d9_67 : decode prog_21_method_6_code 67 = .ok (.putfield 30, 3) := by decide +kernel
theorem d9_70 : decode prog_21_method_6_code 70 = .ok (.lload_n 1, 1) := by decide +kernel
theorem d9_71 : decode prog_21_method_6_code 71 = .ok (.lreturn, 1) := by decide +kernel
theorem pn_9 : plainName "com/example/driftline/driftline/model/LxmRandom" = true := by first | (simp [plainName, overriddenIn]; done) | decide +kernel
theorem ef_9 (m : MethodId) (x0 : Addr) : entryFrame m #[(.ref x0)] 5 = mkF m 0 #[.val (.ref x0), .unset, .unset, .unset, .unset] [] := by first | (simp [entryFrame, mkF, argsToLocals, Value.category]; done) | rfl
def Q9 (Z : State) (a1 : Addr) (va : Int64) (vs : Int64) (vx : Int64) (vy : Int64) (h0 : Heap) (n0 : Nat) (v : Option Value) (h : Heap) (L : List Loc) : Prop := ∃ r : Int64, v = some (.long r) ∧ (r = own_lea (vs + vx)) ∧ Fr n0 L ∧ Keep h0 h [a1] ∧ Exa Z h a1 "com/example/driftline/driftline/model/LxmRandom" ∧ Fld Z h a1 "com/example/driftline/driftline/model/LxmRandom" "a" "J" (.long va) ∧ Fld Z h a1 "com/example/driftline/driftline/model/LxmRandom" "s" "J" (.long (own_s va vs)) ∧ Fld Z h a1 "com/example/driftline/driftline/model/LxmRandom" "x0" "J" (.long (own_x0 vx vy)) ∧ Fld Z h a1 "com/example/driftline/driftline/model/LxmRandom" "x1" "J" (.long (own_x1 vx vy))
set_option maxRecDepth 65536 in
set_option maxHeartbeats 40000000 in
theorem rm9 (l : Launch) (Z : State) (a0 : Array Value) (hw : ∀ d ∈ tables_1, d.before a0 Z = true) (ws : List Jvm.Cond) (a1 : Addr) (va : Int64) (vs : Int64) (vx : Int64) (vy : Int64) (h0 : Heap) (n0 : Nat) (Z0 : n0 ≤ h0.size) (E_a1 : Exa Z h0 a1 "com/example/driftline/driftline/model/LxmRandom") (g_a1 : n0 ≤ a1) (F_a1_a : Fld Z h0 a1 "com/example/driftline/driftline/model/LxmRandom" "a" "J" (.long va)) (F_a1_s : Fld Z h0 a1 "com/example/driftline/driftline/model/LxmRandom" "s" "J" (.long vs)) (F_a1_x0 : Fld Z h0 a1 "com/example/driftline/driftline/model/LxmRandom" "x0" "J" (.long vx)) (F_a1_x1 : Fld Z h0 a1 "com/example/driftline/driftline/model/LxmRandom" "x1" "J" (.long vy)) :
    MetFree l (⟨"com/example/driftline/driftline/model/LxmRandom", "nextLong", "()J"⟩ : MethodName) (head1 (Jvm.Cond.code (⟨"com/example/driftline/driftline/model/LxmRandom", "nextLong", "()J"⟩ : MethodName) prog_21_method_6_code 5 (some .long) :: ws) ({ frames := 1, cells := 0, slots := 0, locals := 17 } : Room)) (fun a U => a = #[(.ref a1)] ∧ Z.Warmed39 U.vm ∧ U.heap = h0) (fun _ _ _ _ _ => True) (fun _ U o U' => ∃ v L, o = .returned v ∧ Q9 Z a1 va vs vx vy h0 n0 v U'.heap L ∧ FrameEnd U o U' L ({ frames := 1, cells := 0, slots := 0, locals := 17 } : Room).cells ({ frames := 1, cells := 0, slots := 0, locals := 17 } : Room).slots) := by
  refine MetFree.of_bodySF (plainFor_of_name pn_9) hisR ?_
  intro p e s m args below meth c s₁ Bd hml0 hP hK
  obtain ⟨rfl, hZ, hh⟩ := hP
  have hx := Bd.exec
  have hby := Bd.bytes
  have hml : c.maxLocals = 5 := hml0
  have hown : s.vm.findClass "com/example/driftline/driftline/model/LxmRandom" = some m.cls := findClass_of_methodNamed Bd.named
  have hnm := (name_of_methodNamed Bd.named Bd.method).1
  have X0 : Stand p l e ({ frames := 1, cells := 0, slots := 0, locals := 17 } : Room) s m #[(.ref a1)] below meth c s₁ [] 0 0 := Stand.of_body Bd
  have e0 : s₁.heap = h0 := by rw [← hh, Bd.state]; rfl
  have N0 := Fr.nil n0
  have K0 : Keep h0 h0 [a1] := Keep.refl _ _
  have pre0 : ∀ t, Steps p.tables e below (s₁.setTop (mkF m 0 #[.val (.ref a1), .unset, .unset, .unset, .unset] [])) t → Steps p.tables e below (s₁.setTop (entryFrame m #[(.ref a1)] 5)) t := fun t k => castTop (ef_9 m a1) k
  refine own_go (S' := fun t => Steps p.tables e below (s₁.setTop (mkF m 0 #[.val (.ref a1), .unset, .unset, .unset, .unset] [])) t) pre0 ?_
  obtain ⟨T1, X1, e1, st1⟩ := getF X0 hx hZ hown (host := "") (Or.inl (hw _ (List.mem_of_getElem? (i := 17) rfl))) Via.refl e0 F_a1_s (g := (mkF m 1 #[.val (.ref a1), .unset, .unset, .unset, .unset] [(.ref a1)])) rfl rfl (hb hby d9_1)
  obtain ⟨T2, X2, e2, st2⟩ := getF X1 hx hZ hown (host := "") (Or.inl (hw _ (List.mem_of_getElem? (i := 24) rfl))) Via.refl e1 F_a1_x0 (g := (mkF m 5 #[.val (.ref a1), .unset, .unset, .unset, .unset] [(.ref a1), (.long vs)])) rfl rfl (hb hby d9_5)
  obtain ⟨_, _, ⟨T3, L3, k3, n3⟩, -, X3, ⟨Lc3, hQ3, l3, y3, z3⟩, st3⟩ := Jvm.LawKit.callS X2 hx (y := (⟨"com/example/driftline/driftline/model/LxmRandom", "lea", "(J)J"⟩ : MethodName)) hown (mvT hZ (hw _ (List.mem_of_getElem? (i := 53) rfl))) (mvT hZ (hw _ (List.mem_of_getElem? (i := 54) rfl))) (mvT hZ (hw _ (List.mem_of_getElem? (i := 2) rfl))) (mvT hZ (hw _ (List.mem_of_getElem? (i := 55) rfl))) (by decide) (backOf (W := 0) (rm10 l Z a0 hw [] (vs + vx) h0 n0 Z0 ) hZ (hw _ (List.mem_of_getElem? (i := 55) rfl)) (hw _ (List.mem_of_getElem? (i := 2) rfl)) (by decide) (by decide)) (g := (mkF m 9 #[.val (.ref a1), .unset, .unset, .unset, .unset] [(.long (vs + vx))])) rfl (by rw [hml]; rfl) (argsL := [(.long (vs + vx))]) (rest := []) (lenOf pd_0 rfl) rfl (by show 2 * 0 + _ ≤ _; exact Nat.le_of_eq rfl) (hb hby d9_9) (fun _ _ => ⟨rfl, e2, (by decide : 0 + 0 ≤ _), (by decide : 0 + 0 ≤ _)⟩)
  dsimp only [Pt.U, Pt.locs, Pt.cells, Pt.slots] at X3 l3 y3 z3 st3 hQ3
  subst l3 y3 z3
  obtain ⟨r3, rfl, d_r3, N3q, e3⟩ := hQ3
  subst d_r3
  have N3 := Fr.app N0 N3q
  obtain ⟨T4, X4, e4, st4⟩ := getF X3 hx hZ hown (host := "") (Or.inl (hw _ (List.mem_of_getElem? (i := 17) rfl))) Via.refl e3 F_a1_s (g := (mkF m 18 #[.val (.ref a1), .val (.long (own_lea (vs + vx))), .second, .unset, .unset] [(.ref a1), (.long (-3372029247567499371 : Int64)), (.ref a1)])) rfl rfl (hb hby d9_18)
  obtain ⟨T5, X5, e5, st5⟩ := getF X4 hx hZ hown (host := "") (Or.inl (hw _ (List.mem_of_getElem? (i := 15) rfl))) Via.refl e4 F_a1_a (g := (mkF m 23 #[.val (.ref a1), .val (.long (own_lea (vs + vx))), .second, .unset, .unset] [(.ref a1), (.long ((-3372029247567499371 : Int64) * vs)), (.ref a1)])) rfl rfl (hb hby d9_23)
  obtain ⟨T6, h6, X6, e6, W6, st6⟩ := putF X5 hx hZ hown (host := "") (Or.inl (hw _ (List.mem_of_getElem? (i := 17) rfl))) Via.refl e5 F_a1_s E_a1 (Or.inl (hw _ (List.mem_of_getElem? (i := 18) rfl))) (hw _ (List.mem_of_getElem? (i := 1) rfl)) (ty := .long) (by decide) rfl rfl (g := (mkF m 27 #[.val (.ref a1), .val (.long (own_lea (vs + vx))), .second, .unset, .unset] [(.long (((-3372029247567499371 : Int64) * vs) + va)), (.ref a1)])) rfl rfl (hb hby d9_27)
  have F_a1_a := F_a1_a.other W6 (Or.inr (slot_ne (Or.inr (hw _ (List.mem_of_getElem? (i := 16) rfl))) (Or.inl (hw _ (List.mem_of_getElem? (i := 18) rfl))) (by decide) (t := .long) (t' := .long) (by decide) (by decide)))
  have F_a1_s := F_a1_s.same W6
  have F_a1_x0 := F_a1_x0.other W6 (Or.inr (slot_ne (Or.inl (hw _ (List.mem_of_getElem? (i := 25) rfl))) (Or.inl (hw _ (List.mem_of_getElem? (i := 18) rfl))) (by decide) (t := .long) (t' := .long) (by decide) (by decide)))
  have F_a1_x1 := F_a1_x1.other W6 (Or.inr (slot_ne (Or.inl (hw _ (List.mem_of_getElem? (i := 28) rfl))) (Or.inl (hw _ (List.mem_of_getElem? (i := 18) rfl))) (by decide) (t := .long) (t' := .long) (by decide) (by decide)))
  have E_a1 := E_a1.wr W6
  have Z0 : n0 ≤ h6.size := by rw [W6.size]; exact Z0
  have K0 := K0.wr W6 (Or.inl (List.mem_of_getElem? (i := 0) rfl))
  have N6 := Fr.snoc X6 N3 g_a1
  obtain ⟨T7, X7, e7, st7⟩ := getF X6 hx hZ hown (host := "") (Or.inl (hw _ (List.mem_of_getElem? (i := 27) rfl))) Via.refl e6 F_a1_x1 (g := (mkF m 31 #[.val (.ref a1), .val (.long (own_lea (vs + vx))), .second, .unset, .unset] [(.ref a1)])) rfl rfl (hb hby d9_31)
  obtain ⟨T8, X8, e8, st8⟩ := getF X7 hx hZ hown (host := "") (Or.inl (hw _ (List.mem_of_getElem? (i := 24) rfl))) Via.refl e7 F_a1_x0 (g := (mkF m 35 #[.val (.ref a1), .val (.long (own_lea (vs + vx))), .second, .unset, .unset] [(.ref a1), (.long vy)])) rfl rfl (hb hby d9_35)
  obtain ⟨T9, X9, e9, st9⟩ := getF X8 hx hZ hown (host := "") (Or.inl (hw _ (List.mem_of_getElem? (i := 24) rfl))) Via.refl e8 F_a1_x0 (g := (mkF m 42 #[.val (.ref a1), .val (.long (own_lea (vs + vx))), .second, .val (.long (vy ^^^ vx)), .second] [(.ref a1), (.ref a1)])) rfl rfl (hb hby d9_42)
  obtain ⟨_, _, ⟨T10, L10, k10, n10⟩, -, X10, ⟨Lc10, hQ10, l10, y10, z10⟩, st10⟩ := Jvm.LawKit.callS X9 hx (y := (⟨"java/lang/Long", "rotateLeft", "(JI)J"⟩ : MethodName)) hown (mvT hZ (hw _ (List.mem_of_getElem? (i := 58) rfl))) (mvT hZ (hw _ (List.mem_of_getElem? (i := 59) rfl))) (mvT hZ (hw _ (List.mem_of_getElem? (i := 60) rfl))) (mvT hZ (hw _ (List.mem_of_getElem? (i := 61) rfl))) (by decide) (backOf (W := 1) (rm11 l Z a0 hw [] vx (24 : Int32) h6 n0 Z0 ) hZ (hw _ (List.mem_of_getElem? (i := 61) rfl)) (hw _ (List.mem_of_getElem? (i := 60) rfl)) (by decide) (by decide)) (g := (mkF m 47 #[.val (.ref a1), .val (.long (own_lea (vs + vx))), .second, .val (.long (vy ^^^ vx)), .second] [(.int (24 : Int32)), (.long vx), (.ref a1)])) rfl (by rw [hml]; rfl) (argsL := [(.long vx), (.int (24 : Int32))]) (rest := [(.ref a1)]) (lenOf pd_1 rfl) rfl (by show 2 * 0 + _ ≤ _; exact Nat.le_of_eq rfl) (hb hby d9_47) (fun _ _ => ⟨rfl, e9, (by decide : 0 + 0 ≤ _), (by decide : 0 + 0 ≤ _)⟩)
  dsimp only [Pt.U, Pt.locs, Pt.cells, Pt.slots] at X10 l10 y10 z10 st10 hQ10
  subst l10 y10 z10
  obtain ⟨r10, rfl, d_r10, N10q, e10⟩ := hQ10
  subst d_r10
  have N10 := Fr.app N6 N10q
  obtain ⟨T11, h11, X11, e11, W11, st11⟩ := putF X10 hx hZ hown (host := "") (Or.inl (hw _ (List.mem_of_getElem? (i := 24) rfl))) Via.refl e10 F_a1_x0 E_a1 (Or.inl (hw _ (List.mem_of_getElem? (i := 25) rfl))) (hw _ (List.mem_of_getElem? (i := 1) rfl)) (ty := .long) (by decide) rfl rfl (g := (mkF m 57 #[.val (.ref a1), .val (.long (own_lea (vs + vx))), .second, .val (.long (vy ^^^ vx)), .second] [(.long (((own_rot vx (24 : Int32)) ^^^ (vy ^^^ vx)) ^^^ ((vy ^^^ vx) <<< ((16 : Int32) &&& 0x3f).toInt64))), (.ref a1)])) rfl rfl (hb hby d9_57)
  have F_a1_a := F_a1_a.other W11 (Or.inr (slot_ne (Or.inr (hw _ (List.mem_of_getElem? (i := 16) rfl))) (Or.inl (hw _ (List.mem_of_getElem? (i := 25) rfl))) (by decide) (t := .long) (t' := .long) (by decide) (by decide)))
  have F_a1_s := F_a1_s.other W11 (Or.inr (slot_ne (Or.inl (hw _ (List.mem_of_getElem? (i := 18) rfl))) (Or.inl (hw _ (List.mem_of_getElem? (i := 25) rfl))) (by decide) (t := .long) (t' := .long) (by decide) (by decide)))
  have F_a1_x0 := F_a1_x0.same W11
  have F_a1_x1 := F_a1_x1.other W11 (Or.inr (slot_ne (Or.inl (hw _ (List.mem_of_getElem? (i := 28) rfl))) (Or.inl (hw _ (List.mem_of_getElem? (i := 25) rfl))) (by decide) (t := .long) (t' := .long) (by decide) (by decide)))
  have E_a1 := E_a1.wr W11
  have Z0 : n0 ≤ h11.size := by rw [W11.size]; exact Z0
  have K0 := K0.wr W11 (Or.inl (List.mem_of_getElem? (i := 0) rfl))
  have N11 := Fr.snoc X11 N10 g_a1
  obtain ⟨_, _, ⟨T12, L12, k12, n12⟩, -, X12, ⟨Lc12, hQ12, l12, y12, z12⟩, st12⟩ := Jvm.LawKit.callS X11 hx (y := (⟨"java/lang/Long", "rotateLeft", "(JI)J"⟩ : MethodName)) hown (mvT hZ (hw _ (List.mem_of_getElem? (i := 58) rfl))) (mvT hZ (hw _ (List.mem_of_getElem? (i := 59) rfl))) (mvT hZ (hw _ (List.mem_of_getElem? (i := 60) rfl))) (mvT hZ (hw _ (List.mem_of_getElem? (i := 61) rfl))) (by decide) (backOf (W := 1) (rm11 l Z a0 hw [] (vy ^^^ vx) (37 : Int32) h11 n0 Z0 ) hZ (hw _ (List.mem_of_getElem? (i := 61) rfl)) (hw _ (List.mem_of_getElem? (i := 60) rfl)) (by decide) (by decide)) (g := (mkF m 64 #[.val (.ref a1), .val (.long (own_lea (vs + vx))), .second, .val (.long (vy ^^^ vx)), .second] [(.int (37 : Int32)), (.long (vy ^^^ vx)), (.ref a1)])) rfl (by rw [hml]; rfl) (argsL := [(.long (vy ^^^ vx)), (.int (37 : Int32))]) (rest := [(.ref a1)]) (lenOf pd_1 rfl) rfl (by show 2 * 0 + _ ≤ _; exact Nat.le_of_eq rfl) (hb hby d9_64) (fun _ _ => ⟨rfl, e11, (by decide : 0 + 0 ≤ _), (by decide : 0 + 0 ≤ _)⟩)
  dsimp only [Pt.U, Pt.locs, Pt.cells, Pt.slots] at X12 l12 y12 z12 st12 hQ12
  subst l12 y12 z12
  obtain ⟨r12, rfl, d_r12, N12q, e12⟩ := hQ12
  subst d_r12
  have N12 := Fr.app N11 N12q
  obtain ⟨T13, h13, X13, e13, W13, st13⟩ := putF X12 hx hZ hown (host := "") (Or.inl (hw _ (List.mem_of_getElem? (i := 27) rfl))) Via.refl e12 F_a1_x1 E_a1 (Or.inl (hw _ (List.mem_of_getElem? (i := 28) rfl))) (hw _ (List.mem_of_getElem? (i := 1) rfl)) (ty := .long) (by decide) rfl rfl (g := (mkF m 67 #[.val (.ref a1), .val (.long (own_lea (vs + vx))), .second, .val (.long (vy ^^^ vx)), .second] [(.long (own_rot (vy ^^^ vx) (37 : Int32))), (.ref a1)])) rfl rfl (hb hby d9_67)
  have F_a1_a := F_a1_a.other W13 (Or.inr (slot_ne (Or.inr (hw _ (List.mem_of_getElem? (i := 16) rfl))) (Or.inl (hw _ (List.mem_of_getElem? (i := 28) rfl))) (by decide) (t := .long) (t' := .long) (by decide) (by decide)))
  have F_a1_s := F_a1_s.other W13 (Or.inr (slot_ne (Or.inl (hw _ (List.mem_of_getElem? (i := 18) rfl))) (Or.inl (hw _ (List.mem_of_getElem? (i := 28) rfl))) (by decide) (t := .long) (t' := .long) (by decide) (by decide)))
  have F_a1_x0 := F_a1_x0.other W13 (Or.inr (slot_ne (Or.inl (hw _ (List.mem_of_getElem? (i := 25) rfl))) (Or.inl (hw _ (List.mem_of_getElem? (i := 28) rfl))) (by decide) (t := .long) (t' := .long) (by decide) (by decide)))
  have F_a1_x1 := F_a1_x1.same W13
  have E_a1 := E_a1.wr W13
  have Z0 : n0 ≤ h13.size := by rw [W13.size]; exact Z0
  have K0 := K0.wr W13 (Or.inl (List.mem_of_getElem? (i := 0) rfl))
  have N13 := Fr.snoc X13 N12 g_a1
  obtain ⟨fs, hr, hrun, hended, hW, hsame⟩ := X13.leave (v := some (.long (own_lea (vs + vx)))) (fun h => by rw [Bd.returns] at h; cases h)
  refine ⟨_, _, ?_, hrun, hended, _, _, rfl, ?_, ⟨_, rfl⟩, hW, hsame.mono (by decide) (by decide)⟩
  · show Steps p.tables e below (s₁.setTop (mkF m 0 #[.val (.ref a1), .unset, .unset, .unset, .unset] [])) _
    refine XS.aloadN X0.here hx rfl (hb hby d9_0) rfl rfl ?_
    show Steps p.tables e below (s₁.setTop (mkF m 1 #[.val (.ref a1), .unset, .unset, .unset, .unset] [(.ref a1)])) _
    refine st1 _ ?_
    show Steps p.tables e below (T1.setTop (mkF m 4 #[.val (.ref a1), .unset, .unset, .unset, .unset] [(.long vs)])) _
    refine XS.aloadN X1.here hx rfl (hb hby d9_4) rfl rfl ?_
    show Steps p.tables e below (T1.setTop (mkF m 5 #[.val (.ref a1), .unset, .unset, .unset, .unset] [(.ref a1), (.long vs)])) _
    refine st2 _ ?_
    show Steps p.tables e below (T2.setTop (mkF m 8 #[.val (.ref a1), .unset, .unset, .unset, .unset] [(.long vx), (.long vs)])) _
    refine XS.ladd X2.here hx rfl (hb hby d9_8) rfl ?_
    show Steps p.tables e below (T2.setTop (mkF m 9 #[.val (.ref a1), .unset, .unset, .unset, .unset] [(.long (vs + vx))])) _
    refine st3 _ ?_
    show Steps p.tables e below (T3.setTop (mkF m 12 #[.val (.ref a1), .unset, .unset, .unset, .unset] [(.long (own_lea (vs + vx)))])) _
    refine XS.lstoreN X3.here hx rfl (hb hby d9_12) rfl (l' := #[.val (.ref a1), .val (.long (own_lea (vs + vx))), .second, .unset, .unset]) rfl ?_
    show Steps p.tables e below (T3.setTop (mkF m 13 #[.val (.ref a1), .val (.long (own_lea (vs + vx))), .second, .unset, .unset] [])) _
    refine XS.aloadN X3.here hx rfl (hb hby d9_13) rfl rfl ?_
    show Steps p.tables e below (T3.setTop (mkF m 14 #[.val (.ref a1), .val (.long (own_lea (vs + vx))), .second, .unset, .unset] [(.ref a1)])) _
    refine X3.ldc2Long hx hown (mvT hZ (hw _ (List.mem_of_getElem? (i := 57) rfl))) (g := (mkF m 14 #[.val (.ref a1), .val (.long (own_lea (vs + vx))), .second, .unset, .unset] [(.ref a1)])) rfl (hb hby d9_14) _ ?_
    show Steps p.tables e below (T3.setTop (mkF m 17 #[.val (.ref a1), .val (.long (own_lea (vs + vx))), .second, .unset, .unset] [(.long (-3372029247567499371 : Int64)), (.ref a1)])) _
    refine XS.aloadN X3.here hx rfl (hb hby d9_17) rfl rfl ?_
    show Steps p.tables e below (T3.setTop (mkF m 18 #[.val (.ref a1), .val (.long (own_lea (vs + vx))), .second, .unset, .unset] [(.ref a1), (.long (-3372029247567499371 : Int64)), (.ref a1)])) _
    refine st4 _ ?_
    show Steps p.tables e below (T4.setTop (mkF m 21 #[.val (.ref a1), .val (.long (own_lea (vs + vx))), .second, .unset, .unset] [(.long vs), (.long (-3372029247567499371 : Int64)), (.ref a1)])) _
    refine XS.lmul X4.here hx rfl (hb hby d9_21) rfl ?_
    show Steps p.tables e below (T4.setTop (mkF m 22 #[.val (.ref a1), .val (.long (own_lea (vs + vx))), .second, .unset, .unset] [(.long ((-3372029247567499371 : Int64) * vs)), (.ref a1)])) _
    refine XS.aloadN X4.here hx rfl (hb hby d9_22) rfl rfl ?_
    show Steps p.tables e below (T4.setTop (mkF m 23 #[.val (.ref a1), .val (.long (own_lea (vs + vx))), .second, .unset, .unset] [(.ref a1), (.long ((-3372029247567499371 : Int64) * vs)), (.ref a1)])) _
    refine st5 _ ?_
    show Steps p.tables e below (T5.setTop (mkF m 26 #[.val (.ref a1), .val (.long (own_lea (vs + vx))), .second, .unset, .unset] [(.long va), (.long ((-3372029247567499371 : Int64) * vs)), (.ref a1)])) _
    refine XS.ladd X5.here hx rfl (hb hby d9_26) rfl ?_
    show Steps p.tables e below (T5.setTop (mkF m 27 #[.val (.ref a1), .val (.long (own_lea (vs + vx))), .second, .unset, .unset] [(.long (((-3372029247567499371 : Int64) * vs) + va)), (.ref a1)])) _
    refine st6 _ ?_
    show Steps p.tables e below (T6.setTop (mkF m 30 #[.val (.ref a1), .val (.long (own_lea (vs + vx))), .second, .unset, .unset] [])) _
    refine XS.aloadN X6.here hx rfl (hb hby d9_30) rfl rfl ?_
    show Steps p.tables e below (T6.setTop (mkF m 31 #[.val (.ref a1), .val (.long (own_lea (vs + vx))), .second, .unset, .unset] [(.ref a1)])) _
    refine st7 _ ?_
    show Steps p.tables e below (T7.setTop (mkF m 34 #[.val (.ref a1), .val (.long (own_lea (vs + vx))), .second, .unset, .unset] [(.long vy)])) _
    refine XS.aloadN X7.here hx rfl (hb hby d9_34) rfl rfl ?_
    show Steps p.tables e below (T7.setTop (mkF m 35 #[.val (.ref a1), .val (.long (own_lea (vs + vx))), .second, .unset, .unset] [(.ref a1), (.long vy)])) _
    refine st8 _ ?_
    show Steps p.tables e below (T8.setTop (mkF m 38 #[.val (.ref a1), .val (.long (own_lea (vs + vx))), .second, .unset, .unset] [(.long vx), (.long vy)])) _
    refine XS.lxor X8.here hx rfl (hb hby d9_38) rfl ?_
    show Steps p.tables e below (T8.setTop (mkF m 39 #[.val (.ref a1), .val (.long (own_lea (vs + vx))), .second, .unset, .unset] [(.long (vy ^^^ vx))])) _
    refine XS.lstoreN X8.here hx rfl (hb hby d9_39) rfl (l' := #[.val (.ref a1), .val (.long (own_lea (vs + vx))), .second, .val (.long (vy ^^^ vx)), .second]) rfl ?_
    show Steps p.tables e below (T8.setTop (mkF m 40 #[.val (.ref a1), .val (.long (own_lea (vs + vx))), .second, .val (.long (vy ^^^ vx)), .second] [])) _
    refine XS.aloadN X8.here hx rfl (hb hby d9_40) rfl rfl ?_
    show Steps p.tables e below (T8.setTop (mkF m 41 #[.val (.ref a1), .val (.long (own_lea (vs + vx))), .second, .val (.long (vy ^^^ vx)), .second] [(.ref a1)])) _
    refine XS.aloadN X8.here hx rfl (hb hby d9_41) rfl rfl ?_
    show Steps p.tables e below (T8.setTop (mkF m 42 #[.val (.ref a1), .val (.long (own_lea (vs + vx))), .second, .val (.long (vy ^^^ vx)), .second] [(.ref a1), (.ref a1)])) _
    refine st9 _ ?_
    show Steps p.tables e below (T9.setTop (mkF m 45 #[.val (.ref a1), .val (.long (own_lea (vs + vx))), .second, .val (.long (vy ^^^ vx)), .second] [(.long vx), (.ref a1)])) _
    refine XS.bipush X9.here hx rfl (hb hby d9_45) ?_
    show Steps p.tables e below (T9.setTop (mkF m 47 #[.val (.ref a1), .val (.long (own_lea (vs + vx))), .second, .val (.long (vy ^^^ vx)), .second] [(.int (24 : Int32)), (.long vx), (.ref a1)])) _
    refine st10 _ ?_
    show Steps p.tables e below (T10.setTop (mkF m 50 #[.val (.ref a1), .val (.long (own_lea (vs + vx))), .second, .val (.long (vy ^^^ vx)), .second] [(.long (own_rot vx (24 : Int32))), (.ref a1)])) _
    refine XS.lloadN X10.here hx rfl (hb hby d9_50) rfl ?_
    show Steps p.tables e below (T10.setTop (mkF m 51 #[.val (.ref a1), .val (.long (own_lea (vs + vx))), .second, .val (.long (vy ^^^ vx)), .second] [(.long (vy ^^^ vx)), (.long (own_rot vx (24 : Int32))), (.ref a1)])) _
    refine XS.lxor X10.here hx rfl (hb hby d9_51) rfl ?_
    show Steps p.tables e below (T10.setTop (mkF m 52 #[.val (.ref a1), .val (.long (own_lea (vs + vx))), .second, .val (.long (vy ^^^ vx)), .second] [(.long ((own_rot vx (24 : Int32)) ^^^ (vy ^^^ vx))), (.ref a1)])) _
    refine XS.lloadN X10.here hx rfl (hb hby d9_52) rfl ?_
    show Steps p.tables e below (T10.setTop (mkF m 53 #[.val (.ref a1), .val (.long (own_lea (vs + vx))), .second, .val (.long (vy ^^^ vx)), .second] [(.long (vy ^^^ vx)), (.long ((own_rot vx (24 : Int32)) ^^^ (vy ^^^ vx))), (.ref a1)])) _
    refine XS.bipush X10.here hx rfl (hb hby d9_53) ?_
    show Steps p.tables e below (T10.setTop (mkF m 55 #[.val (.ref a1), .val (.long (own_lea (vs + vx))), .second, .val (.long (vy ^^^ vx)), .second] [(.int (16 : Int32)), (.long (vy ^^^ vx)), (.long ((own_rot vx (24 : Int32)) ^^^ (vy ^^^ vx))), (.ref a1)])) _
    refine XS.lshl X10.here hx rfl (hb hby d9_55) rfl ?_
    show Steps p.tables e below (T10.setTop (mkF m 56 #[.val (.ref a1), .val (.long (own_lea (vs + vx))), .second, .val (.long (vy ^^^ vx)), .second] [(.long ((vy ^^^ vx) <<< ((16 : Int32) &&& 0x3f).toInt64)), (.long ((own_rot vx (24 : Int32)) ^^^ (vy ^^^ vx))), (.ref a1)])) _
    refine XS.lxor X10.here hx rfl (hb hby d9_56) rfl ?_
    show Steps p.tables e below (T10.setTop (mkF m 57 #[.val (.ref a1), .val (.long (own_lea (vs + vx))), .second, .val (.long (vy ^^^ vx)), .second] [(.long (((own_rot vx (24 : Int32)) ^^^ (vy ^^^ vx)) ^^^ ((vy ^^^ vx) <<< ((16 : Int32) &&& 0x3f).toInt64))), (.ref a1)])) _
    refine st11 _ ?_
    show Steps p.tables e below (T11.setTop (mkF m 60 #[.val (.ref a1), .val (.long (own_lea (vs + vx))), .second, .val (.long (vy ^^^ vx)), .second] [])) _
    refine XS.aloadN X11.here hx rfl (hb hby d9_60) rfl rfl ?_
    show Steps p.tables e below (T11.setTop (mkF m 61 #[.val (.ref a1), .val (.long (own_lea (vs + vx))), .second, .val (.long (vy ^^^ vx)), .second] [(.ref a1)])) _
    refine XS.lloadN X11.here hx rfl (hb hby d9_61) rfl ?_
    show Steps p.tables e below (T11.setTop (mkF m 62 #[.val (.ref a1), .val (.long (own_lea (vs + vx))), .second, .val (.long (vy ^^^ vx)), .second] [(.long (vy ^^^ vx)), (.ref a1)])) _
    refine XS.bipush X11.here hx rfl (hb hby d9_62) ?_
    show Steps p.tables e below (T11.setTop (mkF m 64 #[.val (.ref a1), .val (.long (own_lea (vs + vx))), .second, .val (.long (vy ^^^ vx)), .second] [(.int (37 : Int32)), (.long (vy ^^^ vx)), (.ref a1)])) _
    refine st12 _ ?_
    show Steps p.tables e below (T12.setTop (mkF m 67 #[.val (.ref a1), .val (.long (own_lea (vs + vx))), .second, .val (.long (vy ^^^ vx)), .second] [(.long (own_rot (vy ^^^ vx) (37 : Int32))), (.ref a1)])) _
    refine st13 _ ?_
    show Steps p.tables e below (T13.setTop (mkF m 70 #[.val (.ref a1), .val (.long (own_lea (vs + vx))), .second, .val (.long (vy ^^^ vx)), .second] [])) _
    refine XS.lloadN X13.here hx rfl (hb hby d9_70) rfl ?_
    show Steps p.tables e below (T13.setTop (mkF m 71 #[.val (.ref a1), .val (.long (own_lea (vs + vx))), .second, .val (.long (vy ^^^ vx)), .second] [(.long (own_lea (vs + vx)))])) _
    exact X13.lreturnOut hx Bd.returns (hb hby d9_71) hr
  · show Q9 Z a1 va vs vx vy h0 n0 _ T13.heap _
    rw [e13]
    exact ⟨_, rfl, rfl, N13, K0, E_a1, F_a1_a, F_a1_s, F_a1_x0, F_a1_x1⟩
theorem d6_0 : decode prog_21_method_5_code 0 = .ok (.aload_n 0, 1) := by decide +kernel
theorem d6_1 : decode prog_21_method_5_code 1 = .ok (.getfield 19, 3) := by decide +kernel
theorem d6_4 : decode prog_21_method_5_code 4 = .ok (.aload_n 1, 1) := by decide +kernel
theorem d6_5 : decode prog_21_method_5_code 5 = .ok (.iconst 1, 1) := by decide +kernel
theorem d6_6 : decode prog_21_method_5_code 6 = .ok (.laload, 1) := by decide +kernel
theorem d6_7 : decode prog_21_method_5_code 7 = .ok (.lcmp, 1) := by decide +kernel
theorem d6_8 : decode prog_21_method_5_code 8 = .ok (.ifCond .ne 40, 3) := by decide +kernel
theorem d6_11 : decode prog_21_method_5_code 11 = .ok (.aload_n 0, 1) := by decide +kernel
theorem d6_12 : decode prog_21_method_5_code 12 = .ok (.getfield 25, 3) := by decide +kernel
theorem d6_15 : decode prog_21_method_5_code 15 = .ok (.aload_n 1, 1) := by decide +kernel
theorem d6_16 : decode prog_21_method_5_code 16 = .ok (.iconst 2, 1) := by decide +kernel
theorem d6_17 : decode prog_21_method_5_code 17 = .ok (.laload, 1) := by decide +kernel
theorem d6_18 : decode prog_21_method_5_code 18 = .ok (.lcmp, 1) := by decide +kernel
theorem d6_19 : decode prog_21_method_5_code 19 = .ok (.ifCond .ne 29, 3) := by decide +kernel
theorem d6_22 : decode prog_21_method_5_code 22 = .ok (.aload_n 0, 1) := by decide +kernel
theorem d6_23 : decode prog_21_method_5_code 23 = .ok (.getfield 30, 3) := by decide +kernel
theorem d6_26 : decode prog_21_method_5_code 26 = .ok (.aload_n 1, 1) := by decide +kernel
theorem d6_27 : decode prog_21_method_5_code 27 = .ok (.iconst 3, 1) := by decide +kernel
theorem d6_28 : decode prog_21_method_5_code 28 = .ok (.laload, 1) := by decide +kernel
theorem d6_29 : decode prog_21_method_5_code 29 = .ok (.lcmp, 1) := by decide +kernel
theorem d6_30 : decode prog_21_method_5_code 30 = .ok (.ifCond .ne 18, 3) := by decide +kernel
theorem d6_33 : decode prog_21_method_5_code 33 = .ok (.aload_n 0, 1) := by decide +kernel
theorem d6_34 : decode prog_21_method_5_code 34 = .ok (.getfield 15, 3) := by decide +kernel
theorem d6_37 : decode prog_21_method_5_code 37 = .ok (.aload_n 1, 1) := by decide +kernel
theorem d6_38 : decode prog_21_method_5_code 38 = .ok (.iconst 0, 1) := by decide +kernel
theorem d6_39 : decode prog_21_method_5_code 39 = .ok (.laload, 1) := by decide +kernel
theorem d6_40 : decode prog_21_method_5_code 40 = .ok (.lcmp, 1) := by decide +kernel
theorem d6_41 : decode prog_21_method_5_code 41 = .ok (.ifCond .ne 7, 3) := by decide +kernel
theorem d6_44 : decode prog_21_method_5_code 44 = .ok (.iconst 1, 1) := by decide +kernel
theorem d6_45 : decode prog_21_method_5_code 45 = .ok (.goto 4, 3) := by decide +kernel
theorem d6_48 : decode prog_21_method_5_code 48 = .ok (.iconst 0, 1) := by decide +kernel
theorem d6_49 : decode prog_21_method_5_code 49 = .ok (.ireturn, 1) := by decide +kernel
theorem pn_6 : plainName "com/example/driftline/driftline/model/LxmRandom" = true := by first | (simp [plainName, overriddenIn]; done) | decide +kernel
theorem ef_6 (m : MethodId) (x0 : Addr) (x1 : Addr) : entryFrame m #[(.ref x0), (.ref x1)] 2 = mkF m 0 #[.val (.ref x0), .val (.ref x1)] [] := by first | (simp [entryFrame, mkF, argsToLocals, Value.category]; done) | rfl
def Q6 (Z : State) (a1 : Addr) (a2 : Addr) (va : Int64) (vs : Int64) (vx : Int64) (vy : Int64) (kk : ClassId) (wa : Int64) (ws' : Int64) (wx : Int64) (wy : Int64) (h0 : Heap) (n0 : Nat) (v : Option Value) (h : Heap) (L : List Loc) : Prop := ∃ r : Int32, v = some (.int r) ∧ (r = (if (vs = ws' ∧ vx = wx ∧ vy = wy ∧ va = wa) then (1 : Int32) else (0 : Int32))) ∧ Fr n0 L ∧ h = h0
set_option maxRecDepth 65536 in
set_option maxHeartbeats 40000000 in
theorem rm6 (l : Launch) (Z : State) (a0 : Array Value) (hw : ∀ d ∈ tables_1, d.before a0 Z = true) (ws : List Jvm.Cond) (a1 : Addr) (a2 : Addr) (va : Int64) (vs : Int64) (vx : Int64) (vy : Int64) (kk : ClassId) (wa : Int64) (ws' : Int64) (wx : Int64) (wy : Int64) (h0 : Heap) (n0 : Nat) (Z0 : n0 ≤ h0.size) (F_a1_a : Fld Z h0 a1 "com/example/driftline/driftline/model/LxmRandom" "a" "J" (.long va)) (F_a1_s : Fld Z h0 a1 "com/example/driftline/driftline/model/LxmRandom" "s" "J" (.long vs)) (F_a1_x0 : Fld Z h0 a1 "com/example/driftline/driftline/model/LxmRandom" "x0" "J" (.long vx)) (F_a1_x1 : Fld Z h0 a1 "com/example/driftline/driftline/model/LxmRandom" "x1" "J" (.long vy)) (V_a2 : Arv Z h0 a2 kk .long (4 : Int32) [(.long wa), (.long ws'), (.long wx), (.long wy)] (.long (0 : Int64))) :
    MetFree l (⟨"com/example/driftline/driftline/model/LxmRandom", "inState", "([J)Z"⟩ : MethodName) (head1 (Jvm.Cond.code (⟨"com/example/driftline/driftline/model/LxmRandom", "inState", "([J)Z"⟩ : MethodName) prog_21_method_5_code 2 (some .boolean) :: ws) ({ frames := 0, cells := 0, slots := 0, locals := 0 } : Room)) (fun a U => a = #[(.ref a1), (.ref a2)] ∧ Z.Warmed39 U.vm ∧ U.heap = h0) (fun _ _ _ _ _ => True) (fun _ U o U' => ∃ v L, o = .returned v ∧ Q6 Z a1 a2 va vs vx vy kk wa ws' wx wy h0 n0 v U'.heap L ∧ FrameEnd U o U' L ({ frames := 0, cells := 0, slots := 0, locals := 0 } : Room).cells ({ frames := 0, cells := 0, slots := 0, locals := 0 } : Room).slots) := by
  refine MetFree.of_bodySF (plainFor_of_name pn_6) hisR ?_
  intro p e s m args below meth c s₁ Bd hml0 hP hK
  obtain ⟨rfl, hZ, hh⟩ := hP
  have hx := Bd.exec
  have hby := Bd.bytes
  have hml : c.maxLocals = 2 := hml0
  have hown : s.vm.findClass "com/example/driftline/driftline/model/LxmRandom" = some m.cls := findClass_of_methodNamed Bd.named
  have hnm := (name_of_methodNamed Bd.named Bd.method).1
  have X0 : Stand p l e ({ frames := 0, cells := 0, slots := 0, locals := 0 } : Room) s m #[(.ref a1), (.ref a2)] below meth c s₁ [] 0 0 := Stand.of_body Bd
  have e0 : s₁.heap = h0 := by rw [← hh, Bd.state]; rfl
  have N0 := Fr.nil n0
  have K0 : Keep h0 h0 [] := Keep.refl _ _
  have pre0 : ∀ t, Steps p.tables e below (s₁.setTop (mkF m 0 #[.val (.ref a1), .val (.ref a2)] [])) t → Steps p.tables e below (s₁.setTop (entryFrame m #[(.ref a1), (.ref a2)] 2)) t := fun t k => castTop (ef_6 m a1 a2) k
  refine own_go (S' := fun t => Steps p.tables e below (s₁.setTop (mkF m 0 #[.val (.ref a1), .val (.ref a2)] [])) t) pre0 ?_
  obtain ⟨T1, X1, e1, st1⟩ := getF X0 hx hZ hown (host := "") (Or.inl (hw _ (List.mem_of_getElem? (i := 17) rfl))) Via.refl e0 F_a1_s (g := (mkF m 1 #[.val (.ref a1), .val (.ref a2)] [(.ref a1)])) rfl rfl (hb hby d6_1)
  have V_tmp := V_a2
  obtain ⟨cl2, Ar2, aq2, S2, n2, H2, G2⟩ := V_tmp
  have hin2 : ¬ ((1 : Int32) < 0 ∨ cl2.slots.size ≤ ((1 : Int32)).toNatClampNeg) := inb_of S2 ⟨by decide, by decide⟩
  have hat2 : cl2.slots[((1 : Int32)).toNatClampNeg]? = some (.long ws') := Has.at H2 hin2 rfl
  refine own_go (S' := fun t => Steps p.tables e below (T1.setTop (mkF m 8 #[.val (.ref a1), .val (.ref a2)] [(.int (lcmpW vs ws'))])) t) (fun t k => ?_) ?_
  · show Steps p.tables e below (s₁.setTop (mkF m 0 #[.val (.ref a1), .val (.ref a2)] [])) _
    refine XS.aloadN X0.here hx rfl (hb hby d6_0) rfl rfl ?_
    show Steps p.tables e below (s₁.setTop (mkF m 1 #[.val (.ref a1), .val (.ref a2)] [(.ref a1)])) _
    refine st1 _ ?_
    show Steps p.tables e below (T1.setTop (mkF m 4 #[.val (.ref a1), .val (.ref a2)] [(.long vs)])) _
    refine XS.aloadN X1.here hx rfl (hb hby d6_4) rfl rfl ?_
    show Steps p.tables e below (T1.setTop (mkF m 5 #[.val (.ref a1), .val (.ref a2)] [(.ref a2), (.long vs)])) _
    refine XS.iconst X1.here hx rfl (hb hby d6_5) ?_
    show Steps p.tables e below (T1.setTop (mkF m 6 #[.val (.ref a1), .val (.ref a2)] [(.int (1 : Int32)), (.ref a2), (.long vs)])) _
    refine X1.laload hx (j := (1 : Int32)) (v := (.long ws')) (by rw [e1]; exact Ar2.1) (State.isArrayOf_alike hZ.alike Ar2.2.1) Ar2.2.2 hin2 hat2 (g := (mkF m 6 #[.val (.ref a1), .val (.ref a2)] [(.int (1 : Int32)), (.ref a2), (.long vs)])) rfl rfl (hb hby d6_6) _ ?_
    show Steps p.tables e below (T1.setTop (mkF m 7 #[.val (.ref a1), .val (.ref a2)] [(.long ws'), (.long vs)])) _
    refine XS.lcmp X1.here hx rfl (hb hby d6_7) rfl ?_
    exact k
  by_cases hc8 : vs = ws'
  · obtain ⟨T3, X3, e3, st3⟩ := getF X1 hx hZ hown (host := "") (Or.inl (hw _ (List.mem_of_getElem? (i := 24) rfl))) Via.refl e1 F_a1_x0 (g := (mkF m 12 #[.val (.ref a1), .val (.ref a2)] [(.ref a1)])) rfl rfl (hb hby d6_12)
    have V_tmp := V_a2
    obtain ⟨cl4, Ar4, aq4, S4, n4, H4, G4⟩ := V_tmp
    have hin4 : ¬ ((2 : Int32) < 0 ∨ cl4.slots.size ≤ ((2 : Int32)).toNatClampNeg) := inb_of S4 ⟨by decide, by decide⟩
    have hat4 : cl4.slots[((2 : Int32)).toNatClampNeg]? = some (.long wx) := Has.at H4 hin4 rfl
    refine own_go (S' := fun t => Steps p.tables e below (T3.setTop (mkF m 19 #[.val (.ref a1), .val (.ref a2)] [(.int (lcmpW vx wx))])) t) (fun t k => ?_) ?_
    · show Steps p.tables e below (T1.setTop (mkF m 8 #[.val (.ref a1), .val (.ref a2)] [(.int (lcmpW vs ws'))])) _
      refine XS.ifNo X1.here hx rfl (hb hby d6_8) rfl ((if0 _ _).trans (teq ((lw_eq _ _).mpr hc8)).2) ?_
      show Steps p.tables e below (T1.setTop (mkF m 11 #[.val (.ref a1), .val (.ref a2)] [])) _
      refine XS.aloadN X1.here hx rfl (hb hby d6_11) rfl rfl ?_
      show Steps p.tables e below (T1.setTop (mkF m 12 #[.val (.ref a1), .val (.ref a2)] [(.ref a1)])) _
      refine st3 _ ?_
      show Steps p.tables e below (T3.setTop (mkF m 15 #[.val (.ref a1), .val (.ref a2)] [(.long vx)])) _
      refine XS.aloadN X3.here hx rfl (hb hby d6_15) rfl rfl ?_
      show Steps p.tables e below (T3.setTop (mkF m 16 #[.val (.ref a1), .val (.ref a2)] [(.ref a2), (.long vx)])) _
      refine XS.iconst X3.here hx rfl (hb hby d6_16) ?_
      show Steps p.tables e below (T3.setTop (mkF m 17 #[.val (.ref a1), .val (.ref a2)] [(.int (2 : Int32)), (.ref a2), (.long vx)])) _
      refine X3.laload hx (j := (2 : Int32)) (v := (.long wx)) (by rw [e3]; exact Ar4.1) (State.isArrayOf_alike hZ.alike Ar4.2.1) Ar4.2.2 hin4 hat4 (g := (mkF m 17 #[.val (.ref a1), .val (.ref a2)] [(.int (2 : Int32)), (.ref a2), (.long vx)])) rfl rfl (hb hby d6_17) _ ?_
      show Steps p.tables e below (T3.setTop (mkF m 18 #[.val (.ref a1), .val (.ref a2)] [(.long wx), (.long vx)])) _
      refine XS.lcmp X3.here hx rfl (hb hby d6_18) rfl ?_
      exact k
    by_cases hc19 : vx = wx
    · obtain ⟨T5, X5, e5, st5⟩ := getF X3 hx hZ hown (host := "") (Or.inl (hw _ (List.mem_of_getElem? (i := 27) rfl))) Via.refl e3 F_a1_x1 (g := (mkF m 23 #[.val (.ref a1), .val (.ref a2)] [(.ref a1)])) rfl rfl (hb hby d6_23)
      have V_tmp := V_a2
      obtain ⟨cl6, Ar6, aq6, S6, n6, H6, G6⟩ := V_tmp
      have hin6 : ¬ ((3 : Int32) < 0 ∨ cl6.slots.size ≤ ((3 : Int32)).toNatClampNeg) := inb_of S6 ⟨by decide, by decide⟩
      have hat6 : cl6.slots[((3 : Int32)).toNatClampNeg]? = some (.long wy) := Has.at H6 hin6 rfl
      refine own_go (S' := fun t => Steps p.tables e below (T5.setTop (mkF m 30 #[.val (.ref a1), .val (.ref a2)] [(.int (lcmpW vy wy))])) t) (fun t k => ?_) ?_
      · show Steps p.tables e below (T3.setTop (mkF m 19 #[.val (.ref a1), .val (.ref a2)] [(.int (lcmpW vx wx))])) _
        refine XS.ifNo X3.here hx rfl (hb hby d6_19) rfl ((if0 _ _).trans (teq ((lw_eq _ _).mpr hc19)).2) ?_
        show Steps p.tables e below (T3.setTop (mkF m 22 #[.val (.ref a1), .val (.ref a2)] [])) _
        refine XS.aloadN X3.here hx rfl (hb hby d6_22) rfl rfl ?_
        show Steps p.tables e below (T3.setTop (mkF m 23 #[.val (.ref a1), .val (.ref a2)] [(.ref a1)])) _
        refine st5 _ ?_
        show Steps p.tables e below (T5.setTop (mkF m 26 #[.val (.ref a1), .val (.ref a2)] [(.long vy)])) _
        refine XS.aloadN X5.here hx rfl (hb hby d6_26) rfl rfl ?_
        show Steps p.tables e below (T5.setTop (mkF m 27 #[.val (.ref a1), .val (.ref a2)] [(.ref a2), (.long vy)])) _
        refine XS.iconst X5.here hx rfl (hb hby d6_27) ?_
        show Steps p.tables e below (T5.setTop (mkF m 28 #[.val (.ref a1), .val (.ref a2)] [(.int (3 : Int32)), (.ref a2), (.long vy)])) _
        refine X5.laload hx (j := (3 : Int32)) (v := (.long wy)) (by rw [e5]; exact Ar6.1) (State.isArrayOf_alike hZ.alike Ar6.2.1) Ar6.2.2 hin6 hat6 (g := (mkF m 28 #[.val (.ref a1), .val (.ref a2)] [(.int (3 : Int32)), (.ref a2), (.long vy)])) rfl rfl (hb hby d6_28) _ ?_
        show Steps p.tables e below (T5.setTop (mkF m 29 #[.val (.ref a1), .val (.ref a2)] [(.long wy), (.long vy)])) _
        refine XS.lcmp X5.here hx rfl (hb hby d6_29) rfl ?_
        exact k
      by_cases hc30 : vy = wy
      · obtain ⟨T7, X7, e7, st7⟩ := getF X5 hx hZ hown (host := "") (Or.inl (hw _ (List.mem_of_getElem? (i := 15) rfl))) Via.refl e5 F_a1_a (g := (mkF m 34 #[.val (.ref a1), .val (.ref a2)] [(.ref a1)])) rfl rfl (hb hby d6_34)
        have V_tmp := V_a2
        obtain ⟨cl8, Ar8, aq8, S8, n8, H8, G8⟩ := V_tmp
        have hin8 : ¬ ((0 : Int32) < 0 ∨ cl8.slots.size ≤ ((0 : Int32)).toNatClampNeg) := inb_of S8 ⟨by decide, by decide⟩
        have hat8 : cl8.slots[((0 : Int32)).toNatClampNeg]? = some (.long wa) := Has.at H8 hin8 rfl
        refine own_go (S' := fun t => Steps p.tables e below (T7.setTop (mkF m 41 #[.val (.ref a1), .val (.ref a2)] [(.int (lcmpW va wa))])) t) (fun t k => ?_) ?_
        · show Steps p.tables e below (T5.setTop (mkF m 30 #[.val (.ref a1), .val (.ref a2)] [(.int (lcmpW vy wy))])) _
          refine XS.ifNo X5.here hx rfl (hb hby d6_30) rfl ((if0 _ _).trans (teq ((lw_eq _ _).mpr hc30)).2) ?_
          show Steps p.tables e below (T5.setTop (mkF m 33 #[.val (.ref a1), .val (.ref a2)] [])) _
          refine XS.aloadN X5.here hx rfl (hb hby d6_33) rfl rfl ?_
          show Steps p.tables e below (T5.setTop (mkF m 34 #[.val (.ref a1), .val (.ref a2)] [(.ref a1)])) _
          refine st7 _ ?_
          show Steps p.tables e below (T7.setTop (mkF m 37 #[.val (.ref a1), .val (.ref a2)] [(.long va)])) _
          refine XS.aloadN X7.here hx rfl (hb hby d6_37) rfl rfl ?_
          show Steps p.tables e below (T7.setTop (mkF m 38 #[.val (.ref a1), .val (.ref a2)] [(.ref a2), (.long va)])) _
          refine XS.iconst X7.here hx rfl (hb hby d6_38) ?_
          show Steps p.tables e below (T7.setTop (mkF m 39 #[.val (.ref a1), .val (.ref a2)] [(.int (0 : Int32)), (.ref a2), (.long va)])) _
          refine X7.laload hx (j := (0 : Int32)) (v := (.long wa)) (by rw [e7]; exact Ar8.1) (State.isArrayOf_alike hZ.alike Ar8.2.1) Ar8.2.2 hin8 hat8 (g := (mkF m 39 #[.val (.ref a1), .val (.ref a2)] [(.int (0 : Int32)), (.ref a2), (.long va)])) rfl rfl (hb hby d6_39) _ ?_
          show Steps p.tables e below (T7.setTop (mkF m 40 #[.val (.ref a1), .val (.ref a2)] [(.long wa), (.long va)])) _
          refine XS.lcmp X7.here hx rfl (hb hby d6_40) rfl ?_
          exact k
        by_cases hc41 : va = wa
        · obtain ⟨fs, hr, hrun, hended, hW, hsame⟩ := X7.leave (v := some (.int (1 : Int32))) (fun h => by rw [Bd.returns] at h; cases h)
          refine ⟨_, _, ?_, hrun, hended, _, _, rfl, ?_, ⟨_, rfl⟩, hW, hsame.mono (by decide) (by decide)⟩
          · show Steps p.tables e below (T7.setTop (mkF m 41 #[.val (.ref a1), .val (.ref a2)] [(.int (lcmpW va wa))])) _
            refine XS.ifNo X7.here hx rfl (hb hby d6_41) rfl ((if0 _ _).trans (teq ((lw_eq _ _).mpr hc41)).2) ?_
            show Steps p.tables e below (T7.setTop (mkF m 44 #[.val (.ref a1), .val (.ref a2)] [])) _
            refine XS.iconst X7.here hx rfl (hb hby d6_44) ?_
            show Steps p.tables e below (T7.setTop (mkF m 45 #[.val (.ref a1), .val (.ref a2)] [(.int (1 : Int32))])) _
            refine XS.goto X7.here hx rfl (pc0 := 45) (pc' := 49) rfl (hb hby d6_45) (by decide) (by decide) ?_
            show Steps p.tables e below (T7.setTop (mkF m 49 #[.val (.ref a1), .val (.ref a2)] [(.int (1 : Int32))])) _
            exact retN X7 hx (t := .boolean) Bd.returns (by simp) (hb hby d6_49) hr
          · show Q6 Z a1 a2 va vs vx vy kk wa ws' wx wy h0 n0 _ T7.heap _
            rw [e7]
            exact ⟨_, rfl, (if_pos ⟨hc8, hc19, hc30, hc41⟩).symm, N0, rfl⟩
        · obtain ⟨fs, hr, hrun, hended, hW, hsame⟩ := X7.leave (v := some (.int (0 : Int32))) (fun h => by rw [Bd.returns] at h; cases h)
          refine ⟨_, _, ?_, hrun, hended, _, _, rfl, ?_, ⟨_, rfl⟩, hW, hsame.mono (by decide) (by decide)⟩
          · show Steps p.tables e below (T7.setTop (mkF m 41 #[.val (.ref a1), .val (.ref a2)] [(.int (lcmpW va wa))])) _
            refine XS.ifYes X7.here hx rfl (pc0 := 41) (pc' := 48) rfl (hb hby d6_41) rfl ((if0 _ _).trans (feq (fun z => hc41 ((lw_eq _ _).mp z))).2) (by decide) (by decide) ?_
            show Steps p.tables e below (T7.setTop (mkF m 48 #[.val (.ref a1), .val (.ref a2)] [])) _
            refine XS.iconst X7.here hx rfl (hb hby d6_48) ?_
            show Steps p.tables e below (T7.setTop (mkF m 49 #[.val (.ref a1), .val (.ref a2)] [(.int (0 : Int32))])) _
            exact retN X7 hx (t := .boolean) Bd.returns (by simp) (hb hby d6_49) hr
          · show Q6 Z a1 a2 va vs vx vy kk wa ws' wx wy h0 n0 _ T7.heap _
            rw [e7]
            exact ⟨_, rfl, (if_neg (fun z => hc41 z.2.2.2)).symm, N0, rfl⟩
      · obtain ⟨fs, hr, hrun, hended, hW, hsame⟩ := X5.leave (v := some (.int (0 : Int32))) (fun h => by rw [Bd.returns] at h; cases h)
        refine ⟨_, _, ?_, hrun, hended, _, _, rfl, ?_, ⟨_, rfl⟩, hW, hsame.mono (by decide) (by decide)⟩
        · show Steps p.tables e below (T5.setTop (mkF m 30 #[.val (.ref a1), .val (.ref a2)] [(.int (lcmpW vy wy))])) _
          refine XS.ifYes X5.here hx rfl (pc0 := 30) (pc' := 48) rfl (hb hby d6_30) rfl ((if0 _ _).trans (feq (fun z => hc30 ((lw_eq _ _).mp z))).2) (by decide) (by decide) ?_
          show Steps p.tables e below (T5.setTop (mkF m 48 #[.val (.ref a1), .val (.ref a2)] [])) _
          refine XS.iconst X5.here hx rfl (hb hby d6_48) ?_
          show Steps p.tables e below (T5.setTop (mkF m 49 #[.val (.ref a1), .val (.ref a2)] [(.int (0 : Int32))])) _
          exact retN X5 hx (t := .boolean) Bd.returns (by simp) (hb hby d6_49) hr
        · show Q6 Z a1 a2 va vs vx vy kk wa ws' wx wy h0 n0 _ T5.heap _
          rw [e5]
          exact ⟨_, rfl, (if_neg (fun z => hc30 z.2.2.1)).symm, N0, rfl⟩
    · obtain ⟨fs, hr, hrun, hended, hW, hsame⟩ := X3.leave (v := some (.int (0 : Int32))) (fun h => by rw [Bd.returns] at h; cases h)
      refine ⟨_, _, ?_, hrun, hended, _, _, rfl, ?_, ⟨_, rfl⟩, hW, hsame.mono (by decide) (by decide)⟩
      · show Steps p.tables e below (T3.setTop (mkF m 19 #[.val (.ref a1), .val (.ref a2)] [(.int (lcmpW vx wx))])) _
        refine XS.ifYes X3.here hx rfl (pc0 := 19) (pc' := 48) rfl (hb hby d6_19) rfl ((if0 _ _).trans (feq (fun z => hc19 ((lw_eq _ _).mp z))).2) (by decide) (by decide) ?_
        show Steps p.tables e below (T3.setTop (mkF m 48 #[.val (.ref a1), .val (.ref a2)] [])) _
        refine XS.iconst X3.here hx rfl (hb hby d6_48) ?_
        show Steps p.tables e below (T3.setTop (mkF m 49 #[.val (.ref a1), .val (.ref a2)] [(.int (0 : Int32))])) _
        exact retN X3 hx (t := .boolean) Bd.returns (by simp) (hb hby d6_49) hr
      · show Q6 Z a1 a2 va vs vx vy kk wa ws' wx wy h0 n0 _ T3.heap _
        rw [e3]
        exact ⟨_, rfl, (if_neg (fun z => hc19 z.2.1)).symm, N0, rfl⟩
  · obtain ⟨fs, hr, hrun, hended, hW, hsame⟩ := X1.leave (v := some (.int (0 : Int32))) (fun h => by rw [Bd.returns] at h; cases h)
    refine ⟨_, _, ?_, hrun, hended, _, _, rfl, ?_, ⟨_, rfl⟩, hW, hsame.mono (by decide) (by decide)⟩
    · show Steps p.tables e below (T1.setTop (mkF m 8 #[.val (.ref a1), .val (.ref a2)] [(.int (lcmpW vs ws'))])) _
      refine XS.ifYes X1.here hx rfl (pc0 := 8) (pc' := 48) rfl (hb hby d6_8) rfl ((if0 _ _).trans (feq (fun z => hc8 ((lw_eq _ _).mp z))).2) (by decide) (by decide) ?_
      show Steps p.tables e below (T1.setTop (mkF m 48 #[.val (.ref a1), .val (.ref a2)] [])) _
      refine XS.iconst X1.here hx rfl (hb hby d6_48) ?_
      show Steps p.tables e below (T1.setTop (mkF m 49 #[.val (.ref a1), .val (.ref a2)] [(.int (0 : Int32))])) _
      exact retN X1 hx (t := .boolean) Bd.returns (by simp) (hb hby d6_49) hr
    · show Q6 Z a1 a2 va vs vx vy kk wa ws' wx wy h0 n0 _ T1.heap _
      rw [e1]
      exact ⟨_, rfl, (if_neg (fun z => hc8 z.1)).symm, N0, rfl⟩
theorem d8_0 : decode prog_21_method_2_code 0 = .ok (.aload_n 0, 1) := by decide +kernel
theorem d8_1 : decode prog_21_method_2_code 1 = .ok (.invokespecial 1, 3) := by decide +kernel
theorem d8_4 : decode prog_21_method_2_code 4 = .ok (.aload_n 0, 1) := by decide +kernel
theorem d8_5 : decode prog_21_method_2_code 5 = .ok (.aload_n 1, 1) := by decide +kernel
theorem d8_6 : decode prog_21_method_2_code 6 = .ok (.iconst 0, 1) := by decide +kernel
theorem d8_7 : decode prog_21_method_2_code 7 = .ok (.laload, 1) := by decide +kernel
theorem d8_8 : decode prog_21_method_2_code 8 = .ok (.putfield 15, 3) := by decide +kernel
theorem d8_11 : decode prog_21_method_2_code 11 = .ok (.aload_n 0, 1) := by decide +kernel
theorem d8_12 : decode prog_21_method_2_code 12 = .ok (.aload_n 1, 1) := by decide +kernel
theorem d8_13 : decode prog_21_method_2_code 13 = .ok (.iconst 1, 1) := by decide +kernel
theorem d8_14 : decode prog_21_method_2_code 14 = .ok (.laload, 1) := by decide +kernel
theorem d8_15 : decode prog_21_method_2_code 15 = .ok (.putfield 19, 3) := by decide +kernel
theorem d8_18 : decode prog_21_method_2_code 18 = .ok (.aload_n 0, 1) := by decide +kernel
theorem d8_19 : decode prog_21_method_2_code 19 = .ok (.aload_n 1, 1) := by decide +kernel
theorem d8_20 : decode prog_21_method_2_code 20 = .ok (.iconst 2, 1) := by decide +kernel
theorem d8_21 : decode prog_21_method_2_code 21 = .ok (.laload, 1) := by decide +kernel
theorem d8_22 : decode prog_21_method_2_code 22 = .ok (.putfield 25, 3) := by decide +kernel
theorem d8_25 : decode prog_21_method_2_code 25 = .ok (.aload_n 0, 1) := by decide +kernel
theorem d8_26 : decode prog_21_method_2_code 26 = .ok (.aload_n 1, 1) := by decide +kernel
theorem d8_27 : decode prog_21_method_2_code 27 = .ok (.iconst 3, 1) := by decide +kernel
theorem d8_28 : decode prog_21_method_2_code 28 = .ok (.laload, 1) := by decide +kernel
theorem d8_29 : decode prog_21_method_2_code 29 = .ok (.putfield 30, 3) := by decide +kernel
theorem d8_32 : decode prog_21_method_2_code 32 = .ok (.return_, 1) := by decide +kernel
theorem pn_8 : plainName "com/example/driftline/driftline/model/LxmRandom" = true := by first | (simp [plainName, overriddenIn]; done) | decide +kernel
theorem ef_8 (m : MethodId) (x0 : Addr) (x1 : Addr) : entryFrame m #[(.ref x0), (.ref x1)] 2 = mkF m 0 #[.val (.ref x0), .val (.ref x1)] [] := by first | (simp [entryFrame, mkF, argsToLocals, Value.category]; done) | rfl
def Q8 (Z : State) (a1 : Addr) (a2 : Addr) (u0 : Value) (u1 : Value) (u2 : Value) (u3 : Value) (kk : ClassId) (wa : Int64) (ws' : Int64) (wx : Int64) (wy : Int64) (h0 : Heap) (n0 : Nat) (v : Option Value) (h : Heap) (L : List Loc) : Prop := v = none ∧ Fr n0 L ∧ Keep h0 h [a1] ∧ Exa Z h a1 "com/example/driftline/driftline/model/LxmRandom" ∧ Fld Z h a1 "com/example/driftline/driftline/model/LxmRandom" "a" "J" (.long wa) ∧ Fld Z h a1 "com/example/driftline/driftline/model/LxmRandom" "s" "J" (.long ws') ∧ Fld Z h a1 "com/example/driftline/driftline/model/LxmRandom" "x0" "J" (.long wx) ∧ Fld Z h a1 "com/example/driftline/driftline/model/LxmRandom" "x1" "J" (.long wy)
set_option maxRecDepth 65536 in
set_option maxHeartbeats 40000000 in
theorem rm8 (l : Launch) (Z : State) (a0 : Array Value) (hw : ∀ d ∈ tables_1, d.before a0 Z = true) (ws : List Jvm.Cond) (a1 : Addr) (a2 : Addr) (u0 : Value) (u1 : Value) (u2 : Value) (u3 : Value) (kk : ClassId) (wa : Int64) (ws' : Int64) (wx : Int64) (wy : Int64) (h0 : Heap) (n0 : Nat) (Z0 : n0 ≤ h0.size) (E_a1 : Exa Z h0 a1 "com/example/driftline/driftline/model/LxmRandom") (F_a1_a : Fld Z h0 a1 "com/example/driftline/driftline/model/LxmRandom" "a" "J" u0) (F_a1_s : Fld Z h0 a1 "com/example/driftline/driftline/model/LxmRandom" "s" "J" u1) (F_a1_x0 : Fld Z h0 a1 "com/example/driftline/driftline/model/LxmRandom" "x0" "J" u2) (F_a1_x1 : Fld Z h0 a1 "com/example/driftline/driftline/model/LxmRandom" "x1" "J" u3) (g_a1 : n0 ≤ a1) (V_a2 : Arv Z h0 a2 kk .long (4 : Int32) [(.long wa), (.long ws'), (.long wx), (.long wy)] (.long (0 : Int64))) (ne_a1_a2 : a1 ≠ a2) :
    MetFree l (⟨"com/example/driftline/driftline/model/LxmRandom", "<init>", "([J)V"⟩ : MethodName) (head1 (Jvm.Cond.code (⟨"com/example/driftline/driftline/model/LxmRandom", "<init>", "([J)V"⟩ : MethodName) prog_21_method_2_code 2 none :: ws) ({ frames := 1, cells := 0, slots := 0, locals := 12 } : Room)) (fun a U => a = #[(.ref a1), (.ref a2)] ∧ Z.Warmed39 U.vm ∧ U.heap = h0) (fun _ _ _ _ _ => True) (fun _ U o U' => ∃ v L, o = .returned v ∧ Q8 Z a1 a2 u0 u1 u2 u3 kk wa ws' wx wy h0 n0 v U'.heap L ∧ FrameEnd U o U' L ({ frames := 1, cells := 0, slots := 0, locals := 12 } : Room).cells ({ frames := 1, cells := 0, slots := 0, locals := 12 } : Room).slots) := by
  refine MetFree.of_bodySF (plainFor_of_name pn_8) hisR ?_
  intro p e s m args below meth c s₁ Bd hml0 hP hK
  obtain ⟨rfl, hZ, hh⟩ := hP
  have hx := Bd.exec
  have hby := Bd.bytes
  have hml : c.maxLocals = 2 := hml0
  have hown : s.vm.findClass "com/example/driftline/driftline/model/LxmRandom" = some m.cls := findClass_of_methodNamed Bd.named
  have hnm := (name_of_methodNamed Bd.named Bd.method).1
  have X0 : Stand p l e ({ frames := 1, cells := 0, slots := 0, locals := 12 } : Room) s m #[(.ref a1), (.ref a2)] below meth c s₁ [] 0 0 := Stand.of_body Bd
  have e0 : s₁.heap = h0 := by rw [← hh, Bd.state]; rfl
  have N0 := Fr.nil n0
  have K0 : Keep h0 h0 [a1] := Keep.refl _ _
  have pre0 : ∀ t, Steps p.tables e below (s₁.setTop (mkF m 0 #[.val (.ref a1), .val (.ref a2)] [])) t → Steps p.tables e below (s₁.setTop (entryFrame m #[(.ref a1), (.ref a2)] 2)) t := fun t k => castTop (ef_8 m a1 a2) k
  refine own_go (S' := fun t => Steps p.tables e below (s₁.setTop (mkF m 0 #[.val (.ref a1), .val (.ref a2)] [])) t) pre0 ?_
  obtain ⟨T1, X1, e1, st1⟩ := initO X0 hx hZ hown (hw _ (List.mem_of_getElem? (i := 6) rfl)) (hw _ (List.mem_of_getElem? (i := 7) rfl)) (hw _ (List.mem_of_getElem? (i := 8) rfl)) e0 (g := (mkF m 1 #[.val (.ref a1), .val (.ref a2)] [(.ref a1)])) rfl (by rw [hml]; rfl) rfl (hb hby d8_1) (by decide) (W := 0) (by show 2 * 0 + _ ≤ _; exact Nat.le_of_eq rfl) (by decide)
  have V_tmp := V_a2
  obtain ⟨cl2, Ar2, aq2, S2, n2, H2, G2⟩ := V_tmp
  have hin2 : ¬ ((0 : Int32) < 0 ∨ cl2.slots.size ≤ ((0 : Int32)).toNatClampNeg) := inb_of S2 ⟨by decide, by decide⟩
  have hat2 : cl2.slots[((0 : Int32)).toNatClampNeg]? = some (.long wa) := Has.at H2 hin2 rfl
  obtain ⟨T3, h3, X3, e3, W3, st3⟩ := putF X1 hx hZ hown (host := "") (Or.inl (hw _ (List.mem_of_getElem? (i := 15) rfl))) Via.refl e1 F_a1_a E_a1 (Or.inr ⟨(hw _ (List.mem_of_getElem? (i := 16) rfl)), rfl, hnm⟩) (hw _ (List.mem_of_getElem? (i := 1) rfl)) (ty := .long) (by decide) rfl rfl (g := (mkF m 8 #[.val (.ref a1), .val (.ref a2)] [(.long wa), (.ref a1)])) rfl rfl (hb hby d8_8)
  have F_a1_a := F_a1_a.same W3
  have F_a1_s := F_a1_s.other W3 (Or.inr (slot_ne (Or.inl (hw _ (List.mem_of_getElem? (i := 18) rfl))) (Or.inr (hw _ (List.mem_of_getElem? (i := 16) rfl))) (by decide) (t := .long) (t' := .long) (by decide) (by decide)))
  have F_a1_x0 := F_a1_x0.other W3 (Or.inr (slot_ne (Or.inl (hw _ (List.mem_of_getElem? (i := 25) rfl))) (Or.inr (hw _ (List.mem_of_getElem? (i := 16) rfl))) (by decide) (t := .long) (t' := .long) (by decide) (by decide)))
  have F_a1_x1 := F_a1_x1.other W3 (Or.inr (slot_ne (Or.inl (hw _ (List.mem_of_getElem? (i := 28) rfl))) (Or.inr (hw _ (List.mem_of_getElem? (i := 16) rfl))) (by decide) (t := .long) (t' := .long) (by decide) (by decide)))
  have E_a1 := E_a1.wr W3
  have V_a2 := V_a2.other W3 (Ne.symm ne_a1_a2)
  have Z0 : n0 ≤ h3.size := by rw [W3.size]; exact Z0
  have K0 := K0.wr W3 (Or.inl (List.mem_of_getElem? (i := 0) rfl))
  have N3 := Fr.snoc X3 N0 g_a1
  have V_tmp := V_a2
  obtain ⟨cl4, Ar4, aq4, S4, n4, H4, G4⟩ := V_tmp
  have hin4 : ¬ ((1 : Int32) < 0 ∨ cl4.slots.size ≤ ((1 : Int32)).toNatClampNeg) := inb_of S4 ⟨by decide, by decide⟩
  have hat4 : cl4.slots[((1 : Int32)).toNatClampNeg]? = some (.long ws') := Has.at H4 hin4 rfl
  obtain ⟨T5, h5, X5, e5, W5, st5⟩ := putF X3 hx hZ hown (host := "") (Or.inl (hw _ (List.mem_of_getElem? (i := 17) rfl))) Via.refl e3 F_a1_s E_a1 (Or.inl (hw _ (List.mem_of_getElem? (i := 18) rfl))) (hw _ (List.mem_of_getElem? (i := 1) rfl)) (ty := .long) (by decide) rfl rfl (g := (mkF m 15 #[.val (.ref a1), .val (.ref a2)] [(.long ws'), (.ref a1)])) rfl rfl (hb hby d8_15)
  have F_a1_a := F_a1_a.other W5 (Or.inr (slot_ne (Or.inr (hw _ (List.mem_of_getElem? (i := 16) rfl))) (Or.inl (hw _ (List.mem_of_getElem? (i := 18) rfl))) (by decide) (t := .long) (t' := .long) (by decide) (by decide)))
  have F_a1_s := F_a1_s.same W5
  have F_a1_x0 := F_a1_x0.other W5 (Or.inr (slot_ne (Or.inl (hw _ (List.mem_of_getElem? (i := 25) rfl))) (Or.inl (hw _ (List.mem_of_getElem? (i := 18) rfl))) (by decide) (t := .long) (t' := .long) (by decide) (by decide)))
  have F_a1_x1 := F_a1_x1.other W5 (Or.inr (slot_ne (Or.inl (hw _ (List.mem_of_getElem? (i := 28) rfl))) (Or.inl (hw _ (List.mem_of_getElem? (i := 18) rfl))) (by decide) (t := .long) (t' := .long) (by decide) (by decide)))
  have E_a1 := E_a1.wr W5
  have V_a2 := V_a2.other W5 (Ne.symm ne_a1_a2)
  have Z0 : n0 ≤ h5.size := by rw [W5.size]; exact Z0
  have K0 := K0.wr W5 (Or.inl (List.mem_of_getElem? (i := 0) rfl))
  have N5 := Fr.snoc X5 N3 g_a1
  have V_tmp := V_a2
  obtain ⟨cl6, Ar6, aq6, S6, n6, H6, G6⟩ := V_tmp
  have hin6 : ¬ ((2 : Int32) < 0 ∨ cl6.slots.size ≤ ((2 : Int32)).toNatClampNeg) := inb_of S6 ⟨by decide, by decide⟩
  have hat6 : cl6.slots[((2 : Int32)).toNatClampNeg]? = some (.long wx) := Has.at H6 hin6 rfl
  obtain ⟨T7, h7, X7, e7, W7, st7⟩ := putF X5 hx hZ hown (host := "") (Or.inl (hw _ (List.mem_of_getElem? (i := 24) rfl))) Via.refl e5 F_a1_x0 E_a1 (Or.inl (hw _ (List.mem_of_getElem? (i := 25) rfl))) (hw _ (List.mem_of_getElem? (i := 1) rfl)) (ty := .long) (by decide) rfl rfl (g := (mkF m 22 #[.val (.ref a1), .val (.ref a2)] [(.long wx), (.ref a1)])) rfl rfl (hb hby d8_22)
  have F_a1_a := F_a1_a.other W7 (Or.inr (slot_ne (Or.inr (hw _ (List.mem_of_getElem? (i := 16) rfl))) (Or.inl (hw _ (List.mem_of_getElem? (i := 25) rfl))) (by decide) (t := .long) (t' := .long) (by decide) (by decide)))
  have F_a1_s := F_a1_s.other W7 (Or.inr (slot_ne (Or.inl (hw _ (List.mem_of_getElem? (i := 18) rfl))) (Or.inl (hw _ (List.mem_of_getElem? (i := 25) rfl))) (by decide) (t := .long) (t' := .long) (by decide) (by decide)))
  have F_a1_x0 := F_a1_x0.same W7
  have F_a1_x1 := F_a1_x1.other W7 (Or.inr (slot_ne (Or.inl (hw _ (List.mem_of_getElem? (i := 28) rfl))) (Or.inl (hw _ (List.mem_of_getElem? (i := 25) rfl))) (by decide) (t := .long) (t' := .long) (by decide) (by decide)))
  have E_a1 := E_a1.wr W7
  have V_a2 := V_a2.other W7 (Ne.symm ne_a1_a2)
  have Z0 : n0 ≤ h7.size := by rw [W7.size]; exact Z0
  have K0 := K0.wr W7 (Or.inl (List.mem_of_getElem? (i := 0) rfl))
  have N7 := Fr.snoc X7 N5 g_a1
  have V_tmp := V_a2
  obtain ⟨cl8, Ar8, aq8, S8, n8, H8, G8⟩ := V_tmp
  have hin8 : ¬ ((3 : Int32) < 0 ∨ cl8.slots.size ≤ ((3 : Int32)).toNatClampNeg) := inb_of S8 ⟨by decide, by decide⟩
  have hat8 : cl8.slots[((3 : Int32)).toNatClampNeg]? = some (.long wy) := Has.at H8 hin8 rfl
  obtain ⟨T9, h9, X9, e9, W9, st9⟩ := putF X7 hx hZ hown (host := "") (Or.inl (hw _ (List.mem_of_getElem? (i := 27) rfl))) Via.refl e7 F_a1_x1 E_a1 (Or.inl (hw _ (List.mem_of_getElem? (i := 28) rfl))) (hw _ (List.mem_of_getElem? (i := 1) rfl)) (ty := .long) (by decide) rfl rfl (g := (mkF m 29 #[.val (.ref a1), .val (.ref a2)] [(.long wy), (.ref a1)])) rfl rfl (hb hby d8_29)
  have F_a1_a := F_a1_a.other W9 (Or.inr (slot_ne (Or.inr (hw _ (List.mem_of_getElem? (i := 16) rfl))) (Or.inl (hw _ (List.mem_of_getElem? (i := 28) rfl))) (by decide) (t := .long) (t' := .long) (by decide) (by decide)))
  have F_a1_s := F_a1_s.other W9 (Or.inr (slot_ne (Or.inl (hw _ (List.mem_of_getElem? (i := 18) rfl))) (Or.inl (hw _ (List.mem_of_getElem? (i := 28) rfl))) (by decide) (t := .long) (t' := .long) (by decide) (by decide)))
  have F_a1_x0 := F_a1_x0.other W9 (Or.inr (slot_ne (Or.inl (hw _ (List.mem_of_getElem? (i := 25) rfl))) (Or.inl (hw _ (List.mem_of_getElem? (i := 28) rfl))) (by decide) (t := .long) (t' := .long) (by decide) (by decide)))
  have F_a1_x1 := F_a1_x1.same W9
  have E_a1 := E_a1.wr W9
  have V_a2 := V_a2.other W9 (Ne.symm ne_a1_a2)
  have Z0 : n0 ≤ h9.size := by rw [W9.size]; exact Z0
  have K0 := K0.wr W9 (Or.inl (List.mem_of_getElem? (i := 0) rfl))
  have N9 := Fr.snoc X9 N7 g_a1
  obtain ⟨fs, hr, hrun, hended, hW, hsame⟩ := X9.leave (v := none) (fun _ => rfl)
  refine ⟨_, _, ?_, hrun, hended, _, _, rfl, ?_, ⟨_, rfl⟩, hW, hsame.mono (by decide) (by decide)⟩
  · show Steps p.tables e below (s₁.setTop (mkF m 0 #[.val (.ref a1), .val (.ref a2)] [])) _
    refine XS.aloadN X0.here hx rfl (hb hby d8_0) rfl rfl ?_
    show Steps p.tables e below (s₁.setTop (mkF m 1 #[.val (.ref a1), .val (.ref a2)] [(.ref a1)])) _
    refine st1 _ ?_
    show Steps p.tables e below (T1.setTop (mkF m 4 #[.val (.ref a1), .val (.ref a2)] [])) _
    refine XS.aloadN X1.here hx rfl (hb hby d8_4) rfl rfl ?_
    show Steps p.tables e below (T1.setTop (mkF m 5 #[.val (.ref a1), .val (.ref a2)] [(.ref a1)])) _
    refine XS.aloadN X1.here hx rfl (hb hby d8_5) rfl rfl ?_
    show Steps p.tables e below (T1.setTop (mkF m 6 #[.val (.ref a1), .val (.ref a2)] [(.ref a2), (.ref a1)])) _
    refine XS.iconst X1.here hx rfl (hb hby d8_6) ?_
    show Steps p.tables e below (T1.setTop (mkF m 7 #[.val (.ref a1), .val (.ref a2)] [(.int (0 : Int32)), (.ref a2), (.ref a1)])) _
    refine X1.laload hx (j := (0 : Int32)) (v := (.long wa)) (by rw [e1]; exact Ar2.1) (State.isArrayOf_alike hZ.alike Ar2.2.1) Ar2.2.2 hin2 hat2 (g := (mkF m 7 #[.val (.ref a1), .val (.ref a2)] [(.int (0 : Int32)), (.ref a2), (.ref a1)])) rfl rfl (hb hby d8_7) _ ?_
    show Steps p.tables e below (T1.setTop (mkF m 8 #[.val (.ref a1), .val (.ref a2)] [(.long wa), (.ref a1)])) _
    refine st3 _ ?_
    show Steps p.tables e below (T3.setTop (mkF m 11 #[.val (.ref a1), .val (.ref a2)] [])) _
    refine XS.aloadN X3.here hx rfl (hb hby d8_11) rfl rfl ?_
    show Steps p.tables e below (T3.setTop (mkF m 12 #[.val (.ref a1), .val (.ref a2)] [(.ref a1)])) _
    refine XS.aloadN X3.here hx rfl (hb hby d8_12) rfl rfl ?_
    show Steps p.tables e below (T3.setTop (mkF m 13 #[.val (.ref a1), .val (.ref a2)] [(.ref a2), (.ref a1)])) _
    refine XS.iconst X3.here hx rfl (hb hby d8_13) ?_
    show Steps p.tables e below (T3.setTop (mkF m 14 #[.val (.ref a1), .val (.ref a2)] [(.int (1 : Int32)), (.ref a2), (.ref a1)])) _
    refine X3.laload hx (j := (1 : Int32)) (v := (.long ws')) (by rw [e3]; exact Ar4.1) (State.isArrayOf_alike hZ.alike Ar4.2.1) Ar4.2.2 hin4 hat4 (g := (mkF m 14 #[.val (.ref a1), .val (.ref a2)] [(.int (1 : Int32)), (.ref a2), (.ref a1)])) rfl rfl (hb hby d8_14) _ ?_
    show Steps p.tables e below (T3.setTop (mkF m 15 #[.val (.ref a1), .val (.ref a2)] [(.long ws'), (.ref a1)])) _
    refine st5 _ ?_
    show Steps p.tables e below (T5.setTop (mkF m 18 #[.val (.ref a1), .val (.ref a2)] [])) _
    refine XS.aloadN X5.here hx rfl (hb hby d8_18) rfl rfl ?_
    show Steps p.tables e below (T5.setTop (mkF m 19 #[.val (.ref a1), .val (.ref a2)] [(.ref a1)])) _
    refine XS.aloadN X5.here hx rfl (hb hby d8_19) rfl rfl ?_
    show Steps p.tables e below (T5.setTop (mkF m 20 #[.val (.ref a1), .val (.ref a2)] [(.ref a2), (.ref a1)])) _
    refine XS.iconst X5.here hx rfl (hb hby d8_20) ?_
    show Steps p.tables e below (T5.setTop (mkF m 21 #[.val (.ref a1), .val (.ref a2)] [(.int (2 : Int32)), (.ref a2), (.ref a1)])) _
    refine X5.laload hx (j := (2 : Int32)) (v := (.long wx)) (by rw [e5]; exact Ar6.1) (State.isArrayOf_alike hZ.alike Ar6.2.1) Ar6.2.2 hin6 hat6 (g := (mkF m 21 #[.val (.ref a1), .val (.ref a2)] [(.int (2 : Int32)), (.ref a2), (.ref a1)])) rfl rfl (hb hby d8_21) _ ?_
    show Steps p.tables e below (T5.setTop (mkF m 22 #[.val (.ref a1), .val (.ref a2)] [(.long wx), (.ref a1)])) _
    refine st7 _ ?_
    show Steps p.tables e below (T7.setTop (mkF m 25 #[.val (.ref a1), .val (.ref a2)] [])) _
    refine XS.aloadN X7.here hx rfl (hb hby d8_25) rfl rfl ?_
    show Steps p.tables e below (T7.setTop (mkF m 26 #[.val (.ref a1), .val (.ref a2)] [(.ref a1)])) _
    refine XS.aloadN X7.here hx rfl (hb hby d8_26) rfl rfl ?_
    show Steps p.tables e below (T7.setTop (mkF m 27 #[.val (.ref a1), .val (.ref a2)] [(.ref a2), (.ref a1)])) _
    refine XS.iconst X7.here hx rfl (hb hby d8_27) ?_
    show Steps p.tables e below (T7.setTop (mkF m 28 #[.val (.ref a1), .val (.ref a2)] [(.int (3 : Int32)), (.ref a2), (.ref a1)])) _
    refine X7.laload hx (j := (3 : Int32)) (v := (.long wy)) (by rw [e7]; exact Ar8.1) (State.isArrayOf_alike hZ.alike Ar8.2.1) Ar8.2.2 hin8 hat8 (g := (mkF m 28 #[.val (.ref a1), .val (.ref a2)] [(.int (3 : Int32)), (.ref a2), (.ref a1)])) rfl rfl (hb hby d8_28) _ ?_
    show Steps p.tables e below (T7.setTop (mkF m 29 #[.val (.ref a1), .val (.ref a2)] [(.long wy), (.ref a1)])) _
    refine st9 _ ?_
    show Steps p.tables e below (T9.setTop (mkF m 32 #[.val (.ref a1), .val (.ref a2)] [])) _
    exact X9.returnOut hx Bd.returns (hb hby d8_32) hr
  · show Q8 Z a1 a2 u0 u1 u2 u3 kk wa ws' wx wy h0 n0 _ T9.heap _
    rw [e9]
    exact ⟨rfl, N9, K0, E_a1, F_a1_a, F_a1_s, F_a1_x0, F_a1_x1⟩
theorem pd_2 : parseMethodDescriptor "([J)V" = some ⟨[(.array .long)], none⟩ := by decide +kernel
theorem d7_0 : decode prog_21_method_3_code 0 = .ok (.aload_n 0, 1) := by decide +kernel
theorem d7_1 : decode prog_21_method_3_code 1 = .ok (.arraylength, 1) := by decide +kernel
theorem d7_2 : decode prog_21_method_3_code 2 = .ok (.iconst 4, 1) := by decide +kernel
theorem d7_3 : decode prog_21_method_3_code 3 = .ok (.if_icmp .ne 25, 3) := by decide +kernel
theorem d7_6 : decode prog_21_method_3_code 6 = .ok (.aload_n 0, 1) := by decide +kernel
theorem d7_7 : decode prog_21_method_3_code 7 = .ok (.iconst 0, 1) := by decide +kernel
theorem d7_8 : decode prog_21_method_3_code 8 = .ok (.laload, 1) := by decide +kernel
theorem d7_9 : decode prog_21_method_3_code 9 = .ok (.lconst 1, 1) := by decide +kernel
theorem d7_10 : decode prog_21_method_3_code 10 = .ok (.land, 1) := by decide +kernel
theorem d7_11 : decode prog_21_method_3_code 11 = .ok (.lconst 0, 1) := by decide +kernel
theorem d7_12 : decode prog_21_method_3_code 12 = .ok (.lcmp, 1) := by decide +kernel
theorem d7_13 : decode prog_21_method_3_code 13 = .ok (.ifCond .eq 15, 3) := by decide +kernel
theorem d7_16 : decode prog_21_method_3_code 16 = .ok (.aload_n 0, 1) := by decide +kernel
theorem d7_17 : decode prog_21_method_3_code 17 = .ok (.iconst 2, 1) := by decide +kernel
theorem d7_18 : decode prog_21_method_3_code 18 = .ok (.laload, 1) := by decide +kernel
theorem d7_19 : decode prog_21_method_3_code 19 = .ok (.aload_n 0, 1) := by decide +kernel
theorem d7_20 : decode prog_21_method_3_code 20 = .ok (.iconst 3, 1) := by decide +kernel
theorem d7_21 : decode prog_21_method_3_code 21 = .ok (.laload, 1) := by decide +kernel
theorem d7_22 : decode prog_21_method_3_code 22 = .ok (.lor, 1) := by decide +kernel
theorem d7_23 : decode prog_21_method_3_code 23 = .ok (.lconst 0, 1) := by decide +kernel
theorem d7_24 : decode prog_21_method_3_code 24 = .ok (.lcmp, 1) := by decide +kernel
theorem d7_25 : decode prog_21_method_3_code 25 = .ok (.ifCond .ne 13, 3) := by decide +kernel
theorem d7_38 : decode prog_21_method_3_code 38 = .ok (.new 7, 3) := by decide +kernel
theorem d7_41 : decode prog_21_method_3_code 41 = .ok (.dup, 1) := by decide +kernel
theorem d7_42 : decode prog_21_method_3_code 42 = .ok (.aload_n 0, 1) := by decide +kernel
theorem d7_43 : decode prog_21_method_3_code 43 = .ok (.invokespecial 40, 3) := by decide +kernel
theorem d7_46 : decode prog_21_method_3_code 46 = .ok (.areturn, 1) := by decide +kernel
theorem pn_7 : plainName "com/example/driftline/driftline/model/LxmRandom" = true := by first | (simp [plainName, overriddenIn]; done) | decide +kernel
theorem ef_7 (m : MethodId) (x0 : Addr) : entryFrame m #[(.ref x0)] 1 = mkF m 0 #[.val (.ref x0)] [] := by first | (simp [entryFrame, mkF, argsToLocals, Value.category]; done) | rfl
def Q7 (Z : State) (a1 : Addr) (kk : ClassId) (wa : Int64) (ws' : Int64) (wx : Int64) (wy : Int64) (h0 : Heap) (n0 : Nat) (v : Option Value) (h : Heap) (L : List Loc) : Prop := ∃ r : Addr, v = some (.ref r) ∧ (True) ∧ h0.size ≤ r ∧ Fr n0 L ∧ Keep h0 h [] ∧ Exa Z h r "com/example/driftline/driftline/model/LxmRandom" ∧ Fld Z h r "com/example/driftline/driftline/model/LxmRandom" "a" "J" (.long wa) ∧ Fld Z h r "com/example/driftline/driftline/model/LxmRandom" "s" "J" (.long ws') ∧ Fld Z h r "com/example/driftline/driftline/model/LxmRandom" "x0" "J" (.long wx) ∧ Fld Z h r "com/example/driftline/driftline/model/LxmRandom" "x1" "J" (.long wy)
set_option maxRecDepth 65536 in
set_option maxHeartbeats 40000000 in
theorem rm7 (l : Launch) (Z : State) (a0 : Array Value) (hw : ∀ d ∈ tables_1, d.before a0 Z = true) (ws : List Jvm.Cond) (a1 : Addr) (kk : ClassId) (wa : Int64) (ws' : Int64) (wx : Int64) (wy : Int64) (h0 : Heap) (n0 : Nat) (Z0 : n0 ≤ h0.size) (V_a1 : Arv Z h0 a1 kk .long (4 : Int32) [(.long wa), (.long ws'), (.long wx), (.long wy)] (.long (0 : Int64))) (hc13 : ¬ (wa &&& (1 : Int64)) = (0 : Int64)) (hc25 : ¬ (wx ||| wy) = (0 : Int64)) :
    MetFree l (⟨"com/example/driftline/driftline/model/LxmRandom", "restore", "([J)Lcom/example/driftline/driftline/model/LxmRandom;"⟩ : MethodName) (head1 (Jvm.Cond.code (⟨"com/example/driftline/driftline/model/LxmRandom", "restore", "([J)Lcom/example/driftline/driftline/model/LxmRandom;"⟩ : MethodName) prog_21_method_3_code 1 (some (.object "com/example/driftline/driftline/model/LxmRandom")) :: ws) ({ frames := 2, cells := 1, slots := 4, locals := 26 } : Room)) (fun a U => a = #[(.ref a1)] ∧ Z.Warmed39 U.vm ∧ U.heap = h0) (fun _ _ _ _ _ => True) (fun _ U o U' => ∃ v L, o = .returned v ∧ Q7 Z a1 kk wa ws' wx wy h0 n0 v U'.heap L ∧ FrameEnd U o U' L ({ frames := 2, cells := 1, slots := 4, locals := 26 } : Room).cells ({ frames := 2, cells := 1, slots := 4, locals := 26 } : Room).slots) := by
  refine MetFree.of_bodySF (plainFor_of_name pn_7) hisR ?_
  intro p e s m args below meth c s₁ Bd hml0 hP hK
  obtain ⟨rfl, hZ, hh⟩ := hP
  have hx := Bd.exec
  have hby := Bd.bytes
  have hml : c.maxLocals = 1 := hml0
  have hown : s.vm.findClass "com/example/driftline/driftline/model/LxmRandom" = some m.cls := findClass_of_methodNamed Bd.named
  have hnm := (name_of_methodNamed Bd.named Bd.method).1
  have X0 : Stand p l e ({ frames := 2, cells := 1, slots := 4, locals := 26 } : Room) s m #[(.ref a1)] below meth c s₁ [] 0 0 := Stand.of_body Bd
  have e0 : s₁.heap = h0 := by rw [← hh, Bd.state]; rfl
  have N0 := Fr.nil n0
  have K0 : Keep h0 h0 [] := Keep.refl _ _
  have pre0 : ∀ t, Steps p.tables e below (s₁.setTop (mkF m 0 #[.val (.ref a1)] [])) t → Steps p.tables e below (s₁.setTop (entryFrame m #[(.ref a1)] 1)) t := fun t k => castTop (ef_7 m a1) k
  refine own_go (S' := fun t => Steps p.tables e below (s₁.setTop (mkF m 0 #[.val (.ref a1)] [])) t) pre0 ?_
  have V_tmp := V_a1
  obtain ⟨cl1, Ar1, aq1, S1, n1, H1, G1⟩ := V_tmp
  have hc3 : (4 : Int32) = (4 : Int32) := rfl
  have V_tmp := V_a1
  obtain ⟨cl2, Ar2, aq2, S2, n2, H2, G2⟩ := V_tmp
  have hin2 : ¬ ((0 : Int32) < 0 ∨ cl2.slots.size ≤ ((0 : Int32)).toNatClampNeg) := inb_of S2 ⟨by decide, by decide⟩
  have hat2 : cl2.slots[((0 : Int32)).toNatClampNeg]? = some (.long wa) := Has.at H2 hin2 rfl
  have V_tmp := V_a1
  obtain ⟨cl3, Ar3, aq3, S3, n3, H3, G3⟩ := V_tmp
  have hin3 : ¬ ((2 : Int32) < 0 ∨ cl3.slots.size ≤ ((2 : Int32)).toNatClampNeg) := inb_of S3 ⟨by decide, by decide⟩
  have hat3 : cl3.slots[((2 : Int32)).toNatClampNeg]? = some (.long wx) := Has.at H3 hin3 rfl
  have V_tmp := V_a1
  obtain ⟨cl4, Ar4, aq4, S4, n4, H4, G4⟩ := V_tmp
  have hin4 : ¬ ((3 : Int32) < 0 ∨ cl4.slots.size ≤ ((3 : Int32)).toNatClampNeg) := inb_of S4 ⟨by decide, by decide⟩
  have hat4 : cl4.slots[((3 : Int32)).toNatClampNeg]? = some (.long wy) := Has.at H4 hin4 rfl
  obtain ⟨T5, h5, X5, e5, E5, A5, D5, -, st5⟩ := newO X0 hx hZ hown (hw _ (List.mem_of_getElem? (i := 44) rfl)) (hw _ (List.mem_of_getElem? (i := 1) rfl)) (hw _ (List.mem_of_getElem? (i := 2) rfl)) e0 (g := (mkF m 38 #[.val (.ref a1)] [])) rfl (hb hby d7_38) (by decide) (by decide)
  obtain ⟨b5, g5⟩ : ∃ z, z = h0.size := ⟨_, rfl⟩
  rw [← g5] at A5 D5 st5
  have g_b5 : n0 ≤ b5 := Nat.le_trans Z0 (Nat.le_of_eq g5.symm)
  have sz_b5 : h0.size ≤ b5 := Nat.le_trans K0.1 (Nat.le_of_eq g5.symm)
  have ne_a1_b5 : a1 ≠ b5 := Nat.ne_of_lt (Nat.lt_of_lt_of_le V_a1.lt (Nat.le_of_eq g5.symm))
  have V_a1 := V_a1.ext E5
  have Z0 : n0 ≤ h5.size := Nat.le_trans Z0 E5.1
  have K0 := K0.ext E5
  have E_b5 := A5
  have F_b5_a : Fld Z h5 b5 "com/example/driftline/driftline/model/LxmRandom" "a" "J" (.long (0 : Int64)) := D5 (Or.inr (hw _ (List.mem_of_getElem? (i := 16) rfl))) (ty := .long) (by decide)
  have F_b5_s : Fld Z h5 b5 "com/example/driftline/driftline/model/LxmRandom" "s" "J" (.long (0 : Int64)) := D5 (Or.inl (hw _ (List.mem_of_getElem? (i := 18) rfl))) (ty := .long) (by decide)
  have F_b5_x0 : Fld Z h5 b5 "com/example/driftline/driftline/model/LxmRandom" "x0" "J" (.long (0 : Int64)) := D5 (Or.inl (hw _ (List.mem_of_getElem? (i := 25) rfl))) (ty := .long) (by decide)
  have F_b5_x1 : Fld Z h5 b5 "com/example/driftline/driftline/model/LxmRandom" "x1" "J" (.long (0 : Int64)) := D5 (Or.inl (hw _ (List.mem_of_getElem? (i := 28) rfl))) (ty := .long) (by decide)
  obtain ⟨_, _, ⟨T6, L6, k6, n6⟩, -, X6, ⟨Lc6, hQ6, l6, y6, z6⟩, st6⟩ := X5.specialBack hx (y := (⟨"com/example/driftline/driftline/model/LxmRandom", "<init>", "([J)V"⟩ : MethodName)) rfl hown (mvT hZ (hw _ (List.mem_of_getElem? (i := 45) rfl))) (mvT hZ (hw _ (List.mem_of_getElem? (i := 46) rfl))) (mvT hZ (hw _ (List.mem_of_getElem? (i := 47) rfl))) (by decide) (backOf (W := 1) (rm8 l Z a0 hw [] b5 a1 (.long (0 : Int64)) (.long (0 : Int64)) (.long (0 : Int64)) (.long (0 : Int64)) kk wa ws' wx wy h5 n0 Z0 E_b5 F_b5_a F_b5_s F_b5_x0 F_b5_x1 g_b5 V_a1 (Ne.symm ne_a1_b5)) hZ (hw _ (List.mem_of_getElem? (i := 47) rfl)) (hw _ (List.mem_of_getElem? (i := 2) rfl)) (by decide) (by decide)) (g := (mkF m 43 #[.val (.ref a1)] [(.ref a1), (.ref b5), (.ref b5)])) rfl (by rw [hml]; rfl) (Steps.refl _) (a := b5) (argsL := [(.ref a1)]) (rest := [(.ref b5)]) (lenOf pd_2 rfl) rfl (by show 2 * 0 + _ ≤ _; exact Nat.le_of_eq rfl) (hb hby d7_43) (fun _ _ => ⟨rfl, e5, (by decide : 1 + 0 ≤ _), (by decide : 4 + 0 ≤ _)⟩)
  dsimp only [Pt.U, Pt.locs, Pt.cells, Pt.slots] at X6 l6 y6 z6 st6 hQ6
  subst l6 y6 z6
  obtain ⟨rfl, N6q, K6, E_b5_new, F_b5_a_new, F_b5_s_new, F_b5_x0_new, F_b5_x1_new⟩ := hQ6
  have E_b5 := E_b5.keep K6
  have V_a1 := V_a1.keep K6 (ninS ne_a1_b5 nin0)
  have E_b5 := E_b5_new
  have F_b5_a := F_b5_a_new
  have F_b5_s := F_b5_s_new
  have F_b5_x0 := F_b5_x0_new
  have F_b5_x1 := F_b5_x1_new
  have Z0 : n0 ≤ T6.heap.size := Nat.le_trans Z0 K6.1
  have K0 := K0.trans K6 (allS (Or.inr sz_b5) all0)
  have N6 := Fr.app N0 N6q
  obtain ⟨fs, hr, hrun, hended, hW, hsame⟩ := X6.leave (v := some (.ref b5)) (fun h => by rw [Bd.returns] at h; cases h)
  refine ⟨_, _, ?_, hrun, hended, _, _, rfl, ?_, ⟨_, rfl⟩, hW, hsame.mono (by decide) (by decide)⟩
  · show Steps p.tables e below (s₁.setTop (mkF m 0 #[.val (.ref a1)] [])) _
    refine XS.aloadN X0.here hx rfl (hb hby d7_0) rfl rfl ?_
    show Steps p.tables e below (s₁.setTop (mkF m 1 #[.val (.ref a1)] [(.ref a1)])) _
    refine X0.arraylength hx (by rw [e0]; exact Ar1.1) (State.isArrayOf_alike hZ.alike Ar1.2.1) (g := (mkF m 1 #[.val (.ref a1)] [(.ref a1)])) rfl rfl (hb hby d7_1) _ ?_
    rw [len_of S1 n1]
    show Steps p.tables e below (s₁.setTop (mkF m 2 #[.val (.ref a1)] [(.int (4 : Int32))])) _
    refine XS.iconst X0.here hx rfl (hb hby d7_2) ?_
    show Steps p.tables e below (s₁.setTop (mkF m 3 #[.val (.ref a1)] [(.int (4 : Int32)), (.int (4 : Int32))])) _
    refine XS.icmpNo X0.here hx rfl (hb hby d7_3) rfl (teq hc3).2 ?_
    show Steps p.tables e below (s₁.setTop (mkF m 6 #[.val (.ref a1)] [])) _
    refine XS.aloadN X0.here hx rfl (hb hby d7_6) rfl rfl ?_
    show Steps p.tables e below (s₁.setTop (mkF m 7 #[.val (.ref a1)] [(.ref a1)])) _
    refine XS.iconst X0.here hx rfl (hb hby d7_7) ?_
    show Steps p.tables e below (s₁.setTop (mkF m 8 #[.val (.ref a1)] [(.int (0 : Int32)), (.ref a1)])) _
    refine X0.laload hx (j := (0 : Int32)) (v := (.long wa)) (by rw [e0]; exact Ar2.1) (State.isArrayOf_alike hZ.alike Ar2.2.1) Ar2.2.2 hin2 hat2 (g := (mkF m 8 #[.val (.ref a1)] [(.int (0 : Int32)), (.ref a1)])) rfl rfl (hb hby d7_8) _ ?_
    show Steps p.tables e below (s₁.setTop (mkF m 9 #[.val (.ref a1)] [(.long wa)])) _
    refine XS.lconst X0.here hx rfl (hb hby d7_9) ?_
    show Steps p.tables e below (s₁.setTop (mkF m 10 #[.val (.ref a1)] [(.long (1 : Int64)), (.long wa)])) _
    refine XS.land X0.here hx rfl (hb hby d7_10) rfl ?_
    show Steps p.tables e below (s₁.setTop (mkF m 11 #[.val (.ref a1)] [(.long (wa &&& (1 : Int64)))])) _
    refine XS.lconst X0.here hx rfl (hb hby d7_11) ?_
    show Steps p.tables e below (s₁.setTop (mkF m 12 #[.val (.ref a1)] [(.long (0 : Int64)), (.long (wa &&& (1 : Int64)))])) _
    refine XS.lcmp X0.here hx rfl (hb hby d7_12) rfl ?_
    show Steps p.tables e below (s₁.setTop (mkF m 13 #[.val (.ref a1)] [(.int (lcmpW (wa &&& (1 : Int64)) (0 : Int64)))])) _
    refine XS.ifNo X0.here hx rfl (hb hby d7_13) rfl ((if0 _ _).trans (feq (fun z => hc13 ((lw_eq _ _).mp z))).1) ?_
    show Steps p.tables e below (s₁.setTop (mkF m 16 #[.val (.ref a1)] [])) _
    refine XS.aloadN X0.here hx rfl (hb hby d7_16) rfl rfl ?_
    show Steps p.tables e below (s₁.setTop (mkF m 17 #[.val (.ref a1)] [(.ref a1)])) _
    refine XS.iconst X0.here hx rfl (hb hby d7_17) ?_
    show Steps p.tables e below (s₁.setTop (mkF m 18 #[.val (.ref a1)] [(.int (2 : Int32)), (.ref a1)])) _
    refine X0.laload hx (j := (2 : Int32)) (v := (.long wx)) (by rw [e0]; exact Ar3.1) (State.isArrayOf_alike hZ.alike Ar3.2.1) Ar3.2.2 hin3 hat3 (g := (mkF m 18 #[.val (.ref a1)] [(.int (2 : Int32)), (.ref a1)])) rfl rfl (hb hby d7_18) _ ?_
    show Steps p.tables e below (s₁.setTop (mkF m 19 #[.val (.ref a1)] [(.long wx)])) _
    refine XS.aloadN X0.here hx rfl (hb hby d7_19) rfl rfl ?_
    show Steps p.tables e below (s₁.setTop (mkF m 20 #[.val (.ref a1)] [(.ref a1), (.long wx)])) _
    refine XS.iconst X0.here hx rfl (hb hby d7_20) ?_
    show Steps p.tables e below (s₁.setTop (mkF m 21 #[.val (.ref a1)] [(.int (3 : Int32)), (.ref a1), (.long wx)])) _
    refine X0.laload hx (j := (3 : Int32)) (v := (.long wy)) (by rw [e0]; exact Ar4.1) (State.isArrayOf_alike hZ.alike Ar4.2.1) Ar4.2.2 hin4 hat4 (g := (mkF m 21 #[.val (.ref a1)] [(.int (3 : Int32)), (.ref a1), (.long wx)])) rfl rfl (hb hby d7_21) _ ?_
    show Steps p.tables e below (s₁.setTop (mkF m 22 #[.val (.ref a1)] [(.long wy), (.long wx)])) _
    refine XS.lor X0.here hx rfl (hb hby d7_22) rfl ?_
    show Steps p.tables e below (s₁.setTop (mkF m 23 #[.val (.ref a1)] [(.long (wx ||| wy))])) _
    refine XS.lconst X0.here hx rfl (hb hby d7_23) ?_
    show Steps p.tables e below (s₁.setTop (mkF m 24 #[.val (.ref a1)] [(.long (0 : Int64)), (.long (wx ||| wy))])) _
    refine XS.lcmp X0.here hx rfl (hb hby d7_24) rfl ?_
    show Steps p.tables e below (s₁.setTop (mkF m 25 #[.val (.ref a1)] [(.int (lcmpW (wx ||| wy) (0 : Int64)))])) _
    refine XS.ifYes X0.here hx rfl (pc0 := 25) (pc' := 38) rfl (hb hby d7_25) rfl ((if0 _ _).trans (feq (fun z => hc25 ((lw_eq _ _).mp z))).2) (by decide) (by decide) ?_
    show Steps p.tables e below (s₁.setTop (mkF m 38 #[.val (.ref a1)] [])) _
    refine st5 _ ?_
    show Steps p.tables e below (T5.setTop (mkF m 41 #[.val (.ref a1)] [(.ref b5)])) _
    refine XS.dup X5.here hx rfl (hb hby d7_41) rfl rfl ?_
    show Steps p.tables e below (T5.setTop (mkF m 42 #[.val (.ref a1)] [(.ref b5), (.ref b5)])) _
    refine XS.aloadN X5.here hx rfl (hb hby d7_42) rfl rfl ?_
    show Steps p.tables e below (T5.setTop (mkF m 43 #[.val (.ref a1)] [(.ref a1), (.ref b5), (.ref b5)])) _
    refine st6.trans ?_
    show Steps p.tables e below (T6.setTop (mkF m 46 #[.val (.ref a1)] [(.ref b5)])) _
    jvm_step X6.here [X6.here.top, hx, (hb hby d7_46), X6.method', Bd.returns, Value.isRef, FieldType.isReference]
    first | (intro acts; rw [hr _ acts rfl rfl rfl]) | rw [hr _ _ rfl rfl rfl]
    exact Steps.refl _
  · show Q7 Z a1 kk wa ws' wx wy h0 n0 _ T6.heap _
    exact ⟨_, rfl, trivial, sz_b5, N6, K0, E_b5, F_b5_a, F_b5_s, F_b5_x0, F_b5_x1⟩
theorem pd_3 : parseMethodDescriptor "(J)V" = some ⟨[.long], none⟩ := by decide +kernel
theorem pd_4 : parseMethodDescriptor "()[J" = some ⟨[], some (.array .long)⟩ := by decide +kernel
theorem pd_5 : parseMethodDescriptor "([J)Z" = some ⟨[(.array .long)], some .boolean⟩ := by decide +kernel
theorem pd_6 : parseMethodDescriptor "([J)Lcom/example/driftline/driftline/model/LxmRandom;" = some ⟨[(.array .long)], some (.object "com/example/driftline/driftline/model/LxmRandom")⟩ := by decide +kernel
theorem pd_7 : parseMethodDescriptor "()J" = some ⟨[], some .long⟩ := by decide +kernel
theorem pn_0 : plainName "com/example/driftline/driftline/model/LxmRandomStatePinLaw" = true := by first | (simp [plainName, overriddenIn]; done) | decide +kernel
theorem ef_0 (m : MethodId) (x0 : Int64) (x1 : Int32) : entryFrame m #[(.long x0), (.int x1)] maxLocals = mkF m 0 #[.val (.long x0), .second, .val (.int x1), .unset, .unset, .unset, .unset, .unset, .unset, .unset, .unset, .unset, .unset, .unset, .unset, .unset, .unset, .unset, .unset, .unset] [] := by first | (simp [entryFrame, mkF, argsToLocals, Value.category, maxLocals]; done) | rfl
def Q0 (Z : State) (q1 : Int64) (p2 : Int32) (h0 : Heap) (n0 : Nat) (v : Option Value) (h : Heap) (L : List Loc) : Prop := v = some (.int 1) ∧ Fr n0 L
set_option maxRecDepth 65536 in
set_option maxHeartbeats 40000000 in
theorem rm0 (l : Launch) (Z : State) (a0 : Array Value) (hw : ∀ d ∈ tables_1, d.before a0 Z = true) (ws : List Jvm.Cond) (q1 : Int64) (p2 : Int32) (h0 : Heap) (n0 : Nat) (Z0 : n0 ≤ h0.size) :
    MetFree l x (head1 (Jvm.Cond.code x code maxLocals ret :: ws) room_1) (fun a U => a = #[(.long q1), (.int p2)] ∧ Z.Warmed39 U.vm ∧ U.heap = h0) (fun _ _ _ _ _ => True) (fun _ U o U' => ∃ v L, o = .returned v ∧ Q0 Z q1 p2 h0 n0 v U'.heap L ∧ FrameEnd U o U' L room_1.cells room_1.slots) := by
  refine MetFree.of_bodySF (plainFor_of_name pn_0) hisR ?_
  intro p e s m args below meth c s₁ Bd hml0 hP hK
  obtain ⟨rfl, hZ, hh⟩ := hP
  have hx := Bd.exec
  have hby := Bd.bytes
  have hml : c.maxLocals = 20 := hml0
  have hown : s.vm.findClass "com/example/driftline/driftline/model/LxmRandomStatePinLaw" = some m.cls := findClass_of_methodNamed Bd.named
  have hnm := (name_of_methodNamed Bd.named Bd.method).1
  have X0 : Stand p l e room_1 s m #[(.long q1), (.int p2)] below meth c s₁ [] 0 0 := Stand.of_body Bd
  have e0 : s₁.heap = h0 := by rw [← hh, Bd.state]; rfl
  have N0 := Fr.nil n0
  have K0 : Keep h0 h0 [] := Keep.refl _ _
  have pre0 : ∀ t, Steps p.tables e below (s₁.setTop (mkF m 0 #[.val (.long q1), .second, .val (.int p2), .unset, .unset, .unset, .unset, .unset, .unset, .unset, .unset, .unset, .unset, .unset, .unset, .unset, .unset, .unset, .unset, .unset] [])) t → Steps p.tables e below (s₁.setTop (entryFrame m #[(.long q1), (.int p2)] maxLocals)) t := fun t k => castTop (ef_0 m q1 p2) k
  refine own_go (S' := fun t => Steps p.tables e below (s₁.setTop (mkF m 0 #[.val (.long q1), .second, .val (.int p2), .unset, .unset, .unset, .unset, .unset, .unset, .unset, .unset, .unset, .unset, .unset, .unset, .unset, .unset, .unset, .unset, .unset] [])) t) pre0 ?_
  obtain ⟨T1, h1, X1, e1, E1, A1, D1, -, st1⟩ := newO X0 hx hZ hown (hw _ (List.mem_of_getElem? (i := 0) rfl)) (hw _ (List.mem_of_getElem? (i := 1) rfl)) (hw _ (List.mem_of_getElem? (i := 2) rfl)) e0 (g := (mkF m 0 #[.val (.long q1), .second, .val (.int p2), .unset, .unset, .unset, .unset, .unset, .unset, .unset, .unset, .unset, .unset, .unset, .unset, .unset, .unset, .unset, .unset, .unset] [])) rfl (hb hby at_0) (by decide) (by decide)
  obtain ⟨b1, g1⟩ : ∃ z, z = h0.size := ⟨_, rfl⟩
  rw [← g1] at A1 D1 st1
  have g_b1 : n0 ≤ b1 := Nat.le_trans Z0 (Nat.le_of_eq g1.symm)
  have sz_b1 : h0.size ≤ b1 := Nat.le_trans K0.1 (Nat.le_of_eq g1.symm)
  have Z0 : n0 ≤ h1.size := Nat.le_trans Z0 E1.1
  have K0 := K0.ext E1
  have E_b1 := A1
  have F_b1_a : Fld Z h1 b1 "com/example/driftline/driftline/model/LxmRandom" "a" "J" (.long (0 : Int64)) := D1 (Or.inr (hw _ (List.mem_of_getElem? (i := 16) rfl))) (ty := .long) (by decide)
  have F_b1_s : Fld Z h1 b1 "com/example/driftline/driftline/model/LxmRandom" "s" "J" (.long (0 : Int64)) := D1 (Or.inl (hw _ (List.mem_of_getElem? (i := 18) rfl))) (ty := .long) (by decide)
  have F_b1_x0 : Fld Z h1 b1 "com/example/driftline/driftline/model/LxmRandom" "x0" "J" (.long (0 : Int64)) := D1 (Or.inl (hw _ (List.mem_of_getElem? (i := 25) rfl))) (ty := .long) (by decide)
  have F_b1_x1 : Fld Z h1 b1 "com/example/driftline/driftline/model/LxmRandom" "x1" "J" (.long (0 : Int64)) := D1 (Or.inl (hw _ (List.mem_of_getElem? (i := 28) rfl))) (ty := .long) (by decide)
  obtain ⟨_, _, ⟨T2, L2, k2, n2⟩, -, X2, ⟨Lc2, hQ2, l2, y2, z2⟩, st2⟩ := X1.specialBack hx (y := (⟨"com/example/driftline/driftline/model/LxmRandom", "<init>", "(J)V"⟩ : MethodName)) rfl hown (mvT hZ (hw _ (List.mem_of_getElem? (i := 3) rfl))) (mvT hZ (hw _ (List.mem_of_getElem? (i := 4) rfl))) (mvT hZ (hw _ (List.mem_of_getElem? (i := 5) rfl))) (by decide) (backOf (W := 1) (rm1 l Z a0 hw [] b1 q1 (.long (0 : Int64)) (.long (0 : Int64)) (.long (0 : Int64)) (.long (0 : Int64)) h1 n0 Z0 E_b1 F_b1_a F_b1_s F_b1_x0 F_b1_x1 g_b1) hZ (hw _ (List.mem_of_getElem? (i := 5) rfl)) (hw _ (List.mem_of_getElem? (i := 2) rfl)) (by decide) (by decide)) (g := (mkF m 5 #[.val (.long q1), .second, .val (.int p2), .unset, .unset, .unset, .unset, .unset, .unset, .unset, .unset, .unset, .unset, .unset, .unset, .unset, .unset, .unset, .unset, .unset] [(.long q1), (.ref b1), (.ref b1)])) rfl (by rw [hml]; rfl) (Steps.refl _) (a := b1) (argsL := [(.long q1)]) (rest := [(.ref b1)]) (lenOf pd_3 rfl) rfl (by show 2 * 0 + _ ≤ _; exact Nat.le_of_eq rfl) (hb hby at_5) (fun _ _ => ⟨rfl, e1, (by decide : 1 + 0 ≤ _), (by decide : 4 + 0 ≤ _)⟩)
  dsimp only [Pt.U, Pt.locs, Pt.cells, Pt.slots] at X2 l2 y2 z2 st2 hQ2
  subst l2 y2 z2
  obtain ⟨rfl, N2q, K2, E_b1_new, F_b1_a_new, F_b1_s_new, F_b1_x0_new, F_b1_x1_new⟩ := hQ2
  have E_b1 := E_b1.keep K2
  have E_b1 := E_b1_new
  have F_b1_a := F_b1_a_new
  have F_b1_s := F_b1_s_new
  have F_b1_x0 := F_b1_x0_new
  have F_b1_x1 := F_b1_x1_new
  have Z0 : n0 ≤ T2.heap.size := Nat.le_trans Z0 K2.1
  have K0 := K0.trans K2 (allS (Or.inr sz_b1) all0)
  have N2 := Fr.app N0 N2q
  obtain ⟨cq3, kq3, q3a, q3b, q3c⟩ := isOf hZ rfl E_b1
  obtain ⟨_, _, ⟨T3, L3, k3, n3⟩, -, X3, ⟨Lc3, hQ3, l3, y3, z3⟩, st3⟩ := X2.virtualBack hx (y := (⟨"com/example/driftline/driftline/model/LxmRandom", "state", "()[J"⟩ : MethodName)) (z := (⟨"com/example/driftline/driftline/model/LxmRandom", "state", "()[J"⟩ : MethodName)) hown (mvT hZ (hw _ (List.mem_of_getElem? (i := 29) rfl))) (mvT hZ (hw _ (List.mem_of_getElem? (i := 30) rfl))) (notFace_of_selects (args := #[]) (mvT hZ (hw _ (List.mem_of_getElem? (i := 32) rfl)))) (mvT hZ (hw _ (List.mem_of_getElem? (i := 32) rfl))) (mvT hZ (hw _ (List.mem_of_getElem? (i := 31) rfl))) (by decide) (backOf (W := 0) (rm5 l Z a0 hw [] b1 (own_ia q1) (1 : Int64) (own_ix q1) (own_iy q1) T2.heap n0 Z0 F_b1_a F_b1_s F_b1_x0 F_b1_x1) hZ (hw _ (List.mem_of_getElem? (i := 33) rfl)) (hw _ (List.mem_of_getElem? (i := 2) rfl)) (by decide) (by decide)) q3a q3c (g := (mkF m 10 #[.val (.long q1), .second, .val (.int p2), .val (.ref b1), .unset, .unset, .unset, .unset, .unset, .unset, .unset, .unset, .unset, .unset, .unset, .unset, .unset, .unset, .unset, .unset] [(.ref b1)])) rfl (by rw [hml]; rfl) (Steps.refl _) (argsL := []) (rest := []) (lenOf pd_4 rfl) rfl (by show 2 * 0 + _ ≤ _; exact Nat.le_of_eq rfl) (hb hby at_10) (fun _ _ => ⟨rfl, rfl, (by decide : 1 + 1 ≤ _), (by decide : 4 + 4 ≤ _)⟩)
  dsimp only [Pt.U, Pt.locs, Pt.cells, Pt.slots] at X3 l3 y3 z3 st3 hQ3
  subst l3 y3 z3
  have lt3_b1 : b1 < T2.heap.size := E_b1.lt
  obtain ⟨bs, kk_3, rfl, d_bs, sz3, N3q, K3, V_bs_new⟩ := hQ3
  have E_b1 := E_b1.keep K3
  have F_b1_a := F_b1_a.keep K3 nin0
  have F_b1_s := F_b1_s.keep K3 nin0
  have F_b1_x0 := F_b1_x0.keep K3 nin0
  have F_b1_x1 := F_b1_x1.keep K3 nin0
  have V_bs := V_bs_new
  have g_bs : n0 ≤ bs := Nat.le_trans Z0 sz3
  have sz_bs : h0.size ≤ bs := Nat.le_trans K0.1 sz3
  have ne_b1_bs : b1 ≠ bs := Nat.ne_of_lt (Nat.lt_of_lt_of_le lt3_b1 sz3)
  have Z0 : n0 ≤ T3.heap.size := Nat.le_trans Z0 K3.1
  have K0 := K0.trans K3 all0
  have N3 := Fr.app N2 N3q
  have V_tmp := V_bs
  obtain ⟨cl4, Ar4, aq4, S4, n4, H4, G4⟩ := V_tmp
  have hc19 : (4 : Int32) = (4 : Int32) := rfl
  have V_tmp := V_bs
  obtain ⟨cl5, Ar5, aq5, S5, n5, H5, G5⟩ := V_tmp
  have hin5 : ¬ ((0 : Int32) < 0 ∨ cl5.slots.size ≤ ((0 : Int32)).toNatClampNeg) := inb_of S5 ⟨by decide, by decide⟩
  have hat5 : cl5.slots[((0 : Int32)).toNatClampNeg]? = some (.long (own_ia q1)) := Has.at H5 hin5 rfl
  have hc32 : ¬ (((own_ia q1) &&& (1 : Int64)) = (0 : Int64)) := own_odd _
  have V_tmp := V_bs
  obtain ⟨cl6, Ar6, aq6, S6, n6, H6, G6⟩ := V_tmp
  have hin6 : ¬ ((1 : Int32) < 0 ∨ cl6.slots.size ≤ ((1 : Int32)).toNatClampNeg) := inb_of S6 ⟨by decide, by decide⟩
  have hat6 : cl6.slots[((1 : Int32)).toNatClampNeg]? = some (.long (1 : Int64)) := Has.at H6 hin6 rfl
  have hc43 : (1 : Int64) = (1 : Int64) := rfl
  refine own_go (S' := fun t => Steps p.tables e below (T3.setTop (mkF m 51 #[.val (.long q1), .second, .val (.int p2), .val (.ref b1), .val (.ref bs), .unset, .unset, .unset, .unset, .unset, .unset, .unset, .unset, .unset, .unset, .unset, .unset, .unset, .unset, .unset] [(.int (p2 &&& (1 : Int32)))])) t) (fun t k => ?_) ?_
  · show Steps p.tables e below (s₁.setTop (mkF m 0 #[.val (.long q1), .second, .val (.int p2), .unset, .unset, .unset, .unset, .unset, .unset, .unset, .unset, .unset, .unset, .unset, .unset, .unset, .unset, .unset, .unset, .unset] [])) _
    refine st1 _ ?_
    show Steps p.tables e below (T1.setTop (mkF m 3 #[.val (.long q1), .second, .val (.int p2), .unset, .unset, .unset, .unset, .unset, .unset, .unset, .unset, .unset, .unset, .unset, .unset, .unset, .unset, .unset, .unset, .unset] [(.ref b1)])) _
    refine XS.dup X1.here hx rfl (hb hby at_3) rfl rfl ?_
    show Steps p.tables e below (T1.setTop (mkF m 4 #[.val (.long q1), .second, .val (.int p2), .unset, .unset, .unset, .unset, .unset, .unset, .unset, .unset, .unset, .unset, .unset, .unset, .unset, .unset, .unset, .unset, .unset] [(.ref b1), (.ref b1)])) _
    refine XS.lloadN X1.here hx rfl (hb hby at_4) rfl ?_
    show Steps p.tables e below (T1.setTop (mkF m 5 #[.val (.long q1), .second, .val (.int p2), .unset, .unset, .unset, .unset, .unset, .unset, .unset, .unset, .unset, .unset, .unset, .unset, .unset, .unset, .unset, .unset, .unset] [(.long q1), (.ref b1), (.ref b1)])) _
    refine st2.trans ?_
    show Steps p.tables e below (T2.setTop (mkF m 8 #[.val (.long q1), .second, .val (.int p2), .unset, .unset, .unset, .unset, .unset, .unset, .unset, .unset, .unset, .unset, .unset, .unset, .unset, .unset, .unset, .unset, .unset] [(.ref b1)])) _
    refine XS.astoreN X2.here hx rfl (hb hby at_8) rfl rfl (l' := #[.val (.long q1), .second, .val (.int p2), .val (.ref b1), .unset, .unset, .unset, .unset, .unset, .unset, .unset, .unset, .unset, .unset, .unset, .unset, .unset, .unset, .unset, .unset]) rfl ?_
    show Steps p.tables e below (T2.setTop (mkF m 9 #[.val (.long q1), .second, .val (.int p2), .val (.ref b1), .unset, .unset, .unset, .unset, .unset, .unset, .unset, .unset, .unset, .unset, .unset, .unset, .unset, .unset, .unset, .unset] [])) _
    refine XS.aloadN X2.here hx rfl (hb hby at_9) rfl rfl ?_
    show Steps p.tables e below (T2.setTop (mkF m 10 #[.val (.long q1), .second, .val (.int p2), .val (.ref b1), .unset, .unset, .unset, .unset, .unset, .unset, .unset, .unset, .unset, .unset, .unset, .unset, .unset, .unset, .unset, .unset] [(.ref b1)])) _
    refine st3.trans ?_
    show Steps p.tables e below (T3.setTop (mkF m 13 #[.val (.long q1), .second, .val (.int p2), .val (.ref b1), .unset, .unset, .unset, .unset, .unset, .unset, .unset, .unset, .unset, .unset, .unset, .unset, .unset, .unset, .unset, .unset] [(.ref bs)])) _
    refine XS.astore X3.here hx rfl (hb hby at_13) rfl rfl (l' := #[.val (.long q1), .second, .val (.int p2), .val (.ref b1), .val (.ref bs), .unset, .unset, .unset, .unset, .unset, .unset, .unset, .unset, .unset, .unset, .unset, .unset, .unset, .unset, .unset]) rfl ?_
    show Steps p.tables e below (T3.setTop (mkF m 15 #[.val (.long q1), .second, .val (.int p2), .val (.ref b1), .val (.ref bs), .unset, .unset, .unset, .unset, .unset, .unset, .unset, .unset, .unset, .unset, .unset, .unset, .unset, .unset, .unset] [])) _
    refine XS.aload X3.here hx rfl (hb hby at_15) rfl rfl ?_
    show Steps p.tables e below (T3.setTop (mkF m 17 #[.val (.long q1), .second, .val (.int p2), .val (.ref b1), .val (.ref bs), .unset, .unset, .unset, .unset, .unset, .unset, .unset, .unset, .unset, .unset, .unset, .unset, .unset, .unset, .unset] [(.ref bs)])) _
    refine X3.arraylength hx Ar4.1 (State.isArrayOf_alike hZ.alike Ar4.2.1) (g := (mkF m 17 #[.val (.long q1), .second, .val (.int p2), .val (.ref b1), .val (.ref bs), .unset, .unset, .unset, .unset, .unset, .unset, .unset, .unset, .unset, .unset, .unset, .unset, .unset, .unset, .unset] [(.ref bs)])) rfl rfl (hb hby at_17) _ ?_
    rw [len_of S4 n4]
    show Steps p.tables e below (T3.setTop (mkF m 18 #[.val (.long q1), .second, .val (.int p2), .val (.ref b1), .val (.ref bs), .unset, .unset, .unset, .unset, .unset, .unset, .unset, .unset, .unset, .unset, .unset, .unset, .unset, .unset, .unset] [(.int (4 : Int32))])) _
    refine XS.iconst X3.here hx rfl (hb hby at_18) ?_
    show Steps p.tables e below (T3.setTop (mkF m 19 #[.val (.long q1), .second, .val (.int p2), .val (.ref b1), .val (.ref bs), .unset, .unset, .unset, .unset, .unset, .unset, .unset, .unset, .unset, .unset, .unset, .unset, .unset, .unset, .unset] [(.int (4 : Int32)), (.int (4 : Int32))])) _
    refine XS.icmpYes X3.here hx rfl (pc0 := 19) (pc' := 24) rfl (hb hby at_19) rfl (teq hc19).1 (by decide) (by decide) ?_
    show Steps p.tables e below (T3.setTop (mkF m 24 #[.val (.long q1), .second, .val (.int p2), .val (.ref b1), .val (.ref bs), .unset, .unset, .unset, .unset, .unset, .unset, .unset, .unset, .unset, .unset, .unset, .unset, .unset, .unset, .unset] [])) _
    refine XS.aload X3.here hx rfl (hb hby at_24) rfl rfl ?_
    show Steps p.tables e below (T3.setTop (mkF m 26 #[.val (.long q1), .second, .val (.int p2), .val (.ref b1), .val (.ref bs), .unset, .unset, .unset, .unset, .unset, .unset, .unset, .unset, .unset, .unset, .unset, .unset, .unset, .unset, .unset] [(.ref bs)])) _
    refine XS.iconst X3.here hx rfl (hb hby at_26) ?_
    show Steps p.tables e below (T3.setTop (mkF m 27 #[.val (.long q1), .second, .val (.int p2), .val (.ref b1), .val (.ref bs), .unset, .unset, .unset, .unset, .unset, .unset, .unset, .unset, .unset, .unset, .unset, .unset, .unset, .unset, .unset] [(.int (0 : Int32)), (.ref bs)])) _
    refine X3.laload hx (j := (0 : Int32)) (v := (.long (own_ia q1))) Ar5.1 (State.isArrayOf_alike hZ.alike Ar5.2.1) Ar5.2.2 hin5 hat5 (g := (mkF m 27 #[.val (.long q1), .second, .val (.int p2), .val (.ref b1), .val (.ref bs), .unset, .unset, .unset, .unset, .unset, .unset, .unset, .unset, .unset, .unset, .unset, .unset, .unset, .unset, .unset] [(.int (0 : Int32)), (.ref bs)])) rfl rfl (hb hby at_27) _ ?_
    show Steps p.tables e below (T3.setTop (mkF m 28 #[.val (.long q1), .second, .val (.int p2), .val (.ref b1), .val (.ref bs), .unset, .unset, .unset, .unset, .unset, .unset, .unset, .unset, .unset, .unset, .unset, .unset, .unset, .unset, .unset] [(.long (own_ia q1))])) _
    refine XS.lconst X3.here hx rfl (hb hby at_28) ?_
    show Steps p.tables e below (T3.setTop (mkF m 29 #[.val (.long q1), .second, .val (.int p2), .val (.ref b1), .val (.ref bs), .unset, .unset, .unset, .unset, .unset, .unset, .unset, .unset, .unset, .unset, .unset, .unset, .unset, .unset, .unset] [(.long (1 : Int64)), (.long (own_ia q1))])) _
    refine XS.land X3.here hx rfl (hb hby at_29) rfl ?_
    show Steps p.tables e below (T3.setTop (mkF m 30 #[.val (.long q1), .second, .val (.int p2), .val (.ref b1), .val (.ref bs), .unset, .unset, .unset, .unset, .unset, .unset, .unset, .unset, .unset, .unset, .unset, .unset, .unset, .unset, .unset] [(.long ((own_ia q1) &&& (1 : Int64)))])) _
    refine XS.lconst X3.here hx rfl (hb hby at_30) ?_
    show Steps p.tables e below (T3.setTop (mkF m 31 #[.val (.long q1), .second, .val (.int p2), .val (.ref b1), .val (.ref bs), .unset, .unset, .unset, .unset, .unset, .unset, .unset, .unset, .unset, .unset, .unset, .unset, .unset, .unset, .unset] [(.long (0 : Int64)), (.long ((own_ia q1) &&& (1 : Int64)))])) _
    refine XS.lcmp X3.here hx rfl (hb hby at_31) rfl ?_
    show Steps p.tables e below (T3.setTop (mkF m 32 #[.val (.long q1), .second, .val (.int p2), .val (.ref b1), .val (.ref bs), .unset, .unset, .unset, .unset, .unset, .unset, .unset, .unset, .unset, .unset, .unset, .unset, .unset, .unset, .unset] [(.int (lcmpW ((own_ia q1) &&& (1 : Int64)) (0 : Int64)))])) _
    refine XS.ifYes X3.here hx rfl (pc0 := 32) (pc' := 37) rfl (hb hby at_32) rfl ((if0 _ _).trans (feq (fun z => hc32 ((lw_eq _ _).mp z))).2) (by decide) (by decide) ?_
    show Steps p.tables e below (T3.setTop (mkF m 37 #[.val (.long q1), .second, .val (.int p2), .val (.ref b1), .val (.ref bs), .unset, .unset, .unset, .unset, .unset, .unset, .unset, .unset, .unset, .unset, .unset, .unset, .unset, .unset, .unset] [])) _
    refine XS.aload X3.here hx rfl (hb hby at_37) rfl rfl ?_
    show Steps p.tables e below (T3.setTop (mkF m 39 #[.val (.long q1), .second, .val (.int p2), .val (.ref b1), .val (.ref bs), .unset, .unset, .unset, .unset, .unset, .unset, .unset, .unset, .unset, .unset, .unset, .unset, .unset, .unset, .unset] [(.ref bs)])) _
    refine XS.iconst X3.here hx rfl (hb hby at_39) ?_
    show Steps p.tables e below (T3.setTop (mkF m 40 #[.val (.long q1), .second, .val (.int p2), .val (.ref b1), .val (.ref bs), .unset, .unset, .unset, .unset, .unset, .unset, .unset, .unset, .unset, .unset, .unset, .unset, .unset, .unset, .unset] [(.int (1 : Int32)), (.ref bs)])) _
    refine X3.laload hx (j := (1 : Int32)) (v := (.long (1 : Int64))) Ar6.1 (State.isArrayOf_alike hZ.alike Ar6.2.1) Ar6.2.2 hin6 hat6 (g := (mkF m 40 #[.val (.long q1), .second, .val (.int p2), .val (.ref b1), .val (.ref bs), .unset, .unset, .unset, .unset, .unset, .unset, .unset, .unset, .unset, .unset, .unset, .unset, .unset, .unset, .unset] [(.int (1 : Int32)), (.ref bs)])) rfl rfl (hb hby at_40) _ ?_
    show Steps p.tables e below (T3.setTop (mkF m 41 #[.val (.long q1), .second, .val (.int p2), .val (.ref b1), .val (.ref bs), .unset, .unset, .unset, .unset, .unset, .unset, .unset, .unset, .unset, .unset, .unset, .unset, .unset, .unset, .unset] [(.long (1 : Int64))])) _
    refine XS.lconst X3.here hx rfl (hb hby at_41) ?_
    show Steps p.tables e below (T3.setTop (mkF m 42 #[.val (.long q1), .second, .val (.int p2), .val (.ref b1), .val (.ref bs), .unset, .unset, .unset, .unset, .unset, .unset, .unset, .unset, .unset, .unset, .unset, .unset, .unset, .unset, .unset] [(.long (1 : Int64)), (.long (1 : Int64))])) _
    refine XS.lcmp X3.here hx rfl (hb hby at_42) rfl ?_
    show Steps p.tables e below (T3.setTop (mkF m 43 #[.val (.long q1), .second, .val (.int p2), .val (.ref b1), .val (.ref bs), .unset, .unset, .unset, .unset, .unset, .unset, .unset, .unset, .unset, .unset, .unset, .unset, .unset, .unset, .unset] [(.int (lcmpW (1 : Int64) (1 : Int64)))])) _
    refine XS.ifYes X3.here hx rfl (pc0 := 43) (pc' := 48) rfl (hb hby at_43) rfl ((if0 _ _).trans (teq ((lw_eq _ _).mpr hc43)).1) (by decide) (by decide) ?_
    show Steps p.tables e below (T3.setTop (mkF m 48 #[.val (.long q1), .second, .val (.int p2), .val (.ref b1), .val (.ref bs), .unset, .unset, .unset, .unset, .unset, .unset, .unset, .unset, .unset, .unset, .unset, .unset, .unset, .unset, .unset] [])) _
    refine XS.iloadN X3.here hx rfl (hb hby at_48) rfl ?_
    show Steps p.tables e below (T3.setTop (mkF m 49 #[.val (.long q1), .second, .val (.int p2), .val (.ref b1), .val (.ref bs), .unset, .unset, .unset, .unset, .unset, .unset, .unset, .unset, .unset, .unset, .unset, .unset, .unset, .unset, .unset] [(.int p2)])) _
    refine XS.iconst X3.here hx rfl (hb hby at_49) ?_
    show Steps p.tables e below (T3.setTop (mkF m 50 #[.val (.long q1), .second, .val (.int p2), .val (.ref b1), .val (.ref bs), .unset, .unset, .unset, .unset, .unset, .unset, .unset, .unset, .unset, .unset, .unset, .unset, .unset, .unset, .unset] [(.int (1 : Int32)), (.int p2)])) _
    refine XS.iand X3.here hx rfl (hb hby at_50) rfl ?_
    exact k
  by_cases hc51 : (p2 &&& (1 : Int32)) = (0 : Int32)
  · obtain ⟨fa, d_fa⟩ : ∃ z : Int64, z = (own_ia q1) := ⟨_, rfl⟩
    have F_b1_a : Fld Z T3.heap b1 "com/example/driftline/driftline/model/LxmRandom" "a" "J" (.long fa) := by rw [d_fa]; exact F_b1_a
    obtain ⟨fs', d_fs'⟩ : ∃ z : Int64, z = (1 : Int64) := ⟨_, rfl⟩
    have F_b1_s : Fld Z T3.heap b1 "com/example/driftline/driftline/model/LxmRandom" "s" "J" (.long fs') := by rw [d_fs']; exact F_b1_s
    obtain ⟨fx, d_fx⟩ : ∃ z : Int64, z = (own_ix q1) := ⟨_, rfl⟩
    have F_b1_x0 : Fld Z T3.heap b1 "com/example/driftline/driftline/model/LxmRandom" "x0" "J" (.long fx) := by rw [d_fx]; exact F_b1_x0
    obtain ⟨fy, d_fy⟩ : ∃ z : Int64, z = (own_iy q1) := ⟨_, rfl⟩
    have F_b1_x1 : Fld Z T3.heap b1 "com/example/driftline/driftline/model/LxmRandom" "x1" "J" (.long fy) := by rw [d_fy]; exact F_b1_x1
    obtain ⟨cq7, kq7, q7a, q7b, q7c⟩ := isOf hZ rfl E_b1
    obtain ⟨_, _, ⟨T7, L7, k7, n7⟩, -, X7, ⟨Lc7, hQ7, l7, y7, z7⟩, st7⟩ := X3.virtualBack hx (y := (⟨"com/example/driftline/driftline/model/LxmRandom", "state", "()[J"⟩ : MethodName)) (z := (⟨"com/example/driftline/driftline/model/LxmRandom", "state", "()[J"⟩ : MethodName)) hown (mvT hZ (hw _ (List.mem_of_getElem? (i := 29) rfl))) (mvT hZ (hw _ (List.mem_of_getElem? (i := 30) rfl))) (notFace_of_selects (args := #[]) (mvT hZ (hw _ (List.mem_of_getElem? (i := 32) rfl)))) (mvT hZ (hw _ (List.mem_of_getElem? (i := 32) rfl))) (mvT hZ (hw _ (List.mem_of_getElem? (i := 31) rfl))) (by decide) (backOf (W := 0) (rm5 l Z a0 hw [] b1 fa fs' fx fy T3.heap n0 Z0 F_b1_a F_b1_s F_b1_x0 F_b1_x1) hZ (hw _ (List.mem_of_getElem? (i := 33) rfl)) (hw _ (List.mem_of_getElem? (i := 2) rfl)) (by decide) (by decide)) q7a q7c (g := (mkF m 60 #[.val (.long q1), .second, .val (.int p2), .val (.ref b1), .val (.ref bs), .unset, .unset, .unset, .unset, .unset, .unset, .unset, .unset, .unset, .unset, .unset, .unset, .unset, .unset, .unset] [(.ref b1)])) rfl (by rw [hml]; rfl) (Steps.refl _) (argsL := []) (rest := []) (lenOf pd_4 rfl) rfl (by show 2 * 0 + _ ≤ _; exact Nat.le_of_eq rfl) (hb hby at_60) (fun _ _ => ⟨rfl, rfl, (by decide : 2 + 1 ≤ _), (by decide : 8 + 4 ≤ _)⟩)
    dsimp only [Pt.U, Pt.locs, Pt.cells, Pt.slots] at X7 l7 y7 z7 st7 hQ7
    subst l7 y7 z7
    have lt7_b1 : b1 < T3.heap.size := E_b1.lt
    have lt7_bs : bs < T3.heap.size := V_bs.lt
    obtain ⟨bp, kk_7, rfl, d_bp, sz7, N7q, K7, V_bp_new⟩ := hQ7
    have E_b1 := E_b1.keep K7
    have F_b1_a := F_b1_a.keep K7 nin0
    have F_b1_s := F_b1_s.keep K7 nin0
    have F_b1_x0 := F_b1_x0.keep K7 nin0
    have F_b1_x1 := F_b1_x1.keep K7 nin0
    have V_bs := V_bs.keep K7 nin0
    have V_bp := V_bp_new
    have g_bp : n0 ≤ bp := Nat.le_trans Z0 sz7
    have sz_bp : h0.size ≤ bp := Nat.le_trans K0.1 sz7
    have ne_b1_bp : b1 ≠ bp := Nat.ne_of_lt (Nat.lt_of_lt_of_le lt7_b1 sz7)
    have ne_bs_bp : bs ≠ bp := Nat.ne_of_lt (Nat.lt_of_lt_of_le lt7_bs sz7)
    have Z0 : n0 ≤ T7.heap.size := Nat.le_trans Z0 K7.1
    have K0 := K0.trans K7 all0
    have N7 := Fr.app N3 N7q
    have V_tmp := V_bp
    obtain ⟨cl8, Ar8, aq8, S8, n8, H8, G8⟩ := V_tmp
    have hc69 : (4 : Int32) = (4 : Int32) := rfl
    have V_tmp := V_bp
    obtain ⟨cl9, Ar9, aq9, S9, n9, H9, G9⟩ := V_tmp
    have hin9 : ¬ ((0 : Int32) < 0 ∨ cl9.slots.size ≤ ((0 : Int32)).toNatClampNeg) := inb_of S9 ⟨by decide, by decide⟩
    have hat9 : cl9.slots[((0 : Int32)).toNatClampNeg]? = some (.long fa) := Has.at H9 hin9 rfl
    have V_tmp := V_bp
    obtain ⟨cl10, Ar10, aq10, S10, n10, H10, G10⟩ := V_tmp
    have hin10 : ¬ ((1 : Int32) < 0 ∨ cl10.slots.size ≤ ((1 : Int32)).toNatClampNeg) := inb_of S10 ⟨by decide, by decide⟩
    have hat10 : cl10.slots[((1 : Int32)).toNatClampNeg]? = some (.long fs') := Has.at H10 hin10 rfl
    have V_tmp := V_bp
    obtain ⟨cl11, Ar11, aq11, S11, n11, H11, G11⟩ := V_tmp
    have hin11 : ¬ ((2 : Int32) < 0 ∨ cl11.slots.size ≤ ((2 : Int32)).toNatClampNeg) := inb_of S11 ⟨by decide, by decide⟩
    have hat11 : cl11.slots[((2 : Int32)).toNatClampNeg]? = some (.long fx) := Has.at H11 hin11 rfl
    have V_tmp := V_bp
    obtain ⟨cl12, Ar12, aq12, S12, n12, H12, G12⟩ := V_tmp
    have hin12 : ¬ ((3 : Int32) < 0 ∨ cl12.slots.size ≤ ((3 : Int32)).toNatClampNeg) := inb_of S12 ⟨by decide, by decide⟩
    have hat12 : cl12.slots[((3 : Int32)).toNatClampNeg]? = some (.long fy) := Has.at H12 hin12 rfl
    have V_tmp := V_bp
    obtain ⟨cl13, Ar13, aq13, S13, n13, H13, G13⟩ := V_tmp
    have hin13 : ¬ ((0 : Int32) < 0 ∨ cl13.slots.size ≤ ((0 : Int32)).toNatClampNeg) := inb_of S13 ⟨by decide, by decide⟩
    obtain ⟨T13, h13, X13, e13, W13, st13⟩ := stJ X7 hx hZ rfl Ar13 (j := (0 : Int32)) hin13 (g := (mkF m 107 #[.val (.long q1), .second, .val (.int p2), .val (.ref b1), .val (.ref bs), .val (.ref bp), .val (.long fa), .second, .val (.long fs'), .second, .val (.long fx), .second, .val (.long fy), .second, .unset, .unset, .unset, .unset, .unset, .unset] [(.long (fa ^^^ (2 : Int64))), (.int (0 : Int32)), (.ref bp)])) rfl rfl (hb hby at_107)
    have V_bs := V_bs.other W13 ne_bs_bp
    have V_bp : Arv Z h13 bp kk_7 .long (4 : Int32) [(.long (fa ^^^ (2 : Int64))), (.long fs'), (.long fx), (.long fy)] (.long (0 : Int64)) := Arv.set Ar13 aq13 S13 n13 H13 G13 rfl W13 0 rfl (Nat.le_of_ble_eq_true rfl)
    have F_b1_a := F_b1_a.other W13 (Or.inl ne_b1_bp)
    have F_b1_s := F_b1_s.other W13 (Or.inl ne_b1_bp)
    have F_b1_x0 := F_b1_x0.other W13 (Or.inl ne_b1_bp)
    have F_b1_x1 := F_b1_x1.other W13 (Or.inl ne_b1_bp)
    have E_b1 := E_b1.wr W13
    have Z0 : n0 ≤ h13.size := by rw [W13.size]; exact Z0
    have K0 := K0.wr W13 (Or.inr sz_bp)
    have N13 := Fr.snoc X13 N7 g_bp
    have V_tmp := V_bp
    obtain ⟨cl14, Ar14, aq14, S14, n14, H14, G14⟩ := V_tmp
    have hin14 : ¬ ((1 : Int32) < 0 ∨ cl14.slots.size ≤ ((1 : Int32)).toNatClampNeg) := inb_of S14 ⟨by decide, by decide⟩
    obtain ⟨T14, h14, X14, e14, W14, st14⟩ := stJ X13 hx hZ e13 Ar14 (j := (1 : Int32)) hin14 (g := (mkF m 115 #[.val (.long q1), .second, .val (.int p2), .val (.ref b1), .val (.ref bs), .val (.ref bp), .val (.long fa), .second, .val (.long fs'), .second, .val (.long fx), .second, .val (.long fy), .second, .unset, .unset, .unset, .unset, .unset, .unset] [(.long (fs' ^^^ (1 : Int64))), (.int (1 : Int32)), (.ref bp)])) rfl rfl (hb hby at_115)
    have V_bs := V_bs.other W14 ne_bs_bp
    have V_bp : Arv Z h14 bp kk_7 .long (4 : Int32) [(.long (fa ^^^ (2 : Int64))), (.long (fs' ^^^ (1 : Int64))), (.long fx), (.long fy)] (.long (0 : Int64)) := Arv.set Ar14 aq14 S14 n14 H14 G14 rfl W14 1 rfl (Nat.le_of_ble_eq_true rfl)
    have F_b1_a := F_b1_a.other W14 (Or.inl ne_b1_bp)
    have F_b1_s := F_b1_s.other W14 (Or.inl ne_b1_bp)
    have F_b1_x0 := F_b1_x0.other W14 (Or.inl ne_b1_bp)
    have F_b1_x1 := F_b1_x1.other W14 (Or.inl ne_b1_bp)
    have E_b1 := E_b1.wr W14
    have Z0 : n0 ≤ h14.size := by rw [W14.size]; exact Z0
    have K0 := K0.wr W14 (Or.inr sz_bp)
    have N14 := Fr.snoc X14 N13 g_bp
    have V_tmp := V_bp
    obtain ⟨cl15, Ar15, aq15, S15, n15, H15, G15⟩ := V_tmp
    have hin15 : ¬ ((2 : Int32) < 0 ∨ cl15.slots.size ≤ ((2 : Int32)).toNatClampNeg) := inb_of S15 ⟨by decide, by decide⟩
    obtain ⟨T15, h15, X15, e15, W15, st15⟩ := stJ X14 hx hZ e14 Ar15 (j := (2 : Int32)) hin15 (g := (mkF m 123 #[.val (.long q1), .second, .val (.int p2), .val (.ref b1), .val (.ref bs), .val (.ref bp), .val (.long fa), .second, .val (.long fs'), .second, .val (.long fx), .second, .val (.long fy), .second, .unset, .unset, .unset, .unset, .unset, .unset] [(.long (fx ^^^ (1 : Int64))), (.int (2 : Int32)), (.ref bp)])) rfl rfl (hb hby at_123)
    have V_bs := V_bs.other W15 ne_bs_bp
    have V_bp : Arv Z h15 bp kk_7 .long (4 : Int32) [(.long (fa ^^^ (2 : Int64))), (.long (fs' ^^^ (1 : Int64))), (.long (fx ^^^ (1 : Int64))), (.long fy)] (.long (0 : Int64)) := Arv.set Ar15 aq15 S15 n15 H15 G15 rfl W15 2 rfl (Nat.le_of_ble_eq_true rfl)
    have F_b1_a := F_b1_a.other W15 (Or.inl ne_b1_bp)
    have F_b1_s := F_b1_s.other W15 (Or.inl ne_b1_bp)
    have F_b1_x0 := F_b1_x0.other W15 (Or.inl ne_b1_bp)
    have F_b1_x1 := F_b1_x1.other W15 (Or.inl ne_b1_bp)
    have E_b1 := E_b1.wr W15
    have Z0 : n0 ≤ h15.size := by rw [W15.size]; exact Z0
    have K0 := K0.wr W15 (Or.inr sz_bp)
    have N15 := Fr.snoc X15 N14 g_bp
    have V_tmp := V_bp
    obtain ⟨cl16, Ar16, aq16, S16, n16, H16, G16⟩ := V_tmp
    have hin16 : ¬ ((3 : Int32) < 0 ∨ cl16.slots.size ≤ ((3 : Int32)).toNatClampNeg) := inb_of S16 ⟨by decide, by decide⟩
    obtain ⟨T16, h16, X16, e16, W16, st16⟩ := stJ X15 hx hZ e15 Ar16 (j := (3 : Int32)) hin16 (g := (mkF m 131 #[.val (.long q1), .second, .val (.int p2), .val (.ref b1), .val (.ref bs), .val (.ref bp), .val (.long fa), .second, .val (.long fs'), .second, .val (.long fx), .second, .val (.long fy), .second, .unset, .unset, .unset, .unset, .unset, .unset] [(.long (fy ^^^ (1 : Int64))), (.int (3 : Int32)), (.ref bp)])) rfl rfl (hb hby at_131)
    have V_bs := V_bs.other W16 ne_bs_bp
    have V_bp : Arv Z h16 bp kk_7 .long (4 : Int32) [(.long (fa ^^^ (2 : Int64))), (.long (fs' ^^^ (1 : Int64))), (.long (fx ^^^ (1 : Int64))), (.long (fy ^^^ (1 : Int64)))] (.long (0 : Int64)) := Arv.set Ar16 aq16 S16 n16 H16 G16 rfl W16 3 rfl (Nat.le_of_ble_eq_true rfl)
    have F_b1_a := F_b1_a.other W16 (Or.inl ne_b1_bp)
    have F_b1_s := F_b1_s.other W16 (Or.inl ne_b1_bp)
    have F_b1_x0 := F_b1_x0.other W16 (Or.inl ne_b1_bp)
    have F_b1_x1 := F_b1_x1.other W16 (Or.inl ne_b1_bp)
    have E_b1 := E_b1.wr W16
    have Z0 : n0 ≤ h16.size := by rw [W16.size]; exact Z0
    have K0 := K0.wr W16 (Or.inr sz_bp)
    have N16 := Fr.snoc X16 N15 g_bp
    have V_tmp := V_bs
    obtain ⟨cl17, Ar17, aq17, S17, n17, H17, G17⟩ := V_tmp
    have hin17 : ¬ ((0 : Int32) < 0 ∨ cl17.slots.size ≤ ((0 : Int32)).toNatClampNeg) := inb_of S17 ⟨by decide, by decide⟩
    have hat17 : cl17.slots[((0 : Int32)).toNatClampNeg]? = some (.long (own_ia q1)) := Has.at H17 hin17 rfl
    have hc139 : fa = (own_ia q1) := d_fa
    have hc150 : ¬ ((fa &&& (1 : Int64)) = (0 : Int64)) := by first | (rw [d_fa]; exact own_odd _) | exact own_odd _
    obtain ⟨T18, h18, k18, X18, e18, E18, A18, st18⟩ := newP X16 hx hZ (hw _ (List.mem_of_getElem? (i := 34) rfl)) e16 (g := (mkF m 157 #[.val (.long q1), .second, .val (.int p2), .val (.ref b1), .val (.ref bs), .val (.ref bp), .val (.long fa), .second, .val (.long fs'), .second, .val (.long fx), .second, .val (.long fy), .second, .unset, .unset, .unset, .unset, .unset, .unset] [(.int (4 : Int32)), (.ref b1)])) rfl (hb hby at_157) rfl (by decide) (cap := 4) (by decide) (by decide) (by decide) (by decide)
    obtain ⟨b18, g18⟩ : ∃ z, z = h16.size := ⟨_, rfl⟩
    rw [← g18] at A18 st18
    have g_b18 : n0 ≤ b18 := Nat.le_trans Z0 (Nat.le_of_eq g18.symm)
    have sz_b18 : h0.size ≤ b18 := Nat.le_trans K0.1 (Nat.le_of_eq g18.symm)
    have ne_b1_b18 : b1 ≠ b18 := Nat.ne_of_lt (Nat.lt_of_lt_of_le E_b1.lt (Nat.le_of_eq g18.symm))
    have ne_bs_b18 : bs ≠ b18 := Nat.ne_of_lt (Nat.lt_of_lt_of_le V_bs.lt (Nat.le_of_eq g18.symm))
    have ne_bp_b18 : bp ≠ b18 := Nat.ne_of_lt (Nat.lt_of_lt_of_le V_bp.lt (Nat.le_of_eq g18.symm))
    have E_b1 := E_b1.ext E18
    have F_b1_a := F_b1_a.ext E18
    have F_b1_s := F_b1_s.ext E18
    have F_b1_x0 := F_b1_x0.ext E18
    have F_b1_x1 := F_b1_x1.ext E18
    have V_bs := V_bs.ext E18
    have V_bp := V_bp.ext E18
    have Z0 : n0 ≤ h18.size := Nat.le_trans Z0 E18.1
    have K0 := K0.ext E18
    have V_b18 : Arv Z h18 b18 k18 .long (4 : Int32) [(.long (0 : Int64)), (.long (0 : Int64)), (.long (0 : Int64)), (.long (0 : Int64))] (.long (0 : Int64)) := (Arv.new A18 (by decide)).pad (pad_rep [] (.long (0 : Int64)) 4)
    have V_tmp := V_b18
    obtain ⟨cl19, Ar19, aq19, S19, n19, H19, G19⟩ := V_tmp
    have hin19 : ¬ ((0 : Int32) < 0 ∨ cl19.slots.size ≤ ((0 : Int32)).toNatClampNeg) := inb_of S19 ⟨by decide, by decide⟩
    obtain ⟨T19, h19, X19, e19, W19, st19⟩ := stJ X18 hx hZ e18 Ar19 (j := (0 : Int32)) hin19 (g := (mkF m 163 #[.val (.long q1), .second, .val (.int p2), .val (.ref b1), .val (.ref bs), .val (.ref bp), .val (.long fa), .second, .val (.long fs'), .second, .val (.long fx), .second, .val (.long fy), .second, .unset, .unset, .unset, .unset, .unset, .unset] [(.long fa), (.int (0 : Int32)), (.ref b18), (.ref b18), (.ref b1)])) rfl rfl (hb hby at_163)
    have V_bs := V_bs.other W19 ne_bs_b18
    have V_bp := V_bp.other W19 ne_bp_b18
    have V_b18 : Arv Z h19 b18 k18 .long (4 : Int32) [(.long fa), (.long (0 : Int64)), (.long (0 : Int64)), (.long (0 : Int64))] (.long (0 : Int64)) := Arv.set Ar19 aq19 S19 n19 H19 G19 rfl W19 0 rfl (Nat.le_of_ble_eq_true rfl)
    have F_b1_a := F_b1_a.other W19 (Or.inl ne_b1_b18)
    have F_b1_s := F_b1_s.other W19 (Or.inl ne_b1_b18)
    have F_b1_x0 := F_b1_x0.other W19 (Or.inl ne_b1_b18)
    have F_b1_x1 := F_b1_x1.other W19 (Or.inl ne_b1_b18)
    have E_b1 := E_b1.wr W19
    have Z0 : n0 ≤ h19.size := by rw [W19.size]; exact Z0
    have K0 := K0.wr W19 (Or.inr sz_b18)
    have N19 := Fr.snoc X19 N16 g_b18
    have V_tmp := V_b18
    obtain ⟨cl20, Ar20, aq20, S20, n20, H20, G20⟩ := V_tmp
    have hin20 : ¬ ((1 : Int32) < 0 ∨ cl20.slots.size ≤ ((1 : Int32)).toNatClampNeg) := inb_of S20 ⟨by decide, by decide⟩
    obtain ⟨T20, h20, X20, e20, W20, st20⟩ := stJ X19 hx hZ e19 Ar20 (j := (1 : Int32)) hin20 (g := (mkF m 168 #[.val (.long q1), .second, .val (.int p2), .val (.ref b1), .val (.ref bs), .val (.ref bp), .val (.long fa), .second, .val (.long fs'), .second, .val (.long fx), .second, .val (.long fy), .second, .unset, .unset, .unset, .unset, .unset, .unset] [(.long fs'), (.int (1 : Int32)), (.ref b18), (.ref b18), (.ref b1)])) rfl rfl (hb hby at_168)
    have V_bs := V_bs.other W20 ne_bs_b18
    have V_bp := V_bp.other W20 ne_bp_b18
    have V_b18 : Arv Z h20 b18 k18 .long (4 : Int32) [(.long fa), (.long fs'), (.long (0 : Int64)), (.long (0 : Int64))] (.long (0 : Int64)) := Arv.set Ar20 aq20 S20 n20 H20 G20 rfl W20 1 rfl (Nat.le_of_ble_eq_true rfl)
    have F_b1_a := F_b1_a.other W20 (Or.inl ne_b1_b18)
    have F_b1_s := F_b1_s.other W20 (Or.inl ne_b1_b18)
    have F_b1_x0 := F_b1_x0.other W20 (Or.inl ne_b1_b18)
    have F_b1_x1 := F_b1_x1.other W20 (Or.inl ne_b1_b18)
    have E_b1 := E_b1.wr W20
    have Z0 : n0 ≤ h20.size := by rw [W20.size]; exact Z0
    have K0 := K0.wr W20 (Or.inr sz_b18)
    have N20 := Fr.snoc X20 N19 g_b18
    have V_tmp := V_b18
    obtain ⟨cl21, Ar21, aq21, S21, n21, H21, G21⟩ := V_tmp
    have hin21 : ¬ ((2 : Int32) < 0 ∨ cl21.slots.size ≤ ((2 : Int32)).toNatClampNeg) := inb_of S21 ⟨by decide, by decide⟩
    obtain ⟨T21, h21, X21, e21, W21, st21⟩ := stJ X20 hx hZ e20 Ar21 (j := (2 : Int32)) hin21 (g := (mkF m 173 #[.val (.long q1), .second, .val (.int p2), .val (.ref b1), .val (.ref bs), .val (.ref bp), .val (.long fa), .second, .val (.long fs'), .second, .val (.long fx), .second, .val (.long fy), .second, .unset, .unset, .unset, .unset, .unset, .unset] [(.long fx), (.int (2 : Int32)), (.ref b18), (.ref b18), (.ref b1)])) rfl rfl (hb hby at_173)
    have V_bs := V_bs.other W21 ne_bs_b18
    have V_bp := V_bp.other W21 ne_bp_b18
    have V_b18 : Arv Z h21 b18 k18 .long (4 : Int32) [(.long fa), (.long fs'), (.long fx), (.long (0 : Int64))] (.long (0 : Int64)) := Arv.set Ar21 aq21 S21 n21 H21 G21 rfl W21 2 rfl (Nat.le_of_ble_eq_true rfl)
    have F_b1_a := F_b1_a.other W21 (Or.inl ne_b1_b18)
    have F_b1_s := F_b1_s.other W21 (Or.inl ne_b1_b18)
    have F_b1_x0 := F_b1_x0.other W21 (Or.inl ne_b1_b18)
    have F_b1_x1 := F_b1_x1.other W21 (Or.inl ne_b1_b18)
    have E_b1 := E_b1.wr W21
    have Z0 : n0 ≤ h21.size := by rw [W21.size]; exact Z0
    have K0 := K0.wr W21 (Or.inr sz_b18)
    have N21 := Fr.snoc X21 N20 g_b18
    have V_tmp := V_b18
    obtain ⟨cl22, Ar22, aq22, S22, n22, H22, G22⟩ := V_tmp
    have hin22 : ¬ ((3 : Int32) < 0 ∨ cl22.slots.size ≤ ((3 : Int32)).toNatClampNeg) := inb_of S22 ⟨by decide, by decide⟩
    obtain ⟨T22, h22, X22, e22, W22, st22⟩ := stJ X21 hx hZ e21 Ar22 (j := (3 : Int32)) hin22 (g := (mkF m 178 #[.val (.long q1), .second, .val (.int p2), .val (.ref b1), .val (.ref bs), .val (.ref bp), .val (.long fa), .second, .val (.long fs'), .second, .val (.long fx), .second, .val (.long fy), .second, .unset, .unset, .unset, .unset, .unset, .unset] [(.long fy), (.int (3 : Int32)), (.ref b18), (.ref b18), (.ref b1)])) rfl rfl (hb hby at_178)
    have V_bs := V_bs.other W22 ne_bs_b18
    have V_bp := V_bp.other W22 ne_bp_b18
    have V_b18 : Arv Z h22 b18 k18 .long (4 : Int32) [(.long fa), (.long fs'), (.long fx), (.long fy)] (.long (0 : Int64)) := Arv.set Ar22 aq22 S22 n22 H22 G22 rfl W22 3 rfl (Nat.le_of_ble_eq_true rfl)
    have F_b1_a := F_b1_a.other W22 (Or.inl ne_b1_b18)
    have F_b1_s := F_b1_s.other W22 (Or.inl ne_b1_b18)
    have F_b1_x0 := F_b1_x0.other W22 (Or.inl ne_b1_b18)
    have F_b1_x1 := F_b1_x1.other W22 (Or.inl ne_b1_b18)
    have E_b1 := E_b1.wr W22
    have Z0 : n0 ≤ h22.size := by rw [W22.size]; exact Z0
    have K0 := K0.wr W22 (Or.inr sz_b18)
    have N22 := Fr.snoc X22 N21 g_b18
    obtain ⟨cq23, kq23, q23a, q23b, q23c⟩ := isOf hZ e22 E_b1
    obtain ⟨_, _, ⟨T23, L23, k23, n23⟩, -, X23, ⟨Lc23, hQ23, l23, y23, z23⟩, st23⟩ := X22.virtualBack hx (y := (⟨"com/example/driftline/driftline/model/LxmRandom", "inState", "([J)Z"⟩ : MethodName)) (z := (⟨"com/example/driftline/driftline/model/LxmRandom", "inState", "([J)Z"⟩ : MethodName)) hown (mvT hZ (hw _ (List.mem_of_getElem? (i := 36) rfl))) (mvT hZ (hw _ (List.mem_of_getElem? (i := 37) rfl))) (notFace_of_selects (args := #[]) (mvT hZ (hw _ (List.mem_of_getElem? (i := 39) rfl)))) (mvT hZ (hw _ (List.mem_of_getElem? (i := 39) rfl))) (mvT hZ (hw _ (List.mem_of_getElem? (i := 38) rfl))) (by decide) (backOf (W := 0) (rm6 l Z a0 hw [] b1 b18 fa fs' fx fy k18 fa fs' fx fy h22 n0 Z0 F_b1_a F_b1_s F_b1_x0 F_b1_x1 V_b18) hZ (hw _ (List.mem_of_getElem? (i := 40) rfl)) (hw _ (List.mem_of_getElem? (i := 2) rfl)) (by decide) (by decide)) q23a q23c (g := (mkF m 179 #[.val (.long q1), .second, .val (.int p2), .val (.ref b1), .val (.ref bs), .val (.ref bp), .val (.long fa), .second, .val (.long fs'), .second, .val (.long fx), .second, .val (.long fy), .second, .unset, .unset, .unset, .unset, .unset, .unset] [(.ref b18), (.ref b1)])) rfl (by rw [hml]; rfl) (Steps.refl _) (argsL := [(.ref b18)]) (rest := []) (lenOf pd_5 rfl) rfl (by show 2 * 0 + _ ≤ _; exact Nat.le_of_eq rfl) (hb hby at_179) (fun _ _ => ⟨rfl, e22, (by decide : 4 + 0 ≤ _), (by decide : 16 + 0 ≤ _)⟩)
    dsimp only [Pt.U, Pt.locs, Pt.cells, Pt.slots] at X23 l23 y23 z23 st23 hQ23
    subst l23 y23 z23
    obtain ⟨ins, rfl, d_ins, N23q, e23⟩ := hQ23
    have N23 := Fr.app N22 N23q
    have hc182 : ¬ (ins = (0 : Int32)) := by rw [d_ins, if_pos ⟨rfl, rfl, rfl, rfl⟩]; decide
    refine own_go (S' := fun t => Steps p.tables e below (T23.setTop (mkF m 194 #[.val (.long q1), .second, .val (.int p2), .val (.ref b1), .val (.ref bs), .val (.ref bp), .val (.long fa), .second, .val (.long fs'), .second, .val (.long fx), .second, .val (.long fy), .second, .unset, .unset, .unset, .unset, .unset, .unset] [(.int (lcmpW (fx ||| fy) (0 : Int64)))])) t) (fun t k => ?_) ?_
    · show Steps p.tables e below (T3.setTop (mkF m 51 #[.val (.long q1), .second, .val (.int p2), .val (.ref b1), .val (.ref bs), .unset, .unset, .unset, .unset, .unset, .unset, .unset, .unset, .unset, .unset, .unset, .unset, .unset, .unset, .unset] [(.int (p2 &&& (1 : Int32)))])) _
      refine XS.ifYes X3.here hx rfl (pc0 := 51) (pc' := 59) rfl (hb hby at_51) rfl ((if0 _ _).trans (teq hc51).1) (by decide) (by decide) ?_
      show Steps p.tables e below (T3.setTop (mkF m 59 #[.val (.long q1), .second, .val (.int p2), .val (.ref b1), .val (.ref bs), .unset, .unset, .unset, .unset, .unset, .unset, .unset, .unset, .unset, .unset, .unset, .unset, .unset, .unset, .unset] [])) _
      refine XS.aloadN X3.here hx rfl (hb hby at_59) rfl rfl ?_
      show Steps p.tables e below (T3.setTop (mkF m 60 #[.val (.long q1), .second, .val (.int p2), .val (.ref b1), .val (.ref bs), .unset, .unset, .unset, .unset, .unset, .unset, .unset, .unset, .unset, .unset, .unset, .unset, .unset, .unset, .unset] [(.ref b1)])) _
      refine st7.trans ?_
      show Steps p.tables e below (T7.setTop (mkF m 63 #[.val (.long q1), .second, .val (.int p2), .val (.ref b1), .val (.ref bs), .unset, .unset, .unset, .unset, .unset, .unset, .unset, .unset, .unset, .unset, .unset, .unset, .unset, .unset, .unset] [(.ref bp)])) _
      refine XS.astore X7.here hx rfl (hb hby at_63) rfl rfl (l' := #[.val (.long q1), .second, .val (.int p2), .val (.ref b1), .val (.ref bs), .val (.ref bp), .unset, .unset, .unset, .unset, .unset, .unset, .unset, .unset, .unset, .unset, .unset, .unset, .unset, .unset]) rfl ?_
      show Steps p.tables e below (T7.setTop (mkF m 65 #[.val (.long q1), .second, .val (.int p2), .val (.ref b1), .val (.ref bs), .val (.ref bp), .unset, .unset, .unset, .unset, .unset, .unset, .unset, .unset, .unset, .unset, .unset, .unset, .unset, .unset] [])) _
      refine XS.aload X7.here hx rfl (hb hby at_65) rfl rfl ?_
      show Steps p.tables e below (T7.setTop (mkF m 67 #[.val (.long q1), .second, .val (.int p2), .val (.ref b1), .val (.ref bs), .val (.ref bp), .unset, .unset, .unset, .unset, .unset, .unset, .unset, .unset, .unset, .unset, .unset, .unset, .unset, .unset] [(.ref bp)])) _
      refine X7.arraylength hx Ar8.1 (State.isArrayOf_alike hZ.alike Ar8.2.1) (g := (mkF m 67 #[.val (.long q1), .second, .val (.int p2), .val (.ref b1), .val (.ref bs), .val (.ref bp), .unset, .unset, .unset, .unset, .unset, .unset, .unset, .unset, .unset, .unset, .unset, .unset, .unset, .unset] [(.ref bp)])) rfl rfl (hb hby at_67) _ ?_
      rw [len_of S8 n8]
      show Steps p.tables e below (T7.setTop (mkF m 68 #[.val (.long q1), .second, .val (.int p2), .val (.ref b1), .val (.ref bs), .val (.ref bp), .unset, .unset, .unset, .unset, .unset, .unset, .unset, .unset, .unset, .unset, .unset, .unset, .unset, .unset] [(.int (4 : Int32))])) _
      refine XS.iconst X7.here hx rfl (hb hby at_68) ?_
      show Steps p.tables e below (T7.setTop (mkF m 69 #[.val (.long q1), .second, .val (.int p2), .val (.ref b1), .val (.ref bs), .val (.ref bp), .unset, .unset, .unset, .unset, .unset, .unset, .unset, .unset, .unset, .unset, .unset, .unset, .unset, .unset] [(.int (4 : Int32)), (.int (4 : Int32))])) _
      refine XS.icmpYes X7.here hx rfl (pc0 := 69) (pc' := 74) rfl (hb hby at_69) rfl (teq hc69).1 (by decide) (by decide) ?_
      show Steps p.tables e below (T7.setTop (mkF m 74 #[.val (.long q1), .second, .val (.int p2), .val (.ref b1), .val (.ref bs), .val (.ref bp), .unset, .unset, .unset, .unset, .unset, .unset, .unset, .unset, .unset, .unset, .unset, .unset, .unset, .unset] [])) _
      refine XS.aload X7.here hx rfl (hb hby at_74) rfl rfl ?_
      show Steps p.tables e below (T7.setTop (mkF m 76 #[.val (.long q1), .second, .val (.int p2), .val (.ref b1), .val (.ref bs), .val (.ref bp), .unset, .unset, .unset, .unset, .unset, .unset, .unset, .unset, .unset, .unset, .unset, .unset, .unset, .unset] [(.ref bp)])) _
      refine XS.iconst X7.here hx rfl (hb hby at_76) ?_
      show Steps p.tables e below (T7.setTop (mkF m 77 #[.val (.long q1), .second, .val (.int p2), .val (.ref b1), .val (.ref bs), .val (.ref bp), .unset, .unset, .unset, .unset, .unset, .unset, .unset, .unset, .unset, .unset, .unset, .unset, .unset, .unset] [(.int (0 : Int32)), (.ref bp)])) _
      refine X7.laload hx (j := (0 : Int32)) (v := (.long fa)) Ar9.1 (State.isArrayOf_alike hZ.alike Ar9.2.1) Ar9.2.2 hin9 hat9 (g := (mkF m 77 #[.val (.long q1), .second, .val (.int p2), .val (.ref b1), .val (.ref bs), .val (.ref bp), .unset, .unset, .unset, .unset, .unset, .unset, .unset, .unset, .unset, .unset, .unset, .unset, .unset, .unset] [(.int (0 : Int32)), (.ref bp)])) rfl rfl (hb hby at_77) _ ?_
      show Steps p.tables e below (T7.setTop (mkF m 78 #[.val (.long q1), .second, .val (.int p2), .val (.ref b1), .val (.ref bs), .val (.ref bp), .unset, .unset, .unset, .unset, .unset, .unset, .unset, .unset, .unset, .unset, .unset, .unset, .unset, .unset] [(.long fa)])) _
      refine XS.lstore X7.here hx rfl (hb hby at_78) rfl (l' := #[.val (.long q1), .second, .val (.int p2), .val (.ref b1), .val (.ref bs), .val (.ref bp), .val (.long fa), .second, .unset, .unset, .unset, .unset, .unset, .unset, .unset, .unset, .unset, .unset, .unset, .unset]) rfl ?_
      show Steps p.tables e below (T7.setTop (mkF m 80 #[.val (.long q1), .second, .val (.int p2), .val (.ref b1), .val (.ref bs), .val (.ref bp), .val (.long fa), .second, .unset, .unset, .unset, .unset, .unset, .unset, .unset, .unset, .unset, .unset, .unset, .unset] [])) _
      refine XS.aload X7.here hx rfl (hb hby at_80) rfl rfl ?_
      show Steps p.tables e below (T7.setTop (mkF m 82 #[.val (.long q1), .second, .val (.int p2), .val (.ref b1), .val (.ref bs), .val (.ref bp), .val (.long fa), .second, .unset, .unset, .unset, .unset, .unset, .unset, .unset, .unset, .unset, .unset, .unset, .unset] [(.ref bp)])) _
      refine XS.iconst X7.here hx rfl (hb hby at_82) ?_
      show Steps p.tables e below (T7.setTop (mkF m 83 #[.val (.long q1), .second, .val (.int p2), .val (.ref b1), .val (.ref bs), .val (.ref bp), .val (.long fa), .second, .unset, .unset, .unset, .unset, .unset, .unset, .unset, .unset, .unset, .unset, .unset, .unset] [(.int (1 : Int32)), (.ref bp)])) _
      refine X7.laload hx (j := (1 : Int32)) (v := (.long fs')) Ar10.1 (State.isArrayOf_alike hZ.alike Ar10.2.1) Ar10.2.2 hin10 hat10 (g := (mkF m 83 #[.val (.long q1), .second, .val (.int p2), .val (.ref b1), .val (.ref bs), .val (.ref bp), .val (.long fa), .second, .unset, .unset, .unset, .unset, .unset, .unset, .unset, .unset, .unset, .unset, .unset, .unset] [(.int (1 : Int32)), (.ref bp)])) rfl rfl (hb hby at_83) _ ?_
      show Steps p.tables e below (T7.setTop (mkF m 84 #[.val (.long q1), .second, .val (.int p2), .val (.ref b1), .val (.ref bs), .val (.ref bp), .val (.long fa), .second, .unset, .unset, .unset, .unset, .unset, .unset, .unset, .unset, .unset, .unset, .unset, .unset] [(.long fs')])) _
      refine XS.lstore X7.here hx rfl (hb hby at_84) rfl (l' := #[.val (.long q1), .second, .val (.int p2), .val (.ref b1), .val (.ref bs), .val (.ref bp), .val (.long fa), .second, .val (.long fs'), .second, .unset, .unset, .unset, .unset, .unset, .unset, .unset, .unset, .unset, .unset]) rfl ?_
      show Steps p.tables e below (T7.setTop (mkF m 86 #[.val (.long q1), .second, .val (.int p2), .val (.ref b1), .val (.ref bs), .val (.ref bp), .val (.long fa), .second, .val (.long fs'), .second, .unset, .unset, .unset, .unset, .unset, .unset, .unset, .unset, .unset, .unset] [])) _
      refine XS.aload X7.here hx rfl (hb hby at_86) rfl rfl ?_
      show Steps p.tables e below (T7.setTop (mkF m 88 #[.val (.long q1), .second, .val (.int p2), .val (.ref b1), .val (.ref bs), .val (.ref bp), .val (.long fa), .second, .val (.long fs'), .second, .unset, .unset, .unset, .unset, .unset, .unset, .unset, .unset, .unset, .unset] [(.ref bp)])) _
      refine XS.iconst X7.here hx rfl (hb hby at_88) ?_
      show Steps p.tables e below (T7.setTop (mkF m 89 #[.val (.long q1), .second, .val (.int p2), .val (.ref b1), .val (.ref bs), .val (.ref bp), .val (.long fa), .second, .val (.long fs'), .second, .unset, .unset, .unset, .unset, .unset, .unset, .unset, .unset, .unset, .unset] [(.int (2 : Int32)), (.ref bp)])) _
      refine X7.laload hx (j := (2 : Int32)) (v := (.long fx)) Ar11.1 (State.isArrayOf_alike hZ.alike Ar11.2.1) Ar11.2.2 hin11 hat11 (g := (mkF m 89 #[.val (.long q1), .second, .val (.int p2), .val (.ref b1), .val (.ref bs), .val (.ref bp), .val (.long fa), .second, .val (.long fs'), .second, .unset, .unset, .unset, .unset, .unset, .unset, .unset, .unset, .unset, .unset] [(.int (2 : Int32)), (.ref bp)])) rfl rfl (hb hby at_89) _ ?_
      show Steps p.tables e below (T7.setTop (mkF m 90 #[.val (.long q1), .second, .val (.int p2), .val (.ref b1), .val (.ref bs), .val (.ref bp), .val (.long fa), .second, .val (.long fs'), .second, .unset, .unset, .unset, .unset, .unset, .unset, .unset, .unset, .unset, .unset] [(.long fx)])) _
      refine XS.lstore X7.here hx rfl (hb hby at_90) rfl (l' := #[.val (.long q1), .second, .val (.int p2), .val (.ref b1), .val (.ref bs), .val (.ref bp), .val (.long fa), .second, .val (.long fs'), .second, .val (.long fx), .second, .unset, .unset, .unset, .unset, .unset, .unset, .unset, .unset]) rfl ?_
      show Steps p.tables e below (T7.setTop (mkF m 92 #[.val (.long q1), .second, .val (.int p2), .val (.ref b1), .val (.ref bs), .val (.ref bp), .val (.long fa), .second, .val (.long fs'), .second, .val (.long fx), .second, .unset, .unset, .unset, .unset, .unset, .unset, .unset, .unset] [])) _
      refine XS.aload X7.here hx rfl (hb hby at_92) rfl rfl ?_
      show Steps p.tables e below (T7.setTop (mkF m 94 #[.val (.long q1), .second, .val (.int p2), .val (.ref b1), .val (.ref bs), .val (.ref bp), .val (.long fa), .second, .val (.long fs'), .second, .val (.long fx), .second, .unset, .unset, .unset, .unset, .unset, .unset, .unset, .unset] [(.ref bp)])) _
      refine XS.iconst X7.here hx rfl (hb hby at_94) ?_
      show Steps p.tables e below (T7.setTop (mkF m 95 #[.val (.long q1), .second, .val (.int p2), .val (.ref b1), .val (.ref bs), .val (.ref bp), .val (.long fa), .second, .val (.long fs'), .second, .val (.long fx), .second, .unset, .unset, .unset, .unset, .unset, .unset, .unset, .unset] [(.int (3 : Int32)), (.ref bp)])) _
      refine X7.laload hx (j := (3 : Int32)) (v := (.long fy)) Ar12.1 (State.isArrayOf_alike hZ.alike Ar12.2.1) Ar12.2.2 hin12 hat12 (g := (mkF m 95 #[.val (.long q1), .second, .val (.int p2), .val (.ref b1), .val (.ref bs), .val (.ref bp), .val (.long fa), .second, .val (.long fs'), .second, .val (.long fx), .second, .unset, .unset, .unset, .unset, .unset, .unset, .unset, .unset] [(.int (3 : Int32)), (.ref bp)])) rfl rfl (hb hby at_95) _ ?_
      show Steps p.tables e below (T7.setTop (mkF m 96 #[.val (.long q1), .second, .val (.int p2), .val (.ref b1), .val (.ref bs), .val (.ref bp), .val (.long fa), .second, .val (.long fs'), .second, .val (.long fx), .second, .unset, .unset, .unset, .unset, .unset, .unset, .unset, .unset] [(.long fy)])) _
      refine XS.lstore X7.here hx rfl (hb hby at_96) rfl (l' := #[.val (.long q1), .second, .val (.int p2), .val (.ref b1), .val (.ref bs), .val (.ref bp), .val (.long fa), .second, .val (.long fs'), .second, .val (.long fx), .second, .val (.long fy), .second, .unset, .unset, .unset, .unset, .unset, .unset]) rfl ?_
      show Steps p.tables e below (T7.setTop (mkF m 98 #[.val (.long q1), .second, .val (.int p2), .val (.ref b1), .val (.ref bs), .val (.ref bp), .val (.long fa), .second, .val (.long fs'), .second, .val (.long fx), .second, .val (.long fy), .second, .unset, .unset, .unset, .unset, .unset, .unset] [])) _
      refine XS.aload X7.here hx rfl (hb hby at_98) rfl rfl ?_
      show Steps p.tables e below (T7.setTop (mkF m 100 #[.val (.long q1), .second, .val (.int p2), .val (.ref b1), .val (.ref bs), .val (.ref bp), .val (.long fa), .second, .val (.long fs'), .second, .val (.long fx), .second, .val (.long fy), .second, .unset, .unset, .unset, .unset, .unset, .unset] [(.ref bp)])) _
      refine XS.iconst X7.here hx rfl (hb hby at_100) ?_
      show Steps p.tables e below (T7.setTop (mkF m 101 #[.val (.long q1), .second, .val (.int p2), .val (.ref b1), .val (.ref bs), .val (.ref bp), .val (.long fa), .second, .val (.long fs'), .second, .val (.long fx), .second, .val (.long fy), .second, .unset, .unset, .unset, .unset, .unset, .unset] [(.int (0 : Int32)), (.ref bp)])) _
      refine XS.lload X7.here hx rfl (hb hby at_101) rfl ?_
      show Steps p.tables e below (T7.setTop (mkF m 103 #[.val (.long q1), .second, .val (.int p2), .val (.ref b1), .val (.ref bs), .val (.ref bp), .val (.long fa), .second, .val (.long fs'), .second, .val (.long fx), .second, .val (.long fy), .second, .unset, .unset, .unset, .unset, .unset, .unset] [(.long fa), (.int (0 : Int32)), (.ref bp)])) _
      refine X7.ldc2Long hx hown (mvT hZ (hw _ (List.mem_of_getElem? (i := 35) rfl))) (g := (mkF m 103 #[.val (.long q1), .second, .val (.int p2), .val (.ref b1), .val (.ref bs), .val (.ref bp), .val (.long fa), .second, .val (.long fs'), .second, .val (.long fx), .second, .val (.long fy), .second, .unset, .unset, .unset, .unset, .unset, .unset] [(.long fa), (.int (0 : Int32)), (.ref bp)])) rfl (hb hby at_103) _ ?_
      show Steps p.tables e below (T7.setTop (mkF m 106 #[.val (.long q1), .second, .val (.int p2), .val (.ref b1), .val (.ref bs), .val (.ref bp), .val (.long fa), .second, .val (.long fs'), .second, .val (.long fx), .second, .val (.long fy), .second, .unset, .unset, .unset, .unset, .unset, .unset] [(.long (2 : Int64)), (.long fa), (.int (0 : Int32)), (.ref bp)])) _
      refine XS.lxor X7.here hx rfl (hb hby at_106) rfl ?_
      show Steps p.tables e below (T7.setTop (mkF m 107 #[.val (.long q1), .second, .val (.int p2), .val (.ref b1), .val (.ref bs), .val (.ref bp), .val (.long fa), .second, .val (.long fs'), .second, .val (.long fx), .second, .val (.long fy), .second, .unset, .unset, .unset, .unset, .unset, .unset] [(.long (fa ^^^ (2 : Int64))), (.int (0 : Int32)), (.ref bp)])) _
      refine st13 _ ?_
      show Steps p.tables e below (T13.setTop (mkF m 108 #[.val (.long q1), .second, .val (.int p2), .val (.ref b1), .val (.ref bs), .val (.ref bp), .val (.long fa), .second, .val (.long fs'), .second, .val (.long fx), .second, .val (.long fy), .second, .unset, .unset, .unset, .unset, .unset, .unset] [])) _
      refine XS.aload X13.here hx rfl (hb hby at_108) rfl rfl ?_
      show Steps p.tables e below (T13.setTop (mkF m 110 #[.val (.long q1), .second, .val (.int p2), .val (.ref b1), .val (.ref bs), .val (.ref bp), .val (.long fa), .second, .val (.long fs'), .second, .val (.long fx), .second, .val (.long fy), .second, .unset, .unset, .unset, .unset, .unset, .unset] [(.ref bp)])) _
      refine XS.iconst X13.here hx rfl (hb hby at_110) ?_
      show Steps p.tables e below (T13.setTop (mkF m 111 #[.val (.long q1), .second, .val (.int p2), .val (.ref b1), .val (.ref bs), .val (.ref bp), .val (.long fa), .second, .val (.long fs'), .second, .val (.long fx), .second, .val (.long fy), .second, .unset, .unset, .unset, .unset, .unset, .unset] [(.int (1 : Int32)), (.ref bp)])) _
      refine XS.lload X13.here hx rfl (hb hby at_111) rfl ?_
      show Steps p.tables e below (T13.setTop (mkF m 113 #[.val (.long q1), .second, .val (.int p2), .val (.ref b1), .val (.ref bs), .val (.ref bp), .val (.long fa), .second, .val (.long fs'), .second, .val (.long fx), .second, .val (.long fy), .second, .unset, .unset, .unset, .unset, .unset, .unset] [(.long fs'), (.int (1 : Int32)), (.ref bp)])) _
      refine XS.lconst X13.here hx rfl (hb hby at_113) ?_
      show Steps p.tables e below (T13.setTop (mkF m 114 #[.val (.long q1), .second, .val (.int p2), .val (.ref b1), .val (.ref bs), .val (.ref bp), .val (.long fa), .second, .val (.long fs'), .second, .val (.long fx), .second, .val (.long fy), .second, .unset, .unset, .unset, .unset, .unset, .unset] [(.long (1 : Int64)), (.long fs'), (.int (1 : Int32)), (.ref bp)])) _
      refine XS.lxor X13.here hx rfl (hb hby at_114) rfl ?_
      show Steps p.tables e below (T13.setTop (mkF m 115 #[.val (.long q1), .second, .val (.int p2), .val (.ref b1), .val (.ref bs), .val (.ref bp), .val (.long fa), .second, .val (.long fs'), .second, .val (.long fx), .second, .val (.long fy), .second, .unset, .unset, .unset, .unset, .unset, .unset] [(.long (fs' ^^^ (1 : Int64))), (.int (1 : Int32)), (.ref bp)])) _
      refine st14 _ ?_
      show Steps p.tables e below (T14.setTop (mkF m 116 #[.val (.long q1), .second, .val (.int p2), .val (.ref b1), .val (.ref bs), .val (.ref bp), .val (.long fa), .second, .val (.long fs'), .second, .val (.long fx), .second, .val (.long fy), .second, .unset, .unset, .unset, .unset, .unset, .unset] [])) _
      refine XS.aload X14.here hx rfl (hb hby at_116) rfl rfl ?_
      show Steps p.tables e below (T14.setTop (mkF m 118 #[.val (.long q1), .second, .val (.int p2), .val (.ref b1), .val (.ref bs), .val (.ref bp), .val (.long fa), .second, .val (.long fs'), .second, .val (.long fx), .second, .val (.long fy), .second, .unset, .unset, .unset, .unset, .unset, .unset] [(.ref bp)])) _
      refine XS.iconst X14.here hx rfl (hb hby at_118) ?_
      show Steps p.tables e below (T14.setTop (mkF m 119 #[.val (.long q1), .second, .val (.int p2), .val (.ref b1), .val (.ref bs), .val (.ref bp), .val (.long fa), .second, .val (.long fs'), .second, .val (.long fx), .second, .val (.long fy), .second, .unset, .unset, .unset, .unset, .unset, .unset] [(.int (2 : Int32)), (.ref bp)])) _
      refine XS.lload X14.here hx rfl (hb hby at_119) rfl ?_
      show Steps p.tables e below (T14.setTop (mkF m 121 #[.val (.long q1), .second, .val (.int p2), .val (.ref b1), .val (.ref bs), .val (.ref bp), .val (.long fa), .second, .val (.long fs'), .second, .val (.long fx), .second, .val (.long fy), .second, .unset, .unset, .unset, .unset, .unset, .unset] [(.long fx), (.int (2 : Int32)), (.ref bp)])) _
      refine XS.lconst X14.here hx rfl (hb hby at_121) ?_
      show Steps p.tables e below (T14.setTop (mkF m 122 #[.val (.long q1), .second, .val (.int p2), .val (.ref b1), .val (.ref bs), .val (.ref bp), .val (.long fa), .second, .val (.long fs'), .second, .val (.long fx), .second, .val (.long fy), .second, .unset, .unset, .unset, .unset, .unset, .unset] [(.long (1 : Int64)), (.long fx), (.int (2 : Int32)), (.ref bp)])) _
      refine XS.lxor X14.here hx rfl (hb hby at_122) rfl ?_
      show Steps p.tables e below (T14.setTop (mkF m 123 #[.val (.long q1), .second, .val (.int p2), .val (.ref b1), .val (.ref bs), .val (.ref bp), .val (.long fa), .second, .val (.long fs'), .second, .val (.long fx), .second, .val (.long fy), .second, .unset, .unset, .unset, .unset, .unset, .unset] [(.long (fx ^^^ (1 : Int64))), (.int (2 : Int32)), (.ref bp)])) _
      refine st15 _ ?_
      show Steps p.tables e below (T15.setTop (mkF m 124 #[.val (.long q1), .second, .val (.int p2), .val (.ref b1), .val (.ref bs), .val (.ref bp), .val (.long fa), .second, .val (.long fs'), .second, .val (.long fx), .second, .val (.long fy), .second, .unset, .unset, .unset, .unset, .unset, .unset] [])) _
      refine XS.aload X15.here hx rfl (hb hby at_124) rfl rfl ?_
      show Steps p.tables e below (T15.setTop (mkF m 126 #[.val (.long q1), .second, .val (.int p2), .val (.ref b1), .val (.ref bs), .val (.ref bp), .val (.long fa), .second, .val (.long fs'), .second, .val (.long fx), .second, .val (.long fy), .second, .unset, .unset, .unset, .unset, .unset, .unset] [(.ref bp)])) _
      refine XS.iconst X15.here hx rfl (hb hby at_126) ?_
      show Steps p.tables e below (T15.setTop (mkF m 127 #[.val (.long q1), .second, .val (.int p2), .val (.ref b1), .val (.ref bs), .val (.ref bp), .val (.long fa), .second, .val (.long fs'), .second, .val (.long fx), .second, .val (.long fy), .second, .unset, .unset, .unset, .unset, .unset, .unset] [(.int (3 : Int32)), (.ref bp)])) _
      refine XS.lload X15.here hx rfl (hb hby at_127) rfl ?_
      show Steps p.tables e below (T15.setTop (mkF m 129 #[.val (.long q1), .second, .val (.int p2), .val (.ref b1), .val (.ref bs), .val (.ref bp), .val (.long fa), .second, .val (.long fs'), .second, .val (.long fx), .second, .val (.long fy), .second, .unset, .unset, .unset, .unset, .unset, .unset] [(.long fy), (.int (3 : Int32)), (.ref bp)])) _
      refine XS.lconst X15.here hx rfl (hb hby at_129) ?_
      show Steps p.tables e below (T15.setTop (mkF m 130 #[.val (.long q1), .second, .val (.int p2), .val (.ref b1), .val (.ref bs), .val (.ref bp), .val (.long fa), .second, .val (.long fs'), .second, .val (.long fx), .second, .val (.long fy), .second, .unset, .unset, .unset, .unset, .unset, .unset] [(.long (1 : Int64)), (.long fy), (.int (3 : Int32)), (.ref bp)])) _
      refine XS.lxor X15.here hx rfl (hb hby at_130) rfl ?_
      show Steps p.tables e below (T15.setTop (mkF m 131 #[.val (.long q1), .second, .val (.int p2), .val (.ref b1), .val (.ref bs), .val (.ref bp), .val (.long fa), .second, .val (.long fs'), .second, .val (.long fx), .second, .val (.long fy), .second, .unset, .unset, .unset, .unset, .unset, .unset] [(.long (fy ^^^ (1 : Int64))), (.int (3 : Int32)), (.ref bp)])) _
      refine st16 _ ?_
      show Steps p.tables e below (T16.setTop (mkF m 132 #[.val (.long q1), .second, .val (.int p2), .val (.ref b1), .val (.ref bs), .val (.ref bp), .val (.long fa), .second, .val (.long fs'), .second, .val (.long fx), .second, .val (.long fy), .second, .unset, .unset, .unset, .unset, .unset, .unset] [])) _
      refine XS.lload X16.here hx rfl (hb hby at_132) rfl ?_
      show Steps p.tables e below (T16.setTop (mkF m 134 #[.val (.long q1), .second, .val (.int p2), .val (.ref b1), .val (.ref bs), .val (.ref bp), .val (.long fa), .second, .val (.long fs'), .second, .val (.long fx), .second, .val (.long fy), .second, .unset, .unset, .unset, .unset, .unset, .unset] [(.long fa)])) _
      refine XS.aload X16.here hx rfl (hb hby at_134) rfl rfl ?_
      show Steps p.tables e below (T16.setTop (mkF m 136 #[.val (.long q1), .second, .val (.int p2), .val (.ref b1), .val (.ref bs), .val (.ref bp), .val (.long fa), .second, .val (.long fs'), .second, .val (.long fx), .second, .val (.long fy), .second, .unset, .unset, .unset, .unset, .unset, .unset] [(.ref bs), (.long fa)])) _
      refine XS.iconst X16.here hx rfl (hb hby at_136) ?_
      show Steps p.tables e below (T16.setTop (mkF m 137 #[.val (.long q1), .second, .val (.int p2), .val (.ref b1), .val (.ref bs), .val (.ref bp), .val (.long fa), .second, .val (.long fs'), .second, .val (.long fx), .second, .val (.long fy), .second, .unset, .unset, .unset, .unset, .unset, .unset] [(.int (0 : Int32)), (.ref bs), (.long fa)])) _
      refine X16.laload hx (j := (0 : Int32)) (v := (.long (own_ia q1))) (by rw [e16]; exact Ar17.1) (State.isArrayOf_alike hZ.alike Ar17.2.1) Ar17.2.2 hin17 hat17 (g := (mkF m 137 #[.val (.long q1), .second, .val (.int p2), .val (.ref b1), .val (.ref bs), .val (.ref bp), .val (.long fa), .second, .val (.long fs'), .second, .val (.long fx), .second, .val (.long fy), .second, .unset, .unset, .unset, .unset, .unset, .unset] [(.int (0 : Int32)), (.ref bs), (.long fa)])) rfl rfl (hb hby at_137) _ ?_
      show Steps p.tables e below (T16.setTop (mkF m 138 #[.val (.long q1), .second, .val (.int p2), .val (.ref b1), .val (.ref bs), .val (.ref bp), .val (.long fa), .second, .val (.long fs'), .second, .val (.long fx), .second, .val (.long fy), .second, .unset, .unset, .unset, .unset, .unset, .unset] [(.long (own_ia q1)), (.long fa)])) _
      refine XS.lcmp X16.here hx rfl (hb hby at_138) rfl ?_
      show Steps p.tables e below (T16.setTop (mkF m 139 #[.val (.long q1), .second, .val (.int p2), .val (.ref b1), .val (.ref bs), .val (.ref bp), .val (.long fa), .second, .val (.long fs'), .second, .val (.long fx), .second, .val (.long fy), .second, .unset, .unset, .unset, .unset, .unset, .unset] [(.int (lcmpW fa (own_ia q1)))])) _
      refine XS.ifYes X16.here hx rfl (pc0 := 139) (pc' := 144) rfl (hb hby at_139) rfl ((if0 _ _).trans (teq ((lw_eq _ _).mpr hc139)).1) (by decide) (by decide) ?_
      show Steps p.tables e below (T16.setTop (mkF m 144 #[.val (.long q1), .second, .val (.int p2), .val (.ref b1), .val (.ref bs), .val (.ref bp), .val (.long fa), .second, .val (.long fs'), .second, .val (.long fx), .second, .val (.long fy), .second, .unset, .unset, .unset, .unset, .unset, .unset] [])) _
      refine XS.lload X16.here hx rfl (hb hby at_144) rfl ?_
      show Steps p.tables e below (T16.setTop (mkF m 146 #[.val (.long q1), .second, .val (.int p2), .val (.ref b1), .val (.ref bs), .val (.ref bp), .val (.long fa), .second, .val (.long fs'), .second, .val (.long fx), .second, .val (.long fy), .second, .unset, .unset, .unset, .unset, .unset, .unset] [(.long fa)])) _
      refine XS.lconst X16.here hx rfl (hb hby at_146) ?_
      show Steps p.tables e below (T16.setTop (mkF m 147 #[.val (.long q1), .second, .val (.int p2), .val (.ref b1), .val (.ref bs), .val (.ref bp), .val (.long fa), .second, .val (.long fs'), .second, .val (.long fx), .second, .val (.long fy), .second, .unset, .unset, .unset, .unset, .unset, .unset] [(.long (1 : Int64)), (.long fa)])) _
      refine XS.land X16.here hx rfl (hb hby at_147) rfl ?_
      show Steps p.tables e below (T16.setTop (mkF m 148 #[.val (.long q1), .second, .val (.int p2), .val (.ref b1), .val (.ref bs), .val (.ref bp), .val (.long fa), .second, .val (.long fs'), .second, .val (.long fx), .second, .val (.long fy), .second, .unset, .unset, .unset, .unset, .unset, .unset] [(.long (fa &&& (1 : Int64)))])) _
      refine XS.lconst X16.here hx rfl (hb hby at_148) ?_
      show Steps p.tables e below (T16.setTop (mkF m 149 #[.val (.long q1), .second, .val (.int p2), .val (.ref b1), .val (.ref bs), .val (.ref bp), .val (.long fa), .second, .val (.long fs'), .second, .val (.long fx), .second, .val (.long fy), .second, .unset, .unset, .unset, .unset, .unset, .unset] [(.long (0 : Int64)), (.long (fa &&& (1 : Int64)))])) _
      refine XS.lcmp X16.here hx rfl (hb hby at_149) rfl ?_
      show Steps p.tables e below (T16.setTop (mkF m 150 #[.val (.long q1), .second, .val (.int p2), .val (.ref b1), .val (.ref bs), .val (.ref bp), .val (.long fa), .second, .val (.long fs'), .second, .val (.long fx), .second, .val (.long fy), .second, .unset, .unset, .unset, .unset, .unset, .unset] [(.int (lcmpW (fa &&& (1 : Int64)) (0 : Int64)))])) _
      refine XS.ifYes X16.here hx rfl (pc0 := 150) (pc' := 155) rfl (hb hby at_150) rfl ((if0 _ _).trans (feq (fun z => hc150 ((lw_eq _ _).mp z))).2) (by decide) (by decide) ?_
      show Steps p.tables e below (T16.setTop (mkF m 155 #[.val (.long q1), .second, .val (.int p2), .val (.ref b1), .val (.ref bs), .val (.ref bp), .val (.long fa), .second, .val (.long fs'), .second, .val (.long fx), .second, .val (.long fy), .second, .unset, .unset, .unset, .unset, .unset, .unset] [])) _
      refine XS.aloadN X16.here hx rfl (hb hby at_155) rfl rfl ?_
      show Steps p.tables e below (T16.setTop (mkF m 156 #[.val (.long q1), .second, .val (.int p2), .val (.ref b1), .val (.ref bs), .val (.ref bp), .val (.long fa), .second, .val (.long fs'), .second, .val (.long fx), .second, .val (.long fy), .second, .unset, .unset, .unset, .unset, .unset, .unset] [(.ref b1)])) _
      refine XS.iconst X16.here hx rfl (hb hby at_156) ?_
      show Steps p.tables e below (T16.setTop (mkF m 157 #[.val (.long q1), .second, .val (.int p2), .val (.ref b1), .val (.ref bs), .val (.ref bp), .val (.long fa), .second, .val (.long fs'), .second, .val (.long fx), .second, .val (.long fy), .second, .unset, .unset, .unset, .unset, .unset, .unset] [(.int (4 : Int32)), (.ref b1)])) _
      refine st18 _ ?_
      show Steps p.tables e below (T18.setTop (mkF m 159 #[.val (.long q1), .second, .val (.int p2), .val (.ref b1), .val (.ref bs), .val (.ref bp), .val (.long fa), .second, .val (.long fs'), .second, .val (.long fx), .second, .val (.long fy), .second, .unset, .unset, .unset, .unset, .unset, .unset] [(.ref b18), (.ref b1)])) _
      refine XS.dup X18.here hx rfl (hb hby at_159) rfl rfl ?_
      show Steps p.tables e below (T18.setTop (mkF m 160 #[.val (.long q1), .second, .val (.int p2), .val (.ref b1), .val (.ref bs), .val (.ref bp), .val (.long fa), .second, .val (.long fs'), .second, .val (.long fx), .second, .val (.long fy), .second, .unset, .unset, .unset, .unset, .unset, .unset] [(.ref b18), (.ref b18), (.ref b1)])) _
      refine XS.iconst X18.here hx rfl (hb hby at_160) ?_
      show Steps p.tables e below (T18.setTop (mkF m 161 #[.val (.long q1), .second, .val (.int p2), .val (.ref b1), .val (.ref bs), .val (.ref bp), .val (.long fa), .second, .val (.long fs'), .second, .val (.long fx), .second, .val (.long fy), .second, .unset, .unset, .unset, .unset, .unset, .unset] [(.int (0 : Int32)), (.ref b18), (.ref b18), (.ref b1)])) _
      refine XS.lload X18.here hx rfl (hb hby at_161) rfl ?_
      show Steps p.tables e below (T18.setTop (mkF m 163 #[.val (.long q1), .second, .val (.int p2), .val (.ref b1), .val (.ref bs), .val (.ref bp), .val (.long fa), .second, .val (.long fs'), .second, .val (.long fx), .second, .val (.long fy), .second, .unset, .unset, .unset, .unset, .unset, .unset] [(.long fa), (.int (0 : Int32)), (.ref b18), (.ref b18), (.ref b1)])) _
      refine st19 _ ?_
      show Steps p.tables e below (T19.setTop (mkF m 164 #[.val (.long q1), .second, .val (.int p2), .val (.ref b1), .val (.ref bs), .val (.ref bp), .val (.long fa), .second, .val (.long fs'), .second, .val (.long fx), .second, .val (.long fy), .second, .unset, .unset, .unset, .unset, .unset, .unset] [(.ref b18), (.ref b1)])) _
      refine XS.dup X19.here hx rfl (hb hby at_164) rfl rfl ?_
      show Steps p.tables e below (T19.setTop (mkF m 165 #[.val (.long q1), .second, .val (.int p2), .val (.ref b1), .val (.ref bs), .val (.ref bp), .val (.long fa), .second, .val (.long fs'), .second, .val (.long fx), .second, .val (.long fy), .second, .unset, .unset, .unset, .unset, .unset, .unset] [(.ref b18), (.ref b18), (.ref b1)])) _
      refine XS.iconst X19.here hx rfl (hb hby at_165) ?_
      show Steps p.tables e below (T19.setTop (mkF m 166 #[.val (.long q1), .second, .val (.int p2), .val (.ref b1), .val (.ref bs), .val (.ref bp), .val (.long fa), .second, .val (.long fs'), .second, .val (.long fx), .second, .val (.long fy), .second, .unset, .unset, .unset, .unset, .unset, .unset] [(.int (1 : Int32)), (.ref b18), (.ref b18), (.ref b1)])) _
      refine XS.lload X19.here hx rfl (hb hby at_166) rfl ?_
      show Steps p.tables e below (T19.setTop (mkF m 168 #[.val (.long q1), .second, .val (.int p2), .val (.ref b1), .val (.ref bs), .val (.ref bp), .val (.long fa), .second, .val (.long fs'), .second, .val (.long fx), .second, .val (.long fy), .second, .unset, .unset, .unset, .unset, .unset, .unset] [(.long fs'), (.int (1 : Int32)), (.ref b18), (.ref b18), (.ref b1)])) _
      refine st20 _ ?_
      show Steps p.tables e below (T20.setTop (mkF m 169 #[.val (.long q1), .second, .val (.int p2), .val (.ref b1), .val (.ref bs), .val (.ref bp), .val (.long fa), .second, .val (.long fs'), .second, .val (.long fx), .second, .val (.long fy), .second, .unset, .unset, .unset, .unset, .unset, .unset] [(.ref b18), (.ref b1)])) _
      refine XS.dup X20.here hx rfl (hb hby at_169) rfl rfl ?_
      show Steps p.tables e below (T20.setTop (mkF m 170 #[.val (.long q1), .second, .val (.int p2), .val (.ref b1), .val (.ref bs), .val (.ref bp), .val (.long fa), .second, .val (.long fs'), .second, .val (.long fx), .second, .val (.long fy), .second, .unset, .unset, .unset, .unset, .unset, .unset] [(.ref b18), (.ref b18), (.ref b1)])) _
      refine XS.iconst X20.here hx rfl (hb hby at_170) ?_
      show Steps p.tables e below (T20.setTop (mkF m 171 #[.val (.long q1), .second, .val (.int p2), .val (.ref b1), .val (.ref bs), .val (.ref bp), .val (.long fa), .second, .val (.long fs'), .second, .val (.long fx), .second, .val (.long fy), .second, .unset, .unset, .unset, .unset, .unset, .unset] [(.int (2 : Int32)), (.ref b18), (.ref b18), (.ref b1)])) _
      refine XS.lload X20.here hx rfl (hb hby at_171) rfl ?_
      show Steps p.tables e below (T20.setTop (mkF m 173 #[.val (.long q1), .second, .val (.int p2), .val (.ref b1), .val (.ref bs), .val (.ref bp), .val (.long fa), .second, .val (.long fs'), .second, .val (.long fx), .second, .val (.long fy), .second, .unset, .unset, .unset, .unset, .unset, .unset] [(.long fx), (.int (2 : Int32)), (.ref b18), (.ref b18), (.ref b1)])) _
      refine st21 _ ?_
      show Steps p.tables e below (T21.setTop (mkF m 174 #[.val (.long q1), .second, .val (.int p2), .val (.ref b1), .val (.ref bs), .val (.ref bp), .val (.long fa), .second, .val (.long fs'), .second, .val (.long fx), .second, .val (.long fy), .second, .unset, .unset, .unset, .unset, .unset, .unset] [(.ref b18), (.ref b1)])) _
      refine XS.dup X21.here hx rfl (hb hby at_174) rfl rfl ?_
      show Steps p.tables e below (T21.setTop (mkF m 175 #[.val (.long q1), .second, .val (.int p2), .val (.ref b1), .val (.ref bs), .val (.ref bp), .val (.long fa), .second, .val (.long fs'), .second, .val (.long fx), .second, .val (.long fy), .second, .unset, .unset, .unset, .unset, .unset, .unset] [(.ref b18), (.ref b18), (.ref b1)])) _
      refine XS.iconst X21.here hx rfl (hb hby at_175) ?_
      show Steps p.tables e below (T21.setTop (mkF m 176 #[.val (.long q1), .second, .val (.int p2), .val (.ref b1), .val (.ref bs), .val (.ref bp), .val (.long fa), .second, .val (.long fs'), .second, .val (.long fx), .second, .val (.long fy), .second, .unset, .unset, .unset, .unset, .unset, .unset] [(.int (3 : Int32)), (.ref b18), (.ref b18), (.ref b1)])) _
      refine XS.lload X21.here hx rfl (hb hby at_176) rfl ?_
      show Steps p.tables e below (T21.setTop (mkF m 178 #[.val (.long q1), .second, .val (.int p2), .val (.ref b1), .val (.ref bs), .val (.ref bp), .val (.long fa), .second, .val (.long fs'), .second, .val (.long fx), .second, .val (.long fy), .second, .unset, .unset, .unset, .unset, .unset, .unset] [(.long fy), (.int (3 : Int32)), (.ref b18), (.ref b18), (.ref b1)])) _
      refine st22 _ ?_
      show Steps p.tables e below (T22.setTop (mkF m 179 #[.val (.long q1), .second, .val (.int p2), .val (.ref b1), .val (.ref bs), .val (.ref bp), .val (.long fa), .second, .val (.long fs'), .second, .val (.long fx), .second, .val (.long fy), .second, .unset, .unset, .unset, .unset, .unset, .unset] [(.ref b18), (.ref b1)])) _
      refine st23.trans ?_
      show Steps p.tables e below (T23.setTop (mkF m 182 #[.val (.long q1), .second, .val (.int p2), .val (.ref b1), .val (.ref bs), .val (.ref bp), .val (.long fa), .second, .val (.long fs'), .second, .val (.long fx), .second, .val (.long fy), .second, .unset, .unset, .unset, .unset, .unset, .unset] [(.int ins)])) _
      refine XS.ifYes X23.here hx rfl (pc0 := 182) (pc' := 187) rfl (hb hby at_182) rfl ((if0 _ _).trans (feq hc182).2) (by decide) (by decide) ?_
      show Steps p.tables e below (T23.setTop (mkF m 187 #[.val (.long q1), .second, .val (.int p2), .val (.ref b1), .val (.ref bs), .val (.ref bp), .val (.long fa), .second, .val (.long fs'), .second, .val (.long fx), .second, .val (.long fy), .second, .unset, .unset, .unset, .unset, .unset, .unset] [])) _
      refine XS.lload X23.here hx rfl (hb hby at_187) rfl ?_
      show Steps p.tables e below (T23.setTop (mkF m 189 #[.val (.long q1), .second, .val (.int p2), .val (.ref b1), .val (.ref bs), .val (.ref bp), .val (.long fa), .second, .val (.long fs'), .second, .val (.long fx), .second, .val (.long fy), .second, .unset, .unset, .unset, .unset, .unset, .unset] [(.long fx)])) _
      refine XS.lload X23.here hx rfl (hb hby at_189) rfl ?_
      show Steps p.tables e below (T23.setTop (mkF m 191 #[.val (.long q1), .second, .val (.int p2), .val (.ref b1), .val (.ref bs), .val (.ref bp), .val (.long fa), .second, .val (.long fs'), .second, .val (.long fx), .second, .val (.long fy), .second, .unset, .unset, .unset, .unset, .unset, .unset] [(.long fy), (.long fx)])) _
      refine XS.lor X23.here hx rfl (hb hby at_191) rfl ?_
      show Steps p.tables e below (T23.setTop (mkF m 192 #[.val (.long q1), .second, .val (.int p2), .val (.ref b1), .val (.ref bs), .val (.ref bp), .val (.long fa), .second, .val (.long fs'), .second, .val (.long fx), .second, .val (.long fy), .second, .unset, .unset, .unset, .unset, .unset, .unset] [(.long (fx ||| fy))])) _
      refine XS.lconst X23.here hx rfl (hb hby at_192) ?_
      show Steps p.tables e below (T23.setTop (mkF m 193 #[.val (.long q1), .second, .val (.int p2), .val (.ref b1), .val (.ref bs), .val (.ref bp), .val (.long fa), .second, .val (.long fs'), .second, .val (.long fx), .second, .val (.long fy), .second, .unset, .unset, .unset, .unset, .unset, .unset] [(.long (0 : Int64)), (.long (fx ||| fy))])) _
      refine XS.lcmp X23.here hx rfl (hb hby at_193) rfl ?_
      exact k
    by_cases hc194 : (fx ||| fy) = (0 : Int64)
    · obtain ⟨fs, hr, hrun, hended, hW, hsame⟩ := X23.leave (v := some (.int (1 : Int32))) (fun h => by rw [Bd.returns] at h; cases h)
      refine ⟨_, _, ?_, hrun, hended, _, _, rfl, ?_, ⟨_, rfl⟩, hW, hsame.mono (by decide) (by decide)⟩
      · show Steps p.tables e below (T23.setTop (mkF m 194 #[.val (.long q1), .second, .val (.int p2), .val (.ref b1), .val (.ref bs), .val (.ref bp), .val (.long fa), .second, .val (.long fs'), .second, .val (.long fx), .second, .val (.long fy), .second, .unset, .unset, .unset, .unset, .unset, .unset] [(.int (lcmpW (fx ||| fy) (0 : Int64)))])) _
        refine XS.ifNo X23.here hx rfl (hb hby at_194) rfl ((if0 _ _).trans (teq ((lw_eq _ _).mpr hc194)).2) ?_
        show Steps p.tables e below (T23.setTop (mkF m 197 #[.val (.long q1), .second, .val (.int p2), .val (.ref b1), .val (.ref bs), .val (.ref bp), .val (.long fa), .second, .val (.long fs'), .second, .val (.long fx), .second, .val (.long fy), .second, .unset, .unset, .unset, .unset, .unset, .unset] [])) _
        refine XS.iconst X23.here hx rfl (hb hby at_197) ?_
        show Steps p.tables e below (T23.setTop (mkF m 198 #[.val (.long q1), .second, .val (.int p2), .val (.ref b1), .val (.ref bs), .val (.ref bp), .val (.long fa), .second, .val (.long fs'), .second, .val (.long fx), .second, .val (.long fy), .second, .unset, .unset, .unset, .unset, .unset, .unset] [(.int (1 : Int32))])) _
        exact retN X23 hx (t := .boolean) Bd.returns (by simp) (hb hby at_198) hr
      · show Q0 Z q1 p2 h0 n0 _ T23.heap _
        rw [e23]
        exact ⟨rfl, N23⟩
    · obtain ⟨T24, h24, k24, X24, e24, E24, A24, st24⟩ := newP X23 hx hZ (hw _ (List.mem_of_getElem? (i := 34) rfl)) e23 (g := (mkF m 200 #[.val (.long q1), .second, .val (.int p2), .val (.ref b1), .val (.ref bs), .val (.ref bp), .val (.long fa), .second, .val (.long fs'), .second, .val (.long fx), .second, .val (.long fy), .second, .unset, .unset, .unset, .unset, .unset, .unset] [(.int (4 : Int32))])) rfl (hb hby at_200) rfl (by decide) (cap := 4) (by decide) (by decide) (by decide) (by decide)
      obtain ⟨b24, g24⟩ : ∃ z, z = h22.size := ⟨_, rfl⟩
      rw [← g24] at A24 st24
      have g_b24 : n0 ≤ b24 := Nat.le_trans Z0 (Nat.le_of_eq g24.symm)
      have sz_b24 : h0.size ≤ b24 := Nat.le_trans K0.1 (Nat.le_of_eq g24.symm)
      have ne_b1_b24 : b1 ≠ b24 := Nat.ne_of_lt (Nat.lt_of_lt_of_le E_b1.lt (Nat.le_of_eq g24.symm))
      have ne_bs_b24 : bs ≠ b24 := Nat.ne_of_lt (Nat.lt_of_lt_of_le V_bs.lt (Nat.le_of_eq g24.symm))
      have ne_bp_b24 : bp ≠ b24 := Nat.ne_of_lt (Nat.lt_of_lt_of_le V_bp.lt (Nat.le_of_eq g24.symm))
      have ne_b18_b24 : b18 ≠ b24 := Nat.ne_of_lt (Nat.lt_of_lt_of_le V_b18.lt (Nat.le_of_eq g24.symm))
      have E_b1 := E_b1.ext E24
      have F_b1_a := F_b1_a.ext E24
      have F_b1_s := F_b1_s.ext E24
      have F_b1_x0 := F_b1_x0.ext E24
      have F_b1_x1 := F_b1_x1.ext E24
      have V_bs := V_bs.ext E24
      have V_bp := V_bp.ext E24
      have V_b18 := V_b18.ext E24
      have Z0 : n0 ≤ h24.size := Nat.le_trans Z0 E24.1
      have K0 := K0.ext E24
      have V_b24 : Arv Z h24 b24 k24 .long (4 : Int32) [(.long (0 : Int64)), (.long (0 : Int64)), (.long (0 : Int64)), (.long (0 : Int64))] (.long (0 : Int64)) := (Arv.new A24 (by decide)).pad (pad_rep [] (.long (0 : Int64)) 4)
      have V_tmp := V_b24
      obtain ⟨cl25, Ar25, aq25, S25, n25, H25, G25⟩ := V_tmp
      have hin25 : ¬ ((0 : Int32) < 0 ∨ cl25.slots.size ≤ ((0 : Int32)).toNatClampNeg) := inb_of S25 ⟨by decide, by decide⟩
      obtain ⟨T25, h25, X25, e25, W25, st25⟩ := stJ X24 hx hZ e24 Ar25 (j := (0 : Int32)) hin25 (g := (mkF m 206 #[.val (.long q1), .second, .val (.int p2), .val (.ref b1), .val (.ref bs), .val (.ref bp), .val (.long fa), .second, .val (.long fs'), .second, .val (.long fx), .second, .val (.long fy), .second, .unset, .unset, .unset, .unset, .unset, .unset] [(.long fa), (.int (0 : Int32)), (.ref b24), (.ref b24)])) rfl rfl (hb hby at_206)
      have V_bs := V_bs.other W25 ne_bs_b24
      have V_bp := V_bp.other W25 ne_bp_b24
      have V_b18 := V_b18.other W25 ne_b18_b24
      have V_b24 : Arv Z h25 b24 k24 .long (4 : Int32) [(.long fa), (.long (0 : Int64)), (.long (0 : Int64)), (.long (0 : Int64))] (.long (0 : Int64)) := Arv.set Ar25 aq25 S25 n25 H25 G25 rfl W25 0 rfl (Nat.le_of_ble_eq_true rfl)
      have F_b1_a := F_b1_a.other W25 (Or.inl ne_b1_b24)
      have F_b1_s := F_b1_s.other W25 (Or.inl ne_b1_b24)
      have F_b1_x0 := F_b1_x0.other W25 (Or.inl ne_b1_b24)
      have F_b1_x1 := F_b1_x1.other W25 (Or.inl ne_b1_b24)
      have E_b1 := E_b1.wr W25
      have Z0 : n0 ≤ h25.size := by rw [W25.size]; exact Z0
      have K0 := K0.wr W25 (Or.inr sz_b24)
      have N25 := Fr.snoc X25 N23 g_b24
      have V_tmp := V_b24
      obtain ⟨cl26, Ar26, aq26, S26, n26, H26, G26⟩ := V_tmp
      have hin26 : ¬ ((1 : Int32) < 0 ∨ cl26.slots.size ≤ ((1 : Int32)).toNatClampNeg) := inb_of S26 ⟨by decide, by decide⟩
      obtain ⟨T26, h26, X26, e26, W26, st26⟩ := stJ X25 hx hZ e25 Ar26 (j := (1 : Int32)) hin26 (g := (mkF m 211 #[.val (.long q1), .second, .val (.int p2), .val (.ref b1), .val (.ref bs), .val (.ref bp), .val (.long fa), .second, .val (.long fs'), .second, .val (.long fx), .second, .val (.long fy), .second, .unset, .unset, .unset, .unset, .unset, .unset] [(.long fs'), (.int (1 : Int32)), (.ref b24), (.ref b24)])) rfl rfl (hb hby at_211)
      have V_bs := V_bs.other W26 ne_bs_b24
      have V_bp := V_bp.other W26 ne_bp_b24
      have V_b18 := V_b18.other W26 ne_b18_b24
      have V_b24 : Arv Z h26 b24 k24 .long (4 : Int32) [(.long fa), (.long fs'), (.long (0 : Int64)), (.long (0 : Int64))] (.long (0 : Int64)) := Arv.set Ar26 aq26 S26 n26 H26 G26 rfl W26 1 rfl (Nat.le_of_ble_eq_true rfl)
      have F_b1_a := F_b1_a.other W26 (Or.inl ne_b1_b24)
      have F_b1_s := F_b1_s.other W26 (Or.inl ne_b1_b24)
      have F_b1_x0 := F_b1_x0.other W26 (Or.inl ne_b1_b24)
      have F_b1_x1 := F_b1_x1.other W26 (Or.inl ne_b1_b24)
      have E_b1 := E_b1.wr W26
      have Z0 : n0 ≤ h26.size := by rw [W26.size]; exact Z0
      have K0 := K0.wr W26 (Or.inr sz_b24)
      have N26 := Fr.snoc X26 N25 g_b24
      have V_tmp := V_b24
      obtain ⟨cl27, Ar27, aq27, S27, n27, H27, G27⟩ := V_tmp
      have hin27 : ¬ ((2 : Int32) < 0 ∨ cl27.slots.size ≤ ((2 : Int32)).toNatClampNeg) := inb_of S27 ⟨by decide, by decide⟩
      obtain ⟨T27, h27, X27, e27, W27, st27⟩ := stJ X26 hx hZ e26 Ar27 (j := (2 : Int32)) hin27 (g := (mkF m 216 #[.val (.long q1), .second, .val (.int p2), .val (.ref b1), .val (.ref bs), .val (.ref bp), .val (.long fa), .second, .val (.long fs'), .second, .val (.long fx), .second, .val (.long fy), .second, .unset, .unset, .unset, .unset, .unset, .unset] [(.long fx), (.int (2 : Int32)), (.ref b24), (.ref b24)])) rfl rfl (hb hby at_216)
      have V_bs := V_bs.other W27 ne_bs_b24
      have V_bp := V_bp.other W27 ne_bp_b24
      have V_b18 := V_b18.other W27 ne_b18_b24
      have V_b24 : Arv Z h27 b24 k24 .long (4 : Int32) [(.long fa), (.long fs'), (.long fx), (.long (0 : Int64))] (.long (0 : Int64)) := Arv.set Ar27 aq27 S27 n27 H27 G27 rfl W27 2 rfl (Nat.le_of_ble_eq_true rfl)
      have F_b1_a := F_b1_a.other W27 (Or.inl ne_b1_b24)
      have F_b1_s := F_b1_s.other W27 (Or.inl ne_b1_b24)
      have F_b1_x0 := F_b1_x0.other W27 (Or.inl ne_b1_b24)
      have F_b1_x1 := F_b1_x1.other W27 (Or.inl ne_b1_b24)
      have E_b1 := E_b1.wr W27
      have Z0 : n0 ≤ h27.size := by rw [W27.size]; exact Z0
      have K0 := K0.wr W27 (Or.inr sz_b24)
      have N27 := Fr.snoc X27 N26 g_b24
      have V_tmp := V_b24
      obtain ⟨cl28, Ar28, aq28, S28, n28, H28, G28⟩ := V_tmp
      have hin28 : ¬ ((3 : Int32) < 0 ∨ cl28.slots.size ≤ ((3 : Int32)).toNatClampNeg) := inb_of S28 ⟨by decide, by decide⟩
      obtain ⟨T28, h28, X28, e28, W28, st28⟩ := stJ X27 hx hZ e27 Ar28 (j := (3 : Int32)) hin28 (g := (mkF m 221 #[.val (.long q1), .second, .val (.int p2), .val (.ref b1), .val (.ref bs), .val (.ref bp), .val (.long fa), .second, .val (.long fs'), .second, .val (.long fx), .second, .val (.long fy), .second, .unset, .unset, .unset, .unset, .unset, .unset] [(.long fy), (.int (3 : Int32)), (.ref b24), (.ref b24)])) rfl rfl (hb hby at_221)
      have V_bs := V_bs.other W28 ne_bs_b24
      have V_bp := V_bp.other W28 ne_bp_b24
      have V_b18 := V_b18.other W28 ne_b18_b24
      have V_b24 : Arv Z h28 b24 k24 .long (4 : Int32) [(.long fa), (.long fs'), (.long fx), (.long fy)] (.long (0 : Int64)) := Arv.set Ar28 aq28 S28 n28 H28 G28 rfl W28 3 rfl (Nat.le_of_ble_eq_true rfl)
      have F_b1_a := F_b1_a.other W28 (Or.inl ne_b1_b24)
      have F_b1_s := F_b1_s.other W28 (Or.inl ne_b1_b24)
      have F_b1_x0 := F_b1_x0.other W28 (Or.inl ne_b1_b24)
      have F_b1_x1 := F_b1_x1.other W28 (Or.inl ne_b1_b24)
      have E_b1 := E_b1.wr W28
      have Z0 : n0 ≤ h28.size := by rw [W28.size]; exact Z0
      have K0 := K0.wr W28 (Or.inr sz_b24)
      have N28 := Fr.snoc X28 N27 g_b24
      obtain ⟨_, _, ⟨T29, L29, k29, n29⟩, -, X29, ⟨Lc29, hQ29, l29, y29, z29⟩, st29⟩ := Jvm.LawKit.callS X28 hx (y := (⟨"com/example/driftline/driftline/model/LxmRandom", "restore", "([J)Lcom/example/driftline/driftline/model/LxmRandom;"⟩ : MethodName)) hown (mvT hZ (hw _ (List.mem_of_getElem? (i := 41) rfl))) (mvT hZ (hw _ (List.mem_of_getElem? (i := 42) rfl))) (mvT hZ (hw _ (List.mem_of_getElem? (i := 2) rfl))) (mvT hZ (hw _ (List.mem_of_getElem? (i := 43) rfl))) (by decide) (backOf (W := 0) (rm7 l Z a0 hw [] b24 k24 fa fs' fx fy h28 n0 Z0 V_b24 (by first | (rw [d_fa]; exact own_odd _) | exact own_odd _) hc194) hZ (hw _ (List.mem_of_getElem? (i := 43) rfl)) (hw _ (List.mem_of_getElem? (i := 2) rfl)) (by decide) (by decide)) (g := (mkF m 222 #[.val (.long q1), .second, .val (.int p2), .val (.ref b1), .val (.ref bs), .val (.ref bp), .val (.long fa), .second, .val (.long fs'), .second, .val (.long fx), .second, .val (.long fy), .second, .unset, .unset, .unset, .unset, .unset, .unset] [(.ref b24)])) rfl (by rw [hml]; rfl) (argsL := [(.ref b24)]) (rest := []) (lenOf pd_6 rfl) rfl (by show 2 * 0 + _ ≤ _; exact Nat.le_of_eq rfl) (hb hby at_222) (fun _ _ => ⟨rfl, e28, (by decide : 5 + 1 ≤ _), (by decide : 20 + 4 ≤ _)⟩)
      dsimp only [Pt.U, Pt.locs, Pt.cells, Pt.slots] at X29 l29 y29 z29 st29 hQ29
      subst l29 y29 z29
      have lt29_b1 : b1 < h28.size := E_b1.lt
      have lt29_bs : bs < h28.size := V_bs.lt
      have lt29_bp : bp < h28.size := V_bp.lt
      have lt29_b18 : b18 < h28.size := V_b18.lt
      have lt29_b24 : b24 < h28.size := V_b24.lt
      obtain ⟨br, rfl, d_br, sz29, N29q, K29, E_br_new, F_br_a_new, F_br_s_new, F_br_x0_new, F_br_x1_new⟩ := hQ29
      have E_b1 := E_b1.keep K29
      have F_b1_a := F_b1_a.keep K29 nin0
      have F_b1_s := F_b1_s.keep K29 nin0
      have F_b1_x0 := F_b1_x0.keep K29 nin0
      have F_b1_x1 := F_b1_x1.keep K29 nin0
      have V_bs := V_bs.keep K29 nin0
      have V_bp := V_bp.keep K29 nin0
      have V_b18 := V_b18.keep K29 nin0
      have V_b24 := V_b24.keep K29 nin0
      have E_br := E_br_new
      have F_br_a := F_br_a_new
      have F_br_s := F_br_s_new
      have F_br_x0 := F_br_x0_new
      have F_br_x1 := F_br_x1_new
      have g_br : n0 ≤ br := Nat.le_trans Z0 sz29
      have sz_br : h0.size ≤ br := Nat.le_trans K0.1 sz29
      have ne_b1_br : b1 ≠ br := Nat.ne_of_lt (Nat.lt_of_lt_of_le lt29_b1 sz29)
      have ne_bs_br : bs ≠ br := Nat.ne_of_lt (Nat.lt_of_lt_of_le lt29_bs sz29)
      have ne_bp_br : bp ≠ br := Nat.ne_of_lt (Nat.lt_of_lt_of_le lt29_bp sz29)
      have ne_b18_br : b18 ≠ br := Nat.ne_of_lt (Nat.lt_of_lt_of_le lt29_b18 sz29)
      have ne_b24_br : b24 ≠ br := Nat.ne_of_lt (Nat.lt_of_lt_of_le lt29_b24 sz29)
      have Z0 : n0 ≤ T29.heap.size := Nat.le_trans Z0 K29.1
      have K0 := K0.trans K29 all0
      have N29 := Fr.app N28 N29q
      obtain ⟨cq30, kq30, q30a, q30b, q30c⟩ := isOf hZ rfl E_b1
      obtain ⟨_, _, ⟨T30, L30, k30, n30⟩, -, X30, ⟨Lc30, hQ30, l30, y30, z30⟩, st30⟩ := X29.virtualBack hx (y := (⟨"com/example/driftline/driftline/model/LxmRandom", "nextLong", "()J"⟩ : MethodName)) (z := (⟨"com/example/driftline/driftline/model/LxmRandom", "nextLong", "()J"⟩ : MethodName)) hown (mvT hZ (hw _ (List.mem_of_getElem? (i := 48) rfl))) (mvT hZ (hw _ (List.mem_of_getElem? (i := 49) rfl))) (notFace_of_selects (args := #[]) (mvT hZ (hw _ (List.mem_of_getElem? (i := 51) rfl)))) (mvT hZ (hw _ (List.mem_of_getElem? (i := 51) rfl))) (mvT hZ (hw _ (List.mem_of_getElem? (i := 50) rfl))) (by decide) (backOf (W := 0) (rm9 l Z a0 hw [] b1 fa fs' fx fy T29.heap n0 Z0 E_b1 g_b1 F_b1_a F_b1_s F_b1_x0 F_b1_x1) hZ (hw _ (List.mem_of_getElem? (i := 52) rfl)) (hw _ (List.mem_of_getElem? (i := 2) rfl)) (by decide) (by decide)) q30a q30c (g := (mkF m 228 #[.val (.long q1), .second, .val (.int p2), .val (.ref b1), .val (.ref bs), .val (.ref bp), .val (.long fa), .second, .val (.long fs'), .second, .val (.long fx), .second, .val (.long fy), .second, .val (.ref br), .unset, .unset, .unset, .unset, .unset] [(.ref b1)])) rfl (by rw [hml]; rfl) (Steps.refl _) (argsL := []) (rest := []) (lenOf pd_7 rfl) rfl (by show 2 * 0 + _ ≤ _; exact Nat.le_of_eq rfl) (hb hby at_228) (fun _ _ => ⟨rfl, rfl, (by decide : 6 + 0 ≤ _), (by decide : 24 + 0 ≤ _)⟩)
      dsimp only [Pt.U, Pt.locs, Pt.cells, Pt.slots] at X30 l30 y30 z30 st30 hQ30
      subst l30 y30 z30
      obtain ⟨dg, rfl, d_dg, N30q, K30, E_b1_new, F_b1_a_new, F_b1_s_new, F_b1_x0_new, F_b1_x1_new⟩ := hQ30
      have E_b1 := E_b1.keep K30
      have E_br := E_br.keep K30
      have F_br_a := F_br_a.keep K30 (ninS (Ne.symm ne_b1_br) nin0)
      have F_br_s := F_br_s.keep K30 (ninS (Ne.symm ne_b1_br) nin0)
      have F_br_x0 := F_br_x0.keep K30 (ninS (Ne.symm ne_b1_br) nin0)
      have F_br_x1 := F_br_x1.keep K30 (ninS (Ne.symm ne_b1_br) nin0)
      have V_bs := V_bs.keep K30 (ninS (Ne.symm ne_b1_bs) nin0)
      have V_bp := V_bp.keep K30 (ninS (Ne.symm ne_b1_bp) nin0)
      have V_b18 := V_b18.keep K30 (ninS (Ne.symm ne_b1_b18) nin0)
      have V_b24 := V_b24.keep K30 (ninS (Ne.symm ne_b1_b24) nin0)
      have E_b1 := E_b1_new
      have F_b1_a := F_b1_a_new
      have F_b1_s := F_b1_s_new
      have F_b1_x0 := F_b1_x0_new
      have F_b1_x1 := F_b1_x1_new
      have Z0 : n0 ≤ T30.heap.size := Nat.le_trans Z0 K30.1
      have K0 := K0.trans K30 (allS (Or.inr sz_b1) all0)
      have N30 := Fr.app N29 N30q
      obtain ⟨cq31, kq31, q31a, q31b, q31c⟩ := isOf hZ rfl E_br
      obtain ⟨_, _, ⟨T31, L31, k31, n31⟩, -, X31, ⟨Lc31, hQ31, l31, y31, z31⟩, st31⟩ := X30.virtualBack hx (y := (⟨"com/example/driftline/driftline/model/LxmRandom", "nextLong", "()J"⟩ : MethodName)) (z := (⟨"com/example/driftline/driftline/model/LxmRandom", "nextLong", "()J"⟩ : MethodName)) hown (mvT hZ (hw _ (List.mem_of_getElem? (i := 48) rfl))) (mvT hZ (hw _ (List.mem_of_getElem? (i := 49) rfl))) (notFace_of_selects (args := #[]) (mvT hZ (hw _ (List.mem_of_getElem? (i := 51) rfl)))) (mvT hZ (hw _ (List.mem_of_getElem? (i := 51) rfl))) (mvT hZ (hw _ (List.mem_of_getElem? (i := 50) rfl))) (by decide) (backOf (W := 0) (rm9 l Z a0 hw [] br fa fs' fx fy T30.heap n0 Z0 E_br g_br F_br_a F_br_s F_br_x0 F_br_x1) hZ (hw _ (List.mem_of_getElem? (i := 52) rfl)) (hw _ (List.mem_of_getElem? (i := 2) rfl)) (by decide) (by decide)) q31a q31c (g := (mkF m 235 #[.val (.long q1), .second, .val (.int p2), .val (.ref b1), .val (.ref bs), .val (.ref bp), .val (.long fa), .second, .val (.long fs'), .second, .val (.long fx), .second, .val (.long fy), .second, .val (.ref br), .val (.long dg), .second, .unset, .unset, .unset] [(.ref br)])) rfl (by rw [hml]; rfl) (Steps.refl _) (argsL := []) (rest := []) (lenOf pd_7 rfl) rfl (by show 2 * 0 + _ ≤ _; exact Nat.le_of_eq rfl) (hb hby at_235) (fun _ _ => ⟨rfl, rfl, (by decide : 6 + 0 ≤ _), (by decide : 24 + 0 ≤ _)⟩)
      dsimp only [Pt.U, Pt.locs, Pt.cells, Pt.slots] at X31 l31 y31 z31 st31 hQ31
      subst l31 y31 z31
      obtain ⟨dr, rfl, d_dr, N31q, K31, E_br_new, F_br_a_new, F_br_s_new, F_br_x0_new, F_br_x1_new⟩ := hQ31
      have E_b1 := E_b1.keep K31
      have E_br := E_br.keep K31
      have F_b1_a := F_b1_a.keep K31 (ninS ne_b1_br nin0)
      have F_b1_s := F_b1_s.keep K31 (ninS ne_b1_br nin0)
      have F_b1_x0 := F_b1_x0.keep K31 (ninS ne_b1_br nin0)
      have F_b1_x1 := F_b1_x1.keep K31 (ninS ne_b1_br nin0)
      have V_bs := V_bs.keep K31 (ninS ne_bs_br nin0)
      have V_bp := V_bp.keep K31 (ninS ne_bp_br nin0)
      have V_b18 := V_b18.keep K31 (ninS ne_b18_br nin0)
      have V_b24 := V_b24.keep K31 (ninS ne_b24_br nin0)
      have E_br := E_br_new
      have F_br_a := F_br_a_new
      have F_br_s := F_br_s_new
      have F_br_x0 := F_br_x0_new
      have F_br_x1 := F_br_x1_new
      have Z0 : n0 ≤ T31.heap.size := Nat.le_trans Z0 K31.1
      have K0 := K0.trans K31 (allS (Or.inr sz_br) all0)
      have N31 := Fr.app N30 N31q
      have hc245 : dg = dr := d_dg.trans d_dr.symm
      obtain ⟨cq32, kq32, q32a, q32b, q32c⟩ := isOf hZ rfl E_b1
      obtain ⟨_, _, ⟨T32, L32, k32, n32⟩, -, X32, ⟨Lc32, hQ32, l32, y32, z32⟩, st32⟩ := X31.virtualBack hx (y := (⟨"com/example/driftline/driftline/model/LxmRandom", "state", "()[J"⟩ : MethodName)) (z := (⟨"com/example/driftline/driftline/model/LxmRandom", "state", "()[J"⟩ : MethodName)) hown (mvT hZ (hw _ (List.mem_of_getElem? (i := 29) rfl))) (mvT hZ (hw _ (List.mem_of_getElem? (i := 30) rfl))) (notFace_of_selects (args := #[]) (mvT hZ (hw _ (List.mem_of_getElem? (i := 32) rfl)))) (mvT hZ (hw _ (List.mem_of_getElem? (i := 32) rfl))) (mvT hZ (hw _ (List.mem_of_getElem? (i := 31) rfl))) (by decide) (backOf (W := 0) (rm5 l Z a0 hw [] b1 fa (own_s fa fs') (own_x0 fx fy) (own_x1 fx fy) T31.heap n0 Z0 F_b1_a F_b1_s F_b1_x0 F_b1_x1) hZ (hw _ (List.mem_of_getElem? (i := 33) rfl)) (hw _ (List.mem_of_getElem? (i := 2) rfl)) (by decide) (by decide)) q32a q32c (g := (mkF m 251 #[.val (.long q1), .second, .val (.int p2), .val (.ref b1), .val (.ref bs), .val (.ref bp), .val (.long fa), .second, .val (.long fs'), .second, .val (.long fx), .second, .val (.long fy), .second, .val (.ref br), .val (.long dg), .second, .val (.long dr), .second, .unset] [(.ref b1)])) rfl (by rw [hml]; rfl) (Steps.refl _) (argsL := []) (rest := []) (lenOf pd_4 rfl) rfl (by show 2 * 0 + _ ≤ _; exact Nat.le_of_eq rfl) (hb hby at_251) (fun _ _ => ⟨rfl, rfl, (by decide : 6 + 1 ≤ _), (by decide : 24 + 4 ≤ _)⟩)
      dsimp only [Pt.U, Pt.locs, Pt.cells, Pt.slots] at X32 l32 y32 z32 st32 hQ32
      subst l32 y32 z32
      have lt32_b1 : b1 < T31.heap.size := E_b1.lt
      have lt32_br : br < T31.heap.size := E_br.lt
      have lt32_bs : bs < T31.heap.size := V_bs.lt
      have lt32_bp : bp < T31.heap.size := V_bp.lt
      have lt32_b18 : b18 < T31.heap.size := V_b18.lt
      have lt32_b24 : b24 < T31.heap.size := V_b24.lt
      obtain ⟨bq, kk_32, rfl, d_bq, sz32, N32q, K32, V_bq_new⟩ := hQ32
      have E_b1 := E_b1.keep K32
      have E_br := E_br.keep K32
      have F_b1_a := F_b1_a.keep K32 nin0
      have F_b1_s := F_b1_s.keep K32 nin0
      have F_b1_x0 := F_b1_x0.keep K32 nin0
      have F_b1_x1 := F_b1_x1.keep K32 nin0
      have F_br_a := F_br_a.keep K32 nin0
      have F_br_s := F_br_s.keep K32 nin0
      have F_br_x0 := F_br_x0.keep K32 nin0
      have F_br_x1 := F_br_x1.keep K32 nin0
      have V_bs := V_bs.keep K32 nin0
      have V_bp := V_bp.keep K32 nin0
      have V_b18 := V_b18.keep K32 nin0
      have V_b24 := V_b24.keep K32 nin0
      have V_bq := V_bq_new
      have g_bq : n0 ≤ bq := Nat.le_trans Z0 sz32
      have sz_bq : h0.size ≤ bq := Nat.le_trans K0.1 sz32
      have ne_b1_bq : b1 ≠ bq := Nat.ne_of_lt (Nat.lt_of_lt_of_le lt32_b1 sz32)
      have ne_br_bq : br ≠ bq := Nat.ne_of_lt (Nat.lt_of_lt_of_le lt32_br sz32)
      have ne_bs_bq : bs ≠ bq := Nat.ne_of_lt (Nat.lt_of_lt_of_le lt32_bs sz32)
      have ne_bp_bq : bp ≠ bq := Nat.ne_of_lt (Nat.lt_of_lt_of_le lt32_bp sz32)
      have ne_b18_bq : b18 ≠ bq := Nat.ne_of_lt (Nat.lt_of_lt_of_le lt32_b18 sz32)
      have ne_b24_bq : b24 ≠ bq := Nat.ne_of_lt (Nat.lt_of_lt_of_le lt32_b24 sz32)
      have Z0 : n0 ≤ T32.heap.size := Nat.le_trans Z0 K32.1
      have K0 := K0.trans K32 all0
      have N32 := Fr.app N31 N32q
      have V_tmp := V_bq
      obtain ⟨cl33, Ar33, aq33, S33, n33, H33, G33⟩ := V_tmp
      have hc260 : (4 : Int32) = (4 : Int32) := rfl
      have V_tmp := V_bq
      obtain ⟨cl34, Ar34, aq34, S34, n34, H34, G34⟩ := V_tmp
      have hin34 : ¬ ((0 : Int32) < 0 ∨ cl34.slots.size ≤ ((0 : Int32)).toNatClampNeg) := inb_of S34 ⟨by decide, by decide⟩
      have hat34 : cl34.slots[((0 : Int32)).toNatClampNeg]? = some (.long fa) := Has.at H34 hin34 rfl
      have hc272 : fa = fa := rfl
      have V_tmp := V_bq
      obtain ⟨cl35, Ar35, aq35, S35, n35, H35, G35⟩ := V_tmp
      have hin35 : ¬ ((1 : Int32) < 0 ∨ cl35.slots.size ≤ ((1 : Int32)).toNatClampNeg) := inb_of S35 ⟨by decide, by decide⟩
      have hat35 : cl35.slots[((1 : Int32)).toNatClampNeg]? = some (.long (own_s fa fs')) := Has.at H35 hin35 rfl
      have hc291 : (own_s fa fs') = (((-3372029247567499371 : Int64) * fs') + fa) := rfl
      obtain ⟨cq36, kq36, q36a, q36b, q36c⟩ := isOf hZ rfl E_br
      obtain ⟨_, _, ⟨T36, L36, k36, n36⟩, -, X36, ⟨Lc36, hQ36, l36, y36, z36⟩, st36⟩ := X32.virtualBack hx (y := (⟨"com/example/driftline/driftline/model/LxmRandom", "inState", "([J)Z"⟩ : MethodName)) (z := (⟨"com/example/driftline/driftline/model/LxmRandom", "inState", "([J)Z"⟩ : MethodName)) hown (mvT hZ (hw _ (List.mem_of_getElem? (i := 36) rfl))) (mvT hZ (hw _ (List.mem_of_getElem? (i := 37) rfl))) (notFace_of_selects (args := #[]) (mvT hZ (hw _ (List.mem_of_getElem? (i := 39) rfl)))) (mvT hZ (hw _ (List.mem_of_getElem? (i := 39) rfl))) (mvT hZ (hw _ (List.mem_of_getElem? (i := 38) rfl))) (by decide) (backOf (W := 0) (rm6 l Z a0 hw [] br bq fa (own_s fa fs') (own_x0 fx fy) (own_x1 fx fy) kk_32 fa (own_s fa fs') (own_x0 fx fy) (own_x1 fx fy) T32.heap n0 Z0 F_br_a F_br_s F_br_x0 F_br_x1 V_bq) hZ (hw _ (List.mem_of_getElem? (i := 40) rfl)) (hw _ (List.mem_of_getElem? (i := 2) rfl)) (by decide) (by decide)) q36a q36c (g := (mkF m 300 #[.val (.long q1), .second, .val (.int p2), .val (.ref b1), .val (.ref bs), .val (.ref bp), .val (.long fa), .second, .val (.long fs'), .second, .val (.long fx), .second, .val (.long fy), .second, .val (.ref br), .val (.long dg), .second, .val (.long dr), .second, .val (.ref bq)] [(.ref bq), (.ref br)])) rfl (by rw [hml]; rfl) (Steps.refl _) (argsL := [(.ref bq)]) (rest := []) (lenOf pd_5 rfl) rfl (by show 2 * 0 + _ ≤ _; exact Nat.le_of_eq rfl) (hb hby at_300) (fun _ _ => ⟨rfl, rfl, (by decide : 7 + 0 ≤ _), (by decide : 28 + 0 ≤ _)⟩)
      dsimp only [Pt.U, Pt.locs, Pt.cells, Pt.slots] at X36 l36 y36 z36 st36 hQ36
      subst l36 y36 z36
      obtain ⟨fin, rfl, d_fin, N36q, e36⟩ := hQ36
      have N36 := Fr.app N32 N36q
      obtain ⟨fs, hr, hrun, hended, hW, hsame⟩ := X36.leave (v := some (.int fin)) (fun h => by rw [Bd.returns] at h; cases h)
      refine ⟨_, _, ?_, hrun, hended, _, _, rfl, ?_, ⟨_, rfl⟩, hW, hsame.mono (by decide) (by decide)⟩
      · show Steps p.tables e below (T23.setTop (mkF m 194 #[.val (.long q1), .second, .val (.int p2), .val (.ref b1), .val (.ref bs), .val (.ref bp), .val (.long fa), .second, .val (.long fs'), .second, .val (.long fx), .second, .val (.long fy), .second, .unset, .unset, .unset, .unset, .unset, .unset] [(.int (lcmpW (fx ||| fy) (0 : Int64)))])) _
        refine XS.ifYes X23.here hx rfl (pc0 := 194) (pc' := 199) rfl (hb hby at_194) rfl ((if0 _ _).trans (feq (fun z => hc194 ((lw_eq _ _).mp z))).2) (by decide) (by decide) ?_
        show Steps p.tables e below (T23.setTop (mkF m 199 #[.val (.long q1), .second, .val (.int p2), .val (.ref b1), .val (.ref bs), .val (.ref bp), .val (.long fa), .second, .val (.long fs'), .second, .val (.long fx), .second, .val (.long fy), .second, .unset, .unset, .unset, .unset, .unset, .unset] [])) _
        refine XS.iconst X23.here hx rfl (hb hby at_199) ?_
        show Steps p.tables e below (T23.setTop (mkF m 200 #[.val (.long q1), .second, .val (.int p2), .val (.ref b1), .val (.ref bs), .val (.ref bp), .val (.long fa), .second, .val (.long fs'), .second, .val (.long fx), .second, .val (.long fy), .second, .unset, .unset, .unset, .unset, .unset, .unset] [(.int (4 : Int32))])) _
        refine st24 _ ?_
        show Steps p.tables e below (T24.setTop (mkF m 202 #[.val (.long q1), .second, .val (.int p2), .val (.ref b1), .val (.ref bs), .val (.ref bp), .val (.long fa), .second, .val (.long fs'), .second, .val (.long fx), .second, .val (.long fy), .second, .unset, .unset, .unset, .unset, .unset, .unset] [(.ref b24)])) _
        refine XS.dup X24.here hx rfl (hb hby at_202) rfl rfl ?_
        show Steps p.tables e below (T24.setTop (mkF m 203 #[.val (.long q1), .second, .val (.int p2), .val (.ref b1), .val (.ref bs), .val (.ref bp), .val (.long fa), .second, .val (.long fs'), .second, .val (.long fx), .second, .val (.long fy), .second, .unset, .unset, .unset, .unset, .unset, .unset] [(.ref b24), (.ref b24)])) _
        refine XS.iconst X24.here hx rfl (hb hby at_203) ?_
        show Steps p.tables e below (T24.setTop (mkF m 204 #[.val (.long q1), .second, .val (.int p2), .val (.ref b1), .val (.ref bs), .val (.ref bp), .val (.long fa), .second, .val (.long fs'), .second, .val (.long fx), .second, .val (.long fy), .second, .unset, .unset, .unset, .unset, .unset, .unset] [(.int (0 : Int32)), (.ref b24), (.ref b24)])) _
        refine XS.lload X24.here hx rfl (hb hby at_204) rfl ?_
        show Steps p.tables e below (T24.setTop (mkF m 206 #[.val (.long q1), .second, .val (.int p2), .val (.ref b1), .val (.ref bs), .val (.ref bp), .val (.long fa), .second, .val (.long fs'), .second, .val (.long fx), .second, .val (.long fy), .second, .unset, .unset, .unset, .unset, .unset, .unset] [(.long fa), (.int (0 : Int32)), (.ref b24), (.ref b24)])) _
        refine st25 _ ?_
        show Steps p.tables e below (T25.setTop (mkF m 207 #[.val (.long q1), .second, .val (.int p2), .val (.ref b1), .val (.ref bs), .val (.ref bp), .val (.long fa), .second, .val (.long fs'), .second, .val (.long fx), .second, .val (.long fy), .second, .unset, .unset, .unset, .unset, .unset, .unset] [(.ref b24)])) _
        refine XS.dup X25.here hx rfl (hb hby at_207) rfl rfl ?_
        show Steps p.tables e below (T25.setTop (mkF m 208 #[.val (.long q1), .second, .val (.int p2), .val (.ref b1), .val (.ref bs), .val (.ref bp), .val (.long fa), .second, .val (.long fs'), .second, .val (.long fx), .second, .val (.long fy), .second, .unset, .unset, .unset, .unset, .unset, .unset] [(.ref b24), (.ref b24)])) _
        refine XS.iconst X25.here hx rfl (hb hby at_208) ?_
        show Steps p.tables e below (T25.setTop (mkF m 209 #[.val (.long q1), .second, .val (.int p2), .val (.ref b1), .val (.ref bs), .val (.ref bp), .val (.long fa), .second, .val (.long fs'), .second, .val (.long fx), .second, .val (.long fy), .second, .unset, .unset, .unset, .unset, .unset, .unset] [(.int (1 : Int32)), (.ref b24), (.ref b24)])) _
        refine XS.lload X25.here hx rfl (hb hby at_209) rfl ?_
        show Steps p.tables e below (T25.setTop (mkF m 211 #[.val (.long q1), .second, .val (.int p2), .val (.ref b1), .val (.ref bs), .val (.ref bp), .val (.long fa), .second, .val (.long fs'), .second, .val (.long fx), .second, .val (.long fy), .second, .unset, .unset, .unset, .unset, .unset, .unset] [(.long fs'), (.int (1 : Int32)), (.ref b24), (.ref b24)])) _
        refine st26 _ ?_
        show Steps p.tables e below (T26.setTop (mkF m 212 #[.val (.long q1), .second, .val (.int p2), .val (.ref b1), .val (.ref bs), .val (.ref bp), .val (.long fa), .second, .val (.long fs'), .second, .val (.long fx), .second, .val (.long fy), .second, .unset, .unset, .unset, .unset, .unset, .unset] [(.ref b24)])) _
        refine XS.dup X26.here hx rfl (hb hby at_212) rfl rfl ?_
        show Steps p.tables e below (T26.setTop (mkF m 213 #[.val (.long q1), .second, .val (.int p2), .val (.ref b1), .val (.ref bs), .val (.ref bp), .val (.long fa), .second, .val (.long fs'), .second, .val (.long fx), .second, .val (.long fy), .second, .unset, .unset, .unset, .unset, .unset, .unset] [(.ref b24), (.ref b24)])) _
        refine XS.iconst X26.here hx rfl (hb hby at_213) ?_
        show Steps p.tables e below (T26.setTop (mkF m 214 #[.val (.long q1), .second, .val (.int p2), .val (.ref b1), .val (.ref bs), .val (.ref bp), .val (.long fa), .second, .val (.long fs'), .second, .val (.long fx), .second, .val (.long fy), .second, .unset, .unset, .unset, .unset, .unset, .unset] [(.int (2 : Int32)), (.ref b24), (.ref b24)])) _
        refine XS.lload X26.here hx rfl (hb hby at_214) rfl ?_
        show Steps p.tables e below (T26.setTop (mkF m 216 #[.val (.long q1), .second, .val (.int p2), .val (.ref b1), .val (.ref bs), .val (.ref bp), .val (.long fa), .second, .val (.long fs'), .second, .val (.long fx), .second, .val (.long fy), .second, .unset, .unset, .unset, .unset, .unset, .unset] [(.long fx), (.int (2 : Int32)), (.ref b24), (.ref b24)])) _
        refine st27 _ ?_
        show Steps p.tables e below (T27.setTop (mkF m 217 #[.val (.long q1), .second, .val (.int p2), .val (.ref b1), .val (.ref bs), .val (.ref bp), .val (.long fa), .second, .val (.long fs'), .second, .val (.long fx), .second, .val (.long fy), .second, .unset, .unset, .unset, .unset, .unset, .unset] [(.ref b24)])) _
        refine XS.dup X27.here hx rfl (hb hby at_217) rfl rfl ?_
        show Steps p.tables e below (T27.setTop (mkF m 218 #[.val (.long q1), .second, .val (.int p2), .val (.ref b1), .val (.ref bs), .val (.ref bp), .val (.long fa), .second, .val (.long fs'), .second, .val (.long fx), .second, .val (.long fy), .second, .unset, .unset, .unset, .unset, .unset, .unset] [(.ref b24), (.ref b24)])) _
        refine XS.iconst X27.here hx rfl (hb hby at_218) ?_
        show Steps p.tables e below (T27.setTop (mkF m 219 #[.val (.long q1), .second, .val (.int p2), .val (.ref b1), .val (.ref bs), .val (.ref bp), .val (.long fa), .second, .val (.long fs'), .second, .val (.long fx), .second, .val (.long fy), .second, .unset, .unset, .unset, .unset, .unset, .unset] [(.int (3 : Int32)), (.ref b24), (.ref b24)])) _
        refine XS.lload X27.here hx rfl (hb hby at_219) rfl ?_
        show Steps p.tables e below (T27.setTop (mkF m 221 #[.val (.long q1), .second, .val (.int p2), .val (.ref b1), .val (.ref bs), .val (.ref bp), .val (.long fa), .second, .val (.long fs'), .second, .val (.long fx), .second, .val (.long fy), .second, .unset, .unset, .unset, .unset, .unset, .unset] [(.long fy), (.int (3 : Int32)), (.ref b24), (.ref b24)])) _
        refine st28 _ ?_
        show Steps p.tables e below (T28.setTop (mkF m 222 #[.val (.long q1), .second, .val (.int p2), .val (.ref b1), .val (.ref bs), .val (.ref bp), .val (.long fa), .second, .val (.long fs'), .second, .val (.long fx), .second, .val (.long fy), .second, .unset, .unset, .unset, .unset, .unset, .unset] [(.ref b24)])) _
        refine st29 _ ?_
        show Steps p.tables e below (T29.setTop (mkF m 225 #[.val (.long q1), .second, .val (.int p2), .val (.ref b1), .val (.ref bs), .val (.ref bp), .val (.long fa), .second, .val (.long fs'), .second, .val (.long fx), .second, .val (.long fy), .second, .unset, .unset, .unset, .unset, .unset, .unset] [(.ref br)])) _
        refine XS.astore X29.here hx rfl (hb hby at_225) rfl rfl (l' := #[.val (.long q1), .second, .val (.int p2), .val (.ref b1), .val (.ref bs), .val (.ref bp), .val (.long fa), .second, .val (.long fs'), .second, .val (.long fx), .second, .val (.long fy), .second, .val (.ref br), .unset, .unset, .unset, .unset, .unset]) rfl ?_
        show Steps p.tables e below (T29.setTop (mkF m 227 #[.val (.long q1), .second, .val (.int p2), .val (.ref b1), .val (.ref bs), .val (.ref bp), .val (.long fa), .second, .val (.long fs'), .second, .val (.long fx), .second, .val (.long fy), .second, .val (.ref br), .unset, .unset, .unset, .unset, .unset] [])) _
        refine XS.aloadN X29.here hx rfl (hb hby at_227) rfl rfl ?_
        show Steps p.tables e below (T29.setTop (mkF m 228 #[.val (.long q1), .second, .val (.int p2), .val (.ref b1), .val (.ref bs), .val (.ref bp), .val (.long fa), .second, .val (.long fs'), .second, .val (.long fx), .second, .val (.long fy), .second, .val (.ref br), .unset, .unset, .unset, .unset, .unset] [(.ref b1)])) _
        refine st30.trans ?_
        show Steps p.tables e below (T30.setTop (mkF m 231 #[.val (.long q1), .second, .val (.int p2), .val (.ref b1), .val (.ref bs), .val (.ref bp), .val (.long fa), .second, .val (.long fs'), .second, .val (.long fx), .second, .val (.long fy), .second, .val (.ref br), .unset, .unset, .unset, .unset, .unset] [(.long dg)])) _
        refine XS.lstore X30.here hx rfl (hb hby at_231) rfl (l' := #[.val (.long q1), .second, .val (.int p2), .val (.ref b1), .val (.ref bs), .val (.ref bp), .val (.long fa), .second, .val (.long fs'), .second, .val (.long fx), .second, .val (.long fy), .second, .val (.ref br), .val (.long dg), .second, .unset, .unset, .unset]) rfl ?_
        show Steps p.tables e below (T30.setTop (mkF m 233 #[.val (.long q1), .second, .val (.int p2), .val (.ref b1), .val (.ref bs), .val (.ref bp), .val (.long fa), .second, .val (.long fs'), .second, .val (.long fx), .second, .val (.long fy), .second, .val (.ref br), .val (.long dg), .second, .unset, .unset, .unset] [])) _
        refine XS.aload X30.here hx rfl (hb hby at_233) rfl rfl ?_
        show Steps p.tables e below (T30.setTop (mkF m 235 #[.val (.long q1), .second, .val (.int p2), .val (.ref b1), .val (.ref bs), .val (.ref bp), .val (.long fa), .second, .val (.long fs'), .second, .val (.long fx), .second, .val (.long fy), .second, .val (.ref br), .val (.long dg), .second, .unset, .unset, .unset] [(.ref br)])) _
        refine st31.trans ?_
        show Steps p.tables e below (T31.setTop (mkF m 238 #[.val (.long q1), .second, .val (.int p2), .val (.ref b1), .val (.ref bs), .val (.ref bp), .val (.long fa), .second, .val (.long fs'), .second, .val (.long fx), .second, .val (.long fy), .second, .val (.ref br), .val (.long dg), .second, .unset, .unset, .unset] [(.long dr)])) _
        refine XS.lstore X31.here hx rfl (hb hby at_238) rfl (l' := #[.val (.long q1), .second, .val (.int p2), .val (.ref b1), .val (.ref bs), .val (.ref bp), .val (.long fa), .second, .val (.long fs'), .second, .val (.long fx), .second, .val (.long fy), .second, .val (.ref br), .val (.long dg), .second, .val (.long dr), .second, .unset]) rfl ?_
        show Steps p.tables e below (T31.setTop (mkF m 240 #[.val (.long q1), .second, .val (.int p2), .val (.ref b1), .val (.ref bs), .val (.ref bp), .val (.long fa), .second, .val (.long fs'), .second, .val (.long fx), .second, .val (.long fy), .second, .val (.ref br), .val (.long dg), .second, .val (.long dr), .second, .unset] [])) _
        refine XS.lload X31.here hx rfl (hb hby at_240) rfl ?_
        show Steps p.tables e below (T31.setTop (mkF m 242 #[.val (.long q1), .second, .val (.int p2), .val (.ref b1), .val (.ref bs), .val (.ref bp), .val (.long fa), .second, .val (.long fs'), .second, .val (.long fx), .second, .val (.long fy), .second, .val (.ref br), .val (.long dg), .second, .val (.long dr), .second, .unset] [(.long dg)])) _
        refine XS.lload X31.here hx rfl (hb hby at_242) rfl ?_
        show Steps p.tables e below (T31.setTop (mkF m 244 #[.val (.long q1), .second, .val (.int p2), .val (.ref b1), .val (.ref bs), .val (.ref bp), .val (.long fa), .second, .val (.long fs'), .second, .val (.long fx), .second, .val (.long fy), .second, .val (.ref br), .val (.long dg), .second, .val (.long dr), .second, .unset] [(.long dr), (.long dg)])) _
        refine XS.lcmp X31.here hx rfl (hb hby at_244) rfl ?_
        show Steps p.tables e below (T31.setTop (mkF m 245 #[.val (.long q1), .second, .val (.int p2), .val (.ref b1), .val (.ref bs), .val (.ref bp), .val (.long fa), .second, .val (.long fs'), .second, .val (.long fx), .second, .val (.long fy), .second, .val (.ref br), .val (.long dg), .second, .val (.long dr), .second, .unset] [(.int (lcmpW dg dr))])) _
        refine XS.ifYes X31.here hx rfl (pc0 := 245) (pc' := 250) rfl (hb hby at_245) rfl ((if0 _ _).trans (teq ((lw_eq _ _).mpr hc245)).1) (by decide) (by decide) ?_
        show Steps p.tables e below (T31.setTop (mkF m 250 #[.val (.long q1), .second, .val (.int p2), .val (.ref b1), .val (.ref bs), .val (.ref bp), .val (.long fa), .second, .val (.long fs'), .second, .val (.long fx), .second, .val (.long fy), .second, .val (.ref br), .val (.long dg), .second, .val (.long dr), .second, .unset] [])) _
        refine XS.aloadN X31.here hx rfl (hb hby at_250) rfl rfl ?_
        show Steps p.tables e below (T31.setTop (mkF m 251 #[.val (.long q1), .second, .val (.int p2), .val (.ref b1), .val (.ref bs), .val (.ref bp), .val (.long fa), .second, .val (.long fs'), .second, .val (.long fx), .second, .val (.long fy), .second, .val (.ref br), .val (.long dg), .second, .val (.long dr), .second, .unset] [(.ref b1)])) _
        refine st32.trans ?_
        show Steps p.tables e below (T32.setTop (mkF m 254 #[.val (.long q1), .second, .val (.int p2), .val (.ref b1), .val (.ref bs), .val (.ref bp), .val (.long fa), .second, .val (.long fs'), .second, .val (.long fx), .second, .val (.long fy), .second, .val (.ref br), .val (.long dg), .second, .val (.long dr), .second, .unset] [(.ref bq)])) _
        refine XS.astore X32.here hx rfl (hb hby at_254) rfl rfl (l' := #[.val (.long q1), .second, .val (.int p2), .val (.ref b1), .val (.ref bs), .val (.ref bp), .val (.long fa), .second, .val (.long fs'), .second, .val (.long fx), .second, .val (.long fy), .second, .val (.ref br), .val (.long dg), .second, .val (.long dr), .second, .val (.ref bq)]) rfl ?_
        show Steps p.tables e below (T32.setTop (mkF m 256 #[.val (.long q1), .second, .val (.int p2), .val (.ref b1), .val (.ref bs), .val (.ref bp), .val (.long fa), .second, .val (.long fs'), .second, .val (.long fx), .second, .val (.long fy), .second, .val (.ref br), .val (.long dg), .second, .val (.long dr), .second, .val (.ref bq)] [])) _
        refine XS.aload X32.here hx rfl (hb hby at_256) rfl rfl ?_
        show Steps p.tables e below (T32.setTop (mkF m 258 #[.val (.long q1), .second, .val (.int p2), .val (.ref b1), .val (.ref bs), .val (.ref bp), .val (.long fa), .second, .val (.long fs'), .second, .val (.long fx), .second, .val (.long fy), .second, .val (.ref br), .val (.long dg), .second, .val (.long dr), .second, .val (.ref bq)] [(.ref bq)])) _
        refine X32.arraylength hx Ar33.1 (State.isArrayOf_alike hZ.alike Ar33.2.1) (g := (mkF m 258 #[.val (.long q1), .second, .val (.int p2), .val (.ref b1), .val (.ref bs), .val (.ref bp), .val (.long fa), .second, .val (.long fs'), .second, .val (.long fx), .second, .val (.long fy), .second, .val (.ref br), .val (.long dg), .second, .val (.long dr), .second, .val (.ref bq)] [(.ref bq)])) rfl rfl (hb hby at_258) _ ?_
        rw [len_of S33 n33]
        show Steps p.tables e below (T32.setTop (mkF m 259 #[.val (.long q1), .second, .val (.int p2), .val (.ref b1), .val (.ref bs), .val (.ref bp), .val (.long fa), .second, .val (.long fs'), .second, .val (.long fx), .second, .val (.long fy), .second, .val (.ref br), .val (.long dg), .second, .val (.long dr), .second, .val (.ref bq)] [(.int (4 : Int32))])) _
        refine XS.iconst X32.here hx rfl (hb hby at_259) ?_
        show Steps p.tables e below (T32.setTop (mkF m 260 #[.val (.long q1), .second, .val (.int p2), .val (.ref b1), .val (.ref bs), .val (.ref bp), .val (.long fa), .second, .val (.long fs'), .second, .val (.long fx), .second, .val (.long fy), .second, .val (.ref br), .val (.long dg), .second, .val (.long dr), .second, .val (.ref bq)] [(.int (4 : Int32)), (.int (4 : Int32))])) _
        refine XS.icmpYes X32.here hx rfl (pc0 := 260) (pc' := 265) rfl (hb hby at_260) rfl (teq hc260).1 (by decide) (by decide) ?_
        show Steps p.tables e below (T32.setTop (mkF m 265 #[.val (.long q1), .second, .val (.int p2), .val (.ref b1), .val (.ref bs), .val (.ref bp), .val (.long fa), .second, .val (.long fs'), .second, .val (.long fx), .second, .val (.long fy), .second, .val (.ref br), .val (.long dg), .second, .val (.long dr), .second, .val (.ref bq)] [])) _
        refine XS.aload X32.here hx rfl (hb hby at_265) rfl rfl ?_
        show Steps p.tables e below (T32.setTop (mkF m 267 #[.val (.long q1), .second, .val (.int p2), .val (.ref b1), .val (.ref bs), .val (.ref bp), .val (.long fa), .second, .val (.long fs'), .second, .val (.long fx), .second, .val (.long fy), .second, .val (.ref br), .val (.long dg), .second, .val (.long dr), .second, .val (.ref bq)] [(.ref bq)])) _
        refine XS.iconst X32.here hx rfl (hb hby at_267) ?_
        show Steps p.tables e below (T32.setTop (mkF m 268 #[.val (.long q1), .second, .val (.int p2), .val (.ref b1), .val (.ref bs), .val (.ref bp), .val (.long fa), .second, .val (.long fs'), .second, .val (.long fx), .second, .val (.long fy), .second, .val (.ref br), .val (.long dg), .second, .val (.long dr), .second, .val (.ref bq)] [(.int (0 : Int32)), (.ref bq)])) _
        refine X32.laload hx (j := (0 : Int32)) (v := (.long fa)) Ar34.1 (State.isArrayOf_alike hZ.alike Ar34.2.1) Ar34.2.2 hin34 hat34 (g := (mkF m 268 #[.val (.long q1), .second, .val (.int p2), .val (.ref b1), .val (.ref bs), .val (.ref bp), .val (.long fa), .second, .val (.long fs'), .second, .val (.long fx), .second, .val (.long fy), .second, .val (.ref br), .val (.long dg), .second, .val (.long dr), .second, .val (.ref bq)] [(.int (0 : Int32)), (.ref bq)])) rfl rfl (hb hby at_268) _ ?_
        show Steps p.tables e below (T32.setTop (mkF m 269 #[.val (.long q1), .second, .val (.int p2), .val (.ref b1), .val (.ref bs), .val (.ref bp), .val (.long fa), .second, .val (.long fs'), .second, .val (.long fx), .second, .val (.long fy), .second, .val (.ref br), .val (.long dg), .second, .val (.long dr), .second, .val (.ref bq)] [(.long fa)])) _
        refine XS.lload X32.here hx rfl (hb hby at_269) rfl ?_
        show Steps p.tables e below (T32.setTop (mkF m 271 #[.val (.long q1), .second, .val (.int p2), .val (.ref b1), .val (.ref bs), .val (.ref bp), .val (.long fa), .second, .val (.long fs'), .second, .val (.long fx), .second, .val (.long fy), .second, .val (.ref br), .val (.long dg), .second, .val (.long dr), .second, .val (.ref bq)] [(.long fa), (.long fa)])) _
        refine XS.lcmp X32.here hx rfl (hb hby at_271) rfl ?_
        show Steps p.tables e below (T32.setTop (mkF m 272 #[.val (.long q1), .second, .val (.int p2), .val (.ref b1), .val (.ref bs), .val (.ref bp), .val (.long fa), .second, .val (.long fs'), .second, .val (.long fx), .second, .val (.long fy), .second, .val (.ref br), .val (.long dg), .second, .val (.long dr), .second, .val (.ref bq)] [(.int (lcmpW fa fa))])) _
        refine XS.ifYes X32.here hx rfl (pc0 := 272) (pc' := 277) rfl (hb hby at_272) rfl ((if0 _ _).trans (teq ((lw_eq _ _).mpr hc272)).1) (by decide) (by decide) ?_
        show Steps p.tables e below (T32.setTop (mkF m 277 #[.val (.long q1), .second, .val (.int p2), .val (.ref b1), .val (.ref bs), .val (.ref bp), .val (.long fa), .second, .val (.long fs'), .second, .val (.long fx), .second, .val (.long fy), .second, .val (.ref br), .val (.long dg), .second, .val (.long dr), .second, .val (.ref bq)] [])) _
        refine XS.aload X32.here hx rfl (hb hby at_277) rfl rfl ?_
        show Steps p.tables e below (T32.setTop (mkF m 279 #[.val (.long q1), .second, .val (.int p2), .val (.ref b1), .val (.ref bs), .val (.ref bp), .val (.long fa), .second, .val (.long fs'), .second, .val (.long fx), .second, .val (.long fy), .second, .val (.ref br), .val (.long dg), .second, .val (.long dr), .second, .val (.ref bq)] [(.ref bq)])) _
        refine XS.iconst X32.here hx rfl (hb hby at_279) ?_
        show Steps p.tables e below (T32.setTop (mkF m 280 #[.val (.long q1), .second, .val (.int p2), .val (.ref b1), .val (.ref bs), .val (.ref bp), .val (.long fa), .second, .val (.long fs'), .second, .val (.long fx), .second, .val (.long fy), .second, .val (.ref br), .val (.long dg), .second, .val (.long dr), .second, .val (.ref bq)] [(.int (1 : Int32)), (.ref bq)])) _
        refine X32.laload hx (j := (1 : Int32)) (v := (.long (own_s fa fs'))) Ar35.1 (State.isArrayOf_alike hZ.alike Ar35.2.1) Ar35.2.2 hin35 hat35 (g := (mkF m 280 #[.val (.long q1), .second, .val (.int p2), .val (.ref b1), .val (.ref bs), .val (.ref bp), .val (.long fa), .second, .val (.long fs'), .second, .val (.long fx), .second, .val (.long fy), .second, .val (.ref br), .val (.long dg), .second, .val (.long dr), .second, .val (.ref bq)] [(.int (1 : Int32)), (.ref bq)])) rfl rfl (hb hby at_280) _ ?_
        show Steps p.tables e below (T32.setTop (mkF m 281 #[.val (.long q1), .second, .val (.int p2), .val (.ref b1), .val (.ref bs), .val (.ref bp), .val (.long fa), .second, .val (.long fs'), .second, .val (.long fx), .second, .val (.long fy), .second, .val (.ref br), .val (.long dg), .second, .val (.long dr), .second, .val (.ref bq)] [(.long (own_s fa fs'))])) _
        refine X32.ldc2Long hx hown (mvT hZ (hw _ (List.mem_of_getElem? (i := 62) rfl))) (g := (mkF m 281 #[.val (.long q1), .second, .val (.int p2), .val (.ref b1), .val (.ref bs), .val (.ref bp), .val (.long fa), .second, .val (.long fs'), .second, .val (.long fx), .second, .val (.long fy), .second, .val (.ref br), .val (.long dg), .second, .val (.long dr), .second, .val (.ref bq)] [(.long (own_s fa fs'))])) rfl (hb hby at_281) _ ?_
        show Steps p.tables e below (T32.setTop (mkF m 284 #[.val (.long q1), .second, .val (.int p2), .val (.ref b1), .val (.ref bs), .val (.ref bp), .val (.long fa), .second, .val (.long fs'), .second, .val (.long fx), .second, .val (.long fy), .second, .val (.ref br), .val (.long dg), .second, .val (.long dr), .second, .val (.ref bq)] [(.long (-3372029247567499371 : Int64)), (.long (own_s fa fs'))])) _
        refine XS.lload X32.here hx rfl (hb hby at_284) rfl ?_
        show Steps p.tables e below (T32.setTop (mkF m 286 #[.val (.long q1), .second, .val (.int p2), .val (.ref b1), .val (.ref bs), .val (.ref bp), .val (.long fa), .second, .val (.long fs'), .second, .val (.long fx), .second, .val (.long fy), .second, .val (.ref br), .val (.long dg), .second, .val (.long dr), .second, .val (.ref bq)] [(.long fs'), (.long (-3372029247567499371 : Int64)), (.long (own_s fa fs'))])) _
        refine XS.lmul X32.here hx rfl (hb hby at_286) rfl ?_
        show Steps p.tables e below (T32.setTop (mkF m 287 #[.val (.long q1), .second, .val (.int p2), .val (.ref b1), .val (.ref bs), .val (.ref bp), .val (.long fa), .second, .val (.long fs'), .second, .val (.long fx), .second, .val (.long fy), .second, .val (.ref br), .val (.long dg), .second, .val (.long dr), .second, .val (.ref bq)] [(.long ((-3372029247567499371 : Int64) * fs')), (.long (own_s fa fs'))])) _
        refine XS.lload X32.here hx rfl (hb hby at_287) rfl ?_
        show Steps p.tables e below (T32.setTop (mkF m 289 #[.val (.long q1), .second, .val (.int p2), .val (.ref b1), .val (.ref bs), .val (.ref bp), .val (.long fa), .second, .val (.long fs'), .second, .val (.long fx), .second, .val (.long fy), .second, .val (.ref br), .val (.long dg), .second, .val (.long dr), .second, .val (.ref bq)] [(.long fa), (.long ((-3372029247567499371 : Int64) * fs')), (.long (own_s fa fs'))])) _
        refine XS.ladd X32.here hx rfl (hb hby at_289) rfl ?_
        show Steps p.tables e below (T32.setTop (mkF m 290 #[.val (.long q1), .second, .val (.int p2), .val (.ref b1), .val (.ref bs), .val (.ref bp), .val (.long fa), .second, .val (.long fs'), .second, .val (.long fx), .second, .val (.long fy), .second, .val (.ref br), .val (.long dg), .second, .val (.long dr), .second, .val (.ref bq)] [(.long (((-3372029247567499371 : Int64) * fs') + fa)), (.long (own_s fa fs'))])) _
        refine XS.lcmp X32.here hx rfl (hb hby at_290) rfl ?_
        show Steps p.tables e below (T32.setTop (mkF m 291 #[.val (.long q1), .second, .val (.int p2), .val (.ref b1), .val (.ref bs), .val (.ref bp), .val (.long fa), .second, .val (.long fs'), .second, .val (.long fx), .second, .val (.long fy), .second, .val (.ref br), .val (.long dg), .second, .val (.long dr), .second, .val (.ref bq)] [(.int (lcmpW (own_s fa fs') (((-3372029247567499371 : Int64) * fs') + fa)))])) _
        refine XS.ifYes X32.here hx rfl (pc0 := 291) (pc' := 296) rfl (hb hby at_291) rfl ((if0 _ _).trans (teq ((lw_eq _ _).mpr hc291)).1) (by decide) (by decide) ?_
        show Steps p.tables e below (T32.setTop (mkF m 296 #[.val (.long q1), .second, .val (.int p2), .val (.ref b1), .val (.ref bs), .val (.ref bp), .val (.long fa), .second, .val (.long fs'), .second, .val (.long fx), .second, .val (.long fy), .second, .val (.ref br), .val (.long dg), .second, .val (.long dr), .second, .val (.ref bq)] [])) _
        refine XS.aload X32.here hx rfl (hb hby at_296) rfl rfl ?_
        show Steps p.tables e below (T32.setTop (mkF m 298 #[.val (.long q1), .second, .val (.int p2), .val (.ref b1), .val (.ref bs), .val (.ref bp), .val (.long fa), .second, .val (.long fs'), .second, .val (.long fx), .second, .val (.long fy), .second, .val (.ref br), .val (.long dg), .second, .val (.long dr), .second, .val (.ref bq)] [(.ref br)])) _
        refine XS.aload X32.here hx rfl (hb hby at_298) rfl rfl ?_
        show Steps p.tables e below (T32.setTop (mkF m 300 #[.val (.long q1), .second, .val (.int p2), .val (.ref b1), .val (.ref bs), .val (.ref bp), .val (.long fa), .second, .val (.long fs'), .second, .val (.long fx), .second, .val (.long fy), .second, .val (.ref br), .val (.long dg), .second, .val (.long dr), .second, .val (.ref bq)] [(.ref bq), (.ref br)])) _
        refine st36.trans ?_
        show Steps p.tables e below (T36.setTop (mkF m 303 #[.val (.long q1), .second, .val (.int p2), .val (.ref b1), .val (.ref bs), .val (.ref bp), .val (.long fa), .second, .val (.long fs'), .second, .val (.long fx), .second, .val (.long fy), .second, .val (.ref br), .val (.long dg), .second, .val (.long dr), .second, .val (.ref bq)] [(.int fin)])) _
        have hnr : nar .boolean fin = fin := by rw [d_fin]; (repeat' split) <;> rfl
        exact retN X36 hx (t := .boolean) Bd.returns (by simp) (hb hby at_303) (by rw [hnr]; exact hr)
      · show Q0 Z q1 p2 h0 n0 _ T36.heap _
        rw [e36]
        exact ⟨(by rw [d_fin, if_pos ⟨rfl, rfl, rfl, rfl⟩]), N36⟩
  · obtain ⟨cq37, kq37, q37a, q37b, q37c⟩ := isOf hZ rfl E_b1
    obtain ⟨_, _, ⟨T37, L37, k37, n37⟩, -, X37, ⟨Lc37, hQ37, l37, y37, z37⟩, st37⟩ := X3.virtualBack hx (y := (⟨"com/example/driftline/driftline/model/LxmRandom", "nextLong", "()J"⟩ : MethodName)) (z := (⟨"com/example/driftline/driftline/model/LxmRandom", "nextLong", "()J"⟩ : MethodName)) hown (mvT hZ (hw _ (List.mem_of_getElem? (i := 48) rfl))) (mvT hZ (hw _ (List.mem_of_getElem? (i := 49) rfl))) (notFace_of_selects (args := #[]) (mvT hZ (hw _ (List.mem_of_getElem? (i := 51) rfl)))) (mvT hZ (hw _ (List.mem_of_getElem? (i := 51) rfl))) (mvT hZ (hw _ (List.mem_of_getElem? (i := 50) rfl))) (by decide) (backOf (W := 0) (rm9 l Z a0 hw [] b1 (own_ia q1) (1 : Int64) (own_ix q1) (own_iy q1) T3.heap n0 Z0 E_b1 g_b1 F_b1_a F_b1_s F_b1_x0 F_b1_x1) hZ (hw _ (List.mem_of_getElem? (i := 52) rfl)) (hw _ (List.mem_of_getElem? (i := 2) rfl)) (by decide) (by decide)) q37a q37c (g := (mkF m 55 #[.val (.long q1), .second, .val (.int p2), .val (.ref b1), .val (.ref bs), .unset, .unset, .unset, .unset, .unset, .unset, .unset, .unset, .unset, .unset, .unset, .unset, .unset, .unset, .unset] [(.ref b1)])) rfl (by rw [hml]; rfl) (Steps.refl _) (argsL := []) (rest := []) (lenOf pd_7 rfl) rfl (by show 2 * 0 + _ ≤ _; exact Nat.le_of_eq rfl) (hb hby at_55) (fun _ _ => ⟨rfl, rfl, (by decide : 2 + 0 ≤ _), (by decide : 8 + 0 ≤ _)⟩)
    dsimp only [Pt.U, Pt.locs, Pt.cells, Pt.slots] at X37 l37 y37 z37 st37 hQ37
    subst l37 y37 z37
    obtain ⟨nx, rfl, d_nx, N37q, K37, E_b1_new, F_b1_a_new, F_b1_s_new, F_b1_x0_new, F_b1_x1_new⟩ := hQ37
    have E_b1 := E_b1.keep K37
    have V_bs := V_bs.keep K37 (ninS (Ne.symm ne_b1_bs) nin0)
    have E_b1 := E_b1_new
    have F_b1_a := F_b1_a_new
    have F_b1_s := F_b1_s_new
    have F_b1_x0 := F_b1_x0_new
    have F_b1_x1 := F_b1_x1_new
    have Z0 : n0 ≤ T37.heap.size := Nat.le_trans Z0 K37.1
    have K0 := K0.trans K37 (allS (Or.inr sz_b1) all0)
    have N37 := Fr.app N3 N37q
    obtain ⟨fa, d_fa⟩ : ∃ z : Int64, z = (own_ia q1) := ⟨_, rfl⟩
    have F_b1_a : Fld Z T37.heap b1 "com/example/driftline/driftline/model/LxmRandom" "a" "J" (.long fa) := by rw [d_fa]; exact F_b1_a
    obtain ⟨fs', d_fs'⟩ : ∃ z : Int64, z = (own_s (own_ia q1) (1 : Int64)) := ⟨_, rfl⟩
    have F_b1_s : Fld Z T37.heap b1 "com/example/driftline/driftline/model/LxmRandom" "s" "J" (.long fs') := by rw [d_fs']; exact F_b1_s
    obtain ⟨fx, d_fx⟩ : ∃ z : Int64, z = (own_x0 (own_ix q1) (own_iy q1)) := ⟨_, rfl⟩
    have F_b1_x0 : Fld Z T37.heap b1 "com/example/driftline/driftline/model/LxmRandom" "x0" "J" (.long fx) := by rw [d_fx]; exact F_b1_x0
    obtain ⟨fy, d_fy⟩ : ∃ z : Int64, z = (own_x1 (own_ix q1) (own_iy q1)) := ⟨_, rfl⟩
    have F_b1_x1 : Fld Z T37.heap b1 "com/example/driftline/driftline/model/LxmRandom" "x1" "J" (.long fy) := by rw [d_fy]; exact F_b1_x1
    obtain ⟨cq38, kq38, q38a, q38b, q38c⟩ := isOf hZ rfl E_b1
    obtain ⟨_, _, ⟨T38, L38, k38, n38⟩, -, X38, ⟨Lc38, hQ38, l38, y38, z38⟩, st38⟩ := X37.virtualBack hx (y := (⟨"com/example/driftline/driftline/model/LxmRandom", "state", "()[J"⟩ : MethodName)) (z := (⟨"com/example/driftline/driftline/model/LxmRandom", "state", "()[J"⟩ : MethodName)) hown (mvT hZ (hw _ (List.mem_of_getElem? (i := 29) rfl))) (mvT hZ (hw _ (List.mem_of_getElem? (i := 30) rfl))) (notFace_of_selects (args := #[]) (mvT hZ (hw _ (List.mem_of_getElem? (i := 32) rfl)))) (mvT hZ (hw _ (List.mem_of_getElem? (i := 32) rfl))) (mvT hZ (hw _ (List.mem_of_getElem? (i := 31) rfl))) (by decide) (backOf (W := 0) (rm5 l Z a0 hw [] b1 fa fs' fx fy T37.heap n0 Z0 F_b1_a F_b1_s F_b1_x0 F_b1_x1) hZ (hw _ (List.mem_of_getElem? (i := 33) rfl)) (hw _ (List.mem_of_getElem? (i := 2) rfl)) (by decide) (by decide)) q38a q38c (g := (mkF m 60 #[.val (.long q1), .second, .val (.int p2), .val (.ref b1), .val (.ref bs), .unset, .unset, .unset, .unset, .unset, .unset, .unset, .unset, .unset, .unset, .unset, .unset, .unset, .unset, .unset] [(.ref b1)])) rfl (by rw [hml]; rfl) (Steps.refl _) (argsL := []) (rest := []) (lenOf pd_4 rfl) rfl (by show 2 * 0 + _ ≤ _; exact Nat.le_of_eq rfl) (hb hby at_60) (fun _ _ => ⟨rfl, rfl, (by decide : 2 + 1 ≤ _), (by decide : 8 + 4 ≤ _)⟩)
    dsimp only [Pt.U, Pt.locs, Pt.cells, Pt.slots] at X38 l38 y38 z38 st38 hQ38
    subst l38 y38 z38
    have lt38_b1 : b1 < T37.heap.size := E_b1.lt
    have lt38_bs : bs < T37.heap.size := V_bs.lt
    obtain ⟨bp, kk_38, rfl, d_bp, sz38, N38q, K38, V_bp_new⟩ := hQ38
    have E_b1 := E_b1.keep K38
    have F_b1_a := F_b1_a.keep K38 nin0
    have F_b1_s := F_b1_s.keep K38 nin0
    have F_b1_x0 := F_b1_x0.keep K38 nin0
    have F_b1_x1 := F_b1_x1.keep K38 nin0
    have V_bs := V_bs.keep K38 nin0
    have V_bp := V_bp_new
    have g_bp : n0 ≤ bp := Nat.le_trans Z0 sz38
    have sz_bp : h0.size ≤ bp := Nat.le_trans K0.1 sz38
    have ne_b1_bp : b1 ≠ bp := Nat.ne_of_lt (Nat.lt_of_lt_of_le lt38_b1 sz38)
    have ne_bs_bp : bs ≠ bp := Nat.ne_of_lt (Nat.lt_of_lt_of_le lt38_bs sz38)
    have Z0 : n0 ≤ T38.heap.size := Nat.le_trans Z0 K38.1
    have K0 := K0.trans K38 all0
    have N38 := Fr.app N37 N38q
    have V_tmp := V_bp
    obtain ⟨cl39, Ar39, aq39, S39, n39, H39, G39⟩ := V_tmp
    have hc69 : (4 : Int32) = (4 : Int32) := rfl
    have V_tmp := V_bp
    obtain ⟨cl40, Ar40, aq40, S40, n40, H40, G40⟩ := V_tmp
    have hin40 : ¬ ((0 : Int32) < 0 ∨ cl40.slots.size ≤ ((0 : Int32)).toNatClampNeg) := inb_of S40 ⟨by decide, by decide⟩
    have hat40 : cl40.slots[((0 : Int32)).toNatClampNeg]? = some (.long fa) := Has.at H40 hin40 rfl
    have V_tmp := V_bp
    obtain ⟨cl41, Ar41, aq41, S41, n41, H41, G41⟩ := V_tmp
    have hin41 : ¬ ((1 : Int32) < 0 ∨ cl41.slots.size ≤ ((1 : Int32)).toNatClampNeg) := inb_of S41 ⟨by decide, by decide⟩
    have hat41 : cl41.slots[((1 : Int32)).toNatClampNeg]? = some (.long fs') := Has.at H41 hin41 rfl
    have V_tmp := V_bp
    obtain ⟨cl42, Ar42, aq42, S42, n42, H42, G42⟩ := V_tmp
    have hin42 : ¬ ((2 : Int32) < 0 ∨ cl42.slots.size ≤ ((2 : Int32)).toNatClampNeg) := inb_of S42 ⟨by decide, by decide⟩
    have hat42 : cl42.slots[((2 : Int32)).toNatClampNeg]? = some (.long fx) := Has.at H42 hin42 rfl
    have V_tmp := V_bp
    obtain ⟨cl43, Ar43, aq43, S43, n43, H43, G43⟩ := V_tmp
    have hin43 : ¬ ((3 : Int32) < 0 ∨ cl43.slots.size ≤ ((3 : Int32)).toNatClampNeg) := inb_of S43 ⟨by decide, by decide⟩
    have hat43 : cl43.slots[((3 : Int32)).toNatClampNeg]? = some (.long fy) := Has.at H43 hin43 rfl
    have V_tmp := V_bp
    obtain ⟨cl44, Ar44, aq44, S44, n44, H44, G44⟩ := V_tmp
    have hin44 : ¬ ((0 : Int32) < 0 ∨ cl44.slots.size ≤ ((0 : Int32)).toNatClampNeg) := inb_of S44 ⟨by decide, by decide⟩
    obtain ⟨T44, h44, X44, e44, W44, st44⟩ := stJ X38 hx hZ rfl Ar44 (j := (0 : Int32)) hin44 (g := (mkF m 107 #[.val (.long q1), .second, .val (.int p2), .val (.ref b1), .val (.ref bs), .val (.ref bp), .val (.long fa), .second, .val (.long fs'), .second, .val (.long fx), .second, .val (.long fy), .second, .unset, .unset, .unset, .unset, .unset, .unset] [(.long (fa ^^^ (2 : Int64))), (.int (0 : Int32)), (.ref bp)])) rfl rfl (hb hby at_107)
    have V_bs := V_bs.other W44 ne_bs_bp
    have V_bp : Arv Z h44 bp kk_38 .long (4 : Int32) [(.long (fa ^^^ (2 : Int64))), (.long fs'), (.long fx), (.long fy)] (.long (0 : Int64)) := Arv.set Ar44 aq44 S44 n44 H44 G44 rfl W44 0 rfl (Nat.le_of_ble_eq_true rfl)
    have F_b1_a := F_b1_a.other W44 (Or.inl ne_b1_bp)
    have F_b1_s := F_b1_s.other W44 (Or.inl ne_b1_bp)
    have F_b1_x0 := F_b1_x0.other W44 (Or.inl ne_b1_bp)
    have F_b1_x1 := F_b1_x1.other W44 (Or.inl ne_b1_bp)
    have E_b1 := E_b1.wr W44
    have Z0 : n0 ≤ h44.size := by rw [W44.size]; exact Z0
    have K0 := K0.wr W44 (Or.inr sz_bp)
    have N44 := Fr.snoc X44 N38 g_bp
    have V_tmp := V_bp
    obtain ⟨cl45, Ar45, aq45, S45, n45, H45, G45⟩ := V_tmp
    have hin45 : ¬ ((1 : Int32) < 0 ∨ cl45.slots.size ≤ ((1 : Int32)).toNatClampNeg) := inb_of S45 ⟨by decide, by decide⟩
    obtain ⟨T45, h45, X45, e45, W45, st45⟩ := stJ X44 hx hZ e44 Ar45 (j := (1 : Int32)) hin45 (g := (mkF m 115 #[.val (.long q1), .second, .val (.int p2), .val (.ref b1), .val (.ref bs), .val (.ref bp), .val (.long fa), .second, .val (.long fs'), .second, .val (.long fx), .second, .val (.long fy), .second, .unset, .unset, .unset, .unset, .unset, .unset] [(.long (fs' ^^^ (1 : Int64))), (.int (1 : Int32)), (.ref bp)])) rfl rfl (hb hby at_115)
    have V_bs := V_bs.other W45 ne_bs_bp
    have V_bp : Arv Z h45 bp kk_38 .long (4 : Int32) [(.long (fa ^^^ (2 : Int64))), (.long (fs' ^^^ (1 : Int64))), (.long fx), (.long fy)] (.long (0 : Int64)) := Arv.set Ar45 aq45 S45 n45 H45 G45 rfl W45 1 rfl (Nat.le_of_ble_eq_true rfl)
    have F_b1_a := F_b1_a.other W45 (Or.inl ne_b1_bp)
    have F_b1_s := F_b1_s.other W45 (Or.inl ne_b1_bp)
    have F_b1_x0 := F_b1_x0.other W45 (Or.inl ne_b1_bp)
    have F_b1_x1 := F_b1_x1.other W45 (Or.inl ne_b1_bp)
    have E_b1 := E_b1.wr W45
    have Z0 : n0 ≤ h45.size := by rw [W45.size]; exact Z0
    have K0 := K0.wr W45 (Or.inr sz_bp)
    have N45 := Fr.snoc X45 N44 g_bp
    have V_tmp := V_bp
    obtain ⟨cl46, Ar46, aq46, S46, n46, H46, G46⟩ := V_tmp
    have hin46 : ¬ ((2 : Int32) < 0 ∨ cl46.slots.size ≤ ((2 : Int32)).toNatClampNeg) := inb_of S46 ⟨by decide, by decide⟩
    obtain ⟨T46, h46, X46, e46, W46, st46⟩ := stJ X45 hx hZ e45 Ar46 (j := (2 : Int32)) hin46 (g := (mkF m 123 #[.val (.long q1), .second, .val (.int p2), .val (.ref b1), .val (.ref bs), .val (.ref bp), .val (.long fa), .second, .val (.long fs'), .second, .val (.long fx), .second, .val (.long fy), .second, .unset, .unset, .unset, .unset, .unset, .unset] [(.long (fx ^^^ (1 : Int64))), (.int (2 : Int32)), (.ref bp)])) rfl rfl (hb hby at_123)
    have V_bs := V_bs.other W46 ne_bs_bp
    have V_bp : Arv Z h46 bp kk_38 .long (4 : Int32) [(.long (fa ^^^ (2 : Int64))), (.long (fs' ^^^ (1 : Int64))), (.long (fx ^^^ (1 : Int64))), (.long fy)] (.long (0 : Int64)) := Arv.set Ar46 aq46 S46 n46 H46 G46 rfl W46 2 rfl (Nat.le_of_ble_eq_true rfl)
    have F_b1_a := F_b1_a.other W46 (Or.inl ne_b1_bp)
    have F_b1_s := F_b1_s.other W46 (Or.inl ne_b1_bp)
    have F_b1_x0 := F_b1_x0.other W46 (Or.inl ne_b1_bp)
    have F_b1_x1 := F_b1_x1.other W46 (Or.inl ne_b1_bp)
    have E_b1 := E_b1.wr W46
    have Z0 : n0 ≤ h46.size := by rw [W46.size]; exact Z0
    have K0 := K0.wr W46 (Or.inr sz_bp)
    have N46 := Fr.snoc X46 N45 g_bp
    have V_tmp := V_bp
    obtain ⟨cl47, Ar47, aq47, S47, n47, H47, G47⟩ := V_tmp
    have hin47 : ¬ ((3 : Int32) < 0 ∨ cl47.slots.size ≤ ((3 : Int32)).toNatClampNeg) := inb_of S47 ⟨by decide, by decide⟩
    obtain ⟨T47, h47, X47, e47, W47, st47⟩ := stJ X46 hx hZ e46 Ar47 (j := (3 : Int32)) hin47 (g := (mkF m 131 #[.val (.long q1), .second, .val (.int p2), .val (.ref b1), .val (.ref bs), .val (.ref bp), .val (.long fa), .second, .val (.long fs'), .second, .val (.long fx), .second, .val (.long fy), .second, .unset, .unset, .unset, .unset, .unset, .unset] [(.long (fy ^^^ (1 : Int64))), (.int (3 : Int32)), (.ref bp)])) rfl rfl (hb hby at_131)
    have V_bs := V_bs.other W47 ne_bs_bp
    have V_bp : Arv Z h47 bp kk_38 .long (4 : Int32) [(.long (fa ^^^ (2 : Int64))), (.long (fs' ^^^ (1 : Int64))), (.long (fx ^^^ (1 : Int64))), (.long (fy ^^^ (1 : Int64)))] (.long (0 : Int64)) := Arv.set Ar47 aq47 S47 n47 H47 G47 rfl W47 3 rfl (Nat.le_of_ble_eq_true rfl)
    have F_b1_a := F_b1_a.other W47 (Or.inl ne_b1_bp)
    have F_b1_s := F_b1_s.other W47 (Or.inl ne_b1_bp)
    have F_b1_x0 := F_b1_x0.other W47 (Or.inl ne_b1_bp)
    have F_b1_x1 := F_b1_x1.other W47 (Or.inl ne_b1_bp)
    have E_b1 := E_b1.wr W47
    have Z0 : n0 ≤ h47.size := by rw [W47.size]; exact Z0
    have K0 := K0.wr W47 (Or.inr sz_bp)
    have N47 := Fr.snoc X47 N46 g_bp
    have V_tmp := V_bs
    obtain ⟨cl48, Ar48, aq48, S48, n48, H48, G48⟩ := V_tmp
    have hin48 : ¬ ((0 : Int32) < 0 ∨ cl48.slots.size ≤ ((0 : Int32)).toNatClampNeg) := inb_of S48 ⟨by decide, by decide⟩
    have hat48 : cl48.slots[((0 : Int32)).toNatClampNeg]? = some (.long (own_ia q1)) := Has.at H48 hin48 rfl
    have hc139 : fa = (own_ia q1) := d_fa
    have hc150 : ¬ ((fa &&& (1 : Int64)) = (0 : Int64)) := by first | (rw [d_fa]; exact own_odd _) | exact own_odd _
    obtain ⟨T49, h49, k49, X49, e49, E49, A49, st49⟩ := newP X47 hx hZ (hw _ (List.mem_of_getElem? (i := 34) rfl)) e47 (g := (mkF m 157 #[.val (.long q1), .second, .val (.int p2), .val (.ref b1), .val (.ref bs), .val (.ref bp), .val (.long fa), .second, .val (.long fs'), .second, .val (.long fx), .second, .val (.long fy), .second, .unset, .unset, .unset, .unset, .unset, .unset] [(.int (4 : Int32)), (.ref b1)])) rfl (hb hby at_157) rfl (by decide) (cap := 4) (by decide) (by decide) (by decide) (by decide)
    obtain ⟨b49, g49⟩ : ∃ z, z = h47.size := ⟨_, rfl⟩
    rw [← g49] at A49 st49
    have g_b49 : n0 ≤ b49 := Nat.le_trans Z0 (Nat.le_of_eq g49.symm)
    have sz_b49 : h0.size ≤ b49 := Nat.le_trans K0.1 (Nat.le_of_eq g49.symm)
    have ne_b1_b49 : b1 ≠ b49 := Nat.ne_of_lt (Nat.lt_of_lt_of_le E_b1.lt (Nat.le_of_eq g49.symm))
    have ne_bs_b49 : bs ≠ b49 := Nat.ne_of_lt (Nat.lt_of_lt_of_le V_bs.lt (Nat.le_of_eq g49.symm))
    have ne_bp_b49 : bp ≠ b49 := Nat.ne_of_lt (Nat.lt_of_lt_of_le V_bp.lt (Nat.le_of_eq g49.symm))
    have E_b1 := E_b1.ext E49
    have F_b1_a := F_b1_a.ext E49
    have F_b1_s := F_b1_s.ext E49
    have F_b1_x0 := F_b1_x0.ext E49
    have F_b1_x1 := F_b1_x1.ext E49
    have V_bs := V_bs.ext E49
    have V_bp := V_bp.ext E49
    have Z0 : n0 ≤ h49.size := Nat.le_trans Z0 E49.1
    have K0 := K0.ext E49
    have V_b49 : Arv Z h49 b49 k49 .long (4 : Int32) [(.long (0 : Int64)), (.long (0 : Int64)), (.long (0 : Int64)), (.long (0 : Int64))] (.long (0 : Int64)) := (Arv.new A49 (by decide)).pad (pad_rep [] (.long (0 : Int64)) 4)
    have V_tmp := V_b49
    obtain ⟨cl50, Ar50, aq50, S50, n50, H50, G50⟩ := V_tmp
    have hin50 : ¬ ((0 : Int32) < 0 ∨ cl50.slots.size ≤ ((0 : Int32)).toNatClampNeg) := inb_of S50 ⟨by decide, by decide⟩
    obtain ⟨T50, h50, X50, e50, W50, st50⟩ := stJ X49 hx hZ e49 Ar50 (j := (0 : Int32)) hin50 (g := (mkF m 163 #[.val (.long q1), .second, .val (.int p2), .val (.ref b1), .val (.ref bs), .val (.ref bp), .val (.long fa), .second, .val (.long fs'), .second, .val (.long fx), .second, .val (.long fy), .second, .unset, .unset, .unset, .unset, .unset, .unset] [(.long fa), (.int (0 : Int32)), (.ref b49), (.ref b49), (.ref b1)])) rfl rfl (hb hby at_163)
    have V_bs := V_bs.other W50 ne_bs_b49
    have V_bp := V_bp.other W50 ne_bp_b49
    have V_b49 : Arv Z h50 b49 k49 .long (4 : Int32) [(.long fa), (.long (0 : Int64)), (.long (0 : Int64)), (.long (0 : Int64))] (.long (0 : Int64)) := Arv.set Ar50 aq50 S50 n50 H50 G50 rfl W50 0 rfl (Nat.le_of_ble_eq_true rfl)
    have F_b1_a := F_b1_a.other W50 (Or.inl ne_b1_b49)
    have F_b1_s := F_b1_s.other W50 (Or.inl ne_b1_b49)
    have F_b1_x0 := F_b1_x0.other W50 (Or.inl ne_b1_b49)
    have F_b1_x1 := F_b1_x1.other W50 (Or.inl ne_b1_b49)
    have E_b1 := E_b1.wr W50
    have Z0 : n0 ≤ h50.size := by rw [W50.size]; exact Z0
    have K0 := K0.wr W50 (Or.inr sz_b49)
    have N50 := Fr.snoc X50 N47 g_b49
    have V_tmp := V_b49
    obtain ⟨cl51, Ar51, aq51, S51, n51, H51, G51⟩ := V_tmp
    have hin51 : ¬ ((1 : Int32) < 0 ∨ cl51.slots.size ≤ ((1 : Int32)).toNatClampNeg) := inb_of S51 ⟨by decide, by decide⟩
    obtain ⟨T51, h51, X51, e51, W51, st51⟩ := stJ X50 hx hZ e50 Ar51 (j := (1 : Int32)) hin51 (g := (mkF m 168 #[.val (.long q1), .second, .val (.int p2), .val (.ref b1), .val (.ref bs), .val (.ref bp), .val (.long fa), .second, .val (.long fs'), .second, .val (.long fx), .second, .val (.long fy), .second, .unset, .unset, .unset, .unset, .unset, .unset] [(.long fs'), (.int (1 : Int32)), (.ref b49), (.ref b49), (.ref b1)])) rfl rfl (hb hby at_168)
    have V_bs := V_bs.other W51 ne_bs_b49
    have V_bp := V_bp.other W51 ne_bp_b49
    have V_b49 : Arv Z h51 b49 k49 .long (4 : Int32) [(.long fa), (.long fs'), (.long (0 : Int64)), (.long (0 : Int64))] (.long (0 : Int64)) := Arv.set Ar51 aq51 S51 n51 H51 G51 rfl W51 1 rfl (Nat.le_of_ble_eq_true rfl)
    have F_b1_a := F_b1_a.other W51 (Or.inl ne_b1_b49)
    have F_b1_s := F_b1_s.other W51 (Or.inl ne_b1_b49)
    have F_b1_x0 := F_b1_x0.other W51 (Or.inl ne_b1_b49)
    have F_b1_x1 := F_b1_x1.other W51 (Or.inl ne_b1_b49)
    have E_b1 := E_b1.wr W51
    have Z0 : n0 ≤ h51.size := by rw [W51.size]; exact Z0
    have K0 := K0.wr W51 (Or.inr sz_b49)
    have N51 := Fr.snoc X51 N50 g_b49
    have V_tmp := V_b49
    obtain ⟨cl52, Ar52, aq52, S52, n52, H52, G52⟩ := V_tmp
    have hin52 : ¬ ((2 : Int32) < 0 ∨ cl52.slots.size ≤ ((2 : Int32)).toNatClampNeg) := inb_of S52 ⟨by decide, by decide⟩
    obtain ⟨T52, h52, X52, e52, W52, st52⟩ := stJ X51 hx hZ e51 Ar52 (j := (2 : Int32)) hin52 (g := (mkF m 173 #[.val (.long q1), .second, .val (.int p2), .val (.ref b1), .val (.ref bs), .val (.ref bp), .val (.long fa), .second, .val (.long fs'), .second, .val (.long fx), .second, .val (.long fy), .second, .unset, .unset, .unset, .unset, .unset, .unset] [(.long fx), (.int (2 : Int32)), (.ref b49), (.ref b49), (.ref b1)])) rfl rfl (hb hby at_173)
    have V_bs := V_bs.other W52 ne_bs_b49
    have V_bp := V_bp.other W52 ne_bp_b49
    have V_b49 : Arv Z h52 b49 k49 .long (4 : Int32) [(.long fa), (.long fs'), (.long fx), (.long (0 : Int64))] (.long (0 : Int64)) := Arv.set Ar52 aq52 S52 n52 H52 G52 rfl W52 2 rfl (Nat.le_of_ble_eq_true rfl)
    have F_b1_a := F_b1_a.other W52 (Or.inl ne_b1_b49)
    have F_b1_s := F_b1_s.other W52 (Or.inl ne_b1_b49)
    have F_b1_x0 := F_b1_x0.other W52 (Or.inl ne_b1_b49)
    have F_b1_x1 := F_b1_x1.other W52 (Or.inl ne_b1_b49)
    have E_b1 := E_b1.wr W52
    have Z0 : n0 ≤ h52.size := by rw [W52.size]; exact Z0
    have K0 := K0.wr W52 (Or.inr sz_b49)
    have N52 := Fr.snoc X52 N51 g_b49
    have V_tmp := V_b49
    obtain ⟨cl53, Ar53, aq53, S53, n53, H53, G53⟩ := V_tmp
    have hin53 : ¬ ((3 : Int32) < 0 ∨ cl53.slots.size ≤ ((3 : Int32)).toNatClampNeg) := inb_of S53 ⟨by decide, by decide⟩
    obtain ⟨T53, h53, X53, e53, W53, st53⟩ := stJ X52 hx hZ e52 Ar53 (j := (3 : Int32)) hin53 (g := (mkF m 178 #[.val (.long q1), .second, .val (.int p2), .val (.ref b1), .val (.ref bs), .val (.ref bp), .val (.long fa), .second, .val (.long fs'), .second, .val (.long fx), .second, .val (.long fy), .second, .unset, .unset, .unset, .unset, .unset, .unset] [(.long fy), (.int (3 : Int32)), (.ref b49), (.ref b49), (.ref b1)])) rfl rfl (hb hby at_178)
    have V_bs := V_bs.other W53 ne_bs_b49
    have V_bp := V_bp.other W53 ne_bp_b49
    have V_b49 : Arv Z h53 b49 k49 .long (4 : Int32) [(.long fa), (.long fs'), (.long fx), (.long fy)] (.long (0 : Int64)) := Arv.set Ar53 aq53 S53 n53 H53 G53 rfl W53 3 rfl (Nat.le_of_ble_eq_true rfl)
    have F_b1_a := F_b1_a.other W53 (Or.inl ne_b1_b49)
    have F_b1_s := F_b1_s.other W53 (Or.inl ne_b1_b49)
    have F_b1_x0 := F_b1_x0.other W53 (Or.inl ne_b1_b49)
    have F_b1_x1 := F_b1_x1.other W53 (Or.inl ne_b1_b49)
    have E_b1 := E_b1.wr W53
    have Z0 : n0 ≤ h53.size := by rw [W53.size]; exact Z0
    have K0 := K0.wr W53 (Or.inr sz_b49)
    have N53 := Fr.snoc X53 N52 g_b49
    obtain ⟨cq54, kq54, q54a, q54b, q54c⟩ := isOf hZ e53 E_b1
    obtain ⟨_, _, ⟨T54, L54, k54, n54⟩, -, X54, ⟨Lc54, hQ54, l54, y54, z54⟩, st54⟩ := X53.virtualBack hx (y := (⟨"com/example/driftline/driftline/model/LxmRandom", "inState", "([J)Z"⟩ : MethodName)) (z := (⟨"com/example/driftline/driftline/model/LxmRandom", "inState", "([J)Z"⟩ : MethodName)) hown (mvT hZ (hw _ (List.mem_of_getElem? (i := 36) rfl))) (mvT hZ (hw _ (List.mem_of_getElem? (i := 37) rfl))) (notFace_of_selects (args := #[]) (mvT hZ (hw _ (List.mem_of_getElem? (i := 39) rfl)))) (mvT hZ (hw _ (List.mem_of_getElem? (i := 39) rfl))) (mvT hZ (hw _ (List.mem_of_getElem? (i := 38) rfl))) (by decide) (backOf (W := 0) (rm6 l Z a0 hw [] b1 b49 fa fs' fx fy k49 fa fs' fx fy h53 n0 Z0 F_b1_a F_b1_s F_b1_x0 F_b1_x1 V_b49) hZ (hw _ (List.mem_of_getElem? (i := 40) rfl)) (hw _ (List.mem_of_getElem? (i := 2) rfl)) (by decide) (by decide)) q54a q54c (g := (mkF m 179 #[.val (.long q1), .second, .val (.int p2), .val (.ref b1), .val (.ref bs), .val (.ref bp), .val (.long fa), .second, .val (.long fs'), .second, .val (.long fx), .second, .val (.long fy), .second, .unset, .unset, .unset, .unset, .unset, .unset] [(.ref b49), (.ref b1)])) rfl (by rw [hml]; rfl) (Steps.refl _) (argsL := [(.ref b49)]) (rest := []) (lenOf pd_5 rfl) rfl (by show 2 * 0 + _ ≤ _; exact Nat.le_of_eq rfl) (hb hby at_179) (fun _ _ => ⟨rfl, e53, (by decide : 4 + 0 ≤ _), (by decide : 16 + 0 ≤ _)⟩)
    dsimp only [Pt.U, Pt.locs, Pt.cells, Pt.slots] at X54 l54 y54 z54 st54 hQ54
    subst l54 y54 z54
    obtain ⟨ins, rfl, d_ins, N54q, e54⟩ := hQ54
    have N54 := Fr.app N53 N54q
    have hc182 : ¬ (ins = (0 : Int32)) := by rw [d_ins, if_pos ⟨rfl, rfl, rfl, rfl⟩]; decide
    refine own_go (S' := fun t => Steps p.tables e below (T54.setTop (mkF m 194 #[.val (.long q1), .second, .val (.int p2), .val (.ref b1), .val (.ref bs), .val (.ref bp), .val (.long fa), .second, .val (.long fs'), .second, .val (.long fx), .second, .val (.long fy), .second, .unset, .unset, .unset, .unset, .unset, .unset] [(.int (lcmpW (fx ||| fy) (0 : Int64)))])) t) (fun t k => ?_) ?_
    · show Steps p.tables e below (T3.setTop (mkF m 51 #[.val (.long q1), .second, .val (.int p2), .val (.ref b1), .val (.ref bs), .unset, .unset, .unset, .unset, .unset, .unset, .unset, .unset, .unset, .unset, .unset, .unset, .unset, .unset, .unset] [(.int (p2 &&& (1 : Int32)))])) _
      refine XS.ifNo X3.here hx rfl (hb hby at_51) rfl ((if0 _ _).trans (feq hc51).1) ?_
      show Steps p.tables e below (T3.setTop (mkF m 54 #[.val (.long q1), .second, .val (.int p2), .val (.ref b1), .val (.ref bs), .unset, .unset, .unset, .unset, .unset, .unset, .unset, .unset, .unset, .unset, .unset, .unset, .unset, .unset, .unset] [])) _
      refine XS.aloadN X3.here hx rfl (hb hby at_54) rfl rfl ?_
      show Steps p.tables e below (T3.setTop (mkF m 55 #[.val (.long q1), .second, .val (.int p2), .val (.ref b1), .val (.ref bs), .unset, .unset, .unset, .unset, .unset, .unset, .unset, .unset, .unset, .unset, .unset, .unset, .unset, .unset, .unset] [(.ref b1)])) _
      refine st37.trans ?_
      show Steps p.tables e below (T37.setTop (mkF m 58 #[.val (.long q1), .second, .val (.int p2), .val (.ref b1), .val (.ref bs), .unset, .unset, .unset, .unset, .unset, .unset, .unset, .unset, .unset, .unset, .unset, .unset, .unset, .unset, .unset] [(.long nx)])) _
      jvm_step X37.here [X37.here.top, hx, (hb hby at_58), Value.category]
      show Steps p.tables e below (T37.setTop (mkF m 59 #[.val (.long q1), .second, .val (.int p2), .val (.ref b1), .val (.ref bs), .unset, .unset, .unset, .unset, .unset, .unset, .unset, .unset, .unset, .unset, .unset, .unset, .unset, .unset, .unset] [])) _
      refine XS.aloadN X37.here hx rfl (hb hby at_59) rfl rfl ?_
      show Steps p.tables e below (T37.setTop (mkF m 60 #[.val (.long q1), .second, .val (.int p2), .val (.ref b1), .val (.ref bs), .unset, .unset, .unset, .unset, .unset, .unset, .unset, .unset, .unset, .unset, .unset, .unset, .unset, .unset, .unset] [(.ref b1)])) _
      refine st38.trans ?_
      show Steps p.tables e below (T38.setTop (mkF m 63 #[.val (.long q1), .second, .val (.int p2), .val (.ref b1), .val (.ref bs), .unset, .unset, .unset, .unset, .unset, .unset, .unset, .unset, .unset, .unset, .unset, .unset, .unset, .unset, .unset] [(.ref bp)])) _
      refine XS.astore X38.here hx rfl (hb hby at_63) rfl rfl (l' := #[.val (.long q1), .second, .val (.int p2), .val (.ref b1), .val (.ref bs), .val (.ref bp), .unset, .unset, .unset, .unset, .unset, .unset, .unset, .unset, .unset, .unset, .unset, .unset, .unset, .unset]) rfl ?_
      show Steps p.tables e below (T38.setTop (mkF m 65 #[.val (.long q1), .second, .val (.int p2), .val (.ref b1), .val (.ref bs), .val (.ref bp), .unset, .unset, .unset, .unset, .unset, .unset, .unset, .unset, .unset, .unset, .unset, .unset, .unset, .unset] [])) _
      refine XS.aload X38.here hx rfl (hb hby at_65) rfl rfl ?_
      show Steps p.tables e below (T38.setTop (mkF m 67 #[.val (.long q1), .second, .val (.int p2), .val (.ref b1), .val (.ref bs), .val (.ref bp), .unset, .unset, .unset, .unset, .unset, .unset, .unset, .unset, .unset, .unset, .unset, .unset, .unset, .unset] [(.ref bp)])) _
      refine X38.arraylength hx Ar39.1 (State.isArrayOf_alike hZ.alike Ar39.2.1) (g := (mkF m 67 #[.val (.long q1), .second, .val (.int p2), .val (.ref b1), .val (.ref bs), .val (.ref bp), .unset, .unset, .unset, .unset, .unset, .unset, .unset, .unset, .unset, .unset, .unset, .unset, .unset, .unset] [(.ref bp)])) rfl rfl (hb hby at_67) _ ?_
      rw [len_of S39 n39]
      show Steps p.tables e below (T38.setTop (mkF m 68 #[.val (.long q1), .second, .val (.int p2), .val (.ref b1), .val (.ref bs), .val (.ref bp), .unset, .unset, .unset, .unset, .unset, .unset, .unset, .unset, .unset, .unset, .unset, .unset, .unset, .unset] [(.int (4 : Int32))])) _
      refine XS.iconst X38.here hx rfl (hb hby at_68) ?_
      show Steps p.tables e below (T38.setTop (mkF m 69 #[.val (.long q1), .second, .val (.int p2), .val (.ref b1), .val (.ref bs), .val (.ref bp), .unset, .unset, .unset, .unset, .unset, .unset, .unset, .unset, .unset, .unset, .unset, .unset, .unset, .unset] [(.int (4 : Int32)), (.int (4 : Int32))])) _
      refine XS.icmpYes X38.here hx rfl (pc0 := 69) (pc' := 74) rfl (hb hby at_69) rfl (teq hc69).1 (by decide) (by decide) ?_
      show Steps p.tables e below (T38.setTop (mkF m 74 #[.val (.long q1), .second, .val (.int p2), .val (.ref b1), .val (.ref bs), .val (.ref bp), .unset, .unset, .unset, .unset, .unset, .unset, .unset, .unset, .unset, .unset, .unset, .unset, .unset, .unset] [])) _
      refine XS.aload X38.here hx rfl (hb hby at_74) rfl rfl ?_
      show Steps p.tables e below (T38.setTop (mkF m 76 #[.val (.long q1), .second, .val (.int p2), .val (.ref b1), .val (.ref bs), .val (.ref bp), .unset, .unset, .unset, .unset, .unset, .unset, .unset, .unset, .unset, .unset, .unset, .unset, .unset, .unset] [(.ref bp)])) _
      refine XS.iconst X38.here hx rfl (hb hby at_76) ?_
      show Steps p.tables e below (T38.setTop (mkF m 77 #[.val (.long q1), .second, .val (.int p2), .val (.ref b1), .val (.ref bs), .val (.ref bp), .unset, .unset, .unset, .unset, .unset, .unset, .unset, .unset, .unset, .unset, .unset, .unset, .unset, .unset] [(.int (0 : Int32)), (.ref bp)])) _
      refine X38.laload hx (j := (0 : Int32)) (v := (.long fa)) Ar40.1 (State.isArrayOf_alike hZ.alike Ar40.2.1) Ar40.2.2 hin40 hat40 (g := (mkF m 77 #[.val (.long q1), .second, .val (.int p2), .val (.ref b1), .val (.ref bs), .val (.ref bp), .unset, .unset, .unset, .unset, .unset, .unset, .unset, .unset, .unset, .unset, .unset, .unset, .unset, .unset] [(.int (0 : Int32)), (.ref bp)])) rfl rfl (hb hby at_77) _ ?_
      show Steps p.tables e below (T38.setTop (mkF m 78 #[.val (.long q1), .second, .val (.int p2), .val (.ref b1), .val (.ref bs), .val (.ref bp), .unset, .unset, .unset, .unset, .unset, .unset, .unset, .unset, .unset, .unset, .unset, .unset, .unset, .unset] [(.long fa)])) _
      refine XS.lstore X38.here hx rfl (hb hby at_78) rfl (l' := #[.val (.long q1), .second, .val (.int p2), .val (.ref b1), .val (.ref bs), .val (.ref bp), .val (.long fa), .second, .unset, .unset, .unset, .unset, .unset, .unset, .unset, .unset, .unset, .unset, .unset, .unset]) rfl ?_
      show Steps p.tables e below (T38.setTop (mkF m 80 #[.val (.long q1), .second, .val (.int p2), .val (.ref b1), .val (.ref bs), .val (.ref bp), .val (.long fa), .second, .unset, .unset, .unset, .unset, .unset, .unset, .unset, .unset, .unset, .unset, .unset, .unset] [])) _
      refine XS.aload X38.here hx rfl (hb hby at_80) rfl rfl ?_
      show Steps p.tables e below (T38.setTop (mkF m 82 #[.val (.long q1), .second, .val (.int p2), .val (.ref b1), .val (.ref bs), .val (.ref bp), .val (.long fa), .second, .unset, .unset, .unset, .unset, .unset, .unset, .unset, .unset, .unset, .unset, .unset, .unset] [(.ref bp)])) _
      refine XS.iconst X38.here hx rfl (hb hby at_82) ?_
      show Steps p.tables e below (T38.setTop (mkF m 83 #[.val (.long q1), .second, .val (.int p2), .val (.ref b1), .val (.ref bs), .val (.ref bp), .val (.long fa), .second, .unset, .unset, .unset, .unset, .unset, .unset, .unset, .unset, .unset, .unset, .unset, .unset] [(.int (1 : Int32)), (.ref bp)])) _
      refine X38.laload hx (j := (1 : Int32)) (v := (.long fs')) Ar41.1 (State.isArrayOf_alike hZ.alike Ar41.2.1) Ar41.2.2 hin41 hat41 (g := (mkF m 83 #[.val (.long q1), .second, .val (.int p2), .val (.ref b1), .val (.ref bs), .val (.ref bp), .val (.long fa), .second, .unset, .unset, .unset, .unset, .unset, .unset, .unset, .unset, .unset, .unset, .unset, .unset] [(.int (1 : Int32)), (.ref bp)])) rfl rfl (hb hby at_83) _ ?_
      show Steps p.tables e below (T38.setTop (mkF m 84 #[.val (.long q1), .second, .val (.int p2), .val (.ref b1), .val (.ref bs), .val (.ref bp), .val (.long fa), .second, .unset, .unset, .unset, .unset, .unset, .unset, .unset, .unset, .unset, .unset, .unset, .unset] [(.long fs')])) _
      refine XS.lstore X38.here hx rfl (hb hby at_84) rfl (l' := #[.val (.long q1), .second, .val (.int p2), .val (.ref b1), .val (.ref bs), .val (.ref bp), .val (.long fa), .second, .val (.long fs'), .second, .unset, .unset, .unset, .unset, .unset, .unset, .unset, .unset, .unset, .unset]) rfl ?_
      show Steps p.tables e below (T38.setTop (mkF m 86 #[.val (.long q1), .second, .val (.int p2), .val (.ref b1), .val (.ref bs), .val (.ref bp), .val (.long fa), .second, .val (.long fs'), .second, .unset, .unset, .unset, .unset, .unset, .unset, .unset, .unset, .unset, .unset] [])) _
      refine XS.aload X38.here hx rfl (hb hby at_86) rfl rfl ?_
      show Steps p.tables e below (T38.setTop (mkF m 88 #[.val (.long q1), .second, .val (.int p2), .val (.ref b1), .val (.ref bs), .val (.ref bp), .val (.long fa), .second, .val (.long fs'), .second, .unset, .unset, .unset, .unset, .unset, .unset, .unset, .unset, .unset, .unset] [(.ref bp)])) _
      refine XS.iconst X38.here hx rfl (hb hby at_88) ?_
      show Steps p.tables e below (T38.setTop (mkF m 89 #[.val (.long q1), .second, .val (.int p2), .val (.ref b1), .val (.ref bs), .val (.ref bp), .val (.long fa), .second, .val (.long fs'), .second, .unset, .unset, .unset, .unset, .unset, .unset, .unset, .unset, .unset, .unset] [(.int (2 : Int32)), (.ref bp)])) _
      refine X38.laload hx (j := (2 : Int32)) (v := (.long fx)) Ar42.1 (State.isArrayOf_alike hZ.alike Ar42.2.1) Ar42.2.2 hin42 hat42 (g := (mkF m 89 #[.val (.long q1), .second, .val (.int p2), .val (.ref b1), .val (.ref bs), .val (.ref bp), .val (.long fa), .second, .val (.long fs'), .second, .unset, .unset, .unset, .unset, .unset, .unset, .unset, .unset, .unset, .unset] [(.int (2 : Int32)), (.ref bp)])) rfl rfl (hb hby at_89) _ ?_
      show Steps p.tables e below (T38.setTop (mkF m 90 #[.val (.long q1), .second, .val (.int p2), .val (.ref b1), .val (.ref bs), .val (.ref bp), .val (.long fa), .second, .val (.long fs'), .second, .unset, .unset, .unset, .unset, .unset, .unset, .unset, .unset, .unset, .unset] [(.long fx)])) _
      refine XS.lstore X38.here hx rfl (hb hby at_90) rfl (l' := #[.val (.long q1), .second, .val (.int p2), .val (.ref b1), .val (.ref bs), .val (.ref bp), .val (.long fa), .second, .val (.long fs'), .second, .val (.long fx), .second, .unset, .unset, .unset, .unset, .unset, .unset, .unset, .unset]) rfl ?_
      show Steps p.tables e below (T38.setTop (mkF m 92 #[.val (.long q1), .second, .val (.int p2), .val (.ref b1), .val (.ref bs), .val (.ref bp), .val (.long fa), .second, .val (.long fs'), .second, .val (.long fx), .second, .unset, .unset, .unset, .unset, .unset, .unset, .unset, .unset] [])) _
      refine XS.aload X38.here hx rfl (hb hby at_92) rfl rfl ?_
      show Steps p.tables e below (T38.setTop (mkF m 94 #[.val (.long q1), .second, .val (.int p2), .val (.ref b1), .val (.ref bs), .val (.ref bp), .val (.long fa), .second, .val (.long fs'), .second, .val (.long fx), .second, .unset, .unset, .unset, .unset, .unset, .unset, .unset, .unset] [(.ref bp)])) _
      refine XS.iconst X38.here hx rfl (hb hby at_94) ?_
      show Steps p.tables e below (T38.setTop (mkF m 95 #[.val (.long q1), .second, .val (.int p2), .val (.ref b1), .val (.ref bs), .val (.ref bp), .val (.long fa), .second, .val (.long fs'), .second, .val (.long fx), .second, .unset, .unset, .unset, .unset, .unset, .unset, .unset, .unset] [(.int (3 : Int32)), (.ref bp)])) _
      refine X38.laload hx (j := (3 : Int32)) (v := (.long fy)) Ar43.1 (State.isArrayOf_alike hZ.alike Ar43.2.1) Ar43.2.2 hin43 hat43 (g := (mkF m 95 #[.val (.long q1), .second, .val (.int p2), .val (.ref b1), .val (.ref bs), .val (.ref bp), .val (.long fa), .second, .val (.long fs'), .second, .val (.long fx), .second, .unset, .unset, .unset, .unset, .unset, .unset, .unset, .unset] [(.int (3 : Int32)), (.ref bp)])) rfl rfl (hb hby at_95) _ ?_
      show Steps p.tables e below (T38.setTop (mkF m 96 #[.val (.long q1), .second, .val (.int p2), .val (.ref b1), .val (.ref bs), .val (.ref bp), .val (.long fa), .second, .val (.long fs'), .second, .val (.long fx), .second, .unset, .unset, .unset, .unset, .unset, .unset, .unset, .unset] [(.long fy)])) _
      refine XS.lstore X38.here hx rfl (hb hby at_96) rfl (l' := #[.val (.long q1), .second, .val (.int p2), .val (.ref b1), .val (.ref bs), .val (.ref bp), .val (.long fa), .second, .val (.long fs'), .second, .val (.long fx), .second, .val (.long fy), .second, .unset, .unset, .unset, .unset, .unset, .unset]) rfl ?_
      show Steps p.tables e below (T38.setTop (mkF m 98 #[.val (.long q1), .second, .val (.int p2), .val (.ref b1), .val (.ref bs), .val (.ref bp), .val (.long fa), .second, .val (.long fs'), .second, .val (.long fx), .second, .val (.long fy), .second, .unset, .unset, .unset, .unset, .unset, .unset] [])) _
      refine XS.aload X38.here hx rfl (hb hby at_98) rfl rfl ?_
      show Steps p.tables e below (T38.setTop (mkF m 100 #[.val (.long q1), .second, .val (.int p2), .val (.ref b1), .val (.ref bs), .val (.ref bp), .val (.long fa), .second, .val (.long fs'), .second, .val (.long fx), .second, .val (.long fy), .second, .unset, .unset, .unset, .unset, .unset, .unset] [(.ref bp)])) _
      refine XS.iconst X38.here hx rfl (hb hby at_100) ?_
      show Steps p.tables e below (T38.setTop (mkF m 101 #[.val (.long q1), .second, .val (.int p2), .val (.ref b1), .val (.ref bs), .val (.ref bp), .val (.long fa), .second, .val (.long fs'), .second, .val (.long fx), .second, .val (.long fy), .second, .unset, .unset, .unset, .unset, .unset, .unset] [(.int (0 : Int32)), (.ref bp)])) _
      refine XS.lload X38.here hx rfl (hb hby at_101) rfl ?_
      show Steps p.tables e below (T38.setTop (mkF m 103 #[.val (.long q1), .second, .val (.int p2), .val (.ref b1), .val (.ref bs), .val (.ref bp), .val (.long fa), .second, .val (.long fs'), .second, .val (.long fx), .second, .val (.long fy), .second, .unset, .unset, .unset, .unset, .unset, .unset] [(.long fa), (.int (0 : Int32)), (.ref bp)])) _
      refine X38.ldc2Long hx hown (mvT hZ (hw _ (List.mem_of_getElem? (i := 35) rfl))) (g := (mkF m 103 #[.val (.long q1), .second, .val (.int p2), .val (.ref b1), .val (.ref bs), .val (.ref bp), .val (.long fa), .second, .val (.long fs'), .second, .val (.long fx), .second, .val (.long fy), .second, .unset, .unset, .unset, .unset, .unset, .unset] [(.long fa), (.int (0 : Int32)), (.ref bp)])) rfl (hb hby at_103) _ ?_
      show Steps p.tables e below (T38.setTop (mkF m 106 #[.val (.long q1), .second, .val (.int p2), .val (.ref b1), .val (.ref bs), .val (.ref bp), .val (.long fa), .second, .val (.long fs'), .second, .val (.long fx), .second, .val (.long fy), .second, .unset, .unset, .unset, .unset, .unset, .unset] [(.long (2 : Int64)), (.long fa), (.int (0 : Int32)), (.ref bp)])) _
      refine XS.lxor X38.here hx rfl (hb hby at_106) rfl ?_
      show Steps p.tables e below (T38.setTop (mkF m 107 #[.val (.long q1), .second, .val (.int p2), .val (.ref b1), .val (.ref bs), .val (.ref bp), .val (.long fa), .second, .val (.long fs'), .second, .val (.long fx), .second, .val (.long fy), .second, .unset, .unset, .unset, .unset, .unset, .unset] [(.long (fa ^^^ (2 : Int64))), (.int (0 : Int32)), (.ref bp)])) _
      refine st44 _ ?_
      show Steps p.tables e below (T44.setTop (mkF m 108 #[.val (.long q1), .second, .val (.int p2), .val (.ref b1), .val (.ref bs), .val (.ref bp), .val (.long fa), .second, .val (.long fs'), .second, .val (.long fx), .second, .val (.long fy), .second, .unset, .unset, .unset, .unset, .unset, .unset] [])) _
      refine XS.aload X44.here hx rfl (hb hby at_108) rfl rfl ?_
      show Steps p.tables e below (T44.setTop (mkF m 110 #[.val (.long q1), .second, .val (.int p2), .val (.ref b1), .val (.ref bs), .val (.ref bp), .val (.long fa), .second, .val (.long fs'), .second, .val (.long fx), .second, .val (.long fy), .second, .unset, .unset, .unset, .unset, .unset, .unset] [(.ref bp)])) _
      refine XS.iconst X44.here hx rfl (hb hby at_110) ?_
      show Steps p.tables e below (T44.setTop (mkF m 111 #[.val (.long q1), .second, .val (.int p2), .val (.ref b1), .val (.ref bs), .val (.ref bp), .val (.long fa), .second, .val (.long fs'), .second, .val (.long fx), .second, .val (.long fy), .second, .unset, .unset, .unset, .unset, .unset, .unset] [(.int (1 : Int32)), (.ref bp)])) _
      refine XS.lload X44.here hx rfl (hb hby at_111) rfl ?_
      show Steps p.tables e below (T44.setTop (mkF m 113 #[.val (.long q1), .second, .val (.int p2), .val (.ref b1), .val (.ref bs), .val (.ref bp), .val (.long fa), .second, .val (.long fs'), .second, .val (.long fx), .second, .val (.long fy), .second, .unset, .unset, .unset, .unset, .unset, .unset] [(.long fs'), (.int (1 : Int32)), (.ref bp)])) _
      refine XS.lconst X44.here hx rfl (hb hby at_113) ?_
      show Steps p.tables e below (T44.setTop (mkF m 114 #[.val (.long q1), .second, .val (.int p2), .val (.ref b1), .val (.ref bs), .val (.ref bp), .val (.long fa), .second, .val (.long fs'), .second, .val (.long fx), .second, .val (.long fy), .second, .unset, .unset, .unset, .unset, .unset, .unset] [(.long (1 : Int64)), (.long fs'), (.int (1 : Int32)), (.ref bp)])) _
      refine XS.lxor X44.here hx rfl (hb hby at_114) rfl ?_
      show Steps p.tables e below (T44.setTop (mkF m 115 #[.val (.long q1), .second, .val (.int p2), .val (.ref b1), .val (.ref bs), .val (.ref bp), .val (.long fa), .second, .val (.long fs'), .second, .val (.long fx), .second, .val (.long fy), .second, .unset, .unset, .unset, .unset, .unset, .unset] [(.long (fs' ^^^ (1 : Int64))), (.int (1 : Int32)), (.ref bp)])) _
      refine st45 _ ?_
      show Steps p.tables e below (T45.setTop (mkF m 116 #[.val (.long q1), .second, .val (.int p2), .val (.ref b1), .val (.ref bs), .val (.ref bp), .val (.long fa), .second, .val (.long fs'), .second, .val (.long fx), .second, .val (.long fy), .second, .unset, .unset, .unset, .unset, .unset, .unset] [])) _
      refine XS.aload X45.here hx rfl (hb hby at_116) rfl rfl ?_
      show Steps p.tables e below (T45.setTop (mkF m 118 #[.val (.long q1), .second, .val (.int p2), .val (.ref b1), .val (.ref bs), .val (.ref bp), .val (.long fa), .second, .val (.long fs'), .second, .val (.long fx), .second, .val (.long fy), .second, .unset, .unset, .unset, .unset, .unset, .unset] [(.ref bp)])) _
      refine XS.iconst X45.here hx rfl (hb hby at_118) ?_
      show Steps p.tables e below (T45.setTop (mkF m 119 #[.val (.long q1), .second, .val (.int p2), .val (.ref b1), .val (.ref bs), .val (.ref bp), .val (.long fa), .second, .val (.long fs'), .second, .val (.long fx), .second, .val (.long fy), .second, .unset, .unset, .unset, .unset, .unset, .unset] [(.int (2 : Int32)), (.ref bp)])) _
      refine XS.lload X45.here hx rfl (hb hby at_119) rfl ?_
      show Steps p.tables e below (T45.setTop (mkF m 121 #[.val (.long q1), .second, .val (.int p2), .val (.ref b1), .val (.ref bs), .val (.ref bp), .val (.long fa), .second, .val (.long fs'), .second, .val (.long fx), .second, .val (.long fy), .second, .unset, .unset, .unset, .unset, .unset, .unset] [(.long fx), (.int (2 : Int32)), (.ref bp)])) _
      refine XS.lconst X45.here hx rfl (hb hby at_121) ?_
      show Steps p.tables e below (T45.setTop (mkF m 122 #[.val (.long q1), .second, .val (.int p2), .val (.ref b1), .val (.ref bs), .val (.ref bp), .val (.long fa), .second, .val (.long fs'), .second, .val (.long fx), .second, .val (.long fy), .second, .unset, .unset, .unset, .unset, .unset, .unset] [(.long (1 : Int64)), (.long fx), (.int (2 : Int32)), (.ref bp)])) _
      refine XS.lxor X45.here hx rfl (hb hby at_122) rfl ?_
      show Steps p.tables e below (T45.setTop (mkF m 123 #[.val (.long q1), .second, .val (.int p2), .val (.ref b1), .val (.ref bs), .val (.ref bp), .val (.long fa), .second, .val (.long fs'), .second, .val (.long fx), .second, .val (.long fy), .second, .unset, .unset, .unset, .unset, .unset, .unset] [(.long (fx ^^^ (1 : Int64))), (.int (2 : Int32)), (.ref bp)])) _
      refine st46 _ ?_
      show Steps p.tables e below (T46.setTop (mkF m 124 #[.val (.long q1), .second, .val (.int p2), .val (.ref b1), .val (.ref bs), .val (.ref bp), .val (.long fa), .second, .val (.long fs'), .second, .val (.long fx), .second, .val (.long fy), .second, .unset, .unset, .unset, .unset, .unset, .unset] [])) _
      refine XS.aload X46.here hx rfl (hb hby at_124) rfl rfl ?_
      show Steps p.tables e below (T46.setTop (mkF m 126 #[.val (.long q1), .second, .val (.int p2), .val (.ref b1), .val (.ref bs), .val (.ref bp), .val (.long fa), .second, .val (.long fs'), .second, .val (.long fx), .second, .val (.long fy), .second, .unset, .unset, .unset, .unset, .unset, .unset] [(.ref bp)])) _
      refine XS.iconst X46.here hx rfl (hb hby at_126) ?_
      show Steps p.tables e below (T46.setTop (mkF m 127 #[.val (.long q1), .second, .val (.int p2), .val (.ref b1), .val (.ref bs), .val (.ref bp), .val (.long fa), .second, .val (.long fs'), .second, .val (.long fx), .second, .val (.long fy), .second, .unset, .unset, .unset, .unset, .unset, .unset] [(.int (3 : Int32)), (.ref bp)])) _
      refine XS.lload X46.here hx rfl (hb hby at_127) rfl ?_
      show Steps p.tables e below (T46.setTop (mkF m 129 #[.val (.long q1), .second, .val (.int p2), .val (.ref b1), .val (.ref bs), .val (.ref bp), .val (.long fa), .second, .val (.long fs'), .second, .val (.long fx), .second, .val (.long fy), .second, .unset, .unset, .unset, .unset, .unset, .unset] [(.long fy), (.int (3 : Int32)), (.ref bp)])) _
      refine XS.lconst X46.here hx rfl (hb hby at_129) ?_
      show Steps p.tables e below (T46.setTop (mkF m 130 #[.val (.long q1), .second, .val (.int p2), .val (.ref b1), .val (.ref bs), .val (.ref bp), .val (.long fa), .second, .val (.long fs'), .second, .val (.long fx), .second, .val (.long fy), .second, .unset, .unset, .unset, .unset, .unset, .unset] [(.long (1 : Int64)), (.long fy), (.int (3 : Int32)), (.ref bp)])) _
      refine XS.lxor X46.here hx rfl (hb hby at_130) rfl ?_
      show Steps p.tables e below (T46.setTop (mkF m 131 #[.val (.long q1), .second, .val (.int p2), .val (.ref b1), .val (.ref bs), .val (.ref bp), .val (.long fa), .second, .val (.long fs'), .second, .val (.long fx), .second, .val (.long fy), .second, .unset, .unset, .unset, .unset, .unset, .unset] [(.long (fy ^^^ (1 : Int64))), (.int (3 : Int32)), (.ref bp)])) _
      refine st47 _ ?_
      show Steps p.tables e below (T47.setTop (mkF m 132 #[.val (.long q1), .second, .val (.int p2), .val (.ref b1), .val (.ref bs), .val (.ref bp), .val (.long fa), .second, .val (.long fs'), .second, .val (.long fx), .second, .val (.long fy), .second, .unset, .unset, .unset, .unset, .unset, .unset] [])) _
      refine XS.lload X47.here hx rfl (hb hby at_132) rfl ?_
      show Steps p.tables e below (T47.setTop (mkF m 134 #[.val (.long q1), .second, .val (.int p2), .val (.ref b1), .val (.ref bs), .val (.ref bp), .val (.long fa), .second, .val (.long fs'), .second, .val (.long fx), .second, .val (.long fy), .second, .unset, .unset, .unset, .unset, .unset, .unset] [(.long fa)])) _
      refine XS.aload X47.here hx rfl (hb hby at_134) rfl rfl ?_
      show Steps p.tables e below (T47.setTop (mkF m 136 #[.val (.long q1), .second, .val (.int p2), .val (.ref b1), .val (.ref bs), .val (.ref bp), .val (.long fa), .second, .val (.long fs'), .second, .val (.long fx), .second, .val (.long fy), .second, .unset, .unset, .unset, .unset, .unset, .unset] [(.ref bs), (.long fa)])) _
      refine XS.iconst X47.here hx rfl (hb hby at_136) ?_
      show Steps p.tables e below (T47.setTop (mkF m 137 #[.val (.long q1), .second, .val (.int p2), .val (.ref b1), .val (.ref bs), .val (.ref bp), .val (.long fa), .second, .val (.long fs'), .second, .val (.long fx), .second, .val (.long fy), .second, .unset, .unset, .unset, .unset, .unset, .unset] [(.int (0 : Int32)), (.ref bs), (.long fa)])) _
      refine X47.laload hx (j := (0 : Int32)) (v := (.long (own_ia q1))) (by rw [e47]; exact Ar48.1) (State.isArrayOf_alike hZ.alike Ar48.2.1) Ar48.2.2 hin48 hat48 (g := (mkF m 137 #[.val (.long q1), .second, .val (.int p2), .val (.ref b1), .val (.ref bs), .val (.ref bp), .val (.long fa), .second, .val (.long fs'), .second, .val (.long fx), .second, .val (.long fy), .second, .unset, .unset, .unset, .unset, .unset, .unset] [(.int (0 : Int32)), (.ref bs), (.long fa)])) rfl rfl (hb hby at_137) _ ?_
      show Steps p.tables e below (T47.setTop (mkF m 138 #[.val (.long q1), .second, .val (.int p2), .val (.ref b1), .val (.ref bs), .val (.ref bp), .val (.long fa), .second, .val (.long fs'), .second, .val (.long fx), .second, .val (.long fy), .second, .unset, .unset, .unset, .unset, .unset, .unset] [(.long (own_ia q1)), (.long fa)])) _
      refine XS.lcmp X47.here hx rfl (hb hby at_138) rfl ?_
      show Steps p.tables e below (T47.setTop (mkF m 139 #[.val (.long q1), .second, .val (.int p2), .val (.ref b1), .val (.ref bs), .val (.ref bp), .val (.long fa), .second, .val (.long fs'), .second, .val (.long fx), .second, .val (.long fy), .second, .unset, .unset, .unset, .unset, .unset, .unset] [(.int (lcmpW fa (own_ia q1)))])) _
      refine XS.ifYes X47.here hx rfl (pc0 := 139) (pc' := 144) rfl (hb hby at_139) rfl ((if0 _ _).trans (teq ((lw_eq _ _).mpr hc139)).1) (by decide) (by decide) ?_
      show Steps p.tables e below (T47.setTop (mkF m 144 #[.val (.long q1), .second, .val (.int p2), .val (.ref b1), .val (.ref bs), .val (.ref bp), .val (.long fa), .second, .val (.long fs'), .second, .val (.long fx), .second, .val (.long fy), .second, .unset, .unset, .unset, .unset, .unset, .unset] [])) _
      refine XS.lload X47.here hx rfl (hb hby at_144) rfl ?_
      show Steps p.tables e below (T47.setTop (mkF m 146 #[.val (.long q1), .second, .val (.int p2), .val (.ref b1), .val (.ref bs), .val (.ref bp), .val (.long fa), .second, .val (.long fs'), .second, .val (.long fx), .second, .val (.long fy), .second, .unset, .unset, .unset, .unset, .unset, .unset] [(.long fa)])) _
      refine XS.lconst X47.here hx rfl (hb hby at_146) ?_
      show Steps p.tables e below (T47.setTop (mkF m 147 #[.val (.long q1), .second, .val (.int p2), .val (.ref b1), .val (.ref bs), .val (.ref bp), .val (.long fa), .second, .val (.long fs'), .second, .val (.long fx), .second, .val (.long fy), .second, .unset, .unset, .unset, .unset, .unset, .unset] [(.long (1 : Int64)), (.long fa)])) _
      refine XS.land X47.here hx rfl (hb hby at_147) rfl ?_
      show Steps p.tables e below (T47.setTop (mkF m 148 #[.val (.long q1), .second, .val (.int p2), .val (.ref b1), .val (.ref bs), .val (.ref bp), .val (.long fa), .second, .val (.long fs'), .second, .val (.long fx), .second, .val (.long fy), .second, .unset, .unset, .unset, .unset, .unset, .unset] [(.long (fa &&& (1 : Int64)))])) _
      refine XS.lconst X47.here hx rfl (hb hby at_148) ?_
      show Steps p.tables e below (T47.setTop (mkF m 149 #[.val (.long q1), .second, .val (.int p2), .val (.ref b1), .val (.ref bs), .val (.ref bp), .val (.long fa), .second, .val (.long fs'), .second, .val (.long fx), .second, .val (.long fy), .second, .unset, .unset, .unset, .unset, .unset, .unset] [(.long (0 : Int64)), (.long (fa &&& (1 : Int64)))])) _
      refine XS.lcmp X47.here hx rfl (hb hby at_149) rfl ?_
      show Steps p.tables e below (T47.setTop (mkF m 150 #[.val (.long q1), .second, .val (.int p2), .val (.ref b1), .val (.ref bs), .val (.ref bp), .val (.long fa), .second, .val (.long fs'), .second, .val (.long fx), .second, .val (.long fy), .second, .unset, .unset, .unset, .unset, .unset, .unset] [(.int (lcmpW (fa &&& (1 : Int64)) (0 : Int64)))])) _
      refine XS.ifYes X47.here hx rfl (pc0 := 150) (pc' := 155) rfl (hb hby at_150) rfl ((if0 _ _).trans (feq (fun z => hc150 ((lw_eq _ _).mp z))).2) (by decide) (by decide) ?_
      show Steps p.tables e below (T47.setTop (mkF m 155 #[.val (.long q1), .second, .val (.int p2), .val (.ref b1), .val (.ref bs), .val (.ref bp), .val (.long fa), .second, .val (.long fs'), .second, .val (.long fx), .second, .val (.long fy), .second, .unset, .unset, .unset, .unset, .unset, .unset] [])) _
      refine XS.aloadN X47.here hx rfl (hb hby at_155) rfl rfl ?_
      show Steps p.tables e below (T47.setTop (mkF m 156 #[.val (.long q1), .second, .val (.int p2), .val (.ref b1), .val (.ref bs), .val (.ref bp), .val (.long fa), .second, .val (.long fs'), .second, .val (.long fx), .second, .val (.long fy), .second, .unset, .unset, .unset, .unset, .unset, .unset] [(.ref b1)])) _
      refine XS.iconst X47.here hx rfl (hb hby at_156) ?_
      show Steps p.tables e below (T47.setTop (mkF m 157 #[.val (.long q1), .second, .val (.int p2), .val (.ref b1), .val (.ref bs), .val (.ref bp), .val (.long fa), .second, .val (.long fs'), .second, .val (.long fx), .second, .val (.long fy), .second, .unset, .unset, .unset, .unset, .unset, .unset] [(.int (4 : Int32)), (.ref b1)])) _
      refine st49 _ ?_
      show Steps p.tables e below (T49.setTop (mkF m 159 #[.val (.long q1), .second, .val (.int p2), .val (.ref b1), .val (.ref bs), .val (.ref bp), .val (.long fa), .second, .val (.long fs'), .second, .val (.long fx), .second, .val (.long fy), .second, .unset, .unset, .unset, .unset, .unset, .unset] [(.ref b49), (.ref b1)])) _
      refine XS.dup X49.here hx rfl (hb hby at_159) rfl rfl ?_
      show Steps p.tables e below (T49.setTop (mkF m 160 #[.val (.long q1), .second, .val (.int p2), .val (.ref b1), .val (.ref bs), .val (.ref bp), .val (.long fa), .second, .val (.long fs'), .second, .val (.long fx), .second, .val (.long fy), .second, .unset, .unset, .unset, .unset, .unset, .unset] [(.ref b49), (.ref b49), (.ref b1)])) _
      refine XS.iconst X49.here hx rfl (hb hby at_160) ?_
      show Steps p.tables e below (T49.setTop (mkF m 161 #[.val (.long q1), .second, .val (.int p2), .val (.ref b1), .val (.ref bs), .val (.ref bp), .val (.long fa), .second, .val (.long fs'), .second, .val (.long fx), .second, .val (.long fy), .second, .unset, .unset, .unset, .unset, .unset, .unset] [(.int (0 : Int32)), (.ref b49), (.ref b49), (.ref b1)])) _
      refine XS.lload X49.here hx rfl (hb hby at_161) rfl ?_
      show Steps p.tables e below (T49.setTop (mkF m 163 #[.val (.long q1), .second, .val (.int p2), .val (.ref b1), .val (.ref bs), .val (.ref bp), .val (.long fa), .second, .val (.long fs'), .second, .val (.long fx), .second, .val (.long fy), .second, .unset, .unset, .unset, .unset, .unset, .unset] [(.long fa), (.int (0 : Int32)), (.ref b49), (.ref b49), (.ref b1)])) _
      refine st50 _ ?_
      show Steps p.tables e below (T50.setTop (mkF m 164 #[.val (.long q1), .second, .val (.int p2), .val (.ref b1), .val (.ref bs), .val (.ref bp), .val (.long fa), .second, .val (.long fs'), .second, .val (.long fx), .second, .val (.long fy), .second, .unset, .unset, .unset, .unset, .unset, .unset] [(.ref b49), (.ref b1)])) _
      refine XS.dup X50.here hx rfl (hb hby at_164) rfl rfl ?_
      show Steps p.tables e below (T50.setTop (mkF m 165 #[.val (.long q1), .second, .val (.int p2), .val (.ref b1), .val (.ref bs), .val (.ref bp), .val (.long fa), .second, .val (.long fs'), .second, .val (.long fx), .second, .val (.long fy), .second, .unset, .unset, .unset, .unset, .unset, .unset] [(.ref b49), (.ref b49), (.ref b1)])) _
      refine XS.iconst X50.here hx rfl (hb hby at_165) ?_
      show Steps p.tables e below (T50.setTop (mkF m 166 #[.val (.long q1), .second, .val (.int p2), .val (.ref b1), .val (.ref bs), .val (.ref bp), .val (.long fa), .second, .val (.long fs'), .second, .val (.long fx), .second, .val (.long fy), .second, .unset, .unset, .unset, .unset, .unset, .unset] [(.int (1 : Int32)), (.ref b49), (.ref b49), (.ref b1)])) _
      refine XS.lload X50.here hx rfl (hb hby at_166) rfl ?_
      show Steps p.tables e below (T50.setTop (mkF m 168 #[.val (.long q1), .second, .val (.int p2), .val (.ref b1), .val (.ref bs), .val (.ref bp), .val (.long fa), .second, .val (.long fs'), .second, .val (.long fx), .second, .val (.long fy), .second, .unset, .unset, .unset, .unset, .unset, .unset] [(.long fs'), (.int (1 : Int32)), (.ref b49), (.ref b49), (.ref b1)])) _
      refine st51 _ ?_
      show Steps p.tables e below (T51.setTop (mkF m 169 #[.val (.long q1), .second, .val (.int p2), .val (.ref b1), .val (.ref bs), .val (.ref bp), .val (.long fa), .second, .val (.long fs'), .second, .val (.long fx), .second, .val (.long fy), .second, .unset, .unset, .unset, .unset, .unset, .unset] [(.ref b49), (.ref b1)])) _
      refine XS.dup X51.here hx rfl (hb hby at_169) rfl rfl ?_
      show Steps p.tables e below (T51.setTop (mkF m 170 #[.val (.long q1), .second, .val (.int p2), .val (.ref b1), .val (.ref bs), .val (.ref bp), .val (.long fa), .second, .val (.long fs'), .second, .val (.long fx), .second, .val (.long fy), .second, .unset, .unset, .unset, .unset, .unset, .unset] [(.ref b49), (.ref b49), (.ref b1)])) _
      refine XS.iconst X51.here hx rfl (hb hby at_170) ?_
      show Steps p.tables e below (T51.setTop (mkF m 171 #[.val (.long q1), .second, .val (.int p2), .val (.ref b1), .val (.ref bs), .val (.ref bp), .val (.long fa), .second, .val (.long fs'), .second, .val (.long fx), .second, .val (.long fy), .second, .unset, .unset, .unset, .unset, .unset, .unset] [(.int (2 : Int32)), (.ref b49), (.ref b49), (.ref b1)])) _
      refine XS.lload X51.here hx rfl (hb hby at_171) rfl ?_
      show Steps p.tables e below (T51.setTop (mkF m 173 #[.val (.long q1), .second, .val (.int p2), .val (.ref b1), .val (.ref bs), .val (.ref bp), .val (.long fa), .second, .val (.long fs'), .second, .val (.long fx), .second, .val (.long fy), .second, .unset, .unset, .unset, .unset, .unset, .unset] [(.long fx), (.int (2 : Int32)), (.ref b49), (.ref b49), (.ref b1)])) _
      refine st52 _ ?_
      show Steps p.tables e below (T52.setTop (mkF m 174 #[.val (.long q1), .second, .val (.int p2), .val (.ref b1), .val (.ref bs), .val (.ref bp), .val (.long fa), .second, .val (.long fs'), .second, .val (.long fx), .second, .val (.long fy), .second, .unset, .unset, .unset, .unset, .unset, .unset] [(.ref b49), (.ref b1)])) _
      refine XS.dup X52.here hx rfl (hb hby at_174) rfl rfl ?_
      show Steps p.tables e below (T52.setTop (mkF m 175 #[.val (.long q1), .second, .val (.int p2), .val (.ref b1), .val (.ref bs), .val (.ref bp), .val (.long fa), .second, .val (.long fs'), .second, .val (.long fx), .second, .val (.long fy), .second, .unset, .unset, .unset, .unset, .unset, .unset] [(.ref b49), (.ref b49), (.ref b1)])) _
      refine XS.iconst X52.here hx rfl (hb hby at_175) ?_
      show Steps p.tables e below (T52.setTop (mkF m 176 #[.val (.long q1), .second, .val (.int p2), .val (.ref b1), .val (.ref bs), .val (.ref bp), .val (.long fa), .second, .val (.long fs'), .second, .val (.long fx), .second, .val (.long fy), .second, .unset, .unset, .unset, .unset, .unset, .unset] [(.int (3 : Int32)), (.ref b49), (.ref b49), (.ref b1)])) _
      refine XS.lload X52.here hx rfl (hb hby at_176) rfl ?_
      show Steps p.tables e below (T52.setTop (mkF m 178 #[.val (.long q1), .second, .val (.int p2), .val (.ref b1), .val (.ref bs), .val (.ref bp), .val (.long fa), .second, .val (.long fs'), .second, .val (.long fx), .second, .val (.long fy), .second, .unset, .unset, .unset, .unset, .unset, .unset] [(.long fy), (.int (3 : Int32)), (.ref b49), (.ref b49), (.ref b1)])) _
      refine st53 _ ?_
      show Steps p.tables e below (T53.setTop (mkF m 179 #[.val (.long q1), .second, .val (.int p2), .val (.ref b1), .val (.ref bs), .val (.ref bp), .val (.long fa), .second, .val (.long fs'), .second, .val (.long fx), .second, .val (.long fy), .second, .unset, .unset, .unset, .unset, .unset, .unset] [(.ref b49), (.ref b1)])) _
      refine st54.trans ?_
      show Steps p.tables e below (T54.setTop (mkF m 182 #[.val (.long q1), .second, .val (.int p2), .val (.ref b1), .val (.ref bs), .val (.ref bp), .val (.long fa), .second, .val (.long fs'), .second, .val (.long fx), .second, .val (.long fy), .second, .unset, .unset, .unset, .unset, .unset, .unset] [(.int ins)])) _
      refine XS.ifYes X54.here hx rfl (pc0 := 182) (pc' := 187) rfl (hb hby at_182) rfl ((if0 _ _).trans (feq hc182).2) (by decide) (by decide) ?_
      show Steps p.tables e below (T54.setTop (mkF m 187 #[.val (.long q1), .second, .val (.int p2), .val (.ref b1), .val (.ref bs), .val (.ref bp), .val (.long fa), .second, .val (.long fs'), .second, .val (.long fx), .second, .val (.long fy), .second, .unset, .unset, .unset, .unset, .unset, .unset] [])) _
      refine XS.lload X54.here hx rfl (hb hby at_187) rfl ?_
      show Steps p.tables e below (T54.setTop (mkF m 189 #[.val (.long q1), .second, .val (.int p2), .val (.ref b1), .val (.ref bs), .val (.ref bp), .val (.long fa), .second, .val (.long fs'), .second, .val (.long fx), .second, .val (.long fy), .second, .unset, .unset, .unset, .unset, .unset, .unset] [(.long fx)])) _
      refine XS.lload X54.here hx rfl (hb hby at_189) rfl ?_
      show Steps p.tables e below (T54.setTop (mkF m 191 #[.val (.long q1), .second, .val (.int p2), .val (.ref b1), .val (.ref bs), .val (.ref bp), .val (.long fa), .second, .val (.long fs'), .second, .val (.long fx), .second, .val (.long fy), .second, .unset, .unset, .unset, .unset, .unset, .unset] [(.long fy), (.long fx)])) _
      refine XS.lor X54.here hx rfl (hb hby at_191) rfl ?_
      show Steps p.tables e below (T54.setTop (mkF m 192 #[.val (.long q1), .second, .val (.int p2), .val (.ref b1), .val (.ref bs), .val (.ref bp), .val (.long fa), .second, .val (.long fs'), .second, .val (.long fx), .second, .val (.long fy), .second, .unset, .unset, .unset, .unset, .unset, .unset] [(.long (fx ||| fy))])) _
      refine XS.lconst X54.here hx rfl (hb hby at_192) ?_
      show Steps p.tables e below (T54.setTop (mkF m 193 #[.val (.long q1), .second, .val (.int p2), .val (.ref b1), .val (.ref bs), .val (.ref bp), .val (.long fa), .second, .val (.long fs'), .second, .val (.long fx), .second, .val (.long fy), .second, .unset, .unset, .unset, .unset, .unset, .unset] [(.long (0 : Int64)), (.long (fx ||| fy))])) _
      refine XS.lcmp X54.here hx rfl (hb hby at_193) rfl ?_
      exact k
    by_cases hc194 : (fx ||| fy) = (0 : Int64)
    · obtain ⟨fs, hr, hrun, hended, hW, hsame⟩ := X54.leave (v := some (.int (1 : Int32))) (fun h => by rw [Bd.returns] at h; cases h)
      refine ⟨_, _, ?_, hrun, hended, _, _, rfl, ?_, ⟨_, rfl⟩, hW, hsame.mono (by decide) (by decide)⟩
      · show Steps p.tables e below (T54.setTop (mkF m 194 #[.val (.long q1), .second, .val (.int p2), .val (.ref b1), .val (.ref bs), .val (.ref bp), .val (.long fa), .second, .val (.long fs'), .second, .val (.long fx), .second, .val (.long fy), .second, .unset, .unset, .unset, .unset, .unset, .unset] [(.int (lcmpW (fx ||| fy) (0 : Int64)))])) _
        refine XS.ifNo X54.here hx rfl (hb hby at_194) rfl ((if0 _ _).trans (teq ((lw_eq _ _).mpr hc194)).2) ?_
        show Steps p.tables e below (T54.setTop (mkF m 197 #[.val (.long q1), .second, .val (.int p2), .val (.ref b1), .val (.ref bs), .val (.ref bp), .val (.long fa), .second, .val (.long fs'), .second, .val (.long fx), .second, .val (.long fy), .second, .unset, .unset, .unset, .unset, .unset, .unset] [])) _
        refine XS.iconst X54.here hx rfl (hb hby at_197) ?_
        show Steps p.tables e below (T54.setTop (mkF m 198 #[.val (.long q1), .second, .val (.int p2), .val (.ref b1), .val (.ref bs), .val (.ref bp), .val (.long fa), .second, .val (.long fs'), .second, .val (.long fx), .second, .val (.long fy), .second, .unset, .unset, .unset, .unset, .unset, .unset] [(.int (1 : Int32))])) _
        exact retN X54 hx (t := .boolean) Bd.returns (by simp) (hb hby at_198) hr
      · show Q0 Z q1 p2 h0 n0 _ T54.heap _
        rw [e54]
        exact ⟨rfl, N54⟩
    · obtain ⟨T55, h55, k55, X55, e55, E55, A55, st55⟩ := newP X54 hx hZ (hw _ (List.mem_of_getElem? (i := 34) rfl)) e54 (g := (mkF m 200 #[.val (.long q1), .second, .val (.int p2), .val (.ref b1), .val (.ref bs), .val (.ref bp), .val (.long fa), .second, .val (.long fs'), .second, .val (.long fx), .second, .val (.long fy), .second, .unset, .unset, .unset, .unset, .unset, .unset] [(.int (4 : Int32))])) rfl (hb hby at_200) rfl (by decide) (cap := 4) (by decide) (by decide) (by decide) (by decide)
      obtain ⟨b55, g55⟩ : ∃ z, z = h53.size := ⟨_, rfl⟩
      rw [← g55] at A55 st55
      have g_b55 : n0 ≤ b55 := Nat.le_trans Z0 (Nat.le_of_eq g55.symm)
      have sz_b55 : h0.size ≤ b55 := Nat.le_trans K0.1 (Nat.le_of_eq g55.symm)
      have ne_b1_b55 : b1 ≠ b55 := Nat.ne_of_lt (Nat.lt_of_lt_of_le E_b1.lt (Nat.le_of_eq g55.symm))
      have ne_bs_b55 : bs ≠ b55 := Nat.ne_of_lt (Nat.lt_of_lt_of_le V_bs.lt (Nat.le_of_eq g55.symm))
      have ne_bp_b55 : bp ≠ b55 := Nat.ne_of_lt (Nat.lt_of_lt_of_le V_bp.lt (Nat.le_of_eq g55.symm))
      have ne_b49_b55 : b49 ≠ b55 := Nat.ne_of_lt (Nat.lt_of_lt_of_le V_b49.lt (Nat.le_of_eq g55.symm))
      have E_b1 := E_b1.ext E55
      have F_b1_a := F_b1_a.ext E55
      have F_b1_s := F_b1_s.ext E55
      have F_b1_x0 := F_b1_x0.ext E55
      have F_b1_x1 := F_b1_x1.ext E55
      have V_bs := V_bs.ext E55
      have V_bp := V_bp.ext E55
      have V_b49 := V_b49.ext E55
      have Z0 : n0 ≤ h55.size := Nat.le_trans Z0 E55.1
      have K0 := K0.ext E55
      have V_b55 : Arv Z h55 b55 k55 .long (4 : Int32) [(.long (0 : Int64)), (.long (0 : Int64)), (.long (0 : Int64)), (.long (0 : Int64))] (.long (0 : Int64)) := (Arv.new A55 (by decide)).pad (pad_rep [] (.long (0 : Int64)) 4)
      have V_tmp := V_b55
      obtain ⟨cl56, Ar56, aq56, S56, n56, H56, G56⟩ := V_tmp
      have hin56 : ¬ ((0 : Int32) < 0 ∨ cl56.slots.size ≤ ((0 : Int32)).toNatClampNeg) := inb_of S56 ⟨by decide, by decide⟩
      obtain ⟨T56, h56, X56, e56, W56, st56⟩ := stJ X55 hx hZ e55 Ar56 (j := (0 : Int32)) hin56 (g := (mkF m 206 #[.val (.long q1), .second, .val (.int p2), .val (.ref b1), .val (.ref bs), .val (.ref bp), .val (.long fa), .second, .val (.long fs'), .second, .val (.long fx), .second, .val (.long fy), .second, .unset, .unset, .unset, .unset, .unset, .unset] [(.long fa), (.int (0 : Int32)), (.ref b55), (.ref b55)])) rfl rfl (hb hby at_206)
      have V_bs := V_bs.other W56 ne_bs_b55
      have V_bp := V_bp.other W56 ne_bp_b55
      have V_b49 := V_b49.other W56 ne_b49_b55
      have V_b55 : Arv Z h56 b55 k55 .long (4 : Int32) [(.long fa), (.long (0 : Int64)), (.long (0 : Int64)), (.long (0 : Int64))] (.long (0 : Int64)) := Arv.set Ar56 aq56 S56 n56 H56 G56 rfl W56 0 rfl (Nat.le_of_ble_eq_true rfl)
      have F_b1_a := F_b1_a.other W56 (Or.inl ne_b1_b55)
      have F_b1_s := F_b1_s.other W56 (Or.inl ne_b1_b55)
      have F_b1_x0 := F_b1_x0.other W56 (Or.inl ne_b1_b55)
      have F_b1_x1 := F_b1_x1.other W56 (Or.inl ne_b1_b55)
      have E_b1 := E_b1.wr W56
      have Z0 : n0 ≤ h56.size := by rw [W56.size]; exact Z0
      have K0 := K0.wr W56 (Or.inr sz_b55)
      have N56 := Fr.snoc X56 N54 g_b55
      have V_tmp := V_b55
      obtain ⟨cl57, Ar57, aq57, S57, n57, H57, G57⟩ := V_tmp
      have hin57 : ¬ ((1 : Int32) < 0 ∨ cl57.slots.size ≤ ((1 : Int32)).toNatClampNeg) := inb_of S57 ⟨by decide, by decide⟩
      obtain ⟨T57, h57, X57, e57, W57, st57⟩ := stJ X56 hx hZ e56 Ar57 (j := (1 : Int32)) hin57 (g := (mkF m 211 #[.val (.long q1), .second, .val (.int p2), .val (.ref b1), .val (.ref bs), .val (.ref bp), .val (.long fa), .second, .val (.long fs'), .second, .val (.long fx), .second, .val (.long fy), .second, .unset, .unset, .unset, .unset, .unset, .unset] [(.long fs'), (.int (1 : Int32)), (.ref b55), (.ref b55)])) rfl rfl (hb hby at_211)
      have V_bs := V_bs.other W57 ne_bs_b55
      have V_bp := V_bp.other W57 ne_bp_b55
      have V_b49 := V_b49.other W57 ne_b49_b55
      have V_b55 : Arv Z h57 b55 k55 .long (4 : Int32) [(.long fa), (.long fs'), (.long (0 : Int64)), (.long (0 : Int64))] (.long (0 : Int64)) := Arv.set Ar57 aq57 S57 n57 H57 G57 rfl W57 1 rfl (Nat.le_of_ble_eq_true rfl)
      have F_b1_a := F_b1_a.other W57 (Or.inl ne_b1_b55)
      have F_b1_s := F_b1_s.other W57 (Or.inl ne_b1_b55)
      have F_b1_x0 := F_b1_x0.other W57 (Or.inl ne_b1_b55)
      have F_b1_x1 := F_b1_x1.other W57 (Or.inl ne_b1_b55)
      have E_b1 := E_b1.wr W57
      have Z0 : n0 ≤ h57.size := by rw [W57.size]; exact Z0
      have K0 := K0.wr W57 (Or.inr sz_b55)
      have N57 := Fr.snoc X57 N56 g_b55
      have V_tmp := V_b55
      obtain ⟨cl58, Ar58, aq58, S58, n58, H58, G58⟩ := V_tmp
      have hin58 : ¬ ((2 : Int32) < 0 ∨ cl58.slots.size ≤ ((2 : Int32)).toNatClampNeg) := inb_of S58 ⟨by decide, by decide⟩
      obtain ⟨T58, h58, X58, e58, W58, st58⟩ := stJ X57 hx hZ e57 Ar58 (j := (2 : Int32)) hin58 (g := (mkF m 216 #[.val (.long q1), .second, .val (.int p2), .val (.ref b1), .val (.ref bs), .val (.ref bp), .val (.long fa), .second, .val (.long fs'), .second, .val (.long fx), .second, .val (.long fy), .second, .unset, .unset, .unset, .unset, .unset, .unset] [(.long fx), (.int (2 : Int32)), (.ref b55), (.ref b55)])) rfl rfl (hb hby at_216)
      have V_bs := V_bs.other W58 ne_bs_b55
      have V_bp := V_bp.other W58 ne_bp_b55
      have V_b49 := V_b49.other W58 ne_b49_b55
      have V_b55 : Arv Z h58 b55 k55 .long (4 : Int32) [(.long fa), (.long fs'), (.long fx), (.long (0 : Int64))] (.long (0 : Int64)) := Arv.set Ar58 aq58 S58 n58 H58 G58 rfl W58 2 rfl (Nat.le_of_ble_eq_true rfl)
      have F_b1_a := F_b1_a.other W58 (Or.inl ne_b1_b55)
      have F_b1_s := F_b1_s.other W58 (Or.inl ne_b1_b55)
      have F_b1_x0 := F_b1_x0.other W58 (Or.inl ne_b1_b55)
      have F_b1_x1 := F_b1_x1.other W58 (Or.inl ne_b1_b55)
      have E_b1 := E_b1.wr W58
      have Z0 : n0 ≤ h58.size := by rw [W58.size]; exact Z0
      have K0 := K0.wr W58 (Or.inr sz_b55)
      have N58 := Fr.snoc X58 N57 g_b55
      have V_tmp := V_b55
      obtain ⟨cl59, Ar59, aq59, S59, n59, H59, G59⟩ := V_tmp
      have hin59 : ¬ ((3 : Int32) < 0 ∨ cl59.slots.size ≤ ((3 : Int32)).toNatClampNeg) := inb_of S59 ⟨by decide, by decide⟩
      obtain ⟨T59, h59, X59, e59, W59, st59⟩ := stJ X58 hx hZ e58 Ar59 (j := (3 : Int32)) hin59 (g := (mkF m 221 #[.val (.long q1), .second, .val (.int p2), .val (.ref b1), .val (.ref bs), .val (.ref bp), .val (.long fa), .second, .val (.long fs'), .second, .val (.long fx), .second, .val (.long fy), .second, .unset, .unset, .unset, .unset, .unset, .unset] [(.long fy), (.int (3 : Int32)), (.ref b55), (.ref b55)])) rfl rfl (hb hby at_221)
      have V_bs := V_bs.other W59 ne_bs_b55
      have V_bp := V_bp.other W59 ne_bp_b55
      have V_b49 := V_b49.other W59 ne_b49_b55
      have V_b55 : Arv Z h59 b55 k55 .long (4 : Int32) [(.long fa), (.long fs'), (.long fx), (.long fy)] (.long (0 : Int64)) := Arv.set Ar59 aq59 S59 n59 H59 G59 rfl W59 3 rfl (Nat.le_of_ble_eq_true rfl)
      have F_b1_a := F_b1_a.other W59 (Or.inl ne_b1_b55)
      have F_b1_s := F_b1_s.other W59 (Or.inl ne_b1_b55)
      have F_b1_x0 := F_b1_x0.other W59 (Or.inl ne_b1_b55)
      have F_b1_x1 := F_b1_x1.other W59 (Or.inl ne_b1_b55)
      have E_b1 := E_b1.wr W59
      have Z0 : n0 ≤ h59.size := by rw [W59.size]; exact Z0
      have K0 := K0.wr W59 (Or.inr sz_b55)
      have N59 := Fr.snoc X59 N58 g_b55
      obtain ⟨_, _, ⟨T60, L60, k60, n60⟩, -, X60, ⟨Lc60, hQ60, l60, y60, z60⟩, st60⟩ := Jvm.LawKit.callS X59 hx (y := (⟨"com/example/driftline/driftline/model/LxmRandom", "restore", "([J)Lcom/example/driftline/driftline/model/LxmRandom;"⟩ : MethodName)) hown (mvT hZ (hw _ (List.mem_of_getElem? (i := 41) rfl))) (mvT hZ (hw _ (List.mem_of_getElem? (i := 42) rfl))) (mvT hZ (hw _ (List.mem_of_getElem? (i := 2) rfl))) (mvT hZ (hw _ (List.mem_of_getElem? (i := 43) rfl))) (by decide) (backOf (W := 0) (rm7 l Z a0 hw [] b55 k55 fa fs' fx fy h59 n0 Z0 V_b55 (by first | (rw [d_fa]; exact own_odd _) | exact own_odd _) hc194) hZ (hw _ (List.mem_of_getElem? (i := 43) rfl)) (hw _ (List.mem_of_getElem? (i := 2) rfl)) (by decide) (by decide)) (g := (mkF m 222 #[.val (.long q1), .second, .val (.int p2), .val (.ref b1), .val (.ref bs), .val (.ref bp), .val (.long fa), .second, .val (.long fs'), .second, .val (.long fx), .second, .val (.long fy), .second, .unset, .unset, .unset, .unset, .unset, .unset] [(.ref b55)])) rfl (by rw [hml]; rfl) (argsL := [(.ref b55)]) (rest := []) (lenOf pd_6 rfl) rfl (by show 2 * 0 + _ ≤ _; exact Nat.le_of_eq rfl) (hb hby at_222) (fun _ _ => ⟨rfl, e59, (by decide : 5 + 1 ≤ _), (by decide : 20 + 4 ≤ _)⟩)
      dsimp only [Pt.U, Pt.locs, Pt.cells, Pt.slots] at X60 l60 y60 z60 st60 hQ60
      subst l60 y60 z60
      have lt60_b1 : b1 < h59.size := E_b1.lt
      have lt60_bs : bs < h59.size := V_bs.lt
      have lt60_bp : bp < h59.size := V_bp.lt
      have lt60_b49 : b49 < h59.size := V_b49.lt
      have lt60_b55 : b55 < h59.size := V_b55.lt
      obtain ⟨br, rfl, d_br, sz60, N60q, K60, E_br_new, F_br_a_new, F_br_s_new, F_br_x0_new, F_br_x1_new⟩ := hQ60
      have E_b1 := E_b1.keep K60
      have F_b1_a := F_b1_a.keep K60 nin0
      have F_b1_s := F_b1_s.keep K60 nin0
      have F_b1_x0 := F_b1_x0.keep K60 nin0
      have F_b1_x1 := F_b1_x1.keep K60 nin0
      have V_bs := V_bs.keep K60 nin0
      have V_bp := V_bp.keep K60 nin0
      have V_b49 := V_b49.keep K60 nin0
      have V_b55 := V_b55.keep K60 nin0
      have E_br := E_br_new
      have F_br_a := F_br_a_new
      have F_br_s := F_br_s_new
      have F_br_x0 := F_br_x0_new
      have F_br_x1 := F_br_x1_new
      have g_br : n0 ≤ br := Nat.le_trans Z0 sz60
      have sz_br : h0.size ≤ br := Nat.le_trans K0.1 sz60
      have ne_b1_br : b1 ≠ br := Nat.ne_of_lt (Nat.lt_of_lt_of_le lt60_b1 sz60)
      have ne_bs_br : bs ≠ br := Nat.ne_of_lt (Nat.lt_of_lt_of_le lt60_bs sz60)
      have ne_bp_br : bp ≠ br := Nat.ne_of_lt (Nat.lt_of_lt_of_le lt60_bp sz60)
      have ne_b49_br : b49 ≠ br := Nat.ne_of_lt (Nat.lt_of_lt_of_le lt60_b49 sz60)
      have ne_b55_br : b55 ≠ br := Nat.ne_of_lt (Nat.lt_of_lt_of_le lt60_b55 sz60)
      have Z0 : n0 ≤ T60.heap.size := Nat.le_trans Z0 K60.1
      have K0 := K0.trans K60 all0
      have N60 := Fr.app N59 N60q
      obtain ⟨cq61, kq61, q61a, q61b, q61c⟩ := isOf hZ rfl E_b1
      obtain ⟨_, _, ⟨T61, L61, k61, n61⟩, -, X61, ⟨Lc61, hQ61, l61, y61, z61⟩, st61⟩ := X60.virtualBack hx (y := (⟨"com/example/driftline/driftline/model/LxmRandom", "nextLong", "()J"⟩ : MethodName)) (z := (⟨"com/example/driftline/driftline/model/LxmRandom", "nextLong", "()J"⟩ : MethodName)) hown (mvT hZ (hw _ (List.mem_of_getElem? (i := 48) rfl))) (mvT hZ (hw _ (List.mem_of_getElem? (i := 49) rfl))) (notFace_of_selects (args := #[]) (mvT hZ (hw _ (List.mem_of_getElem? (i := 51) rfl)))) (mvT hZ (hw _ (List.mem_of_getElem? (i := 51) rfl))) (mvT hZ (hw _ (List.mem_of_getElem? (i := 50) rfl))) (by decide) (backOf (W := 0) (rm9 l Z a0 hw [] b1 fa fs' fx fy T60.heap n0 Z0 E_b1 g_b1 F_b1_a F_b1_s F_b1_x0 F_b1_x1) hZ (hw _ (List.mem_of_getElem? (i := 52) rfl)) (hw _ (List.mem_of_getElem? (i := 2) rfl)) (by decide) (by decide)) q61a q61c (g := (mkF m 228 #[.val (.long q1), .second, .val (.int p2), .val (.ref b1), .val (.ref bs), .val (.ref bp), .val (.long fa), .second, .val (.long fs'), .second, .val (.long fx), .second, .val (.long fy), .second, .val (.ref br), .unset, .unset, .unset, .unset, .unset] [(.ref b1)])) rfl (by rw [hml]; rfl) (Steps.refl _) (argsL := []) (rest := []) (lenOf pd_7 rfl) rfl (by show 2 * 0 + _ ≤ _; exact Nat.le_of_eq rfl) (hb hby at_228) (fun _ _ => ⟨rfl, rfl, (by decide : 6 + 0 ≤ _), (by decide : 24 + 0 ≤ _)⟩)
      dsimp only [Pt.U, Pt.locs, Pt.cells, Pt.slots] at X61 l61 y61 z61 st61 hQ61
      subst l61 y61 z61
      obtain ⟨dg, rfl, d_dg, N61q, K61, E_b1_new, F_b1_a_new, F_b1_s_new, F_b1_x0_new, F_b1_x1_new⟩ := hQ61
      have E_b1 := E_b1.keep K61
      have E_br := E_br.keep K61
      have F_br_a := F_br_a.keep K61 (ninS (Ne.symm ne_b1_br) nin0)
      have F_br_s := F_br_s.keep K61 (ninS (Ne.symm ne_b1_br) nin0)
      have F_br_x0 := F_br_x0.keep K61 (ninS (Ne.symm ne_b1_br) nin0)
      have F_br_x1 := F_br_x1.keep K61 (ninS (Ne.symm ne_b1_br) nin0)
      have V_bs := V_bs.keep K61 (ninS (Ne.symm ne_b1_bs) nin0)
      have V_bp := V_bp.keep K61 (ninS (Ne.symm ne_b1_bp) nin0)
      have V_b49 := V_b49.keep K61 (ninS (Ne.symm ne_b1_b49) nin0)
      have V_b55 := V_b55.keep K61 (ninS (Ne.symm ne_b1_b55) nin0)
      have E_b1 := E_b1_new
      have F_b1_a := F_b1_a_new
      have F_b1_s := F_b1_s_new
      have F_b1_x0 := F_b1_x0_new
      have F_b1_x1 := F_b1_x1_new
      have Z0 : n0 ≤ T61.heap.size := Nat.le_trans Z0 K61.1
      have K0 := K0.trans K61 (allS (Or.inr sz_b1) all0)
      have N61 := Fr.app N60 N61q
      obtain ⟨cq62, kq62, q62a, q62b, q62c⟩ := isOf hZ rfl E_br
      obtain ⟨_, _, ⟨T62, L62, k62, n62⟩, -, X62, ⟨Lc62, hQ62, l62, y62, z62⟩, st62⟩ := X61.virtualBack hx (y := (⟨"com/example/driftline/driftline/model/LxmRandom", "nextLong", "()J"⟩ : MethodName)) (z := (⟨"com/example/driftline/driftline/model/LxmRandom", "nextLong", "()J"⟩ : MethodName)) hown (mvT hZ (hw _ (List.mem_of_getElem? (i := 48) rfl))) (mvT hZ (hw _ (List.mem_of_getElem? (i := 49) rfl))) (notFace_of_selects (args := #[]) (mvT hZ (hw _ (List.mem_of_getElem? (i := 51) rfl)))) (mvT hZ (hw _ (List.mem_of_getElem? (i := 51) rfl))) (mvT hZ (hw _ (List.mem_of_getElem? (i := 50) rfl))) (by decide) (backOf (W := 0) (rm9 l Z a0 hw [] br fa fs' fx fy T61.heap n0 Z0 E_br g_br F_br_a F_br_s F_br_x0 F_br_x1) hZ (hw _ (List.mem_of_getElem? (i := 52) rfl)) (hw _ (List.mem_of_getElem? (i := 2) rfl)) (by decide) (by decide)) q62a q62c (g := (mkF m 235 #[.val (.long q1), .second, .val (.int p2), .val (.ref b1), .val (.ref bs), .val (.ref bp), .val (.long fa), .second, .val (.long fs'), .second, .val (.long fx), .second, .val (.long fy), .second, .val (.ref br), .val (.long dg), .second, .unset, .unset, .unset] [(.ref br)])) rfl (by rw [hml]; rfl) (Steps.refl _) (argsL := []) (rest := []) (lenOf pd_7 rfl) rfl (by show 2 * 0 + _ ≤ _; exact Nat.le_of_eq rfl) (hb hby at_235) (fun _ _ => ⟨rfl, rfl, (by decide : 6 + 0 ≤ _), (by decide : 24 + 0 ≤ _)⟩)
      dsimp only [Pt.U, Pt.locs, Pt.cells, Pt.slots] at X62 l62 y62 z62 st62 hQ62
      subst l62 y62 z62
      obtain ⟨dr, rfl, d_dr, N62q, K62, E_br_new, F_br_a_new, F_br_s_new, F_br_x0_new, F_br_x1_new⟩ := hQ62
      have E_b1 := E_b1.keep K62
      have E_br := E_br.keep K62
      have F_b1_a := F_b1_a.keep K62 (ninS ne_b1_br nin0)
      have F_b1_s := F_b1_s.keep K62 (ninS ne_b1_br nin0)
      have F_b1_x0 := F_b1_x0.keep K62 (ninS ne_b1_br nin0)
      have F_b1_x1 := F_b1_x1.keep K62 (ninS ne_b1_br nin0)
      have V_bs := V_bs.keep K62 (ninS ne_bs_br nin0)
      have V_bp := V_bp.keep K62 (ninS ne_bp_br nin0)
      have V_b49 := V_b49.keep K62 (ninS ne_b49_br nin0)
      have V_b55 := V_b55.keep K62 (ninS ne_b55_br nin0)
      have E_br := E_br_new
      have F_br_a := F_br_a_new
      have F_br_s := F_br_s_new
      have F_br_x0 := F_br_x0_new
      have F_br_x1 := F_br_x1_new
      have Z0 : n0 ≤ T62.heap.size := Nat.le_trans Z0 K62.1
      have K0 := K0.trans K62 (allS (Or.inr sz_br) all0)
      have N62 := Fr.app N61 N62q
      have hc245 : dg = dr := d_dg.trans d_dr.symm
      obtain ⟨cq63, kq63, q63a, q63b, q63c⟩ := isOf hZ rfl E_b1
      obtain ⟨_, _, ⟨T63, L63, k63, n63⟩, -, X63, ⟨Lc63, hQ63, l63, y63, z63⟩, st63⟩ := X62.virtualBack hx (y := (⟨"com/example/driftline/driftline/model/LxmRandom", "state", "()[J"⟩ : MethodName)) (z := (⟨"com/example/driftline/driftline/model/LxmRandom", "state", "()[J"⟩ : MethodName)) hown (mvT hZ (hw _ (List.mem_of_getElem? (i := 29) rfl))) (mvT hZ (hw _ (List.mem_of_getElem? (i := 30) rfl))) (notFace_of_selects (args := #[]) (mvT hZ (hw _ (List.mem_of_getElem? (i := 32) rfl)))) (mvT hZ (hw _ (List.mem_of_getElem? (i := 32) rfl))) (mvT hZ (hw _ (List.mem_of_getElem? (i := 31) rfl))) (by decide) (backOf (W := 0) (rm5 l Z a0 hw [] b1 fa (own_s fa fs') (own_x0 fx fy) (own_x1 fx fy) T62.heap n0 Z0 F_b1_a F_b1_s F_b1_x0 F_b1_x1) hZ (hw _ (List.mem_of_getElem? (i := 33) rfl)) (hw _ (List.mem_of_getElem? (i := 2) rfl)) (by decide) (by decide)) q63a q63c (g := (mkF m 251 #[.val (.long q1), .second, .val (.int p2), .val (.ref b1), .val (.ref bs), .val (.ref bp), .val (.long fa), .second, .val (.long fs'), .second, .val (.long fx), .second, .val (.long fy), .second, .val (.ref br), .val (.long dg), .second, .val (.long dr), .second, .unset] [(.ref b1)])) rfl (by rw [hml]; rfl) (Steps.refl _) (argsL := []) (rest := []) (lenOf pd_4 rfl) rfl (by show 2 * 0 + _ ≤ _; exact Nat.le_of_eq rfl) (hb hby at_251) (fun _ _ => ⟨rfl, rfl, (by decide : 6 + 1 ≤ _), (by decide : 24 + 4 ≤ _)⟩)
      dsimp only [Pt.U, Pt.locs, Pt.cells, Pt.slots] at X63 l63 y63 z63 st63 hQ63
      subst l63 y63 z63
      have lt63_b1 : b1 < T62.heap.size := E_b1.lt
      have lt63_br : br < T62.heap.size := E_br.lt
      have lt63_bs : bs < T62.heap.size := V_bs.lt
      have lt63_bp : bp < T62.heap.size := V_bp.lt
      have lt63_b49 : b49 < T62.heap.size := V_b49.lt
      have lt63_b55 : b55 < T62.heap.size := V_b55.lt
      obtain ⟨bq, kk_63, rfl, d_bq, sz63, N63q, K63, V_bq_new⟩ := hQ63
      have E_b1 := E_b1.keep K63
      have E_br := E_br.keep K63
      have F_b1_a := F_b1_a.keep K63 nin0
      have F_b1_s := F_b1_s.keep K63 nin0
      have F_b1_x0 := F_b1_x0.keep K63 nin0
      have F_b1_x1 := F_b1_x1.keep K63 nin0
      have F_br_a := F_br_a.keep K63 nin0
      have F_br_s := F_br_s.keep K63 nin0
      have F_br_x0 := F_br_x0.keep K63 nin0
      have F_br_x1 := F_br_x1.keep K63 nin0
      have V_bs := V_bs.keep K63 nin0
      have V_bp := V_bp.keep K63 nin0
      have V_b49 := V_b49.keep K63 nin0
      have V_b55 := V_b55.keep K63 nin0
      have V_bq := V_bq_new
      have g_bq : n0 ≤ bq := Nat.le_trans Z0 sz63
      have sz_bq : h0.size ≤ bq := Nat.le_trans K0.1 sz63
      have ne_b1_bq : b1 ≠ bq := Nat.ne_of_lt (Nat.lt_of_lt_of_le lt63_b1 sz63)
      have ne_br_bq : br ≠ bq := Nat.ne_of_lt (Nat.lt_of_lt_of_le lt63_br sz63)
      have ne_bs_bq : bs ≠ bq := Nat.ne_of_lt (Nat.lt_of_lt_of_le lt63_bs sz63)
      have ne_bp_bq : bp ≠ bq := Nat.ne_of_lt (Nat.lt_of_lt_of_le lt63_bp sz63)
      have ne_b49_bq : b49 ≠ bq := Nat.ne_of_lt (Nat.lt_of_lt_of_le lt63_b49 sz63)
      have ne_b55_bq : b55 ≠ bq := Nat.ne_of_lt (Nat.lt_of_lt_of_le lt63_b55 sz63)
      have Z0 : n0 ≤ T63.heap.size := Nat.le_trans Z0 K63.1
      have K0 := K0.trans K63 all0
      have N63 := Fr.app N62 N63q
      have V_tmp := V_bq
      obtain ⟨cl64, Ar64, aq64, S64, n64, H64, G64⟩ := V_tmp
      have hc260 : (4 : Int32) = (4 : Int32) := rfl
      have V_tmp := V_bq
      obtain ⟨cl65, Ar65, aq65, S65, n65, H65, G65⟩ := V_tmp
      have hin65 : ¬ ((0 : Int32) < 0 ∨ cl65.slots.size ≤ ((0 : Int32)).toNatClampNeg) := inb_of S65 ⟨by decide, by decide⟩
      have hat65 : cl65.slots[((0 : Int32)).toNatClampNeg]? = some (.long fa) := Has.at H65 hin65 rfl
      have hc272 : fa = fa := rfl
      have V_tmp := V_bq
      obtain ⟨cl66, Ar66, aq66, S66, n66, H66, G66⟩ := V_tmp
      have hin66 : ¬ ((1 : Int32) < 0 ∨ cl66.slots.size ≤ ((1 : Int32)).toNatClampNeg) := inb_of S66 ⟨by decide, by decide⟩
      have hat66 : cl66.slots[((1 : Int32)).toNatClampNeg]? = some (.long (own_s fa fs')) := Has.at H66 hin66 rfl
      have hc291 : (own_s fa fs') = (((-3372029247567499371 : Int64) * fs') + fa) := rfl
      obtain ⟨cq67, kq67, q67a, q67b, q67c⟩ := isOf hZ rfl E_br
      obtain ⟨_, _, ⟨T67, L67, k67, n67⟩, -, X67, ⟨Lc67, hQ67, l67, y67, z67⟩, st67⟩ := X63.virtualBack hx (y := (⟨"com/example/driftline/driftline/model/LxmRandom", "inState", "([J)Z"⟩ : MethodName)) (z := (⟨"com/example/driftline/driftline/model/LxmRandom", "inState", "([J)Z"⟩ : MethodName)) hown (mvT hZ (hw _ (List.mem_of_getElem? (i := 36) rfl))) (mvT hZ (hw _ (List.mem_of_getElem? (i := 37) rfl))) (notFace_of_selects (args := #[]) (mvT hZ (hw _ (List.mem_of_getElem? (i := 39) rfl)))) (mvT hZ (hw _ (List.mem_of_getElem? (i := 39) rfl))) (mvT hZ (hw _ (List.mem_of_getElem? (i := 38) rfl))) (by decide) (backOf (W := 0) (rm6 l Z a0 hw [] br bq fa (own_s fa fs') (own_x0 fx fy) (own_x1 fx fy) kk_63 fa (own_s fa fs') (own_x0 fx fy) (own_x1 fx fy) T63.heap n0 Z0 F_br_a F_br_s F_br_x0 F_br_x1 V_bq) hZ (hw _ (List.mem_of_getElem? (i := 40) rfl)) (hw _ (List.mem_of_getElem? (i := 2) rfl)) (by decide) (by decide)) q67a q67c (g := (mkF m 300 #[.val (.long q1), .second, .val (.int p2), .val (.ref b1), .val (.ref bs), .val (.ref bp), .val (.long fa), .second, .val (.long fs'), .second, .val (.long fx), .second, .val (.long fy), .second, .val (.ref br), .val (.long dg), .second, .val (.long dr), .second, .val (.ref bq)] [(.ref bq), (.ref br)])) rfl (by rw [hml]; rfl) (Steps.refl _) (argsL := [(.ref bq)]) (rest := []) (lenOf pd_5 rfl) rfl (by show 2 * 0 + _ ≤ _; exact Nat.le_of_eq rfl) (hb hby at_300) (fun _ _ => ⟨rfl, rfl, (by decide : 7 + 0 ≤ _), (by decide : 28 + 0 ≤ _)⟩)
      dsimp only [Pt.U, Pt.locs, Pt.cells, Pt.slots] at X67 l67 y67 z67 st67 hQ67
      subst l67 y67 z67
      obtain ⟨fin, rfl, d_fin, N67q, e67⟩ := hQ67
      have N67 := Fr.app N63 N67q
      obtain ⟨fs, hr, hrun, hended, hW, hsame⟩ := X67.leave (v := some (.int fin)) (fun h => by rw [Bd.returns] at h; cases h)
      refine ⟨_, _, ?_, hrun, hended, _, _, rfl, ?_, ⟨_, rfl⟩, hW, hsame.mono (by decide) (by decide)⟩
      · show Steps p.tables e below (T54.setTop (mkF m 194 #[.val (.long q1), .second, .val (.int p2), .val (.ref b1), .val (.ref bs), .val (.ref bp), .val (.long fa), .second, .val (.long fs'), .second, .val (.long fx), .second, .val (.long fy), .second, .unset, .unset, .unset, .unset, .unset, .unset] [(.int (lcmpW (fx ||| fy) (0 : Int64)))])) _
        refine XS.ifYes X54.here hx rfl (pc0 := 194) (pc' := 199) rfl (hb hby at_194) rfl ((if0 _ _).trans (feq (fun z => hc194 ((lw_eq _ _).mp z))).2) (by decide) (by decide) ?_
        show Steps p.tables e below (T54.setTop (mkF m 199 #[.val (.long q1), .second, .val (.int p2), .val (.ref b1), .val (.ref bs), .val (.ref bp), .val (.long fa), .second, .val (.long fs'), .second, .val (.long fx), .second, .val (.long fy), .second, .unset, .unset, .unset, .unset, .unset, .unset] [])) _
        refine XS.iconst X54.here hx rfl (hb hby at_199) ?_
        show Steps p.tables e below (T54.setTop (mkF m 200 #[.val (.long q1), .second, .val (.int p2), .val (.ref b1), .val (.ref bs), .val (.ref bp), .val (.long fa), .second, .val (.long fs'), .second, .val (.long fx), .second, .val (.long fy), .second, .unset, .unset, .unset, .unset, .unset, .unset] [(.int (4 : Int32))])) _
        refine st55 _ ?_
        show Steps p.tables e below (T55.setTop (mkF m 202 #[.val (.long q1), .second, .val (.int p2), .val (.ref b1), .val (.ref bs), .val (.ref bp), .val (.long fa), .second, .val (.long fs'), .second, .val (.long fx), .second, .val (.long fy), .second, .unset, .unset, .unset, .unset, .unset, .unset] [(.ref b55)])) _
        refine XS.dup X55.here hx rfl (hb hby at_202) rfl rfl ?_
        show Steps p.tables e below (T55.setTop (mkF m 203 #[.val (.long q1), .second, .val (.int p2), .val (.ref b1), .val (.ref bs), .val (.ref bp), .val (.long fa), .second, .val (.long fs'), .second, .val (.long fx), .second, .val (.long fy), .second, .unset, .unset, .unset, .unset, .unset, .unset] [(.ref b55), (.ref b55)])) _
        refine XS.iconst X55.here hx rfl (hb hby at_203) ?_
        show Steps p.tables e below (T55.setTop (mkF m 204 #[.val (.long q1), .second, .val (.int p2), .val (.ref b1), .val (.ref bs), .val (.ref bp), .val (.long fa), .second, .val (.long fs'), .second, .val (.long fx), .second, .val (.long fy), .second, .unset, .unset, .unset, .unset, .unset, .unset] [(.int (0 : Int32)), (.ref b55), (.ref b55)])) _
        refine XS.lload X55.here hx rfl (hb hby at_204) rfl ?_
        show Steps p.tables e below (T55.setTop (mkF m 206 #[.val (.long q1), .second, .val (.int p2), .val (.ref b1), .val (.ref bs), .val (.ref bp), .val (.long fa), .second, .val (.long fs'), .second, .val (.long fx), .second, .val (.long fy), .second, .unset, .unset, .unset, .unset, .unset, .unset] [(.long fa), (.int (0 : Int32)), (.ref b55), (.ref b55)])) _
        refine st56 _ ?_
        show Steps p.tables e below (T56.setTop (mkF m 207 #[.val (.long q1), .second, .val (.int p2), .val (.ref b1), .val (.ref bs), .val (.ref bp), .val (.long fa), .second, .val (.long fs'), .second, .val (.long fx), .second, .val (.long fy), .second, .unset, .unset, .unset, .unset, .unset, .unset] [(.ref b55)])) _
        refine XS.dup X56.here hx rfl (hb hby at_207) rfl rfl ?_
        show Steps p.tables e below (T56.setTop (mkF m 208 #[.val (.long q1), .second, .val (.int p2), .val (.ref b1), .val (.ref bs), .val (.ref bp), .val (.long fa), .second, .val (.long fs'), .second, .val (.long fx), .second, .val (.long fy), .second, .unset, .unset, .unset, .unset, .unset, .unset] [(.ref b55), (.ref b55)])) _
        refine XS.iconst X56.here hx rfl (hb hby at_208) ?_
        show Steps p.tables e below (T56.setTop (mkF m 209 #[.val (.long q1), .second, .val (.int p2), .val (.ref b1), .val (.ref bs), .val (.ref bp), .val (.long fa), .second, .val (.long fs'), .second, .val (.long fx), .second, .val (.long fy), .second, .unset, .unset, .unset, .unset, .unset, .unset] [(.int (1 : Int32)), (.ref b55), (.ref b55)])) _
        refine XS.lload X56.here hx rfl (hb hby at_209) rfl ?_
        show Steps p.tables e below (T56.setTop (mkF m 211 #[.val (.long q1), .second, .val (.int p2), .val (.ref b1), .val (.ref bs), .val (.ref bp), .val (.long fa), .second, .val (.long fs'), .second, .val (.long fx), .second, .val (.long fy), .second, .unset, .unset, .unset, .unset, .unset, .unset] [(.long fs'), (.int (1 : Int32)), (.ref b55), (.ref b55)])) _
        refine st57 _ ?_
        show Steps p.tables e below (T57.setTop (mkF m 212 #[.val (.long q1), .second, .val (.int p2), .val (.ref b1), .val (.ref bs), .val (.ref bp), .val (.long fa), .second, .val (.long fs'), .second, .val (.long fx), .second, .val (.long fy), .second, .unset, .unset, .unset, .unset, .unset, .unset] [(.ref b55)])) _
        refine XS.dup X57.here hx rfl (hb hby at_212) rfl rfl ?_
        show Steps p.tables e below (T57.setTop (mkF m 213 #[.val (.long q1), .second, .val (.int p2), .val (.ref b1), .val (.ref bs), .val (.ref bp), .val (.long fa), .second, .val (.long fs'), .second, .val (.long fx), .second, .val (.long fy), .second, .unset, .unset, .unset, .unset, .unset, .unset] [(.ref b55), (.ref b55)])) _
        refine XS.iconst X57.here hx rfl (hb hby at_213) ?_
        show Steps p.tables e below (T57.setTop (mkF m 214 #[.val (.long q1), .second, .val (.int p2), .val (.ref b1), .val (.ref bs), .val (.ref bp), .val (.long fa), .second, .val (.long fs'), .second, .val (.long fx), .second, .val (.long fy), .second, .unset, .unset, .unset, .unset, .unset, .unset] [(.int (2 : Int32)), (.ref b55), (.ref b55)])) _
        refine XS.lload X57.here hx rfl (hb hby at_214) rfl ?_
        show Steps p.tables e below (T57.setTop (mkF m 216 #[.val (.long q1), .second, .val (.int p2), .val (.ref b1), .val (.ref bs), .val (.ref bp), .val (.long fa), .second, .val (.long fs'), .second, .val (.long fx), .second, .val (.long fy), .second, .unset, .unset, .unset, .unset, .unset, .unset] [(.long fx), (.int (2 : Int32)), (.ref b55), (.ref b55)])) _
        refine st58 _ ?_
        show Steps p.tables e below (T58.setTop (mkF m 217 #[.val (.long q1), .second, .val (.int p2), .val (.ref b1), .val (.ref bs), .val (.ref bp), .val (.long fa), .second, .val (.long fs'), .second, .val (.long fx), .second, .val (.long fy), .second, .unset, .unset, .unset, .unset, .unset, .unset] [(.ref b55)])) _
        refine XS.dup X58.here hx rfl (hb hby at_217) rfl rfl ?_
        show Steps p.tables e below (T58.setTop (mkF m 218 #[.val (.long q1), .second, .val (.int p2), .val (.ref b1), .val (.ref bs), .val (.ref bp), .val (.long fa), .second, .val (.long fs'), .second, .val (.long fx), .second, .val (.long fy), .second, .unset, .unset, .unset, .unset, .unset, .unset] [(.ref b55), (.ref b55)])) _
        refine XS.iconst X58.here hx rfl (hb hby at_218) ?_
        show Steps p.tables e below (T58.setTop (mkF m 219 #[.val (.long q1), .second, .val (.int p2), .val (.ref b1), .val (.ref bs), .val (.ref bp), .val (.long fa), .second, .val (.long fs'), .second, .val (.long fx), .second, .val (.long fy), .second, .unset, .unset, .unset, .unset, .unset, .unset] [(.int (3 : Int32)), (.ref b55), (.ref b55)])) _
        refine XS.lload X58.here hx rfl (hb hby at_219) rfl ?_
        show Steps p.tables e below (T58.setTop (mkF m 221 #[.val (.long q1), .second, .val (.int p2), .val (.ref b1), .val (.ref bs), .val (.ref bp), .val (.long fa), .second, .val (.long fs'), .second, .val (.long fx), .second, .val (.long fy), .second, .unset, .unset, .unset, .unset, .unset, .unset] [(.long fy), (.int (3 : Int32)), (.ref b55), (.ref b55)])) _
        refine st59 _ ?_
        show Steps p.tables e below (T59.setTop (mkF m 222 #[.val (.long q1), .second, .val (.int p2), .val (.ref b1), .val (.ref bs), .val (.ref bp), .val (.long fa), .second, .val (.long fs'), .second, .val (.long fx), .second, .val (.long fy), .second, .unset, .unset, .unset, .unset, .unset, .unset] [(.ref b55)])) _
        refine st60 _ ?_
        show Steps p.tables e below (T60.setTop (mkF m 225 #[.val (.long q1), .second, .val (.int p2), .val (.ref b1), .val (.ref bs), .val (.ref bp), .val (.long fa), .second, .val (.long fs'), .second, .val (.long fx), .second, .val (.long fy), .second, .unset, .unset, .unset, .unset, .unset, .unset] [(.ref br)])) _
        refine XS.astore X60.here hx rfl (hb hby at_225) rfl rfl (l' := #[.val (.long q1), .second, .val (.int p2), .val (.ref b1), .val (.ref bs), .val (.ref bp), .val (.long fa), .second, .val (.long fs'), .second, .val (.long fx), .second, .val (.long fy), .second, .val (.ref br), .unset, .unset, .unset, .unset, .unset]) rfl ?_
        show Steps p.tables e below (T60.setTop (mkF m 227 #[.val (.long q1), .second, .val (.int p2), .val (.ref b1), .val (.ref bs), .val (.ref bp), .val (.long fa), .second, .val (.long fs'), .second, .val (.long fx), .second, .val (.long fy), .second, .val (.ref br), .unset, .unset, .unset, .unset, .unset] [])) _
        refine XS.aloadN X60.here hx rfl (hb hby at_227) rfl rfl ?_
        show Steps p.tables e below (T60.setTop (mkF m 228 #[.val (.long q1), .second, .val (.int p2), .val (.ref b1), .val (.ref bs), .val (.ref bp), .val (.long fa), .second, .val (.long fs'), .second, .val (.long fx), .second, .val (.long fy), .second, .val (.ref br), .unset, .unset, .unset, .unset, .unset] [(.ref b1)])) _
        refine st61.trans ?_
        show Steps p.tables e below (T61.setTop (mkF m 231 #[.val (.long q1), .second, .val (.int p2), .val (.ref b1), .val (.ref bs), .val (.ref bp), .val (.long fa), .second, .val (.long fs'), .second, .val (.long fx), .second, .val (.long fy), .second, .val (.ref br), .unset, .unset, .unset, .unset, .unset] [(.long dg)])) _
        refine XS.lstore X61.here hx rfl (hb hby at_231) rfl (l' := #[.val (.long q1), .second, .val (.int p2), .val (.ref b1), .val (.ref bs), .val (.ref bp), .val (.long fa), .second, .val (.long fs'), .second, .val (.long fx), .second, .val (.long fy), .second, .val (.ref br), .val (.long dg), .second, .unset, .unset, .unset]) rfl ?_
        show Steps p.tables e below (T61.setTop (mkF m 233 #[.val (.long q1), .second, .val (.int p2), .val (.ref b1), .val (.ref bs), .val (.ref bp), .val (.long fa), .second, .val (.long fs'), .second, .val (.long fx), .second, .val (.long fy), .second, .val (.ref br), .val (.long dg), .second, .unset, .unset, .unset] [])) _
        refine XS.aload X61.here hx rfl (hb hby at_233) rfl rfl ?_
        show Steps p.tables e below (T61.setTop (mkF m 235 #[.val (.long q1), .second, .val (.int p2), .val (.ref b1), .val (.ref bs), .val (.ref bp), .val (.long fa), .second, .val (.long fs'), .second, .val (.long fx), .second, .val (.long fy), .second, .val (.ref br), .val (.long dg), .second, .unset, .unset, .unset] [(.ref br)])) _
        refine st62.trans ?_
        show Steps p.tables e below (T62.setTop (mkF m 238 #[.val (.long q1), .second, .val (.int p2), .val (.ref b1), .val (.ref bs), .val (.ref bp), .val (.long fa), .second, .val (.long fs'), .second, .val (.long fx), .second, .val (.long fy), .second, .val (.ref br), .val (.long dg), .second, .unset, .unset, .unset] [(.long dr)])) _
        refine XS.lstore X62.here hx rfl (hb hby at_238) rfl (l' := #[.val (.long q1), .second, .val (.int p2), .val (.ref b1), .val (.ref bs), .val (.ref bp), .val (.long fa), .second, .val (.long fs'), .second, .val (.long fx), .second, .val (.long fy), .second, .val (.ref br), .val (.long dg), .second, .val (.long dr), .second, .unset]) rfl ?_
        show Steps p.tables e below (T62.setTop (mkF m 240 #[.val (.long q1), .second, .val (.int p2), .val (.ref b1), .val (.ref bs), .val (.ref bp), .val (.long fa), .second, .val (.long fs'), .second, .val (.long fx), .second, .val (.long fy), .second, .val (.ref br), .val (.long dg), .second, .val (.long dr), .second, .unset] [])) _
        refine XS.lload X62.here hx rfl (hb hby at_240) rfl ?_
        show Steps p.tables e below (T62.setTop (mkF m 242 #[.val (.long q1), .second, .val (.int p2), .val (.ref b1), .val (.ref bs), .val (.ref bp), .val (.long fa), .second, .val (.long fs'), .second, .val (.long fx), .second, .val (.long fy), .second, .val (.ref br), .val (.long dg), .second, .val (.long dr), .second, .unset] [(.long dg)])) _
        refine XS.lload X62.here hx rfl (hb hby at_242) rfl ?_
        show Steps p.tables e below (T62.setTop (mkF m 244 #[.val (.long q1), .second, .val (.int p2), .val (.ref b1), .val (.ref bs), .val (.ref bp), .val (.long fa), .second, .val (.long fs'), .second, .val (.long fx), .second, .val (.long fy), .second, .val (.ref br), .val (.long dg), .second, .val (.long dr), .second, .unset] [(.long dr), (.long dg)])) _
        refine XS.lcmp X62.here hx rfl (hb hby at_244) rfl ?_
        show Steps p.tables e below (T62.setTop (mkF m 245 #[.val (.long q1), .second, .val (.int p2), .val (.ref b1), .val (.ref bs), .val (.ref bp), .val (.long fa), .second, .val (.long fs'), .second, .val (.long fx), .second, .val (.long fy), .second, .val (.ref br), .val (.long dg), .second, .val (.long dr), .second, .unset] [(.int (lcmpW dg dr))])) _
        refine XS.ifYes X62.here hx rfl (pc0 := 245) (pc' := 250) rfl (hb hby at_245) rfl ((if0 _ _).trans (teq ((lw_eq _ _).mpr hc245)).1) (by decide) (by decide) ?_
        show Steps p.tables e below (T62.setTop (mkF m 250 #[.val (.long q1), .second, .val (.int p2), .val (.ref b1), .val (.ref bs), .val (.ref bp), .val (.long fa), .second, .val (.long fs'), .second, .val (.long fx), .second, .val (.long fy), .second, .val (.ref br), .val (.long dg), .second, .val (.long dr), .second, .unset] [])) _
        refine XS.aloadN X62.here hx rfl (hb hby at_250) rfl rfl ?_
        show Steps p.tables e below (T62.setTop (mkF m 251 #[.val (.long q1), .second, .val (.int p2), .val (.ref b1), .val (.ref bs), .val (.ref bp), .val (.long fa), .second, .val (.long fs'), .second, .val (.long fx), .second, .val (.long fy), .second, .val (.ref br), .val (.long dg), .second, .val (.long dr), .second, .unset] [(.ref b1)])) _
        refine st63.trans ?_
        show Steps p.tables e below (T63.setTop (mkF m 254 #[.val (.long q1), .second, .val (.int p2), .val (.ref b1), .val (.ref bs), .val (.ref bp), .val (.long fa), .second, .val (.long fs'), .second, .val (.long fx), .second, .val (.long fy), .second, .val (.ref br), .val (.long dg), .second, .val (.long dr), .second, .unset] [(.ref bq)])) _
        refine XS.astore X63.here hx rfl (hb hby at_254) rfl rfl (l' := #[.val (.long q1), .second, .val (.int p2), .val (.ref b1), .val (.ref bs), .val (.ref bp), .val (.long fa), .second, .val (.long fs'), .second, .val (.long fx), .second, .val (.long fy), .second, .val (.ref br), .val (.long dg), .second, .val (.long dr), .second, .val (.ref bq)]) rfl ?_
        show Steps p.tables e below (T63.setTop (mkF m 256 #[.val (.long q1), .second, .val (.int p2), .val (.ref b1), .val (.ref bs), .val (.ref bp), .val (.long fa), .second, .val (.long fs'), .second, .val (.long fx), .second, .val (.long fy), .second, .val (.ref br), .val (.long dg), .second, .val (.long dr), .second, .val (.ref bq)] [])) _
        refine XS.aload X63.here hx rfl (hb hby at_256) rfl rfl ?_
        show Steps p.tables e below (T63.setTop (mkF m 258 #[.val (.long q1), .second, .val (.int p2), .val (.ref b1), .val (.ref bs), .val (.ref bp), .val (.long fa), .second, .val (.long fs'), .second, .val (.long fx), .second, .val (.long fy), .second, .val (.ref br), .val (.long dg), .second, .val (.long dr), .second, .val (.ref bq)] [(.ref bq)])) _
        refine X63.arraylength hx Ar64.1 (State.isArrayOf_alike hZ.alike Ar64.2.1) (g := (mkF m 258 #[.val (.long q1), .second, .val (.int p2), .val (.ref b1), .val (.ref bs), .val (.ref bp), .val (.long fa), .second, .val (.long fs'), .second, .val (.long fx), .second, .val (.long fy), .second, .val (.ref br), .val (.long dg), .second, .val (.long dr), .second, .val (.ref bq)] [(.ref bq)])) rfl rfl (hb hby at_258) _ ?_
        rw [len_of S64 n64]
        show Steps p.tables e below (T63.setTop (mkF m 259 #[.val (.long q1), .second, .val (.int p2), .val (.ref b1), .val (.ref bs), .val (.ref bp), .val (.long fa), .second, .val (.long fs'), .second, .val (.long fx), .second, .val (.long fy), .second, .val (.ref br), .val (.long dg), .second, .val (.long dr), .second, .val (.ref bq)] [(.int (4 : Int32))])) _
        refine XS.iconst X63.here hx rfl (hb hby at_259) ?_
        show Steps p.tables e below (T63.setTop (mkF m 260 #[.val (.long q1), .second, .val (.int p2), .val (.ref b1), .val (.ref bs), .val (.ref bp), .val (.long fa), .second, .val (.long fs'), .second, .val (.long fx), .second, .val (.long fy), .second, .val (.ref br), .val (.long dg), .second, .val (.long dr), .second, .val (.ref bq)] [(.int (4 : Int32)), (.int (4 : Int32))])) _
        refine XS.icmpYes X63.here hx rfl (pc0 := 260) (pc' := 265) rfl (hb hby at_260) rfl (teq hc260).1 (by decide) (by decide) ?_
        show Steps p.tables e below (T63.setTop (mkF m 265 #[.val (.long q1), .second, .val (.int p2), .val (.ref b1), .val (.ref bs), .val (.ref bp), .val (.long fa), .second, .val (.long fs'), .second, .val (.long fx), .second, .val (.long fy), .second, .val (.ref br), .val (.long dg), .second, .val (.long dr), .second, .val (.ref bq)] [])) _
        refine XS.aload X63.here hx rfl (hb hby at_265) rfl rfl ?_
        show Steps p.tables e below (T63.setTop (mkF m 267 #[.val (.long q1), .second, .val (.int p2), .val (.ref b1), .val (.ref bs), .val (.ref bp), .val (.long fa), .second, .val (.long fs'), .second, .val (.long fx), .second, .val (.long fy), .second, .val (.ref br), .val (.long dg), .second, .val (.long dr), .second, .val (.ref bq)] [(.ref bq)])) _
        refine XS.iconst X63.here hx rfl (hb hby at_267) ?_
        show Steps p.tables e below (T63.setTop (mkF m 268 #[.val (.long q1), .second, .val (.int p2), .val (.ref b1), .val (.ref bs), .val (.ref bp), .val (.long fa), .second, .val (.long fs'), .second, .val (.long fx), .second, .val (.long fy), .second, .val (.ref br), .val (.long dg), .second, .val (.long dr), .second, .val (.ref bq)] [(.int (0 : Int32)), (.ref bq)])) _
        refine X63.laload hx (j := (0 : Int32)) (v := (.long fa)) Ar65.1 (State.isArrayOf_alike hZ.alike Ar65.2.1) Ar65.2.2 hin65 hat65 (g := (mkF m 268 #[.val (.long q1), .second, .val (.int p2), .val (.ref b1), .val (.ref bs), .val (.ref bp), .val (.long fa), .second, .val (.long fs'), .second, .val (.long fx), .second, .val (.long fy), .second, .val (.ref br), .val (.long dg), .second, .val (.long dr), .second, .val (.ref bq)] [(.int (0 : Int32)), (.ref bq)])) rfl rfl (hb hby at_268) _ ?_
        show Steps p.tables e below (T63.setTop (mkF m 269 #[.val (.long q1), .second, .val (.int p2), .val (.ref b1), .val (.ref bs), .val (.ref bp), .val (.long fa), .second, .val (.long fs'), .second, .val (.long fx), .second, .val (.long fy), .second, .val (.ref br), .val (.long dg), .second, .val (.long dr), .second, .val (.ref bq)] [(.long fa)])) _
        refine XS.lload X63.here hx rfl (hb hby at_269) rfl ?_
        show Steps p.tables e below (T63.setTop (mkF m 271 #[.val (.long q1), .second, .val (.int p2), .val (.ref b1), .val (.ref bs), .val (.ref bp), .val (.long fa), .second, .val (.long fs'), .second, .val (.long fx), .second, .val (.long fy), .second, .val (.ref br), .val (.long dg), .second, .val (.long dr), .second, .val (.ref bq)] [(.long fa), (.long fa)])) _
        refine XS.lcmp X63.here hx rfl (hb hby at_271) rfl ?_
        show Steps p.tables e below (T63.setTop (mkF m 272 #[.val (.long q1), .second, .val (.int p2), .val (.ref b1), .val (.ref bs), .val (.ref bp), .val (.long fa), .second, .val (.long fs'), .second, .val (.long fx), .second, .val (.long fy), .second, .val (.ref br), .val (.long dg), .second, .val (.long dr), .second, .val (.ref bq)] [(.int (lcmpW fa fa))])) _
        refine XS.ifYes X63.here hx rfl (pc0 := 272) (pc' := 277) rfl (hb hby at_272) rfl ((if0 _ _).trans (teq ((lw_eq _ _).mpr hc272)).1) (by decide) (by decide) ?_
        show Steps p.tables e below (T63.setTop (mkF m 277 #[.val (.long q1), .second, .val (.int p2), .val (.ref b1), .val (.ref bs), .val (.ref bp), .val (.long fa), .second, .val (.long fs'), .second, .val (.long fx), .second, .val (.long fy), .second, .val (.ref br), .val (.long dg), .second, .val (.long dr), .second, .val (.ref bq)] [])) _
        refine XS.aload X63.here hx rfl (hb hby at_277) rfl rfl ?_
        show Steps p.tables e below (T63.setTop (mkF m 279 #[.val (.long q1), .second, .val (.int p2), .val (.ref b1), .val (.ref bs), .val (.ref bp), .val (.long fa), .second, .val (.long fs'), .second, .val (.long fx), .second, .val (.long fy), .second, .val (.ref br), .val (.long dg), .second, .val (.long dr), .second, .val (.ref bq)] [(.ref bq)])) _
        refine XS.iconst X63.here hx rfl (hb hby at_279) ?_
        show Steps p.tables e below (T63.setTop (mkF m 280 #[.val (.long q1), .second, .val (.int p2), .val (.ref b1), .val (.ref bs), .val (.ref bp), .val (.long fa), .second, .val (.long fs'), .second, .val (.long fx), .second, .val (.long fy), .second, .val (.ref br), .val (.long dg), .second, .val (.long dr), .second, .val (.ref bq)] [(.int (1 : Int32)), (.ref bq)])) _
        refine X63.laload hx (j := (1 : Int32)) (v := (.long (own_s fa fs'))) Ar66.1 (State.isArrayOf_alike hZ.alike Ar66.2.1) Ar66.2.2 hin66 hat66 (g := (mkF m 280 #[.val (.long q1), .second, .val (.int p2), .val (.ref b1), .val (.ref bs), .val (.ref bp), .val (.long fa), .second, .val (.long fs'), .second, .val (.long fx), .second, .val (.long fy), .second, .val (.ref br), .val (.long dg), .second, .val (.long dr), .second, .val (.ref bq)] [(.int (1 : Int32)), (.ref bq)])) rfl rfl (hb hby at_280) _ ?_
        show Steps p.tables e below (T63.setTop (mkF m 281 #[.val (.long q1), .second, .val (.int p2), .val (.ref b1), .val (.ref bs), .val (.ref bp), .val (.long fa), .second, .val (.long fs'), .second, .val (.long fx), .second, .val (.long fy), .second, .val (.ref br), .val (.long dg), .second, .val (.long dr), .second, .val (.ref bq)] [(.long (own_s fa fs'))])) _
        refine X63.ldc2Long hx hown (mvT hZ (hw _ (List.mem_of_getElem? (i := 62) rfl))) (g := (mkF m 281 #[.val (.long q1), .second, .val (.int p2), .val (.ref b1), .val (.ref bs), .val (.ref bp), .val (.long fa), .second, .val (.long fs'), .second, .val (.long fx), .second, .val (.long fy), .second, .val (.ref br), .val (.long dg), .second, .val (.long dr), .second, .val (.ref bq)] [(.long (own_s fa fs'))])) rfl (hb hby at_281) _ ?_
        show Steps p.tables e below (T63.setTop (mkF m 284 #[.val (.long q1), .second, .val (.int p2), .val (.ref b1), .val (.ref bs), .val (.ref bp), .val (.long fa), .second, .val (.long fs'), .second, .val (.long fx), .second, .val (.long fy), .second, .val (.ref br), .val (.long dg), .second, .val (.long dr), .second, .val (.ref bq)] [(.long (-3372029247567499371 : Int64)), (.long (own_s fa fs'))])) _
        refine XS.lload X63.here hx rfl (hb hby at_284) rfl ?_
        show Steps p.tables e below (T63.setTop (mkF m 286 #[.val (.long q1), .second, .val (.int p2), .val (.ref b1), .val (.ref bs), .val (.ref bp), .val (.long fa), .second, .val (.long fs'), .second, .val (.long fx), .second, .val (.long fy), .second, .val (.ref br), .val (.long dg), .second, .val (.long dr), .second, .val (.ref bq)] [(.long fs'), (.long (-3372029247567499371 : Int64)), (.long (own_s fa fs'))])) _
        refine XS.lmul X63.here hx rfl (hb hby at_286) rfl ?_
        show Steps p.tables e below (T63.setTop (mkF m 287 #[.val (.long q1), .second, .val (.int p2), .val (.ref b1), .val (.ref bs), .val (.ref bp), .val (.long fa), .second, .val (.long fs'), .second, .val (.long fx), .second, .val (.long fy), .second, .val (.ref br), .val (.long dg), .second, .val (.long dr), .second, .val (.ref bq)] [(.long ((-3372029247567499371 : Int64) * fs')), (.long (own_s fa fs'))])) _
        refine XS.lload X63.here hx rfl (hb hby at_287) rfl ?_
        show Steps p.tables e below (T63.setTop (mkF m 289 #[.val (.long q1), .second, .val (.int p2), .val (.ref b1), .val (.ref bs), .val (.ref bp), .val (.long fa), .second, .val (.long fs'), .second, .val (.long fx), .second, .val (.long fy), .second, .val (.ref br), .val (.long dg), .second, .val (.long dr), .second, .val (.ref bq)] [(.long fa), (.long ((-3372029247567499371 : Int64) * fs')), (.long (own_s fa fs'))])) _
        refine XS.ladd X63.here hx rfl (hb hby at_289) rfl ?_
        show Steps p.tables e below (T63.setTop (mkF m 290 #[.val (.long q1), .second, .val (.int p2), .val (.ref b1), .val (.ref bs), .val (.ref bp), .val (.long fa), .second, .val (.long fs'), .second, .val (.long fx), .second, .val (.long fy), .second, .val (.ref br), .val (.long dg), .second, .val (.long dr), .second, .val (.ref bq)] [(.long (((-3372029247567499371 : Int64) * fs') + fa)), (.long (own_s fa fs'))])) _
        refine XS.lcmp X63.here hx rfl (hb hby at_290) rfl ?_
        show Steps p.tables e below (T63.setTop (mkF m 291 #[.val (.long q1), .second, .val (.int p2), .val (.ref b1), .val (.ref bs), .val (.ref bp), .val (.long fa), .second, .val (.long fs'), .second, .val (.long fx), .second, .val (.long fy), .second, .val (.ref br), .val (.long dg), .second, .val (.long dr), .second, .val (.ref bq)] [(.int (lcmpW (own_s fa fs') (((-3372029247567499371 : Int64) * fs') + fa)))])) _
        refine XS.ifYes X63.here hx rfl (pc0 := 291) (pc' := 296) rfl (hb hby at_291) rfl ((if0 _ _).trans (teq ((lw_eq _ _).mpr hc291)).1) (by decide) (by decide) ?_
        show Steps p.tables e below (T63.setTop (mkF m 296 #[.val (.long q1), .second, .val (.int p2), .val (.ref b1), .val (.ref bs), .val (.ref bp), .val (.long fa), .second, .val (.long fs'), .second, .val (.long fx), .second, .val (.long fy), .second, .val (.ref br), .val (.long dg), .second, .val (.long dr), .second, .val (.ref bq)] [])) _
        refine XS.aload X63.here hx rfl (hb hby at_296) rfl rfl ?_
        show Steps p.tables e below (T63.setTop (mkF m 298 #[.val (.long q1), .second, .val (.int p2), .val (.ref b1), .val (.ref bs), .val (.ref bp), .val (.long fa), .second, .val (.long fs'), .second, .val (.long fx), .second, .val (.long fy), .second, .val (.ref br), .val (.long dg), .second, .val (.long dr), .second, .val (.ref bq)] [(.ref br)])) _
        refine XS.aload X63.here hx rfl (hb hby at_298) rfl rfl ?_
        show Steps p.tables e below (T63.setTop (mkF m 300 #[.val (.long q1), .second, .val (.int p2), .val (.ref b1), .val (.ref bs), .val (.ref bp), .val (.long fa), .second, .val (.long fs'), .second, .val (.long fx), .second, .val (.long fy), .second, .val (.ref br), .val (.long dg), .second, .val (.long dr), .second, .val (.ref bq)] [(.ref bq), (.ref br)])) _
        refine st67.trans ?_
        show Steps p.tables e below (T67.setTop (mkF m 303 #[.val (.long q1), .second, .val (.int p2), .val (.ref b1), .val (.ref bs), .val (.ref bp), .val (.long fa), .second, .val (.long fs'), .second, .val (.long fx), .second, .val (.long fy), .second, .val (.ref br), .val (.long dg), .second, .val (.long dr), .second, .val (.ref bq)] [(.int fin)])) _
        have hnr : nar .boolean fin = fin := by rw [d_fin]; (repeat' split) <;> rfl
        exact retN X67 hx (t := .boolean) Bd.returns (by simp) (hb hby at_303) (by rw [hnr]; exact hr)
      · show Q0 Z q1 p2 h0 n0 _ T67.heap _
        rw [e67]
        exact ⟨(by rw [d_fin, if_pos ⟨rfl, rfl, rfl, rfl⟩]), N67⟩
set_option maxRecDepth 65536 in
set_option maxHeartbeats 40000000 in
theorem comes_1 {Post : Tables → Env → Array Value → State → Outcome → State → Prop} (hpost : ∀ tb e args s v u, (limb_1_1.after args s (.returned v) u = true ∧ limb_1_2.after args s (.returned v) u = true ∧ True) → FrameEnd s (.returned v) u (Jvm.fieldLocs frame_1_writes args s ++ Jvm.arrayLocs frame_1_arrays args s ++ Jvm.staticLocs frame_1_statics s) 24 128 → Post tb e args s (.returned v) u) :
    ArmFor flags0 classFile x code maxLocals ret World_1 tables_1 room_1 Calls_1 rest_1 Pre_1 Post := by
  intro l hfl _ _ p e ha hc hk s m args below hf hA hF happ hP
  obtain ⟨hcalls, hrest, hpre⟩ := hP
  obtain ⟨-, -, -, hnamed, -, -, -, hat⟩ := (Spec.applies_iff hf).mp happ
  obtain ⟨hg, hn⟩ := and_e (Cond.before_iff.mp (show (Jvm.Cond.and given_1 narrow_1).before args s = true from hpre))
  obtain ⟨hct, hg⟩ := and_e hg
  obtain ⟨ga0, hg⟩ := and_e hg
  have ga1 := hg
  obtain ⟨w0, w1, rfl⟩ : ∃ w0 w1 : Value, args = #[w0, w1] := by
    have hs : args.size = 2 := by simpa [Cond.value, given_1] using hct
    obtain ⟨L⟩ := args
    match L, hs with
    | [w0, w1], _ => exact ⟨w0, w1, rfl⟩
  have hw := fun d (hd : d ∈ tables_1) => atoms_spec (ws := Jvm.Cond.code x code maxLocals ret :: tables_1) hat d (List.mem_cons_of_mem _ hd)
  obtain ⟨i0, ei0⟩ := isL_v ga0
  obtain rfl : w0 = (.long i0) := Option.some.inj ei0
  obtain ⟨i1, ei1⟩ := is_v ga1
  obtain rfl : w1 = (.int i1) := Option.some.inj ei1
  obtain ⟨n, o, h1, h2, h3, _, L, rfl, ⟨rfl, N⟩, hq⟩ := rm0 l s _ hw tables_1 i0 i1 s.heap s.heap.size (Nat.le_refl _)  p e ha hc hk s m _ below hf ((Spec.applies_iff_loose hf).mp happ).1 ⟨rfl, State.Warmed39.refl s, rfl⟩ trivial
  refine ⟨n, _, h1, h2, h3, hpost _ _ _ _ _ _ ⟨Cond.after_iff.mpr rfl, Cond.after_iff.mpr (eq_i res_at (Term.int_eval (1)) rfl), trivial⟩ ⟨hq.1, hq.2.1, (hq.2.2.sift fun y hy => Or.inr (N y hy)).mono (by decide) (by decide)⟩⟩
theorem main_1_1 : Claimed_1_1 := comes_1 fun _ _ _ _ _ _ h hF => ⟨h.1, hF⟩
theorem main_1_2 : Claimed_1_2 := comes_1 fun _ _ _ _ _ _ h hF => ⟨h.2.1, hF⟩
end Jvm.Pilot.@@N@@
namespace Jvm.Pilot.@@N@@
open Jvm Jvm.ClassFile Sem Op Lib Jvm.Free Jvm.Stand Jvm.Pilot.@@N@@.Jvm.D
/-! MADE BY PROGRAM (witnessworld.py) out of the Statement's table words and the real class files: 17 classes; the members and pool entries that the words name. The judged class is class 1, her method 1. -/
namespace start1
open Jvm.ClassFile
def u (s : String) : CpInfo := .utf8 (stringToUtf16 s)
/-- a pool by its gaps: so many unusable entries, then the entry; so many at the end -/
def gap : Nat → List CpInfo → List CpInfo
  | 0, r => r
  | n + 1, r => .unusable :: gap n r
def poolList (es : List (Nat × CpInfo)) (last : Nat) : List CpInfo := es.foldr (fun e r => gap e.1 (e.2 :: r)) (gap last [])
def pool (es : List (Nat × CpInfo)) (last : Nat) : Array CpInfo := ⟨poolList es last⟩
def fileOf (pool : Array CpInfo) (this : Nat) (attrs : Array Attribute := #[]) (ms : Array MethodInfo := #[]) (fl : Nat := 33) (sup : Nat := 0) (ifs : Array Nat := #[]) (fds : Array FieldInfo := #[]) : ClassFile where
  minorVersion := 0
  majorVersion := 65
  constantPool := pool
  accessFlags := fl
  thisClass := this
  superClass := sup
  interfaces := ifs
  fields := fds
  methods := ms
  attributes := attrs
def plain (name : String) (sup : Option ClassId) : Class where
  name := name
  kind := .ordinary
  loader := none
  accessFlags := 33
  super := sup
  interfaces := #[]
  cf := none
  fields := #[]
  methods := #[]
  instanceTypes := #[]
  staticTypes := #[]
  resolved := #[]
  callSites := []
  init := .initialized
  statics := none
  mirror := none

def pool0 : Array CpInfo := pool [(5, u "<init>"), (0, u "()V"), (1, .class_ 10), (1, u "java/lang/Object")] 113

def k0c0 : Code := { maxStack := 0, maxLocals := 1, code := object_method_1_code, exceptionTable := #[], attributes := #[] }
def k0m0 : Method := { name := "<init>", desc := "()V", sig := { parameters := [], returnType := none }, accessFlags := 1, code := some k0c0 }
/-- java/lang/Object -/
def k0 : Class := { plain "java/lang/Object" none with
  accessFlags := 33
  interfaces := #[]
  cf := some (fileOf pool0 8 #[] #[{ accessFlags := 1, nameIndex := 5, descriptorIndex := 6, attributes := #[] }] 33 0 #[] #[])
  fields := #[]
  methods := #[k0m0]
  instanceTypes := #[]
  staticTypes := #[]
  resolved := Array.replicate 124 none
  statics := none }

def pool1 : Array CpInfo := pool [(2, .class_ 4), (1, u "java/lang/Object"), (0, u "<init>"), (0, u "()V"), (0, .class_ 8), (0, u "com/example/driftline/driftline/model/LxmRandom"), (0, .methodref 7 10), (0, .nameAndType 5 11), (0, u "(J)V"), (0, .methodref 7 13), (0, .nameAndType 14 15), (0, u "state"), (0, u "()[J"), (0, .methodref 7 17), (0, .nameAndType 18 19), (0, u "nextLong"), (0, u "()J"), (0, .long 2), (1, .methodref 7 23), (0, .nameAndType 24 25), (0, u "inState"), (0, u "([J)Z"), (0, .methodref 7 27), (0, .nameAndType 28 29), (0, u "restore"), (0, u "([J)Lcom/example/driftline/driftline/model/LxmRandom;"), (0, .class_ 31), (0, u "com/example/driftline/driftline/model/LxmRandomStatePinLaw"), (0, .long 15074714826142052245), (1, u "M"), (0, u "J"), (3, u "law"), (0, u "(JI)Z")] 5

def k1m0 : Method := { name := "<init>", desc := "()V", sig := { parameters := [], returnType := none }, accessFlags := 1, code := none }
def k1c1 : Code := { maxStack := 6, maxLocals := 20, code := code, exceptionTable := #[], attributes := #[] }
def k1m1 : Method := { name := "law", desc := "(JI)Z", sig := { parameters := [.long, .int], returnType := some .boolean }, accessFlags := 9, code := some k1c1 }
/-- com/example/driftline/driftline/model/LxmRandomStatePinLaw -/
def k1 : Class := { plain "com/example/driftline/driftline/model/LxmRandomStatePinLaw" (some 0) with
  accessFlags := 49
  interfaces := #[]
  cf := some (fileOf pool1 30 #[] #[{ accessFlags := 1, nameIndex := 5, descriptorIndex := 6, attributes := #[] }, { accessFlags := 9, nameIndex := 39, descriptorIndex := 40, attributes := #[] }] 49 2 #[] #[{ accessFlags := 26, nameIndex := 34, descriptorIndex := 35, attributes := #[] }])
  fields := #[{ name := "M", type := .long, accessFlags := 26, slot := 0, constantValue := 0 }]
  methods := #[k1m0, k1m1]
  instanceTypes := #[]
  staticTypes := #[.long]
  resolved := Array.replicate 46 none
  statics := none }

def pool2 : Array CpInfo := pool [(7, .class_ 8), (0, u "java/util/random/RandomGenerator"), (199, .class_ 209), (0, u "java/lang/Object"), (52, .class_ 263), (0, u "java/util/random/RandomGenerator$ArbitrarilyJumpableGenerator"), (0, .class_ 265), (0, u "java/util/random/RandomGenerator$LeapableGenerator"), (0, .class_ 267), (0, u "java/util/random/RandomGenerator$JumpableGenerator"), (0, .class_ 269), (0, u "java/util/random/RandomGenerator$SplittableGenerator"), (0, .class_ 271), (0, u "java/util/random/RandomGenerator$StreamableGenerator")] 36

/-- java/util/random/RandomGenerator -/
def k2 : Class := { plain "java/util/random/RandomGenerator" (some 0) with
  accessFlags := 1537
  interfaces := #[]
  cf := some (fileOf pool2 7 #[.nestMembers #[262, 264, 266, 268, 270]] #[] 1537 208 #[] #[])
  fields := #[]
  methods := #[]
  instanceTypes := #[]
  staticTypes := #[]
  resolved := Array.replicate 308 none
  statics := none }

def pool3 : Array CpInfo := pool [(1, .methodref 2 3), (0, .class_ 4), (0, .nameAndType 5 6), (0, u "java/lang/Object"), (0, u "<init>"), (0, u "()V"), (0, .class_ 8), (0, u "com/example/driftline/driftline/model/LxmRandom"), (0, .long 7640891576956012809), (1, .methodref 7 12), (0, .nameAndType 13 14), (0, u "murmur"), (0, u "(J)J"), (0, .fieldref 7 16), (0, .nameAndType 17 18), (0, u "a"), (0, u "J"), (0, .fieldref 7 20), (0, .nameAndType 21 18), (0, u "s"), (0, .methodref 7 23), (0, .nameAndType 24 14), (0, u "stafford"), (0, .fieldref 7 26), (0, .nameAndType 27 18), (0, u "x0"), (0, .long 11400714819323198485), (1, .fieldref 7 31), (0, .nameAndType 32 18), (0, u "x1"), (7, .methodref 7 41), (0, .nameAndType 5 42), (0, u "([J)V"), (0, .methodref 7 44), (0, .nameAndType 45 14), (0, u "lea"), (0, .long 15074714826142052245), (1, .methodref 49 50), (0, .class_ 51), (0, .nameAndType 52 53), (0, u "java/lang/Long"), (0, u "rotateLeft"), (0, u "(JI)J"), (0, .long 15760922415973212899), (1, .long 18397679294719823053), (1, .long 14181476777654086739), (1, .long 13787848793156543929), (1, .long 10723151780598845931), (1, .class_ 65), (0, u "java/util/random/RandomGenerator"), (0, u "M"), (1, u "GOLDEN_RATIO"), (0, u "SILVER_RATIO"), (0, u "(J)V"), (2, u "restore"), (0, u "([J)Lcom/example/driftline/driftline/model/LxmRandom;"), (1, u "state"), (0, u "()[J"), (0, u "inState"), (0, u "([J)Z"), (0, u "nextLong"), (0, u "()J")] 2

def k3c0 : Code := { maxStack := 5, maxLocals := 5, code := prog_21_method_1_code, exceptionTable := #[], attributes := #[] }
def k3m0 : Method := { name := "<init>", desc := "(J)V", sig := { parameters := [.long], returnType := none }, accessFlags := 1, code := some k3c0 }
def k3c1 : Code := { maxStack := 3, maxLocals := 2, code := prog_21_method_2_code, exceptionTable := #[], attributes := #[] }
def k3m1 : Method := { name := "<init>", desc := "([J)V", sig := { parameters := [(.array .long)], returnType := none }, accessFlags := 2, code := some k3c1 }
def k3c2 : Code := { maxStack := 4, maxLocals := 1, code := prog_21_method_3_code, exceptionTable := #[], attributes := #[] }
def k3m2 : Method := { name := "restore", desc := "([J)Lcom/example/driftline/driftline/model/LxmRandom;", sig := { parameters := [(.array .long)], returnType := some (.object "com/example/driftline/driftline/model/LxmRandom") }, accessFlags := 8, code := some k3c2 }
def k3c3 : Code := { maxStack := 5, maxLocals := 1, code := prog_21_method_4_code, exceptionTable := #[], attributes := #[] }
def k3m3 : Method := { name := "state", desc := "()[J", sig := { parameters := [], returnType := some (.array .long) }, accessFlags := 0, code := some k3c3 }
def k3c4 : Code := { maxStack := 4, maxLocals := 2, code := prog_21_method_5_code, exceptionTable := #[], attributes := #[] }
def k3m4 : Method := { name := "inState", desc := "([J)Z", sig := { parameters := [(.array .long)], returnType := some .boolean }, accessFlags := 0, code := some k3c4 }
def k3c5 : Code := { maxStack := 6, maxLocals := 5, code := prog_21_method_6_code, exceptionTable := #[], attributes := #[] }
def k3m5 : Method := { name := "nextLong", desc := "()J", sig := { parameters := [], returnType := some .long }, accessFlags := 1, code := some k3c5 }
def k3c6 : Code := { maxStack := 5, maxLocals := 6, code := prog_21_method_7_code, exceptionTable := #[], attributes := #[] }
def k3m6 : Method := { name := "lea", desc := "(J)J", sig := { parameters := [.long], returnType := some .long }, accessFlags := 10, code := some k3c6 }
def k3c7 : Code := { maxStack := 5, maxLocals := 6, code := prog_21_method_8_code, exceptionTable := #[], attributes := #[] }
def k3m7 : Method := { name := "murmur", desc := "(J)J", sig := { parameters := [.long], returnType := some .long }, accessFlags := 10, code := some k3c7 }
def k3c8 : Code := { maxStack := 5, maxLocals := 6, code := prog_21_method_9_code, exceptionTable := #[], attributes := #[] }
def k3m8 : Method := { name := "stafford", desc := "(J)J", sig := { parameters := [.long], returnType := some .long }, accessFlags := 10, code := some k3c8 }
/-- com/example/driftline/driftline/model/LxmRandom -/
def k3 : Class := { plain "com/example/driftline/driftline/model/LxmRandom" (some 0) with
  accessFlags := 49
  interfaces := #[2]
  cf := some (fileOf pool3 7 #[] #[{ accessFlags := 1, nameIndex := 5, descriptorIndex := 70, attributes := #[] }, { accessFlags := 2, nameIndex := 5, descriptorIndex := 42, attributes := #[] }, { accessFlags := 8, nameIndex := 73, descriptorIndex := 74, attributes := #[] }, { accessFlags := 0, nameIndex := 76, descriptorIndex := 77, attributes := #[] }, { accessFlags := 0, nameIndex := 78, descriptorIndex := 79, attributes := #[] }, { accessFlags := 1, nameIndex := 80, descriptorIndex := 81, attributes := #[] }, { accessFlags := 10, nameIndex := 45, descriptorIndex := 14, attributes := #[] }, { accessFlags := 10, nameIndex := 13, descriptorIndex := 14, attributes := #[] }, { accessFlags := 10, nameIndex := 24, descriptorIndex := 14, attributes := #[] }] 49 2 #[64] #[{ accessFlags := 26, nameIndex := 66, descriptorIndex := 18, attributes := #[] }, { accessFlags := 26, nameIndex := 68, descriptorIndex := 18, attributes := #[] }, { accessFlags := 26, nameIndex := 69, descriptorIndex := 18, attributes := #[] }, { accessFlags := 18, nameIndex := 17, descriptorIndex := 18, attributes := #[] }, { accessFlags := 2, nameIndex := 21, descriptorIndex := 18, attributes := #[] }, { accessFlags := 2, nameIndex := 27, descriptorIndex := 18, attributes := #[] }, { accessFlags := 2, nameIndex := 32, descriptorIndex := 18, attributes := #[] }])
  fields := #[{ name := "M", type := .long, accessFlags := 26, slot := 0, constantValue := 0 }, { name := "GOLDEN_RATIO", type := .long, accessFlags := 26, slot := 1, constantValue := 0 }, { name := "SILVER_RATIO", type := .long, accessFlags := 26, slot := 2, constantValue := 0 }, { name := "a", type := .long, accessFlags := 18, slot := 0, constantValue := 0 }, { name := "s", type := .long, accessFlags := 2, slot := 1, constantValue := 0 }, { name := "x0", type := .long, accessFlags := 2, slot := 2, constantValue := 0 }, { name := "x1", type := .long, accessFlags := 2, slot := 3, constantValue := 0 }]
  methods := #[k3m0, k3m1, k3m2, k3m3, k3m4, k3m5, k3m6, k3m7, k3m8]
  instanceTypes := #[.long, .long, .long, .long]
  staticTypes := #[.long, .long, .long]
  resolved := Array.replicate 84 none
  statics := none }

def pool4 : Array CpInfo := pool [(1, .class_ 2), (0, u "java/io/Serializable"), (0, .class_ 4), (0, u "java/lang/Object")] 2

/-- java/io/Serializable -/
def k4 : Class := { plain "java/io/Serializable" (some 0) with
  accessFlags := 1537
  interfaces := #[]
  cf := some (fileOf pool4 1 #[] #[] 1537 3 #[] #[])
  fields := #[]
  methods := #[]
  instanceTypes := #[]
  staticTypes := #[]
  resolved := Array.replicate 7 none
  statics := none }

def pool5 : Array CpInfo := pool [(2, .class_ 4), (1, u "java/lang/Object"), (0, u "<init>"), (0, u "()V"), (1, .class_ 10), (1, u "java/lang/Number"), (2, .class_ 14), (0, u "java/io/Serializable"), (0, u "serialVersionUID"), (0, u "J")] 20

def k5m0 : Method := { name := "<init>", desc := "()V", sig := { parameters := [], returnType := none }, accessFlags := 1, code := none }
/-- java/lang/Number -/
def k5 : Class := { plain "java/lang/Number" (some 0) with
  accessFlags := 1057
  interfaces := #[4]
  cf := some (fileOf pool5 8 #[] #[{ accessFlags := 1, nameIndex := 5, descriptorIndex := 6, attributes := #[] }] 1057 2 #[13] #[{ accessFlags := 26, nameIndex := 15, descriptorIndex := 16, attributes := #[] }])
  fields := #[{ name := "serialVersionUID", type := .long, accessFlags := 26, slot := 0, constantValue := 0 }]
  methods := #[k5m0]
  instanceTypes := #[]
  staticTypes := #[.long]
  resolved := Array.replicate 37 none
  statics := none }

def pool6 : Array CpInfo := pool [(1, .class_ 2), (0, u "java/lang/Comparable"), (0, .class_ 4), (0, u "java/lang/Object")] 7

/-- java/lang/Comparable -/
def k6 : Class := { plain "java/lang/Comparable" (some 0) with
  accessFlags := 1537
  interfaces := #[]
  cf := some (fileOf pool6 1 #[] #[] 1537 3 #[] #[])
  fields := #[]
  methods := #[]
  instanceTypes := #[]
  staticTypes := #[]
  resolved := Array.replicate 12 none
  statics := none }

def pool7 : Array CpInfo := pool [(1, .class_ 2), (0, u "java/lang/constant/Constable"), (0, .class_ 4), (0, u "java/lang/Object")] 6

/-- java/lang/constant/Constable -/
def k7 : Class := { plain "java/lang/constant/Constable" (some 0) with
  accessFlags := 1537
  interfaces := #[]
  cf := some (fileOf pool7 1 #[] #[] 1537 3 #[] #[])
  fields := #[]
  methods := #[]
  instanceTypes := #[]
  staticTypes := #[]
  resolved := Array.replicate 11 none
  statics := none }

def pool8 : Array CpInfo := pool [(1, .class_ 2), (0, u "java/lang/constant/ConstantDesc"), (0, .class_ 4), (0, u "java/lang/Object")] 32

/-- java/lang/constant/ConstantDesc -/
def k8 : Class := { plain "java/lang/constant/ConstantDesc" (some 0) with
  accessFlags := 1537
  interfaces := #[]
  cf := some (fileOf pool8 1 #[] #[] 1537 3 #[] #[])
  fields := #[]
  methods := #[]
  instanceTypes := #[]
  staticTypes := #[]
  resolved := Array.replicate 37 none
  statics := none }

def pool9 : Array CpInfo := pool [(1, .class_ 2), (0, u "java/lang/Long"), (232, .class_ 237), (1, u "java/lang/Long$LongCache"), (33, .class_ 272), (0, u "java/lang/Number"), (2, u "value"), (0, u "J"), (84, u "TYPE"), (0, u "Ljava/lang/Class;"), (0, .class_ 364), (0, u "java/lang/Comparable"), (0, .class_ 366), (0, u "java/lang/constant/Constable"), (0, .class_ 368), (0, u "java/lang/constant/ConstantDesc"), (0, u "MIN_VALUE"), (1, u "MAX_VALUE"), (4, u "SIZE"), (0, u "I"), (1, u "BYTES"), (1, u "serialVersionUID"), (95, u "rotateLeft"), (0, u "(JI)J")] 45

def k9c0 : Code := { maxStack := 5, maxLocals := 3, code := jdk_35_method_51_code, exceptionTable := #[], attributes := #[] }
def k9m0 : Method := { name := "rotateLeft", desc := "(JI)J", sig := { parameters := [.long, .int], returnType := some .long }, accessFlags := 9, code := some k9c0 }
/-- java/lang/Long -/
def k9 : Class := { plain "java/lang/Long" (some 5) with
  accessFlags := 49
  interfaces := #[6, 7, 8]
  cf := some (fileOf pool9 1 #[.nestMembers #[235]] #[{ accessFlags := 9, nameIndex := 477, descriptorIndex := 478, attributes := #[] }] 49 271 #[363, 365, 367] #[{ accessFlags := 25, nameIndex := 369, descriptorIndex := 276, attributes := #[] }, { accessFlags := 25, nameIndex := 371, descriptorIndex := 276, attributes := #[] }, { accessFlags := 25, nameIndex := 361, descriptorIndex := 362, attributes := #[] }, { accessFlags := 18, nameIndex := 275, descriptorIndex := 276, attributes := #[] }, { accessFlags := 25, nameIndex := 376, descriptorIndex := 377, attributes := #[] }, { accessFlags := 25, nameIndex := 379, descriptorIndex := 377, attributes := #[] }, { accessFlags := 26, nameIndex := 381, descriptorIndex := 276, attributes := #[] }])
  fields := #[{ name := "MIN_VALUE", type := .long, accessFlags := 25, slot := 0, constantValue := 0 }, { name := "MAX_VALUE", type := .long, accessFlags := 25, slot := 1, constantValue := 0 }, { name := "TYPE", type := (.object "java/lang/Class"), accessFlags := 25, slot := 2, constantValue := 0 }, { name := "value", type := .long, accessFlags := 18, slot := 0, constantValue := 0 }, { name := "SIZE", type := .int, accessFlags := 25, slot := 3, constantValue := 0 }, { name := "BYTES", type := .int, accessFlags := 25, slot := 4, constantValue := 0 }, { name := "serialVersionUID", type := .long, accessFlags := 26, slot := 5, constantValue := 0 }]
  methods := #[k9m0]
  instanceTypes := #[.long]
  staticTypes := #[.long, .long, (.object "java/lang/Class"), .int, .int, .long]
  resolved := Array.replicate 524 none
  statics := none }

def pool10 : Array CpInfo := pool [(1, u "java/lang/Cloneable"), (0, .class_ 1), (0, u "java/lang/Object"), (0, .class_ 3)] 3

/-- java/lang/Cloneable -/
def k10 : Class := { plain "java/lang/Cloneable" (some 0) with
  accessFlags := 1537
  interfaces := #[]
  cf := some (fileOf pool10 2 #[] #[] 1537 4 #[] #[])
  fields := #[]
  methods := #[]
  instanceTypes := #[]
  staticTypes := #[]
  resolved := Array.replicate 8 none
  statics := none }

/-- the primitive byte -/
def k11 : Class := { plain "byte" none with kind := .primitive 'B', accessFlags := 0x411 }
/-- [B -/
def k12 : Class := { plain "[B" (some 0) with kind := .array 11 .byte, interfaces := #[10, 4], accessFlags := 1041 }

/-- the primitive int -/
def k13 : Class := { plain "int" none with kind := .primitive 'I', accessFlags := 0x411 }
/-- [I -/
def k14 : Class := { plain "[I" (some 0) with kind := .array 13 .int, interfaces := #[10, 4], accessFlags := 1041 }

/-- the primitive long -/
def k15 : Class := { plain "long" none with kind := .primitive 'J', accessFlags := 0x411 }
/-- [J -/
def k16 : Class := { plain "[J" (some 0) with kind := .array 15 .long, interfaces := #[10, 4], accessFlags := 1041 }

def heap : Heap := #[]
def classes : Array Class := #[k0, k1, k2, k3, k4, k5, k6, k7, k8, k9, k10, k11, k12, k13, k14, k15, k16]
def interned : List (Array UInt16 × Addr) := []
def slotsUsed : Nat := 0
def theMethod : MethodId := ⟨1, 1⟩
def args0 : Array Value := #[.long 5, .int 3]
def aboutOver (below : List Frame) : State where
  vm := { classes := classes, interned := interned.toArray }
  heap := heap
  slotsUsed := slotsUsed
  threads := #[{ frames := .invoking theMethod args0 :: below }]
def below0 : List Frame := [.native { method := ⟨0, 0⟩, args := #[] }]
def about1 : State := aboutOver below0
def p0 : Program := .bare "" "" ""
def e0 : Env := launch0.env 0 0 0
theorem w_frames : about1.frames = Frame.invoking theMethod args0 :: below0 := rfl
set_option maxRecDepth 65536 in
theorem w_args : argsFit about1.vm theMethod args0 = true := by decide +kernel
set_option maxRecDepth 65536 in
theorem w_heap : heapFits about1 = true := by decide +kernel
set_option maxRecDepth 65536 in
theorem w_runnable : about1.curStatus? = some .runnable := by decide +kernel
set_option maxRecDepth 65536 in
theorem w_alone : about1.alone = true := by decide +kernel
set_option maxRecDepth 65536 in
theorem w_named : about1.methodNamed? x = some theMethod := by decide +kernel
set_option maxRecDepth 65536 in
theorem w_hears : about1.hears theMethod below0 = true := by decide +kernel
set_option maxRecDepth 65536 in
theorem w_ripe : about1.ripe theMethod args0 below0 = true := by decide +kernel
theorem w_running : about1.status = .running := rfl
set_option maxRecDepth 65536 in
theorem w_room : about1.hasRoom e0.platform room_1 = true :=
  launch0.hasRoom_least _ room_1 (by decide +kernel) (by decide +kernel) (by decide +kernel) (by decide +kernel) (by decide +kernel) (by decide +kernel)
theorem allAtoms_all (ts : List Jvm.Cond) (a : Array Jvm.Value) (st : Jvm.State) : (allAtoms ts).before a st = ts.all (fun c => c.before a st) := by
  induction ts with
  | nil => rfl
  | cons c t ih =>
    show (Jvm.Cond.and c (allAtoms t)).before a st = _
    rw [Jvm.Cond.before_and, ih, List.all_cons]
def words1 : List Jvm.Cond := Jvm.Cond.code x code maxLocals ret :: tables_1
/-- a 'code' word, met by the world's own term for the bytes: nothing is compared byte by byte -/
theorem code_word {y : MethodName} {bytes : ByteArray} {mx : Nat} {rt : Option FieldType} {a : Array Value} {s : State} {m : MethodId} {meth : Method} {c : Code} (h1 : s.methodNamed? y = some m) (h2 : s.vm.method? m = some meth) (h3 : meth.code = some c) (h4 : c.code = bytes)
    (h5 : (c.maxLocals == mx && c.exceptionTable.isEmpty && decide (c.maxStack ≤ mostOperands) && decide (meth.sig.returnType = rt) && !meth.locks && decide (parseMethodDescriptor y.desc = some meth.sig)) = true) : (Jvm.Cond.code y bytes mx rt).before a s = true := by
  simp only [Bool.and_eq_true, beq_iff_eq, Bool.not_eq_true', decide_eq_true_eq] at h5
  obtain ⟨⟨⟨⟨⟨g1, g2⟩, g3⟩, g4⟩, g5⟩, g6⟩ := h5
  simp [Cond.before, Cond.holds, Cond.value, h1, h2, h3, h4, g1, g2, g3, g4, g5, g6]
def isCode : Jvm.Cond → Bool
  | .code _ _ _ _ => true
  | _ => false
theorem all_split {L : List Jvm.Cond} {P : Jvm.Cond → Bool} (h1 : L.all (fun c => isCode c || P c) = true) (h2 : ∀ c ∈ L.filter isCode, P c = true) : L.all P = true := by
  refine List.all_eq_true.mpr fun c hc => ?_
  have h := List.all_eq_true.mp h1 c hc
  rcases Bool.eq_false_or_eq_true (isCode c) with hi | hi
  · exact h2 c (List.mem_filter.mpr ⟨hc, hi⟩)
  · simpa [hi] using h
set_option maxRecDepth 65536 in
theorem w_c0 : (Jvm.Cond.code x code maxLocals ret).before args0 about1 = true := code_word (m := ⟨1, 1⟩) (meth := k1m1) (c := k1c1) (by decide +kernel) rfl rfl rfl (by decide +kernel)
set_option maxRecDepth 65536 in
theorem w_c1 : (Jvm.Cond.code ({ cls := "com/example/driftline/driftline/model/LxmRandom", name := "<init>", desc := "(J)V" } : Jvm.MethodName) prog_21_method_1_code (5 : Nat) (Option.none : Option Jvm.ClassFile.FieldType)).before args0 about1 = true := code_word (m := ⟨3, 0⟩) (meth := k3m0) (c := k3c0) (by decide +kernel) rfl rfl rfl (by decide +kernel)
set_option maxRecDepth 65536 in
theorem w_c2 : (Jvm.Cond.code ({ cls := "java/lang/Object", name := "<init>", desc := "()V" } : Jvm.MethodName) object_method_1_code (1 : Nat) (Option.none : Option Jvm.ClassFile.FieldType)).before args0 about1 = true := code_word (m := ⟨0, 0⟩) (meth := k0m0) (c := k0c0) (by decide +kernel) rfl rfl rfl (by decide +kernel)
set_option maxRecDepth 65536 in
theorem w_c3 : (Jvm.Cond.code ({ cls := "com/example/driftline/driftline/model/LxmRandom", name := "murmur", desc := "(J)J" } : Jvm.MethodName) prog_21_method_8_code (6 : Nat) (Option.some Jvm.ClassFile.FieldType.long)).before args0 about1 = true := code_word (m := ⟨3, 7⟩) (meth := k3m7) (c := k3c7) (by decide +kernel) rfl rfl rfl (by decide +kernel)
set_option maxRecDepth 65536 in
theorem w_c4 : (Jvm.Cond.code ({ cls := "com/example/driftline/driftline/model/LxmRandom", name := "stafford", desc := "(J)J" } : Jvm.MethodName) prog_21_method_9_code (6 : Nat) (Option.some Jvm.ClassFile.FieldType.long)).before args0 about1 = true := code_word (m := ⟨3, 8⟩) (meth := k3m8) (c := k3c8) (by decide +kernel) rfl rfl rfl (by decide +kernel)
set_option maxRecDepth 65536 in
theorem w_c5 : (Jvm.Cond.code ({ cls := "com/example/driftline/driftline/model/LxmRandom", name := "state", desc := "()[J" } : Jvm.MethodName) prog_21_method_4_code (1 : Nat) (Option.some (Jvm.ClassFile.FieldType.array Jvm.ClassFile.FieldType.long))).before args0 about1 = true := code_word (m := ⟨3, 3⟩) (meth := k3m3) (c := k3c3) (by decide +kernel) rfl rfl rfl (by decide +kernel)
set_option maxRecDepth 65536 in
theorem w_c6 : (Jvm.Cond.code ({ cls := "com/example/driftline/driftline/model/LxmRandom", name := "inState", desc := "([J)Z" } : Jvm.MethodName) prog_21_method_5_code (2 : Nat) (Option.some Jvm.ClassFile.FieldType.boolean)).before args0 about1 = true := code_word (m := ⟨3, 4⟩) (meth := k3m4) (c := k3c4) (by decide +kernel) rfl rfl rfl (by decide +kernel)
set_option maxRecDepth 65536 in
theorem w_c7 : (Jvm.Cond.code ({ cls := "com/example/driftline/driftline/model/LxmRandom", name := "restore", desc := "([J)Lcom/example/driftline/driftline/model/LxmRandom;" } : Jvm.MethodName) prog_21_method_3_code (1 : Nat) (Option.some (Jvm.ClassFile.FieldType.object "com/example/driftline/driftline/model/LxmRandom"))).before args0 about1 = true := code_word (m := ⟨3, 2⟩) (meth := k3m2) (c := k3c2) (by decide +kernel) rfl rfl rfl (by decide +kernel)
set_option maxRecDepth 65536 in
theorem w_c8 : (Jvm.Cond.code ({ cls := "com/example/driftline/driftline/model/LxmRandom", name := "<init>", desc := "([J)V" } : Jvm.MethodName) prog_21_method_2_code (2 : Nat) (Option.none : Option Jvm.ClassFile.FieldType)).before args0 about1 = true := code_word (m := ⟨3, 1⟩) (meth := k3m1) (c := k3c1) (by decide +kernel) rfl rfl rfl (by decide +kernel)
set_option maxRecDepth 65536 in
theorem w_c9 : (Jvm.Cond.code ({ cls := "com/example/driftline/driftline/model/LxmRandom", name := "nextLong", desc := "()J" } : Jvm.MethodName) prog_21_method_6_code (5 : Nat) (Option.some Jvm.ClassFile.FieldType.long)).before args0 about1 = true := code_word (m := ⟨3, 5⟩) (meth := k3m5) (c := k3c5) (by decide +kernel) rfl rfl rfl (by decide +kernel)
set_option maxRecDepth 65536 in
theorem w_c10 : (Jvm.Cond.code ({ cls := "com/example/driftline/driftline/model/LxmRandom", name := "lea", desc := "(J)J" } : Jvm.MethodName) prog_21_method_7_code (6 : Nat) (Option.some Jvm.ClassFile.FieldType.long)).before args0 about1 = true := code_word (m := ⟨3, 6⟩) (meth := k3m6) (c := k3c6) (by decide +kernel) rfl rfl rfl (by decide +kernel)
set_option maxRecDepth 65536 in
theorem w_c11 : (Jvm.Cond.code ({ cls := "java/lang/Long", name := "rotateLeft", desc := "(JI)J" } : Jvm.MethodName) jdk_35_method_51_code (3 : Nat) (Option.some Jvm.ClassFile.FieldType.long)).before args0 about1 = true := code_word (m := ⟨9, 0⟩) (meth := k9m0) (c := k9c0) (by decide +kernel) rfl rfl rfl (by decide +kernel)
def codes1 : List Jvm.Cond := [Jvm.Cond.code x code maxLocals ret, Jvm.Cond.code ({ cls := "com/example/driftline/driftline/model/LxmRandom", name := "<init>", desc := "(J)V" } : Jvm.MethodName) prog_21_method_1_code (5 : Nat) (Option.none : Option Jvm.ClassFile.FieldType), Jvm.Cond.code ({ cls := "java/lang/Object", name := "<init>", desc := "()V" } : Jvm.MethodName) object_method_1_code (1 : Nat) (Option.none : Option Jvm.ClassFile.FieldType), Jvm.Cond.code ({ cls := "com/example/driftline/driftline/model/LxmRandom", name := "murmur", desc := "(J)J" } : Jvm.MethodName) prog_21_method_8_code (6 : Nat) (Option.some Jvm.ClassFile.FieldType.long), Jvm.Cond.code ({ cls := "com/example/driftline/driftline/model/LxmRandom", name := "stafford", desc := "(J)J" } : Jvm.MethodName) prog_21_method_9_code (6 : Nat) (Option.some Jvm.ClassFile.FieldType.long), Jvm.Cond.code ({ cls := "com/example/driftline/driftline/model/LxmRandom", name := "state", desc := "()[J" } : Jvm.MethodName) prog_21_method_4_code (1 : Nat) (Option.some (Jvm.ClassFile.FieldType.array Jvm.ClassFile.FieldType.long)), Jvm.Cond.code ({ cls := "com/example/driftline/driftline/model/LxmRandom", name := "inState", desc := "([J)Z" } : Jvm.MethodName) prog_21_method_5_code (2 : Nat) (Option.some Jvm.ClassFile.FieldType.boolean), Jvm.Cond.code ({ cls := "com/example/driftline/driftline/model/LxmRandom", name := "restore", desc := "([J)Lcom/example/driftline/driftline/model/LxmRandom;" } : Jvm.MethodName) prog_21_method_3_code (1 : Nat) (Option.some (Jvm.ClassFile.FieldType.object "com/example/driftline/driftline/model/LxmRandom")), Jvm.Cond.code ({ cls := "com/example/driftline/driftline/model/LxmRandom", name := "<init>", desc := "([J)V" } : Jvm.MethodName) prog_21_method_2_code (2 : Nat) (Option.none : Option Jvm.ClassFile.FieldType), Jvm.Cond.code ({ cls := "com/example/driftline/driftline/model/LxmRandom", name := "nextLong", desc := "()J" } : Jvm.MethodName) prog_21_method_6_code (5 : Nat) (Option.some Jvm.ClassFile.FieldType.long), Jvm.Cond.code ({ cls := "com/example/driftline/driftline/model/LxmRandom", name := "lea", desc := "(J)J" } : Jvm.MethodName) prog_21_method_7_code (6 : Nat) (Option.some Jvm.ClassFile.FieldType.long), Jvm.Cond.code ({ cls := "java/lang/Long", name := "rotateLeft", desc := "(JI)J" } : Jvm.MethodName) jdk_35_method_51_code (3 : Nat) (Option.some Jvm.ClassFile.FieldType.long)]
set_option maxRecDepth 65536 in
theorem codes_eq : words1.filter isCode = codes1 := rfl
theorem w_codes : ∀ c ∈ words1.filter isCode, c.before args0 about1 = true := by
  rw [codes_eq]
  intro c hc
  simp only [codes1, List.mem_cons, List.not_mem_nil, or_false] at hc
  rcases hc with rfl | rfl | rfl | rfl | rfl | rfl | rfl | rfl | rfl | rfl | rfl | rfl
  · exact w_c0
  · exact w_c1
  · exact w_c2
  · exact w_c3
  · exact w_c4
  · exact w_c5
  · exact w_c6
  · exact w_c7
  · exact w_c8
  · exact w_c9
  · exact w_c10
  · exact w_c11
set_option maxRecDepth 65536 in
theorem w_t1 : (words1.take 24).all (fun c => isCode c || c.before args0 about1) = true := by decide +kernel
set_option maxRecDepth 65536 in
theorem w_t2 : ((words1.drop 24).take 24).all (fun c => isCode c || c.before args0 about1) = true := by decide +kernel
set_option maxRecDepth 65536 in
theorem w_t3 : ((words1.drop 24).drop 24).all (fun c => isCode c || c.before args0 about1) = true := by decide +kernel
theorem w_tables : (allAtoms (Jvm.Cond.code x code maxLocals ret :: tables_1)).before args0 about1 = true := by
  rw [allAtoms_all]
  show words1.all (fun c => c.before args0 about1) = true
  refine all_split ?_ w_codes
  rw [← List.take_append_drop 24 words1, List.all_append, w_t1, ← List.take_append_drop 24 (words1.drop 24), List.all_append, w_t2, w_t3]
  rfl
set_option maxRecDepth 65536 in
theorem w_case : (Jvm.Cond.and given_1 narrow_1).before args0 about1 = true := by decide +kernel
theorem w_applies : (headSpec (Jvm.Cond.code x code maxLocals ret :: tables_1) room_1).applies x e0.platform about1 = true :=
  (Spec.applies_iff w_frames).mpr ⟨w_running, w_runnable, w_alone, w_named, w_hears, w_ripe, w_room, w_tables⟩
theorem atStart : AtStart classFile x code maxLocals ret World_1 tables_1 room_1 Calls_1 rest_1 Pre_1 launch0 p0 e0 about1 theMethod args0 below0 :=
  ⟨lists_1, trivial, launch0.admits_env _ _ _, launch0.least_env, fairChoices_fair.cas, fairChoices_fair.clock, w_frames, w_args, w_heap, w_applies, trivial, trivial, w_case⟩
end start1
theorem witness_1 : WitnessClaimed_1 := ⟨start1.p0, start1.e0, start1.about1, start1.theMethod, start1.args0, start1.below0, start1.atStart⟩
end Jvm.Pilot.@@N@@
