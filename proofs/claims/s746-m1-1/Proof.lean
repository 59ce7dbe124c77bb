import JvmDerived
import JvmDerived.Pilot.@@N@@Statement
import JvmDerived.Pilot.@@N@@Code
set_option linter.unusedVariables false
set_option linter.unusedSimpArgs false
namespace Jvm.RoadKit
open Sem ClassFile Op Lib Jvm.Stand Jvm.Free Jvm.LawKit
section New
variable {p : Program} {l : Launch} {e : Env} {R : Room} {s : State} {m : MethodId} {args : Array Value} {below : List Frame} {meth : Method} {c : Code} {T : State} {locs : List Loc} {cells slots : Nat}
theorem retI (X : Stand p l e R s m args below meth c T locs cells slots) (hx : p.tables.exec = Jvm.exec) {pc : Nat} {Ls : Array Slot} {z : Int32} {rest : List Value} (hret : meth.sig.returnType = some .int) (hd : decode c.code pc = .ok (.ireturn, 1)) {fs : List Frame}
    (hl : ∀ (f : JFrame) (acts : List Action), f.method = m → f.locked = none → f.entered = [] → (doReturn e (T.setTop f) acts (some (.int z))).1 = T.setFrames fs) : Steps p.tables e below (T.setTop (mkF m pc Ls (.int z :: rest))) (T.setFrames fs) := by
  have hm' : T.vm.method? m = some meth := X.method'
  have hn : narrow .int (.int z) = .int z := rfl
  show Steps p.tables e below (T.setTop { method := m, pc := pc, locals := Ls, stack := _ :: rest, locked := none }) _
  jvm_step X.here [X.here.top, hx, hd, hm', hret, hn]
  first | (intro acts; rw [hl _ acts rfl rfl rfl]) | rw [hl _ _ rfl rfl rfl]
  exact Steps.refl _
theorem own_lremM {g : JFrame} {target : State} (X : Stand p l e R s m args below meth c T locs cells slots) (hx : p.tables.exec = Jvm.exec) (hg : g.method = m) {x y : Int64} {rest : List Value} (hd : decode c.code g.pc = .ok (.lrem, 1)) (hs : g.stack = .long y :: .long x :: rest) (hy : y ≠ 0)
    (hr : Steps p.tables e below (T.setTop { g with pc := g.pc + 1, stack := .long (x % y) :: rest }) target) : Steps p.tables e below (T.setTop g) target :=
  XS.lrem X.here hx hg hd hs hy (by first | exact hr | (rw [lrem_mod]; exact hr))
theorem own_monoW {s t : State} {o : Outcome} {L : List Loc} {k n k' n' : Nat} (h : ReturnedEndW s o t L k n) (hk : k ≤ k') (hn : n ≤ n') : ReturnedEndW s o t L k' n' := ⟨h.1, h.2.1, h.2.2.1, h.2.2.2.mono hk hn⟩
theorem own_go {α β : Type} {S S' : α → Prop} {P : α → β → Prop} (h : ∀ t, S' t → S t) (g : ∃ n o, S' n ∧ P n o) : ∃ n o, S n ∧ P n o := by
  obtain ⟨n, o, a, b⟩ := g
  exact ⟨n, o, h n a, b⟩
end New
end Jvm.RoadKit
namespace Jvm.Pilot.@@N@@
open Jvm Jvm.ClassFile Sem Op Lib Jvm.Free Jvm.Stand Jvm.LawKit Jvm.RoadKit Bundle Jvm.Pilot.@@N@@.Jvm.D
section Own
variable {Z : State} {h h' : Heap} {a b : Addr} {ty : FieldType} {n : Int32} {f f' : Int32 → Value} {ws : List Addr} {sl : Nat} {v : Value}
def own_Arf (Z : State) (h : Heap) (a : Addr) (ty : FieldType) (n : Int32) (f : Int32 → Value) : Prop := ∃ c : Cell, Arr Z h a c ty ∧ c.slots.size = n.toNatClampNeg ∧ ¬ n < 0 ∧ ∀ j : Int32, ¬ (j < 0 ∨ c.slots.size ≤ j.toNatClampNeg) → c.slots[j.toNatClampNeg]? = some (f j)
theorem own_Arf.lt (F : own_Arf Z h a ty n f) : a < h.size := by obtain ⟨c, A, -⟩ := F; exact A.lt
theorem own_Arf.ext (F : own_Arf Z h a ty n f) (E : Ext h h') : own_Arf Z h' a ty n f := by obtain ⟨c, A, r⟩ := F; exact ⟨c, A.ext E, r⟩
theorem own_Arf.other (F : own_Arf Z h b ty n f) (W : Wr h h' a sl v) (q : b ≠ a) : own_Arf Z h' b ty n f := by obtain ⟨c, A, r⟩ := F; exact ⟨c, A.other W q, r⟩
theorem own_Arf.keep (F : own_Arf Z h a ty n f) (K : Keep h h' ws) (q : a ∉ ws) : own_Arf Z h' a ty n f := by obtain ⟨c, A, r⟩ := F; exact ⟨c, ⟨K.2.1 a c A.1 q, A.2⟩, r⟩
theorem own_Arf.cong (F : own_Arf Z h a ty n f) (q : ∀ i, f i = f' i) : own_Arf Z h a ty n f' := by obtain ⟨c, A, S, N, H⟩ := F; exact ⟨c, A, S, N, fun j hj => by rw [← q]; exact H j hj⟩
theorem own_Arf.of {k : ClassId} {vs : List Value} {dv : Value} (F : Arv Z h a k ty n vs dv) : own_Arf Z h a ty n (fun j => vs.getD j.toNatClampNeg dv) := by obtain ⟨c, A, -, S, N, H, -⟩ := F; exact ⟨c, A, S, N, fun j hj => Has.at H hj rfl⟩
theorem own_Arf.upd {c : Cell} {j : Int32} (A : Arr Z h a c ty) (S : c.slots.size = n.toNatClampNeg) (N : ¬ n < 0) (H : ∀ j : Int32, ¬ (j < 0 ∨ c.slots.size ≤ j.toNatClampNeg) → c.slots[j.toNatClampNeg]? = some (f j)) (W : Wr h h' a j.toNatClampNeg v) (hj : ¬ (j < 0 ∨ c.slots.size ≤ j.toNatClampNeg)) : own_Arf Z h' a ty n (fun i => if i = j then v else f i) := by
  refine ⟨c.setSlot j.toNatClampNeg v, A.same W, by rw [sz_set]; exact S, N, fun i hi => ?_⟩
  rw [sz_set] at hi
  show _ = some (if i = j then v else f i)
  by_cases q : i = j
  · rw [if_pos q]; exact get_hit hj q
  · rw [if_neg q, get_miss (fun z => hj (Or.inl z)) (fun z => hi (Or.inl z)) q]; exact H i hi
end Own
def own_mur (z : Int64) : Int64 := (((((z ^^^ ((z.toUInt64 >>> ((33 : Int32) &&& 0x3f).toInt64.toUInt64).toInt64)) * (-49064778989728563 : Int64)) ^^^ ((((z ^^^ ((z.toUInt64 >>> ((33 : Int32) &&& 0x3f).toInt64.toUInt64).toInt64)) * (-49064778989728563 : Int64)).toUInt64 >>> ((33 : Int32) &&& 0x3f).toInt64.toUInt64).toInt64)) * (-4265267296055464877 : Int64)) ^^^ ((((((z ^^^ ((z.toUInt64 >>> ((33 : Int32) &&& 0x3f).toInt64.toUInt64).toInt64)) * (-49064778989728563 : Int64)) ^^^ ((((z ^^^ ((z.toUInt64 >>> ((33 : Int32) &&& 0x3f).toInt64.toUInt64).toInt64)) * (-49064778989728563 : Int64)).toUInt64 >>> ((33 : Int32) &&& 0x3f).toInt64.toUInt64).toInt64)) * (-4265267296055464877 : Int64)).toUInt64 >>> ((33 : Int32) &&& 0x3f).toInt64.toUInt64).toInt64))
def own_sta (z : Int64) : Int64 := (((((z ^^^ ((z.toUInt64 >>> ((30 : Int32) &&& 0x3f).toInt64.toUInt64).toInt64)) * (-4658895280553007687 : Int64)) ^^^ ((((z ^^^ ((z.toUInt64 >>> ((30 : Int32) &&& 0x3f).toInt64.toUInt64).toInt64)) * (-4658895280553007687 : Int64)).toUInt64 >>> ((27 : Int32) &&& 0x3f).toInt64.toUInt64).toInt64)) * (-7723592293110705685 : Int64)) ^^^ ((((((z ^^^ ((z.toUInt64 >>> ((30 : Int32) &&& 0x3f).toInt64.toUInt64).toInt64)) * (-4658895280553007687 : Int64)) ^^^ ((((z ^^^ ((z.toUInt64 >>> ((30 : Int32) &&& 0x3f).toInt64.toUInt64).toInt64)) * (-4658895280553007687 : Int64)).toUInt64 >>> ((27 : Int32) &&& 0x3f).toInt64.toUInt64).toInt64)) * (-7723592293110705685 : Int64)).toUInt64 >>> ((31 : Int32) &&& 0x3f).toInt64.toUInt64).toInt64))
def own_lea (z : Int64) : Int64 := (((((z ^^^ ((z.toUInt64 >>> ((32 : Int32) &&& 0x3f).toInt64.toUInt64).toInt64)) * (-2685821657736338717 : Int64)) ^^^ ((((z ^^^ ((z.toUInt64 >>> ((32 : Int32) &&& 0x3f).toInt64.toUInt64).toInt64)) * (-2685821657736338717 : Int64)).toUInt64 >>> ((32 : Int32) &&& 0x3f).toInt64.toUInt64).toInt64)) * (-2685821657736338717 : Int64)) ^^^ ((((((z ^^^ ((z.toUInt64 >>> ((32 : Int32) &&& 0x3f).toInt64.toUInt64).toInt64)) * (-2685821657736338717 : Int64)) ^^^ ((((z ^^^ ((z.toUInt64 >>> ((32 : Int32) &&& 0x3f).toInt64.toUInt64).toInt64)) * (-2685821657736338717 : Int64)).toUInt64 >>> ((32 : Int32) &&& 0x3f).toInt64.toUInt64).toInt64)) * (-2685821657736338717 : Int64)).toUInt64 >>> ((32 : Int32) &&& 0x3f).toInt64.toUInt64).toInt64))
def own_rot (z : Int64) (k : Int32) : Int64 := ((z <<< (k &&& 0x3f).toInt64) ||| ((z.toUInt64 >>> ((-k) &&& 0x3f).toInt64.toUInt64).toInt64))
def own_s (a s : Int64) : Int64 := (((-3372029247567499371 : Int64) * s) + a)
def own_x0 (x y : Int64) : Int64 := (((own_rot x (24 : Int32)) ^^^ (y ^^^ x)) ^^^ ((y ^^^ x) <<< ((16 : Int32) &&& 0x3f).toInt64))
def own_x1 (x y : Int64) : Int64 := (own_rot (y ^^^ x) (37 : Int32))
def own_ia (q : Int64) : Int64 := ((own_mur (q ^^^ (7640891576956012809 : Int64))) ||| (1 : Int64))
def own_ix (q : Int64) : Int64 := (own_sta (q ^^^ (7640891576956012809 : Int64)))
def own_iy (q : Int64) : Int64 := (own_sta ((q ^^^ (7640891576956012809 : Int64)) + (-7046029254386353131 : Int64)))
theorem own_get4 (a b c d : Int64) (k : Nat) : ([(.long a), (.long b), (.long c), (.long d)] : List Value).getD k (.long (0 : Int64)) = .long (([a, b, c, d] : List Int64).getD k (0 : Int64)) := by
  match k with
  | 0 => rfl
  | 1 => rfl
  | 2 => rfl
  | 3 => rfl
  | n + 4 => rfl
theorem own_i4 (x r : Int32) (h : r = (x &&& (3 : Int32))) : ¬ r < 0 ∧ r < (4 : Int32) := by
  have h1 := c_mask x (3 : Int32) 2 (by decide) (by decide)
  rw [← h] at h1
  rw [Int32.lt_iff_toInt_lt, Int32.lt_iff_toInt_lt]
  have e0 : (0 : Int32).toInt = 0 := by decide
  have e4 : (4 : Int32).toInt = 4 := by decide
  omega
theorem own_law (a s x y g0 g1 g2 g3 : Int64) : (if (s = g1 ∧ x = g2 ∧ y = g3 ∧ a = g0) then (1 : Int32) else (0 : Int32)) = (if g0 = a then (if g1 = s then (if g2 = x then (if g3 = y then (1 : Int32) else (0 : Int32)) else (0 : Int32)) else (0 : Int32)) else (0 : Int32)) := by
  by_cases h0 : g0 = a
  · rw [if_pos h0]
    by_cases h1 : g1 = s
    · rw [if_pos h1]
      by_cases h2 : g2 = x
      · rw [if_pos h2]
        by_cases h3 : g3 = y
        · rw [if_pos h3, if_pos ⟨h1.symm, h2.symm, h3.symm, h0.symm⟩]
        · rw [if_neg h3, if_neg (fun z => h3 z.2.2.1.symm)]
      · rw [if_neg h2, if_neg (fun z => h2 z.2.1.symm)]
    · rw [if_neg h1, if_neg (fun z => h1 z.1.symm)]
  · rw [if_neg h0, if_neg (fun z => h0 z.2.2.2.symm)]
theorem d3_0 : decode prog_21_method_8_code 0 = .ok (.lload_n 0, 1) := by decide +kernel
theorem d3_1 : decode prog_21_method_8_code 1 = .ok (.lload_n 0, 1) := by decide +kernel
theorem d3_2 : decode prog_21_method_8_code 2 = .ok (.bipush 33, 2) := by decide +kernel
theorem d3_4 : decode prog_21_method_8_code 4 = .ok (.lushr, 1) := by decide +kernel
theorem d3_5 : decode prog_21_method_8_code 5 = .ok (.lxor, 1) := by decide +kernel
theorem d3_6 : decode prog_21_method_8_code 6 = .ok (.ldc2_w 56, 3) := by decide +kernel
theorem d3_9 : decode prog_21_method_8_code 9 = .ok (.lmul, 1) := by decide +kernel
theorem d3_10 : decode prog_21_method_8_code 10 = .ok (.lstore_n 2, 1) := by decide +kernel
theorem d3_11 : decode prog_21_method_8_code 11 = .ok (.lload_n 2, 1) := by decide +kernel
theorem d3_12 : decode prog_21_method_8_code 12 = .ok (.lload_n 2, 1) := by decide +kernel
theorem d3_13 : decode prog_21_method_8_code 13 = .ok (.bipush 33, 2) := by decide +kernel
theorem d3_15 : decode prog_21_method_8_code 15 = .ok (.lushr, 1) := by decide +kernel
theorem d3_16 : decode prog_21_method_8_code 16 = .ok (.lxor, 1) := by decide +kernel
theorem d3_17 : decode prog_21_method_8_code 17 = .ok (.ldc2_w 58, 3) := by decide +kernel
theorem d3_20 : decode prog_21_method_8_code 20 = .ok (.lmul, 1) := by decide +kernel
theorem d3_21 : decode prog_21_method_8_code 21 = .ok (.lstore 4, 2) := by decide +kernel
theorem d3_23 : decode prog_21_method_8_code 23 = .ok (.lload 4, 2) := by decide +kernel
theorem d3_25 : decode prog_21_method_8_code 25 = .ok (.lload 4, 2) := by decide +kernel
theorem d3_27 : decode prog_21_method_8_code 27 = .ok (.bipush 33, 2) := by decide +kernel
theorem d3_29 : decode prog_21_method_8_code 29 = .ok (.lushr, 1) := by decide +kernel
theorem d3_30 : decode prog_21_method_8_code 30 = .ok (.lxor, 1) := by decide +kernel
theorem d3_31 : decode prog_21_method_8_code 31 = .ok (.lreturn, 1) := by decide +kernel
theorem pn_3 : plainName "com/example/driftline/driftline/model/LxmRandom" = true := by first | (simp [plainName, overriddenIn]; done) | decide +kernel
theorem ef_3 (m : MethodId) (x0 : Int64) : entryFrame m #[(.long x0)] 6 = mkF m 0 #[.val (.long x0), .second, .unset, .unset, .unset, .unset] [] := by first | (simp [entryFrame, mkF, argsToLocals, Value.category]; done) | rfl
def Q3 (Z : State) (q1 : Int64) (h0 : Heap) (n0 : Nat) (v : Option Value) (h : Heap) (L : List Loc) : Prop := ∃ r : Int64, v = some (.long r) ∧ (r = own_mur q1) ∧ Fr n0 L ∧ h = h0
set_option maxRecDepth 65536 in
set_option maxHeartbeats 40000000 in
theorem rm3 (l : Launch) (Z : State) (a0 : Array Value) (hw : ∀ d ∈ tables_1, d.before a0 Z = true) (ws : List Jvm.Cond) (q1 : Int64) (h0 : Heap) (n0 : Nat) (Z0 : n0 ≤ h0.size) :
    MetFree l (⟨"com/example/driftline/driftline/model/LxmRandom", "murmur", "(J)J"⟩ : MethodName) (head1 (Jvm.Cond.code (⟨"com/example/driftline/driftline/model/LxmRandom", "murmur", "(J)J"⟩ : MethodName) prog_21_method_8_code 6 (some .long) :: ws) ({ frames := 0, cells := 0, slots := 0, locals := 0 } : Room)) (fun a U => a = #[(.long q1)] ∧ Z.Warmed39 U.vm ∧ U.heap = h0) (fun _ _ _ _ _ => True) (fun _ U o U' => ∃ v L, o = .returned v ∧ Q3 Z q1 h0 n0 v U'.heap L ∧ FrameEnd U o U' L ({ frames := 0, cells := 0, slots := 0, locals := 0 } : Room).cells ({ frames := 0, cells := 0, slots := 0, locals := 0 } : Room).slots) := by
  refine MetFree.of_bodySF (plainFor_of_name pn_3) hisR ?_
  intro p e s m args below meth c s₁ Bd hml0 hP hK
  obtain ⟨rfl, hZ, hh⟩ := hP
  have hx := Bd.exec
  have hby := Bd.bytes
  have hml : c.maxLocals = 6 := hml0
  have hown : s.vm.findClass "com/example/driftline/driftline/model/LxmRandom" = some m.cls := findClass_of_methodNamed Bd.named
  have hnm := (name_of_methodNamed Bd.named Bd.method).1
  have X0 : Stand p l e ({ frames := 0, cells := 0, slots := 0, locals := 0 } : Room) s m #[(.long q1)] below meth c s₁ [] 0 0 := Stand.of_body Bd
  have e0 : s₁.heap = h0 := by rw [← hh, Bd.state]; rfl
  have N0 := Fr.nil n0
  have K0 : Keep h0 h0 [] := Keep.refl _ _
  have pre0 : ∀ t, Steps p.tables e below (s₁.setTop (mkF m 0 #[.val (.long q1), .second, .unset, .unset, .unset, .unset] [])) t → Steps p.tables e below (s₁.setTop (entryFrame m #[(.long q1)] 6)) t := fun t k => castTop (ef_3 m q1) k
  refine own_go (S' := fun t => Steps p.tables e below (s₁.setTop (mkF m 0 #[.val (.long q1), .second, .unset, .unset, .unset, .unset] [])) t) pre0 ?_
  obtain ⟨fs, hr, hrun, hended, hW, hsame⟩ := X0.leave (v := some (.long (((((q1 ^^^ ((q1.toUInt64 >>> ((33 : Int32) &&& 0x3f).toInt64.toUInt64).toInt64)) * (-49064778989728563 : Int64)) ^^^ ((((q1 ^^^ ((q1.toUInt64 >>> ((33 : Int32) &&& 0x3f).toInt64.toUInt64).toInt64)) * (-49064778989728563 : Int64)).toUInt64 >>> ((33 : Int32) &&& 0x3f).toInt64.toUInt64).toInt64)) * (-4265267296055464877 : Int64)) ^^^ ((((((q1 ^^^ ((q1.toUInt64 >>> ((33 : Int32) &&& 0x3f).toInt64.toUInt64).toInt64)) * (-49064778989728563 : Int64)) ^^^ ((((q1 ^^^ ((q1.toUInt64 >>> ((33 : Int32) &&& 0x3f).toInt64.toUInt64).toInt64)) * (-49064778989728563 : Int64)).toUInt64 >>> ((33 : Int32) &&& 0x3f).toInt64.toUInt64).toInt64)) * (-4265267296055464877 : Int64)).toUInt64 >>> ((33 : Int32) &&& 0x3f).toInt64.toUInt64).toInt64)))) (fun h => by rw [Bd.returns] at h; cases h)
  refine ⟨_, _, ?_, hrun, hended, _, _, rfl, ?_, ⟨_, rfl⟩, hW, hsame.mono (by decide) (by decide)⟩
  · show Steps p.tables e below (s₁.setTop (mkF m 0 #[.val (.long q1), .second, .unset, .unset, .unset, .unset] [])) _
    refine XS.lloadN X0.here hx rfl (hb hby d3_0) rfl ?_
    show Steps p.tables e below (s₁.setTop (mkF m 1 #[.val (.long q1), .second, .unset, .unset, .unset, .unset] [(.long q1)])) _
    refine XS.lloadN X0.here hx rfl (hb hby d3_1) rfl ?_
    show Steps p.tables e below (s₁.setTop (mkF m 2 #[.val (.long q1), .second, .unset, .unset, .unset, .unset] [(.long q1), (.long q1)])) _
    refine XS.bipush X0.here hx rfl (hb hby d3_2) ?_
    show Steps p.tables e below (s₁.setTop (mkF m 4 #[.val (.long q1), .second, .unset, .unset, .unset, .unset] [(.int (33 : Int32)), (.long q1), (.long q1)])) _
    refine XS.lushr X0.here hx rfl (hb hby d3_4) rfl ?_
    show Steps p.tables e below (s₁.setTop (mkF m 5 #[.val (.long q1), .second, .unset, .unset, .unset, .unset] [(.long ((q1.toUInt64 >>> ((33 : Int32) &&& 0x3f).toInt64.toUInt64).toInt64)), (.long q1)])) _
    refine XS.lxor X0.here hx rfl (hb hby d3_5) rfl ?_
    show Steps p.tables e below (s₁.setTop (mkF m 6 #[.val (.long q1), .second, .unset, .unset, .unset, .unset] [(.long (q1 ^^^ ((q1.toUInt64 >>> ((33 : Int32) &&& 0x3f).toInt64.toUInt64).toInt64)))])) _
    refine X0.ldc2Long hx hown (mvT hZ (hw _ (List.mem_of_getElem? (i := 13) rfl))) (g := (mkF m 6 #[.val (.long q1), .second, .unset, .unset, .unset, .unset] [(.long (q1 ^^^ ((q1.toUInt64 >>> ((33 : Int32) &&& 0x3f).toInt64.toUInt64).toInt64)))])) rfl (hb hby d3_6) _ ?_
    show Steps p.tables e below (s₁.setTop (mkF m 9 #[.val (.long q1), .second, .unset, .unset, .unset, .unset] [(.long (-49064778989728563 : Int64)), (.long (q1 ^^^ ((q1.toUInt64 >>> ((33 : Int32) &&& 0x3f).toInt64.toUInt64).toInt64)))])) _
    refine XS.lmul X0.here hx rfl (hb hby d3_9) rfl ?_
    show Steps p.tables e below (s₁.setTop (mkF m 10 #[.val (.long q1), .second, .unset, .unset, .unset, .unset] [(.long ((q1 ^^^ ((q1.toUInt64 >>> ((33 : Int32) &&& 0x3f).toInt64.toUInt64).toInt64)) * (-49064778989728563 : Int64)))])) _
    refine XS.lstoreN X0.here hx rfl (hb hby d3_10) rfl (l' := #[.val (.long q1), .second, .val (.long ((q1 ^^^ ((q1.toUInt64 >>> ((33 : Int32) &&& 0x3f).toInt64.toUInt64).toInt64)) * (-49064778989728563 : Int64))), .second, .unset, .unset]) rfl ?_
    show Steps p.tables e below (s₁.setTop (mkF m 11 #[.val (.long q1), .second, .val (.long ((q1 ^^^ ((q1.toUInt64 >>> ((33 : Int32) &&& 0x3f).toInt64.toUInt64).toInt64)) * (-49064778989728563 : Int64))), .second, .unset, .unset] [])) _
    refine XS.lloadN X0.here hx rfl (hb hby d3_11) rfl ?_
    show Steps p.tables e below (s₁.setTop (mkF m 12 #[.val (.long q1), .second, .val (.long ((q1 ^^^ ((q1.toUInt64 >>> ((33 : Int32) &&& 0x3f).toInt64.toUInt64).toInt64)) * (-49064778989728563 : Int64))), .second, .unset, .unset] [(.long ((q1 ^^^ ((q1.toUInt64 >>> ((33 : Int32) &&& 0x3f).toInt64.toUInt64).toInt64)) * (-49064778989728563 : Int64)))])) _
    refine XS.lloadN X0.here hx rfl (hb hby d3_12) rfl ?_
    show Steps p.tables e below (s₁.setTop (mkF m 13 #[.val (.long q1), .second, .val (.long ((q1 ^^^ ((q1.toUInt64 >>> ((33 : Int32) &&& 0x3f).toInt64.toUInt64).toInt64)) * (-49064778989728563 : Int64))), .second, .unset, .unset] [(.long ((q1 ^^^ ((q1.toUInt64 >>> ((33 : Int32) &&& 0x3f).toInt64.toUInt64).toInt64)) * (-49064778989728563 : Int64))), (.long ((q1 ^^^ ((q1.toUInt64 >>> ((33 : Int32) &&& 0x3f).toInt64.toUInt64).toInt64)) * (-49064778989728563 : Int64)))])) _
    refine XS.bipush X0.here hx rfl (hb hby d3_13) ?_
    show Steps p.tables e below (s₁.setTop (mkF m 15 #[.val (.long q1), .second, .val (.long ((q1 ^^^ ((q1.toUInt64 >>> ((33 : Int32) &&& 0x3f).toInt64.toUInt64).toInt64)) * (-49064778989728563 : Int64))), .second, .unset, .unset] [(.int (33 : Int32)), (.long ((q1 ^^^ ((q1.toUInt64 >>> ((33 : Int32) &&& 0x3f).toInt64.toUInt64).toInt64)) * (-49064778989728563 : Int64))), (.long ((q1 ^^^ ((q1.toUInt64 >>> ((33 : Int32) &&& 0x3f).toInt64.toUInt64).toInt64)) * (-49064778989728563 : Int64)))])) _
    refine XS.lushr X0.here hx rfl (hb hby d3_15) rfl ?_
    show Steps p.tables e below (s₁.setTop (mkF m 16 #[.val (.long q1), .second, .val (.long ((q1 ^^^ ((q1.toUInt64 >>> ((33 : Int32) &&& 0x3f).toInt64.toUInt64).toInt64)) * (-49064778989728563 : Int64))), .second, .unset, .unset] [(.long ((((q1 ^^^ ((q1.toUInt64 >>> ((33 : Int32) &&& 0x3f).toInt64.toUInt64).toInt64)) * (-49064778989728563 : Int64)).toUInt64 >>> ((33 : Int32) &&& 0x3f).toInt64.toUInt64).toInt64)), (.long ((q1 ^^^ ((q1.toUInt64 >>> ((33 : Int32) &&& 0x3f).toInt64.toUInt64).toInt64)) * (-49064778989728563 : Int64)))])) _
    refine XS.lxor X0.here hx rfl (hb hby d3_16) rfl ?_
    show Steps p.tables e below (s₁.setTop (mkF m 17 #[.val (.long q1), .second, .val (.long ((q1 ^^^ ((q1.toUInt64 >>> ((33 : Int32) &&& 0x3f).toInt64.toUInt64).toInt64)) * (-49064778989728563 : Int64))), .second, .unset, .unset] [(.long (((q1 ^^^ ((q1.toUInt64 >>> ((33 : Int32) &&& 0x3f).toInt64.toUInt64).toInt64)) * (-49064778989728563 : Int64)) ^^^ ((((q1 ^^^ ((q1.toUInt64 >>> ((33 : Int32) &&& 0x3f).toInt64.toUInt64).toInt64)) * (-49064778989728563 : Int64)).toUInt64 >>> ((33 : Int32) &&& 0x3f).toInt64.toUInt64).toInt64)))])) _
    refine X0.ldc2Long hx hown (mvT hZ (hw _ (List.mem_of_getElem? (i := 14) rfl))) (g := (mkF m 17 #[.val (.long q1), .second, .val (.long ((q1 ^^^ ((q1.toUInt64 >>> ((33 : Int32) &&& 0x3f).toInt64.toUInt64).toInt64)) * (-49064778989728563 : Int64))), .second, .unset, .unset] [(.long (((q1 ^^^ ((q1.toUInt64 >>> ((33 : Int32) &&& 0x3f).toInt64.toUInt64).toInt64)) * (-49064778989728563 : Int64)) ^^^ ((((q1 ^^^ ((q1.toUInt64 >>> ((33 : Int32) &&& 0x3f).toInt64.toUInt64).toInt64)) * (-49064778989728563 : Int64)).toUInt64 >>> ((33 : Int32) &&& 0x3f).toInt64.toUInt64).toInt64)))])) rfl (hb hby d3_17) _ ?_
    show Steps p.tables e below (s₁.setTop (mkF m 20 #[.val (.long q1), .second, .val (.long ((q1 ^^^ ((q1.toUInt64 >>> ((33 : Int32) &&& 0x3f).toInt64.toUInt64).toInt64)) * (-49064778989728563 : Int64))), .second, .unset, .unset] [(.long (-4265267296055464877 : Int64)), (.long (((q1 ^^^ ((q1.toUInt64 >>> ((33 : Int32) &&& 0x3f).toInt64.toUInt64).toInt64)) * (-49064778989728563 : Int64)) ^^^ ((((q1 ^^^ ((q1.toUInt64 >>> ((33 : Int32) &&& 0x3f).toInt64.toUInt64).toInt64)) * (-49064778989728563 : Int64)).toUInt64 >>> ((33 : Int32) &&& 0x3f).toInt64.toUInt64).toInt64)))])) _
    refine XS.lmul X0.here hx rfl (hb hby d3_20) rfl ?_
    show Steps p.tables e below (s₁.setTop (mkF m 21 #[.val (.long q1), .second, .val (.long ((q1 ^^^ ((q1.toUInt64 >>> ((33 : Int32) &&& 0x3f).toInt64.toUInt64).toInt64)) * (-49064778989728563 : Int64))), .second, .unset, .unset] [(.long ((((q1 ^^^ ((q1.toUInt64 >>> ((33 : Int32) &&& 0x3f).toInt64.toUInt64).toInt64)) * (-49064778989728563 : Int64)) ^^^ ((((q1 ^^^ ((q1.toUInt64 >>> ((33 : Int32) &&& 0x3f).toInt64.toUInt64).toInt64)) * (-49064778989728563 : Int64)).toUInt64 >>> ((33 : Int32) &&& 0x3f).toInt64.toUInt64).toInt64)) * (-4265267296055464877 : Int64)))])) _
    refine XS.lstore X0.here hx rfl (hb hby d3_21) rfl (l' := #[.val (.long q1), .second, .val (.long ((q1 ^^^ ((q1.toUInt64 >>> ((33 : Int32) &&& 0x3f).toInt64.toUInt64).toInt64)) * (-49064778989728563 : Int64))), .second, .val (.long ((((q1 ^^^ ((q1.toUInt64 >>> ((33 : Int32) &&& 0x3f).toInt64.toUInt64).toInt64)) * (-49064778989728563 : Int64)) ^^^ ((((q1 ^^^ ((q1.toUInt64 >>> ((33 : Int32) &&& 0x3f).toInt64.toUInt64).toInt64)) * (-49064778989728563 : Int64)).toUInt64 >>> ((33 : Int32) &&& 0x3f).toInt64.toUInt64).toInt64)) * (-4265267296055464877 : Int64))), .second]) rfl ?_
    show Steps p.tables e below (s₁.setTop (mkF m 23 #[.val (.long q1), .second, .val (.long ((q1 ^^^ ((q1.toUInt64 >>> ((33 : Int32) &&& 0x3f).toInt64.toUInt64).toInt64)) * (-49064778989728563 : Int64))), .second, .val (.long ((((q1 ^^^ ((q1.toUInt64 >>> ((33 : Int32) &&& 0x3f).toInt64.toUInt64).toInt64)) * (-49064778989728563 : Int64)) ^^^ ((((q1 ^^^ ((q1.toUInt64 >>> ((33 : Int32) &&& 0x3f).toInt64.toUInt64).toInt64)) * (-49064778989728563 : Int64)).toUInt64 >>> ((33 : Int32) &&& 0x3f).toInt64.toUInt64).toInt64)) * (-4265267296055464877 : Int64))), .second] [])) _
    refine XS.lload X0.here hx rfl (hb hby d3_23) rfl ?_
    show Steps p.tables e below (s₁.setTop (mkF m 25 #[.val (.long q1), .second, .val (.long ((q1 ^^^ ((q1.toUInt64 >>> ((33 : Int32) &&& 0x3f).toInt64.toUInt64).toInt64)) * (-49064778989728563 : Int64))), .second, .val (.long ((((q1 ^^^ ((q1.toUInt64 >>> ((33 : Int32) &&& 0x3f).toInt64.toUInt64).toInt64)) * (-49064778989728563 : Int64)) ^^^ ((((q1 ^^^ ((q1.toUInt64 >>> ((33 : Int32) &&& 0x3f).toInt64.toUInt64).toInt64)) * (-49064778989728563 : Int64)).toUInt64 >>> ((33 : Int32) &&& 0x3f).toInt64.toUInt64).toInt64)) * (-4265267296055464877 : Int64))), .second] [(.long ((((q1 ^^^ ((q1.toUInt64 >>> ((33 : Int32) &&& 0x3f).toInt64.toUInt64).toInt64)) * (-49064778989728563 : Int64)) ^^^ ((((q1 ^^^ ((q1.toUInt64 >>> ((33 : Int32) &&& 0x3f).toInt64.toUInt64).toInt64)) * (-49064778989728563 : Int64)).toUInt64 >>> ((33 : Int32) &&& 0x3f).toInt64.toUInt64).toInt64)) * (-4265267296055464877 : Int64)))])) _
    refine XS.lload X0.here hx rfl (hb hby d3_25) rfl ?_
    show Steps p.tables e below (s₁.setTop (mkF m 27 #[.val (.long q1), .second, .val (.long ((q1 ^^^ ((q1.toUInt64 >>> ((33 : Int32) &&& 0x3f).toInt64.toUInt64).toInt64)) * (-49064778989728563 : Int64))), .second, .val (.long ((((q1 ^^^ ((q1.toUInt64 >>> ((33 : Int32) &&& 0x3f).toInt64.toUInt64).toInt64)) * (-49064778989728563 : Int64)) ^^^ ((((q1 ^^^ ((q1.toUInt64 >>> ((33 : Int32) &&& 0x3f).toInt64.toUInt64).toInt64)) * (-49064778989728563 : Int64)).toUInt64 >>> ((33 : Int32) &&& 0x3f).toInt64.toUInt64).toInt64)) * (-4265267296055464877 : Int64))), .second] [(.long ((((q1 ^^^ ((q1.toUInt64 >>> ((33 : Int32) &&& 0x3f).toInt64.toUInt64).toInt64)) * (-49064778989728563 : Int64)) ^^^ ((((q1 ^^^ ((q1.toUInt64 >>> ((33 : Int32) &&& 0x3f).toInt64.toUInt64).toInt64)) * (-49064778989728563 : Int64)).toUInt64 >>> ((33 : Int32) &&& 0x3f).toInt64.toUInt64).toInt64)) * (-4265267296055464877 : Int64))), (.long ((((q1 ^^^ ((q1.toUInt64 >>> ((33 : Int32) &&& 0x3f).toInt64.toUInt64).toInt64)) * (-49064778989728563 : Int64)) ^^^ ((((q1 ^^^ ((q1.toUInt64 >>> ((33 : Int32) &&& 0x3f).toInt64.toUInt64).toInt64)) * (-49064778989728563 : Int64)).toUInt64 >>> ((33 : Int32) &&& 0x3f).toInt64.toUInt64).toInt64)) * (-4265267296055464877 : Int64)))])) _
    refine XS.bipush X0.here hx rfl (hb hby d3_27) ?_
    show Steps p.tables e below (s₁.setTop (mkF m 29 #[.val (.long q1), .second, .val (.long ((q1 ^^^ ((q1.toUInt64 >>> ((33 : Int32) &&& 0x3f).toInt64.toUInt64).toInt64)) * (-49064778989728563 : Int64))), .second, .val (.long ((((q1 ^^^ ((q1.toUInt64 >>> ((33 : Int32) &&& 0x3f).toInt64.toUInt64).toInt64)) * (-49064778989728563 : Int64)) ^^^ ((((q1 ^^^ ((q1.toUInt64 >>> ((33 : Int32) &&& 0x3f).toInt64.toUInt64).toInt64)) * (-49064778989728563 : Int64)).toUInt64 >>> ((33 : Int32) &&& 0x3f).toInt64.toUInt64).toInt64)) * (-4265267296055464877 : Int64))), .second] [(.int (33 : Int32)), (.long ((((q1 ^^^ ((q1.toUInt64 >>> ((33 : Int32) &&& 0x3f).toInt64.toUInt64).toInt64)) * (-49064778989728563 : Int64)) ^^^ ((((q1 ^^^ ((q1.toUInt64 >>> ((33 : Int32) &&& 0x3f).toInt64.toUInt64).toInt64)) * (-49064778989728563 : Int64)).toUInt64 >>> ((33 : Int32) &&& 0x3f).toInt64.toUInt64).toInt64)) * (-4265267296055464877 : Int64))), (.long ((((q1 ^^^ ((q1.toUInt64 >>> ((33 : Int32) &&& 0x3f).toInt64.toUInt64).toInt64)) * (-49064778989728563 : Int64)) ^^^ ((((q1 ^^^ ((q1.toUInt64 >>> ((33 : Int32) &&& 0x3f).toInt64.toUInt64).toInt64)) * (-49064778989728563 : Int64)).toUInt64 >>> ((33 : Int32) &&& 0x3f).toInt64.toUInt64).toInt64)) * (-4265267296055464877 : Int64)))])) _
    refine XS.lushr X0.here hx rfl (hb hby d3_29) rfl ?_
    show Steps p.tables e below (s₁.setTop (mkF m 30 #[.val (.long q1), .second, .val (.long ((q1 ^^^ ((q1.toUInt64 >>> ((33 : Int32) &&& 0x3f).toInt64.toUInt64).toInt64)) * (-49064778989728563 : Int64))), .second, .val (.long ((((q1 ^^^ ((q1.toUInt64 >>> ((33 : Int32) &&& 0x3f).toInt64.toUInt64).toInt64)) * (-49064778989728563 : Int64)) ^^^ ((((q1 ^^^ ((q1.toUInt64 >>> ((33 : Int32) &&& 0x3f).toInt64.toUInt64).toInt64)) * (-49064778989728563 : Int64)).toUInt64 >>> ((33 : Int32) &&& 0x3f).toInt64.toUInt64).toInt64)) * (-4265267296055464877 : Int64))), .second] [(.long ((((((q1 ^^^ ((q1.toUInt64 >>> ((33 : Int32) &&& 0x3f).toInt64.toUInt64).toInt64)) * (-49064778989728563 : Int64)) ^^^ ((((q1 ^^^ ((q1.toUInt64 >>> ((33 : Int32) &&& 0x3f).toInt64.toUInt64).toInt64)) * (-49064778989728563 : Int64)).toUInt64 >>> ((33 : Int32) &&& 0x3f).toInt64.toUInt64).toInt64)) * (-4265267296055464877 : Int64)).toUInt64 >>> ((33 : Int32) &&& 0x3f).toInt64.toUInt64).toInt64)), (.long ((((q1 ^^^ ((q1.toUInt64 >>> ((33 : Int32) &&& 0x3f).toInt64.toUInt64).toInt64)) * (-49064778989728563 : Int64)) ^^^ ((((q1 ^^^ ((q1.toUInt64 >>> ((33 : Int32) &&& 0x3f).toInt64.toUInt64).toInt64)) * (-49064778989728563 : Int64)).toUInt64 >>> ((33 : Int32) &&& 0x3f).toInt64.toUInt64).toInt64)) * (-4265267296055464877 : Int64)))])) _
    refine XS.lxor X0.here hx rfl (hb hby d3_30) rfl ?_
    show Steps p.tables e below (s₁.setTop (mkF m 31 #[.val (.long q1), .second, .val (.long ((q1 ^^^ ((q1.toUInt64 >>> ((33 : Int32) &&& 0x3f).toInt64.toUInt64).toInt64)) * (-49064778989728563 : Int64))), .second, .val (.long ((((q1 ^^^ ((q1.toUInt64 >>> ((33 : Int32) &&& 0x3f).toInt64.toUInt64).toInt64)) * (-49064778989728563 : Int64)) ^^^ ((((q1 ^^^ ((q1.toUInt64 >>> ((33 : Int32) &&& 0x3f).toInt64.toUInt64).toInt64)) * (-49064778989728563 : Int64)).toUInt64 >>> ((33 : Int32) &&& 0x3f).toInt64.toUInt64).toInt64)) * (-4265267296055464877 : Int64))), .second] [(.long (((((q1 ^^^ ((q1.toUInt64 >>> ((33 : Int32) &&& 0x3f).toInt64.toUInt64).toInt64)) * (-49064778989728563 : Int64)) ^^^ ((((q1 ^^^ ((q1.toUInt64 >>> ((33 : Int32) &&& 0x3f).toInt64.toUInt64).toInt64)) * (-49064778989728563 : Int64)).toUInt64 >>> ((33 : Int32) &&& 0x3f).toInt64.toUInt64).toInt64)) * (-4265267296055464877 : Int64)) ^^^ ((((((q1 ^^^ ((q1.toUInt64 >>> ((33 : Int32) &&& 0x3f).toInt64.toUInt64).toInt64)) * (-49064778989728563 : Int64)) ^^^ ((((q1 ^^^ ((q1.toUInt64 >>> ((33 : Int32) &&& 0x3f).toInt64.toUInt64).toInt64)) * (-49064778989728563 : Int64)).toUInt64 >>> ((33 : Int32) &&& 0x3f).toInt64.toUInt64).toInt64)) * (-4265267296055464877 : Int64)).toUInt64 >>> ((33 : Int32) &&& 0x3f).toInt64.toUInt64).toInt64)))])) _
    exact X0.lreturnOut hx Bd.returns (hb hby d3_31) hr
  · show Q3 Z q1 h0 n0 _ s₁.heap _
    rw [e0]
    exact ⟨_, rfl, rfl, N0, rfl⟩
theorem d4_0 : decode prog_21_method_9_code 0 = .ok (.lload_n 0, 1) := by decide +kernel
theorem d4_1 : decode prog_21_method_9_code 1 = .ok (.lload_n 0, 1) := by decide +kernel
theorem d4_2 : decode prog_21_method_9_code 2 = .ok (.bipush 30, 2) := by decide +kernel
theorem d4_4 : decode prog_21_method_9_code 4 = .ok (.lushr, 1) := by decide +kernel
theorem d4_5 : decode prog_21_method_9_code 5 = .ok (.lxor, 1) := by decide +kernel
theorem d4_6 : decode prog_21_method_9_code 6 = .ok (.ldc2_w 60, 3) := by decide +kernel
theorem d4_9 : decode prog_21_method_9_code 9 = .ok (.lmul, 1) := by decide +kernel
theorem d4_10 : decode prog_21_method_9_code 10 = .ok (.lstore_n 2, 1) := by decide +kernel
theorem d4_11 : decode prog_21_method_9_code 11 = .ok (.lload_n 2, 1) := by decide +kernel
theorem d4_12 : decode prog_21_method_9_code 12 = .ok (.lload_n 2, 1) := by decide +kernel
theorem d4_13 : decode prog_21_method_9_code 13 = .ok (.bipush 27, 2) := by decide +kernel
theorem d4_15 : decode prog_21_method_9_code 15 = .ok (.lushr, 1) := by decide +kernel
theorem d4_16 : decode prog_21_method_9_code 16 = .ok (.lxor, 1) := by decide +kernel
theorem d4_17 : decode prog_21_method_9_code 17 = .ok (.ldc2_w 62, 3) := by decide +kernel
theorem d4_20 : decode prog_21_method_9_code 20 = .ok (.lmul, 1) := by decide +kernel
theorem d4_21 : decode prog_21_method_9_code 21 = .ok (.lstore 4, 2) := by decide +kernel
theorem d4_23 : decode prog_21_method_9_code 23 = .ok (.lload 4, 2) := by decide +kernel
theorem d4_25 : decode prog_21_method_9_code 25 = .ok (.lload 4, 2) := by decide +kernel
theorem d4_27 : decode prog_21_method_9_code 27 = .ok (.bipush 31, 2) := by decide +kernel
theorem d4_29 : decode prog_21_method_9_code 29 = .ok (.lushr, 1) := by decide +kernel
theorem d4_30 : decode prog_21_method_9_code 30 = .ok (.lxor, 1) := by decide +kernel
theorem d4_31 : decode prog_21_method_9_code 31 = .ok (.lreturn, 1) := by decide +kernel
theorem pn_4 : plainName "com/example/driftline/driftline/model/LxmRandom" = true := by first | (simp [plainName, overriddenIn]; done) | decide +kernel
theorem ef_4 (m : MethodId) (x0 : Int64) : entryFrame m #[(.long x0)] 6 = mkF m 0 #[.val (.long x0), .second, .unset, .unset, .unset, .unset] [] := by first | (simp [entryFrame, mkF, argsToLocals, Value.category]; done) | rfl
def Q4 (Z : State) (q1 : Int64) (h0 : Heap) (n0 : Nat) (v : Option Value) (h : Heap) (L : List Loc) : Prop := ∃ r : Int64, v = some (.long r) ∧ (r = own_sta q1) ∧ Fr n0 L ∧ h = h0
set_option maxRecDepth 65536 in
set_option maxHeartbeats 40000000 in
theorem rm4 (l : Launch) (Z : State) (a0 : Array Value) (hw : ∀ d ∈ tables_1, d.before a0 Z = true) (ws : List Jvm.Cond) (q1 : Int64) (h0 : Heap) (n0 : Nat) (Z0 : n0 ≤ h0.size) :
    MetFree l (⟨"com/example/driftline/driftline/model/LxmRandom", "stafford", "(J)J"⟩ : MethodName) (head1 (Jvm.Cond.code (⟨"com/example/driftline/driftline/model/LxmRandom", "stafford", "(J)J"⟩ : MethodName) prog_21_method_9_code 6 (some .long) :: ws) ({ frames := 0, cells := 0, slots := 0, locals := 0 } : Room)) (fun a U => a = #[(.long q1)] ∧ Z.Warmed39 U.vm ∧ U.heap = h0) (fun _ _ _ _ _ => True) (fun _ U o U' => ∃ v L, o = .returned v ∧ Q4 Z q1 h0 n0 v U'.heap L ∧ FrameEnd U o U' L ({ frames := 0, cells := 0, slots := 0, locals := 0 } : Room).cells ({ frames := 0, cells := 0, slots := 0, locals := 0 } : Room).slots) := by
  refine MetFree.of_bodySF (plainFor_of_name pn_4) hisR ?_
  intro p e s m args below meth c s₁ Bd hml0 hP hK
  obtain ⟨rfl, hZ, hh⟩ := hP
  have hx := Bd.exec
  have hby := Bd.bytes
  have hml : c.maxLocals = 6 := hml0
  have hown : s.vm.findClass "com/example/driftline/driftline/model/LxmRandom" = some m.cls := findClass_of_methodNamed Bd.named
  have hnm := (name_of_methodNamed Bd.named Bd.method).1
  have X0 : Stand p l e ({ frames := 0, cells := 0, slots := 0, locals := 0 } : Room) s m #[(.long q1)] below meth c s₁ [] 0 0 := Stand.of_body Bd
  have e0 : s₁.heap = h0 := by rw [← hh, Bd.state]; rfl
  have N0 := Fr.nil n0
  have K0 : Keep h0 h0 [] := Keep.refl _ _
  have pre0 : ∀ t, Steps p.tables e below (s₁.setTop (mkF m 0 #[.val (.long q1), .second, .unset, .unset, .unset, .unset] [])) t → Steps p.tables e below (s₁.setTop (entryFrame m #[(.long q1)] 6)) t := fun t k => castTop (ef_4 m q1) k
  refine own_go (S' := fun t => Steps p.tables e below (s₁.setTop (mkF m 0 #[.val (.long q1), .second, .unset, .unset, .unset, .unset] [])) t) pre0 ?_
  obtain ⟨fs, hr, hrun, hended, hW, hsame⟩ := X0.leave (v := some (.long (((((q1 ^^^ ((q1.toUInt64 >>> ((30 : Int32) &&& 0x3f).toInt64.toUInt64).toInt64)) * (-4658895280553007687 : Int64)) ^^^ ((((q1 ^^^ ((q1.toUInt64 >>> ((30 : Int32) &&& 0x3f).toInt64.toUInt64).toInt64)) * (-4658895280553007687 : Int64)).toUInt64 >>> ((27 : Int32) &&& 0x3f).toInt64.toUInt64).toInt64)) * (-7723592293110705685 : Int64)) ^^^ ((((((q1 ^^^ ((q1.toUInt64 >>> ((30 : Int32) &&& 0x3f).toInt64.toUInt64).toInt64)) * (-4658895280553007687 : Int64)) ^^^ ((((q1 ^^^ ((q1.toUInt64 >>> ((30 : Int32) &&& 0x3f).toInt64.toUInt64).toInt64)) * (-4658895280553007687 : Int64)).toUInt64 >>> ((27 : Int32) &&& 0x3f).toInt64.toUInt64).toInt64)) * (-7723592293110705685 : Int64)).toUInt64 >>> ((31 : Int32) &&& 0x3f).toInt64.toUInt64).toInt64)))) (fun h => by rw [Bd.returns] at h; cases h)
  refine ⟨_, _, ?_, hrun, hended, _, _, rfl, ?_, ⟨_, rfl⟩, hW, hsame.mono (by decide) (by decide)⟩
  · show Steps p.tables e below (s₁.setTop (mkF m 0 #[.val (.long q1), .second, .unset, .unset, .unset, .unset] [])) _
    refine XS.lloadN X0.here hx rfl (hb hby d4_0) rfl ?_
    show Steps p.tables e below (s₁.setTop (mkF m 1 #[.val (.long q1), .second, .unset, .unset, .unset, .unset] [(.long q1)])) _
    refine XS.lloadN X0.here hx rfl (hb hby d4_1) rfl ?_
    show Steps p.tables e below (s₁.setTop (mkF m 2 #[.val (.long q1), .second, .unset, .unset, .unset, .unset] [(.long q1), (.long q1)])) _
    refine XS.bipush X0.here hx rfl (hb hby d4_2) ?_
    show Steps p.tables e below (s₁.setTop (mkF m 4 #[.val (.long q1), .second, .unset, .unset, .unset, .unset] [(.int (30 : Int32)), (.long q1), (.long q1)])) _
    refine XS.lushr X0.here hx rfl (hb hby d4_4) rfl ?_
    show Steps p.tables e below (s₁.setTop (mkF m 5 #[.val (.long q1), .second, .unset, .unset, .unset, .unset] [(.long ((q1.toUInt64 >>> ((30 : Int32) &&& 0x3f).toInt64.toUInt64).toInt64)), (.long q1)])) _
    refine XS.lxor X0.here hx rfl (hb hby d4_5) rfl ?_
    show Steps p.tables e below (s₁.setTop (mkF m 6 #[.val (.long q1), .second, .unset, .unset, .unset, .unset] [(.long (q1 ^^^ ((q1.toUInt64 >>> ((30 : Int32) &&& 0x3f).toInt64.toUInt64).toInt64)))])) _
    refine X0.ldc2Long hx hown (mvT hZ (hw _ (List.mem_of_getElem? (i := 22) rfl))) (g := (mkF m 6 #[.val (.long q1), .second, .unset, .unset, .unset, .unset] [(.long (q1 ^^^ ((q1.toUInt64 >>> ((30 : Int32) &&& 0x3f).toInt64.toUInt64).toInt64)))])) rfl (hb hby d4_6) _ ?_
    show Steps p.tables e below (s₁.setTop (mkF m 9 #[.val (.long q1), .second, .unset, .unset, .unset, .unset] [(.long (-4658895280553007687 : Int64)), (.long (q1 ^^^ ((q1.toUInt64 >>> ((30 : Int32) &&& 0x3f).toInt64.toUInt64).toInt64)))])) _
    refine XS.lmul X0.here hx rfl (hb hby d4_9) rfl ?_
    show Steps p.tables e below (s₁.setTop (mkF m 10 #[.val (.long q1), .second, .unset, .unset, .unset, .unset] [(.long ((q1 ^^^ ((q1.toUInt64 >>> ((30 : Int32) &&& 0x3f).toInt64.toUInt64).toInt64)) * (-4658895280553007687 : Int64)))])) _
    refine XS.lstoreN X0.here hx rfl (hb hby d4_10) rfl (l' := #[.val (.long q1), .second, .val (.long ((q1 ^^^ ((q1.toUInt64 >>> ((30 : Int32) &&& 0x3f).toInt64.toUInt64).toInt64)) * (-4658895280553007687 : Int64))), .second, .unset, .unset]) rfl ?_
    show Steps p.tables e below (s₁.setTop (mkF m 11 #[.val (.long q1), .second, .val (.long ((q1 ^^^ ((q1.toUInt64 >>> ((30 : Int32) &&& 0x3f).toInt64.toUInt64).toInt64)) * (-4658895280553007687 : Int64))), .second, .unset, .unset] [])) _
    refine XS.lloadN X0.here hx rfl (hb hby d4_11) rfl ?_
    show Steps p.tables e below (s₁.setTop (mkF m 12 #[.val (.long q1), .second, .val (.long ((q1 ^^^ ((q1.toUInt64 >>> ((30 : Int32) &&& 0x3f).toInt64.toUInt64).toInt64)) * (-4658895280553007687 : Int64))), .second, .unset, .unset] [(.long ((q1 ^^^ ((q1.toUInt64 >>> ((30 : Int32) &&& 0x3f).toInt64.toUInt64).toInt64)) * (-4658895280553007687 : Int64)))])) _
    refine XS.lloadN X0.here hx rfl (hb hby d4_12) rfl ?_
    show Steps p.tables e below (s₁.setTop (mkF m 13 #[.val (.long q1), .second, .val (.long ((q1 ^^^ ((q1.toUInt64 >>> ((30 : Int32) &&& 0x3f).toInt64.toUInt64).toInt64)) * (-4658895280553007687 : Int64))), .second, .unset, .unset] [(.long ((q1 ^^^ ((q1.toUInt64 >>> ((30 : Int32) &&& 0x3f).toInt64.toUInt64).toInt64)) * (-4658895280553007687 : Int64))), (.long ((q1 ^^^ ((q1.toUInt64 >>> ((30 : Int32) &&& 0x3f).toInt64.toUInt64).toInt64)) * (-4658895280553007687 : Int64)))])) _
    refine XS.bipush X0.here hx rfl (hb hby d4_13) ?_
    show Steps p.tables e below (s₁.setTop (mkF m 15 #[.val (.long q1), .second, .val (.long ((q1 ^^^ ((q1.toUInt64 >>> ((30 : Int32) &&& 0x3f).toInt64.toUInt64).toInt64)) * (-4658895280553007687 : Int64))), .second, .unset, .unset] [(.int (27 : Int32)), (.long ((q1 ^^^ ((q1.toUInt64 >>> ((30 : Int32) &&& 0x3f).toInt64.toUInt64).toInt64)) * (-4658895280553007687 : Int64))), (.long ((q1 ^^^ ((q1.toUInt64 >>> ((30 : Int32) &&& 0x3f).toInt64.toUInt64).toInt64)) * (-4658895280553007687 : Int64)))])) _
    refine XS.lushr X0.here hx rfl (hb hby d4_15) rfl ?_
    show Steps p.tables e below (s₁.setTop (mkF m 16 #[.val (.long q1), .second, .val (.long ((q1 ^^^ ((q1.toUInt64 >>> ((30 : Int32) &&& 0x3f).toInt64.toUInt64).toInt64)) * (-4658895280553007687 : Int64))), .second, .unset, .unset] [(.long ((((q1 ^^^ ((q1.toUInt64 >>> ((30 : Int32) &&& 0x3f).toInt64.toUInt64).toInt64)) * (-4658895280553007687 : Int64)).toUInt64 >>> ((27 : Int32) &&& 0x3f).toInt64.toUInt64).toInt64)), (.long ((q1 ^^^ ((q1.toUInt64 >>> ((30 : Int32) &&& 0x3f).toInt64.toUInt64).toInt64)) * (-4658895280553007687 : Int64)))])) _
    refine XS.lxor X0.here hx rfl (hb hby d4_16) rfl ?_
    show Steps p.tables e below (s₁.setTop (mkF m 17 #[.val (.long q1), .second, .val (.long ((q1 ^^^ ((q1.toUInt64 >>> ((30 : Int32) &&& 0x3f).toInt64.toUInt64).toInt64)) * (-4658895280553007687 : Int64))), .second, .unset, .unset] [(.long (((q1 ^^^ ((q1.toUInt64 >>> ((30 : Int32) &&& 0x3f).toInt64.toUInt64).toInt64)) * (-4658895280553007687 : Int64)) ^^^ ((((q1 ^^^ ((q1.toUInt64 >>> ((30 : Int32) &&& 0x3f).toInt64.toUInt64).toInt64)) * (-4658895280553007687 : Int64)).toUInt64 >>> ((27 : Int32) &&& 0x3f).toInt64.toUInt64).toInt64)))])) _
    refine X0.ldc2Long hx hown (mvT hZ (hw _ (List.mem_of_getElem? (i := 23) rfl))) (g := (mkF m 17 #[.val (.long q1), .second, .val (.long ((q1 ^^^ ((q1.toUInt64 >>> ((30 : Int32) &&& 0x3f).toInt64.toUInt64).toInt64)) * (-4658895280553007687 : Int64))), .second, .unset, .unset] [(.long (((q1 ^^^ ((q1.toUInt64 >>> ((30 : Int32) &&& 0x3f).toInt64.toUInt64).toInt64)) * (-4658895280553007687 : Int64)) ^^^ ((((q1 ^^^ ((q1.toUInt64 >>> ((30 : Int32) &&& 0x3f).toInt64.toUInt64).toInt64)) * (-4658895280553007687 : Int64)).toUInt64 >>> ((27 : Int32) &&& 0x3f).toInt64.toUInt64).toInt64)))])) rfl (hb hby d4_17) _ ?_
    show Steps p.tables e below (s₁.setTop (mkF m 20 #[.val (.long q1), .second, .val (.long ((q1 ^^^ ((q1.toUInt64 >>> ((30 : Int32) &&& 0x3f).toInt64.toUInt64).toInt64)) * (-4658895280553007687 : Int64))), .second, .unset, .unset] [(.long (-7723592293110705685 : Int64)), (.long (((q1 ^^^ ((q1.toUInt64 >>> ((30 : Int32) &&& 0x3f).toInt64.toUInt64).toInt64)) * (-4658895280553007687 : Int64)) ^^^ ((((q1 ^^^ ((q1.toUInt64 >>> ((30 : Int32) &&& 0x3f).toInt64.toUInt64).toInt64)) * (-4658895280553007687 : Int64)).toUInt64 >>> ((27 : Int32) &&& 0x3f).toInt64.toUInt64).toInt64)))])) _
    refine XS.lmul X0.here hx rfl (hb hby d4_20) rfl ?_
    show Steps p.tables e below (s₁.setTop (mkF m 21 #[.val (.long q1), .second, .val (.long ((q1 ^^^ ((q1.toUInt64 >>> ((30 : Int32) &&& 0x3f).toInt64.toUInt64).toInt64)) * (-4658895280553007687 : Int64))), .second, .unset, .unset] [(.long ((((q1 ^^^ ((q1.toUInt64 >>> ((30 : Int32) &&& 0x3f).toInt64.toUInt64).toInt64)) * (-4658895280553007687 : Int64)) ^^^ ((((q1 ^^^ ((q1.toUInt64 >>> ((30 : Int32) &&& 0x3f).toInt64.toUInt64).toInt64)) * (-4658895280553007687 : Int64)).toUInt64 >>> ((27 : Int32) &&& 0x3f).toInt64.toUInt64).toInt64)) * (-7723592293110705685 : Int64)))])) _
    refine XS.lstore X0.here hx rfl (hb hby d4_21) rfl (l' := #[.val (.long q1), .second, .val (.long ((q1 ^^^ ((q1.toUInt64 >>> ((30 : Int32) &&& 0x3f).toInt64.toUInt64).toInt64)) * (-4658895280553007687 : Int64))), .second, .val (.long ((((q1 ^^^ ((q1.toUInt64 >>> ((30 : Int32) &&& 0x3f).toInt64.toUInt64).toInt64)) * (-4658895280553007687 : Int64)) ^^^ ((((q1 ^^^ ((q1.toUInt64 >>> ((30 : Int32) &&& 0x3f).toInt64.toUInt64).toInt64)) * (-4658895280553007687 : Int64)).toUInt64 >>> ((27 : Int32) &&& 0x3f).toInt64.toUInt64).toInt64)) * (-7723592293110705685 : Int64))), .second]) rfl ?_
    show Steps p.tables e below (s₁.setTop (mkF m 23 #[.val (.long q1), .second, .val (.long ((q1 ^^^ ((q1.toUInt64 >>> ((30 : Int32) &&& 0x3f).toInt64.toUInt64).toInt64)) * (-4658895280553007687 : Int64))), .second, .val (.long ((((q1 ^^^ ((q1.toUInt64 >>> ((30 : Int32) &&& 0x3f).toInt64.toUInt64).toInt64)) * (-4658895280553007687 : Int64)) ^^^ ((((q1 ^^^ ((q1.toUInt64 >>> ((30 : Int32) &&& 0x3f).toInt64.toUInt64).toInt64)) * (-4658895280553007687 : Int64)).toUInt64 >>> ((27 : Int32) &&& 0x3f).toInt64.toUInt64).toInt64)) * (-7723592293110705685 : Int64))), .second] [])) _
    refine XS.lload X0.here hx rfl (hb hby d4_23) rfl ?_
    show Steps p.tables e below (s₁.setTop (mkF m 25 #[.val (.long q1), .second, .val (.long ((q1 ^^^ ((q1.toUInt64 >>> ((30 : Int32) &&& 0x3f).toInt64.toUInt64).toInt64)) * (-4658895280553007687 : Int64))), .second, .val (.long ((((q1 ^^^ ((q1.toUInt64 >>> ((30 : Int32) &&& 0x3f).toInt64.toUInt64).toInt64)) * (-4658895280553007687 : Int64)) ^^^ ((((q1 ^^^ ((q1.toUInt64 >>> ((30 : Int32) &&& 0x3f).toInt64.toUInt64).toInt64)) * (-4658895280553007687 : Int64)).toUInt64 >>> ((27 : Int32) &&& 0x3f).toInt64.toUInt64).toInt64)) * (-7723592293110705685 : Int64))), .second] [(.long ((((q1 ^^^ ((q1.toUInt64 >>> ((30 : Int32) &&& 0x3f).toInt64.toUInt64).toInt64)) * (-4658895280553007687 : Int64)) ^^^ ((((q1 ^^^ ((q1.toUInt64 >>> ((30 : Int32) &&& 0x3f).toInt64.toUInt64).toInt64)) * (-4658895280553007687 : Int64)).toUInt64 >>> ((27 : Int32) &&& 0x3f).toInt64.toUInt64).toInt64)) * (-7723592293110705685 : Int64)))])) _
    refine XS.lload X0.here hx rfl (hb hby d4_25) rfl ?_
    show Steps p.tables e below (s₁.setTop (mkF m 27 #[.val (.long q1), .second, .val (.long ((q1 ^^^ ((q1.toUInt64 >>> ((30 : Int32) &&& 0x3f).toInt64.toUInt64).toInt64)) * (-4658895280553007687 : Int64))), .second, .val (.long ((((q1 ^^^ ((q1.toUInt64 >>> ((30 : Int32) &&& 0x3f).toInt64.toUInt64).toInt64)) * (-4658895280553007687 : Int64)) ^^^ ((((q1 ^^^ ((q1.toUInt64 >>> ((30 : Int32) &&& 0x3f).toInt64.toUInt64).toInt64)) * (-4658895280553007687 : Int64)).toUInt64 >>> ((27 : Int32) &&& 0x3f).toInt64.toUInt64).toInt64)) * (-7723592293110705685 : Int64))), .second] [(.long ((((q1 ^^^ ((q1.toUInt64 >>> ((30 : Int32) &&& 0x3f).toInt64.toUInt64).toInt64)) * (-4658895280553007687 : Int64)) ^^^ ((((q1 ^^^ ((q1.toUInt64 >>> ((30 : Int32) &&& 0x3f).toInt64.toUInt64).toInt64)) * (-4658895280553007687 : Int64)).toUInt64 >>> ((27 : Int32) &&& 0x3f).toInt64.toUInt64).toInt64)) * (-7723592293110705685 : Int64))), (.long ((((q1 ^^^ ((q1.toUInt64 >>> ((30 : Int32) &&& 0x3f).toInt64.toUInt64).toInt64)) * (-4658895280553007687 : Int64)) ^^^ ((((q1 ^^^ ((q1.toUInt64 >>> ((30 : Int32) &&& 0x3f).toInt64.toUInt64).toInt64)) * (-4658895280553007687 : Int64)).toUInt64 >>> ((27 : Int32) &&& 0x3f).toInt64.toUInt64).toInt64)) * (-7723592293110705685 : Int64)))])) _
    refine XS.bipush X0.here hx rfl (hb hby d4_27) ?_
    show Steps p.tables e below (s₁.setTop (mkF m 29 #[.val (.long q1), .second, .val (.long ((q1 ^^^ ((q1.toUInt64 >>> ((30 : Int32) &&& 0x3f).toInt64.toUInt64).toInt64)) * (-4658895280553007687 : Int64))), .second, .val (.long ((((q1 ^^^ ((q1.toUInt64 >>> ((30 : Int32) &&& 0x3f).toInt64.toUInt64).toInt64)) * (-4658895280553007687 : Int64)) ^^^ ((((q1 ^^^ ((q1.toUInt64 >>> ((30 : Int32) &&& 0x3f).toInt64.toUInt64).toInt64)) * (-4658895280553007687 : Int64)).toUInt64 >>> ((27 : Int32) &&& 0x3f).toInt64.toUInt64).toInt64)) * (-7723592293110705685 : Int64))), .second] [(.int (31 : Int32)), (.long ((((q1 ^^^ ((q1.toUInt64 >>> ((30 : Int32) &&& 0x3f).toInt64.toUInt64).toInt64)) * (-4658895280553007687 : Int64)) ^^^ ((((q1 ^^^ ((q1.toUInt64 >>> ((30 : Int32) &&& 0x3f).toInt64.toUInt64).toInt64)) * (-4658895280553007687 : Int64)).toUInt64 >>> ((27 : Int32) &&& 0x3f).toInt64.toUInt64).toInt64)) * (-7723592293110705685 : Int64))), (.long ((((q1 ^^^ ((q1.toUInt64 >>> ((30 : Int32) &&& 0x3f).toInt64.toUInt64).toInt64)) * (-4658895280553007687 : Int64)) ^^^ ((((q1 ^^^ ((q1.toUInt64 >>> ((30 : Int32) &&& 0x3f).toInt64.toUInt64).toInt64)) * (-4658895280553007687 : Int64)).toUInt64 >>> ((27 : Int32) &&& 0x3f).toInt64.toUInt64).toInt64)) * (-7723592293110705685 : Int64)))])) _
    refine XS.lushr X0.here hx rfl (hb hby d4_29) rfl ?_
    show Steps p.tables e below (s₁.setTop (mkF m 30 #[.val (.long q1), .second, .val (.long ((q1 ^^^ ((q1.toUInt64 >>> ((30 : Int32) &&& 0x3f).toInt64.toUInt64).toInt64)) * (-4658895280553007687 : Int64))), .second, .val (.long ((((q1 ^^^ ((q1.toUInt64 >>> ((30 : Int32) &&& 0x3f).toInt64.toUInt64).toInt64)) * (-4658895280553007687 : Int64)) ^^^ ((((q1 ^^^ ((q1.toUInt64 >>> ((30 : Int32) &&& 0x3f).toInt64.toUInt64).toInt64)) * (-4658895280553007687 : Int64)).toUInt64 >>> ((27 : Int32) &&& 0x3f).toInt64.toUInt64).toInt64)) * (-7723592293110705685 : Int64))), .second] [(.long ((((((q1 ^^^ ((q1.toUInt64 >>> ((30 : Int32) &&& 0x3f).toInt64.toUInt64).toInt64)) * (-4658895280553007687 : Int64)) ^^^ ((((q1 ^^^ ((q1.toUInt64 >>> ((30 : Int32) &&& 0x3f).toInt64.toUInt64).toInt64)) * (-4658895280553007687 : Int64)).toUInt64 >>> ((27 : Int32) &&& 0x3f).toInt64.toUInt64).toInt64)) * (-7723592293110705685 : Int64)).toUInt64 >>> ((31 : Int32) &&& 0x3f).toInt64.toUInt64).toInt64)), (.long ((((q1 ^^^ ((q1.toUInt64 >>> ((30 : Int32) &&& 0x3f).toInt64.toUInt64).toInt64)) * (-4658895280553007687 : Int64)) ^^^ ((((q1 ^^^ ((q1.toUInt64 >>> ((30 : Int32) &&& 0x3f).toInt64.toUInt64).toInt64)) * (-4658895280553007687 : Int64)).toUInt64 >>> ((27 : Int32) &&& 0x3f).toInt64.toUInt64).toInt64)) * (-7723592293110705685 : Int64)))])) _
    refine XS.lxor X0.here hx rfl (hb hby d4_30) rfl ?_
    show Steps p.tables e below (s₁.setTop (mkF m 31 #[.val (.long q1), .second, .val (.long ((q1 ^^^ ((q1.toUInt64 >>> ((30 : Int32) &&& 0x3f).toInt64.toUInt64).toInt64)) * (-4658895280553007687 : Int64))), .second, .val (.long ((((q1 ^^^ ((q1.toUInt64 >>> ((30 : Int32) &&& 0x3f).toInt64.toUInt64).toInt64)) * (-4658895280553007687 : Int64)) ^^^ ((((q1 ^^^ ((q1.toUInt64 >>> ((30 : Int32) &&& 0x3f).toInt64.toUInt64).toInt64)) * (-4658895280553007687 : Int64)).toUInt64 >>> ((27 : Int32) &&& 0x3f).toInt64.toUInt64).toInt64)) * (-7723592293110705685 : Int64))), .second] [(.long (((((q1 ^^^ ((q1.toUInt64 >>> ((30 : Int32) &&& 0x3f).toInt64.toUInt64).toInt64)) * (-4658895280553007687 : Int64)) ^^^ ((((q1 ^^^ ((q1.toUInt64 >>> ((30 : Int32) &&& 0x3f).toInt64.toUInt64).toInt64)) * (-4658895280553007687 : Int64)).toUInt64 >>> ((27 : Int32) &&& 0x3f).toInt64.toUInt64).toInt64)) * (-7723592293110705685 : Int64)) ^^^ ((((((q1 ^^^ ((q1.toUInt64 >>> ((30 : Int32) &&& 0x3f).toInt64.toUInt64).toInt64)) * (-4658895280553007687 : Int64)) ^^^ ((((q1 ^^^ ((q1.toUInt64 >>> ((30 : Int32) &&& 0x3f).toInt64.toUInt64).toInt64)) * (-4658895280553007687 : Int64)).toUInt64 >>> ((27 : Int32) &&& 0x3f).toInt64.toUInt64).toInt64)) * (-7723592293110705685 : Int64)).toUInt64 >>> ((31 : Int32) &&& 0x3f).toInt64.toUInt64).toInt64)))])) _
    exact X0.lreturnOut hx Bd.returns (hb hby d4_31) hr
  · show Q4 Z q1 h0 n0 _ s₁.heap _
    rw [e0]
    exact ⟨_, rfl, rfl, N0, rfl⟩
theorem d8_0 : decode prog_21_method_7_code 0 = .ok (.lload_n 0, 1) := by decide +kernel
theorem d8_1 : decode prog_21_method_7_code 1 = .ok (.lload_n 0, 1) := by decide +kernel
theorem d8_2 : decode prog_21_method_7_code 2 = .ok (.bipush 32, 2) := by decide +kernel
theorem d8_4 : decode prog_21_method_7_code 4 = .ok (.lushr, 1) := by decide +kernel
theorem d8_5 : decode prog_21_method_7_code 5 = .ok (.lxor, 1) := by decide +kernel
theorem d8_6 : decode prog_21_method_7_code 6 = .ok (.ldc2_w 54, 3) := by decide +kernel
theorem d8_9 : decode prog_21_method_7_code 9 = .ok (.lmul, 1) := by decide +kernel
theorem d8_10 : decode prog_21_method_7_code 10 = .ok (.lstore_n 2, 1) := by decide +kernel
theorem d8_11 : decode prog_21_method_7_code 11 = .ok (.lload_n 2, 1) := by decide +kernel
theorem d8_12 : decode prog_21_method_7_code 12 = .ok (.lload_n 2, 1) := by decide +kernel
theorem d8_13 : decode prog_21_method_7_code 13 = .ok (.bipush 32, 2) := by decide +kernel
theorem d8_15 : decode prog_21_method_7_code 15 = .ok (.lushr, 1) := by decide +kernel
theorem d8_16 : decode prog_21_method_7_code 16 = .ok (.lxor, 1) := by decide +kernel
theorem d8_17 : decode prog_21_method_7_code 17 = .ok (.ldc2_w 54, 3) := by decide +kernel
theorem d8_20 : decode prog_21_method_7_code 20 = .ok (.lmul, 1) := by decide +kernel
theorem d8_21 : decode prog_21_method_7_code 21 = .ok (.lstore 4, 2) := by decide +kernel
theorem d8_23 : decode prog_21_method_7_code 23 = .ok (.lload 4, 2) := by decide +kernel
theorem d8_25 : decode prog_21_method_7_code 25 = .ok (.lload 4, 2) := by decide +kernel
theorem d8_27 : decode prog_21_method_7_code 27 = .ok (.bipush 32, 2) := by decide +kernel
theorem d8_29 : decode prog_21_method_7_code 29 = .ok (.lushr, 1) := by decide +kernel
theorem d8_30 : decode prog_21_method_7_code 30 = .ok (.lxor, 1) := by decide +kernel
theorem d8_31 : decode prog_21_method_7_code 31 = .ok (.lreturn, 1) := by decide +kernel
theorem pn_8 : plainName "com/example/driftline/driftline/model/LxmRandom" = true := by first | (simp [plainName, overriddenIn]; done) | decide +kernel
theorem ef_8 (m : MethodId) (x0 : Int64) : entryFrame m #[(.long x0)] 6 = mkF m 0 #[.val (.long x0), .second, .unset, .unset, .unset, .unset] [] := by first | (simp [entryFrame, mkF, argsToLocals, Value.category]; done) | rfl
def Q8 (Z : State) (q1 : Int64) (h0 : Heap) (n0 : Nat) (v : Option Value) (h : Heap) (L : List Loc) : Prop := ∃ r : Int64, v = some (.long r) ∧ (r = own_lea q1) ∧ Fr n0 L ∧ h = h0
set_option maxRecDepth 65536 in
set_option maxHeartbeats 40000000 in
theorem rm8 (l : Launch) (Z : State) (a0 : Array Value) (hw : ∀ d ∈ tables_1, d.before a0 Z = true) (ws : List Jvm.Cond) (q1 : Int64) (h0 : Heap) (n0 : Nat) (Z0 : n0 ≤ h0.size) :
    MetFree l (⟨"com/example/driftline/driftline/model/LxmRandom", "lea", "(J)J"⟩ : MethodName) (head1 (Jvm.Cond.code (⟨"com/example/driftline/driftline/model/LxmRandom", "lea", "(J)J"⟩ : MethodName) prog_21_method_7_code 6 (some .long) :: ws) ({ frames := 0, cells := 0, slots := 0, locals := 0 } : Room)) (fun a U => a = #[(.long q1)] ∧ Z.Warmed39 U.vm ∧ U.heap = h0) (fun _ _ _ _ _ => True) (fun _ U o U' => ∃ v L, o = .returned v ∧ Q8 Z q1 h0 n0 v U'.heap L ∧ FrameEnd U o U' L ({ frames := 0, cells := 0, slots := 0, locals := 0 } : Room).cells ({ frames := 0, cells := 0, slots := 0, locals := 0 } : Room).slots) := by
  refine MetFree.of_bodySF (plainFor_of_name pn_8) hisR ?_
  intro p e s m args below meth c s₁ Bd hml0 hP hK
  obtain ⟨rfl, hZ, hh⟩ := hP
  have hx := Bd.exec
  have hby := Bd.bytes
  have hml : c.maxLocals = 6 := hml0
  have hown : s.vm.findClass "com/example/driftline/driftline/model/LxmRandom" = some m.cls := findClass_of_methodNamed Bd.named
  have hnm := (name_of_methodNamed Bd.named Bd.method).1
  have X0 : Stand p l e ({ frames := 0, cells := 0, slots := 0, locals := 0 } : Room) s m #[(.long q1)] below meth c s₁ [] 0 0 := Stand.of_body Bd
  have e0 : s₁.heap = h0 := by rw [← hh, Bd.state]; rfl
  have N0 := Fr.nil n0
  have K0 : Keep h0 h0 [] := Keep.refl _ _
  have pre0 : ∀ t, Steps p.tables e below (s₁.setTop (mkF m 0 #[.val (.long q1), .second, .unset, .unset, .unset, .unset] [])) t → Steps p.tables e below (s₁.setTop (entryFrame m #[(.long q1)] 6)) t := fun t k => castTop (ef_8 m q1) k
  refine own_go (S' := fun t => Steps p.tables e below (s₁.setTop (mkF m 0 #[.val (.long q1), .second, .unset, .unset, .unset, .unset] [])) t) pre0 ?_
  obtain ⟨fs, hr, hrun, hended, hW, hsame⟩ := X0.leave (v := some (.long (((((q1 ^^^ ((q1.toUInt64 >>> ((32 : Int32) &&& 0x3f).toInt64.toUInt64).toInt64)) * (-2685821657736338717 : Int64)) ^^^ ((((q1 ^^^ ((q1.toUInt64 >>> ((32 : Int32) &&& 0x3f).toInt64.toUInt64).toInt64)) * (-2685821657736338717 : Int64)).toUInt64 >>> ((32 : Int32) &&& 0x3f).toInt64.toUInt64).toInt64)) * (-2685821657736338717 : Int64)) ^^^ ((((((q1 ^^^ ((q1.toUInt64 >>> ((32 : Int32) &&& 0x3f).toInt64.toUInt64).toInt64)) * (-2685821657736338717 : Int64)) ^^^ ((((q1 ^^^ ((q1.toUInt64 >>> ((32 : Int32) &&& 0x3f).toInt64.toUInt64).toInt64)) * (-2685821657736338717 : Int64)).toUInt64 >>> ((32 : Int32) &&& 0x3f).toInt64.toUInt64).toInt64)) * (-2685821657736338717 : Int64)).toUInt64 >>> ((32 : Int32) &&& 0x3f).toInt64.toUInt64).toInt64)))) (fun h => by rw [Bd.returns] at h; cases h)
  refine ⟨_, _, ?_, hrun, hended, _, _, rfl, ?_, ⟨_, rfl⟩, hW, hsame.mono (by decide) (by decide)⟩
  · show Steps p.tables e below (s₁.setTop (mkF m 0 #[.val (.long q1), .second, .unset, .unset, .unset, .unset] [])) _
    refine XS.lloadN X0.here hx rfl (hb hby d8_0) rfl ?_
    show Steps p.tables e below (s₁.setTop (mkF m 1 #[.val (.long q1), .second, .unset, .unset, .unset, .unset] [(.long q1)])) _
    refine XS.lloadN X0.here hx rfl (hb hby d8_1) rfl ?_
    show Steps p.tables e below (s₁.setTop (mkF m 2 #[.val (.long q1), .second, .unset, .unset, .unset, .unset] [(.long q1), (.long q1)])) _
    refine XS.bipush X0.here hx rfl (hb hby d8_2) ?_
    show Steps p.tables e below (s₁.setTop (mkF m 4 #[.val (.long q1), .second, .unset, .unset, .unset, .unset] [(.int (32 : Int32)), (.long q1), (.long q1)])) _
    refine XS.lushr X0.here hx rfl (hb hby d8_4) rfl ?_
    show Steps p.tables e below (s₁.setTop (mkF m 5 #[.val (.long q1), .second, .unset, .unset, .unset, .unset] [(.long ((q1.toUInt64 >>> ((32 : Int32) &&& 0x3f).toInt64.toUInt64).toInt64)), (.long q1)])) _
    refine XS.lxor X0.here hx rfl (hb hby d8_5) rfl ?_
    show Steps p.tables e below (s₁.setTop (mkF m 6 #[.val (.long q1), .second, .unset, .unset, .unset, .unset] [(.long (q1 ^^^ ((q1.toUInt64 >>> ((32 : Int32) &&& 0x3f).toInt64.toUInt64).toInt64)))])) _
    refine X0.ldc2Long hx hown (mvT hZ (hw _ (List.mem_of_getElem? (i := 48) rfl))) (g := (mkF m 6 #[.val (.long q1), .second, .unset, .unset, .unset, .unset] [(.long (q1 ^^^ ((q1.toUInt64 >>> ((32 : Int32) &&& 0x3f).toInt64.toUInt64).toInt64)))])) rfl (hb hby d8_6) _ ?_
    show Steps p.tables e below (s₁.setTop (mkF m 9 #[.val (.long q1), .second, .unset, .unset, .unset, .unset] [(.long (-2685821657736338717 : Int64)), (.long (q1 ^^^ ((q1.toUInt64 >>> ((32 : Int32) &&& 0x3f).toInt64.toUInt64).toInt64)))])) _
    refine XS.lmul X0.here hx rfl (hb hby d8_9) rfl ?_
    show Steps p.tables e below (s₁.setTop (mkF m 10 #[.val (.long q1), .second, .unset, .unset, .unset, .unset] [(.long ((q1 ^^^ ((q1.toUInt64 >>> ((32 : Int32) &&& 0x3f).toInt64.toUInt64).toInt64)) * (-2685821657736338717 : Int64)))])) _
    refine XS.lstoreN X0.here hx rfl (hb hby d8_10) rfl (l' := #[.val (.long q1), .second, .val (.long ((q1 ^^^ ((q1.toUInt64 >>> ((32 : Int32) &&& 0x3f).toInt64.toUInt64).toInt64)) * (-2685821657736338717 : Int64))), .second, .unset, .unset]) rfl ?_
    show Steps p.tables e below (s₁.setTop (mkF m 11 #[.val (.long q1), .second, .val (.long ((q1 ^^^ ((q1.toUInt64 >>> ((32 : Int32) &&& 0x3f).toInt64.toUInt64).toInt64)) * (-2685821657736338717 : Int64))), .second, .unset, .unset] [])) _
    refine XS.lloadN X0.here hx rfl (hb hby d8_11) rfl ?_
    show Steps p.tables e below (s₁.setTop (mkF m 12 #[.val (.long q1), .second, .val (.long ((q1 ^^^ ((q1.toUInt64 >>> ((32 : Int32) &&& 0x3f).toInt64.toUInt64).toInt64)) * (-2685821657736338717 : Int64))), .second, .unset, .unset] [(.long ((q1 ^^^ ((q1.toUInt64 >>> ((32 : Int32) &&& 0x3f).toInt64.toUInt64).toInt64)) * (-2685821657736338717 : Int64)))])) _
    refine XS.lloadN X0.here hx rfl (hb hby d8_12) rfl ?_
    show Steps p.tables e below (s₁.setTop (mkF m 13 #[.val (.long q1), .second, .val (.long ((q1 ^^^ ((q1.toUInt64 >>> ((32 : Int32) &&& 0x3f).toInt64.toUInt64).toInt64)) * (-2685821657736338717 : Int64))), .second, .unset, .unset] [(.long ((q1 ^^^ ((q1.toUInt64 >>> ((32 : Int32) &&& 0x3f).toInt64.toUInt64).toInt64)) * (-2685821657736338717 : Int64))), (.long ((q1 ^^^ ((q1.toUInt64 >>> ((32 : Int32) &&& 0x3f).toInt64.toUInt64).toInt64)) * (-2685821657736338717 : Int64)))])) _
    refine XS.bipush X0.here hx rfl (hb hby d8_13) ?_
    show Steps p.tables e below (s₁.setTop (mkF m 15 #[.val (.long q1), .second, .val (.long ((q1 ^^^ ((q1.toUInt64 >>> ((32 : Int32) &&& 0x3f).toInt64.toUInt64).toInt64)) * (-2685821657736338717 : Int64))), .second, .unset, .unset] [(.int (32 : Int32)), (.long ((q1 ^^^ ((q1.toUInt64 >>> ((32 : Int32) &&& 0x3f).toInt64.toUInt64).toInt64)) * (-2685821657736338717 : Int64))), (.long ((q1 ^^^ ((q1.toUInt64 >>> ((32 : Int32) &&& 0x3f).toInt64.toUInt64).toInt64)) * (-2685821657736338717 : Int64)))])) _
    refine XS.lushr X0.here hx rfl (hb hby d8_15) rfl ?_
    show Steps p.tables e below (s₁.setTop (mkF m 16 #[.val (.long q1), .second, .val (.long ((q1 ^^^ ((q1.toUInt64 >>> ((32 : Int32) &&& 0x3f).toInt64.toUInt64).toInt64)) * (-2685821657736338717 : Int64))), .second, .unset, .unset] [(.long ((((q1 ^^^ ((q1.toUInt64 >>> ((32 : Int32) &&& 0x3f).toInt64.toUInt64).toInt64)) * (-2685821657736338717 : Int64)).toUInt64 >>> ((32 : Int32) &&& 0x3f).toInt64.toUInt64).toInt64)), (.long ((q1 ^^^ ((q1.toUInt64 >>> ((32 : Int32) &&& 0x3f).toInt64.toUInt64).toInt64)) * (-2685821657736338717 : Int64)))])) _
    refine XS.lxor X0.here hx rfl (hb hby d8_16) rfl ?_
    show Steps p.tables e below (s₁.setTop (mkF m 17 #[.val (.long q1), .second, .val (.long ((q1 ^^^ ((q1.toUInt64 >>> ((32 : Int32) &&& 0x3f).toInt64.toUInt64).toInt64)) * (-2685821657736338717 : Int64))), .second, .unset, .unset] [(.long (((q1 ^^^ ((q1.toUInt64 >>> ((32 : Int32) &&& 0x3f).toInt64.toUInt64).toInt64)) * (-2685821657736338717 : Int64)) ^^^ ((((q1 ^^^ ((q1.toUInt64 >>> ((32 : Int32) &&& 0x3f).toInt64.toUInt64).toInt64)) * (-2685821657736338717 : Int64)).toUInt64 >>> ((32 : Int32) &&& 0x3f).toInt64.toUInt64).toInt64)))])) _
    refine X0.ldc2Long hx hown (mvT hZ (hw _ (List.mem_of_getElem? (i := 48) rfl))) (g := (mkF m 17 #[.val (.long q1), .second, .val (.long ((q1 ^^^ ((q1.toUInt64 >>> ((32 : Int32) &&& 0x3f).toInt64.toUInt64).toInt64)) * (-2685821657736338717 : Int64))), .second, .unset, .unset] [(.long (((q1 ^^^ ((q1.toUInt64 >>> ((32 : Int32) &&& 0x3f).toInt64.toUInt64).toInt64)) * (-2685821657736338717 : Int64)) ^^^ ((((q1 ^^^ ((q1.toUInt64 >>> ((32 : Int32) &&& 0x3f).toInt64.toUInt64).toInt64)) * (-2685821657736338717 : Int64)).toUInt64 >>> ((32 : Int32) &&& 0x3f).toInt64.toUInt64).toInt64)))])) rfl (hb hby d8_17) _ ?_
    show Steps p.tables e below (s₁.setTop (mkF m 20 #[.val (.long q1), .second, .val (.long ((q1 ^^^ ((q1.toUInt64 >>> ((32 : Int32) &&& 0x3f).toInt64.toUInt64).toInt64)) * (-2685821657736338717 : Int64))), .second, .unset, .unset] [(.long (-2685821657736338717 : Int64)), (.long (((q1 ^^^ ((q1.toUInt64 >>> ((32 : Int32) &&& 0x3f).toInt64.toUInt64).toInt64)) * (-2685821657736338717 : Int64)) ^^^ ((((q1 ^^^ ((q1.toUInt64 >>> ((32 : Int32) &&& 0x3f).toInt64.toUInt64).toInt64)) * (-2685821657736338717 : Int64)).toUInt64 >>> ((32 : Int32) &&& 0x3f).toInt64.toUInt64).toInt64)))])) _
    refine XS.lmul X0.here hx rfl (hb hby d8_20) rfl ?_
    show Steps p.tables e below (s₁.setTop (mkF m 21 #[.val (.long q1), .second, .val (.long ((q1 ^^^ ((q1.toUInt64 >>> ((32 : Int32) &&& 0x3f).toInt64.toUInt64).toInt64)) * (-2685821657736338717 : Int64))), .second, .unset, .unset] [(.long ((((q1 ^^^ ((q1.toUInt64 >>> ((32 : Int32) &&& 0x3f).toInt64.toUInt64).toInt64)) * (-2685821657736338717 : Int64)) ^^^ ((((q1 ^^^ ((q1.toUInt64 >>> ((32 : Int32) &&& 0x3f).toInt64.toUInt64).toInt64)) * (-2685821657736338717 : Int64)).toUInt64 >>> ((32 : Int32) &&& 0x3f).toInt64.toUInt64).toInt64)) * (-2685821657736338717 : Int64)))])) _
    refine XS.lstore X0.here hx rfl (hb hby d8_21) rfl (l' := #[.val (.long q1), .second, .val (.long ((q1 ^^^ ((q1.toUInt64 >>> ((32 : Int32) &&& 0x3f).toInt64.toUInt64).toInt64)) * (-2685821657736338717 : Int64))), .second, .val (.long ((((q1 ^^^ ((q1.toUInt64 >>> ((32 : Int32) &&& 0x3f).toInt64.toUInt64).toInt64)) * (-2685821657736338717 : Int64)) ^^^ ((((q1 ^^^ ((q1.toUInt64 >>> ((32 : Int32) &&& 0x3f).toInt64.toUInt64).toInt64)) * (-2685821657736338717 : Int64)).toUInt64 >>> ((32 : Int32) &&& 0x3f).toInt64.toUInt64).toInt64)) * (-2685821657736338717 : Int64))), .second]) rfl ?_
    show Steps p.tables e below (s₁.setTop (mkF m 23 #[.val (.long q1), .second, .val (.long ((q1 ^^^ ((q1.toUInt64 >>> ((32 : Int32) &&& 0x3f).toInt64.toUInt64).toInt64)) * (-2685821657736338717 : Int64))), .second, .val (.long ((((q1 ^^^ ((q1.toUInt64 >>> ((32 : Int32) &&& 0x3f).toInt64.toUInt64).toInt64)) * (-2685821657736338717 : Int64)) ^^^ ((((q1 ^^^ ((q1.toUInt64 >>> ((32 : Int32) &&& 0x3f).toInt64.toUInt64).toInt64)) * (-2685821657736338717 : Int64)).toUInt64 >>> ((32 : Int32) &&& 0x3f).toInt64.toUInt64).toInt64)) * (-2685821657736338717 : Int64))), .second] [])) _
    refine XS.lload X0.here hx rfl (hb hby d8_23) rfl ?_
    show Steps p.tables e below (s₁.setTop (mkF m 25 #[.val (.long q1), .second, .val (.long ((q1 ^^^ ((q1.toUInt64 >>> ((32 : Int32) &&& 0x3f).toInt64.toUInt64).toInt64)) * (-2685821657736338717 : Int64))), .second, .val (.long ((((q1 ^^^ ((q1.toUInt64 >>> ((32 : Int32) &&& 0x3f).toInt64.toUInt64).toInt64)) * (-2685821657736338717 : Int64)) ^^^ ((((q1 ^^^ ((q1.toUInt64 >>> ((32 : Int32) &&& 0x3f).toInt64.toUInt64).toInt64)) * (-2685821657736338717 : Int64)).toUInt64 >>> ((32 : Int32) &&& 0x3f).toInt64.toUInt64).toInt64)) * (-2685821657736338717 : Int64))), .second] [(.long ((((q1 ^^^ ((q1.toUInt64 >>> ((32 : Int32) &&& 0x3f).toInt64.toUInt64).toInt64)) * (-2685821657736338717 : Int64)) ^^^ ((((q1 ^^^ ((q1.toUInt64 >>> ((32 : Int32) &&& 0x3f).toInt64.toUInt64).toInt64)) * (-2685821657736338717 : Int64)).toUInt64 >>> ((32 : Int32) &&& 0x3f).toInt64.toUInt64).toInt64)) * (-2685821657736338717 : Int64)))])) _
    refine XS.lload X0.here hx rfl (hb hby d8_25) rfl ?_
    show Steps p.tables e below (s₁.setTop (mkF m 27 #[.val (.long q1), .second, .val (.long ((q1 ^^^ ((q1.toUInt64 >>> ((32 : Int32) &&& 0x3f).toInt64.toUInt64).toInt64)) * (-2685821657736338717 : Int64))), .second, .val (.long ((((q1 ^^^ ((q1.toUInt64 >>> ((32 : Int32) &&& 0x3f).toInt64.toUInt64).toInt64)) * (-2685821657736338717 : Int64)) ^^^ ((((q1 ^^^ ((q1.toUInt64 >>> ((32 : Int32) &&& 0x3f).toInt64.toUInt64).toInt64)) * (-2685821657736338717 : Int64)).toUInt64 >>> ((32 : Int32) &&& 0x3f).toInt64.toUInt64).toInt64)) * (-2685821657736338717 : Int64))), .second] [(.long ((((q1 ^^^ ((q1.toUInt64 >>> ((32 : Int32) &&& 0x3f).toInt64.toUInt64).toInt64)) * (-2685821657736338717 : Int64)) ^^^ ((((q1 ^^^ ((q1.toUInt64 >>> ((32 : Int32) &&& 0x3f).toInt64.toUInt64).toInt64)) * (-2685821657736338717 : Int64)).toUInt64 >>> ((32 : Int32) &&& 0x3f).toInt64.toUInt64).toInt64)) * (-2685821657736338717 : Int64))), (.long ((((q1 ^^^ ((q1.toUInt64 >>> ((32 : Int32) &&& 0x3f).toInt64.toUInt64).toInt64)) * (-2685821657736338717 : Int64)) ^^^ ((((q1 ^^^ ((q1.toUInt64 >>> ((32 : Int32) &&& 0x3f).toInt64.toUInt64).toInt64)) * (-2685821657736338717 : Int64)).toUInt64 >>> ((32 : Int32) &&& 0x3f).toInt64.toUInt64).toInt64)) * (-2685821657736338717 : Int64)))])) _
    refine XS.bipush X0.here hx rfl (hb hby d8_27) ?_
    show Steps p.tables e below (s₁.setTop (mkF m 29 #[.val (.long q1), .second, .val (.long ((q1 ^^^ ((q1.toUInt64 >>> ((32 : Int32) &&& 0x3f).toInt64.toUInt64).toInt64)) * (-2685821657736338717 : Int64))), .second, .val (.long ((((q1 ^^^ ((q1.toUInt64 >>> ((32 : Int32) &&& 0x3f).toInt64.toUInt64).toInt64)) * (-2685821657736338717 : Int64)) ^^^ ((((q1 ^^^ ((q1.toUInt64 >>> ((32 : Int32) &&& 0x3f).toInt64.toUInt64).toInt64)) * (-2685821657736338717 : Int64)).toUInt64 >>> ((32 : Int32) &&& 0x3f).toInt64.toUInt64).toInt64)) * (-2685821657736338717 : Int64))), .second] [(.int (32 : Int32)), (.long ((((q1 ^^^ ((q1.toUInt64 >>> ((32 : Int32) &&& 0x3f).toInt64.toUInt64).toInt64)) * (-2685821657736338717 : Int64)) ^^^ ((((q1 ^^^ ((q1.toUInt64 >>> ((32 : Int32) &&& 0x3f).toInt64.toUInt64).toInt64)) * (-2685821657736338717 : Int64)).toUInt64 >>> ((32 : Int32) &&& 0x3f).toInt64.toUInt64).toInt64)) * (-2685821657736338717 : Int64))), (.long ((((q1 ^^^ ((q1.toUInt64 >>> ((32 : Int32) &&& 0x3f).toInt64.toUInt64).toInt64)) * (-2685821657736338717 : Int64)) ^^^ ((((q1 ^^^ ((q1.toUInt64 >>> ((32 : Int32) &&& 0x3f).toInt64.toUInt64).toInt64)) * (-2685821657736338717 : Int64)).toUInt64 >>> ((32 : Int32) &&& 0x3f).toInt64.toUInt64).toInt64)) * (-2685821657736338717 : Int64)))])) _
    refine XS.lushr X0.here hx rfl (hb hby d8_29) rfl ?_
    show Steps p.tables e below (s₁.setTop (mkF m 30 #[.val (.long q1), .second, .val (.long ((q1 ^^^ ((q1.toUInt64 >>> ((32 : Int32) &&& 0x3f).toInt64.toUInt64).toInt64)) * (-2685821657736338717 : Int64))), .second, .val (.long ((((q1 ^^^ ((q1.toUInt64 >>> ((32 : Int32) &&& 0x3f).toInt64.toUInt64).toInt64)) * (-2685821657736338717 : Int64)) ^^^ ((((q1 ^^^ ((q1.toUInt64 >>> ((32 : Int32) &&& 0x3f).toInt64.toUInt64).toInt64)) * (-2685821657736338717 : Int64)).toUInt64 >>> ((32 : Int32) &&& 0x3f).toInt64.toUInt64).toInt64)) * (-2685821657736338717 : Int64))), .second] [(.long ((((((q1 ^^^ ((q1.toUInt64 >>> ((32 : Int32) &&& 0x3f).toInt64.toUInt64).toInt64)) * (-2685821657736338717 : Int64)) ^^^ ((((q1 ^^^ ((q1.toUInt64 >>> ((32 : Int32) &&& 0x3f).toInt64.toUInt64).toInt64)) * (-2685821657736338717 : Int64)).toUInt64 >>> ((32 : Int32) &&& 0x3f).toInt64.toUInt64).toInt64)) * (-2685821657736338717 : Int64)).toUInt64 >>> ((32 : Int32) &&& 0x3f).toInt64.toUInt64).toInt64)), (.long ((((q1 ^^^ ((q1.toUInt64 >>> ((32 : Int32) &&& 0x3f).toInt64.toUInt64).toInt64)) * (-2685821657736338717 : Int64)) ^^^ ((((q1 ^^^ ((q1.toUInt64 >>> ((32 : Int32) &&& 0x3f).toInt64.toUInt64).toInt64)) * (-2685821657736338717 : Int64)).toUInt64 >>> ((32 : Int32) &&& 0x3f).toInt64.toUInt64).toInt64)) * (-2685821657736338717 : Int64)))])) _
    refine XS.lxor X0.here hx rfl (hb hby d8_30) rfl ?_
    show Steps p.tables e below (s₁.setTop (mkF m 31 #[.val (.long q1), .second, .val (.long ((q1 ^^^ ((q1.toUInt64 >>> ((32 : Int32) &&& 0x3f).toInt64.toUInt64).toInt64)) * (-2685821657736338717 : Int64))), .second, .val (.long ((((q1 ^^^ ((q1.toUInt64 >>> ((32 : Int32) &&& 0x3f).toInt64.toUInt64).toInt64)) * (-2685821657736338717 : Int64)) ^^^ ((((q1 ^^^ ((q1.toUInt64 >>> ((32 : Int32) &&& 0x3f).toInt64.toUInt64).toInt64)) * (-2685821657736338717 : Int64)).toUInt64 >>> ((32 : Int32) &&& 0x3f).toInt64.toUInt64).toInt64)) * (-2685821657736338717 : Int64))), .second] [(.long (((((q1 ^^^ ((q1.toUInt64 >>> ((32 : Int32) &&& 0x3f).toInt64.toUInt64).toInt64)) * (-2685821657736338717 : Int64)) ^^^ ((((q1 ^^^ ((q1.toUInt64 >>> ((32 : Int32) &&& 0x3f).toInt64.toUInt64).toInt64)) * (-2685821657736338717 : Int64)).toUInt64 >>> ((32 : Int32) &&& 0x3f).toInt64.toUInt64).toInt64)) * (-2685821657736338717 : Int64)) ^^^ ((((((q1 ^^^ ((q1.toUInt64 >>> ((32 : Int32) &&& 0x3f).toInt64.toUInt64).toInt64)) * (-2685821657736338717 : Int64)) ^^^ ((((q1 ^^^ ((q1.toUInt64 >>> ((32 : Int32) &&& 0x3f).toInt64.toUInt64).toInt64)) * (-2685821657736338717 : Int64)).toUInt64 >>> ((32 : Int32) &&& 0x3f).toInt64.toUInt64).toInt64)) * (-2685821657736338717 : Int64)).toUInt64 >>> ((32 : Int32) &&& 0x3f).toInt64.toUInt64).toInt64)))])) _
    exact X0.lreturnOut hx Bd.returns (hb hby d8_31) hr
  · show Q8 Z q1 h0 n0 _ s₁.heap _
    rw [e0]
    exact ⟨_, rfl, rfl, N0, rfl⟩
theorem d9_0 : decode jdk_35_method_51_code 0 = .ok (.lload_n 0, 1) := by decide +kernel
theorem d9_1 : decode jdk_35_method_51_code 1 = .ok (.iload_n 2, 1) := by decide +kernel
theorem d9_2 : decode jdk_35_method_51_code 2 = .ok (.lshl, 1) := by decide +kernel
theorem d9_3 : decode jdk_35_method_51_code 3 = .ok (.lload_n 0, 1) := by decide +kernel
theorem d9_4 : decode jdk_35_method_51_code 4 = .ok (.iload_n 2, 1) := by decide +kernel
theorem d9_5 : decode jdk_35_method_51_code 5 = .ok (.ineg, 1) := by decide +kernel
theorem d9_6 : decode jdk_35_method_51_code 6 = .ok (.lushr, 1) := by decide +kernel
theorem d9_7 : decode jdk_35_method_51_code 7 = .ok (.lor, 1) := by decide +kernel
theorem d9_8 : decode jdk_35_method_51_code 8 = .ok (.lreturn, 1) := by decide +kernel
theorem pn_9 : plainName "java/lang/Long" = true := by first | (simp [plainName, overriddenIn]; done) | decide +kernel
theorem ef_9 (m : MethodId) (x0 : Int64) (x1 : Int32) : entryFrame m #[(.long x0), (.int x1)] 3 = mkF m 0 #[.val (.long x0), .second, .val (.int x1)] [] := by first | (simp [entryFrame, mkF, argsToLocals, Value.category]; done) | rfl
def Q9 (Z : State) (q1 : Int64) (p2 : Int32) (h0 : Heap) (n0 : Nat) (v : Option Value) (h : Heap) (L : List Loc) : Prop := ∃ r : Int64, v = some (.long r) ∧ (r = own_rot q1 p2) ∧ Fr n0 L ∧ h = h0
set_option maxRecDepth 65536 in
set_option maxHeartbeats 40000000 in
theorem rm9 (l : Launch) (Z : State) (a0 : Array Value) (hw : ∀ d ∈ tables_1, d.before a0 Z = true) (ws : List Jvm.Cond) (q1 : Int64) (p2 : Int32) (h0 : Heap) (n0 : Nat) (Z0 : n0 ≤ h0.size) :
    MetFree l (⟨"java/lang/Long", "rotateLeft", "(JI)J"⟩ : MethodName) (head1 (Jvm.Cond.code (⟨"java/lang/Long", "rotateLeft", "(JI)J"⟩ : MethodName) jdk_35_method_51_code 3 (some .long) :: ws) ({ frames := 0, cells := 0, slots := 0, locals := 0 } : Room)) (fun a U => a = #[(.long q1), (.int p2)] ∧ Z.Warmed39 U.vm ∧ U.heap = h0) (fun _ _ _ _ _ => True) (fun _ U o U' => ∃ v L, o = .returned v ∧ Q9 Z q1 p2 h0 n0 v U'.heap L ∧ FrameEnd U o U' L ({ frames := 0, cells := 0, slots := 0, locals := 0 } : Room).cells ({ frames := 0, cells := 0, slots := 0, locals := 0 } : Room).slots) := by
  refine MetFree.of_bodySF (plainFor_of_name pn_9) hisR ?_
  intro p e s m args below meth c s₁ Bd hml0 hP hK
  obtain ⟨rfl, hZ, hh⟩ := hP
  have hx := Bd.exec
  have hby := Bd.bytes
  have hml : c.maxLocals = 3 := hml0
  have hown : s.vm.findClass "java/lang/Long" = some m.cls := findClass_of_methodNamed Bd.named
  have hnm := (name_of_methodNamed Bd.named Bd.method).1
  have X0 : Stand p l e ({ frames := 0, cells := 0, slots := 0, locals := 0 } : Room) s m #[(.long q1), (.int p2)] below meth c s₁ [] 0 0 := Stand.of_body Bd
  have e0 : s₁.heap = h0 := by rw [← hh, Bd.state]; rfl
  have N0 := Fr.nil n0
  have K0 : Keep h0 h0 [] := Keep.refl _ _
  have pre0 : ∀ t, Steps p.tables e below (s₁.setTop (mkF m 0 #[.val (.long q1), .second, .val (.int p2)] [])) t → Steps p.tables e below (s₁.setTop (entryFrame m #[(.long q1), (.int p2)] 3)) t := fun t k => castTop (ef_9 m q1 p2) k
  refine own_go (S' := fun t => Steps p.tables e below (s₁.setTop (mkF m 0 #[.val (.long q1), .second, .val (.int p2)] [])) t) pre0 ?_
  obtain ⟨fs, hr, hrun, hended, hW, hsame⟩ := X0.leave (v := some (.long ((q1 <<< (p2 &&& 0x3f).toInt64) ||| ((q1.toUInt64 >>> ((-p2) &&& 0x3f).toInt64.toUInt64).toInt64)))) (fun h => by rw [Bd.returns] at h; cases h)
  refine ⟨_, _, ?_, hrun, hended, _, _, rfl, ?_, ⟨_, rfl⟩, hW, hsame.mono (by decide) (by decide)⟩
  · show Steps p.tables e below (s₁.setTop (mkF m 0 #[.val (.long q1), .second, .val (.int p2)] [])) _
    refine XS.lloadN X0.here hx rfl (hb hby d9_0) rfl ?_
    show Steps p.tables e below (s₁.setTop (mkF m 1 #[.val (.long q1), .second, .val (.int p2)] [(.long q1)])) _
    refine XS.iloadN X0.here hx rfl (hb hby d9_1) rfl ?_
    show Steps p.tables e below (s₁.setTop (mkF m 2 #[.val (.long q1), .second, .val (.int p2)] [(.int p2), (.long q1)])) _
    refine XS.lshl X0.here hx rfl (hb hby d9_2) rfl ?_
    show Steps p.tables e below (s₁.setTop (mkF m 3 #[.val (.long q1), .second, .val (.int p2)] [(.long (q1 <<< (p2 &&& 0x3f).toInt64))])) _
    refine XS.lloadN X0.here hx rfl (hb hby d9_3) rfl ?_
    show Steps p.tables e below (s₁.setTop (mkF m 4 #[.val (.long q1), .second, .val (.int p2)] [(.long q1), (.long (q1 <<< (p2 &&& 0x3f).toInt64))])) _
    refine XS.iloadN X0.here hx rfl (hb hby d9_4) rfl ?_
    show Steps p.tables e below (s₁.setTop (mkF m 5 #[.val (.long q1), .second, .val (.int p2)] [(.int p2), (.long q1), (.long (q1 <<< (p2 &&& 0x3f).toInt64))])) _
    refine XS.ineg X0.here hx rfl (hb hby d9_5) rfl ?_
    show Steps p.tables e below (s₁.setTop (mkF m 6 #[.val (.long q1), .second, .val (.int p2)] [(.int (-p2)), (.long q1), (.long (q1 <<< (p2 &&& 0x3f).toInt64))])) _
    refine XS.lushr X0.here hx rfl (hb hby d9_6) rfl ?_
    show Steps p.tables e below (s₁.setTop (mkF m 7 #[.val (.long q1), .second, .val (.int p2)] [(.long ((q1.toUInt64 >>> ((-p2) &&& 0x3f).toInt64.toUInt64).toInt64)), (.long (q1 <<< (p2 &&& 0x3f).toInt64))])) _
    refine XS.lor X0.here hx rfl (hb hby d9_7) rfl ?_
    show Steps p.tables e below (s₁.setTop (mkF m 8 #[.val (.long q1), .second, .val (.int p2)] [(.long ((q1 <<< (p2 &&& 0x3f).toInt64) ||| ((q1.toUInt64 >>> ((-p2) &&& 0x3f).toInt64.toUInt64).toInt64)))])) _
    exact X0.lreturnOut hx Bd.returns (hb hby d9_8) hr
  · show Q9 Z q1 p2 h0 n0 _ s₁.heap _
    rw [e0]
    exact ⟨_, rfl, rfl, N0, rfl⟩
theorem pd_0 : parseMethodDescriptor "(J)J" = some ⟨[.long], some .long⟩ := by decide +kernel
theorem d1_0 : decode prog_21_method_1_code 0 = .ok (.aload_n 0, 1) := by decide +kernel
theorem d1_1 : decode prog_21_method_1_code 1 = .ok (.invokespecial 1, 3) := by decide +kernel
theorem d1_4 : decode prog_21_method_1_code 4 = .ok (.lload_n 1, 1) := by decide +kernel
theorem d1_5 : decode prog_21_method_1_code 5 = .ok (.ldc2_w 9, 3) := by decide +kernel
theorem d1_8 : decode prog_21_method_1_code 8 = .ok (.lxor, 1) := by decide +kernel
theorem d1_9 : decode prog_21_method_1_code 9 = .ok (.lstore_n 3, 1) := by decide +kernel
theorem d1_10 : decode prog_21_method_1_code 10 = .ok (.aload_n 0, 1) := by decide +kernel
theorem d1_11 : decode prog_21_method_1_code 11 = .ok (.lload_n 3, 1) := by decide +kernel
theorem d1_12 : decode prog_21_method_1_code 12 = .ok (.invokestatic 11, 3) := by decide +kernel
theorem d1_15 : decode prog_21_method_1_code 15 = .ok (.lconst 1, 1) := by decide +kernel
theorem d1_16 : decode prog_21_method_1_code 16 = .ok (.lor, 1) := by decide +kernel
theorem d1_17 : decode prog_21_method_1_code 17 = .ok (.putfield 15, 3) := by decide +kernel
theorem d1_20 : decode prog_21_method_1_code 20 = .ok (.aload_n 0, 1) := by decide +kernel
theorem d1_21 : decode prog_21_method_1_code 21 = .ok (.lconst 1, 1) := by decide +kernel
theorem d1_22 : decode prog_21_method_1_code 22 = .ok (.putfield 19, 3) := by decide +kernel
theorem d1_25 : decode prog_21_method_1_code 25 = .ok (.aload_n 0, 1) := by decide +kernel
theorem d1_26 : decode prog_21_method_1_code 26 = .ok (.lload_n 3, 1) := by decide +kernel
theorem d1_27 : decode prog_21_method_1_code 27 = .ok (.invokestatic 22, 3) := by decide +kernel
theorem d1_30 : decode prog_21_method_1_code 30 = .ok (.putfield 25, 3) := by decide +kernel
theorem d1_33 : decode prog_21_method_1_code 33 = .ok (.aload_n 0, 1) := by decide +kernel
theorem d1_34 : decode prog_21_method_1_code 34 = .ok (.lload_n 3, 1) := by decide +kernel
theorem d1_35 : decode prog_21_method_1_code 35 = .ok (.ldc2_w 28, 3) := by decide +kernel
theorem d1_38 : decode prog_21_method_1_code 38 = .ok (.ladd, 1) := by decide +kernel
theorem d1_39 : decode prog_21_method_1_code 39 = .ok (.invokestatic 22, 3) := by decide +kernel
theorem d1_42 : decode prog_21_method_1_code 42 = .ok (.putfield 30, 3) := by decide +kernel
theorem d1_45 : decode prog_21_method_1_code 45 = .ok (.return_, 1) := by decide +kernel
theorem pn_1 : plainName "com/example/driftline/driftline/model/LxmRandom" = true := by first | (simp [plainName, overriddenIn]; done) | decide +kernel
theorem ef_1 (m : MethodId) (x0 : Addr) (x1 : Int64) : entryFrame m #[(.ref x0), (.long x1)] 5 = mkF m 0 #[.val (.ref x0), .val (.long x1), .second, .unset, .unset] [] := by first | (simp [entryFrame, mkF, argsToLocals, Value.category]; done) | rfl
def Q1 (Z : State) (a1 : Addr) (q2 : Int64) (u0 : Value) (u1 : Value) (u2 : Value) (u3 : Value) (h0 : Heap) (n0 : Nat) (v : Option Value) (h : Heap) (L : List Loc) : Prop := v = none ∧ Fr n0 L ∧ Keep h0 h [a1] ∧ Exa Z h a1 "com/example/driftline/driftline/model/LxmRandom" ∧ Fld Z h a1 "com/example/driftline/driftline/model/LxmRandom" "a" "J" (.long (own_ia q2)) ∧ Fld Z h a1 "com/example/driftline/driftline/model/LxmRandom" "s" "J" (.long (1 : Int64)) ∧ Fld Z h a1 "com/example/driftline/driftline/model/LxmRandom" "x0" "J" (.long (own_ix q2)) ∧ Fld Z h a1 "com/example/driftline/driftline/model/LxmRandom" "x1" "J" (.long (own_iy q2))
set_option maxRecDepth 65536 in
set_option maxHeartbeats 40000000 in
theorem rm1 (l : Launch) (Z : State) (a0 : Array Value) (hw : ∀ d ∈ tables_1, d.before a0 Z = true) (ws : List Jvm.Cond) (a1 : Addr) (q2 : Int64) (u0 : Value) (u1 : Value) (u2 : Value) (u3 : Value) (h0 : Heap) (n0 : Nat) (Z0 : n0 ≤ h0.size) (E_a1 : Exa Z h0 a1 "com/example/driftline/driftline/model/LxmRandom") (F_a1_a : Fld Z h0 a1 "com/example/driftline/driftline/model/LxmRandom" "a" "J" u0) (F_a1_s : Fld Z h0 a1 "com/example/driftline/driftline/model/LxmRandom" "s" "J" u1) (F_a1_x0 : Fld Z h0 a1 "com/example/driftline/driftline/model/LxmRandom" "x0" "J" u2) (F_a1_x1 : Fld Z h0 a1 "com/example/driftline/driftline/model/LxmRandom" "x1" "J" u3) (g_a1 : n0 ≤ a1) :
    MetFree l (⟨"com/example/driftline/driftline/model/LxmRandom", "<init>", "(J)V"⟩ : MethodName) (head1 (Jvm.Cond.code (⟨"com/example/driftline/driftline/model/LxmRandom", "<init>", "(J)V"⟩ : MethodName) prog_21_method_1_code 5 none :: ws) ({ frames := 1, cells := 0, slots := 0, locals := 18 } : Room)) (fun a U => a = #[(.ref a1), (.long q2)] ∧ Z.Warmed39 U.vm ∧ U.heap = h0) (fun _ _ _ _ _ => True) (fun _ U o U' => ∃ v L, o = .returned v ∧ Q1 Z a1 q2 u0 u1 u2 u3 h0 n0 v U'.heap L ∧ FrameEnd U o U' L ({ frames := 1, cells := 0, slots := 0, locals := 18 } : Room).cells ({ frames := 1, cells := 0, slots := 0, locals := 18 } : Room).slots) := by
  refine MetFree.of_bodySF (plainFor_of_name pn_1) hisR ?_
  intro p e s m args below meth c s₁ Bd hml0 hP hK
  obtain ⟨rfl, hZ, hh⟩ := hP
  have hx := Bd.exec
  have hby := Bd.bytes
  have hml : c.maxLocals = 5 := hml0
  have hown : s.vm.findClass "com/example/driftline/driftline/model/LxmRandom" = some m.cls := findClass_of_methodNamed Bd.named
  have hnm := (name_of_methodNamed Bd.named Bd.method).1
  have X0 : Stand p l e ({ frames := 1, cells := 0, slots := 0, locals := 18 } : Room) s m #[(.ref a1), (.long q2)] below meth c s₁ [] 0 0 := Stand.of_body Bd
  have e0 : s₁.heap = h0 := by rw [← hh, Bd.state]; rfl
  have N0 := Fr.nil n0
  have K0 : Keep h0 h0 [a1] := Keep.refl _ _
  have pre0 : ∀ t, Steps p.tables e below (s₁.setTop (mkF m 0 #[.val (.ref a1), .val (.long q2), .second, .unset, .unset] [])) t → Steps p.tables e below (s₁.setTop (entryFrame m #[(.ref a1), (.long q2)] 5)) t := fun t k => castTop (ef_1 m a1 q2) k
  refine own_go (S' := fun t => Steps p.tables e below (s₁.setTop (mkF m 0 #[.val (.ref a1), .val (.long q2), .second, .unset, .unset] [])) t) pre0 ?_
  obtain ⟨T1, X1, e1, st1⟩ := initO X0 hx hZ hown (hw _ (List.mem_of_getElem? (i := 6) rfl)) (hw _ (List.mem_of_getElem? (i := 7) rfl)) (hw _ (List.mem_of_getElem? (i := 8) rfl)) e0 (g := (mkF m 1 #[.val (.ref a1), .val (.long q2), .second, .unset, .unset] [(.ref a1)])) rfl (by rw [hml]; rfl) rfl (hb hby d1_1) (by decide) (W := 0) (by show 2 * 0 + _ ≤ _; exact Nat.le_of_eq rfl) (by decide)
  obtain ⟨_, _, ⟨T2, L2, k2, n2⟩, -, X2, ⟨Lc2, hQ2, l2, y2, z2⟩, st2⟩ := Jvm.LawKit.callS X1 hx (y := (⟨"com/example/driftline/driftline/model/LxmRandom", "murmur", "(J)J"⟩ : MethodName)) hown (mvT hZ (hw _ (List.mem_of_getElem? (i := 10) rfl))) (mvT hZ (hw _ (List.mem_of_getElem? (i := 11) rfl))) (mvT hZ (hw _ (List.mem_of_getElem? (i := 2) rfl))) (mvT hZ (hw _ (List.mem_of_getElem? (i := 12) rfl))) (by decide) (backOf (W := 1) (rm3 l Z a0 hw [] (q2 ^^^ (7640891576956012809 : Int64)) h0 n0 Z0 ) hZ (hw _ (List.mem_of_getElem? (i := 12) rfl)) (hw _ (List.mem_of_getElem? (i := 2) rfl)) (by decide) (by decide)) (g := (mkF m 12 #[.val (.ref a1), .val (.long q2), .second, .val (.long (q2 ^^^ (7640891576956012809 : Int64))), .second] [(.long (q2 ^^^ (7640891576956012809 : Int64))), (.ref a1)])) rfl (by rw [hml]; rfl) (argsL := [(.long (q2 ^^^ (7640891576956012809 : Int64)))]) (rest := [(.ref a1)]) (lenOf pd_0 rfl) rfl (by show 2 * 0 + _ ≤ _; exact Nat.le_of_eq rfl) (hb hby d1_12) (fun _ _ => ⟨rfl, e1, (by decide : 0 + 0 ≤ _), (by decide : 0 + 0 ≤ _)⟩)
  dsimp only [Pt.U, Pt.locs, Pt.cells, Pt.slots] at X2 l2 y2 z2 st2 hQ2
  subst l2 y2 z2
  obtain ⟨r2, rfl, d_r2, N2q, e2⟩ := hQ2
  subst d_r2
  have N2 := Fr.app N0 N2q
  obtain ⟨T3, h3, X3, e3, W3, st3⟩ := putF X2 hx hZ hown (host := "") (Or.inl (hw _ (List.mem_of_getElem? (i := 15) rfl))) Via.refl e2 F_a1_a E_a1 (Or.inr ⟨(hw _ (List.mem_of_getElem? (i := 16) rfl)), rfl, hnm⟩) (hw _ (List.mem_of_getElem? (i := 1) rfl)) (ty := .long) (by decide) rfl rfl (g := (mkF m 17 #[.val (.ref a1), .val (.long q2), .second, .val (.long (q2 ^^^ (7640891576956012809 : Int64))), .second] [(.long ((own_mur (q2 ^^^ (7640891576956012809 : Int64))) ||| (1 : Int64))), (.ref a1)])) rfl rfl (hb hby d1_17)
  have F_a1_a := F_a1_a.same W3
  have F_a1_s := F_a1_s.other W3 (Or.inr (slot_ne (Or.inl (hw _ (List.mem_of_getElem? (i := 18) rfl))) (Or.inr (hw _ (List.mem_of_getElem? (i := 16) rfl))) (by decide) (t := .long) (t' := .long) (by decide) (by decide)))
  have F_a1_x0 := F_a1_x0.other W3 (Or.inr (slot_ne (Or.inl (hw _ (List.mem_of_getElem? (i := 25) rfl))) (Or.inr (hw _ (List.mem_of_getElem? (i := 16) rfl))) (by decide) (t := .long) (t' := .long) (by decide) (by decide)))
  have F_a1_x1 := F_a1_x1.other W3 (Or.inr (slot_ne (Or.inl (hw _ (List.mem_of_getElem? (i := 28) rfl))) (Or.inr (hw _ (List.mem_of_getElem? (i := 16) rfl))) (by decide) (t := .long) (t' := .long) (by decide) (by decide)))
  have E_a1 := E_a1.wr W3
  have Z0 : n0 ≤ h3.size := by rw [W3.size]; exact Z0
  have K0 := K0.wr W3 (Or.inl (List.mem_of_getElem? (i := 0) rfl))
  have N3 := Fr.snoc X3 N2 g_a1
  obtain ⟨T4, h4, X4, e4, W4, st4⟩ := putF X3 hx hZ hown (host := "") (Or.inl (hw _ (List.mem_of_getElem? (i := 17) rfl))) Via.refl e3 F_a1_s E_a1 (Or.inl (hw _ (List.mem_of_getElem? (i := 18) rfl))) (hw _ (List.mem_of_getElem? (i := 1) rfl)) (ty := .long) (by decide) rfl rfl (g := (mkF m 22 #[.val (.ref a1), .val (.long q2), .second, .val (.long (q2 ^^^ (7640891576956012809 : Int64))), .second] [(.long (1 : Int64)), (.ref a1)])) rfl rfl (hb hby d1_22)
  have F_a1_a := F_a1_a.other W4 (Or.inr (slot_ne (Or.inr (hw _ (List.mem_of_getElem? (i := 16) rfl))) (Or.inl (hw _ (List.mem_of_getElem? (i := 18) rfl))) (by decide) (t := .long) (t' := .long) (by decide) (by decide)))
  have F_a1_s := F_a1_s.same W4
  have F_a1_x0 := F_a1_x0.other W4 (Or.inr (slot_ne (Or.inl (hw _ (List.mem_of_getElem? (i := 25) rfl))) (Or.inl (hw _ (List.mem_of_getElem? (i := 18) rfl))) (by decide) (t := .long) (t' := .long) (by decide) (by decide)))
  have F_a1_x1 := F_a1_x1.other W4 (Or.inr (slot_ne (Or.inl (hw _ (List.mem_of_getElem? (i := 28) rfl))) (Or.inl (hw _ (List.mem_of_getElem? (i := 18) rfl))) (by decide) (t := .long) (t' := .long) (by decide) (by decide)))
  have E_a1 := E_a1.wr W4
  have Z0 : n0 ≤ h4.size := by rw [W4.size]; exact Z0
  have K0 := K0.wr W4 (Or.inl (List.mem_of_getElem? (i := 0) rfl))
  have N4 := Fr.snoc X4 N3 g_a1
  obtain ⟨_, _, ⟨T5, L5, k5, n5⟩, -, X5, ⟨Lc5, hQ5, l5, y5, z5⟩, st5⟩ := Jvm.LawKit.callS X4 hx (y := (⟨"com/example/driftline/driftline/model/LxmRandom", "stafford", "(J)J"⟩ : MethodName)) hown (mvT hZ (hw _ (List.mem_of_getElem? (i := 19) rfl))) (mvT hZ (hw _ (List.mem_of_getElem? (i := 20) rfl))) (mvT hZ (hw _ (List.mem_of_getElem? (i := 2) rfl))) (mvT hZ (hw _ (List.mem_of_getElem? (i := 21) rfl))) (by decide) (backOf (W := 1) (rm4 l Z a0 hw [] (q2 ^^^ (7640891576956012809 : Int64)) h4 n0 Z0 ) hZ (hw _ (List.mem_of_getElem? (i := 21) rfl)) (hw _ (List.mem_of_getElem? (i := 2) rfl)) (by decide) (by decide)) (g := (mkF m 27 #[.val (.ref a1), .val (.long q2), .second, .val (.long (q2 ^^^ (7640891576956012809 : Int64))), .second] [(.long (q2 ^^^ (7640891576956012809 : Int64))), (.ref a1)])) rfl (by rw [hml]; rfl) (argsL := [(.long (q2 ^^^ (7640891576956012809 : Int64)))]) (rest := [(.ref a1)]) (lenOf pd_0 rfl) rfl (by show 2 * 0 + _ ≤ _; exact Nat.le_of_eq rfl) (hb hby d1_27) (fun _ _ => ⟨rfl, e4, (by decide : 0 + 0 ≤ _), (by decide : 0 + 0 ≤ _)⟩)
  dsimp only [Pt.U, Pt.locs, Pt.cells, Pt.slots] at X5 l5 y5 z5 st5 hQ5
  subst l5 y5 z5
  obtain ⟨r5, rfl, d_r5, N5q, e5⟩ := hQ5
  subst d_r5
  have N5 := Fr.app N4 N5q
  obtain ⟨T6, h6, X6, e6, W6, st6⟩ := putF X5 hx hZ hown (host := "") (Or.inl (hw _ (List.mem_of_getElem? (i := 24) rfl))) Via.refl e5 F_a1_x0 E_a1 (Or.inl (hw _ (List.mem_of_getElem? (i := 25) rfl))) (hw _ (List.mem_of_getElem? (i := 1) rfl)) (ty := .long) (by decide) rfl rfl (g := (mkF m 30 #[.val (.ref a1), .val (.long q2), .second, .val (.long (q2 ^^^ (7640891576956012809 : Int64))), .second] [(.long (own_sta (q2 ^^^ (7640891576956012809 : Int64)))), (.ref a1)])) rfl rfl (hb hby d1_30)
  have F_a1_a := F_a1_a.other W6 (Or.inr (slot_ne (Or.inr (hw _ (List.mem_of_getElem? (i := 16) rfl))) (Or.inl (hw _ (List.mem_of_getElem? (i := 25) rfl))) (by decide) (t := .long) (t' := .long) (by decide) (by decide)))
  have F_a1_s := F_a1_s.other W6 (Or.inr (slot_ne (Or.inl (hw _ (List.mem_of_getElem? (i := 18) rfl))) (Or.inl (hw _ (List.mem_of_getElem? (i := 25) rfl))) (by decide) (t := .long) (t' := .long) (by decide) (by decide)))
  have F_a1_x0 := F_a1_x0.same W6
  have F_a1_x1 := F_a1_x1.other W6 (Or.inr (slot_ne (Or.inl (hw _ (List.mem_of_getElem? (i := 28) rfl))) (Or.inl (hw _ (List.mem_of_getElem? (i := 25) rfl))) (by decide) (t := .long) (t' := .long) (by decide) (by decide)))
  have E_a1 := E_a1.wr W6
  have Z0 : n0 ≤ h6.size := by rw [W6.size]; exact Z0
  have K0 := K0.wr W6 (Or.inl (List.mem_of_getElem? (i := 0) rfl))
  have N6 := Fr.snoc X6 N5 g_a1
  obtain ⟨_, _, ⟨T7, L7, k7, n7⟩, -, X7, ⟨Lc7, hQ7, l7, y7, z7⟩, st7⟩ := Jvm.LawKit.callS X6 hx (y := (⟨"com/example/driftline/driftline/model/LxmRandom", "stafford", "(J)J"⟩ : MethodName)) hown (mvT hZ (hw _ (List.mem_of_getElem? (i := 19) rfl))) (mvT hZ (hw _ (List.mem_of_getElem? (i := 20) rfl))) (mvT hZ (hw _ (List.mem_of_getElem? (i := 2) rfl))) (mvT hZ (hw _ (List.mem_of_getElem? (i := 21) rfl))) (by decide) (backOf (W := 1) (rm4 l Z a0 hw [] ((q2 ^^^ (7640891576956012809 : Int64)) + (-7046029254386353131 : Int64)) h6 n0 Z0 ) hZ (hw _ (List.mem_of_getElem? (i := 21) rfl)) (hw _ (List.mem_of_getElem? (i := 2) rfl)) (by decide) (by decide)) (g := (mkF m 39 #[.val (.ref a1), .val (.long q2), .second, .val (.long (q2 ^^^ (7640891576956012809 : Int64))), .second] [(.long ((q2 ^^^ (7640891576956012809 : Int64)) + (-7046029254386353131 : Int64))), (.ref a1)])) rfl (by rw [hml]; rfl) (argsL := [(.long ((q2 ^^^ (7640891576956012809 : Int64)) + (-7046029254386353131 : Int64)))]) (rest := [(.ref a1)]) (lenOf pd_0 rfl) rfl (by show 2 * 0 + _ ≤ _; exact Nat.le_of_eq rfl) (hb hby d1_39) (fun _ _ => ⟨rfl, e6, (by decide : 0 + 0 ≤ _), (by decide : 0 + 0 ≤ _)⟩)
  dsimp only [Pt.U, Pt.locs, Pt.cells, Pt.slots] at X7 l7 y7 z7 st7 hQ7
  subst l7 y7 z7
  obtain ⟨r7, rfl, d_r7, N7q, e7⟩ := hQ7
  subst d_r7
  have N7 := Fr.app N6 N7q
  obtain ⟨T8, h8, X8, e8, W8, st8⟩ := putF X7 hx hZ hown (host := "") (Or.inl (hw _ (List.mem_of_getElem? (i := 27) rfl))) Via.refl e7 F_a1_x1 E_a1 (Or.inl (hw _ (List.mem_of_getElem? (i := 28) rfl))) (hw _ (List.mem_of_getElem? (i := 1) rfl)) (ty := .long) (by decide) rfl rfl (g := (mkF m 42 #[.val (.ref a1), .val (.long q2), .second, .val (.long (q2 ^^^ (7640891576956012809 : Int64))), .second] [(.long (own_sta ((q2 ^^^ (7640891576956012809 : Int64)) + (-7046029254386353131 : Int64)))), (.ref a1)])) rfl rfl (hb hby d1_42)
  have F_a1_a := F_a1_a.other W8 (Or.inr (slot_ne (Or.inr (hw _ (List.mem_of_getElem? (i := 16) rfl))) (Or.inl (hw _ (List.mem_of_getElem? (i := 28) rfl))) (by decide) (t := .long) (t' := .long) (by decide) (by decide)))
  have F_a1_s := F_a1_s.other W8 (Or.inr (slot_ne (Or.inl (hw _ (List.mem_of_getElem? (i := 18) rfl))) (Or.inl (hw _ (List.mem_of_getElem? (i := 28) rfl))) (by decide) (t := .long) (t' := .long) (by decide) (by decide)))
  have F_a1_x0 := F_a1_x0.other W8 (Or.inr (slot_ne (Or.inl (hw _ (List.mem_of_getElem? (i := 25) rfl))) (Or.inl (hw _ (List.mem_of_getElem? (i := 28) rfl))) (by decide) (t := .long) (t' := .long) (by decide) (by decide)))
  have F_a1_x1 := F_a1_x1.same W8
  have E_a1 := E_a1.wr W8
  have Z0 : n0 ≤ h8.size := by rw [W8.size]; exact Z0
  have K0 := K0.wr W8 (Or.inl (List.mem_of_getElem? (i := 0) rfl))
  have N8 := Fr.snoc X8 N7 g_a1
  obtain ⟨fs, hr, hrun, hended, hW, hsame⟩ := X8.leave (v := none) (fun _ => rfl)
  refine ⟨_, _, ?_, hrun, hended, _, _, rfl, ?_, ⟨_, rfl⟩, hW, hsame.mono (by decide) (by decide)⟩
  · show Steps p.tables e below (s₁.setTop (mkF m 0 #[.val (.ref a1), .val (.long q2), .second, .unset, .unset] [])) _
    refine XS.aloadN X0.here hx rfl (hb hby d1_0) rfl rfl ?_
    show Steps p.tables e below (s₁.setTop (mkF m 1 #[.val (.ref a1), .val (.long q2), .second, .unset, .unset] [(.ref a1)])) _
    refine st1 _ ?_
    show Steps p.tables e below (T1.setTop (mkF m 4 #[.val (.ref a1), .val (.long q2), .second, .unset, .unset] [])) _
    refine XS.lloadN X1.here hx rfl (hb hby d1_4) rfl ?_
    show Steps p.tables e below (T1.setTop (mkF m 5 #[.val (.ref a1), .val (.long q2), .second, .unset, .unset] [(.long q2)])) _
    refine X1.ldc2Long hx hown (mvT hZ (hw _ (List.mem_of_getElem? (i := 9) rfl))) (g := (mkF m 5 #[.val (.ref a1), .val (.long q2), .second, .unset, .unset] [(.long q2)])) rfl (hb hby d1_5) _ ?_
    show Steps p.tables e below (T1.setTop (mkF m 8 #[.val (.ref a1), .val (.long q2), .second, .unset, .unset] [(.long (7640891576956012809 : Int64)), (.long q2)])) _
    refine XS.lxor X1.here hx rfl (hb hby d1_8) rfl ?_
    show Steps p.tables e below (T1.setTop (mkF m 9 #[.val (.ref a1), .val (.long q2), .second, .unset, .unset] [(.long (q2 ^^^ (7640891576956012809 : Int64)))])) _
    refine XS.lstoreN X1.here hx rfl (hb hby d1_9) rfl (l' := #[.val (.ref a1), .val (.long q2), .second, .val (.long (q2 ^^^ (7640891576956012809 : Int64))), .second]) rfl ?_
    show Steps p.tables e below (T1.setTop (mkF m 10 #[.val (.ref a1), .val (.long q2), .second, .val (.long (q2 ^^^ (7640891576956012809 : Int64))), .second] [])) _
    refine XS.aloadN X1.here hx rfl (hb hby d1_10) rfl rfl ?_
    show Steps p.tables e below (T1.setTop (mkF m 11 #[.val (.ref a1), .val (.long q2), .second, .val (.long (q2 ^^^ (7640891576956012809 : Int64))), .second] [(.ref a1)])) _
    refine XS.lloadN X1.here hx rfl (hb hby d1_11) rfl ?_
    show Steps p.tables e below (T1.setTop (mkF m 12 #[.val (.ref a1), .val (.long q2), .second, .val (.long (q2 ^^^ (7640891576956012809 : Int64))), .second] [(.long (q2 ^^^ (7640891576956012809 : Int64))), (.ref a1)])) _
    refine st2 _ ?_
    show Steps p.tables e below (T2.setTop (mkF m 15 #[.val (.ref a1), .val (.long q2), .second, .val (.long (q2 ^^^ (7640891576956012809 : Int64))), .second] [(.long (own_mur (q2 ^^^ (7640891576956012809 : Int64)))), (.ref a1)])) _
    refine XS.lconst X2.here hx rfl (hb hby d1_15) ?_
    show Steps p.tables e below (T2.setTop (mkF m 16 #[.val (.ref a1), .val (.long q2), .second, .val (.long (q2 ^^^ (7640891576956012809 : Int64))), .second] [(.long (1 : Int64)), (.long (own_mur (q2 ^^^ (7640891576956012809 : Int64)))), (.ref a1)])) _
    refine XS.lor X2.here hx rfl (hb hby d1_16) rfl ?_
    show Steps p.tables e below (T2.setTop (mkF m 17 #[.val (.ref a1), .val (.long q2), .second, .val (.long (q2 ^^^ (7640891576956012809 : Int64))), .second] [(.long ((own_mur (q2 ^^^ (7640891576956012809 : Int64))) ||| (1 : Int64))), (.ref a1)])) _
    refine st3 _ ?_
    show Steps p.tables e below (T3.setTop (mkF m 20 #[.val (.ref a1), .val (.long q2), .second, .val (.long (q2 ^^^ (7640891576956012809 : Int64))), .second] [])) _
    refine XS.aloadN X3.here hx rfl (hb hby d1_20) rfl rfl ?_
    show Steps p.tables e below (T3.setTop (mkF m 21 #[.val (.ref a1), .val (.long q2), .second, .val (.long (q2 ^^^ (7640891576956012809 : Int64))), .second] [(.ref a1)])) _
    refine XS.lconst X3.here hx rfl (hb hby d1_21) ?_
    show Steps p.tables e below (T3.setTop (mkF m 22 #[.val (.ref a1), .val (.long q2), .second, .val (.long (q2 ^^^ (7640891576956012809 : Int64))), .second] [(.long (1 : Int64)), (.ref a1)])) _
    refine st4 _ ?_
    show Steps p.tables e below (T4.setTop (mkF m 25 #[.val (.ref a1), .val (.long q2), .second, .val (.long (q2 ^^^ (7640891576956012809 : Int64))), .second] [])) _
    refine XS.aloadN X4.here hx rfl (hb hby d1_25) rfl rfl ?_
    show Steps p.tables e below (T4.setTop (mkF m 26 #[.val (.ref a1), .val (.long q2), .second, .val (.long (q2 ^^^ (7640891576956012809 : Int64))), .second] [(.ref a1)])) _
    refine XS.lloadN X4.here hx rfl (hb hby d1_26) rfl ?_
    show Steps p.tables e below (T4.setTop (mkF m 27 #[.val (.ref a1), .val (.long q2), .second, .val (.long (q2 ^^^ (7640891576956012809 : Int64))), .second] [(.long (q2 ^^^ (7640891576956012809 : Int64))), (.ref a1)])) _
    refine st5 _ ?_
    show Steps p.tables e below (T5.setTop (mkF m 30 #[.val (.ref a1), .val (.long q2), .second, .val (.long (q2 ^^^ (7640891576956012809 : Int64))), .second] [(.long (own_sta (q2 ^^^ (7640891576956012809 : Int64)))), (.ref a1)])) _
    refine st6 _ ?_
    show Steps p.tables e below (T6.setTop (mkF m 33 #[.val (.ref a1), .val (.long q2), .second, .val (.long (q2 ^^^ (7640891576956012809 : Int64))), .second] [])) _
    refine XS.aloadN X6.here hx rfl (hb hby d1_33) rfl rfl ?_
    show Steps p.tables e below (T6.setTop (mkF m 34 #[.val (.ref a1), .val (.long q2), .second, .val (.long (q2 ^^^ (7640891576956012809 : Int64))), .second] [(.ref a1)])) _
    refine XS.lloadN X6.here hx rfl (hb hby d1_34) rfl ?_
    show Steps p.tables e below (T6.setTop (mkF m 35 #[.val (.ref a1), .val (.long q2), .second, .val (.long (q2 ^^^ (7640891576956012809 : Int64))), .second] [(.long (q2 ^^^ (7640891576956012809 : Int64))), (.ref a1)])) _
    refine X6.ldc2Long hx hown (mvT hZ (hw _ (List.mem_of_getElem? (i := 26) rfl))) (g := (mkF m 35 #[.val (.ref a1), .val (.long q2), .second, .val (.long (q2 ^^^ (7640891576956012809 : Int64))), .second] [(.long (q2 ^^^ (7640891576956012809 : Int64))), (.ref a1)])) rfl (hb hby d1_35) _ ?_
    show Steps p.tables e below (T6.setTop (mkF m 38 #[.val (.ref a1), .val (.long q2), .second, .val (.long (q2 ^^^ (7640891576956012809 : Int64))), .second] [(.long (-7046029254386353131 : Int64)), (.long (q2 ^^^ (7640891576956012809 : Int64))), (.ref a1)])) _
    refine XS.ladd X6.here hx rfl (hb hby d1_38) rfl ?_
    show Steps p.tables e below (T6.setTop (mkF m 39 #[.val (.ref a1), .val (.long q2), .second, .val (.long (q2 ^^^ (7640891576956012809 : Int64))), .second] [(.long ((q2 ^^^ (7640891576956012809 : Int64)) + (-7046029254386353131 : Int64))), (.ref a1)])) _
    refine st7 _ ?_
    show Steps p.tables e below (T7.setTop (mkF m 42 #[.val (.ref a1), .val (.long q2), .second, .val (.long (q2 ^^^ (7640891576956012809 : Int64))), .second] [(.long (own_sta ((q2 ^^^ (7640891576956012809 : Int64)) + (-7046029254386353131 : Int64)))), (.ref a1)])) _
    refine st8 _ ?_
    show Steps p.tables e below (T8.setTop (mkF m 45 #[.val (.ref a1), .val (.long q2), .second, .val (.long (q2 ^^^ (7640891576956012809 : Int64))), .second] [])) _
    exact X8.returnOut hx Bd.returns (hb hby d1_45) hr
  · show Q1 Z a1 q2 u0 u1 u2 u3 h0 n0 _ T8.heap _
    rw [e8]
    exact ⟨rfl, N8, K0, E_a1, F_a1_a, F_a1_s, F_a1_x0, F_a1_x1⟩
theorem d5_0 : decode prog_21_method_4_code 0 = .ok (.iconst 4, 1) := by decide +kernel
theorem d5_1 : decode prog_21_method_4_code 1 = .ok (.newarray .long, 2) := by decide +kernel
theorem d5_3 : decode prog_21_method_4_code 3 = .ok (.dup, 1) := by decide +kernel
theorem d5_4 : decode prog_21_method_4_code 4 = .ok (.iconst 0, 1) := by decide +kernel
theorem d5_5 : decode prog_21_method_4_code 5 = .ok (.aload_n 0, 1) := by decide +kernel
theorem d5_6 : decode prog_21_method_4_code 6 = .ok (.getfield 15, 3) := by decide +kernel
theorem d5_9 : decode prog_21_method_4_code 9 = .ok (.lastore, 1) := by decide +kernel
theorem d5_10 : decode prog_21_method_4_code 10 = .ok (.dup, 1) := by decide +kernel
theorem d5_11 : decode prog_21_method_4_code 11 = .ok (.iconst 1, 1) := by decide +kernel
theorem d5_12 : decode prog_21_method_4_code 12 = .ok (.aload_n 0, 1) := by decide +kernel
theorem d5_13 : decode prog_21_method_4_code 13 = .ok (.getfield 19, 3) := by decide +kernel
theorem d5_16 : decode prog_21_method_4_code 16 = .ok (.lastore, 1) := by decide +kernel
theorem d5_17 : decode prog_21_method_4_code 17 = .ok (.dup, 1) := by decide +kernel
theorem d5_18 : decode prog_21_method_4_code 18 = .ok (.iconst 2, 1) := by decide +kernel
theorem d5_19 : decode prog_21_method_4_code 19 = .ok (.aload_n 0, 1) := by decide +kernel
theorem d5_20 : decode prog_21_method_4_code 20 = .ok (.getfield 25, 3) := by decide +kernel
theorem d5_23 : decode prog_21_method_4_code 23 = .ok (.lastore, 1) := by decide +kernel
theorem d5_24 : decode prog_21_method_4_code 24 = .ok (.dup, 1) := by decide +kernel
theorem d5_25 : decode prog_21_method_4_code 25 = .ok (.iconst 3, 1) := by decide +kernel
theorem d5_26 : decode prog_21_method_4_code 26 = .ok (.aload_n 0, 1) := by decide +kernel
theorem d5_27 : decode prog_21_method_4_code 27 = .ok (.getfield 30, 3) := by decide +kernel
theorem d5_30 : decode prog_21_method_4_code 30 = .ok (.lastore, 1) := by decide +kernel
theorem d5_31 : decode prog_21_method_4_code 31 = .ok (.areturn, 1) := by decide +kernel
theorem pn_5 : plainName "com/example/driftline/driftline/model/LxmRandom" = true := by first | (simp [plainName, overriddenIn]; done) | decide +kernel
theorem ef_5 (m : MethodId) (x0 : Addr) : entryFrame m #[(.ref x0)] 1 = mkF m 0 #[.val (.ref x0)] [] := by first | (simp [entryFrame, mkF, argsToLocals, Value.category]; done) | rfl
def Q5 (Z : State) (a1 : Addr) (va : Int64) (vs : Int64) (vx : Int64) (vy : Int64) (h0 : Heap) (n0 : Nat) (v : Option Value) (h : Heap) (L : List Loc) : Prop := ∃ r : Addr, ∃ kk : ClassId, v = some (.ref r) ∧ (True) ∧ h0.size ≤ r ∧ Fr n0 L ∧ Keep h0 h [] ∧ Arv Z h r kk .long (4 : Int32) [(.long va), (.long vs), (.long vx), (.long vy)] (.long (0 : Int64))
set_option maxRecDepth 65536 in
set_option maxHeartbeats 40000000 in
theorem rm5 (l : Launch) (Z : State) (a0 : Array Value) (hw : ∀ d ∈ tables_1, d.before a0 Z = true) (ws : List Jvm.Cond) (a1 : Addr) (va : Int64) (vs : Int64) (vx : Int64) (vy : Int64) (h0 : Heap) (n0 : Nat) (Z0 : n0 ≤ h0.size) (F_a1_a : Fld Z h0 a1 "com/example/driftline/driftline/model/LxmRandom" "a" "J" (.long va)) (F_a1_s : Fld Z h0 a1 "com/example/driftline/driftline/model/LxmRandom" "s" "J" (.long vs)) (F_a1_x0 : Fld Z h0 a1 "com/example/driftline/driftline/model/LxmRandom" "x0" "J" (.long vx)) (F_a1_x1 : Fld Z h0 a1 "com/example/driftline/driftline/model/LxmRandom" "x1" "J" (.long vy)) :
    MetFree l (⟨"com/example/driftline/driftline/model/LxmRandom", "state", "()[J"⟩ : MethodName) (head1 (Jvm.Cond.code (⟨"com/example/driftline/driftline/model/LxmRandom", "state", "()[J"⟩ : MethodName) prog_21_method_4_code 1 (some (.array .long)) :: ws) ({ frames := 0, cells := 1, slots := 4, locals := 0 } : Room)) (fun a U => a = #[(.ref a1)] ∧ Z.Warmed39 U.vm ∧ U.heap = h0) (fun _ _ _ _ _ => True) (fun _ U o U' => ∃ v L, o = .returned v ∧ Q5 Z a1 va vs vx vy h0 n0 v U'.heap L ∧ FrameEnd U o U' L ({ frames := 0, cells := 1, slots := 4, locals := 0 } : Room).cells ({ frames := 0, cells := 1, slots := 4, locals := 0 } : Room).slots) := by
  refine MetFree.of_bodySF (plainFor_of_name pn_5) hisR ?_
  intro p e s m args below meth c s₁ Bd hml0 hP hK
  obtain ⟨rfl, hZ, hh⟩ := hP
  have hx := Bd.exec
  have hby := Bd.bytes
  have hml : c.maxLocals = 1 := hml0
  have hown : s.vm.findClass "com/example/driftline/driftline/model/LxmRandom" = some m.cls := findClass_of_methodNamed Bd.named
  have hnm := (name_of_methodNamed Bd.named Bd.method).1
  have X0 : Stand p l e ({ frames := 0, cells := 1, slots := 4, locals := 0 } : Room) s m #[(.ref a1)] below meth c s₁ [] 0 0 := Stand.of_body Bd
  have e0 : s₁.heap = h0 := by rw [← hh, Bd.state]; rfl
  have N0 := Fr.nil n0
  have K0 : Keep h0 h0 [] := Keep.refl _ _
  have pre0 : ∀ t, Steps p.tables e below (s₁.setTop (mkF m 0 #[.val (.ref a1)] [])) t → Steps p.tables e below (s₁.setTop (entryFrame m #[(.ref a1)] 1)) t := fun t k => castTop (ef_5 m a1) k
  refine own_go (S' := fun t => Steps p.tables e below (s₁.setTop (mkF m 0 #[.val (.ref a1)] [])) t) pre0 ?_
  obtain ⟨T1, h1, k1, X1, e1, E1, A1, st1⟩ := newP X0 hx hZ (hw _ (List.mem_of_getElem? (i := 34) rfl)) e0 (g := (mkF m 1 #[.val (.ref a1)] [(.int (4 : Int32))])) rfl (hb hby d5_1) rfl (by decide) (cap := 4) (by decide) (by decide) (by decide) (by decide)
  obtain ⟨b1, g1⟩ : ∃ z, z = h0.size := ⟨_, rfl⟩
  rw [← g1] at A1 st1
  have g_b1 : n0 ≤ b1 := Nat.le_trans Z0 (Nat.le_of_eq g1.symm)
  have sz_b1 : h0.size ≤ b1 := Nat.le_trans K0.1 (Nat.le_of_eq g1.symm)
  have ne_a1_b1 : a1 ≠ b1 := Nat.ne_of_lt (Nat.lt_of_lt_of_le F_a1_a.lt (Nat.le_of_eq g1.symm))
  have F_a1_a := F_a1_a.ext E1
  have F_a1_s := F_a1_s.ext E1
  have F_a1_x0 := F_a1_x0.ext E1
  have F_a1_x1 := F_a1_x1.ext E1
  have Z0 : n0 ≤ h1.size := Nat.le_trans Z0 E1.1
  have K0 := K0.ext E1
  have V_b1 : Arv Z h1 b1 k1 .long (4 : Int32) [(.long (0 : Int64)), (.long (0 : Int64)), (.long (0 : Int64)), (.long (0 : Int64))] (.long (0 : Int64)) := (Arv.new A1 (by decide)).pad (pad_rep [] (.long (0 : Int64)) 4)
  obtain ⟨T2, X2, e2, st2⟩ := getF X1 hx hZ hown (host := "") (Or.inl (hw _ (List.mem_of_getElem? (i := 15) rfl))) Via.refl e1 F_a1_a (g := (mkF m 6 #[.val (.ref a1)] [(.ref a1), (.int (0 : Int32)), (.ref b1), (.ref b1)])) rfl rfl (hb hby d5_6)
  have V_tmp := V_b1
  obtain ⟨cl3, Ar3, aq3, S3, n3, H3, G3⟩ := V_tmp
  have hin3 : ¬ ((0 : Int32) < 0 ∨ cl3.slots.size ≤ ((0 : Int32)).toNatClampNeg) := inb_of S3 ⟨by decide, by decide⟩
  obtain ⟨T3, h3, X3, e3, W3, st3⟩ := stJ X2 hx hZ e2 Ar3 (j := (0 : Int32)) hin3 (g := (mkF m 9 #[.val (.ref a1)] [(.long va), (.int (0 : Int32)), (.ref b1), (.ref b1)])) rfl rfl (hb hby d5_9)
  have V_b1 : Arv Z h3 b1 k1 .long (4 : Int32) [(.long va), (.long (0 : Int64)), (.long (0 : Int64)), (.long (0 : Int64))] (.long (0 : Int64)) := Arv.set Ar3 aq3 S3 n3 H3 G3 rfl W3 0 rfl (Nat.le_of_ble_eq_true rfl)
  have F_a1_a := F_a1_a.other W3 (Or.inl ne_a1_b1)
  have F_a1_s := F_a1_s.other W3 (Or.inl ne_a1_b1)
  have F_a1_x0 := F_a1_x0.other W3 (Or.inl ne_a1_b1)
  have F_a1_x1 := F_a1_x1.other W3 (Or.inl ne_a1_b1)
  have Z0 : n0 ≤ h3.size := by rw [W3.size]; exact Z0
  have K0 := K0.wr W3 (Or.inr sz_b1)
  have N3 := Fr.snoc X3 N0 g_b1
  obtain ⟨T4, X4, e4, st4⟩ := getF X3 hx hZ hown (host := "") (Or.inl (hw _ (List.mem_of_getElem? (i := 17) rfl))) Via.refl e3 F_a1_s (g := (mkF m 13 #[.val (.ref a1)] [(.ref a1), (.int (1 : Int32)), (.ref b1), (.ref b1)])) rfl rfl (hb hby d5_13)
  have V_tmp := V_b1
  obtain ⟨cl5, Ar5, aq5, S5, n5, H5, G5⟩ := V_tmp
  have hin5 : ¬ ((1 : Int32) < 0 ∨ cl5.slots.size ≤ ((1 : Int32)).toNatClampNeg) := inb_of S5 ⟨by decide, by decide⟩
  obtain ⟨T5, h5, X5, e5, W5, st5⟩ := stJ X4 hx hZ e4 Ar5 (j := (1 : Int32)) hin5 (g := (mkF m 16 #[.val (.ref a1)] [(.long vs), (.int (1 : Int32)), (.ref b1), (.ref b1)])) rfl rfl (hb hby d5_16)
  have V_b1 : Arv Z h5 b1 k1 .long (4 : Int32) [(.long va), (.long vs), (.long (0 : Int64)), (.long (0 : Int64))] (.long (0 : Int64)) := Arv.set Ar5 aq5 S5 n5 H5 G5 rfl W5 1 rfl (Nat.le_of_ble_eq_true rfl)
  have F_a1_a := F_a1_a.other W5 (Or.inl ne_a1_b1)
  have F_a1_s := F_a1_s.other W5 (Or.inl ne_a1_b1)
  have F_a1_x0 := F_a1_x0.other W5 (Or.inl ne_a1_b1)
  have F_a1_x1 := F_a1_x1.other W5 (Or.inl ne_a1_b1)
  have Z0 : n0 ≤ h5.size := by rw [W5.size]; exact Z0
  have K0 := K0.wr W5 (Or.inr sz_b1)
  have N5 := Fr.snoc X5 N3 g_b1
  obtain ⟨T6, X6, e6, st6⟩ := getF X5 hx hZ hown (host := "") (Or.inl (hw _ (List.mem_of_getElem? (i := 24) rfl))) Via.refl e5 F_a1_x0 (g := (mkF m 20 #[.val (.ref a1)] [(.ref a1), (.int (2 : Int32)), (.ref b1), (.ref b1)])) rfl rfl (hb hby d5_20)
  have V_tmp := V_b1
  obtain ⟨cl7, Ar7, aq7, S7, n7, H7, G7⟩ := V_tmp
  have hin7 : ¬ ((2 : Int32) < 0 ∨ cl7.slots.size ≤ ((2 : Int32)).toNatClampNeg) := inb_of S7 ⟨by decide, by decide⟩
  obtain ⟨T7, h7, X7, e7, W7, st7⟩ := stJ X6 hx hZ e6 Ar7 (j := (2 : Int32)) hin7 (g := (mkF m 23 #[.val (.ref a1)] [(.long vx), (.int (2 : Int32)), (.ref b1), (.ref b1)])) rfl rfl (hb hby d5_23)
  have V_b1 : Arv Z h7 b1 k1 .long (4 : Int32) [(.long va), (.long vs), (.long vx), (.long (0 : Int64))] (.long (0 : Int64)) := Arv.set Ar7 aq7 S7 n7 H7 G7 rfl W7 2 rfl (Nat.le_of_ble_eq_true rfl)
  have F_a1_a := F_a1_a.other W7 (Or.inl ne_a1_b1)
  have F_a1_s := F_a1_s.other W7 (Or.inl ne_a1_b1)
  have F_a1_x0 := F_a1_x0.other W7 (Or.inl ne_a1_b1)
  have F_a1_x1 := F_a1_x1.other W7 (Or.inl ne_a1_b1)
  have Z0 : n0 ≤ h7.size := by rw [W7.size]; exact Z0
  have K0 := K0.wr W7 (Or.inr sz_b1)
  have N7 := Fr.snoc X7 N5 g_b1
  obtain ⟨T8, X8, e8, st8⟩ := getF X7 hx hZ hown (host := "") (Or.inl (hw _ (List.mem_of_getElem? (i := 27) rfl))) Via.refl e7 F_a1_x1 (g := (mkF m 27 #[.val (.ref a1)] [(.ref a1), (.int (3 : Int32)), (.ref b1), (.ref b1)])) rfl rfl (hb hby d5_27)
  have V_tmp := V_b1
  obtain ⟨cl9, Ar9, aq9, S9, n9, H9, G9⟩ := V_tmp
  have hin9 : ¬ ((3 : Int32) < 0 ∨ cl9.slots.size ≤ ((3 : Int32)).toNatClampNeg) := inb_of S9 ⟨by decide, by decide⟩
  obtain ⟨T9, h9, X9, e9, W9, st9⟩ := stJ X8 hx hZ e8 Ar9 (j := (3 : Int32)) hin9 (g := (mkF m 30 #[.val (.ref a1)] [(.long vy), (.int (3 : Int32)), (.ref b1), (.ref b1)])) rfl rfl (hb hby d5_30)
  have V_b1 : Arv Z h9 b1 k1 .long (4 : Int32) [(.long va), (.long vs), (.long vx), (.long vy)] (.long (0 : Int64)) := Arv.set Ar9 aq9 S9 n9 H9 G9 rfl W9 3 rfl (Nat.le_of_ble_eq_true rfl)
  have F_a1_a := F_a1_a.other W9 (Or.inl ne_a1_b1)
  have F_a1_s := F_a1_s.other W9 (Or.inl ne_a1_b1)
  have F_a1_x0 := F_a1_x0.other W9 (Or.inl ne_a1_b1)
  have F_a1_x1 := F_a1_x1.other W9 (Or.inl ne_a1_b1)
  have Z0 : n0 ≤ h9.size := by rw [W9.size]; exact Z0
  have K0 := K0.wr W9 (Or.inr sz_b1)
  have N9 := Fr.snoc X9 N7 g_b1
  obtain ⟨fs, hr, hrun, hended, hW, hsame⟩ := X9.leave (v := some (.ref b1)) (fun h => by rw [Bd.returns] at h; cases h)
  refine ⟨_, _, ?_, hrun, hended, _, _, rfl, ?_, ⟨_, rfl⟩, hW, hsame.mono (by decide) (by decide)⟩
  · show Steps p.tables e below (s₁.setTop (mkF m 0 #[.val (.ref a1)] [])) _
    refine XS.iconst X0.here hx rfl (hb hby d5_0) ?_
    show Steps p.tables e below (s₁.setTop (mkF m 1 #[.val (.ref a1)] [(.int (4 : Int32))])) _
    refine st1 _ ?_
    show Steps p.tables e below (T1.setTop (mkF m 3 #[.val (.ref a1)] [(.ref b1)])) _
    refine XS.dup X1.here hx rfl (hb hby d5_3) rfl rfl ?_
    show Steps p.tables e below (T1.setTop (mkF m 4 #[.val (.ref a1)] [(.ref b1), (.ref b1)])) _
    refine XS.iconst X1.here hx rfl (hb hby d5_4) ?_
    show Steps p.tables e below (T1.setTop (mkF m 5 #[.val (.ref a1)] [(.int (0 : Int32)), (.ref b1), (.ref b1)])) _
    refine XS.aloadN X1.here hx rfl (hb hby d5_5) rfl rfl ?_
    show Steps p.tables e below (T1.setTop (mkF m 6 #[.val (.ref a1)] [(.ref a1), (.int (0 : Int32)), (.ref b1), (.ref b1)])) _
    refine st2 _ ?_
    show Steps p.tables e below (T2.setTop (mkF m 9 #[.val (.ref a1)] [(.long va), (.int (0 : Int32)), (.ref b1), (.ref b1)])) _
    refine st3 _ ?_
    show Steps p.tables e below (T3.setTop (mkF m 10 #[.val (.ref a1)] [(.ref b1)])) _
    refine XS.dup X3.here hx rfl (hb hby d5_10) rfl rfl ?_
    show Steps p.tables e below (T3.setTop (mkF m 11 #[.val (.ref a1)] [(.ref b1), (.ref b1)])) _
    refine XS.iconst X3.here hx rfl (hb hby d5_11) ?_
    show Steps p.tables e below (T3.setTop (mkF m 12 #[.val (.ref a1)] [(.int (1 : Int32)), (.ref b1), (.ref b1)])) _
    refine XS.aloadN X3.here hx rfl (hb hby d5_12) rfl rfl ?_
    show Steps p.tables e below (T3.setTop (mkF m 13 #[.val (.ref a1)] [(.ref a1), (.int (1 : Int32)), (.ref b1), (.ref b1)])) _
    refine st4 _ ?_
    show Steps p.tables e below (T4.setTop (mkF m 16 #[.val (.ref a1)] [(.long vs), (.int (1 : Int32)), (.ref b1), (.ref b1)])) _
    refine st5 _ ?_
    show Steps p.tables e below (T5.setTop (mkF m 17 #[.val (.ref a1)] [(.ref b1)])) _
    refine XS.dup X5.here hx rfl (hb hby d5_17) rfl rfl ?_
    show Steps p.tables e below (T5.setTop (mkF m 18 #[.val (.ref a1)] [(.ref b1), (.ref b1)])) _
    refine XS.iconst X5.here hx rfl (hb hby d5_18) ?_
    show Steps p.tables e below (T5.setTop (mkF m 19 #[.val (.ref a1)] [(.int (2 : Int32)), (.ref b1), (.ref b1)])) _
    refine XS.aloadN X5.here hx rfl (hb hby d5_19) rfl rfl ?_
    show Steps p.tables e below (T5.setTop (mkF m 20 #[.val (.ref a1)] [(.ref a1), (.int (2 : Int32)), (.ref b1), (.ref b1)])) _
    refine st6 _ ?_
    show Steps p.tables e below (T6.setTop (mkF m 23 #[.val (.ref a1)] [(.long vx), (.int (2 : Int32)), (.ref b1), (.ref b1)])) _
    refine st7 _ ?_
    show Steps p.tables e below (T7.setTop (mkF m 24 #[.val (.ref a1)] [(.ref b1)])) _
    refine XS.dup X7.here hx rfl (hb hby d5_24) rfl rfl ?_
    show Steps p.tables e below (T7.setTop (mkF m 25 #[.val (.ref a1)] [(.ref b1), (.ref b1)])) _
    refine XS.iconst X7.here hx rfl (hb hby d5_25) ?_
    show Steps p.tables e below (T7.setTop (mkF m 26 #[.val (.ref a1)] [(.int (3 : Int32)), (.ref b1), (.ref b1)])) _
    refine XS.aloadN X7.here hx rfl (hb hby d5_26) rfl rfl ?_
    show Steps p.tables e below (T7.setTop (mkF m 27 #[.val (.ref a1)] [(.ref a1), (.int (3 : Int32)), (.ref b1), (.ref b1)])) _
    refine st8 _ ?_
    show Steps p.tables e below (T8.setTop (mkF m 30 #[.val (.ref a1)] [(.long vy), (.int (3 : Int32)), (.ref b1), (.ref b1)])) _
    refine st9 _ ?_
    show Steps p.tables e below (T9.setTop (mkF m 31 #[.val (.ref a1)] [(.ref b1)])) _
    jvm_step X9.here [X9.here.top, hx, (hb hby d5_31), X9.method', Bd.returns, Value.isRef, FieldType.isReference]
    first | (intro acts; rw [hr _ acts rfl rfl rfl]) | rw [hr _ _ rfl rfl rfl]
    exact Steps.refl _
  · show Q5 Z a1 va vs vx vy h0 n0 _ T9.heap _
    rw [e9]
    exact ⟨_, k1, rfl, trivial, sz_b1, N9, K0, V_b1⟩
theorem pd_1 : parseMethodDescriptor "(JI)J" = some ⟨[.long, .int], some .long⟩ := by decide +kernel
theorem d7_0 : decode prog_21_method_6_code 0 = .ok (.aload_n 0, 1) := by decide +kernel
theorem d7_1 : decode prog_21_method_6_code 1 = .ok (.getfield 19, 3) := by decide +kernel
theorem d7_4 : decode prog_21_method_6_code 4 = .ok (.aload_n 0, 1) := by decide +kernel
theorem d7_5 : decode prog_21_method_6_code 5 = .ok (.getfield 25, 3) := by decide +kernel
theorem d7_8 : decode prog_21_method_6_code 8 = .ok (.ladd, 1) := by decide +kernel
theorem d7_9 : decode prog_21_method_6_code 9 = .ok (.invokestatic 43, 3) := by decide +kernel
theorem d7_12 : decode prog_21_method_6_code 12 = .ok (.lstore_n 1, 1) := by decide +kernel
theorem d7_13 : decode prog_21_method_6_code 13 = .ok (.aload_n 0, 1) := by decide +kernel
theorem d7_14 : decode prog_21_method_6_code 14 = .ok (.ldc2_w 46, 3) := by decide +kernel
theorem d7_17 : decode prog_21_method_6_code 17 = .ok (.aload_n 0, 1) := by decide +kernel
theorem d7_18 : decode prog_21_method_6_code 18 = .ok (.getfield 19, 3) := by decide +kernel
theorem d7_21 : decode prog_21_method_6_code 21 = .ok (.lmul, 1) := by decide +kernel
theorem d7_22 : decode prog_21_method_6_code 22 = .ok (.aload_n 0, 1) := by decide +kernel
theorem d7_23 : decode prog_21_method_6_code 23 = .ok (.getfield 15, 3) := by decide +kernel
theorem d7_26 : decode prog_21_method_6_code 26 = .ok (.ladd, 1) := by decide +kernel
theorem d7_27 : decode prog_21_method_6_code 27 = .ok (.putfield 19, 3) := by decide +kernel
theorem d7_30 : decode prog_21_method_6_code 30 = .ok (.aload_n 0, 1) := by decide +kernel
theorem d7_31 : decode prog_21_method_6_code 31 = .ok (.getfield 30, 3) := by decide +kernel
theorem d7_34 : decode prog_21_method_6_code 34 = .ok (.aload_n 0, 1) := by decide +kernel
theorem d7_35 : decode prog_21_method_6_code 35 = .ok (.getfield 25, 3) := by decide +kernel
theorem d7_38 : decode prog_21_method_6_code 38 = .ok (.lxor, 1) := by decide +kernel
theorem d7_39 : decode prog_21_method_6_code 39 = .ok (.lstore_n 3, 1) := by decide +kernel
theorem d7_40 : decode prog_21_method_6_code 40 = .ok (.aload_n 0, 1) := by decide +kernel
theorem d7_41 : decode prog_21_method_6_code 41 = .ok (.aload_n 0, 1) := by decide +kernel
theorem d7_42 : decode prog_21_method_6_code 42 = .ok (.getfield 25, 3) := by decide +kernel
theorem d7_45 : decode prog_21_method_6_code 45 = .ok (.bipush 24, 2) := by decide +kernel
theorem d7_47 : decode prog_21_method_6_code 47 = .ok (.invokestatic 48, 3) := by decide +kernel
theorem d7_50 : decode prog_21_method_6_code 50 = .ok (.lload_n 3, 1) := by decide +kernel
theorem d7_51 : decode prog_21_method_6_code 51 = .ok (.lxor, 1) := by decide +kernel
theorem d7_52 : decode prog_21_method_6_code 52 = .ok (.lload_n 3, 1) := by decide +kernel
theorem d7_53 : decode prog_21_method_6_code 53 = .ok (.bipush 16, 2) := by decide +kernel
theorem d7_55 : decode prog_21_method_6_code 55 = .ok (.lshl, 1) := by decide +kernel
theorem d7_56 : decode prog_21_method_6_code 56 = .ok (.lxor, 1) := by decide +kernel
theorem d7_57 : decode prog_21_method_6_code 57 = .ok (.putfield 25, 3) := by decide +kernel
theorem d7_60 : decode prog_21_method_6_code 60 = .ok (.aload_n 0, 1) := by decide +kernel
theorem d7_61 : decode prog_21_method_6_code 61 = .ok (.lload_n 3, 1) := by decide +kernel
theorem d7_62 : decode prog_21_method_6_code 62 = .ok (.bipush 37, 2) := by decide +kernel
theorem d7_64 : decode prog_21_method_6_code 64 = .ok (.invokestatic 48, 3) := by decide +kernel
theorem d7_67 : decode prog_21_method_6_code 67 = .ok (.putfield 30, 3) := by decide +kernel
theorem d7_70 : decode prog_21_method_6_code 70 = .ok (.lload_n 1, 1) := by decide +kernel
theorem d7_71 : decode prog_21_method_6_code 71 = .ok (.lreturn, 1) := by decide +kernel
theorem pn_7 : plainName "com/example/driftline/driftline/model/LxmRandom" = true := by first | (simp [plainName, overriddenIn]; done) | decide +kernel
theorem ef_7 (m : MethodId) (x0 : Addr) : entryFrame m #[(.ref x0)] 5 = mkF m 0 #[.val (.ref x0), .unset, .unset, .unset, .unset] [] := by first | (simp [entryFrame, mkF, argsToLocals, Value.category]; done) | rfl
def Q7 (Z : State) (a1 : Addr) (va : Int64) (vs : Int64) (vx : Int64) (vy : Int64) (h0 : Heap) (n0 : Nat) (v : Option Value) (h : Heap) (L : List Loc) : Prop := ∃ r : Int64, v = some (.long r) ∧ (r = own_lea (vs + vx)) ∧ Fr n0 L ∧ Keep h0 h [a1] ∧ Exa Z h a1 "com/example/driftline/driftline/model/LxmRandom" ∧ Fld Z h a1 "com/example/driftline/driftline/model/LxmRandom" "a" "J" (.long va) ∧ Fld Z h a1 "com/example/driftline/driftline/model/LxmRandom" "s" "J" (.long (own_s va vs)) ∧ Fld Z h a1 "com/example/driftline/driftline/model/LxmRandom" "x0" "J" (.long (own_x0 vx vy)) ∧ Fld Z h a1 "com/example/driftline/driftline/model/LxmRandom" "x1" "J" (.long (own_x1 vx vy))
set_option maxRecDepth 65536 in
set_option maxHeartbeats 40000000 in
theorem rm7 (l : Launch) (Z : State) (a0 : Array Value) (hw : ∀ d ∈ tables_1, d.before a0 Z = true) (ws : List Jvm.Cond) (a1 : Addr) (va : Int64) (vs : Int64) (vx : Int64) (vy : Int64) (h0 : Heap) (n0 : Nat) (Z0 : n0 ≤ h0.size) (E_a1 : Exa Z h0 a1 "com/example/driftline/driftline/model/LxmRandom") (g_a1 : n0 ≤ a1) (F_a1_a : Fld Z h0 a1 "com/example/driftline/driftline/model/LxmRandom" "a" "J" (.long va)) (F_a1_s : Fld Z h0 a1 "com/example/driftline/driftline/model/LxmRandom" "s" "J" (.long vs)) (F_a1_x0 : Fld Z h0 a1 "com/example/driftline/driftline/model/LxmRandom" "x0" "J" (.long vx)) (F_a1_x1 : Fld Z h0 a1 "com/example/driftline/driftline/model/LxmRandom" "x1" "J" (.long vy)) :
    MetFree l (⟨"com/example/driftline/driftline/model/LxmRandom", "nextLong", "()J"⟩ : MethodName) (head1 (Jvm.Cond.code (⟨"com/example/driftline/driftline/model/LxmRandom", "nextLong", "()J"⟩ : MethodName) prog_21_method_6_code 5 (some .long) :: ws) ({ frames := 1, cells := 0, slots := 0, locals := 17 } : Room)) (fun a U => a = #[(.ref a1)] ∧ Z.Warmed39 U.vm ∧ U.heap = h0) (fun _ _ _ _ _ => True) (fun _ U o U' => ∃ v L, o = .returned v ∧ Q7 Z a1 va vs vx vy h0 n0 v U'.heap L ∧ FrameEnd U o U' L ({ frames := 1, cells := 0, slots := 0, locals := 17 } : Room).cells ({ frames := 1, cells := 0, slots := 0, locals := 17 } : Room).slots) := by
  refine MetFree.of_bodySF (plainFor_of_name pn_7) hisR ?_
  intro p e s m args below meth c s₁ Bd hml0 hP hK
  obtain ⟨rfl, hZ, hh⟩ := hP
  have hx := Bd.exec
  have hby := Bd.bytes
  have hml : c.maxLocals = 5 := hml0
  have hown : s.vm.findClass "com/example/driftline/driftline/model/LxmRandom" = some m.cls := findClass_of_methodNamed Bd.named
  have hnm := (name_of_methodNamed Bd.named Bd.method).1
  have X0 : Stand p l e ({ frames := 1, cells := 0, slots := 0, locals := 17 } : Room) s m #[(.ref a1)] below meth c s₁ [] 0 0 := Stand.of_body Bd
  have e0 : s₁.heap = h0 := by rw [← hh, Bd.state]; rfl
  have N0 := Fr.nil n0
  have K0 : Keep h0 h0 [a1] := Keep.refl _ _
  have pre0 : ∀ t, Steps p.tables e below (s₁.setTop (mkF m 0 #[.val (.ref a1), .unset, .unset, .unset, .unset] [])) t → Steps p.tables e below (s₁.setTop (entryFrame m #[(.ref a1)] 5)) t := fun t k => castTop (ef_7 m a1) k
  refine own_go (S' := fun t => Steps p.tables e below (s₁.setTop (mkF m 0 #[.val (.ref a1), .unset, .unset, .unset, .unset] [])) t) pre0 ?_
  obtain ⟨T1, X1, e1, st1⟩ := getF X0 hx hZ hown (host := "") (Or.inl (hw _ (List.mem_of_getElem? (i := 17) rfl))) Via.refl e0 F_a1_s (g := (mkF m 1 #[.val (.ref a1), .unset, .unset, .unset, .unset] [(.ref a1)])) rfl rfl (hb hby d7_1)
  obtain ⟨T2, X2, e2, st2⟩ := getF X1 hx hZ hown (host := "") (Or.inl (hw _ (List.mem_of_getElem? (i := 24) rfl))) Via.refl e1 F_a1_x0 (g := (mkF m 5 #[.val (.ref a1), .unset, .unset, .unset, .unset] [(.ref a1), (.long vs)])) rfl rfl (hb hby d7_5)
  obtain ⟨_, _, ⟨T3, L3, k3, n3⟩, -, X3, ⟨Lc3, hQ3, l3, y3, z3⟩, st3⟩ := Jvm.LawKit.callS X2 hx (y := (⟨"com/example/driftline/driftline/model/LxmRandom", "lea", "(J)J"⟩ : MethodName)) hown (mvT hZ (hw _ (List.mem_of_getElem? (i := 45) rfl))) (mvT hZ (hw _ (List.mem_of_getElem? (i := 46) rfl))) (mvT hZ (hw _ (List.mem_of_getElem? (i := 2) rfl))) (mvT hZ (hw _ (List.mem_of_getElem? (i := 47) rfl))) (by decide) (backOf (W := 0) (rm8 l Z a0 hw [] (vs + vx) h0 n0 Z0 ) hZ (hw _ (List.mem_of_getElem? (i := 47) rfl)) (hw _ (List.mem_of_getElem? (i := 2) rfl)) (by decide) (by decide)) (g := (mkF m 9 #[.val (.ref a1), .unset, .unset, .unset, .unset] [(.long (vs + vx))])) rfl (by rw [hml]; rfl) (argsL := [(.long (vs + vx))]) (rest := []) (lenOf pd_0 rfl) rfl (by show 2 * 0 + _ ≤ _; exact Nat.le_of_eq rfl) (hb hby d7_9) (fun _ _ => ⟨rfl, e2, (by decide : 0 + 0 ≤ _), (by decide : 0 + 0 ≤ _)⟩)
  dsimp only [Pt.U, Pt.locs, Pt.cells, Pt.slots] at X3 l3 y3 z3 st3 hQ3
  subst l3 y3 z3
  obtain ⟨r3, rfl, d_r3, N3q, e3⟩ := hQ3
  subst d_r3
  have N3 := Fr.app N0 N3q
  obtain ⟨T4, X4, e4, st4⟩ := getF X3 hx hZ hown (host := "") (Or.inl (hw _ (List.mem_of_getElem? (i := 17) rfl))) Via.refl e3 F_a1_s (g := (mkF m 18 #[.val (.ref a1), .val (.long (own_lea (vs + vx))), .second, .unset, .unset] [(.ref a1), (.long (-3372029247567499371 : Int64)), (.ref a1)])) rfl rfl (hb hby d7_18)
  obtain ⟨T5, X5, e5, st5⟩ := getF X4 hx hZ hown (host := "") (Or.inl (hw _ (List.mem_of_getElem? (i := 15) rfl))) Via.refl e4 F_a1_a (g := (mkF m 23 #[.val (.ref a1), .val (.long (own_lea (vs + vx))), .second, .unset, .unset] [(.ref a1), (.long ((-3372029247567499371 : Int64) * vs)), (.ref a1)])) rfl rfl (hb hby d7_23)
  obtain ⟨T6, h6, X6, e6, W6, st6⟩ := putF X5 hx hZ hown (host := "") (Or.inl (hw _ (List.mem_of_getElem? (i := 17) rfl))) Via.refl e5 F_a1_s E_a1 (Or.inl (hw _ (List.mem_of_getElem? (i := 18) rfl))) (hw _ (List.mem_of_getElem? (i := 1) rfl)) (ty := .long) (by decide) rfl rfl (g := (mkF m 27 #[.val (.ref a1), .val (.long (own_lea (vs + vx))), .second, .unset, .unset] [(.long (((-3372029247567499371 : Int64) * vs) + va)), (.ref a1)])) rfl rfl (hb hby d7_27)
  have F_a1_a := F_a1_a.other W6 (Or.inr (slot_ne (Or.inr (hw _ (List.mem_of_getElem? (i := 16) rfl))) (Or.inl (hw _ (List.mem_of_getElem? (i := 18) rfl))) (by decide) (t := .long) (t' := .long) (by decide) (by decide)))
  have F_a1_s := F_a1_s.same W6
  have F_a1_x0 := F_a1_x0.other W6 (Or.inr (slot_ne (Or.inl (hw _ (List.mem_of_getElem? (i := 25) rfl))) (Or.inl (hw _ (List.mem_of_getElem? (i := 18) rfl))) (by decide) (t := .long) (t' := .long) (by decide) (by decide)))
  have F_a1_x1 := F_a1_x1.other W6 (Or.inr (slot_ne (Or.inl (hw _ (List.mem_of_getElem? (i := 28) rfl))) (Or.inl (hw _ (List.mem_of_getElem? (i := 18) rfl))) (by decide) (t := .long) (t' := .long) (by decide) (by decide)))
  have E_a1 := E_a1.wr W6
  have Z0 : n0 ≤ h6.size := by rw [W6.size]; exact Z0
  have K0 := K0.wr W6 (Or.inl (List.mem_of_getElem? (i := 0) rfl))
  have N6 := Fr.snoc X6 N3 g_a1
  obtain ⟨T7, X7, e7, st7⟩ := getF X6 hx hZ hown (host := "") (Or.inl (hw _ (List.mem_of_getElem? (i := 27) rfl))) Via.refl e6 F_a1_x1 (g := (mkF m 31 #[.val (.ref a1), .val (.long (own_lea (vs + vx))), .second, .unset, .unset] [(.ref a1)])) rfl rfl (hb hby d7_31)
  obtain ⟨T8, X8, e8, st8⟩ := getF X7 hx hZ hown (host := "") (Or.inl (hw _ (List.mem_of_getElem? (i := 24) rfl))) Via.refl e7 F_a1_x0 (g := (mkF m 35 #[.val (.ref a1), .val (.long (own_lea (vs + vx))), .second, .unset, .unset] [(.ref a1), (.long vy)])) rfl rfl (hb hby d7_35)
  obtain ⟨T9, X9, e9, st9⟩ := getF X8 hx hZ hown (host := "") (Or.inl (hw _ (List.mem_of_getElem? (i := 24) rfl))) Via.refl e8 F_a1_x0 (g := (mkF m 42 #[.val (.ref a1), .val (.long (own_lea (vs + vx))), .second, .val (.long (vy ^^^ vx)), .second] [(.ref a1), (.ref a1)])) rfl rfl (hb hby d7_42)
  obtain ⟨_, _, ⟨T10, L10, k10, n10⟩, -, X10, ⟨Lc10, hQ10, l10, y10, z10⟩, st10⟩ := Jvm.LawKit.callS X9 hx (y := (⟨"java/lang/Long", "rotateLeft", "(JI)J"⟩ : MethodName)) hown (mvT hZ (hw _ (List.mem_of_getElem? (i := 50) rfl))) (mvT hZ (hw _ (List.mem_of_getElem? (i := 51) rfl))) (mvT hZ (hw _ (List.mem_of_getElem? (i := 52) rfl))) (mvT hZ (hw _ (List.mem_of_getElem? (i := 53) rfl))) (by decide) (backOf (W := 1) (rm9 l Z a0 hw [] vx (24 : Int32) h6 n0 Z0 ) hZ (hw _ (List.mem_of_getElem? (i := 53) rfl)) (hw _ (List.mem_of_getElem? (i := 52) rfl)) (by decide) (by decide)) (g := (mkF m 47 #[.val (.ref a1), .val (.long (own_lea (vs + vx))), .second, .val (.long (vy ^^^ vx)), .second] [(.int (24 : Int32)), (.long vx), (.ref a1)])) rfl (by rw [hml]; rfl) (argsL := [(.long vx), (.int (24 : Int32))]) (rest := [(.ref a1)]) (lenOf pd_1 rfl) rfl (by show 2 * 0 + _ ≤ _; exact Nat.le_of_eq rfl) (hb hby d7_47) (fun _ _ => ⟨rfl, e9, (by decide : 0 + 0 ≤ _), (by decide : 0 + 0 ≤ _)⟩)
  dsimp only [Pt.U, Pt.locs, Pt.cells, Pt.slots] at X10 l10 y10 z10 st10 hQ10
  subst l10 y10 z10
  obtain ⟨r10, rfl, d_r10, N10q, e10⟩ := hQ10
  subst d_r10
  have N10 := Fr.app N6 N10q
  obtain ⟨T11, h11, X11, e11, W11, st11⟩ := putF X10 hx hZ hown (host := "") (Or.inl (hw _ (List.mem_of_getElem? (i := 24) rfl))) Via.refl e10 F_a1_x0 E_a1 (Or.inl (hw _ (List.mem_of_getElem? (i := 25) rfl))) (hw _ (List.mem_of_getElem? (i := 1) rfl)) (ty := .long) (by decide) rfl rfl (g := (mkF m 57 #[.val (.ref a1), .val (.long (own_lea (vs + vx))), .second, .val (.long (vy ^^^ vx)), .second] [(.long (((own_rot vx (24 : Int32)) ^^^ (vy ^^^ vx)) ^^^ ((vy ^^^ vx) <<< ((16 : Int32) &&& 0x3f).toInt64))), (.ref a1)])) rfl rfl (hb hby d7_57)
  have F_a1_a := F_a1_a.other W11 (Or.inr (slot_ne (Or.inr (hw _ (List.mem_of_getElem? (i := 16) rfl))) (Or.inl (hw _ (List.mem_of_getElem? (i := 25) rfl))) (by decide) (t := .long) (t' := .long) (by decide) (by decide)))
  have F_a1_s := F_a1_s.other W11 (Or.inr (slot_ne (Or.inl (hw _ (List.mem_of_getElem? (i := 18) rfl))) (Or.inl (hw _ (List.mem_of_getElem? (i := 25) rfl))) (by decide) (t := .long) (t' := .long) (by decide) (by decide)))
  have F_a1_x0 := F_a1_x0.same W11
  have F_a1_x1 := F_a1_x1.other W11 (Or.inr (slot_ne (Or.inl (hw _ (List.mem_of_getElem? (i := 28) rfl))) (Or.inl (hw _ (List.mem_of_getElem? (i := 25) rfl))) (by decide) (t := .long) (t' := .long) (by decide) (by decide)))
  have E_a1 := E_a1.wr W11
  have Z0 : n0 ≤ h11.size := by rw [W11.size]; exact Z0
  have K0 := K0.wr W11 (Or.inl (List.mem_of_getElem? (i := 0) rfl))
  have N11 := Fr.snoc X11 N10 g_a1
  obtain ⟨_, _, ⟨T12, L12, k12, n12⟩, -, X12, ⟨Lc12, hQ12, l12, y12, z12⟩, st12⟩ := Jvm.LawKit.callS X11 hx (y := (⟨"java/lang/Long", "rotateLeft", "(JI)J"⟩ : MethodName)) hown (mvT hZ (hw _ (List.mem_of_getElem? (i := 50) rfl))) (mvT hZ (hw _ (List.mem_of_getElem? (i := 51) rfl))) (mvT hZ (hw _ (List.mem_of_getElem? (i := 52) rfl))) (mvT hZ (hw _ (List.mem_of_getElem? (i := 53) rfl))) (by decide) (backOf (W := 1) (rm9 l Z a0 hw [] (vy ^^^ vx) (37 : Int32) h11 n0 Z0 ) hZ (hw _ (List.mem_of_getElem? (i := 53) rfl)) (hw _ (List.mem_of_getElem? (i := 52) rfl)) (by decide) (by decide)) (g := (mkF m 64 #[.val (.ref a1), .val (.long (own_lea (vs + vx))), .second, .val (.long (vy ^^^ vx)), .second] [(.int (37 : Int32)), (.long (vy ^^^ vx)), (.ref a1)])) rfl (by rw [hml]; rfl) (argsL := [(.long (vy ^^^ vx)), (.int (37 : Int32))]) (rest := [(.ref a1)]) (lenOf pd_1 rfl) rfl (by show 2 * 0 + _ ≤ _; exact Nat.le_of_eq rfl) (hb hby d7_64) (fun _ _ => ⟨rfl, e11, (by decide : 0 + 0 ≤ _), (by decide : 0 + 0 ≤ _)⟩)
  dsimp only [Pt.U, Pt.locs, Pt.cells, Pt.slots] at X12 l12 y12 z12 st12 hQ12
  subst l12 y12 z12
  obtain ⟨r12, rfl, d_r12, N12q, e12⟩ := hQ12
  subst d_r12
  have N12 := Fr.app N11 N12q
  obtain ⟨T13, h13, X13, e13, W13, st13⟩ := putF X12 hx hZ hown (host := "") (Or.inl (hw _ (List.mem_of_getElem? (i := 27) rfl))) Via.refl e12 F_a1_x1 E_a1 (Or.inl (hw _ (List.mem_of_getElem? (i := 28) rfl))) (hw _ (List.mem_of_getElem? (i := 1) rfl)) (ty := .long) (by decide) rfl rfl (g := (mkF m 67 #[.val (.ref a1), .val (.long (own_lea (vs + vx))), .second, .val (.long (vy ^^^ vx)), .second] [(.long (own_rot (vy ^^^ vx) (37 : Int32))), (.ref a1)])) rfl rfl (hb hby d7_67)
  have F_a1_a := F_a1_a.other W13 (Or.inr (slot_ne (Or.inr (hw _ (List.mem_of_getElem? (i := 16) rfl))) (Or.inl (hw _ (List.mem_of_getElem? (i := 28) rfl))) (by decide) (t := .long) (t' := .long) (by decide) (by decide)))
  have F_a1_s := F_a1_s.other W13 (Or.inr (slot_ne (Or.inl (hw _ (List.mem_of_getElem? (i := 18) rfl))) (Or.inl (hw _ (List.mem_of_getElem? (i := 28) rfl))) (by decide) (t := .long) (t' := .long) (by decide) (by decide)))
  have F_a1_x0 := F_a1_x0.other W13 (Or.inr (slot_ne (Or.inl (hw _ (List.mem_of_getElem? (i := 25) rfl))) (Or.inl (hw _ (List.mem_of_getElem? (i := 28) rfl))) (by decide) (t := .long) (t' := .long) (by decide) (by decide)))
  have F_a1_x1 := F_a1_x1.same W13
  have E_a1 := E_a1.wr W13
  have Z0 : n0 ≤ h13.size := by rw [W13.size]; exact Z0
  have K0 := K0.wr W13 (Or.inl (List.mem_of_getElem? (i := 0) rfl))
  have N13 := Fr.snoc X13 N12 g_a1
  obtain ⟨fs, hr, hrun, hended, hW, hsame⟩ := X13.leave (v := some (.long (own_lea (vs + vx)))) (fun h => by rw [Bd.returns] at h; cases h)
  refine ⟨_, _, ?_, hrun, hended, _, _, rfl, ?_, ⟨_, rfl⟩, hW, hsame.mono (by decide) (by decide)⟩
  · show Steps p.tables e below (s₁.setTop (mkF m 0 #[.val (.ref a1), .unset, .unset, .unset, .unset] [])) _
    refine XS.aloadN X0.here hx rfl (hb hby d7_0) rfl rfl ?_
    show Steps p.tables e below (s₁.setTop (mkF m 1 #[.val (.ref a1), .unset, .unset, .unset, .unset] [(.ref a1)])) _
    refine st1 _ ?_
    show Steps p.tables e below (T1.setTop (mkF m 4 #[.val (.ref a1), .unset, .unset, .unset, .unset] [(.long vs)])) _
    refine XS.aloadN X1.here hx rfl (hb hby d7_4) rfl rfl ?_
    show Steps p.tables e below (T1.setTop (mkF m 5 #[.val (.ref a1), .unset, .unset, .unset, .unset] [(.ref a1), (.long vs)])) _
    refine st2 _ ?_
    show Steps p.tables e below (T2.setTop (mkF m 8 #[.val (.ref a1), .unset, .unset, .unset, .unset] [(.long vx), (.long vs)])) _
    refine XS.ladd X2.here hx rfl (hb hby d7_8) rfl ?_
    show Steps p.tables e below (T2.setTop (mkF m 9 #[.val (.ref a1), .unset, .unset, .unset, .unset] [(.long (vs + vx))])) _
    refine st3 _ ?_
    show Steps p.tables e below (T3.setTop (mkF m 12 #[.val (.ref a1), .unset, .unset, .unset, .unset] [(.long (own_lea (vs + vx)))])) _
    refine XS.lstoreN X3.here hx rfl (hb hby d7_12) rfl (l' := #[.val (.ref a1), .val (.long (own_lea (vs + vx))), .second, .unset, .unset]) rfl ?_
    show Steps p.tables e below (T3.setTop (mkF m 13 #[.val (.ref a1), .val (.long (own_lea (vs + vx))), .second, .unset, .unset] [])) _
    refine XS.aloadN X3.here hx rfl (hb hby d7_13) rfl rfl ?_
    show Steps p.tables e below (T3.setTop (mkF m 14 #[.val (.ref a1), .val (.long (own_lea (vs + vx))), .second, .unset, .unset] [(.ref a1)])) _
    refine X3.ldc2Long hx hown (mvT hZ (hw _ (List.mem_of_getElem? (i := 49) rfl))) (g := (mkF m 14 #[.val (.ref a1), .val (.long (own_lea (vs + vx))), .second, .unset, .unset] [(.ref a1)])) rfl (hb hby d7_14) _ ?_
    show Steps p.tables e below (T3.setTop (mkF m 17 #[.val (.ref a1), .val (.long (own_lea (vs + vx))), .second, .unset, .unset] [(.long (-3372029247567499371 : Int64)), (.ref a1)])) _
    refine XS.aloadN X3.here hx rfl (hb hby d7_17) rfl rfl ?_
    show Steps p.tables e below (T3.setTop (mkF m 18 #[.val (.ref a1), .val (.long (own_lea (vs + vx))), .second, .unset, .unset] [(.ref a1), (.long (-3372029247567499371 : Int64)), (.ref a1)])) _
    refine st4 _ ?_
    show Steps p.tables e below (T4.setTop (mkF m 21 #[.val (.ref a1), .val (.long (own_lea (vs + vx))), .second, .unset, .unset] [(.long vs), (.long (-3372029247567499371 : Int64)), (.ref a1)])) _
    refine XS.lmul X4.here hx rfl (hb hby d7_21) rfl ?_
    show Steps p.tables e below (T4.setTop (mkF m 22 #[.val (.ref a1), .val (.long (own_lea (vs + vx))), .second, .unset, .unset] [(.long ((-3372029247567499371 : Int64) * vs)), (.ref a1)])) _
    refine XS.aloadN X4.here hx rfl (hb hby d7_22) rfl rfl ?_
    show Steps p.tables e below (T4.setTop (mkF m 23 #[.val (.ref a1), .val (.long (own_lea (vs + vx))), .second, .unset, .unset] [(.ref a1), (.long ((-3372029247567499371 : Int64) * vs)), (.ref a1)])) _
    refine st5 _ ?_
    show Steps p.tables e below (T5.setTop (mkF m 26 #[.val (.ref a1), .val (.long (own_lea (vs + vx))), .second, .unset, .unset] [(.long va), (.long ((-3372029247567499371 : Int64) * vs)), (.ref a1)])) _
    refine XS.ladd X5.here hx rfl (hb hby d7_26) rfl ?_
    show Steps p.tables e below (T5.setTop (mkF m 27 #[.val (.ref a1), .val (.long (own_lea (vs + vx))), .second, .unset, .unset] [(.long (((-3372029247567499371 : Int64) * vs) + va)), (.ref a1)])) _
    refine st6 _ ?_
    show Steps p.tables e below (T6.setTop (mkF m 30 #[.val (.ref a1), .val (.long (own_lea (vs + vx))), .second, .unset, .unset] [])) _
    refine XS.aloadN X6.here hx rfl (hb hby d7_30) rfl rfl ?_
    show Steps p.tables e below (T6.setTop (mkF m 31 #[.val (.ref a1), .val (.long (own_lea (vs + vx))), .second, .unset, .unset] [(.ref a1)])) _
    refine st7 _ ?_
    show Steps p.tables e below (T7.setTop (mkF m 34 #[.val (.ref a1), .val (.long (own_lea (vs + vx))), .second, .unset, .unset] [(.long vy)])) _
    refine XS.aloadN X7.here hx rfl (hb hby d7_34) rfl rfl ?_
    show Steps p.tables e below (T7.setTop (mkF m 35 #[.val (.ref a1), .val (.long (own_lea (vs + vx))), .second, .unset, .unset] [(.ref a1), (.long vy)])) _
    refine st8 _ ?_
    show Steps p.tables e below (T8.setTop (mkF m 38 #[.val (.ref a1), .val (.long (own_lea (vs + vx))), .second, .unset, .unset] [(.long vx), (.long vy)])) _
    refine XS.lxor X8.here hx rfl (hb hby d7_38) rfl ?_
    show Steps p.tables e below (T8.setTop (mkF m 39 #[.val (.ref a1), .val (.long (own_lea (vs + vx))), .second, .unset, .unset] [(.long (vy ^^^ vx))])) _
    refine XS.lstoreN X8.here hx rfl (hb hby d7_39) rfl (l' := #[.val (.ref a1), .val (.long (own_lea (vs + vx))), .second, .val (.long (vy ^^^ vx)), .second]) rfl ?_
    show Steps p.tables e below (T8.setTop (mkF m 40 #[.val (.ref a1), .val (.long (own_lea (vs + vx))), .second, .val (.long (vy ^^^ vx)), .second] [])) _
    refine XS.aloadN X8.here hx rfl (hb hby d7_40) rfl rfl ?_
    show Steps p.tables e below (T8.setTop (mkF m 41 #[.val (.ref a1), .val (.long (own_lea (vs + vx))), .second, .val (.long (vy ^^^ vx)), .second] [(.ref a1)])) _
    refine XS.aloadN X8.here hx rfl (hb hby d7_41) rfl rfl ?_
    show Steps p.tables e below (T8.setTop (mkF m 42 #[.val (.ref a1), .val (.long (own_lea (vs + vx))), .second, .val (.long (vy ^^^ vx)), .second] [(.ref a1), (.ref a1)])) _
    refine st9 _ ?_
    show Steps p.tables e below (T9.setTop (mkF m 45 #[.val (.ref a1), .val (.long (own_lea (vs + vx))), .second, .val (.long (vy ^^^ vx)), .second] [(.long vx), (.ref a1)])) _
    refine XS.bipush X9.here hx rfl (hb hby d7_45) ?_
    show Steps p.tables e below (T9.setTop (mkF m 47 #[.val (.ref a1), .val (.long (own_lea (vs + vx))), .second, .val (.long (vy ^^^ vx)), .second] [(.int (24 : Int32)), (.long vx), (.ref a1)])) _
    refine st10 _ ?_
    show Steps p.tables e below (T10.setTop (mkF m 50 #[.val (.ref a1), .val (.long (own_lea (vs + vx))), .second, .val (.long (vy ^^^ vx)), .second] [(.long (own_rot vx (24 : Int32))), (.ref a1)])) _
    refine XS.lloadN X10.here hx rfl (hb hby d7_50) rfl ?_
    show Steps p.tables e below (T10.setTop (mkF m 51 #[.val (.ref a1), .val (.long (own_lea (vs + vx))), .second, .val (.long (vy ^^^ vx)), .second] [(.long (vy ^^^ vx)), (.long (own_rot vx (24 : Int32))), (.ref a1)])) _
    refine XS.lxor X10.here hx rfl (hb hby d7_51) rfl ?_
    show Steps p.tables e below (T10.setTop (mkF m 52 #[.val (.ref a1), .val (.long (own_lea (vs + vx))), .second, .val (.long (vy ^^^ vx)), .second] [(.long ((own_rot vx (24 : Int32)) ^^^ (vy ^^^ vx))), (.ref a1)])) _
    refine XS.lloadN X10.here hx rfl (hb hby d7_52) rfl ?_
    show Steps p.tables e below (T10.setTop (mkF m 53 #[.val (.ref a1), .val (.long (own_lea (vs + vx))), .second, .val (.long (vy ^^^ vx)), .second] [(.long (vy ^^^ vx)), (.long ((own_rot vx (24 : Int32)) ^^^ (vy ^^^ vx))), (.ref a1)])) _
    refine XS.bipush X10.here hx rfl (hb hby d7_53) ?_
    show Steps p.tables e below (T10.setTop (mkF m 55 #[.val (.ref a1), .val (.long (own_lea (vs + vx))), .second, .val (.long (vy ^^^ vx)), .second] [(.int (16 : Int32)), (.long (vy ^^^ vx)), (.long ((own_rot vx (24 : Int32)) ^^^ (vy ^^^ vx))), (.ref a1)])) _
    refine XS.lshl X10.here hx rfl (hb hby d7_55) rfl ?_
    show Steps p.tables e below (T10.setTop (mkF m 56 #[.val (.ref a1), .val (.long (own_lea (vs + vx))), .second, .val (.long (vy ^^^ vx)), .second] [(.long ((vy ^^^ vx) <<< ((16 : Int32) &&& 0x3f).toInt64)), (.long ((own_rot vx (24 : Int32)) ^^^ (vy ^^^ vx))), (.ref a1)])) _
    refine XS.lxor X10.here hx rfl (hb hby d7_56) rfl ?_
    show Steps p.tables e below (T10.setTop (mkF m 57 #[.val (.ref a1), .val (.long (own_lea (vs + vx))), .second, .val (.long (vy ^^^ vx)), .second] [(.long (((own_rot vx (24 : Int32)) ^^^ (vy ^^^ vx)) ^^^ ((vy ^^^ vx) <<< ((16 : Int32) &&& 0x3f).toInt64))), (.ref a1)])) _
    refine st11 _ ?_
    show Steps p.tables e below (T11.setTop (mkF m 60 #[.val (.ref a1), .val (.long (own_lea (vs + vx))), .second, .val (.long (vy ^^^ vx)), .second] [])) _
    refine XS.aloadN X11.here hx rfl (hb hby d7_60) rfl rfl ?_
    show Steps p.tables e below (T11.setTop (mkF m 61 #[.val (.ref a1), .val (.long (own_lea (vs + vx))), .second, .val (.long (vy ^^^ vx)), .second] [(.ref a1)])) _
    refine XS.lloadN X11.here hx rfl (hb hby d7_61) rfl ?_
    show Steps p.tables e below (T11.setTop (mkF m 62 #[.val (.ref a1), .val (.long (own_lea (vs + vx))), .second, .val (.long (vy ^^^ vx)), .second] [(.long (vy ^^^ vx)), (.ref a1)])) _
    refine XS.bipush X11.here hx rfl (hb hby d7_62) ?_
    show Steps p.tables e below (T11.setTop (mkF m 64 #[.val (.ref a1), .val (.long (own_lea (vs + vx))), .second, .val (.long (vy ^^^ vx)), .second] [(.int (37 : Int32)), (.long (vy ^^^ vx)), (.ref a1)])) _
    refine st12 _ ?_
    show Steps p.tables e below (T12.setTop (mkF m 67 #[.val (.ref a1), .val (.long (own_lea (vs + vx))), .second, .val (.long (vy ^^^ vx)), .second] [(.long (own_rot (vy ^^^ vx) (37 : Int32))), (.ref a1)])) _
    refine st13 _ ?_
    show Steps p.tables e below (T13.setTop (mkF m 70 #[.val (.ref a1), .val (.long (own_lea (vs + vx))), .second, .val (.long (vy ^^^ vx)), .second] [])) _
    refine XS.lloadN X13.here hx rfl (hb hby d7_70) rfl ?_
    show Steps p.tables e below (T13.setTop (mkF m 71 #[.val (.ref a1), .val (.long (own_lea (vs + vx))), .second, .val (.long (vy ^^^ vx)), .second] [(.long (own_lea (vs + vx)))])) _
    exact X13.lreturnOut hx Bd.returns (hb hby d7_71) hr
  · show Q7 Z a1 va vs vx vy h0 n0 _ T13.heap _
    rw [e13]
    exact ⟨_, rfl, rfl, N13, K0, E_a1, F_a1_a, F_a1_s, F_a1_x0, F_a1_x1⟩
theorem d6_0 : decode prog_21_method_5_code 0 = .ok (.aload_n 0, 1) := by decide +kernel
theorem d6_1 : decode prog_21_method_5_code 1 = .ok (.getfield 19, 3) := by decide +kernel
theorem d6_4 : decode prog_21_method_5_code 4 = .ok (.aload_n 1, 1) := by decide +kernel
theorem d6_5 : decode prog_21_method_5_code 5 = .ok (.iconst 1, 1) := by decide +kernel
theorem d6_6 : decode prog_21_method_5_code 6 = .ok (.laload, 1) := by decide +kernel
theorem d6_7 : decode prog_21_method_5_code 7 = .ok (.lcmp, 1) := by decide +kernel
theorem d6_8 : decode prog_21_method_5_code 8 = .ok (.ifCond .ne 40, 3) := by decide +kernel
theorem d6_11 : decode prog_21_method_5_code 11 = .ok (.aload_n 0, 1) := by decide +kernel
theorem d6_12 : decode prog_21_method_5_code 12 = .ok (.getfield 25, 3) := by decide +kernel
theorem d6_15 : decode prog_21_method_5_code 15 = .ok (.aload_n 1, 1) := by decide +kernel
theorem d6_16 : decode prog_21_method_5_code 16 = .ok (.iconst 2, 1) := by decide +kernel
theorem d6_17 : decode prog_21_method_5_code 17 = .ok (.laload, 1) := by decide +kernel
theorem d6_18 : decode prog_21_method_5_code 18 = .ok (.lcmp, 1) := by decide +kernel
theorem d6_19 : decode prog_21_method_5_code 19 = .ok (.ifCond .ne 29, 3) := by decide +kernel
theorem d6_22 : decode prog_21_method_5_code 22 = .ok (.aload_n 0, 1) := by decide +kernel
theorem d6_23 : decode prog_21_method_5_code 23 = .ok (.getfield 30, 3) := by decide +kernel
theorem d6_26 : decode prog_21_method_5_code 26 = .ok (.aload_n 1, 1) := by decide +kernel
theorem d6_27 : decode prog_21_method_5_code 27 = .ok (.iconst 3, 1) := by decide +kernel
theorem d6_28 : decode prog_21_method_5_code 28 = .ok (.laload, 1) := by decide +kernel
theorem d6_29 : decode prog_21_method_5_code 29 = .ok (.lcmp, 1) := by decide +kernel
theorem d6_30 : decode prog_21_method_5_code 30 = .ok (.ifCond .ne 18, 3) := by decide +kernel
theorem d6_33 : decode prog_21_method_5_code 33 = .ok (.aload_n 0, 1) := by decide +kernel
theorem d6_34 : decode prog_21_method_5_code 34 = .ok (.getfield 15, 3) := by decide +kernel
theorem d6_37 : decode prog_21_method_5_code 37 = .ok (.aload_n 1, 1) := by decide +kernel
theorem d6_38 : decode prog_21_method_5_code 38 = .ok (.iconst 0, 1) := by decide +kernel
theorem d6_39 : decode prog_21_method_5_code 39 = .ok (.laload, 1) := by decide +kernel
theorem d6_40 : decode prog_21_method_5_code 40 = .ok (.lcmp, 1) := by decide +kernel
theorem d6_41 : decode prog_21_method_5_code 41 = .ok (.ifCond .ne 7, 3) := by decide +kernel
theorem d6_44 : decode prog_21_method_5_code 44 = .ok (.iconst 1, 1) := by decide +kernel
theorem d6_45 : decode prog_21_method_5_code 45 = .ok (.goto 4, 3) := by decide +kernel
theorem d6_48 : decode prog_21_method_5_code 48 = .ok (.iconst 0, 1) := by decide +kernel
theorem d6_49 : decode prog_21_method_5_code 49 = .ok (.ireturn, 1) := by decide +kernel
theorem pn_6 : plainName "com/example/driftline/driftline/model/LxmRandom" = true := by first | (simp [plainName, overriddenIn]; done) | decide +kernel
theorem ef_6 (m : MethodId) (x0 : Addr) (x1 : Addr) : entryFrame m #[(.ref x0), (.ref x1)] 2 = mkF m 0 #[.val (.ref x0), .val (.ref x1)] [] := by first | (simp [entryFrame, mkF, argsToLocals, Value.category]; done) | rfl
def Q6 (Z : State) (a1 : Addr) (a2 : Addr) (va : Int64) (vs : Int64) (vx : Int64) (vy : Int64) (gg : Int32 → Int64) (h0 : Heap) (n0 : Nat) (v : Option Value) (h : Heap) (L : List Loc) : Prop := ∃ r : Int32, v = some (.int r) ∧ (r = (if (vs = (gg (1 : Int32)) ∧ vx = (gg (2 : Int32)) ∧ vy = (gg (3 : Int32)) ∧ va = (gg (0 : Int32))) then (1 : Int32) else (0 : Int32))) ∧ Fr n0 L ∧ h = h0
set_option maxRecDepth 65536 in
set_option maxHeartbeats 40000000 in
theorem rm6 (l : Launch) (Z : State) (a0 : Array Value) (hw : ∀ d ∈ tables_1, d.before a0 Z = true) (ws : List Jvm.Cond) (a1 : Addr) (a2 : Addr) (va : Int64) (vs : Int64) (vx : Int64) (vy : Int64) (gg : Int32 → Int64) (h0 : Heap) (n0 : Nat) (Z0 : n0 ≤ h0.size) (F_a1_a : Fld Z h0 a1 "com/example/driftline/driftline/model/LxmRandom" "a" "J" (.long va)) (F_a1_s : Fld Z h0 a1 "com/example/driftline/driftline/model/LxmRandom" "s" "J" (.long vs)) (F_a1_x0 : Fld Z h0 a1 "com/example/driftline/driftline/model/LxmRandom" "x0" "J" (.long vx)) (F_a1_x1 : Fld Z h0 a1 "com/example/driftline/driftline/model/LxmRandom" "x1" "J" (.long vy)) (V_a2 : own_Arf Z h0 a2 .long (4 : Int32) (fun i => .long (gg i))) :
    MetFree l (⟨"com/example/driftline/driftline/model/LxmRandom", "inState", "([J)Z"⟩ : MethodName) (head1 (Jvm.Cond.code (⟨"com/example/driftline/driftline/model/LxmRandom", "inState", "([J)Z"⟩ : MethodName) prog_21_method_5_code 2 (some .boolean) :: ws) ({ frames := 0, cells := 0, slots := 0, locals := 0 } : Room)) (fun a U => a = #[(.ref a1), (.ref a2)] ∧ Z.Warmed39 U.vm ∧ U.heap = h0) (fun _ _ _ _ _ => True) (fun _ U o U' => ∃ v L, o = .returned v ∧ Q6 Z a1 a2 va vs vx vy gg h0 n0 v U'.heap L ∧ FrameEnd U o U' L ({ frames := 0, cells := 0, slots := 0, locals := 0 } : Room).cells ({ frames := 0, cells := 0, slots := 0, locals := 0 } : Room).slots) := by
  refine MetFree.of_bodySF (plainFor_of_name pn_6) hisR ?_
  intro p e s m args below meth c s₁ Bd hml0 hP hK
  obtain ⟨rfl, hZ, hh⟩ := hP
  have hx := Bd.exec
  have hby := Bd.bytes
  have hml : c.maxLocals = 2 := hml0
  have hown : s.vm.findClass "com/example/driftline/driftline/model/LxmRandom" = some m.cls := findClass_of_methodNamed Bd.named
  have hnm := (name_of_methodNamed Bd.named Bd.method).1
  have X0 : Stand p l e ({ frames := 0, cells := 0, slots := 0, locals := 0 } : Room) s m #[(.ref a1), (.ref a2)] below meth c s₁ [] 0 0 := Stand.of_body Bd
  have e0 : s₁.heap = h0 := by rw [← hh, Bd.state]; rfl
  have N0 := Fr.nil n0
  have K0 : Keep h0 h0 [] := Keep.refl _ _
  have pre0 : ∀ t, Steps p.tables e below (s₁.setTop (mkF m 0 #[.val (.ref a1), .val (.ref a2)] [])) t → Steps p.tables e below (s₁.setTop (entryFrame m #[(.ref a1), (.ref a2)] 2)) t := fun t k => castTop (ef_6 m a1 a2) k
  refine own_go (S' := fun t => Steps p.tables e below (s₁.setTop (mkF m 0 #[.val (.ref a1), .val (.ref a2)] [])) t) pre0 ?_
  obtain ⟨T1, X1, e1, st1⟩ := getF X0 hx hZ hown (host := "") (Or.inl (hw _ (List.mem_of_getElem? (i := 17) rfl))) Via.refl e0 F_a1_s (g := (mkF m 1 #[.val (.ref a1), .val (.ref a2)] [(.ref a1)])) rfl rfl (hb hby d6_1)
  have V_tmp := V_a2
  obtain ⟨cl2, Ar2, S2, n2, H2⟩ := V_tmp
  have hin2 : ¬ ((1 : Int32) < 0 ∨ cl2.slots.size ≤ ((1 : Int32)).toNatClampNeg) := inb_of S2 ⟨by decide, by decide⟩
  have hat2 : cl2.slots[((1 : Int32)).toNatClampNeg]? = some (.long (gg (1 : Int32))) := H2 _ hin2
  refine own_go (S' := fun t => Steps p.tables e below (T1.setTop (mkF m 8 #[.val (.ref a1), .val (.ref a2)] [(.int (lcmpW vs (gg (1 : Int32))))])) t) (fun t k => ?_) ?_
  · show Steps p.tables e below (s₁.setTop (mkF m 0 #[.val (.ref a1), .val (.ref a2)] [])) _
    refine XS.aloadN X0.here hx rfl (hb hby d6_0) rfl rfl ?_
    show Steps p.tables e below (s₁.setTop (mkF m 1 #[.val (.ref a1), .val (.ref a2)] [(.ref a1)])) _
    refine st1 _ ?_
    show Steps p.tables e below (T1.setTop (mkF m 4 #[.val (.ref a1), .val (.ref a2)] [(.long vs)])) _
    refine XS.aloadN X1.here hx rfl (hb hby d6_4) rfl rfl ?_
    show Steps p.tables e below (T1.setTop (mkF m 5 #[.val (.ref a1), .val (.ref a2)] [(.ref a2), (.long vs)])) _
    refine XS.iconst X1.here hx rfl (hb hby d6_5) ?_
    show Steps p.tables e below (T1.setTop (mkF m 6 #[.val (.ref a1), .val (.ref a2)] [(.int (1 : Int32)), (.ref a2), (.long vs)])) _
    refine X1.laload hx (j := (1 : Int32)) (v := (.long (gg (1 : Int32)))) (by rw [e1]; exact Ar2.1) (State.isArrayOf_alike hZ.alike Ar2.2.1) Ar2.2.2 hin2 hat2 (g := (mkF m 6 #[.val (.ref a1), .val (.ref a2)] [(.int (1 : Int32)), (.ref a2), (.long vs)])) rfl rfl (hb hby d6_6) _ ?_
    show Steps p.tables e below (T1.setTop (mkF m 7 #[.val (.ref a1), .val (.ref a2)] [(.long (gg (1 : Int32))), (.long vs)])) _
    refine XS.lcmp X1.here hx rfl (hb hby d6_7) rfl ?_
    exact k
  by_cases hc8 : vs = (gg (1 : Int32))
  · obtain ⟨T3, X3, e3, st3⟩ := getF X1 hx hZ hown (host := "") (Or.inl (hw _ (List.mem_of_getElem? (i := 24) rfl))) Via.refl e1 F_a1_x0 (g := (mkF m 12 #[.val (.ref a1), .val (.ref a2)] [(.ref a1)])) rfl rfl (hb hby d6_12)
    have V_tmp := V_a2
    obtain ⟨cl4, Ar4, S4, n4, H4⟩ := V_tmp
    have hin4 : ¬ ((2 : Int32) < 0 ∨ cl4.slots.size ≤ ((2 : Int32)).toNatClampNeg) := inb_of S4 ⟨by decide, by decide⟩
    have hat4 : cl4.slots[((2 : Int32)).toNatClampNeg]? = some (.long (gg (2 : Int32))) := H4 _ hin4
    refine own_go (S' := fun t => Steps p.tables e below (T3.setTop (mkF m 19 #[.val (.ref a1), .val (.ref a2)] [(.int (lcmpW vx (gg (2 : Int32))))])) t) (fun t k => ?_) ?_
    · show Steps p.tables e below (T1.setTop (mkF m 8 #[.val (.ref a1), .val (.ref a2)] [(.int (lcmpW vs (gg (1 : Int32))))])) _
      refine XS.ifNo X1.here hx rfl (hb hby d6_8) rfl ((if0 _ _).trans (teq ((lw_eq _ _).mpr hc8)).2) ?_
      show Steps p.tables e below (T1.setTop (mkF m 11 #[.val (.ref a1), .val (.ref a2)] [])) _
      refine XS.aloadN X1.here hx rfl (hb hby d6_11) rfl rfl ?_
      show Steps p.tables e below (T1.setTop (mkF m 12 #[.val (.ref a1), .val (.ref a2)] [(.ref a1)])) _
      refine st3 _ ?_
      show Steps p.tables e below (T3.setTop (mkF m 15 #[.val (.ref a1), .val (.ref a2)] [(.long vx)])) _
      refine XS.aloadN X3.here hx rfl (hb hby d6_15) rfl rfl ?_
      show Steps p.tables e below (T3.setTop (mkF m 16 #[.val (.ref a1), .val (.ref a2)] [(.ref a2), (.long vx)])) _
      refine XS.iconst X3.here hx rfl (hb hby d6_16) ?_
      show Steps p.tables e below (T3.setTop (mkF m 17 #[.val (.ref a1), .val (.ref a2)] [(.int (2 : Int32)), (.ref a2), (.long vx)])) _
      refine X3.laload hx (j := (2 : Int32)) (v := (.long (gg (2 : Int32)))) (by rw [e3]; exact Ar4.1) (State.isArrayOf_alike hZ.alike Ar4.2.1) Ar4.2.2 hin4 hat4 (g := (mkF m 17 #[.val (.ref a1), .val (.ref a2)] [(.int (2 : Int32)), (.ref a2), (.long vx)])) rfl rfl (hb hby d6_17) _ ?_
      show Steps p.tables e below (T3.setTop (mkF m 18 #[.val (.ref a1), .val (.ref a2)] [(.long (gg (2 : Int32))), (.long vx)])) _
      refine XS.lcmp X3.here hx rfl (hb hby d6_18) rfl ?_
      exact k
    by_cases hc19 : vx = (gg (2 : Int32))
    · obtain ⟨T5, X5, e5, st5⟩ := getF X3 hx hZ hown (host := "") (Or.inl (hw _ (List.mem_of_getElem? (i := 27) rfl))) Via.refl e3 F_a1_x1 (g := (mkF m 23 #[.val (.ref a1), .val (.ref a2)] [(.ref a1)])) rfl rfl (hb hby d6_23)
      have V_tmp := V_a2
      obtain ⟨cl6, Ar6, S6, n6, H6⟩ := V_tmp
      have hin6 : ¬ ((3 : Int32) < 0 ∨ cl6.slots.size ≤ ((3 : Int32)).toNatClampNeg) := inb_of S6 ⟨by decide, by decide⟩
      have hat6 : cl6.slots[((3 : Int32)).toNatClampNeg]? = some (.long (gg (3 : Int32))) := H6 _ hin6
      refine own_go (S' := fun t => Steps p.tables e below (T5.setTop (mkF m 30 #[.val (.ref a1), .val (.ref a2)] [(.int (lcmpW vy (gg (3 : Int32))))])) t) (fun t k => ?_) ?_
      · show Steps p.tables e below (T3.setTop (mkF m 19 #[.val (.ref a1), .val (.ref a2)] [(.int (lcmpW vx (gg (2 : Int32))))])) _
        refine XS.ifNo X3.here hx rfl (hb hby d6_19) rfl ((if0 _ _).trans (teq ((lw_eq _ _).mpr hc19)).2) ?_
        show Steps p.tables e below (T3.setTop (mkF m 22 #[.val (.ref a1), .val (.ref a2)] [])) _
        refine XS.aloadN X3.here hx rfl (hb hby d6_22) rfl rfl ?_
        show Steps p.tables e below (T3.setTop (mkF m 23 #[.val (.ref a1), .val (.ref a2)] [(.ref a1)])) _
        refine st5 _ ?_
        show Steps p.tables e below (T5.setTop (mkF m 26 #[.val (.ref a1), .val (.ref a2)] [(.long vy)])) _
        refine XS.aloadN X5.here hx rfl (hb hby d6_26) rfl rfl ?_
        show Steps p.tables e below (T5.setTop (mkF m 27 #[.val (.ref a1), .val (.ref a2)] [(.ref a2), (.long vy)])) _
        refine XS.iconst X5.here hx rfl (hb hby d6_27) ?_
        show Steps p.tables e below (T5.setTop (mkF m 28 #[.val (.ref a1), .val (.ref a2)] [(.int (3 : Int32)), (.ref a2), (.long vy)])) _
        refine X5.laload hx (j := (3 : Int32)) (v := (.long (gg (3 : Int32)))) (by rw [e5]; exact Ar6.1) (State.isArrayOf_alike hZ.alike Ar6.2.1) Ar6.2.2 hin6 hat6 (g := (mkF m 28 #[.val (.ref a1), .val (.ref a2)] [(.int (3 : Int32)), (.ref a2), (.long vy)])) rfl rfl (hb hby d6_28) _ ?_
        show Steps p.tables e below (T5.setTop (mkF m 29 #[.val (.ref a1), .val (.ref a2)] [(.long (gg (3 : Int32))), (.long vy)])) _
        refine XS.lcmp X5.here hx rfl (hb hby d6_29) rfl ?_
        exact k
      by_cases hc30 : vy = (gg (3 : Int32))
      · obtain ⟨T7, X7, e7, st7⟩ := getF X5 hx hZ hown (host := "") (Or.inl (hw _ (List.mem_of_getElem? (i := 15) rfl))) Via.refl e5 F_a1_a (g := (mkF m 34 #[.val (.ref a1), .val (.ref a2)] [(.ref a1)])) rfl rfl (hb hby d6_34)
        have V_tmp := V_a2
        obtain ⟨cl8, Ar8, S8, n8, H8⟩ := V_tmp
        have hin8 : ¬ ((0 : Int32) < 0 ∨ cl8.slots.size ≤ ((0 : Int32)).toNatClampNeg) := inb_of S8 ⟨by decide, by decide⟩
        have hat8 : cl8.slots[((0 : Int32)).toNatClampNeg]? = some (.long (gg (0 : Int32))) := H8 _ hin8
        refine own_go (S' := fun t => Steps p.tables e below (T7.setTop (mkF m 41 #[.val (.ref a1), .val (.ref a2)] [(.int (lcmpW va (gg (0 : Int32))))])) t) (fun t k => ?_) ?_
        · show Steps p.tables e below (T5.setTop (mkF m 30 #[.val (.ref a1), .val (.ref a2)] [(.int (lcmpW vy (gg (3 : Int32))))])) _
          refine XS.ifNo X5.here hx rfl (hb hby d6_30) rfl ((if0 _ _).trans (teq ((lw_eq _ _).mpr hc30)).2) ?_
          show Steps p.tables e below (T5.setTop (mkF m 33 #[.val (.ref a1), .val (.ref a2)] [])) _
          refine XS.aloadN X5.here hx rfl (hb hby d6_33) rfl rfl ?_
          show Steps p.tables e below (T5.setTop (mkF m 34 #[.val (.ref a1), .val (.ref a2)] [(.ref a1)])) _
          refine st7 _ ?_
          show Steps p.tables e below (T7.setTop (mkF m 37 #[.val (.ref a1), .val (.ref a2)] [(.long va)])) _
          refine XS.aloadN X7.here hx rfl (hb hby d6_37) rfl rfl ?_
          show Steps p.tables e below (T7.setTop (mkF m 38 #[.val (.ref a1), .val (.ref a2)] [(.ref a2), (.long va)])) _
          refine XS.iconst X7.here hx rfl (hb hby d6_38) ?_
          show Steps p.tables e below (T7.setTop (mkF m 39 #[.val (.ref a1), .val (.ref a2)] [(.int (0 : Int32)), (.ref a2), (.long va)])) _
          refine X7.laload hx (j := (0 : Int32)) (v := (.long (gg (0 : Int32)))) (by rw [e7]; exact Ar8.1) (State.isArrayOf_alike hZ.alike Ar8.2.1) Ar8.2.2 hin8 hat8 (g := (mkF m 39 #[.val (.ref a1), .val (.ref a2)] [(.int (0 : Int32)), (.ref a2), (.long va)])) rfl rfl (hb hby d6_39) _ ?_
          show Steps p.tables e below (T7.setTop (mkF m 40 #[.val (.ref a1), .val (.ref a2)] [(.long (gg (0 : Int32))), (.long va)])) _
          refine XS.lcmp X7.here hx rfl (hb hby d6_40) rfl ?_
          exact k
        by_cases hc41 : va = (gg (0 : Int32))
        · obtain ⟨fs, hr, hrun, hended, hW, hsame⟩ := X7.leave (v := some (.int (1 : Int32))) (fun h => by rw [Bd.returns] at h; cases h)
          refine ⟨_, _, ?_, hrun, hended, _, _, rfl, ?_, ⟨_, rfl⟩, hW, hsame.mono (by decide) (by decide)⟩
          · show Steps p.tables e below (T7.setTop (mkF m 41 #[.val (.ref a1), .val (.ref a2)] [(.int (lcmpW va (gg (0 : Int32))))])) _
            refine XS.ifNo X7.here hx rfl (hb hby d6_41) rfl ((if0 _ _).trans (teq ((lw_eq _ _).mpr hc41)).2) ?_
            show Steps p.tables e below (T7.setTop (mkF m 44 #[.val (.ref a1), .val (.ref a2)] [])) _
            refine XS.iconst X7.here hx rfl (hb hby d6_44) ?_
            show Steps p.tables e below (T7.setTop (mkF m 45 #[.val (.ref a1), .val (.ref a2)] [(.int (1 : Int32))])) _
            refine XS.goto X7.here hx rfl (pc0 := 45) (pc' := 49) rfl (hb hby d6_45) (by decide) (by decide) ?_
            show Steps p.tables e below (T7.setTop (mkF m 49 #[.val (.ref a1), .val (.ref a2)] [(.int (1 : Int32))])) _
            exact retN X7 hx (t := .boolean) Bd.returns (by simp) (hb hby d6_49) hr
          · show Q6 Z a1 a2 va vs vx vy gg h0 n0 _ T7.heap _
            rw [e7]
            exact ⟨_, rfl, (if_pos ⟨hc8, hc19, hc30, hc41⟩).symm, N0, rfl⟩
        · obtain ⟨fs, hr, hrun, hended, hW, hsame⟩ := X7.leave (v := some (.int (0 : Int32))) (fun h => by rw [Bd.returns] at h; cases h)
          refine ⟨_, _, ?_, hrun, hended, _, _, rfl, ?_, ⟨_, rfl⟩, hW, hsame.mono (by decide) (by decide)⟩
          · show Steps p.tables e below (T7.setTop (mkF m 41 #[.val (.ref a1), .val (.ref a2)] [(.int (lcmpW va (gg (0 : Int32))))])) _
            refine XS.ifYes X7.here hx rfl (pc0 := 41) (pc' := 48) rfl (hb hby d6_41) rfl ((if0 _ _).trans (feq (fun z => hc41 ((lw_eq _ _).mp z))).2) (by decide) (by decide) ?_
            show Steps p.tables e below (T7.setTop (mkF m 48 #[.val (.ref a1), .val (.ref a2)] [])) _
            refine XS.iconst X7.here hx rfl (hb hby d6_48) ?_
            show Steps p.tables e below (T7.setTop (mkF m 49 #[.val (.ref a1), .val (.ref a2)] [(.int (0 : Int32))])) _
            exact retN X7 hx (t := .boolean) Bd.returns (by simp) (hb hby d6_49) hr
          · show Q6 Z a1 a2 va vs vx vy gg h0 n0 _ T7.heap _
            rw [e7]
            exact ⟨_, rfl, (if_neg (fun z => hc41 z.2.2.2)).symm, N0, rfl⟩
      · obtain ⟨fs, hr, hrun, hended, hW, hsame⟩ := X5.leave (v := some (.int (0 : Int32))) (fun h => by rw [Bd.returns] at h; cases h)
        refine ⟨_, _, ?_, hrun, hended, _, _, rfl, ?_, ⟨_, rfl⟩, hW, hsame.mono (by decide) (by decide)⟩
        · show Steps p.tables e below (T5.setTop (mkF m 30 #[.val (.ref a1), .val (.ref a2)] [(.int (lcmpW vy (gg (3 : Int32))))])) _
          refine XS.ifYes X5.here hx rfl (pc0 := 30) (pc' := 48) rfl (hb hby d6_30) rfl ((if0 _ _).trans (feq (fun z => hc30 ((lw_eq _ _).mp z))).2) (by decide) (by decide) ?_
          show Steps p.tables e below (T5.setTop (mkF m 48 #[.val (.ref a1), .val (.ref a2)] [])) _
          refine XS.iconst X5.here hx rfl (hb hby d6_48) ?_
          show Steps p.tables e below (T5.setTop (mkF m 49 #[.val (.ref a1), .val (.ref a2)] [(.int (0 : Int32))])) _
          exact retN X5 hx (t := .boolean) Bd.returns (by simp) (hb hby d6_49) hr
        · show Q6 Z a1 a2 va vs vx vy gg h0 n0 _ T5.heap _
          rw [e5]
          exact ⟨_, rfl, (if_neg (fun z => hc30 z.2.2.1)).symm, N0, rfl⟩
    · obtain ⟨fs, hr, hrun, hended, hW, hsame⟩ := X3.leave (v := some (.int (0 : Int32))) (fun h => by rw [Bd.returns] at h; cases h)
      refine ⟨_, _, ?_, hrun, hended, _, _, rfl, ?_, ⟨_, rfl⟩, hW, hsame.mono (by decide) (by decide)⟩
      · show Steps p.tables e below (T3.setTop (mkF m 19 #[.val (.ref a1), .val (.ref a2)] [(.int (lcmpW vx (gg (2 : Int32))))])) _
        refine XS.ifYes X3.here hx rfl (pc0 := 19) (pc' := 48) rfl (hb hby d6_19) rfl ((if0 _ _).trans (feq (fun z => hc19 ((lw_eq _ _).mp z))).2) (by decide) (by decide) ?_
        show Steps p.tables e below (T3.setTop (mkF m 48 #[.val (.ref a1), .val (.ref a2)] [])) _
        refine XS.iconst X3.here hx rfl (hb hby d6_48) ?_
        show Steps p.tables e below (T3.setTop (mkF m 49 #[.val (.ref a1), .val (.ref a2)] [(.int (0 : Int32))])) _
        exact retN X3 hx (t := .boolean) Bd.returns (by simp) (hb hby d6_49) hr
      · show Q6 Z a1 a2 va vs vx vy gg h0 n0 _ T3.heap _
        rw [e3]
        exact ⟨_, rfl, (if_neg (fun z => hc19 z.2.1)).symm, N0, rfl⟩
  · obtain ⟨fs, hr, hrun, hended, hW, hsame⟩ := X1.leave (v := some (.int (0 : Int32))) (fun h => by rw [Bd.returns] at h; cases h)
    refine ⟨_, _, ?_, hrun, hended, _, _, rfl, ?_, ⟨_, rfl⟩, hW, hsame.mono (by decide) (by decide)⟩
    · show Steps p.tables e below (T1.setTop (mkF m 8 #[.val (.ref a1), .val (.ref a2)] [(.int (lcmpW vs (gg (1 : Int32))))])) _
      refine XS.ifYes X1.here hx rfl (pc0 := 8) (pc' := 48) rfl (hb hby d6_8) rfl ((if0 _ _).trans (feq (fun z => hc8 ((lw_eq _ _).mp z))).2) (by decide) (by decide) ?_
      show Steps p.tables e below (T1.setTop (mkF m 48 #[.val (.ref a1), .val (.ref a2)] [])) _
      refine XS.iconst X1.here hx rfl (hb hby d6_48) ?_
      show Steps p.tables e below (T1.setTop (mkF m 49 #[.val (.ref a1), .val (.ref a2)] [(.int (0 : Int32))])) _
      exact retN X1 hx (t := .boolean) Bd.returns (by simp) (hb hby d6_49) hr
    · show Q6 Z a1 a2 va vs vx vy gg h0 n0 _ T1.heap _
      rw [e1]
      exact ⟨_, rfl, (if_neg (fun z => hc8 z.1)).symm, N0, rfl⟩
theorem pd_2 : parseMethodDescriptor "(J)V" = some ⟨[.long], none⟩ := by decide +kernel
theorem pd_3 : parseMethodDescriptor "()[J" = some ⟨[], some (.array .long)⟩ := by decide +kernel
theorem pd_4 : parseMethodDescriptor "([J)Z" = some ⟨[(.array .long)], some .boolean⟩ := by decide +kernel
theorem pd_5 : parseMethodDescriptor "()J" = some ⟨[], some .long⟩ := by decide +kernel
theorem pn_0 : plainName "com/example/driftline/driftline/model/LxmRandomInStatePinLaw" = true := by first | (simp [plainName, overriddenIn]; done) | decide +kernel
theorem ef_0 (m : MethodId) (x0 : Int64) (x1 : Int64) (x2 : Int64) (x3 : Int32) : entryFrame m #[(.long x0), (.long x1), (.long x2), (.int x3)] maxLocals = mkF m 0 #[.val (.long x0), .second, .val (.long x1), .second, .val (.long x2), .second, .val (.int x3), .unset, .unset, .unset, .unset, .unset, .unset, .unset, .unset, .unset] [] := by first | (simp [entryFrame, mkF, argsToLocals, Value.category, maxLocals]; done) | rfl
def Q0 (Z : State) (q1 : Int64) (q2 : Int64) (q3 : Int64) (p4 : Int32) (h0 : Heap) (n0 : Nat) (v : Option Value) (h : Heap) (L : List Loc) : Prop := v = some (.int 1) ∧ Fr n0 L
set_option maxRecDepth 65536 in
set_option maxHeartbeats 40000000 in
theorem rm0 (l : Launch) (Z : State) (a0 : Array Value) (hw : ∀ d ∈ tables_1, d.before a0 Z = true) (ws : List Jvm.Cond) (q1 : Int64) (q2 : Int64) (q3 : Int64) (p4 : Int32) (h0 : Heap) (n0 : Nat) (Z0 : n0 ≤ h0.size) :
    MetFree l x (head1 (Jvm.Cond.code x code maxLocals ret :: ws) room_1) (fun a U => a = #[(.long q1), (.long q2), (.long q3), (.int p4)] ∧ Z.Warmed39 U.vm ∧ U.heap = h0) (fun _ _ _ _ _ => True) (fun _ U o U' => ∃ v L, o = .returned v ∧ Q0 Z q1 q2 q3 p4 h0 n0 v U'.heap L ∧ FrameEnd U o U' L room_1.cells room_1.slots) := by
  refine MetFree.of_bodySF (plainFor_of_name pn_0) hisR ?_
  intro p e s m args below meth c s₁ Bd hml0 hP hK
  obtain ⟨rfl, hZ, hh⟩ := hP
  have hx := Bd.exec
  have hby := Bd.bytes
  have hml : c.maxLocals = 16 := hml0
  have hown : s.vm.findClass "com/example/driftline/driftline/model/LxmRandomInStatePinLaw" = some m.cls := findClass_of_methodNamed Bd.named
  have hnm := (name_of_methodNamed Bd.named Bd.method).1
  have X0 : Stand p l e room_1 s m #[(.long q1), (.long q2), (.long q3), (.int p4)] below meth c s₁ [] 0 0 := Stand.of_body Bd
  have e0 : s₁.heap = h0 := by rw [← hh, Bd.state]; rfl
  have N0 := Fr.nil n0
  have K0 : Keep h0 h0 [] := Keep.refl _ _
  have pre0 : ∀ t, Steps p.tables e below (s₁.setTop (mkF m 0 #[.val (.long q1), .second, .val (.long q2), .second, .val (.long q3), .second, .val (.int p4), .unset, .unset, .unset, .unset, .unset, .unset, .unset, .unset, .unset] [])) t → Steps p.tables e below (s₁.setTop (entryFrame m #[(.long q1), (.long q2), (.long q3), (.int p4)] maxLocals)) t := fun t k => castTop (ef_0 m q1 q2 q3 p4) k
  refine own_go (S' := fun t => Steps p.tables e below (s₁.setTop (mkF m 0 #[.val (.long q1), .second, .val (.long q2), .second, .val (.long q3), .second, .val (.int p4), .unset, .unset, .unset, .unset, .unset, .unset, .unset, .unset, .unset] [])) t) pre0 ?_
  obtain ⟨T1, h1, X1, e1, E1, A1, D1, -, st1⟩ := newO X0 hx hZ hown (hw _ (List.mem_of_getElem? (i := 0) rfl)) (hw _ (List.mem_of_getElem? (i := 1) rfl)) (hw _ (List.mem_of_getElem? (i := 2) rfl)) e0 (g := (mkF m 0 #[.val (.long q1), .second, .val (.long q2), .second, .val (.long q3), .second, .val (.int p4), .unset, .unset, .unset, .unset, .unset, .unset, .unset, .unset, .unset] [])) rfl (hb hby at_0) (by decide) (by decide)
  obtain ⟨b1, g1⟩ : ∃ z, z = h0.size := ⟨_, rfl⟩
  rw [← g1] at A1 D1 st1
  have g_b1 : n0 ≤ b1 := Nat.le_trans Z0 (Nat.le_of_eq g1.symm)
  have sz_b1 : h0.size ≤ b1 := Nat.le_trans K0.1 (Nat.le_of_eq g1.symm)
  have Z0 : n0 ≤ h1.size := Nat.le_trans Z0 E1.1
  have K0 := K0.ext E1
  have E_b1 := A1
  have F_b1_a : Fld Z h1 b1 "com/example/driftline/driftline/model/LxmRandom" "a" "J" (.long (0 : Int64)) := D1 (Or.inr (hw _ (List.mem_of_getElem? (i := 16) rfl))) (ty := .long) (by decide)
  have F_b1_s : Fld Z h1 b1 "com/example/driftline/driftline/model/LxmRandom" "s" "J" (.long (0 : Int64)) := D1 (Or.inl (hw _ (List.mem_of_getElem? (i := 18) rfl))) (ty := .long) (by decide)
  have F_b1_x0 : Fld Z h1 b1 "com/example/driftline/driftline/model/LxmRandom" "x0" "J" (.long (0 : Int64)) := D1 (Or.inl (hw _ (List.mem_of_getElem? (i := 25) rfl))) (ty := .long) (by decide)
  have F_b1_x1 : Fld Z h1 b1 "com/example/driftline/driftline/model/LxmRandom" "x1" "J" (.long (0 : Int64)) := D1 (Or.inl (hw _ (List.mem_of_getElem? (i := 28) rfl))) (ty := .long) (by decide)
  obtain ⟨_, _, ⟨T2, L2, k2, n2⟩, -, X2, ⟨Lc2, hQ2, l2, y2, z2⟩, st2⟩ := X1.specialBack hx (y := (⟨"com/example/driftline/driftline/model/LxmRandom", "<init>", "(J)V"⟩ : MethodName)) rfl hown (mvT hZ (hw _ (List.mem_of_getElem? (i := 3) rfl))) (mvT hZ (hw _ (List.mem_of_getElem? (i := 4) rfl))) (mvT hZ (hw _ (List.mem_of_getElem? (i := 5) rfl))) (by decide) (backOf (W := 1) (rm1 l Z a0 hw [] b1 q1 (.long (0 : Int64)) (.long (0 : Int64)) (.long (0 : Int64)) (.long (0 : Int64)) h1 n0 Z0 E_b1 F_b1_a F_b1_s F_b1_x0 F_b1_x1 g_b1) hZ (hw _ (List.mem_of_getElem? (i := 5) rfl)) (hw _ (List.mem_of_getElem? (i := 2) rfl)) (by decide) (by decide)) (g := (mkF m 5 #[.val (.long q1), .second, .val (.long q2), .second, .val (.long q3), .second, .val (.int p4), .unset, .unset, .unset, .unset, .unset, .unset, .unset, .unset, .unset] [(.long q1), (.ref b1), (.ref b1)])) rfl (by rw [hml]; rfl) (Steps.refl _) (a := b1) (argsL := [(.long q1)]) (rest := [(.ref b1)]) (lenOf pd_2 rfl) rfl (by show 2 * 0 + _ ≤ _; exact Nat.le_of_eq rfl) (hb hby at_5) (fun _ _ => ⟨rfl, e1, (by decide : 1 + 0 ≤ _), (by decide : 4 + 0 ≤ _)⟩)
  dsimp only [Pt.U, Pt.locs, Pt.cells, Pt.slots] at X2 l2 y2 z2 st2 hQ2
  subst l2 y2 z2
  obtain ⟨rfl, N2q, K2, E_b1_new, F_b1_a_new, F_b1_s_new, F_b1_x0_new, F_b1_x1_new⟩ := hQ2
  have E_b1 := E_b1.keep K2
  have E_b1 := E_b1_new
  have F_b1_a := F_b1_a_new
  have F_b1_s := F_b1_s_new
  have F_b1_x0 := F_b1_x0_new
  have F_b1_x1 := F_b1_x1_new
  have Z0 : n0 ≤ T2.heap.size := Nat.le_trans Z0 K2.1
  have K0 := K0.trans K2 (allS (Or.inr sz_b1) all0)
  have N2 := Fr.app N0 N2q
  refine own_go (S' := fun t => Steps p.tables e below (T2.setTop (mkF m 15 #[.val (.long q1), .second, .val (.long q2), .second, .val (.long q3), .second, .val (.int p4), .val (.ref b1), .unset, .unset, .unset, .unset, .unset, .unset, .unset, .unset] [(.int (p4 &&& (16 : Int32)))])) t) (fun t k => ?_) ?_
  · show Steps p.tables e below (s₁.setTop (mkF m 0 #[.val (.long q1), .second, .val (.long q2), .second, .val (.long q3), .second, .val (.int p4), .unset, .unset, .unset, .unset, .unset, .unset, .unset, .unset, .unset] [])) _
    refine st1 _ ?_
    show Steps p.tables e below (T1.setTop (mkF m 3 #[.val (.long q1), .second, .val (.long q2), .second, .val (.long q3), .second, .val (.int p4), .unset, .unset, .unset, .unset, .unset, .unset, .unset, .unset, .unset] [(.ref b1)])) _
    refine XS.dup X1.here hx rfl (hb hby at_3) rfl rfl ?_
    show Steps p.tables e below (T1.setTop (mkF m 4 #[.val (.long q1), .second, .val (.long q2), .second, .val (.long q3), .second, .val (.int p4), .unset, .unset, .unset, .unset, .unset, .unset, .unset, .unset, .unset] [(.ref b1), (.ref b1)])) _
    refine XS.lloadN X1.here hx rfl (hb hby at_4) rfl ?_
    show Steps p.tables e below (T1.setTop (mkF m 5 #[.val (.long q1), .second, .val (.long q2), .second, .val (.long q3), .second, .val (.int p4), .unset, .unset, .unset, .unset, .unset, .unset, .unset, .unset, .unset] [(.long q1), (.ref b1), (.ref b1)])) _
    refine st2.trans ?_
    show Steps p.tables e below (T2.setTop (mkF m 8 #[.val (.long q1), .second, .val (.long q2), .second, .val (.long q3), .second, .val (.int p4), .unset, .unset, .unset, .unset, .unset, .unset, .unset, .unset, .unset] [(.ref b1)])) _
    refine XS.astore X2.here hx rfl (hb hby at_8) rfl rfl (l' := #[.val (.long q1), .second, .val (.long q2), .second, .val (.long q3), .second, .val (.int p4), .val (.ref b1), .unset, .unset, .unset, .unset, .unset, .unset, .unset, .unset]) rfl ?_
    show Steps p.tables e below (T2.setTop (mkF m 10 #[.val (.long q1), .second, .val (.long q2), .second, .val (.long q3), .second, .val (.int p4), .val (.ref b1), .unset, .unset, .unset, .unset, .unset, .unset, .unset, .unset] [])) _
    refine XS.iload X2.here hx rfl (hb hby at_10) rfl ?_
    show Steps p.tables e below (T2.setTop (mkF m 12 #[.val (.long q1), .second, .val (.long q2), .second, .val (.long q3), .second, .val (.int p4), .val (.ref b1), .unset, .unset, .unset, .unset, .unset, .unset, .unset, .unset] [(.int p4)])) _
    refine XS.bipush X2.here hx rfl (hb hby at_12) ?_
    show Steps p.tables e below (T2.setTop (mkF m 14 #[.val (.long q1), .second, .val (.long q2), .second, .val (.long q3), .second, .val (.int p4), .val (.ref b1), .unset, .unset, .unset, .unset, .unset, .unset, .unset, .unset] [(.int (16 : Int32)), (.int p4)])) _
    refine XS.iand X2.here hx rfl (hb hby at_14) rfl ?_
    exact k
  by_cases hc15 : (p4 &&& (16 : Int32)) = (0 : Int32)
  · obtain ⟨fa, d_fa⟩ : ∃ z : Int64, z = (own_ia q1) := ⟨_, rfl⟩
    have F_b1_a : Fld Z T2.heap b1 "com/example/driftline/driftline/model/LxmRandom" "a" "J" (.long fa) := by rw [d_fa]; exact F_b1_a
    obtain ⟨fs', d_fs'⟩ : ∃ z : Int64, z = (1 : Int64) := ⟨_, rfl⟩
    have F_b1_s : Fld Z T2.heap b1 "com/example/driftline/driftline/model/LxmRandom" "s" "J" (.long fs') := by rw [d_fs']; exact F_b1_s
    obtain ⟨fx, d_fx⟩ : ∃ z : Int64, z = (own_ix q1) := ⟨_, rfl⟩
    have F_b1_x0 : Fld Z T2.heap b1 "com/example/driftline/driftline/model/LxmRandom" "x0" "J" (.long fx) := by rw [d_fx]; exact F_b1_x0
    obtain ⟨fy, d_fy⟩ : ∃ z : Int64, z = (own_iy q1) := ⟨_, rfl⟩
    have F_b1_x1 : Fld Z T2.heap b1 "com/example/driftline/driftline/model/LxmRandom" "x1" "J" (.long fy) := by rw [d_fy]; exact F_b1_x1
    obtain ⟨cq3, kq3, q3a, q3b, q3c⟩ := isOf hZ rfl E_b1
    obtain ⟨_, _, ⟨T3, L3, k3, n3⟩, -, X3, ⟨Lc3, hQ3, l3, y3, z3⟩, st3⟩ := X2.virtualBack hx (y := (⟨"com/example/driftline/driftline/model/LxmRandom", "state", "()[J"⟩ : MethodName)) (z := (⟨"com/example/driftline/driftline/model/LxmRandom", "state", "()[J"⟩ : MethodName)) hown (mvT hZ (hw _ (List.mem_of_getElem? (i := 29) rfl))) (mvT hZ (hw _ (List.mem_of_getElem? (i := 30) rfl))) (notFace_of_selects (args := #[]) (mvT hZ (hw _ (List.mem_of_getElem? (i := 32) rfl)))) (mvT hZ (hw _ (List.mem_of_getElem? (i := 32) rfl))) (mvT hZ (hw _ (List.mem_of_getElem? (i := 31) rfl))) (by decide) (backOf (W := 0) (rm5 l Z a0 hw [] b1 fa fs' fx fy T2.heap n0 Z0 F_b1_a F_b1_s F_b1_x0 F_b1_x1) hZ (hw _ (List.mem_of_getElem? (i := 33) rfl)) (hw _ (List.mem_of_getElem? (i := 2) rfl)) (by decide) (by decide)) q3a q3c (g := (mkF m 26 #[.val (.long q1), .second, .val (.long q2), .second, .val (.long q3), .second, .val (.int p4), .val (.ref b1), .unset, .unset, .unset, .unset, .unset, .unset, .unset, .unset] [(.ref b1)])) rfl (by rw [hml]; rfl) (Steps.refl _) (argsL := []) (rest := []) (lenOf pd_3 rfl) rfl (by show 2 * 0 + _ ≤ _; exact Nat.le_of_eq rfl) (hb hby at_26) (fun _ _ => ⟨rfl, rfl, (by decide : 1 + 1 ≤ _), (by decide : 4 + 4 ≤ _)⟩)
    dsimp only [Pt.U, Pt.locs, Pt.cells, Pt.slots] at X3 l3 y3 z3 st3 hQ3
    subst l3 y3 z3
    have lt3_b1 : b1 < T2.heap.size := E_b1.lt
    obtain ⟨bs, kk_3, rfl, d_bs, sz3, N3q, K3, V_bs_new⟩ := hQ3
    have E_b1 := E_b1.keep K3
    have F_b1_a := F_b1_a.keep K3 nin0
    have F_b1_s := F_b1_s.keep K3 nin0
    have F_b1_x0 := F_b1_x0.keep K3 nin0
    have F_b1_x1 := F_b1_x1.keep K3 nin0
    have V_bs := V_bs_new
    have g_bs : n0 ≤ bs := Nat.le_trans Z0 sz3
    have sz_bs : h0.size ≤ bs := Nat.le_trans K0.1 sz3
    have ne_b1_bs : b1 ≠ bs := Nat.ne_of_lt (Nat.lt_of_lt_of_le lt3_b1 sz3)
    have Z0 : n0 ≤ T3.heap.size := Nat.le_trans Z0 K3.1
    have K0 := K0.trans K3 all0
    have N3 := Fr.app N2 N3q
    obtain ⟨gs, d_gs⟩ : ∃ z : Int32 → Int64, z = fun i => ([fa, fs', fx, fy] : List Int64).getD i.toNatClampNeg (0 : Int64) := ⟨_, rfl⟩
    have V_bs : own_Arf Z T3.heap bs .long (4 : Int32) (fun i => .long (gs i)) := (own_Arf.of V_bs).cong (fun i => by rw [d_gs]; exact own_get4 _ _ _ _ _)
    obtain ⟨T4, h4, k4, X4, e4, E4, A4, st4⟩ := newP X3 hx hZ (hw _ (List.mem_of_getElem? (i := 34) rfl)) rfl (g := (mkF m 32 #[.val (.long q1), .second, .val (.long q2), .second, .val (.long q3), .second, .val (.int p4), .val (.ref b1), .val (.ref bs), .unset, .unset, .unset, .unset, .unset, .unset, .unset] [(.int (4 : Int32))])) rfl (hb hby at_32) rfl (by decide) (cap := 4) (by decide) (by decide) (by decide) (by decide)
    obtain ⟨b4, g4⟩ : ∃ z, z = T3.heap.size := ⟨_, rfl⟩
    rw [← g4] at A4 st4
    have g_b4 : n0 ≤ b4 := Nat.le_trans Z0 (Nat.le_of_eq g4.symm)
    have sz_b4 : h0.size ≤ b4 := Nat.le_trans K0.1 (Nat.le_of_eq g4.symm)
    have ne_b1_b4 : b1 ≠ b4 := Nat.ne_of_lt (Nat.lt_of_lt_of_le E_b1.lt (Nat.le_of_eq g4.symm))
    have ne_bs_b4 : bs ≠ b4 := Nat.ne_of_lt (Nat.lt_of_lt_of_le V_bs.lt (Nat.le_of_eq g4.symm))
    have E_b1 := E_b1.ext E4
    have F_b1_a := F_b1_a.ext E4
    have F_b1_s := F_b1_s.ext E4
    have F_b1_x0 := F_b1_x0.ext E4
    have F_b1_x1 := F_b1_x1.ext E4
    have V_bs := V_bs.ext E4
    have Z0 : n0 ≤ h4.size := Nat.le_trans Z0 E4.1
    have K0 := K0.ext E4
    have V_b4 : Arv Z h4 b4 k4 .long (4 : Int32) [(.long (0 : Int64)), (.long (0 : Int64)), (.long (0 : Int64)), (.long (0 : Int64))] (.long (0 : Int64)) := (Arv.new A4 (by decide)).pad (pad_rep [] (.long (0 : Int64)) 4)
    have V_tmp := V_bs
    obtain ⟨cl5, Ar5, S5, n5, H5⟩ := V_tmp
    have hin5 : ¬ ((0 : Int32) < 0 ∨ cl5.slots.size ≤ ((0 : Int32)).toNatClampNeg) := inb_of S5 ⟨by decide, by decide⟩
    have hat5 : cl5.slots[((0 : Int32)).toNatClampNeg]? = some (.long (gs (0 : Int32))) := H5 _ hin5
    have V_tmp := V_b4
    obtain ⟨cl6, Ar6, aq6, S6, n6, H6, G6⟩ := V_tmp
    have hin6 : ¬ ((0 : Int32) < 0 ∨ cl6.slots.size ≤ ((0 : Int32)).toNatClampNeg) := inb_of S6 ⟨by decide, by decide⟩
    obtain ⟨T6, h6, X6, e6, W6, st6⟩ := stJ X4 hx hZ e4 Ar6 (j := (0 : Int32)) hin6 (g := (mkF m 40 #[.val (.long q1), .second, .val (.long q2), .second, .val (.long q3), .second, .val (.int p4), .val (.ref b1), .val (.ref bs), .unset, .unset, .unset, .unset, .unset, .unset, .unset] [(.long (gs (0 : Int32))), (.int (0 : Int32)), (.ref b4), (.ref b4)])) rfl rfl (hb hby at_40)
    have V_bs := V_bs.other W6 ne_bs_b4
    have V_b4 : Arv Z h6 b4 k4 .long (4 : Int32) [(.long (gs (0 : Int32))), (.long (0 : Int64)), (.long (0 : Int64)), (.long (0 : Int64))] (.long (0 : Int64)) := Arv.set Ar6 aq6 S6 n6 H6 G6 rfl W6 0 rfl (Nat.le_of_ble_eq_true rfl)
    have F_b1_a := F_b1_a.other W6 (Or.inl ne_b1_b4)
    have F_b1_s := F_b1_s.other W6 (Or.inl ne_b1_b4)
    have F_b1_x0 := F_b1_x0.other W6 (Or.inl ne_b1_b4)
    have F_b1_x1 := F_b1_x1.other W6 (Or.inl ne_b1_b4)
    have E_b1 := E_b1.wr W6
    have Z0 : n0 ≤ h6.size := by rw [W6.size]; exact Z0
    have K0 := K0.wr W6 (Or.inr sz_b4)
    have N6 := Fr.snoc X6 N3 g_b4
    have V_tmp := V_bs
    obtain ⟨cl7, Ar7, S7, n7, H7⟩ := V_tmp
    have hin7 : ¬ ((1 : Int32) < 0 ∨ cl7.slots.size ≤ ((1 : Int32)).toNatClampNeg) := inb_of S7 ⟨by decide, by decide⟩
    have hat7 : cl7.slots[((1 : Int32)).toNatClampNeg]? = some (.long (gs (1 : Int32))) := H7 _ hin7
    have V_tmp := V_b4
    obtain ⟨cl8, Ar8, aq8, S8, n8, H8, G8⟩ := V_tmp
    have hin8 : ¬ ((1 : Int32) < 0 ∨ cl8.slots.size ≤ ((1 : Int32)).toNatClampNeg) := inb_of S8 ⟨by decide, by decide⟩
    obtain ⟨T8, h8, X8, e8, W8, st8⟩ := stJ X6 hx hZ e6 Ar8 (j := (1 : Int32)) hin8 (g := (mkF m 47 #[.val (.long q1), .second, .val (.long q2), .second, .val (.long q3), .second, .val (.int p4), .val (.ref b1), .val (.ref bs), .unset, .unset, .unset, .unset, .unset, .unset, .unset] [(.long (gs (1 : Int32))), (.int (1 : Int32)), (.ref b4), (.ref b4)])) rfl rfl (hb hby at_47)
    have V_bs := V_bs.other W8 ne_bs_b4
    have V_b4 : Arv Z h8 b4 k4 .long (4 : Int32) [(.long (gs (0 : Int32))), (.long (gs (1 : Int32))), (.long (0 : Int64)), (.long (0 : Int64))] (.long (0 : Int64)) := Arv.set Ar8 aq8 S8 n8 H8 G8 rfl W8 1 rfl (Nat.le_of_ble_eq_true rfl)
    have F_b1_a := F_b1_a.other W8 (Or.inl ne_b1_b4)
    have F_b1_s := F_b1_s.other W8 (Or.inl ne_b1_b4)
    have F_b1_x0 := F_b1_x0.other W8 (Or.inl ne_b1_b4)
    have F_b1_x1 := F_b1_x1.other W8 (Or.inl ne_b1_b4)
    have E_b1 := E_b1.wr W8
    have Z0 : n0 ≤ h8.size := by rw [W8.size]; exact Z0
    have K0 := K0.wr W8 (Or.inr sz_b4)
    have N8 := Fr.snoc X8 N6 g_b4
    have V_tmp := V_bs
    obtain ⟨cl9, Ar9, S9, n9, H9⟩ := V_tmp
    have hin9 : ¬ ((2 : Int32) < 0 ∨ cl9.slots.size ≤ ((2 : Int32)).toNatClampNeg) := inb_of S9 ⟨by decide, by decide⟩
    have hat9 : cl9.slots[((2 : Int32)).toNatClampNeg]? = some (.long (gs (2 : Int32))) := H9 _ hin9
    have V_tmp := V_b4
    obtain ⟨cl10, Ar10, aq10, S10, n10, H10, G10⟩ := V_tmp
    have hin10 : ¬ ((2 : Int32) < 0 ∨ cl10.slots.size ≤ ((2 : Int32)).toNatClampNeg) := inb_of S10 ⟨by decide, by decide⟩
    obtain ⟨T10, h10, X10, e10, W10, st10⟩ := stJ X8 hx hZ e8 Ar10 (j := (2 : Int32)) hin10 (g := (mkF m 54 #[.val (.long q1), .second, .val (.long q2), .second, .val (.long q3), .second, .val (.int p4), .val (.ref b1), .val (.ref bs), .unset, .unset, .unset, .unset, .unset, .unset, .unset] [(.long (gs (2 : Int32))), (.int (2 : Int32)), (.ref b4), (.ref b4)])) rfl rfl (hb hby at_54)
    have V_bs := V_bs.other W10 ne_bs_b4
    have V_b4 : Arv Z h10 b4 k4 .long (4 : Int32) [(.long (gs (0 : Int32))), (.long (gs (1 : Int32))), (.long (gs (2 : Int32))), (.long (0 : Int64))] (.long (0 : Int64)) := Arv.set Ar10 aq10 S10 n10 H10 G10 rfl W10 2 rfl (Nat.le_of_ble_eq_true rfl)
    have F_b1_a := F_b1_a.other W10 (Or.inl ne_b1_b4)
    have F_b1_s := F_b1_s.other W10 (Or.inl ne_b1_b4)
    have F_b1_x0 := F_b1_x0.other W10 (Or.inl ne_b1_b4)
    have F_b1_x1 := F_b1_x1.other W10 (Or.inl ne_b1_b4)
    have E_b1 := E_b1.wr W10
    have Z0 : n0 ≤ h10.size := by rw [W10.size]; exact Z0
    have K0 := K0.wr W10 (Or.inr sz_b4)
    have N10 := Fr.snoc X10 N8 g_b4
    have V_tmp := V_bs
    obtain ⟨cl11, Ar11, S11, n11, H11⟩ := V_tmp
    have hin11 : ¬ ((3 : Int32) < 0 ∨ cl11.slots.size ≤ ((3 : Int32)).toNatClampNeg) := inb_of S11 ⟨by decide, by decide⟩
    have hat11 : cl11.slots[((3 : Int32)).toNatClampNeg]? = some (.long (gs (3 : Int32))) := H11 _ hin11
    have V_tmp := V_b4
    obtain ⟨cl12, Ar12, aq12, S12, n12, H12, G12⟩ := V_tmp
    have hin12 : ¬ ((3 : Int32) < 0 ∨ cl12.slots.size ≤ ((3 : Int32)).toNatClampNeg) := inb_of S12 ⟨by decide, by decide⟩
    obtain ⟨T12, h12, X12, e12, W12, st12⟩ := stJ X10 hx hZ e10 Ar12 (j := (3 : Int32)) hin12 (g := (mkF m 61 #[.val (.long q1), .second, .val (.long q2), .second, .val (.long q3), .second, .val (.int p4), .val (.ref b1), .val (.ref bs), .unset, .unset, .unset, .unset, .unset, .unset, .unset] [(.long (gs (3 : Int32))), (.int (3 : Int32)), (.ref b4), (.ref b4)])) rfl rfl (hb hby at_61)
    have V_bs := V_bs.other W12 ne_bs_b4
    have V_b4 : Arv Z h12 b4 k4 .long (4 : Int32) [(.long (gs (0 : Int32))), (.long (gs (1 : Int32))), (.long (gs (2 : Int32))), (.long (gs (3 : Int32)))] (.long (0 : Int64)) := Arv.set Ar12 aq12 S12 n12 H12 G12 rfl W12 3 rfl (Nat.le_of_ble_eq_true rfl)
    have F_b1_a := F_b1_a.other W12 (Or.inl ne_b1_b4)
    have F_b1_s := F_b1_s.other W12 (Or.inl ne_b1_b4)
    have F_b1_x0 := F_b1_x0.other W12 (Or.inl ne_b1_b4)
    have F_b1_x1 := F_b1_x1.other W12 (Or.inl ne_b1_b4)
    have E_b1 := E_b1.wr W12
    have Z0 : n0 ≤ h12.size := by rw [W12.size]; exact Z0
    have K0 := K0.wr W12 (Or.inr sz_b4)
    have N12 := Fr.snoc X12 N10 g_b4
    obtain ⟨gt, d_gt⟩ : ∃ z : Int32 → Int64, z = fun i => ([(gs (0 : Int32)), (gs (1 : Int32)), (gs (2 : Int32)), (gs (3 : Int32))] : List Int64).getD i.toNatClampNeg (0 : Int64) := ⟨_, rfl⟩
    have V_b4 : own_Arf Z h12 b4 .long (4 : Int32) (fun i => .long (gt i)) := (own_Arf.of V_b4).cong (fun i => by rw [d_gt]; exact own_get4 _ _ _ _ _)
    obtain ⟨ii, d_ii⟩ : ∃ z : Int32, z = (p4 &&& (3 : Int32)) := ⟨_, rfl⟩
    obtain ⟨jj, d_jj⟩ : ∃ z : Int32, z = (((p4.toUInt32 >>> ((2 : Int32) &&& 31).toUInt32).toInt32) &&& (3 : Int32)) := ⟨_, rfl⟩
    have II := own_i4 _ ii d_ii
    have JJ := own_i4 _ jj d_jj
    have V_tmp := V_b4
    obtain ⟨cl13, Ar13, S13, n13, H13⟩ := V_tmp
    have hin13 : ¬ (ii < 0 ∨ cl13.slots.size ≤ (ii).toNatClampNeg) := inb_of S13 II
    have hat13 : cl13.slots[(ii).toNatClampNeg]? = some (.long (gt ii)) := H13 _ hin13
    have V_tmp := V_b4
    obtain ⟨cl14, Ar14, S14, n14, H14⟩ := V_tmp
    have hin14 : ¬ (ii < 0 ∨ cl14.slots.size ≤ (ii).toNatClampNeg) := inb_of S14 II
    obtain ⟨T14, h14, X14, e14, W14, st14⟩ := stJ X12 hx hZ e12 Ar14 (j := ii) hin14 (g := (mkF m 89 #[.val (.long q1), .second, .val (.long q2), .second, .val (.long q3), .second, .val (.int p4), .val (.ref b1), .val (.ref bs), .val (.ref b4), .val (.int ii), .val (.int jj), .unset, .unset, .unset, .unset] [(.long ((gt ii) ^^^ q2)), (.int ii), (.ref b4)])) rfl rfl (hb hby at_89)
    obtain ⟨ga14, d_ga14⟩ : ∃ z : Int32 → Int64, z = fun i => if i = ii then ((gt ii) ^^^ q2) else gt i := ⟨_, rfl⟩
    have V_bs := V_bs.other W14 ne_bs_b4
    have V_b4 : own_Arf Z h14 b4 .long (4 : Int32) (fun i => .long (ga14 i)) := (own_Arf.upd Ar14 S14 n14 H14 W14 hin14).cong (fun i => by rw [d_ga14]; dsimp only; split <;> rfl)
    have F_b1_a := F_b1_a.other W14 (Or.inl ne_b1_b4)
    have F_b1_s := F_b1_s.other W14 (Or.inl ne_b1_b4)
    have F_b1_x0 := F_b1_x0.other W14 (Or.inl ne_b1_b4)
    have F_b1_x1 := F_b1_x1.other W14 (Or.inl ne_b1_b4)
    have E_b1 := E_b1.wr W14
    have Z0 : n0 ≤ h14.size := by rw [W14.size]; exact Z0
    have K0 := K0.wr W14 (Or.inr sz_b4)
    have N14 := Fr.snoc X14 N12 g_b4
    have V_tmp := V_b4
    obtain ⟨cl15, Ar15, S15, n15, H15⟩ := V_tmp
    have hin15 : ¬ (jj < 0 ∨ cl15.slots.size ≤ (jj).toNatClampNeg) := inb_of S15 JJ
    have hat15 : cl15.slots[(jj).toNatClampNeg]? = some (.long (ga14 jj)) := H15 _ hin15
    have V_tmp := V_b4
    obtain ⟨cl16, Ar16, S16, n16, H16⟩ := V_tmp
    have hin16 : ¬ (jj < 0 ∨ cl16.slots.size ≤ (jj).toNatClampNeg) := inb_of S16 JJ
    obtain ⟨T16, h16, X16, e16, W16, st16⟩ := stJ X14 hx hZ e14 Ar16 (j := jj) hin16 (g := (mkF m 102 #[.val (.long q1), .second, .val (.long q2), .second, .val (.long q3), .second, .val (.int p4), .val (.ref b1), .val (.ref bs), .val (.ref b4), .val (.int ii), .val (.int jj), .unset, .unset, .unset, .unset] [(.long ((ga14 jj) ^^^ q3)), (.int jj), (.ref b4)])) rfl rfl (hb hby at_102)
    obtain ⟨ga16, d_ga16⟩ : ∃ z : Int32 → Int64, z = fun i => if i = jj then ((ga14 jj) ^^^ q3) else ga14 i := ⟨_, rfl⟩
    have V_bs := V_bs.other W16 ne_bs_b4
    have V_b4 : own_Arf Z h16 b4 .long (4 : Int32) (fun i => .long (ga16 i)) := (own_Arf.upd Ar16 S16 n16 H16 W16 hin16).cong (fun i => by rw [d_ga16]; dsimp only; split <;> rfl)
    have F_b1_a := F_b1_a.other W16 (Or.inl ne_b1_b4)
    have F_b1_s := F_b1_s.other W16 (Or.inl ne_b1_b4)
    have F_b1_x0 := F_b1_x0.other W16 (Or.inl ne_b1_b4)
    have F_b1_x1 := F_b1_x1.other W16 (Or.inl ne_b1_b4)
    have E_b1 := E_b1.wr W16
    have Z0 : n0 ≤ h16.size := by rw [W16.size]; exact Z0
    have K0 := K0.wr W16 (Or.inr sz_b4)
    have N16 := Fr.snoc X16 N14 g_b4
    have G0 : gs (0 : Int32) = fa := by rw [d_gs]; rfl
    have G1 : gs (1 : Int32) = fs' := by rw [d_gs]; rfl
    have G2 : gs (2 : Int32) = fx := by rw [d_gs]; rfl
    have G3 : gs (3 : Int32) = fy := by rw [d_gs]; rfl
    have V_tmp := V_b4
    obtain ⟨cl17, Ar17, S17, n17, H17⟩ := V_tmp
    have hin17 : ¬ ((0 : Int32) < 0 ∨ cl17.slots.size ≤ ((0 : Int32)).toNatClampNeg) := inb_of S17 ⟨by decide, by decide⟩
    have hat17 : cl17.slots[((0 : Int32)).toNatClampNeg]? = some (.long (ga16 (0 : Int32))) := H17 _ hin17
    have V_tmp := V_bs
    obtain ⟨cl18, Ar18, S18, n18, H18⟩ := V_tmp
    have hin18 : ¬ ((0 : Int32) < 0 ∨ cl18.slots.size ≤ ((0 : Int32)).toNatClampNeg) := inb_of S18 ⟨by decide, by decide⟩
    have hat18 : cl18.slots[((0 : Int32)).toNatClampNeg]? = some (.long (gs (0 : Int32))) := H18 _ hin18
    have V_tmp := V_b4
    obtain ⟨cl19, Ar19, S19, n19, H19⟩ := V_tmp
    have hin19 : ¬ ((1 : Int32) < 0 ∨ cl19.slots.size ≤ ((1 : Int32)).toNatClampNeg) := inb_of S19 ⟨by decide, by decide⟩
    have hat19 : cl19.slots[((1 : Int32)).toNatClampNeg]? = some (.long (ga16 (1 : Int32))) := H19 _ hin19
    have V_tmp := V_bs
    obtain ⟨cl20, Ar20, S20, n20, H20⟩ := V_tmp
    have hin20 : ¬ ((1 : Int32) < 0 ∨ cl20.slots.size ≤ ((1 : Int32)).toNatClampNeg) := inb_of S20 ⟨by decide, by decide⟩
    have hat20 : cl20.slots[((1 : Int32)).toNatClampNeg]? = some (.long (gs (1 : Int32))) := H20 _ hin20
    have V_tmp := V_b4
    obtain ⟨cl21, Ar21, S21, n21, H21⟩ := V_tmp
    have hin21 : ¬ ((2 : Int32) < 0 ∨ cl21.slots.size ≤ ((2 : Int32)).toNatClampNeg) := inb_of S21 ⟨by decide, by decide⟩
    have hat21 : cl21.slots[((2 : Int32)).toNatClampNeg]? = some (.long (ga16 (2 : Int32))) := H21 _ hin21
    have V_tmp := V_bs
    obtain ⟨cl22, Ar22, S22, n22, H22⟩ := V_tmp
    have hin22 : ¬ ((2 : Int32) < 0 ∨ cl22.slots.size ≤ ((2 : Int32)).toNatClampNeg) := inb_of S22 ⟨by decide, by decide⟩
    have hat22 : cl22.slots[((2 : Int32)).toNatClampNeg]? = some (.long (gs (2 : Int32))) := H22 _ hin22
    have V_tmp := V_b4
    obtain ⟨cl23, Ar23, S23, n23, H23⟩ := V_tmp
    have hin23 : ¬ ((3 : Int32) < 0 ∨ cl23.slots.size ≤ ((3 : Int32)).toNatClampNeg) := inb_of S23 ⟨by decide, by decide⟩
    have hat23 : cl23.slots[((3 : Int32)).toNatClampNeg]? = some (.long (ga16 (3 : Int32))) := H23 _ hin23
    have V_tmp := V_bs
    obtain ⟨cl24, Ar24, S24, n24, H24⟩ := V_tmp
    have hin24 : ¬ ((3 : Int32) < 0 ∨ cl24.slots.size ≤ ((3 : Int32)).toNatClampNeg) := inb_of S24 ⟨by decide, by decide⟩
    have hat24 : cl24.slots[((3 : Int32)).toNatClampNeg]? = some (.long (gs (3 : Int32))) := H24 _ hin24
    obtain ⟨ex, d_ex⟩ : ∃ z : Int32, z = (if (ga16 (0 : Int32)) = (gs (0 : Int32)) then (if (ga16 (1 : Int32)) = (gs (1 : Int32)) then (if (ga16 (2 : Int32)) = (gs (2 : Int32)) then (if (ga16 (3 : Int32)) = (gs (3 : Int32)) then (1 : Int32) else (0 : Int32)) else (0 : Int32)) else (0 : Int32)) else (0 : Int32)) := ⟨_, rfl⟩
    have j25 : ∀ t, Steps p.tables e below (T16.setTop (mkF m 156 #[.val (.long q1), .second, .val (.long q2), .second, .val (.long q3), .second, .val (.int p4), .val (.ref b1), .val (.ref bs), .val (.ref b4), .val (.int ii), .val (.int jj), .unset, .unset, .unset, .unset] [(.int ex)])) t → Steps p.tables e below (T16.setTop (mkF m 112 #[.val (.long q1), .second, .val (.long q2), .second, .val (.long q3), .second, .val (.int p4), .val (.ref b1), .val (.ref bs), .val (.ref b4), .val (.int ii), .val (.int jj), .unset, .unset, .unset, .unset] [(.int (lcmpW (ga16 (0 : Int32)) (gs (0 : Int32))))])) t := by
      intro t k
      by_cases hj112 : (ga16 (0 : Int32)) = (gs (0 : Int32))
      · show Steps p.tables e below (T16.setTop (mkF m 112 #[.val (.long q1), .second, .val (.long q2), .second, .val (.long q3), .second, .val (.int p4), .val (.ref b1), .val (.ref bs), .val (.ref b4), .val (.int ii), .val (.int jj), .unset, .unset, .unset, .unset] [(.int (lcmpW (ga16 (0 : Int32)) (gs (0 : Int32))))])) _
        refine XS.ifNo X16.here hx rfl (hb hby at_112) rfl ((if0 _ _).trans (teq ((lw_eq _ _).mpr hj112)).2) ?_
        show Steps p.tables e below (T16.setTop (mkF m 115 #[.val (.long q1), .second, .val (.long q2), .second, .val (.long q3), .second, .val (.int p4), .val (.ref b1), .val (.ref bs), .val (.ref b4), .val (.int ii), .val (.int jj), .unset, .unset, .unset, .unset] [])) _
        refine XS.aload X16.here hx rfl (hb hby at_115) rfl rfl ?_
        show Steps p.tables e below (T16.setTop (mkF m 117 #[.val (.long q1), .second, .val (.long q2), .second, .val (.long q3), .second, .val (.int p4), .val (.ref b1), .val (.ref bs), .val (.ref b4), .val (.int ii), .val (.int jj), .unset, .unset, .unset, .unset] [(.ref b4)])) _
        refine XS.iconst X16.here hx rfl (hb hby at_117) ?_
        show Steps p.tables e below (T16.setTop (mkF m 118 #[.val (.long q1), .second, .val (.long q2), .second, .val (.long q3), .second, .val (.int p4), .val (.ref b1), .val (.ref bs), .val (.ref b4), .val (.int ii), .val (.int jj), .unset, .unset, .unset, .unset] [(.int (1 : Int32)), (.ref b4)])) _
        refine X16.laload hx (j := (1 : Int32)) (v := (.long (ga16 (1 : Int32)))) (by rw [e16]; exact Ar19.1) (State.isArrayOf_alike hZ.alike Ar19.2.1) Ar19.2.2 hin19 hat19 (g := (mkF m 118 #[.val (.long q1), .second, .val (.long q2), .second, .val (.long q3), .second, .val (.int p4), .val (.ref b1), .val (.ref bs), .val (.ref b4), .val (.int ii), .val (.int jj), .unset, .unset, .unset, .unset] [(.int (1 : Int32)), (.ref b4)])) rfl rfl (hb hby at_118) _ ?_
        show Steps p.tables e below (T16.setTop (mkF m 119 #[.val (.long q1), .second, .val (.long q2), .second, .val (.long q3), .second, .val (.int p4), .val (.ref b1), .val (.ref bs), .val (.ref b4), .val (.int ii), .val (.int jj), .unset, .unset, .unset, .unset] [(.long (ga16 (1 : Int32)))])) _
        refine XS.aload X16.here hx rfl (hb hby at_119) rfl rfl ?_
        show Steps p.tables e below (T16.setTop (mkF m 121 #[.val (.long q1), .second, .val (.long q2), .second, .val (.long q3), .second, .val (.int p4), .val (.ref b1), .val (.ref bs), .val (.ref b4), .val (.int ii), .val (.int jj), .unset, .unset, .unset, .unset] [(.ref bs), (.long (ga16 (1 : Int32)))])) _
        refine XS.iconst X16.here hx rfl (hb hby at_121) ?_
        show Steps p.tables e below (T16.setTop (mkF m 122 #[.val (.long q1), .second, .val (.long q2), .second, .val (.long q3), .second, .val (.int p4), .val (.ref b1), .val (.ref bs), .val (.ref b4), .val (.int ii), .val (.int jj), .unset, .unset, .unset, .unset] [(.int (1 : Int32)), (.ref bs), (.long (ga16 (1 : Int32)))])) _
        refine X16.laload hx (j := (1 : Int32)) (v := (.long (gs (1 : Int32)))) (by rw [e16]; exact Ar20.1) (State.isArrayOf_alike hZ.alike Ar20.2.1) Ar20.2.2 hin20 hat20 (g := (mkF m 122 #[.val (.long q1), .second, .val (.long q2), .second, .val (.long q3), .second, .val (.int p4), .val (.ref b1), .val (.ref bs), .val (.ref b4), .val (.int ii), .val (.int jj), .unset, .unset, .unset, .unset] [(.int (1 : Int32)), (.ref bs), (.long (ga16 (1 : Int32)))])) rfl rfl (hb hby at_122) _ ?_
        show Steps p.tables e below (T16.setTop (mkF m 123 #[.val (.long q1), .second, .val (.long q2), .second, .val (.long q3), .second, .val (.int p4), .val (.ref b1), .val (.ref bs), .val (.ref b4), .val (.int ii), .val (.int jj), .unset, .unset, .unset, .unset] [(.long (gs (1 : Int32))), (.long (ga16 (1 : Int32)))])) _
        refine XS.lcmp X16.here hx rfl (hb hby at_123) rfl ?_
        by_cases hj124 : (ga16 (1 : Int32)) = (gs (1 : Int32))
        · show Steps p.tables e below (T16.setTop (mkF m 124 #[.val (.long q1), .second, .val (.long q2), .second, .val (.long q3), .second, .val (.int p4), .val (.ref b1), .val (.ref bs), .val (.ref b4), .val (.int ii), .val (.int jj), .unset, .unset, .unset, .unset] [(.int (lcmpW (ga16 (1 : Int32)) (gs (1 : Int32))))])) _
          refine XS.ifNo X16.here hx rfl (hb hby at_124) rfl ((if0 _ _).trans (teq ((lw_eq _ _).mpr hj124)).2) ?_
          show Steps p.tables e below (T16.setTop (mkF m 127 #[.val (.long q1), .second, .val (.long q2), .second, .val (.long q3), .second, .val (.int p4), .val (.ref b1), .val (.ref bs), .val (.ref b4), .val (.int ii), .val (.int jj), .unset, .unset, .unset, .unset] [])) _
          refine XS.aload X16.here hx rfl (hb hby at_127) rfl rfl ?_
          show Steps p.tables e below (T16.setTop (mkF m 129 #[.val (.long q1), .second, .val (.long q2), .second, .val (.long q3), .second, .val (.int p4), .val (.ref b1), .val (.ref bs), .val (.ref b4), .val (.int ii), .val (.int jj), .unset, .unset, .unset, .unset] [(.ref b4)])) _
          refine XS.iconst X16.here hx rfl (hb hby at_129) ?_
          show Steps p.tables e below (T16.setTop (mkF m 130 #[.val (.long q1), .second, .val (.long q2), .second, .val (.long q3), .second, .val (.int p4), .val (.ref b1), .val (.ref bs), .val (.ref b4), .val (.int ii), .val (.int jj), .unset, .unset, .unset, .unset] [(.int (2 : Int32)), (.ref b4)])) _
          refine X16.laload hx (j := (2 : Int32)) (v := (.long (ga16 (2 : Int32)))) (by rw [e16]; exact Ar21.1) (State.isArrayOf_alike hZ.alike Ar21.2.1) Ar21.2.2 hin21 hat21 (g := (mkF m 130 #[.val (.long q1), .second, .val (.long q2), .second, .val (.long q3), .second, .val (.int p4), .val (.ref b1), .val (.ref bs), .val (.ref b4), .val (.int ii), .val (.int jj), .unset, .unset, .unset, .unset] [(.int (2 : Int32)), (.ref b4)])) rfl rfl (hb hby at_130) _ ?_
          show Steps p.tables e below (T16.setTop (mkF m 131 #[.val (.long q1), .second, .val (.long q2), .second, .val (.long q3), .second, .val (.int p4), .val (.ref b1), .val (.ref bs), .val (.ref b4), .val (.int ii), .val (.int jj), .unset, .unset, .unset, .unset] [(.long (ga16 (2 : Int32)))])) _
          refine XS.aload X16.here hx rfl (hb hby at_131) rfl rfl ?_
          show Steps p.tables e below (T16.setTop (mkF m 133 #[.val (.long q1), .second, .val (.long q2), .second, .val (.long q3), .second, .val (.int p4), .val (.ref b1), .val (.ref bs), .val (.ref b4), .val (.int ii), .val (.int jj), .unset, .unset, .unset, .unset] [(.ref bs), (.long (ga16 (2 : Int32)))])) _
          refine XS.iconst X16.here hx rfl (hb hby at_133) ?_
          show Steps p.tables e below (T16.setTop (mkF m 134 #[.val (.long q1), .second, .val (.long q2), .second, .val (.long q3), .second, .val (.int p4), .val (.ref b1), .val (.ref bs), .val (.ref b4), .val (.int ii), .val (.int jj), .unset, .unset, .unset, .unset] [(.int (2 : Int32)), (.ref bs), (.long (ga16 (2 : Int32)))])) _
          refine X16.laload hx (j := (2 : Int32)) (v := (.long (gs (2 : Int32)))) (by rw [e16]; exact Ar22.1) (State.isArrayOf_alike hZ.alike Ar22.2.1) Ar22.2.2 hin22 hat22 (g := (mkF m 134 #[.val (.long q1), .second, .val (.long q2), .second, .val (.long q3), .second, .val (.int p4), .val (.ref b1), .val (.ref bs), .val (.ref b4), .val (.int ii), .val (.int jj), .unset, .unset, .unset, .unset] [(.int (2 : Int32)), (.ref bs), (.long (ga16 (2 : Int32)))])) rfl rfl (hb hby at_134) _ ?_
          show Steps p.tables e below (T16.setTop (mkF m 135 #[.val (.long q1), .second, .val (.long q2), .second, .val (.long q3), .second, .val (.int p4), .val (.ref b1), .val (.ref bs), .val (.ref b4), .val (.int ii), .val (.int jj), .unset, .unset, .unset, .unset] [(.long (gs (2 : Int32))), (.long (ga16 (2 : Int32)))])) _
          refine XS.lcmp X16.here hx rfl (hb hby at_135) rfl ?_
          by_cases hj136 : (ga16 (2 : Int32)) = (gs (2 : Int32))
          · show Steps p.tables e below (T16.setTop (mkF m 136 #[.val (.long q1), .second, .val (.long q2), .second, .val (.long q3), .second, .val (.int p4), .val (.ref b1), .val (.ref bs), .val (.ref b4), .val (.int ii), .val (.int jj), .unset, .unset, .unset, .unset] [(.int (lcmpW (ga16 (2 : Int32)) (gs (2 : Int32))))])) _
            refine XS.ifNo X16.here hx rfl (hb hby at_136) rfl ((if0 _ _).trans (teq ((lw_eq _ _).mpr hj136)).2) ?_
            show Steps p.tables e below (T16.setTop (mkF m 139 #[.val (.long q1), .second, .val (.long q2), .second, .val (.long q3), .second, .val (.int p4), .val (.ref b1), .val (.ref bs), .val (.ref b4), .val (.int ii), .val (.int jj), .unset, .unset, .unset, .unset] [])) _
            refine XS.aload X16.here hx rfl (hb hby at_139) rfl rfl ?_
            show Steps p.tables e below (T16.setTop (mkF m 141 #[.val (.long q1), .second, .val (.long q2), .second, .val (.long q3), .second, .val (.int p4), .val (.ref b1), .val (.ref bs), .val (.ref b4), .val (.int ii), .val (.int jj), .unset, .unset, .unset, .unset] [(.ref b4)])) _
            refine XS.iconst X16.here hx rfl (hb hby at_141) ?_
            show Steps p.tables e below (T16.setTop (mkF m 142 #[.val (.long q1), .second, .val (.long q2), .second, .val (.long q3), .second, .val (.int p4), .val (.ref b1), .val (.ref bs), .val (.ref b4), .val (.int ii), .val (.int jj), .unset, .unset, .unset, .unset] [(.int (3 : Int32)), (.ref b4)])) _
            refine X16.laload hx (j := (3 : Int32)) (v := (.long (ga16 (3 : Int32)))) (by rw [e16]; exact Ar23.1) (State.isArrayOf_alike hZ.alike Ar23.2.1) Ar23.2.2 hin23 hat23 (g := (mkF m 142 #[.val (.long q1), .second, .val (.long q2), .second, .val (.long q3), .second, .val (.int p4), .val (.ref b1), .val (.ref bs), .val (.ref b4), .val (.int ii), .val (.int jj), .unset, .unset, .unset, .unset] [(.int (3 : Int32)), (.ref b4)])) rfl rfl (hb hby at_142) _ ?_
            show Steps p.tables e below (T16.setTop (mkF m 143 #[.val (.long q1), .second, .val (.long q2), .second, .val (.long q3), .second, .val (.int p4), .val (.ref b1), .val (.ref bs), .val (.ref b4), .val (.int ii), .val (.int jj), .unset, .unset, .unset, .unset] [(.long (ga16 (3 : Int32)))])) _
            refine XS.aload X16.here hx rfl (hb hby at_143) rfl rfl ?_
            show Steps p.tables e below (T16.setTop (mkF m 145 #[.val (.long q1), .second, .val (.long q2), .second, .val (.long q3), .second, .val (.int p4), .val (.ref b1), .val (.ref bs), .val (.ref b4), .val (.int ii), .val (.int jj), .unset, .unset, .unset, .unset] [(.ref bs), (.long (ga16 (3 : Int32)))])) _
            refine XS.iconst X16.here hx rfl (hb hby at_145) ?_
            show Steps p.tables e below (T16.setTop (mkF m 146 #[.val (.long q1), .second, .val (.long q2), .second, .val (.long q3), .second, .val (.int p4), .val (.ref b1), .val (.ref bs), .val (.ref b4), .val (.int ii), .val (.int jj), .unset, .unset, .unset, .unset] [(.int (3 : Int32)), (.ref bs), (.long (ga16 (3 : Int32)))])) _
            refine X16.laload hx (j := (3 : Int32)) (v := (.long (gs (3 : Int32)))) (by rw [e16]; exact Ar24.1) (State.isArrayOf_alike hZ.alike Ar24.2.1) Ar24.2.2 hin24 hat24 (g := (mkF m 146 #[.val (.long q1), .second, .val (.long q2), .second, .val (.long q3), .second, .val (.int p4), .val (.ref b1), .val (.ref bs), .val (.ref b4), .val (.int ii), .val (.int jj), .unset, .unset, .unset, .unset] [(.int (3 : Int32)), (.ref bs), (.long (ga16 (3 : Int32)))])) rfl rfl (hb hby at_146) _ ?_
            show Steps p.tables e below (T16.setTop (mkF m 147 #[.val (.long q1), .second, .val (.long q2), .second, .val (.long q3), .second, .val (.int p4), .val (.ref b1), .val (.ref bs), .val (.ref b4), .val (.int ii), .val (.int jj), .unset, .unset, .unset, .unset] [(.long (gs (3 : Int32))), (.long (ga16 (3 : Int32)))])) _
            refine XS.lcmp X16.here hx rfl (hb hby at_147) rfl ?_
            by_cases hj148 : (ga16 (3 : Int32)) = (gs (3 : Int32))
            · have q_ex : ex = (1 : Int32) := by rw [d_ex, if_pos hj112, if_pos hj124, if_pos hj136, if_pos hj148]
              show Steps p.tables e below (T16.setTop (mkF m 148 #[.val (.long q1), .second, .val (.long q2), .second, .val (.long q3), .second, .val (.int p4), .val (.ref b1), .val (.ref bs), .val (.ref b4), .val (.int ii), .val (.int jj), .unset, .unset, .unset, .unset] [(.int (lcmpW (ga16 (3 : Int32)) (gs (3 : Int32))))])) _
              refine XS.ifNo X16.here hx rfl (hb hby at_148) rfl ((if0 _ _).trans (teq ((lw_eq _ _).mpr hj148)).2) ?_
              show Steps p.tables e below (T16.setTop (mkF m 151 #[.val (.long q1), .second, .val (.long q2), .second, .val (.long q3), .second, .val (.int p4), .val (.ref b1), .val (.ref bs), .val (.ref b4), .val (.int ii), .val (.int jj), .unset, .unset, .unset, .unset] [])) _
              refine XS.iconst X16.here hx rfl (hb hby at_151) ?_
              show Steps p.tables e below (T16.setTop (mkF m 152 #[.val (.long q1), .second, .val (.long q2), .second, .val (.long q3), .second, .val (.int p4), .val (.ref b1), .val (.ref bs), .val (.ref b4), .val (.int ii), .val (.int jj), .unset, .unset, .unset, .unset] [(.int (1 : Int32))])) _
              refine XS.goto X16.here hx rfl (pc0 := 152) (pc' := 156) rfl (hb hby at_152) (by decide) (by decide) ?_
              rw [q_ex] at k
              exact k
            · have q_ex : ex = (0 : Int32) := by rw [d_ex, if_pos hj112, if_pos hj124, if_pos hj136, if_neg hj148]
              show Steps p.tables e below (T16.setTop (mkF m 148 #[.val (.long q1), .second, .val (.long q2), .second, .val (.long q3), .second, .val (.int p4), .val (.ref b1), .val (.ref bs), .val (.ref b4), .val (.int ii), .val (.int jj), .unset, .unset, .unset, .unset] [(.int (lcmpW (ga16 (3 : Int32)) (gs (3 : Int32))))])) _
              refine XS.ifYes X16.here hx rfl (pc0 := 148) (pc' := 155) rfl (hb hby at_148) rfl ((if0 _ _).trans (feq (fun z => hj148 ((lw_eq _ _).mp z))).2) (by decide) (by decide) ?_
              show Steps p.tables e below (T16.setTop (mkF m 155 #[.val (.long q1), .second, .val (.long q2), .second, .val (.long q3), .second, .val (.int p4), .val (.ref b1), .val (.ref bs), .val (.ref b4), .val (.int ii), .val (.int jj), .unset, .unset, .unset, .unset] [])) _
              refine XS.iconst X16.here hx rfl (hb hby at_155) ?_
              rw [q_ex] at k
              exact k
          · have q_ex : ex = (0 : Int32) := by rw [d_ex, if_pos hj112, if_pos hj124, if_neg hj136]
            show Steps p.tables e below (T16.setTop (mkF m 136 #[.val (.long q1), .second, .val (.long q2), .second, .val (.long q3), .second, .val (.int p4), .val (.ref b1), .val (.ref bs), .val (.ref b4), .val (.int ii), .val (.int jj), .unset, .unset, .unset, .unset] [(.int (lcmpW (ga16 (2 : Int32)) (gs (2 : Int32))))])) _
            refine XS.ifYes X16.here hx rfl (pc0 := 136) (pc' := 155) rfl (hb hby at_136) rfl ((if0 _ _).trans (feq (fun z => hj136 ((lw_eq _ _).mp z))).2) (by decide) (by decide) ?_
            show Steps p.tables e below (T16.setTop (mkF m 155 #[.val (.long q1), .second, .val (.long q2), .second, .val (.long q3), .second, .val (.int p4), .val (.ref b1), .val (.ref bs), .val (.ref b4), .val (.int ii), .val (.int jj), .unset, .unset, .unset, .unset] [])) _
            refine XS.iconst X16.here hx rfl (hb hby at_155) ?_
            rw [q_ex] at k
            exact k
        · have q_ex : ex = (0 : Int32) := by rw [d_ex, if_pos hj112, if_neg hj124]
          show Steps p.tables e below (T16.setTop (mkF m 124 #[.val (.long q1), .second, .val (.long q2), .second, .val (.long q3), .second, .val (.int p4), .val (.ref b1), .val (.ref bs), .val (.ref b4), .val (.int ii), .val (.int jj), .unset, .unset, .unset, .unset] [(.int (lcmpW (ga16 (1 : Int32)) (gs (1 : Int32))))])) _
          refine XS.ifYes X16.here hx rfl (pc0 := 124) (pc' := 155) rfl (hb hby at_124) rfl ((if0 _ _).trans (feq (fun z => hj124 ((lw_eq _ _).mp z))).2) (by decide) (by decide) ?_
          show Steps p.tables e below (T16.setTop (mkF m 155 #[.val (.long q1), .second, .val (.long q2), .second, .val (.long q3), .second, .val (.int p4), .val (.ref b1), .val (.ref bs), .val (.ref b4), .val (.int ii), .val (.int jj), .unset, .unset, .unset, .unset] [])) _
          refine XS.iconst X16.here hx rfl (hb hby at_155) ?_
          rw [q_ex] at k
          exact k
      · have q_ex : ex = (0 : Int32) := by rw [d_ex, if_neg hj112]
        show Steps p.tables e below (T16.setTop (mkF m 112 #[.val (.long q1), .second, .val (.long q2), .second, .val (.long q3), .second, .val (.int p4), .val (.ref b1), .val (.ref bs), .val (.ref b4), .val (.int ii), .val (.int jj), .unset, .unset, .unset, .unset] [(.int (lcmpW (ga16 (0 : Int32)) (gs (0 : Int32))))])) _
        refine XS.ifYes X16.here hx rfl (pc0 := 112) (pc' := 155) rfl (hb hby at_112) rfl ((if0 _ _).trans (feq (fun z => hj112 ((lw_eq _ _).mp z))).2) (by decide) (by decide) ?_
        show Steps p.tables e below (T16.setTop (mkF m 155 #[.val (.long q1), .second, .val (.long q2), .second, .val (.long q3), .second, .val (.int p4), .val (.ref b1), .val (.ref bs), .val (.ref b4), .val (.int ii), .val (.int jj), .unset, .unset, .unset, .unset] [])) _
        refine XS.iconst X16.here hx rfl (hb hby at_155) ?_
        rw [q_ex] at k
        exact k
    obtain ⟨cq26, kq26, q26a, q26b, q26c⟩ := isOf hZ e16 E_b1
    obtain ⟨_, _, ⟨T26, L26, k26, n26⟩, -, X26, ⟨Lc26, hQ26, l26, y26, z26⟩, st26⟩ := X16.virtualBack hx (y := (⟨"com/example/driftline/driftline/model/LxmRandom", "inState", "([J)Z"⟩ : MethodName)) (z := (⟨"com/example/driftline/driftline/model/LxmRandom", "inState", "([J)Z"⟩ : MethodName)) hown (mvT hZ (hw _ (List.mem_of_getElem? (i := 35) rfl))) (mvT hZ (hw _ (List.mem_of_getElem? (i := 36) rfl))) (notFace_of_selects (args := #[]) (mvT hZ (hw _ (List.mem_of_getElem? (i := 38) rfl)))) (mvT hZ (hw _ (List.mem_of_getElem? (i := 38) rfl))) (mvT hZ (hw _ (List.mem_of_getElem? (i := 37) rfl))) (by decide) (backOf (W := 0) (rm6 l Z a0 hw [] b1 bs fa fs' fx fy gs h16 n0 Z0 F_b1_a F_b1_s F_b1_x0 F_b1_x1 V_bs) hZ (hw _ (List.mem_of_getElem? (i := 39) rfl)) (hw _ (List.mem_of_getElem? (i := 2) rfl)) (by decide) (by decide)) q26a q26c (g := (mkF m 162 #[.val (.long q1), .second, .val (.long q2), .second, .val (.long q3), .second, .val (.int p4), .val (.ref b1), .val (.ref bs), .val (.ref b4), .val (.int ii), .val (.int jj), .val (.int ex), .unset, .unset, .unset] [(.ref bs), (.ref b1)])) rfl (by rw [hml]; rfl) (Steps.refl _) (argsL := [(.ref bs)]) (rest := []) (lenOf pd_4 rfl) rfl (by show 2 * 0 + _ ≤ _; exact Nat.le_of_eq rfl) (hb hby at_162) (fun _ _ => ⟨rfl, e16, (by decide : 3 + 0 ≤ _), (by decide : 12 + 0 ≤ _)⟩)
    dsimp only [Pt.U, Pt.locs, Pt.cells, Pt.slots] at X26 l26 y26 z26 st26 hQ26
    subst l26 y26 z26
    obtain ⟨fst, rfl, d_fst, N26q, e26⟩ := hQ26
    have N26 := Fr.app N16 N26q
    obtain ⟨cq27, kq27, q27a, q27b, q27c⟩ := isOf hZ e26 E_b1
    obtain ⟨_, _, ⟨T27, L27, k27, n27⟩, -, X27, ⟨Lc27, hQ27, l27, y27, z27⟩, st27⟩ := X26.virtualBack hx (y := (⟨"com/example/driftline/driftline/model/LxmRandom", "inState", "([J)Z"⟩ : MethodName)) (z := (⟨"com/example/driftline/driftline/model/LxmRandom", "inState", "([J)Z"⟩ : MethodName)) hown (mvT hZ (hw _ (List.mem_of_getElem? (i := 35) rfl))) (mvT hZ (hw _ (List.mem_of_getElem? (i := 36) rfl))) (notFace_of_selects (args := #[]) (mvT hZ (hw _ (List.mem_of_getElem? (i := 38) rfl)))) (mvT hZ (hw _ (List.mem_of_getElem? (i := 38) rfl))) (mvT hZ (hw _ (List.mem_of_getElem? (i := 37) rfl))) (by decide) (backOf (W := 0) (rm6 l Z a0 hw [] b1 b4 fa fs' fx fy ga16 h16 n0 Z0 F_b1_a F_b1_s F_b1_x0 F_b1_x1 V_b4) hZ (hw _ (List.mem_of_getElem? (i := 39) rfl)) (hw _ (List.mem_of_getElem? (i := 2) rfl)) (by decide) (by decide)) q27a q27c (g := (mkF m 171 #[.val (.long q1), .second, .val (.long q2), .second, .val (.long q3), .second, .val (.int p4), .val (.ref b1), .val (.ref bs), .val (.ref b4), .val (.int ii), .val (.int jj), .val (.int ex), .val (.int fst), .unset, .unset] [(.ref b4), (.ref b1)])) rfl (by rw [hml]; rfl) (Steps.refl _) (argsL := [(.ref b4)]) (rest := []) (lenOf pd_4 rfl) rfl (by show 2 * 0 + _ ≤ _; exact Nat.le_of_eq rfl) (hb hby at_171) (fun _ _ => ⟨rfl, e26, (by decide : 3 + 0 ≤ _), (by decide : 12 + 0 ≤ _)⟩)
    dsimp only [Pt.U, Pt.locs, Pt.cells, Pt.slots] at X27 l27 y27 z27 st27 hQ27
    subst l27 y27 z27
    obtain ⟨snd, rfl, d_snd, N27q, e27⟩ := hQ27
    have N27 := Fr.app N26 N27q
    obtain ⟨cq28, kq28, q28a, q28b, q28c⟩ := isOf hZ e27 E_b1
    obtain ⟨_, _, ⟨T28, L28, k28, n28⟩, -, X28, ⟨Lc28, hQ28, l28, y28, z28⟩, st28⟩ := X27.virtualBack hx (y := (⟨"com/example/driftline/driftline/model/LxmRandom", "inState", "([J)Z"⟩ : MethodName)) (z := (⟨"com/example/driftline/driftline/model/LxmRandom", "inState", "([J)Z"⟩ : MethodName)) hown (mvT hZ (hw _ (List.mem_of_getElem? (i := 35) rfl))) (mvT hZ (hw _ (List.mem_of_getElem? (i := 36) rfl))) (notFace_of_selects (args := #[]) (mvT hZ (hw _ (List.mem_of_getElem? (i := 38) rfl)))) (mvT hZ (hw _ (List.mem_of_getElem? (i := 38) rfl))) (mvT hZ (hw _ (List.mem_of_getElem? (i := 37) rfl))) (by decide) (backOf (W := 0) (rm6 l Z a0 hw [] b1 bs fa fs' fx fy gs h16 n0 Z0 F_b1_a F_b1_s F_b1_x0 F_b1_x1 V_bs) hZ (hw _ (List.mem_of_getElem? (i := 39) rfl)) (hw _ (List.mem_of_getElem? (i := 2) rfl)) (by decide) (by decide)) q28a q28c (g := (mkF m 180 #[.val (.long q1), .second, .val (.long q2), .second, .val (.long q3), .second, .val (.int p4), .val (.ref b1), .val (.ref bs), .val (.ref b4), .val (.int ii), .val (.int jj), .val (.int ex), .val (.int fst), .val (.int snd), .unset] [(.ref bs), (.ref b1)])) rfl (by rw [hml]; rfl) (Steps.refl _) (argsL := [(.ref bs)]) (rest := []) (lenOf pd_4 rfl) rfl (by show 2 * 0 + _ ≤ _; exact Nat.le_of_eq rfl) (hb hby at_180) (fun _ _ => ⟨rfl, e27, (by decide : 3 + 0 ≤ _), (by decide : 12 + 0 ≤ _)⟩)
    dsimp only [Pt.U, Pt.locs, Pt.cells, Pt.slots] at X28 l28 y28 z28 st28 hQ28
    subst l28 y28 z28
    obtain ⟨trd, rfl, d_trd, N28q, e28⟩ := hQ28
    have N28 := Fr.app N27 N28q
    have hc187 : ¬ (fst = (0 : Int32)) := by rw [d_fst, if_pos ⟨G1.symm, G2.symm, G3.symm, G0.symm⟩]; decide
    have hc194 : snd = ex := by rw [d_snd, d_ex, G0, G1, G2, G3]; exact own_law _ _ _ _ _ _ _ _
    have hc199 : ¬ (trd = (0 : Int32)) := by rw [d_trd, if_pos ⟨G1.symm, G2.symm, G3.symm, G0.symm⟩]; decide
    obtain ⟨fs, hr, hrun, hended, hW, hsame⟩ := X28.leave (v := some (.int (1 : Int32))) (fun h => by rw [Bd.returns] at h; cases h)
    refine ⟨_, _, ?_, hrun, hended, _, _, rfl, ?_, ⟨_, rfl⟩, hW, hsame.mono (by decide) (by decide)⟩
    · show Steps p.tables e below (T2.setTop (mkF m 15 #[.val (.long q1), .second, .val (.long q2), .second, .val (.long q3), .second, .val (.int p4), .val (.ref b1), .unset, .unset, .unset, .unset, .unset, .unset, .unset, .unset] [(.int (p4 &&& (16 : Int32)))])) _
      refine XS.ifYes X2.here hx rfl (pc0 := 15) (pc' := 24) rfl (hb hby at_15) rfl ((if0 _ _).trans (teq hc15).1) (by decide) (by decide) ?_
      show Steps p.tables e below (T2.setTop (mkF m 24 #[.val (.long q1), .second, .val (.long q2), .second, .val (.long q3), .second, .val (.int p4), .val (.ref b1), .unset, .unset, .unset, .unset, .unset, .unset, .unset, .unset] [])) _
      refine XS.aload X2.here hx rfl (hb hby at_24) rfl rfl ?_
      show Steps p.tables e below (T2.setTop (mkF m 26 #[.val (.long q1), .second, .val (.long q2), .second, .val (.long q3), .second, .val (.int p4), .val (.ref b1), .unset, .unset, .unset, .unset, .unset, .unset, .unset, .unset] [(.ref b1)])) _
      refine st3.trans ?_
      show Steps p.tables e below (T3.setTop (mkF m 29 #[.val (.long q1), .second, .val (.long q2), .second, .val (.long q3), .second, .val (.int p4), .val (.ref b1), .unset, .unset, .unset, .unset, .unset, .unset, .unset, .unset] [(.ref bs)])) _
      refine XS.astore X3.here hx rfl (hb hby at_29) rfl rfl (l' := #[.val (.long q1), .second, .val (.long q2), .second, .val (.long q3), .second, .val (.int p4), .val (.ref b1), .val (.ref bs), .unset, .unset, .unset, .unset, .unset, .unset, .unset]) rfl ?_
      show Steps p.tables e below (T3.setTop (mkF m 31 #[.val (.long q1), .second, .val (.long q2), .second, .val (.long q3), .second, .val (.int p4), .val (.ref b1), .val (.ref bs), .unset, .unset, .unset, .unset, .unset, .unset, .unset] [])) _
      refine XS.iconst X3.here hx rfl (hb hby at_31) ?_
      show Steps p.tables e below (T3.setTop (mkF m 32 #[.val (.long q1), .second, .val (.long q2), .second, .val (.long q3), .second, .val (.int p4), .val (.ref b1), .val (.ref bs), .unset, .unset, .unset, .unset, .unset, .unset, .unset] [(.int (4 : Int32))])) _
      refine st4 _ ?_
      show Steps p.tables e below (T4.setTop (mkF m 34 #[.val (.long q1), .second, .val (.long q2), .second, .val (.long q3), .second, .val (.int p4), .val (.ref b1), .val (.ref bs), .unset, .unset, .unset, .unset, .unset, .unset, .unset] [(.ref b4)])) _
      refine XS.dup X4.here hx rfl (hb hby at_34) rfl rfl ?_
      show Steps p.tables e below (T4.setTop (mkF m 35 #[.val (.long q1), .second, .val (.long q2), .second, .val (.long q3), .second, .val (.int p4), .val (.ref b1), .val (.ref bs), .unset, .unset, .unset, .unset, .unset, .unset, .unset] [(.ref b4), (.ref b4)])) _
      refine XS.iconst X4.here hx rfl (hb hby at_35) ?_
      show Steps p.tables e below (T4.setTop (mkF m 36 #[.val (.long q1), .second, .val (.long q2), .second, .val (.long q3), .second, .val (.int p4), .val (.ref b1), .val (.ref bs), .unset, .unset, .unset, .unset, .unset, .unset, .unset] [(.int (0 : Int32)), (.ref b4), (.ref b4)])) _
      refine XS.aload X4.here hx rfl (hb hby at_36) rfl rfl ?_
      show Steps p.tables e below (T4.setTop (mkF m 38 #[.val (.long q1), .second, .val (.long q2), .second, .val (.long q3), .second, .val (.int p4), .val (.ref b1), .val (.ref bs), .unset, .unset, .unset, .unset, .unset, .unset, .unset] [(.ref bs), (.int (0 : Int32)), (.ref b4), (.ref b4)])) _
      refine XS.iconst X4.here hx rfl (hb hby at_38) ?_
      show Steps p.tables e below (T4.setTop (mkF m 39 #[.val (.long q1), .second, .val (.long q2), .second, .val (.long q3), .second, .val (.int p4), .val (.ref b1), .val (.ref bs), .unset, .unset, .unset, .unset, .unset, .unset, .unset] [(.int (0 : Int32)), (.ref bs), (.int (0 : Int32)), (.ref b4), (.ref b4)])) _
      refine X4.laload hx (j := (0 : Int32)) (v := (.long (gs (0 : Int32)))) (by rw [e4]; exact Ar5.1) (State.isArrayOf_alike hZ.alike Ar5.2.1) Ar5.2.2 hin5 hat5 (g := (mkF m 39 #[.val (.long q1), .second, .val (.long q2), .second, .val (.long q3), .second, .val (.int p4), .val (.ref b1), .val (.ref bs), .unset, .unset, .unset, .unset, .unset, .unset, .unset] [(.int (0 : Int32)), (.ref bs), (.int (0 : Int32)), (.ref b4), (.ref b4)])) rfl rfl (hb hby at_39) _ ?_
      show Steps p.tables e below (T4.setTop (mkF m 40 #[.val (.long q1), .second, .val (.long q2), .second, .val (.long q3), .second, .val (.int p4), .val (.ref b1), .val (.ref bs), .unset, .unset, .unset, .unset, .unset, .unset, .unset] [(.long (gs (0 : Int32))), (.int (0 : Int32)), (.ref b4), (.ref b4)])) _
      refine st6 _ ?_
      show Steps p.tables e below (T6.setTop (mkF m 41 #[.val (.long q1), .second, .val (.long q2), .second, .val (.long q3), .second, .val (.int p4), .val (.ref b1), .val (.ref bs), .unset, .unset, .unset, .unset, .unset, .unset, .unset] [(.ref b4)])) _
      refine XS.dup X6.here hx rfl (hb hby at_41) rfl rfl ?_
      show Steps p.tables e below (T6.setTop (mkF m 42 #[.val (.long q1), .second, .val (.long q2), .second, .val (.long q3), .second, .val (.int p4), .val (.ref b1), .val (.ref bs), .unset, .unset, .unset, .unset, .unset, .unset, .unset] [(.ref b4), (.ref b4)])) _
      refine XS.iconst X6.here hx rfl (hb hby at_42) ?_
      show Steps p.tables e below (T6.setTop (mkF m 43 #[.val (.long q1), .second, .val (.long q2), .second, .val (.long q3), .second, .val (.int p4), .val (.ref b1), .val (.ref bs), .unset, .unset, .unset, .unset, .unset, .unset, .unset] [(.int (1 : Int32)), (.ref b4), (.ref b4)])) _
      refine XS.aload X6.here hx rfl (hb hby at_43) rfl rfl ?_
      show Steps p.tables e below (T6.setTop (mkF m 45 #[.val (.long q1), .second, .val (.long q2), .second, .val (.long q3), .second, .val (.int p4), .val (.ref b1), .val (.ref bs), .unset, .unset, .unset, .unset, .unset, .unset, .unset] [(.ref bs), (.int (1 : Int32)), (.ref b4), (.ref b4)])) _
      refine XS.iconst X6.here hx rfl (hb hby at_45) ?_
      show Steps p.tables e below (T6.setTop (mkF m 46 #[.val (.long q1), .second, .val (.long q2), .second, .val (.long q3), .second, .val (.int p4), .val (.ref b1), .val (.ref bs), .unset, .unset, .unset, .unset, .unset, .unset, .unset] [(.int (1 : Int32)), (.ref bs), (.int (1 : Int32)), (.ref b4), (.ref b4)])) _
      refine X6.laload hx (j := (1 : Int32)) (v := (.long (gs (1 : Int32)))) (by rw [e6]; exact Ar7.1) (State.isArrayOf_alike hZ.alike Ar7.2.1) Ar7.2.2 hin7 hat7 (g := (mkF m 46 #[.val (.long q1), .second, .val (.long q2), .second, .val (.long q3), .second, .val (.int p4), .val (.ref b1), .val (.ref bs), .unset, .unset, .unset, .unset, .unset, .unset, .unset] [(.int (1 : Int32)), (.ref bs), (.int (1 : Int32)), (.ref b4), (.ref b4)])) rfl rfl (hb hby at_46) _ ?_
      show Steps p.tables e below (T6.setTop (mkF m 47 #[.val (.long q1), .second, .val (.long q2), .second, .val (.long q3), .second, .val (.int p4), .val (.ref b1), .val (.ref bs), .unset, .unset, .unset, .unset, .unset, .unset, .unset] [(.long (gs (1 : Int32))), (.int (1 : Int32)), (.ref b4), (.ref b4)])) _
      refine st8 _ ?_
      show Steps p.tables e below (T8.setTop (mkF m 48 #[.val (.long q1), .second, .val (.long q2), .second, .val (.long q3), .second, .val (.int p4), .val (.ref b1), .val (.ref bs), .unset, .unset, .unset, .unset, .unset, .unset, .unset] [(.ref b4)])) _
      refine XS.dup X8.here hx rfl (hb hby at_48) rfl rfl ?_
      show Steps p.tables e below (T8.setTop (mkF m 49 #[.val (.long q1), .second, .val (.long q2), .second, .val (.long q3), .second, .val (.int p4), .val (.ref b1), .val (.ref bs), .unset, .unset, .unset, .unset, .unset, .unset, .unset] [(.ref b4), (.ref b4)])) _
      refine XS.iconst X8.here hx rfl (hb hby at_49) ?_
      show Steps p.tables e below (T8.setTop (mkF m 50 #[.val (.long q1), .second, .val (.long q2), .second, .val (.long q3), .second, .val (.int p4), .val (.ref b1), .val (.ref bs), .unset, .unset, .unset, .unset, .unset, .unset, .unset] [(.int (2 : Int32)), (.ref b4), (.ref b4)])) _
      refine XS.aload X8.here hx rfl (hb hby at_50) rfl rfl ?_
      show Steps p.tables e below (T8.setTop (mkF m 52 #[.val (.long q1), .second, .val (.long q2), .second, .val (.long q3), .second, .val (.int p4), .val (.ref b1), .val (.ref bs), .unset, .unset, .unset, .unset, .unset, .unset, .unset] [(.ref bs), (.int (2 : Int32)), (.ref b4), (.ref b4)])) _
      refine XS.iconst X8.here hx rfl (hb hby at_52) ?_
      show Steps p.tables e below (T8.setTop (mkF m 53 #[.val (.long q1), .second, .val (.long q2), .second, .val (.long q3), .second, .val (.int p4), .val (.ref b1), .val (.ref bs), .unset, .unset, .unset, .unset, .unset, .unset, .unset] [(.int (2 : Int32)), (.ref bs), (.int (2 : Int32)), (.ref b4), (.ref b4)])) _
      refine X8.laload hx (j := (2 : Int32)) (v := (.long (gs (2 : Int32)))) (by rw [e8]; exact Ar9.1) (State.isArrayOf_alike hZ.alike Ar9.2.1) Ar9.2.2 hin9 hat9 (g := (mkF m 53 #[.val (.long q1), .second, .val (.long q2), .second, .val (.long q3), .second, .val (.int p4), .val (.ref b1), .val (.ref bs), .unset, .unset, .unset, .unset, .unset, .unset, .unset] [(.int (2 : Int32)), (.ref bs), (.int (2 : Int32)), (.ref b4), (.ref b4)])) rfl rfl (hb hby at_53) _ ?_
      show Steps p.tables e below (T8.setTop (mkF m 54 #[.val (.long q1), .second, .val (.long q2), .second, .val (.long q3), .second, .val (.int p4), .val (.ref b1), .val (.ref bs), .unset, .unset, .unset, .unset, .unset, .unset, .unset] [(.long (gs (2 : Int32))), (.int (2 : Int32)), (.ref b4), (.ref b4)])) _
      refine st10 _ ?_
      show Steps p.tables e below (T10.setTop (mkF m 55 #[.val (.long q1), .second, .val (.long q2), .second, .val (.long q3), .second, .val (.int p4), .val (.ref b1), .val (.ref bs), .unset, .unset, .unset, .unset, .unset, .unset, .unset] [(.ref b4)])) _
      refine XS.dup X10.here hx rfl (hb hby at_55) rfl rfl ?_
      show Steps p.tables e below (T10.setTop (mkF m 56 #[.val (.long q1), .second, .val (.long q2), .second, .val (.long q3), .second, .val (.int p4), .val (.ref b1), .val (.ref bs), .unset, .unset, .unset, .unset, .unset, .unset, .unset] [(.ref b4), (.ref b4)])) _
      refine XS.iconst X10.here hx rfl (hb hby at_56) ?_
      show Steps p.tables e below (T10.setTop (mkF m 57 #[.val (.long q1), .second, .val (.long q2), .second, .val (.long q3), .second, .val (.int p4), .val (.ref b1), .val (.ref bs), .unset, .unset, .unset, .unset, .unset, .unset, .unset] [(.int (3 : Int32)), (.ref b4), (.ref b4)])) _
      refine XS.aload X10.here hx rfl (hb hby at_57) rfl rfl ?_
      show Steps p.tables e below (T10.setTop (mkF m 59 #[.val (.long q1), .second, .val (.long q2), .second, .val (.long q3), .second, .val (.int p4), .val (.ref b1), .val (.ref bs), .unset, .unset, .unset, .unset, .unset, .unset, .unset] [(.ref bs), (.int (3 : Int32)), (.ref b4), (.ref b4)])) _
      refine XS.iconst X10.here hx rfl (hb hby at_59) ?_
      show Steps p.tables e below (T10.setTop (mkF m 60 #[.val (.long q1), .second, .val (.long q2), .second, .val (.long q3), .second, .val (.int p4), .val (.ref b1), .val (.ref bs), .unset, .unset, .unset, .unset, .unset, .unset, .unset] [(.int (3 : Int32)), (.ref bs), (.int (3 : Int32)), (.ref b4), (.ref b4)])) _
      refine X10.laload hx (j := (3 : Int32)) (v := (.long (gs (3 : Int32)))) (by rw [e10]; exact Ar11.1) (State.isArrayOf_alike hZ.alike Ar11.2.1) Ar11.2.2 hin11 hat11 (g := (mkF m 60 #[.val (.long q1), .second, .val (.long q2), .second, .val (.long q3), .second, .val (.int p4), .val (.ref b1), .val (.ref bs), .unset, .unset, .unset, .unset, .unset, .unset, .unset] [(.int (3 : Int32)), (.ref bs), (.int (3 : Int32)), (.ref b4), (.ref b4)])) rfl rfl (hb hby at_60) _ ?_
      show Steps p.tables e below (T10.setTop (mkF m 61 #[.val (.long q1), .second, .val (.long q2), .second, .val (.long q3), .second, .val (.int p4), .val (.ref b1), .val (.ref bs), .unset, .unset, .unset, .unset, .unset, .unset, .unset] [(.long (gs (3 : Int32))), (.int (3 : Int32)), (.ref b4), (.ref b4)])) _
      refine st12 _ ?_
      show Steps p.tables e below (T12.setTop (mkF m 62 #[.val (.long q1), .second, .val (.long q2), .second, .val (.long q3), .second, .val (.int p4), .val (.ref b1), .val (.ref bs), .unset, .unset, .unset, .unset, .unset, .unset, .unset] [(.ref b4)])) _
      refine XS.astore X12.here hx rfl (hb hby at_62) rfl rfl (l' := #[.val (.long q1), .second, .val (.long q2), .second, .val (.long q3), .second, .val (.int p4), .val (.ref b1), .val (.ref bs), .val (.ref b4), .unset, .unset, .unset, .unset, .unset, .unset]) rfl ?_
      show Steps p.tables e below (T12.setTop (mkF m 64 #[.val (.long q1), .second, .val (.long q2), .second, .val (.long q3), .second, .val (.int p4), .val (.ref b1), .val (.ref bs), .val (.ref b4), .unset, .unset, .unset, .unset, .unset, .unset] [])) _
      refine XS.iload X12.here hx rfl (hb hby at_64) rfl ?_
      show Steps p.tables e below (T12.setTop (mkF m 66 #[.val (.long q1), .second, .val (.long q2), .second, .val (.long q3), .second, .val (.int p4), .val (.ref b1), .val (.ref bs), .val (.ref b4), .unset, .unset, .unset, .unset, .unset, .unset] [(.int p4)])) _
      refine XS.iconst X12.here hx rfl (hb hby at_66) ?_
      show Steps p.tables e below (T12.setTop (mkF m 67 #[.val (.long q1), .second, .val (.long q2), .second, .val (.long q3), .second, .val (.int p4), .val (.ref b1), .val (.ref bs), .val (.ref b4), .unset, .unset, .unset, .unset, .unset, .unset] [(.int (3 : Int32)), (.int p4)])) _
      refine XS.iand X12.here hx rfl (hb hby at_67) rfl ?_
      show Steps p.tables e below (T12.setTop (mkF m 68 #[.val (.long q1), .second, .val (.long q2), .second, .val (.long q3), .second, .val (.int p4), .val (.ref b1), .val (.ref bs), .val (.ref b4), .unset, .unset, .unset, .unset, .unset, .unset] [(.int (p4 &&& (3 : Int32)))])) _
      rw [← d_ii]
      show Steps p.tables e below (T12.setTop (mkF m 68 #[.val (.long q1), .second, .val (.long q2), .second, .val (.long q3), .second, .val (.int p4), .val (.ref b1), .val (.ref bs), .val (.ref b4), .unset, .unset, .unset, .unset, .unset, .unset] [(.int ii)])) _
      refine XS.istore X12.here hx rfl (hb hby at_68) rfl (l' := #[.val (.long q1), .second, .val (.long q2), .second, .val (.long q3), .second, .val (.int p4), .val (.ref b1), .val (.ref bs), .val (.ref b4), .val (.int ii), .unset, .unset, .unset, .unset, .unset]) rfl ?_
      show Steps p.tables e below (T12.setTop (mkF m 70 #[.val (.long q1), .second, .val (.long q2), .second, .val (.long q3), .second, .val (.int p4), .val (.ref b1), .val (.ref bs), .val (.ref b4), .val (.int ii), .unset, .unset, .unset, .unset, .unset] [])) _
      refine XS.iload X12.here hx rfl (hb hby at_70) rfl ?_
      show Steps p.tables e below (T12.setTop (mkF m 72 #[.val (.long q1), .second, .val (.long q2), .second, .val (.long q3), .second, .val (.int p4), .val (.ref b1), .val (.ref bs), .val (.ref b4), .val (.int ii), .unset, .unset, .unset, .unset, .unset] [(.int p4)])) _
      refine XS.iconst X12.here hx rfl (hb hby at_72) ?_
      show Steps p.tables e below (T12.setTop (mkF m 73 #[.val (.long q1), .second, .val (.long q2), .second, .val (.long q3), .second, .val (.int p4), .val (.ref b1), .val (.ref bs), .val (.ref b4), .val (.int ii), .unset, .unset, .unset, .unset, .unset] [(.int (2 : Int32)), (.int p4)])) _
      refine XS.iushr X12.here hx rfl (hb hby at_73) rfl ?_
      show Steps p.tables e below (T12.setTop (mkF m 74 #[.val (.long q1), .second, .val (.long q2), .second, .val (.long q3), .second, .val (.int p4), .val (.ref b1), .val (.ref bs), .val (.ref b4), .val (.int ii), .unset, .unset, .unset, .unset, .unset] [(.int ((p4.toUInt32 >>> ((2 : Int32) &&& 31).toUInt32).toInt32))])) _
      refine XS.iconst X12.here hx rfl (hb hby at_74) ?_
      show Steps p.tables e below (T12.setTop (mkF m 75 #[.val (.long q1), .second, .val (.long q2), .second, .val (.long q3), .second, .val (.int p4), .val (.ref b1), .val (.ref bs), .val (.ref b4), .val (.int ii), .unset, .unset, .unset, .unset, .unset] [(.int (3 : Int32)), (.int ((p4.toUInt32 >>> ((2 : Int32) &&& 31).toUInt32).toInt32))])) _
      refine XS.iand X12.here hx rfl (hb hby at_75) rfl ?_
      show Steps p.tables e below (T12.setTop (mkF m 76 #[.val (.long q1), .second, .val (.long q2), .second, .val (.long q3), .second, .val (.int p4), .val (.ref b1), .val (.ref bs), .val (.ref b4), .val (.int ii), .unset, .unset, .unset, .unset, .unset] [(.int (((p4.toUInt32 >>> ((2 : Int32) &&& 31).toUInt32).toInt32) &&& (3 : Int32)))])) _
      rw [← d_jj]
      show Steps p.tables e below (T12.setTop (mkF m 76 #[.val (.long q1), .second, .val (.long q2), .second, .val (.long q3), .second, .val (.int p4), .val (.ref b1), .val (.ref bs), .val (.ref b4), .val (.int ii), .unset, .unset, .unset, .unset, .unset] [(.int jj)])) _
      refine XS.istore X12.here hx rfl (hb hby at_76) rfl (l' := #[.val (.long q1), .second, .val (.long q2), .second, .val (.long q3), .second, .val (.int p4), .val (.ref b1), .val (.ref bs), .val (.ref b4), .val (.int ii), .val (.int jj), .unset, .unset, .unset, .unset]) rfl ?_
      show Steps p.tables e below (T12.setTop (mkF m 78 #[.val (.long q1), .second, .val (.long q2), .second, .val (.long q3), .second, .val (.int p4), .val (.ref b1), .val (.ref bs), .val (.ref b4), .val (.int ii), .val (.int jj), .unset, .unset, .unset, .unset] [])) _
      refine XS.aload X12.here hx rfl (hb hby at_78) rfl rfl ?_
      show Steps p.tables e below (T12.setTop (mkF m 80 #[.val (.long q1), .second, .val (.long q2), .second, .val (.long q3), .second, .val (.int p4), .val (.ref b1), .val (.ref bs), .val (.ref b4), .val (.int ii), .val (.int jj), .unset, .unset, .unset, .unset] [(.ref b4)])) _
      refine XS.iload X12.here hx rfl (hb hby at_80) rfl ?_
      show Steps p.tables e below (T12.setTop (mkF m 82 #[.val (.long q1), .second, .val (.long q2), .second, .val (.long q3), .second, .val (.int p4), .val (.ref b1), .val (.ref bs), .val (.ref b4), .val (.int ii), .val (.int jj), .unset, .unset, .unset, .unset] [(.int ii), (.ref b4)])) _
      refine XS.aload X12.here hx rfl (hb hby at_82) rfl rfl ?_
      show Steps p.tables e below (T12.setTop (mkF m 84 #[.val (.long q1), .second, .val (.long q2), .second, .val (.long q3), .second, .val (.int p4), .val (.ref b1), .val (.ref bs), .val (.ref b4), .val (.int ii), .val (.int jj), .unset, .unset, .unset, .unset] [(.ref b4), (.int ii), (.ref b4)])) _
      refine XS.iload X12.here hx rfl (hb hby at_84) rfl ?_
      show Steps p.tables e below (T12.setTop (mkF m 86 #[.val (.long q1), .second, .val (.long q2), .second, .val (.long q3), .second, .val (.int p4), .val (.ref b1), .val (.ref bs), .val (.ref b4), .val (.int ii), .val (.int jj), .unset, .unset, .unset, .unset] [(.int ii), (.ref b4), (.int ii), (.ref b4)])) _
      refine X12.laload hx (j := ii) (v := (.long (gt ii))) (by rw [e12]; exact Ar13.1) (State.isArrayOf_alike hZ.alike Ar13.2.1) Ar13.2.2 hin13 hat13 (g := (mkF m 86 #[.val (.long q1), .second, .val (.long q2), .second, .val (.long q3), .second, .val (.int p4), .val (.ref b1), .val (.ref bs), .val (.ref b4), .val (.int ii), .val (.int jj), .unset, .unset, .unset, .unset] [(.int ii), (.ref b4), (.int ii), (.ref b4)])) rfl rfl (hb hby at_86) _ ?_
      show Steps p.tables e below (T12.setTop (mkF m 87 #[.val (.long q1), .second, .val (.long q2), .second, .val (.long q3), .second, .val (.int p4), .val (.ref b1), .val (.ref bs), .val (.ref b4), .val (.int ii), .val (.int jj), .unset, .unset, .unset, .unset] [(.long (gt ii)), (.int ii), (.ref b4)])) _
      refine XS.lloadN X12.here hx rfl (hb hby at_87) rfl ?_
      show Steps p.tables e below (T12.setTop (mkF m 88 #[.val (.long q1), .second, .val (.long q2), .second, .val (.long q3), .second, .val (.int p4), .val (.ref b1), .val (.ref bs), .val (.ref b4), .val (.int ii), .val (.int jj), .unset, .unset, .unset, .unset] [(.long q2), (.long (gt ii)), (.int ii), (.ref b4)])) _
      refine XS.lxor X12.here hx rfl (hb hby at_88) rfl ?_
      show Steps p.tables e below (T12.setTop (mkF m 89 #[.val (.long q1), .second, .val (.long q2), .second, .val (.long q3), .second, .val (.int p4), .val (.ref b1), .val (.ref bs), .val (.ref b4), .val (.int ii), .val (.int jj), .unset, .unset, .unset, .unset] [(.long ((gt ii) ^^^ q2)), (.int ii), (.ref b4)])) _
      refine st14 _ ?_
      show Steps p.tables e below (T14.setTop (mkF m 90 #[.val (.long q1), .second, .val (.long q2), .second, .val (.long q3), .second, .val (.int p4), .val (.ref b1), .val (.ref bs), .val (.ref b4), .val (.int ii), .val (.int jj), .unset, .unset, .unset, .unset] [])) _
      refine XS.aload X14.here hx rfl (hb hby at_90) rfl rfl ?_
      show Steps p.tables e below (T14.setTop (mkF m 92 #[.val (.long q1), .second, .val (.long q2), .second, .val (.long q3), .second, .val (.int p4), .val (.ref b1), .val (.ref bs), .val (.ref b4), .val (.int ii), .val (.int jj), .unset, .unset, .unset, .unset] [(.ref b4)])) _
      refine XS.iload X14.here hx rfl (hb hby at_92) rfl ?_
      show Steps p.tables e below (T14.setTop (mkF m 94 #[.val (.long q1), .second, .val (.long q2), .second, .val (.long q3), .second, .val (.int p4), .val (.ref b1), .val (.ref bs), .val (.ref b4), .val (.int ii), .val (.int jj), .unset, .unset, .unset, .unset] [(.int jj), (.ref b4)])) _
      refine XS.aload X14.here hx rfl (hb hby at_94) rfl rfl ?_
      show Steps p.tables e below (T14.setTop (mkF m 96 #[.val (.long q1), .second, .val (.long q2), .second, .val (.long q3), .second, .val (.int p4), .val (.ref b1), .val (.ref bs), .val (.ref b4), .val (.int ii), .val (.int jj), .unset, .unset, .unset, .unset] [(.ref b4), (.int jj), (.ref b4)])) _
      refine XS.iload X14.here hx rfl (hb hby at_96) rfl ?_
      show Steps p.tables e below (T14.setTop (mkF m 98 #[.val (.long q1), .second, .val (.long q2), .second, .val (.long q3), .second, .val (.int p4), .val (.ref b1), .val (.ref bs), .val (.ref b4), .val (.int ii), .val (.int jj), .unset, .unset, .unset, .unset] [(.int jj), (.ref b4), (.int jj), (.ref b4)])) _
      refine X14.laload hx (j := jj) (v := (.long (ga14 jj))) (by rw [e14]; exact Ar15.1) (State.isArrayOf_alike hZ.alike Ar15.2.1) Ar15.2.2 hin15 hat15 (g := (mkF m 98 #[.val (.long q1), .second, .val (.long q2), .second, .val (.long q3), .second, .val (.int p4), .val (.ref b1), .val (.ref bs), .val (.ref b4), .val (.int ii), .val (.int jj), .unset, .unset, .unset, .unset] [(.int jj), (.ref b4), (.int jj), (.ref b4)])) rfl rfl (hb hby at_98) _ ?_
      show Steps p.tables e below (T14.setTop (mkF m 99 #[.val (.long q1), .second, .val (.long q2), .second, .val (.long q3), .second, .val (.int p4), .val (.ref b1), .val (.ref bs), .val (.ref b4), .val (.int ii), .val (.int jj), .unset, .unset, .unset, .unset] [(.long (ga14 jj)), (.int jj), (.ref b4)])) _
      refine XS.lload X14.here hx rfl (hb hby at_99) rfl ?_
      show Steps p.tables e below (T14.setTop (mkF m 101 #[.val (.long q1), .second, .val (.long q2), .second, .val (.long q3), .second, .val (.int p4), .val (.ref b1), .val (.ref bs), .val (.ref b4), .val (.int ii), .val (.int jj), .unset, .unset, .unset, .unset] [(.long q3), (.long (ga14 jj)), (.int jj), (.ref b4)])) _
      refine XS.lxor X14.here hx rfl (hb hby at_101) rfl ?_
      show Steps p.tables e below (T14.setTop (mkF m 102 #[.val (.long q1), .second, .val (.long q2), .second, .val (.long q3), .second, .val (.int p4), .val (.ref b1), .val (.ref bs), .val (.ref b4), .val (.int ii), .val (.int jj), .unset, .unset, .unset, .unset] [(.long ((ga14 jj) ^^^ q3)), (.int jj), (.ref b4)])) _
      refine st16 _ ?_
      show Steps p.tables e below (T16.setTop (mkF m 103 #[.val (.long q1), .second, .val (.long q2), .second, .val (.long q3), .second, .val (.int p4), .val (.ref b1), .val (.ref bs), .val (.ref b4), .val (.int ii), .val (.int jj), .unset, .unset, .unset, .unset] [])) _
      refine XS.aload X16.here hx rfl (hb hby at_103) rfl rfl ?_
      show Steps p.tables e below (T16.setTop (mkF m 105 #[.val (.long q1), .second, .val (.long q2), .second, .val (.long q3), .second, .val (.int p4), .val (.ref b1), .val (.ref bs), .val (.ref b4), .val (.int ii), .val (.int jj), .unset, .unset, .unset, .unset] [(.ref b4)])) _
      refine XS.iconst X16.here hx rfl (hb hby at_105) ?_
      show Steps p.tables e below (T16.setTop (mkF m 106 #[.val (.long q1), .second, .val (.long q2), .second, .val (.long q3), .second, .val (.int p4), .val (.ref b1), .val (.ref bs), .val (.ref b4), .val (.int ii), .val (.int jj), .unset, .unset, .unset, .unset] [(.int (0 : Int32)), (.ref b4)])) _
      refine X16.laload hx (j := (0 : Int32)) (v := (.long (ga16 (0 : Int32)))) (by rw [e16]; exact Ar17.1) (State.isArrayOf_alike hZ.alike Ar17.2.1) Ar17.2.2 hin17 hat17 (g := (mkF m 106 #[.val (.long q1), .second, .val (.long q2), .second, .val (.long q3), .second, .val (.int p4), .val (.ref b1), .val (.ref bs), .val (.ref b4), .val (.int ii), .val (.int jj), .unset, .unset, .unset, .unset] [(.int (0 : Int32)), (.ref b4)])) rfl rfl (hb hby at_106) _ ?_
      show Steps p.tables e below (T16.setTop (mkF m 107 #[.val (.long q1), .second, .val (.long q2), .second, .val (.long q3), .second, .val (.int p4), .val (.ref b1), .val (.ref bs), .val (.ref b4), .val (.int ii), .val (.int jj), .unset, .unset, .unset, .unset] [(.long (ga16 (0 : Int32)))])) _
      refine XS.aload X16.here hx rfl (hb hby at_107) rfl rfl ?_
      show Steps p.tables e below (T16.setTop (mkF m 109 #[.val (.long q1), .second, .val (.long q2), .second, .val (.long q3), .second, .val (.int p4), .val (.ref b1), .val (.ref bs), .val (.ref b4), .val (.int ii), .val (.int jj), .unset, .unset, .unset, .unset] [(.ref bs), (.long (ga16 (0 : Int32)))])) _
      refine XS.iconst X16.here hx rfl (hb hby at_109) ?_
      show Steps p.tables e below (T16.setTop (mkF m 110 #[.val (.long q1), .second, .val (.long q2), .second, .val (.long q3), .second, .val (.int p4), .val (.ref b1), .val (.ref bs), .val (.ref b4), .val (.int ii), .val (.int jj), .unset, .unset, .unset, .unset] [(.int (0 : Int32)), (.ref bs), (.long (ga16 (0 : Int32)))])) _
      refine X16.laload hx (j := (0 : Int32)) (v := (.long (gs (0 : Int32)))) (by rw [e16]; exact Ar18.1) (State.isArrayOf_alike hZ.alike Ar18.2.1) Ar18.2.2 hin18 hat18 (g := (mkF m 110 #[.val (.long q1), .second, .val (.long q2), .second, .val (.long q3), .second, .val (.int p4), .val (.ref b1), .val (.ref bs), .val (.ref b4), .val (.int ii), .val (.int jj), .unset, .unset, .unset, .unset] [(.int (0 : Int32)), (.ref bs), (.long (ga16 (0 : Int32)))])) rfl rfl (hb hby at_110) _ ?_
      show Steps p.tables e below (T16.setTop (mkF m 111 #[.val (.long q1), .second, .val (.long q2), .second, .val (.long q3), .second, .val (.int p4), .val (.ref b1), .val (.ref bs), .val (.ref b4), .val (.int ii), .val (.int jj), .unset, .unset, .unset, .unset] [(.long (gs (0 : Int32))), (.long (ga16 (0 : Int32)))])) _
      refine XS.lcmp X16.here hx rfl (hb hby at_111) rfl ?_
      show Steps p.tables e below (T16.setTop (mkF m 112 #[.val (.long q1), .second, .val (.long q2), .second, .val (.long q3), .second, .val (.int p4), .val (.ref b1), .val (.ref bs), .val (.ref b4), .val (.int ii), .val (.int jj), .unset, .unset, .unset, .unset] [(.int (lcmpW (ga16 (0 : Int32)) (gs (0 : Int32))))])) _
      refine j25 _ ?_
      show Steps p.tables e below (T16.setTop (mkF m 156 #[.val (.long q1), .second, .val (.long q2), .second, .val (.long q3), .second, .val (.int p4), .val (.ref b1), .val (.ref bs), .val (.ref b4), .val (.int ii), .val (.int jj), .unset, .unset, .unset, .unset] [(.int ex)])) _
      refine XS.istore X16.here hx rfl (hb hby at_156) rfl (l' := #[.val (.long q1), .second, .val (.long q2), .second, .val (.long q3), .second, .val (.int p4), .val (.ref b1), .val (.ref bs), .val (.ref b4), .val (.int ii), .val (.int jj), .val (.int ex), .unset, .unset, .unset]) rfl ?_
      show Steps p.tables e below (T16.setTop (mkF m 158 #[.val (.long q1), .second, .val (.long q2), .second, .val (.long q3), .second, .val (.int p4), .val (.ref b1), .val (.ref bs), .val (.ref b4), .val (.int ii), .val (.int jj), .val (.int ex), .unset, .unset, .unset] [])) _
      refine XS.aload X16.here hx rfl (hb hby at_158) rfl rfl ?_
      show Steps p.tables e below (T16.setTop (mkF m 160 #[.val (.long q1), .second, .val (.long q2), .second, .val (.long q3), .second, .val (.int p4), .val (.ref b1), .val (.ref bs), .val (.ref b4), .val (.int ii), .val (.int jj), .val (.int ex), .unset, .unset, .unset] [(.ref b1)])) _
      refine XS.aload X16.here hx rfl (hb hby at_160) rfl rfl ?_
      show Steps p.tables e below (T16.setTop (mkF m 162 #[.val (.long q1), .second, .val (.long q2), .second, .val (.long q3), .second, .val (.int p4), .val (.ref b1), .val (.ref bs), .val (.ref b4), .val (.int ii), .val (.int jj), .val (.int ex), .unset, .unset, .unset] [(.ref bs), (.ref b1)])) _
      refine st26.trans ?_
      show Steps p.tables e below (T26.setTop (mkF m 165 #[.val (.long q1), .second, .val (.long q2), .second, .val (.long q3), .second, .val (.int p4), .val (.ref b1), .val (.ref bs), .val (.ref b4), .val (.int ii), .val (.int jj), .val (.int ex), .unset, .unset, .unset] [(.int fst)])) _
      refine XS.istore X26.here hx rfl (hb hby at_165) rfl (l' := #[.val (.long q1), .second, .val (.long q2), .second, .val (.long q3), .second, .val (.int p4), .val (.ref b1), .val (.ref bs), .val (.ref b4), .val (.int ii), .val (.int jj), .val (.int ex), .val (.int fst), .unset, .unset]) rfl ?_
      show Steps p.tables e below (T26.setTop (mkF m 167 #[.val (.long q1), .second, .val (.long q2), .second, .val (.long q3), .second, .val (.int p4), .val (.ref b1), .val (.ref bs), .val (.ref b4), .val (.int ii), .val (.int jj), .val (.int ex), .val (.int fst), .unset, .unset] [])) _
      refine XS.aload X26.here hx rfl (hb hby at_167) rfl rfl ?_
      show Steps p.tables e below (T26.setTop (mkF m 169 #[.val (.long q1), .second, .val (.long q2), .second, .val (.long q3), .second, .val (.int p4), .val (.ref b1), .val (.ref bs), .val (.ref b4), .val (.int ii), .val (.int jj), .val (.int ex), .val (.int fst), .unset, .unset] [(.ref b1)])) _
      refine XS.aload X26.here hx rfl (hb hby at_169) rfl rfl ?_
      show Steps p.tables e below (T26.setTop (mkF m 171 #[.val (.long q1), .second, .val (.long q2), .second, .val (.long q3), .second, .val (.int p4), .val (.ref b1), .val (.ref bs), .val (.ref b4), .val (.int ii), .val (.int jj), .val (.int ex), .val (.int fst), .unset, .unset] [(.ref b4), (.ref b1)])) _
      refine st27.trans ?_
      show Steps p.tables e below (T27.setTop (mkF m 174 #[.val (.long q1), .second, .val (.long q2), .second, .val (.long q3), .second, .val (.int p4), .val (.ref b1), .val (.ref bs), .val (.ref b4), .val (.int ii), .val (.int jj), .val (.int ex), .val (.int fst), .unset, .unset] [(.int snd)])) _
      refine XS.istore X27.here hx rfl (hb hby at_174) rfl (l' := #[.val (.long q1), .second, .val (.long q2), .second, .val (.long q3), .second, .val (.int p4), .val (.ref b1), .val (.ref bs), .val (.ref b4), .val (.int ii), .val (.int jj), .val (.int ex), .val (.int fst), .val (.int snd), .unset]) rfl ?_
      show Steps p.tables e below (T27.setTop (mkF m 176 #[.val (.long q1), .second, .val (.long q2), .second, .val (.long q3), .second, .val (.int p4), .val (.ref b1), .val (.ref bs), .val (.ref b4), .val (.int ii), .val (.int jj), .val (.int ex), .val (.int fst), .val (.int snd), .unset] [])) _
      refine XS.aload X27.here hx rfl (hb hby at_176) rfl rfl ?_
      show Steps p.tables e below (T27.setTop (mkF m 178 #[.val (.long q1), .second, .val (.long q2), .second, .val (.long q3), .second, .val (.int p4), .val (.ref b1), .val (.ref bs), .val (.ref b4), .val (.int ii), .val (.int jj), .val (.int ex), .val (.int fst), .val (.int snd), .unset] [(.ref b1)])) _
      refine XS.aload X27.here hx rfl (hb hby at_178) rfl rfl ?_
      show Steps p.tables e below (T27.setTop (mkF m 180 #[.val (.long q1), .second, .val (.long q2), .second, .val (.long q3), .second, .val (.int p4), .val (.ref b1), .val (.ref bs), .val (.ref b4), .val (.int ii), .val (.int jj), .val (.int ex), .val (.int fst), .val (.int snd), .unset] [(.ref bs), (.ref b1)])) _
      refine st28.trans ?_
      show Steps p.tables e below (T28.setTop (mkF m 183 #[.val (.long q1), .second, .val (.long q2), .second, .val (.long q3), .second, .val (.int p4), .val (.ref b1), .val (.ref bs), .val (.ref b4), .val (.int ii), .val (.int jj), .val (.int ex), .val (.int fst), .val (.int snd), .unset] [(.int trd)])) _
      refine XS.istore X28.here hx rfl (hb hby at_183) rfl (l' := #[.val (.long q1), .second, .val (.long q2), .second, .val (.long q3), .second, .val (.int p4), .val (.ref b1), .val (.ref bs), .val (.ref b4), .val (.int ii), .val (.int jj), .val (.int ex), .val (.int fst), .val (.int snd), .val (.int trd)]) rfl ?_
      show Steps p.tables e below (T28.setTop (mkF m 185 #[.val (.long q1), .second, .val (.long q2), .second, .val (.long q3), .second, .val (.int p4), .val (.ref b1), .val (.ref bs), .val (.ref b4), .val (.int ii), .val (.int jj), .val (.int ex), .val (.int fst), .val (.int snd), .val (.int trd)] [])) _
      refine XS.iload X28.here hx rfl (hb hby at_185) rfl ?_
      show Steps p.tables e below (T28.setTop (mkF m 187 #[.val (.long q1), .second, .val (.long q2), .second, .val (.long q3), .second, .val (.int p4), .val (.ref b1), .val (.ref bs), .val (.ref b4), .val (.int ii), .val (.int jj), .val (.int ex), .val (.int fst), .val (.int snd), .val (.int trd)] [(.int fst)])) _
      refine XS.ifNo X28.here hx rfl (hb hby at_187) rfl ((if0 _ _).trans (feq hc187).1) ?_
      show Steps p.tables e below (T28.setTop (mkF m 190 #[.val (.long q1), .second, .val (.long q2), .second, .val (.long q3), .second, .val (.int p4), .val (.ref b1), .val (.ref bs), .val (.ref b4), .val (.int ii), .val (.int jj), .val (.int ex), .val (.int fst), .val (.int snd), .val (.int trd)] [])) _
      refine XS.iload X28.here hx rfl (hb hby at_190) rfl ?_
      show Steps p.tables e below (T28.setTop (mkF m 192 #[.val (.long q1), .second, .val (.long q2), .second, .val (.long q3), .second, .val (.int p4), .val (.ref b1), .val (.ref bs), .val (.ref b4), .val (.int ii), .val (.int jj), .val (.int ex), .val (.int fst), .val (.int snd), .val (.int trd)] [(.int snd)])) _
      refine XS.iload X28.here hx rfl (hb hby at_192) rfl ?_
      show Steps p.tables e below (T28.setTop (mkF m 194 #[.val (.long q1), .second, .val (.long q2), .second, .val (.long q3), .second, .val (.int p4), .val (.ref b1), .val (.ref bs), .val (.ref b4), .val (.int ii), .val (.int jj), .val (.int ex), .val (.int fst), .val (.int snd), .val (.int trd)] [(.int ex), (.int snd)])) _
      refine XS.icmpNo X28.here hx rfl (hb hby at_194) rfl (teq hc194).2 ?_
      show Steps p.tables e below (T28.setTop (mkF m 197 #[.val (.long q1), .second, .val (.long q2), .second, .val (.long q3), .second, .val (.int p4), .val (.ref b1), .val (.ref bs), .val (.ref b4), .val (.int ii), .val (.int jj), .val (.int ex), .val (.int fst), .val (.int snd), .val (.int trd)] [])) _
      refine XS.iload X28.here hx rfl (hb hby at_197) rfl ?_
      show Steps p.tables e below (T28.setTop (mkF m 199 #[.val (.long q1), .second, .val (.long q2), .second, .val (.long q3), .second, .val (.int p4), .val (.ref b1), .val (.ref bs), .val (.ref b4), .val (.int ii), .val (.int jj), .val (.int ex), .val (.int fst), .val (.int snd), .val (.int trd)] [(.int trd)])) _
      refine XS.ifNo X28.here hx rfl (hb hby at_199) rfl ((if0 _ _).trans (feq hc199).1) ?_
      show Steps p.tables e below (T28.setTop (mkF m 202 #[.val (.long q1), .second, .val (.long q2), .second, .val (.long q3), .second, .val (.int p4), .val (.ref b1), .val (.ref bs), .val (.ref b4), .val (.int ii), .val (.int jj), .val (.int ex), .val (.int fst), .val (.int snd), .val (.int trd)] [])) _
      refine XS.iconst X28.here hx rfl (hb hby at_202) ?_
      show Steps p.tables e below (T28.setTop (mkF m 203 #[.val (.long q1), .second, .val (.long q2), .second, .val (.long q3), .second, .val (.int p4), .val (.ref b1), .val (.ref bs), .val (.ref b4), .val (.int ii), .val (.int jj), .val (.int ex), .val (.int fst), .val (.int snd), .val (.int trd)] [(.int (1 : Int32))])) _
      refine XS.goto X28.here hx rfl (pc0 := 203) (pc' := 207) rfl (hb hby at_203) (by decide) (by decide) ?_
      show Steps p.tables e below (T28.setTop (mkF m 207 #[.val (.long q1), .second, .val (.long q2), .second, .val (.long q3), .second, .val (.int p4), .val (.ref b1), .val (.ref bs), .val (.ref b4), .val (.int ii), .val (.int jj), .val (.int ex), .val (.int fst), .val (.int snd), .val (.int trd)] [(.int (1 : Int32))])) _
      exact retN X28 hx (t := .boolean) Bd.returns (by simp) (hb hby at_207) hr
    · show Q0 Z q1 q2 q3 p4 h0 n0 _ T28.heap _
      rw [e28]
      exact ⟨rfl, N28⟩
  · obtain ⟨cq29, kq29, q29a, q29b, q29c⟩ := isOf hZ rfl E_b1
    obtain ⟨_, _, ⟨T29, L29, k29, n29⟩, -, X29, ⟨Lc29, hQ29, l29, y29, z29⟩, st29⟩ := X2.virtualBack hx (y := (⟨"com/example/driftline/driftline/model/LxmRandom", "nextLong", "()J"⟩ : MethodName)) (z := (⟨"com/example/driftline/driftline/model/LxmRandom", "nextLong", "()J"⟩ : MethodName)) hown (mvT hZ (hw _ (List.mem_of_getElem? (i := 40) rfl))) (mvT hZ (hw _ (List.mem_of_getElem? (i := 41) rfl))) (notFace_of_selects (args := #[]) (mvT hZ (hw _ (List.mem_of_getElem? (i := 43) rfl)))) (mvT hZ (hw _ (List.mem_of_getElem? (i := 43) rfl))) (mvT hZ (hw _ (List.mem_of_getElem? (i := 42) rfl))) (by decide) (backOf (W := 0) (rm7 l Z a0 hw [] b1 (own_ia q1) (1 : Int64) (own_ix q1) (own_iy q1) T2.heap n0 Z0 E_b1 g_b1 F_b1_a F_b1_s F_b1_x0 F_b1_x1) hZ (hw _ (List.mem_of_getElem? (i := 44) rfl)) (hw _ (List.mem_of_getElem? (i := 2) rfl)) (by decide) (by decide)) q29a q29c (g := (mkF m 20 #[.val (.long q1), .second, .val (.long q2), .second, .val (.long q3), .second, .val (.int p4), .val (.ref b1), .unset, .unset, .unset, .unset, .unset, .unset, .unset, .unset] [(.ref b1)])) rfl (by rw [hml]; rfl) (Steps.refl _) (argsL := []) (rest := []) (lenOf pd_5 rfl) rfl (by show 2 * 0 + _ ≤ _; exact Nat.le_of_eq rfl) (hb hby at_20) (fun _ _ => ⟨rfl, rfl, (by decide : 1 + 0 ≤ _), (by decide : 4 + 0 ≤ _)⟩)
    dsimp only [Pt.U, Pt.locs, Pt.cells, Pt.slots] at X29 l29 y29 z29 st29 hQ29
    subst l29 y29 z29
    obtain ⟨nx, rfl, d_nx, N29q, K29, E_b1_new, F_b1_a_new, F_b1_s_new, F_b1_x0_new, F_b1_x1_new⟩ := hQ29
    have E_b1 := E_b1.keep K29
    have E_b1 := E_b1_new
    have F_b1_a := F_b1_a_new
    have F_b1_s := F_b1_s_new
    have F_b1_x0 := F_b1_x0_new
    have F_b1_x1 := F_b1_x1_new
    have Z0 : n0 ≤ T29.heap.size := Nat.le_trans Z0 K29.1
    have K0 := K0.trans K29 (allS (Or.inr sz_b1) all0)
    have N29 := Fr.app N2 N29q
    obtain ⟨fa, d_fa⟩ : ∃ z : Int64, z = (own_ia q1) := ⟨_, rfl⟩
    have F_b1_a : Fld Z T29.heap b1 "com/example/driftline/driftline/model/LxmRandom" "a" "J" (.long fa) := by rw [d_fa]; exact F_b1_a
    obtain ⟨fs', d_fs'⟩ : ∃ z : Int64, z = (own_s (own_ia q1) (1 : Int64)) := ⟨_, rfl⟩
    have F_b1_s : Fld Z T29.heap b1 "com/example/driftline/driftline/model/LxmRandom" "s" "J" (.long fs') := by rw [d_fs']; exact F_b1_s
    obtain ⟨fx, d_fx⟩ : ∃ z : Int64, z = (own_x0 (own_ix q1) (own_iy q1)) := ⟨_, rfl⟩
    have F_b1_x0 : Fld Z T29.heap b1 "com/example/driftline/driftline/model/LxmRandom" "x0" "J" (.long fx) := by rw [d_fx]; exact F_b1_x0
    obtain ⟨fy, d_fy⟩ : ∃ z : Int64, z = (own_x1 (own_ix q1) (own_iy q1)) := ⟨_, rfl⟩
    have F_b1_x1 : Fld Z T29.heap b1 "com/example/driftline/driftline/model/LxmRandom" "x1" "J" (.long fy) := by rw [d_fy]; exact F_b1_x1
    obtain ⟨cq30, kq30, q30a, q30b, q30c⟩ := isOf hZ rfl E_b1
    obtain ⟨_, _, ⟨T30, L30, k30, n30⟩, -, X30, ⟨Lc30, hQ30, l30, y30, z30⟩, st30⟩ := X29.virtualBack hx (y := (⟨"com/example/driftline/driftline/model/LxmRandom", "state", "()[J"⟩ : MethodName)) (z := (⟨"com/example/driftline/driftline/model/LxmRandom", "state", "()[J"⟩ : MethodName)) hown (mvT hZ (hw _ (List.mem_of_getElem? (i := 29) rfl))) (mvT hZ (hw _ (List.mem_of_getElem? (i := 30) rfl))) (notFace_of_selects (args := #[]) (mvT hZ (hw _ (List.mem_of_getElem? (i := 32) rfl)))) (mvT hZ (hw _ (List.mem_of_getElem? (i := 32) rfl))) (mvT hZ (hw _ (List.mem_of_getElem? (i := 31) rfl))) (by decide) (backOf (W := 0) (rm5 l Z a0 hw [] b1 fa fs' fx fy T29.heap n0 Z0 F_b1_a F_b1_s F_b1_x0 F_b1_x1) hZ (hw _ (List.mem_of_getElem? (i := 33) rfl)) (hw _ (List.mem_of_getElem? (i := 2) rfl)) (by decide) (by decide)) q30a q30c (g := (mkF m 26 #[.val (.long q1), .second, .val (.long q2), .second, .val (.long q3), .second, .val (.int p4), .val (.ref b1), .unset, .unset, .unset, .unset, .unset, .unset, .unset, .unset] [(.ref b1)])) rfl (by rw [hml]; rfl) (Steps.refl _) (argsL := []) (rest := []) (lenOf pd_3 rfl) rfl (by show 2 * 0 + _ ≤ _; exact Nat.le_of_eq rfl) (hb hby at_26) (fun _ _ => ⟨rfl, rfl, (by decide : 1 + 1 ≤ _), (by decide : 4 + 4 ≤ _)⟩)
    dsimp only [Pt.U, Pt.locs, Pt.cells, Pt.slots] at X30 l30 y30 z30 st30 hQ30
    subst l30 y30 z30
    have lt30_b1 : b1 < T29.heap.size := E_b1.lt
    obtain ⟨bs, kk_30, rfl, d_bs, sz30, N30q, K30, V_bs_new⟩ := hQ30
    have E_b1 := E_b1.keep K30
    have F_b1_a := F_b1_a.keep K30 nin0
    have F_b1_s := F_b1_s.keep K30 nin0
    have F_b1_x0 := F_b1_x0.keep K30 nin0
    have F_b1_x1 := F_b1_x1.keep K30 nin0
    have V_bs := V_bs_new
    have g_bs : n0 ≤ bs := Nat.le_trans Z0 sz30
    have sz_bs : h0.size ≤ bs := Nat.le_trans K0.1 sz30
    have ne_b1_bs : b1 ≠ bs := Nat.ne_of_lt (Nat.lt_of_lt_of_le lt30_b1 sz30)
    have Z0 : n0 ≤ T30.heap.size := Nat.le_trans Z0 K30.1
    have K0 := K0.trans K30 all0
    have N30 := Fr.app N29 N30q
    obtain ⟨gs, d_gs⟩ : ∃ z : Int32 → Int64, z = fun i => ([fa, fs', fx, fy] : List Int64).getD i.toNatClampNeg (0 : Int64) := ⟨_, rfl⟩
    have V_bs : own_Arf Z T30.heap bs .long (4 : Int32) (fun i => .long (gs i)) := (own_Arf.of V_bs).cong (fun i => by rw [d_gs]; exact own_get4 _ _ _ _ _)
    obtain ⟨T31, h31, k31, X31, e31, E31, A31, st31⟩ := newP X30 hx hZ (hw _ (List.mem_of_getElem? (i := 34) rfl)) rfl (g := (mkF m 32 #[.val (.long q1), .second, .val (.long q2), .second, .val (.long q3), .second, .val (.int p4), .val (.ref b1), .val (.ref bs), .unset, .unset, .unset, .unset, .unset, .unset, .unset] [(.int (4 : Int32))])) rfl (hb hby at_32) rfl (by decide) (cap := 4) (by decide) (by decide) (by decide) (by decide)
    obtain ⟨b31, g31⟩ : ∃ z, z = T30.heap.size := ⟨_, rfl⟩
    rw [← g31] at A31 st31
    have g_b31 : n0 ≤ b31 := Nat.le_trans Z0 (Nat.le_of_eq g31.symm)
    have sz_b31 : h0.size ≤ b31 := Nat.le_trans K0.1 (Nat.le_of_eq g31.symm)
    have ne_b1_b31 : b1 ≠ b31 := Nat.ne_of_lt (Nat.lt_of_lt_of_le E_b1.lt (Nat.le_of_eq g31.symm))
    have ne_bs_b31 : bs ≠ b31 := Nat.ne_of_lt (Nat.lt_of_lt_of_le V_bs.lt (Nat.le_of_eq g31.symm))
    have E_b1 := E_b1.ext E31
    have F_b1_a := F_b1_a.ext E31
    have F_b1_s := F_b1_s.ext E31
    have F_b1_x0 := F_b1_x0.ext E31
    have F_b1_x1 := F_b1_x1.ext E31
    have V_bs := V_bs.ext E31
    have Z0 : n0 ≤ h31.size := Nat.le_trans Z0 E31.1
    have K0 := K0.ext E31
    have V_b31 : Arv Z h31 b31 k31 .long (4 : Int32) [(.long (0 : Int64)), (.long (0 : Int64)), (.long (0 : Int64)), (.long (0 : Int64))] (.long (0 : Int64)) := (Arv.new A31 (by decide)).pad (pad_rep [] (.long (0 : Int64)) 4)
    have V_tmp := V_bs
    obtain ⟨cl32, Ar32, S32, n32, H32⟩ := V_tmp
    have hin32 : ¬ ((0 : Int32) < 0 ∨ cl32.slots.size ≤ ((0 : Int32)).toNatClampNeg) := inb_of S32 ⟨by decide, by decide⟩
    have hat32 : cl32.slots[((0 : Int32)).toNatClampNeg]? = some (.long (gs (0 : Int32))) := H32 _ hin32
    have V_tmp := V_b31
    obtain ⟨cl33, Ar33, aq33, S33, n33, H33, G33⟩ := V_tmp
    have hin33 : ¬ ((0 : Int32) < 0 ∨ cl33.slots.size ≤ ((0 : Int32)).toNatClampNeg) := inb_of S33 ⟨by decide, by decide⟩
    obtain ⟨T33, h33, X33, e33, W33, st33⟩ := stJ X31 hx hZ e31 Ar33 (j := (0 : Int32)) hin33 (g := (mkF m 40 #[.val (.long q1), .second, .val (.long q2), .second, .val (.long q3), .second, .val (.int p4), .val (.ref b1), .val (.ref bs), .unset, .unset, .unset, .unset, .unset, .unset, .unset] [(.long (gs (0 : Int32))), (.int (0 : Int32)), (.ref b31), (.ref b31)])) rfl rfl (hb hby at_40)
    have V_bs := V_bs.other W33 ne_bs_b31
    have V_b31 : Arv Z h33 b31 k31 .long (4 : Int32) [(.long (gs (0 : Int32))), (.long (0 : Int64)), (.long (0 : Int64)), (.long (0 : Int64))] (.long (0 : Int64)) := Arv.set Ar33 aq33 S33 n33 H33 G33 rfl W33 0 rfl (Nat.le_of_ble_eq_true rfl)
    have F_b1_a := F_b1_a.other W33 (Or.inl ne_b1_b31)
    have F_b1_s := F_b1_s.other W33 (Or.inl ne_b1_b31)
    have F_b1_x0 := F_b1_x0.other W33 (Or.inl ne_b1_b31)
    have F_b1_x1 := F_b1_x1.other W33 (Or.inl ne_b1_b31)
    have E_b1 := E_b1.wr W33
    have Z0 : n0 ≤ h33.size := by rw [W33.size]; exact Z0
    have K0 := K0.wr W33 (Or.inr sz_b31)
    have N33 := Fr.snoc X33 N30 g_b31
    have V_tmp := V_bs
    obtain ⟨cl34, Ar34, S34, n34, H34⟩ := V_tmp
    have hin34 : ¬ ((1 : Int32) < 0 ∨ cl34.slots.size ≤ ((1 : Int32)).toNatClampNeg) := inb_of S34 ⟨by decide, by decide⟩
    have hat34 : cl34.slots[((1 : Int32)).toNatClampNeg]? = some (.long (gs (1 : Int32))) := H34 _ hin34
    have V_tmp := V_b31
    obtain ⟨cl35, Ar35, aq35, S35, n35, H35, G35⟩ := V_tmp
    have hin35 : ¬ ((1 : Int32) < 0 ∨ cl35.slots.size ≤ ((1 : Int32)).toNatClampNeg) := inb_of S35 ⟨by decide, by decide⟩
    obtain ⟨T35, h35, X35, e35, W35, st35⟩ := stJ X33 hx hZ e33 Ar35 (j := (1 : Int32)) hin35 (g := (mkF m 47 #[.val (.long q1), .second, .val (.long q2), .second, .val (.long q3), .second, .val (.int p4), .val (.ref b1), .val (.ref bs), .unset, .unset, .unset, .unset, .unset, .unset, .unset] [(.long (gs (1 : Int32))), (.int (1 : Int32)), (.ref b31), (.ref b31)])) rfl rfl (hb hby at_47)
    have V_bs := V_bs.other W35 ne_bs_b31
    have V_b31 : Arv Z h35 b31 k31 .long (4 : Int32) [(.long (gs (0 : Int32))), (.long (gs (1 : Int32))), (.long (0 : Int64)), (.long (0 : Int64))] (.long (0 : Int64)) := Arv.set Ar35 aq35 S35 n35 H35 G35 rfl W35 1 rfl (Nat.le_of_ble_eq_true rfl)
    have F_b1_a := F_b1_a.other W35 (Or.inl ne_b1_b31)
    have F_b1_s := F_b1_s.other W35 (Or.inl ne_b1_b31)
    have F_b1_x0 := F_b1_x0.other W35 (Or.inl ne_b1_b31)
    have F_b1_x1 := F_b1_x1.other W35 (Or.inl ne_b1_b31)
    have E_b1 := E_b1.wr W35
    have Z0 : n0 ≤ h35.size := by rw [W35.size]; exact Z0
    have K0 := K0.wr W35 (Or.inr sz_b31)
    have N35 := Fr.snoc X35 N33 g_b31
    have V_tmp := V_bs
    obtain ⟨cl36, Ar36, S36, n36, H36⟩ := V_tmp
    have hin36 : ¬ ((2 : Int32) < 0 ∨ cl36.slots.size ≤ ((2 : Int32)).toNatClampNeg) := inb_of S36 ⟨by decide, by decide⟩
    have hat36 : cl36.slots[((2 : Int32)).toNatClampNeg]? = some (.long (gs (2 : Int32))) := H36 _ hin36
    have V_tmp := V_b31
    obtain ⟨cl37, Ar37, aq37, S37, n37, H37, G37⟩ := V_tmp
    have hin37 : ¬ ((2 : Int32) < 0 ∨ cl37.slots.size ≤ ((2 : Int32)).toNatClampNeg) := inb_of S37 ⟨by decide, by decide⟩
    obtain ⟨T37, h37, X37, e37, W37, st37⟩ := stJ X35 hx hZ e35 Ar37 (j := (2 : Int32)) hin37 (g := (mkF m 54 #[.val (.long q1), .second, .val (.long q2), .second, .val (.long q3), .second, .val (.int p4), .val (.ref b1), .val (.ref bs), .unset, .unset, .unset, .unset, .unset, .unset, .unset] [(.long (gs (2 : Int32))), (.int (2 : Int32)), (.ref b31), (.ref b31)])) rfl rfl (hb hby at_54)
    have V_bs := V_bs.other W37 ne_bs_b31
    have V_b31 : Arv Z h37 b31 k31 .long (4 : Int32) [(.long (gs (0 : Int32))), (.long (gs (1 : Int32))), (.long (gs (2 : Int32))), (.long (0 : Int64))] (.long (0 : Int64)) := Arv.set Ar37 aq37 S37 n37 H37 G37 rfl W37 2 rfl (Nat.le_of_ble_eq_true rfl)
    have F_b1_a := F_b1_a.other W37 (Or.inl ne_b1_b31)
    have F_b1_s := F_b1_s.other W37 (Or.inl ne_b1_b31)
    have F_b1_x0 := F_b1_x0.other W37 (Or.inl ne_b1_b31)
    have F_b1_x1 := F_b1_x1.other W37 (Or.inl ne_b1_b31)
    have E_b1 := E_b1.wr W37
    have Z0 : n0 ≤ h37.size := by rw [W37.size]; exact Z0
    have K0 := K0.wr W37 (Or.inr sz_b31)
    have N37 := Fr.snoc X37 N35 g_b31
    have V_tmp := V_bs
    obtain ⟨cl38, Ar38, S38, n38, H38⟩ := V_tmp
    have hin38 : ¬ ((3 : Int32) < 0 ∨ cl38.slots.size ≤ ((3 : Int32)).toNatClampNeg) := inb_of S38 ⟨by decide, by decide⟩
    have hat38 : cl38.slots[((3 : Int32)).toNatClampNeg]? = some (.long (gs (3 : Int32))) := H38 _ hin38
    have V_tmp := V_b31
    obtain ⟨cl39, Ar39, aq39, S39, n39, H39, G39⟩ := V_tmp
    have hin39 : ¬ ((3 : Int32) < 0 ∨ cl39.slots.size ≤ ((3 : Int32)).toNatClampNeg) := inb_of S39 ⟨by decide, by decide⟩
    obtain ⟨T39, h39, X39, e39, W39, st39⟩ := stJ X37 hx hZ e37 Ar39 (j := (3 : Int32)) hin39 (g := (mkF m 61 #[.val (.long q1), .second, .val (.long q2), .second, .val (.long q3), .second, .val (.int p4), .val (.ref b1), .val (.ref bs), .unset, .unset, .unset, .unset, .unset, .unset, .unset] [(.long (gs (3 : Int32))), (.int (3 : Int32)), (.ref b31), (.ref b31)])) rfl rfl (hb hby at_61)
    have V_bs := V_bs.other W39 ne_bs_b31
    have V_b31 : Arv Z h39 b31 k31 .long (4 : Int32) [(.long (gs (0 : Int32))), (.long (gs (1 : Int32))), (.long (gs (2 : Int32))), (.long (gs (3 : Int32)))] (.long (0 : Int64)) := Arv.set Ar39 aq39 S39 n39 H39 G39 rfl W39 3 rfl (Nat.le_of_ble_eq_true rfl)
    have F_b1_a := F_b1_a.other W39 (Or.inl ne_b1_b31)
    have F_b1_s := F_b1_s.other W39 (Or.inl ne_b1_b31)
    have F_b1_x0 := F_b1_x0.other W39 (Or.inl ne_b1_b31)
    have F_b1_x1 := F_b1_x1.other W39 (Or.inl ne_b1_b31)
    have E_b1 := E_b1.wr W39
    have Z0 : n0 ≤ h39.size := by rw [W39.size]; exact Z0
    have K0 := K0.wr W39 (Or.inr sz_b31)
    have N39 := Fr.snoc X39 N37 g_b31
    obtain ⟨gt, d_gt⟩ : ∃ z : Int32 → Int64, z = fun i => ([(gs (0 : Int32)), (gs (1 : Int32)), (gs (2 : Int32)), (gs (3 : Int32))] : List Int64).getD i.toNatClampNeg (0 : Int64) := ⟨_, rfl⟩
    have V_b31 : own_Arf Z h39 b31 .long (4 : Int32) (fun i => .long (gt i)) := (own_Arf.of V_b31).cong (fun i => by rw [d_gt]; exact own_get4 _ _ _ _ _)
    obtain ⟨ii, d_ii⟩ : ∃ z : Int32, z = (p4 &&& (3 : Int32)) := ⟨_, rfl⟩
    obtain ⟨jj, d_jj⟩ : ∃ z : Int32, z = (((p4.toUInt32 >>> ((2 : Int32) &&& 31).toUInt32).toInt32) &&& (3 : Int32)) := ⟨_, rfl⟩
    have II := own_i4 _ ii d_ii
    have JJ := own_i4 _ jj d_jj
    have V_tmp := V_b31
    obtain ⟨cl40, Ar40, S40, n40, H40⟩ := V_tmp
    have hin40 : ¬ (ii < 0 ∨ cl40.slots.size ≤ (ii).toNatClampNeg) := inb_of S40 II
    have hat40 : cl40.slots[(ii).toNatClampNeg]? = some (.long (gt ii)) := H40 _ hin40
    have V_tmp := V_b31
    obtain ⟨cl41, Ar41, S41, n41, H41⟩ := V_tmp
    have hin41 : ¬ (ii < 0 ∨ cl41.slots.size ≤ (ii).toNatClampNeg) := inb_of S41 II
    obtain ⟨T41, h41, X41, e41, W41, st41⟩ := stJ X39 hx hZ e39 Ar41 (j := ii) hin41 (g := (mkF m 89 #[.val (.long q1), .second, .val (.long q2), .second, .val (.long q3), .second, .val (.int p4), .val (.ref b1), .val (.ref bs), .val (.ref b31), .val (.int ii), .val (.int jj), .unset, .unset, .unset, .unset] [(.long ((gt ii) ^^^ q2)), (.int ii), (.ref b31)])) rfl rfl (hb hby at_89)
    obtain ⟨ga41, d_ga41⟩ : ∃ z : Int32 → Int64, z = fun i => if i = ii then ((gt ii) ^^^ q2) else gt i := ⟨_, rfl⟩
    have V_bs := V_bs.other W41 ne_bs_b31
    have V_b31 : own_Arf Z h41 b31 .long (4 : Int32) (fun i => .long (ga41 i)) := (own_Arf.upd Ar41 S41 n41 H41 W41 hin41).cong (fun i => by rw [d_ga41]; dsimp only; split <;> rfl)
    have F_b1_a := F_b1_a.other W41 (Or.inl ne_b1_b31)
    have F_b1_s := F_b1_s.other W41 (Or.inl ne_b1_b31)
    have F_b1_x0 := F_b1_x0.other W41 (Or.inl ne_b1_b31)
    have F_b1_x1 := F_b1_x1.other W41 (Or.inl ne_b1_b31)
    have E_b1 := E_b1.wr W41
    have Z0 : n0 ≤ h41.size := by rw [W41.size]; exact Z0
    have K0 := K0.wr W41 (Or.inr sz_b31)
    have N41 := Fr.snoc X41 N39 g_b31
    have V_tmp := V_b31
    obtain ⟨cl42, Ar42, S42, n42, H42⟩ := V_tmp
    have hin42 : ¬ (jj < 0 ∨ cl42.slots.size ≤ (jj).toNatClampNeg) := inb_of S42 JJ
    have hat42 : cl42.slots[(jj).toNatClampNeg]? = some (.long (ga41 jj)) := H42 _ hin42
    have V_tmp := V_b31
    obtain ⟨cl43, Ar43, S43, n43, H43⟩ := V_tmp
    have hin43 : ¬ (jj < 0 ∨ cl43.slots.size ≤ (jj).toNatClampNeg) := inb_of S43 JJ
    obtain ⟨T43, h43, X43, e43, W43, st43⟩ := stJ X41 hx hZ e41 Ar43 (j := jj) hin43 (g := (mkF m 102 #[.val (.long q1), .second, .val (.long q2), .second, .val (.long q3), .second, .val (.int p4), .val (.ref b1), .val (.ref bs), .val (.ref b31), .val (.int ii), .val (.int jj), .unset, .unset, .unset, .unset] [(.long ((ga41 jj) ^^^ q3)), (.int jj), (.ref b31)])) rfl rfl (hb hby at_102)
    obtain ⟨ga43, d_ga43⟩ : ∃ z : Int32 → Int64, z = fun i => if i = jj then ((ga41 jj) ^^^ q3) else ga41 i := ⟨_, rfl⟩
    have V_bs := V_bs.other W43 ne_bs_b31
    have V_b31 : own_Arf Z h43 b31 .long (4 : Int32) (fun i => .long (ga43 i)) := (own_Arf.upd Ar43 S43 n43 H43 W43 hin43).cong (fun i => by rw [d_ga43]; dsimp only; split <;> rfl)
    have F_b1_a := F_b1_a.other W43 (Or.inl ne_b1_b31)
    have F_b1_s := F_b1_s.other W43 (Or.inl ne_b1_b31)
    have F_b1_x0 := F_b1_x0.other W43 (Or.inl ne_b1_b31)
    have F_b1_x1 := F_b1_x1.other W43 (Or.inl ne_b1_b31)
    have E_b1 := E_b1.wr W43
    have Z0 : n0 ≤ h43.size := by rw [W43.size]; exact Z0
    have K0 := K0.wr W43 (Or.inr sz_b31)
    have N43 := Fr.snoc X43 N41 g_b31
    have G0 : gs (0 : Int32) = fa := by rw [d_gs]; rfl
    have G1 : gs (1 : Int32) = fs' := by rw [d_gs]; rfl
    have G2 : gs (2 : Int32) = fx := by rw [d_gs]; rfl
    have G3 : gs (3 : Int32) = fy := by rw [d_gs]; rfl
    have V_tmp := V_b31
    obtain ⟨cl44, Ar44, S44, n44, H44⟩ := V_tmp
    have hin44 : ¬ ((0 : Int32) < 0 ∨ cl44.slots.size ≤ ((0 : Int32)).toNatClampNeg) := inb_of S44 ⟨by decide, by decide⟩
    have hat44 : cl44.slots[((0 : Int32)).toNatClampNeg]? = some (.long (ga43 (0 : Int32))) := H44 _ hin44
    have V_tmp := V_bs
    obtain ⟨cl45, Ar45, S45, n45, H45⟩ := V_tmp
    have hin45 : ¬ ((0 : Int32) < 0 ∨ cl45.slots.size ≤ ((0 : Int32)).toNatClampNeg) := inb_of S45 ⟨by decide, by decide⟩
    have hat45 : cl45.slots[((0 : Int32)).toNatClampNeg]? = some (.long (gs (0 : Int32))) := H45 _ hin45
    have V_tmp := V_b31
    obtain ⟨cl46, Ar46, S46, n46, H46⟩ := V_tmp
    have hin46 : ¬ ((1 : Int32) < 0 ∨ cl46.slots.size ≤ ((1 : Int32)).toNatClampNeg) := inb_of S46 ⟨by decide, by decide⟩
    have hat46 : cl46.slots[((1 : Int32)).toNatClampNeg]? = some (.long (ga43 (1 : Int32))) := H46 _ hin46
    have V_tmp := V_bs
    obtain ⟨cl47, Ar47, S47, n47, H47⟩ := V_tmp
    have hin47 : ¬ ((1 : Int32) < 0 ∨ cl47.slots.size ≤ ((1 : Int32)).toNatClampNeg) := inb_of S47 ⟨by decide, by decide⟩
    have hat47 : cl47.slots[((1 : Int32)).toNatClampNeg]? = some (.long (gs (1 : Int32))) := H47 _ hin47
    have V_tmp := V_b31
    obtain ⟨cl48, Ar48, S48, n48, H48⟩ := V_tmp
    have hin48 : ¬ ((2 : Int32) < 0 ∨ cl48.slots.size ≤ ((2 : Int32)).toNatClampNeg) := inb_of S48 ⟨by decide, by decide⟩
    have hat48 : cl48.slots[((2 : Int32)).toNatClampNeg]? = some (.long (ga43 (2 : Int32))) := H48 _ hin48
    have V_tmp := V_bs
    obtain ⟨cl49, Ar49, S49, n49, H49⟩ := V_tmp
    have hin49 : ¬ ((2 : Int32) < 0 ∨ cl49.slots.size ≤ ((2 : Int32)).toNatClampNeg) := inb_of S49 ⟨by decide, by decide⟩
    have hat49 : cl49.slots[((2 : Int32)).toNatClampNeg]? = some (.long (gs (2 : Int32))) := H49 _ hin49
    have V_tmp := V_b31
    obtain ⟨cl50, Ar50, S50, n50, H50⟩ := V_tmp
    have hin50 : ¬ ((3 : Int32) < 0 ∨ cl50.slots.size ≤ ((3 : Int32)).toNatClampNeg) := inb_of S50 ⟨by decide, by decide⟩
    have hat50 : cl50.slots[((3 : Int32)).toNatClampNeg]? = some (.long (ga43 (3 : Int32))) := H50 _ hin50
    have V_tmp := V_bs
    obtain ⟨cl51, Ar51, S51, n51, H51⟩ := V_tmp
    have hin51 : ¬ ((3 : Int32) < 0 ∨ cl51.slots.size ≤ ((3 : Int32)).toNatClampNeg) := inb_of S51 ⟨by decide, by decide⟩
    have hat51 : cl51.slots[((3 : Int32)).toNatClampNeg]? = some (.long (gs (3 : Int32))) := H51 _ hin51
    obtain ⟨ex, d_ex⟩ : ∃ z : Int32, z = (if (ga43 (0 : Int32)) = (gs (0 : Int32)) then (if (ga43 (1 : Int32)) = (gs (1 : Int32)) then (if (ga43 (2 : Int32)) = (gs (2 : Int32)) then (if (ga43 (3 : Int32)) = (gs (3 : Int32)) then (1 : Int32) else (0 : Int32)) else (0 : Int32)) else (0 : Int32)) else (0 : Int32)) := ⟨_, rfl⟩
    have j52 : ∀ t, Steps p.tables e below (T43.setTop (mkF m 156 #[.val (.long q1), .second, .val (.long q2), .second, .val (.long q3), .second, .val (.int p4), .val (.ref b1), .val (.ref bs), .val (.ref b31), .val (.int ii), .val (.int jj), .unset, .unset, .unset, .unset] [(.int ex)])) t → Steps p.tables e below (T43.setTop (mkF m 112 #[.val (.long q1), .second, .val (.long q2), .second, .val (.long q3), .second, .val (.int p4), .val (.ref b1), .val (.ref bs), .val (.ref b31), .val (.int ii), .val (.int jj), .unset, .unset, .unset, .unset] [(.int (lcmpW (ga43 (0 : Int32)) (gs (0 : Int32))))])) t := by
      intro t k
      by_cases hj112 : (ga43 (0 : Int32)) = (gs (0 : Int32))
      · show Steps p.tables e below (T43.setTop (mkF m 112 #[.val (.long q1), .second, .val (.long q2), .second, .val (.long q3), .second, .val (.int p4), .val (.ref b1), .val (.ref bs), .val (.ref b31), .val (.int ii), .val (.int jj), .unset, .unset, .unset, .unset] [(.int (lcmpW (ga43 (0 : Int32)) (gs (0 : Int32))))])) _
        refine XS.ifNo X43.here hx rfl (hb hby at_112) rfl ((if0 _ _).trans (teq ((lw_eq _ _).mpr hj112)).2) ?_
        show Steps p.tables e below (T43.setTop (mkF m 115 #[.val (.long q1), .second, .val (.long q2), .second, .val (.long q3), .second, .val (.int p4), .val (.ref b1), .val (.ref bs), .val (.ref b31), .val (.int ii), .val (.int jj), .unset, .unset, .unset, .unset] [])) _
        refine XS.aload X43.here hx rfl (hb hby at_115) rfl rfl ?_
        show Steps p.tables e below (T43.setTop (mkF m 117 #[.val (.long q1), .second, .val (.long q2), .second, .val (.long q3), .second, .val (.int p4), .val (.ref b1), .val (.ref bs), .val (.ref b31), .val (.int ii), .val (.int jj), .unset, .unset, .unset, .unset] [(.ref b31)])) _
        refine XS.iconst X43.here hx rfl (hb hby at_117) ?_
        show Steps p.tables e below (T43.setTop (mkF m 118 #[.val (.long q1), .second, .val (.long q2), .second, .val (.long q3), .second, .val (.int p4), .val (.ref b1), .val (.ref bs), .val (.ref b31), .val (.int ii), .val (.int jj), .unset, .unset, .unset, .unset] [(.int (1 : Int32)), (.ref b31)])) _
        refine X43.laload hx (j := (1 : Int32)) (v := (.long (ga43 (1 : Int32)))) (by rw [e43]; exact Ar46.1) (State.isArrayOf_alike hZ.alike Ar46.2.1) Ar46.2.2 hin46 hat46 (g := (mkF m 118 #[.val (.long q1), .second, .val (.long q2), .second, .val (.long q3), .second, .val (.int p4), .val (.ref b1), .val (.ref bs), .val (.ref b31), .val (.int ii), .val (.int jj), .unset, .unset, .unset, .unset] [(.int (1 : Int32)), (.ref b31)])) rfl rfl (hb hby at_118) _ ?_
        show Steps p.tables e below (T43.setTop (mkF m 119 #[.val (.long q1), .second, .val (.long q2), .second, .val (.long q3), .second, .val (.int p4), .val (.ref b1), .val (.ref bs), .val (.ref b31), .val (.int ii), .val (.int jj), .unset, .unset, .unset, .unset] [(.long (ga43 (1 : Int32)))])) _
        refine XS.aload X43.here hx rfl (hb hby at_119) rfl rfl ?_
        show Steps p.tables e below (T43.setTop (mkF m 121 #[.val (.long q1), .second, .val (.long q2), .second, .val (.long q3), .second, .val (.int p4), .val (.ref b1), .val (.ref bs), .val (.ref b31), .val (.int ii), .val (.int jj), .unset, .unset, .unset, .unset] [(.ref bs), (.long (ga43 (1 : Int32)))])) _
        refine XS.iconst X43.here hx rfl (hb hby at_121) ?_
        show Steps p.tables e below (T43.setTop (mkF m 122 #[.val (.long q1), .second, .val (.long q2), .second, .val (.long q3), .second, .val (.int p4), .val (.ref b1), .val (.ref bs), .val (.ref b31), .val (.int ii), .val (.int jj), .unset, .unset, .unset, .unset] [(.int (1 : Int32)), (.ref bs), (.long (ga43 (1 : Int32)))])) _
        refine X43.laload hx (j := (1 : Int32)) (v := (.long (gs (1 : Int32)))) (by rw [e43]; exact Ar47.1) (State.isArrayOf_alike hZ.alike Ar47.2.1) Ar47.2.2 hin47 hat47 (g := (mkF m 122 #[.val (.long q1), .second, .val (.long q2), .second, .val (.long q3), .second, .val (.int p4), .val (.ref b1), .val (.ref bs), .val (.ref b31), .val (.int ii), .val (.int jj), .unset, .unset, .unset, .unset] [(.int (1 : Int32)), (.ref bs), (.long (ga43 (1 : Int32)))])) rfl rfl (hb hby at_122) _ ?_
        show Steps p.tables e below (T43.setTop (mkF m 123 #[.val (.long q1), .second, .val (.long q2), .second, .val (.long q3), .second, .val (.int p4), .val (.ref b1), .val (.ref bs), .val (.ref b31), .val (.int ii), .val (.int jj), .unset, .unset, .unset, .unset] [(.long (gs (1 : Int32))), (.long (ga43 (1 : Int32)))])) _
        refine XS.lcmp X43.here hx rfl (hb hby at_123) rfl ?_
        by_cases hj124 : (ga43 (1 : Int32)) = (gs (1 : Int32))
        · show Steps p.tables e below (T43.setTop (mkF m 124 #[.val (.long q1), .second, .val (.long q2), .second, .val (.long q3), .second, .val (.int p4), .val (.ref b1), .val (.ref bs), .val (.ref b31), .val (.int ii), .val (.int jj), .unset, .unset, .unset, .unset] [(.int (lcmpW (ga43 (1 : Int32)) (gs (1 : Int32))))])) _
          refine XS.ifNo X43.here hx rfl (hb hby at_124) rfl ((if0 _ _).trans (teq ((lw_eq _ _).mpr hj124)).2) ?_
          show Steps p.tables e below (T43.setTop (mkF m 127 #[.val (.long q1), .second, .val (.long q2), .second, .val (.long q3), .second, .val (.int p4), .val (.ref b1), .val (.ref bs), .val (.ref b31), .val (.int ii), .val (.int jj), .unset, .unset, .unset, .unset] [])) _
          refine XS.aload X43.here hx rfl (hb hby at_127) rfl rfl ?_
          show Steps p.tables e below (T43.setTop (mkF m 129 #[.val (.long q1), .second, .val (.long q2), .second, .val (.long q3), .second, .val (.int p4), .val (.ref b1), .val (.ref bs), .val (.ref b31), .val (.int ii), .val (.int jj), .unset, .unset, .unset, .unset] [(.ref b31)])) _
          refine XS.iconst X43.here hx rfl (hb hby at_129) ?_
          show Steps p.tables e below (T43.setTop (mkF m 130 #[.val (.long q1), .second, .val (.long q2), .second, .val (.long q3), .second, .val (.int p4), .val (.ref b1), .val (.ref bs), .val (.ref b31), .val (.int ii), .val (.int jj), .unset, .unset, .unset, .unset] [(.int (2 : Int32)), (.ref b31)])) _
          refine X43.laload hx (j := (2 : Int32)) (v := (.long (ga43 (2 : Int32)))) (by rw [e43]; exact Ar48.1) (State.isArrayOf_alike hZ.alike Ar48.2.1) Ar48.2.2 hin48 hat48 (g := (mkF m 130 #[.val (.long q1), .second, .val (.long q2), .second, .val (.long q3), .second, .val (.int p4), .val (.ref b1), .val (.ref bs), .val (.ref b31), .val (.int ii), .val (.int jj), .unset, .unset, .unset, .unset] [(.int (2 : Int32)), (.ref b31)])) rfl rfl (hb hby at_130) _ ?_
          show Steps p.tables e below (T43.setTop (mkF m 131 #[.val (.long q1), .second, .val (.long q2), .second, .val (.long q3), .second, .val (.int p4), .val (.ref b1), .val (.ref bs), .val (.ref b31), .val (.int ii), .val (.int jj), .unset, .unset, .unset, .unset] [(.long (ga43 (2 : Int32)))])) _
          refine XS.aload X43.here hx rfl (hb hby at_131) rfl rfl ?_
          show Steps p.tables e below (T43.setTop (mkF m 133 #[.val (.long q1), .second, .val (.long q2), .second, .val (.long q3), .second, .val (.int p4), .val (.ref b1), .val (.ref bs), .val (.ref b31), .val (.int ii), .val (.int jj), .unset, .unset, .unset, .unset] [(.ref bs), (.long (ga43 (2 : Int32)))])) _
          refine XS.iconst X43.here hx rfl (hb hby at_133) ?_
          show Steps p.tables e below (T43.setTop (mkF m 134 #[.val (.long q1), .second, .val (.long q2), .second, .val (.long q3), .second, .val (.int p4), .val (.ref b1), .val (.ref bs), .val (.ref b31), .val (.int ii), .val (.int jj), .unset, .unset, .unset, .unset] [(.int (2 : Int32)), (.ref bs), (.long (ga43 (2 : Int32)))])) _
          refine X43.laload hx (j := (2 : Int32)) (v := (.long (gs (2 : Int32)))) (by rw [e43]; exact Ar49.1) (State.isArrayOf_alike hZ.alike Ar49.2.1) Ar49.2.2 hin49 hat49 (g := (mkF m 134 #[.val (.long q1), .second, .val (.long q2), .second, .val (.long q3), .second, .val (.int p4), .val (.ref b1), .val (.ref bs), .val (.ref b31), .val (.int ii), .val (.int jj), .unset, .unset, .unset, .unset] [(.int (2 : Int32)), (.ref bs), (.long (ga43 (2 : Int32)))])) rfl rfl (hb hby at_134) _ ?_
          show Steps p.tables e below (T43.setTop (mkF m 135 #[.val (.long q1), .second, .val (.long q2), .second, .val (.long q3), .second, .val (.int p4), .val (.ref b1), .val (.ref bs), .val (.ref b31), .val (.int ii), .val (.int jj), .unset, .unset, .unset, .unset] [(.long (gs (2 : Int32))), (.long (ga43 (2 : Int32)))])) _
          refine XS.lcmp X43.here hx rfl (hb hby at_135) rfl ?_
          by_cases hj136 : (ga43 (2 : Int32)) = (gs (2 : Int32))
          · show Steps p.tables e below (T43.setTop (mkF m 136 #[.val (.long q1), .second, .val (.long q2), .second, .val (.long q3), .second, .val (.int p4), .val (.ref b1), .val (.ref bs), .val (.ref b31), .val (.int ii), .val (.int jj), .unset, .unset, .unset, .unset] [(.int (lcmpW (ga43 (2 : Int32)) (gs (2 : Int32))))])) _
            refine XS.ifNo X43.here hx rfl (hb hby at_136) rfl ((if0 _ _).trans (teq ((lw_eq _ _).mpr hj136)).2) ?_
            show Steps p.tables e below (T43.setTop (mkF m 139 #[.val (.long q1), .second, .val (.long q2), .second, .val (.long q3), .second, .val (.int p4), .val (.ref b1), .val (.ref bs), .val (.ref b31), .val (.int ii), .val (.int jj), .unset, .unset, .unset, .unset] [])) _
            refine XS.aload X43.here hx rfl (hb hby at_139) rfl rfl ?_
            show Steps p.tables e below (T43.setTop (mkF m 141 #[.val (.long q1), .second, .val (.long q2), .second, .val (.long q3), .second, .val (.int p4), .val (.ref b1), .val (.ref bs), .val (.ref b31), .val (.int ii), .val (.int jj), .unset, .unset, .unset, .unset] [(.ref b31)])) _
            refine XS.iconst X43.here hx rfl (hb hby at_141) ?_
            show Steps p.tables e below (T43.setTop (mkF m 142 #[.val (.long q1), .second, .val (.long q2), .second, .val (.long q3), .second, .val (.int p4), .val (.ref b1), .val (.ref bs), .val (.ref b31), .val (.int ii), .val (.int jj), .unset, .unset, .unset, .unset] [(.int (3 : Int32)), (.ref b31)])) _
            refine X43.laload hx (j := (3 : Int32)) (v := (.long (ga43 (3 : Int32)))) (by rw [e43]; exact Ar50.1) (State.isArrayOf_alike hZ.alike Ar50.2.1) Ar50.2.2 hin50 hat50 (g := (mkF m 142 #[.val (.long q1), .second, .val (.long q2), .second, .val (.long q3), .second, .val (.int p4), .val (.ref b1), .val (.ref bs), .val (.ref b31), .val (.int ii), .val (.int jj), .unset, .unset, .unset, .unset] [(.int (3 : Int32)), (.ref b31)])) rfl rfl (hb hby at_142) _ ?_
            show Steps p.tables e below (T43.setTop (mkF m 143 #[.val (.long q1), .second, .val (.long q2), .second, .val (.long q3), .second, .val (.int p4), .val (.ref b1), .val (.ref bs), .val (.ref b31), .val (.int ii), .val (.int jj), .unset, .unset, .unset, .unset] [(.long (ga43 (3 : Int32)))])) _
            refine XS.aload X43.here hx rfl (hb hby at_143) rfl rfl ?_
            show Steps p.tables e below (T43.setTop (mkF m 145 #[.val (.long q1), .second, .val (.long q2), .second, .val (.long q3), .second, .val (.int p4), .val (.ref b1), .val (.ref bs), .val (.ref b31), .val (.int ii), .val (.int jj), .unset, .unset, .unset, .unset] [(.ref bs), (.long (ga43 (3 : Int32)))])) _
            refine XS.iconst X43.here hx rfl (hb hby at_145) ?_
            show Steps p.tables e below (T43.setTop (mkF m 146 #[.val (.long q1), .second, .val (.long q2), .second, .val (.long q3), .second, .val (.int p4), .val (.ref b1), .val (.ref bs), .val (.ref b31), .val (.int ii), .val (.int jj), .unset, .unset, .unset, .unset] [(.int (3 : Int32)), (.ref bs), (.long (ga43 (3 : Int32)))])) _
            refine X43.laload hx (j := (3 : Int32)) (v := (.long (gs (3 : Int32)))) (by rw [e43]; exact Ar51.1) (State.isArrayOf_alike hZ.alike Ar51.2.1) Ar51.2.2 hin51 hat51 (g := (mkF m 146 #[.val (.long q1), .second, .val (.long q2), .second, .val (.long q3), .second, .val (.int p4), .val (.ref b1), .val (.ref bs), .val (.ref b31), .val (.int ii), .val (.int jj), .unset, .unset, .unset, .unset] [(.int (3 : Int32)), (.ref bs), (.long (ga43 (3 : Int32)))])) rfl rfl (hb hby at_146) _ ?_
            show Steps p.tables e below (T43.setTop (mkF m 147 #[.val (.long q1), .second, .val (.long q2), .second, .val (.long q3), .second, .val (.int p4), .val (.ref b1), .val (.ref bs), .val (.ref b31), .val (.int ii), .val (.int jj), .unset, .unset, .unset, .unset] [(.long (gs (3 : Int32))), (.long (ga43 (3 : Int32)))])) _
            refine XS.lcmp X43.here hx rfl (hb hby at_147) rfl ?_
            by_cases hj148 : (ga43 (3 : Int32)) = (gs (3 : Int32))
            · have q_ex : ex = (1 : Int32) := by rw [d_ex, if_pos hj112, if_pos hj124, if_pos hj136, if_pos hj148]
              show Steps p.tables e below (T43.setTop (mkF m 148 #[.val (.long q1), .second, .val (.long q2), .second, .val (.long q3), .second, .val (.int p4), .val (.ref b1), .val (.ref bs), .val (.ref b31), .val (.int ii), .val (.int jj), .unset, .unset, .unset, .unset] [(.int (lcmpW (ga43 (3 : Int32)) (gs (3 : Int32))))])) _
              refine XS.ifNo X43.here hx rfl (hb hby at_148) rfl ((if0 _ _).trans (teq ((lw_eq _ _).mpr hj148)).2) ?_
              show Steps p.tables e below (T43.setTop (mkF m 151 #[.val (.long q1), .second, .val (.long q2), .second, .val (.long q3), .second, .val (.int p4), .val (.ref b1), .val (.ref bs), .val (.ref b31), .val (.int ii), .val (.int jj), .unset, .unset, .unset, .unset] [])) _
              refine XS.iconst X43.here hx rfl (hb hby at_151) ?_
              show Steps p.tables e below (T43.setTop (mkF m 152 #[.val (.long q1), .second, .val (.long q2), .second, .val (.long q3), .second, .val (.int p4), .val (.ref b1), .val (.ref bs), .val (.ref b31), .val (.int ii), .val (.int jj), .unset, .unset, .unset, .unset] [(.int (1 : Int32))])) _
              refine XS.goto X43.here hx rfl (pc0 := 152) (pc' := 156) rfl (hb hby at_152) (by decide) (by decide) ?_
              rw [q_ex] at k
              exact k
            · have q_ex : ex = (0 : Int32) := by rw [d_ex, if_pos hj112, if_pos hj124, if_pos hj136, if_neg hj148]
              show Steps p.tables e below (T43.setTop (mkF m 148 #[.val (.long q1), .second, .val (.long q2), .second, .val (.long q3), .second, .val (.int p4), .val (.ref b1), .val (.ref bs), .val (.ref b31), .val (.int ii), .val (.int jj), .unset, .unset, .unset, .unset] [(.int (lcmpW (ga43 (3 : Int32)) (gs (3 : Int32))))])) _
              refine XS.ifYes X43.here hx rfl (pc0 := 148) (pc' := 155) rfl (hb hby at_148) rfl ((if0 _ _).trans (feq (fun z => hj148 ((lw_eq _ _).mp z))).2) (by decide) (by decide) ?_
              show Steps p.tables e below (T43.setTop (mkF m 155 #[.val (.long q1), .second, .val (.long q2), .second, .val (.long q3), .second, .val (.int p4), .val (.ref b1), .val (.ref bs), .val (.ref b31), .val (.int ii), .val (.int jj), .unset, .unset, .unset, .unset] [])) _
              refine XS.iconst X43.here hx rfl (hb hby at_155) ?_
              rw [q_ex] at k
              exact k
          · have q_ex : ex = (0 : Int32) := by rw [d_ex, if_pos hj112, if_pos hj124, if_neg hj136]
            show Steps p.tables e below (T43.setTop (mkF m 136 #[.val (.long q1), .second, .val (.long q2), .second, .val (.long q3), .second, .val (.int p4), .val (.ref b1), .val (.ref bs), .val (.ref b31), .val (.int ii), .val (.int jj), .unset, .unset, .unset, .unset] [(.int (lcmpW (ga43 (2 : Int32)) (gs (2 : Int32))))])) _
            refine XS.ifYes X43.here hx rfl (pc0 := 136) (pc' := 155) rfl (hb hby at_136) rfl ((if0 _ _).trans (feq (fun z => hj136 ((lw_eq _ _).mp z))).2) (by decide) (by decide) ?_
            show Steps p.tables e below (T43.setTop (mkF m 155 #[.val (.long q1), .second, .val (.long q2), .second, .val (.long q3), .second, .val (.int p4), .val (.ref b1), .val (.ref bs), .val (.ref b31), .val (.int ii), .val (.int jj), .unset, .unset, .unset, .unset] [])) _
            refine XS.iconst X43.here hx rfl (hb hby at_155) ?_
            rw [q_ex] at k
            exact k
        · have q_ex : ex = (0 : Int32) := by rw [d_ex, if_pos hj112, if_neg hj124]
          show Steps p.tables e below (T43.setTop (mkF m 124 #[.val (.long q1), .second, .val (.long q2), .second, .val (.long q3), .second, .val (.int p4), .val (.ref b1), .val (.ref bs), .val (.ref b31), .val (.int ii), .val (.int jj), .unset, .unset, .unset, .unset] [(.int (lcmpW (ga43 (1 : Int32)) (gs (1 : Int32))))])) _
          refine XS.ifYes X43.here hx rfl (pc0 := 124) (pc' := 155) rfl (hb hby at_124) rfl ((if0 _ _).trans (feq (fun z => hj124 ((lw_eq _ _).mp z))).2) (by decide) (by decide) ?_
          show Steps p.tables e below (T43.setTop (mkF m 155 #[.val (.long q1), .second, .val (.long q2), .second, .val (.long q3), .second, .val (.int p4), .val (.ref b1), .val (.ref bs), .val (.ref b31), .val (.int ii), .val (.int jj), .unset, .unset, .unset, .unset] [])) _
          refine XS.iconst X43.here hx rfl (hb hby at_155) ?_
          rw [q_ex] at k
          exact k
      · have q_ex : ex = (0 : Int32) := by rw [d_ex, if_neg hj112]
        show Steps p.tables e below (T43.setTop (mkF m 112 #[.val (.long q1), .second, .val (.long q2), .second, .val (.long q3), .second, .val (.int p4), .val (.ref b1), .val (.ref bs), .val (.ref b31), .val (.int ii), .val (.int jj), .unset, .unset, .unset, .unset] [(.int (lcmpW (ga43 (0 : Int32)) (gs (0 : Int32))))])) _
        refine XS.ifYes X43.here hx rfl (pc0 := 112) (pc' := 155) rfl (hb hby at_112) rfl ((if0 _ _).trans (feq (fun z => hj112 ((lw_eq _ _).mp z))).2) (by decide) (by decide) ?_
        show Steps p.tables e below (T43.setTop (mkF m 155 #[.val (.long q1), .second, .val (.long q2), .second, .val (.long q3), .second, .val (.int p4), .val (.ref b1), .val (.ref bs), .val (.ref b31), .val (.int ii), .val (.int jj), .unset, .unset, .unset, .unset] [])) _
        refine XS.iconst X43.here hx rfl (hb hby at_155) ?_
        rw [q_ex] at k
        exact k
    obtain ⟨cq53, kq53, q53a, q53b, q53c⟩ := isOf hZ e43 E_b1
    obtain ⟨_, _, ⟨T53, L53, k53, n53⟩, -, X53, ⟨Lc53, hQ53, l53, y53, z53⟩, st53⟩ := X43.virtualBack hx (y := (⟨"com/example/driftline/driftline/model/LxmRandom", "inState", "([J)Z"⟩ : MethodName)) (z := (⟨"com/example/driftline/driftline/model/LxmRandom", "inState", "([J)Z"⟩ : MethodName)) hown (mvT hZ (hw _ (List.mem_of_getElem? (i := 35) rfl))) (mvT hZ (hw _ (List.mem_of_getElem? (i := 36) rfl))) (notFace_of_selects (args := #[]) (mvT hZ (hw _ (List.mem_of_getElem? (i := 38) rfl)))) (mvT hZ (hw _ (List.mem_of_getElem? (i := 38) rfl))) (mvT hZ (hw _ (List.mem_of_getElem? (i := 37) rfl))) (by decide) (backOf (W := 0) (rm6 l Z a0 hw [] b1 bs fa fs' fx fy gs h43 n0 Z0 F_b1_a F_b1_s F_b1_x0 F_b1_x1 V_bs) hZ (hw _ (List.mem_of_getElem? (i := 39) rfl)) (hw _ (List.mem_of_getElem? (i := 2) rfl)) (by decide) (by decide)) q53a q53c (g := (mkF m 162 #[.val (.long q1), .second, .val (.long q2), .second, .val (.long q3), .second, .val (.int p4), .val (.ref b1), .val (.ref bs), .val (.ref b31), .val (.int ii), .val (.int jj), .val (.int ex), .unset, .unset, .unset] [(.ref bs), (.ref b1)])) rfl (by rw [hml]; rfl) (Steps.refl _) (argsL := [(.ref bs)]) (rest := []) (lenOf pd_4 rfl) rfl (by show 2 * 0 + _ ≤ _; exact Nat.le_of_eq rfl) (hb hby at_162) (fun _ _ => ⟨rfl, e43, (by decide : 3 + 0 ≤ _), (by decide : 12 + 0 ≤ _)⟩)
    dsimp only [Pt.U, Pt.locs, Pt.cells, Pt.slots] at X53 l53 y53 z53 st53 hQ53
    subst l53 y53 z53
    obtain ⟨fst, rfl, d_fst, N53q, e53⟩ := hQ53
    have N53 := Fr.app N43 N53q
    obtain ⟨cq54, kq54, q54a, q54b, q54c⟩ := isOf hZ e53 E_b1
    obtain ⟨_, _, ⟨T54, L54, k54, n54⟩, -, X54, ⟨Lc54, hQ54, l54, y54, z54⟩, st54⟩ := X53.virtualBack hx (y := (⟨"com/example/driftline/driftline/model/LxmRandom", "inState", "([J)Z"⟩ : MethodName)) (z := (⟨"com/example/driftline/driftline/model/LxmRandom", "inState", "([J)Z"⟩ : MethodName)) hown (mvT hZ (hw _ (List.mem_of_getElem? (i := 35) rfl))) (mvT hZ (hw _ (List.mem_of_getElem? (i := 36) rfl))) (notFace_of_selects (args := #[]) (mvT hZ (hw _ (List.mem_of_getElem? (i := 38) rfl)))) (mvT hZ (hw _ (List.mem_of_getElem? (i := 38) rfl))) (mvT hZ (hw _ (List.mem_of_getElem? (i := 37) rfl))) (by decide) (backOf (W := 0) (rm6 l Z a0 hw [] b1 b31 fa fs' fx fy ga43 h43 n0 Z0 F_b1_a F_b1_s F_b1_x0 F_b1_x1 V_b31) hZ (hw _ (List.mem_of_getElem? (i := 39) rfl)) (hw _ (List.mem_of_getElem? (i := 2) rfl)) (by decide) (by decide)) q54a q54c (g := (mkF m 171 #[.val (.long q1), .second, .val (.long q2), .second, .val (.long q3), .second, .val (.int p4), .val (.ref b1), .val (.ref bs), .val (.ref b31), .val (.int ii), .val (.int jj), .val (.int ex), .val (.int fst), .unset, .unset] [(.ref b31), (.ref b1)])) rfl (by rw [hml]; rfl) (Steps.refl _) (argsL := [(.ref b31)]) (rest := []) (lenOf pd_4 rfl) rfl (by show 2 * 0 + _ ≤ _; exact Nat.le_of_eq rfl) (hb hby at_171) (fun _ _ => ⟨rfl, e53, (by decide : 3 + 0 ≤ _), (by decide : 12 + 0 ≤ _)⟩)
    dsimp only [Pt.U, Pt.locs, Pt.cells, Pt.slots] at X54 l54 y54 z54 st54 hQ54
    subst l54 y54 z54
    obtain ⟨snd, rfl, d_snd, N54q, e54⟩ := hQ54
    have N54 := Fr.app N53 N54q
    obtain ⟨cq55, kq55, q55a, q55b, q55c⟩ := isOf hZ e54 E_b1
    obtain ⟨_, _, ⟨T55, L55, k55, n55⟩, -, X55, ⟨Lc55, hQ55, l55, y55, z55⟩, st55⟩ := X54.virtualBack hx (y := (⟨"com/example/driftline/driftline/model/LxmRandom", "inState", "([J)Z"⟩ : MethodName)) (z := (⟨"com/example/driftline/driftline/model/LxmRandom", "inState", "([J)Z"⟩ : MethodName)) hown (mvT hZ (hw _ (List.mem_of_getElem? (i := 35) rfl))) (mvT hZ (hw _ (List.mem_of_getElem? (i := 36) rfl))) (notFace_of_selects (args := #[]) (mvT hZ (hw _ (List.mem_of_getElem? (i := 38) rfl)))) (mvT hZ (hw _ (List.mem_of_getElem? (i := 38) rfl))) (mvT hZ (hw _ (List.mem_of_getElem? (i := 37) rfl))) (by decide) (backOf (W := 0) (rm6 l Z a0 hw [] b1 bs fa fs' fx fy gs h43 n0 Z0 F_b1_a F_b1_s F_b1_x0 F_b1_x1 V_bs) hZ (hw _ (List.mem_of_getElem? (i := 39) rfl)) (hw _ (List.mem_of_getElem? (i := 2) rfl)) (by decide) (by decide)) q55a q55c (g := (mkF m 180 #[.val (.long q1), .second, .val (.long q2), .second, .val (.long q3), .second, .val (.int p4), .val (.ref b1), .val (.ref bs), .val (.ref b31), .val (.int ii), .val (.int jj), .val (.int ex), .val (.int fst), .val (.int snd), .unset] [(.ref bs), (.ref b1)])) rfl (by rw [hml]; rfl) (Steps.refl _) (argsL := [(.ref bs)]) (rest := []) (lenOf pd_4 rfl) rfl (by show 2 * 0 + _ ≤ _; exact Nat.le_of_eq rfl) (hb hby at_180) (fun _ _ => ⟨rfl, e54, (by decide : 3 + 0 ≤ _), (by decide : 12 + 0 ≤ _)⟩)
    dsimp only [Pt.U, Pt.locs, Pt.cells, Pt.slots] at X55 l55 y55 z55 st55 hQ55
    subst l55 y55 z55
    obtain ⟨trd, rfl, d_trd, N55q, e55⟩ := hQ55
    have N55 := Fr.app N54 N55q
    have hc187 : ¬ (fst = (0 : Int32)) := by rw [d_fst, if_pos ⟨G1.symm, G2.symm, G3.symm, G0.symm⟩]; decide
    have hc194 : snd = ex := by rw [d_snd, d_ex, G0, G1, G2, G3]; exact own_law _ _ _ _ _ _ _ _
    have hc199 : ¬ (trd = (0 : Int32)) := by rw [d_trd, if_pos ⟨G1.symm, G2.symm, G3.symm, G0.symm⟩]; decide
    obtain ⟨fs, hr, hrun, hended, hW, hsame⟩ := X55.leave (v := some (.int (1 : Int32))) (fun h => by rw [Bd.returns] at h; cases h)
    refine ⟨_, _, ?_, hrun, hended, _, _, rfl, ?_, ⟨_, rfl⟩, hW, hsame.mono (by decide) (by decide)⟩
    · show Steps p.tables e below (T2.setTop (mkF m 15 #[.val (.long q1), .second, .val (.long q2), .second, .val (.long q3), .second, .val (.int p4), .val (.ref b1), .unset, .unset, .unset, .unset, .unset, .unset, .unset, .unset] [(.int (p4 &&& (16 : Int32)))])) _
      refine XS.ifNo X2.here hx rfl (hb hby at_15) rfl ((if0 _ _).trans (feq hc15).1) ?_
      show Steps p.tables e below (T2.setTop (mkF m 18 #[.val (.long q1), .second, .val (.long q2), .second, .val (.long q3), .second, .val (.int p4), .val (.ref b1), .unset, .unset, .unset, .unset, .unset, .unset, .unset, .unset] [])) _
      refine XS.aload X2.here hx rfl (hb hby at_18) rfl rfl ?_
      show Steps p.tables e below (T2.setTop (mkF m 20 #[.val (.long q1), .second, .val (.long q2), .second, .val (.long q3), .second, .val (.int p4), .val (.ref b1), .unset, .unset, .unset, .unset, .unset, .unset, .unset, .unset] [(.ref b1)])) _
      refine st29.trans ?_
      show Steps p.tables e below (T29.setTop (mkF m 23 #[.val (.long q1), .second, .val (.long q2), .second, .val (.long q3), .second, .val (.int p4), .val (.ref b1), .unset, .unset, .unset, .unset, .unset, .unset, .unset, .unset] [(.long nx)])) _
      jvm_step X29.here [X29.here.top, hx, (hb hby at_23), Value.category]
      show Steps p.tables e below (T29.setTop (mkF m 24 #[.val (.long q1), .second, .val (.long q2), .second, .val (.long q3), .second, .val (.int p4), .val (.ref b1), .unset, .unset, .unset, .unset, .unset, .unset, .unset, .unset] [])) _
      refine XS.aload X29.here hx rfl (hb hby at_24) rfl rfl ?_
      show Steps p.tables e below (T29.setTop (mkF m 26 #[.val (.long q1), .second, .val (.long q2), .second, .val (.long q3), .second, .val (.int p4), .val (.ref b1), .unset, .unset, .unset, .unset, .unset, .unset, .unset, .unset] [(.ref b1)])) _
      refine st30.trans ?_
      show Steps p.tables e below (T30.setTop (mkF m 29 #[.val (.long q1), .second, .val (.long q2), .second, .val (.long q3), .second, .val (.int p4), .val (.ref b1), .unset, .unset, .unset, .unset, .unset, .unset, .unset, .unset] [(.ref bs)])) _
      refine XS.astore X30.here hx rfl (hb hby at_29) rfl rfl (l' := #[.val (.long q1), .second, .val (.long q2), .second, .val (.long q3), .second, .val (.int p4), .val (.ref b1), .val (.ref bs), .unset, .unset, .unset, .unset, .unset, .unset, .unset]) rfl ?_
      show Steps p.tables e below (T30.setTop (mkF m 31 #[.val (.long q1), .second, .val (.long q2), .second, .val (.long q3), .second, .val (.int p4), .val (.ref b1), .val (.ref bs), .unset, .unset, .unset, .unset, .unset, .unset, .unset] [])) _
      refine XS.iconst X30.here hx rfl (hb hby at_31) ?_
      show Steps p.tables e below (T30.setTop (mkF m 32 #[.val (.long q1), .second, .val (.long q2), .second, .val (.long q3), .second, .val (.int p4), .val (.ref b1), .val (.ref bs), .unset, .unset, .unset, .unset, .unset, .unset, .unset] [(.int (4 : Int32))])) _
      refine st31 _ ?_
      show Steps p.tables e below (T31.setTop (mkF m 34 #[.val (.long q1), .second, .val (.long q2), .second, .val (.long q3), .second, .val (.int p4), .val (.ref b1), .val (.ref bs), .unset, .unset, .unset, .unset, .unset, .unset, .unset] [(.ref b31)])) _
      refine XS.dup X31.here hx rfl (hb hby at_34) rfl rfl ?_
      show Steps p.tables e below (T31.setTop (mkF m 35 #[.val (.long q1), .second, .val (.long q2), .second, .val (.long q3), .second, .val (.int p4), .val (.ref b1), .val (.ref bs), .unset, .unset, .unset, .unset, .unset, .unset, .unset] [(.ref b31), (.ref b31)])) _
      refine XS.iconst X31.here hx rfl (hb hby at_35) ?_
      show Steps p.tables e below (T31.setTop (mkF m 36 #[.val (.long q1), .second, .val (.long q2), .second, .val (.long q3), .second, .val (.int p4), .val (.ref b1), .val (.ref bs), .unset, .unset, .unset, .unset, .unset, .unset, .unset] [(.int (0 : Int32)), (.ref b31), (.ref b31)])) _
      refine XS.aload X31.here hx rfl (hb hby at_36) rfl rfl ?_
      show Steps p.tables e below (T31.setTop (mkF m 38 #[.val (.long q1), .second, .val (.long q2), .second, .val (.long q3), .second, .val (.int p4), .val (.ref b1), .val (.ref bs), .unset, .unset, .unset, .unset, .unset, .unset, .unset] [(.ref bs), (.int (0 : Int32)), (.ref b31), (.ref b31)])) _
      refine XS.iconst X31.here hx rfl (hb hby at_38) ?_
      show Steps p.tables e below (T31.setTop (mkF m 39 #[.val (.long q1), .second, .val (.long q2), .second, .val (.long q3), .second, .val (.int p4), .val (.ref b1), .val (.ref bs), .unset, .unset, .unset, .unset, .unset, .unset, .unset] [(.int (0 : Int32)), (.ref bs), (.int (0 : Int32)), (.ref b31), (.ref b31)])) _
      refine X31.laload hx (j := (0 : Int32)) (v := (.long (gs (0 : Int32)))) (by rw [e31]; exact Ar32.1) (State.isArrayOf_alike hZ.alike Ar32.2.1) Ar32.2.2 hin32 hat32 (g := (mkF m 39 #[.val (.long q1), .second, .val (.long q2), .second, .val (.long q3), .second, .val (.int p4), .val (.ref b1), .val (.ref bs), .unset, .unset, .unset, .unset, .unset, .unset, .unset] [(.int (0 : Int32)), (.ref bs), (.int (0 : Int32)), (.ref b31), (.ref b31)])) rfl rfl (hb hby at_39) _ ?_
      show Steps p.tables e below (T31.setTop (mkF m 40 #[.val (.long q1), .second, .val (.long q2), .second, .val (.long q3), .second, .val (.int p4), .val (.ref b1), .val (.ref bs), .unset, .unset, .unset, .unset, .unset, .unset, .unset] [(.long (gs (0 : Int32))), (.int (0 : Int32)), (.ref b31), (.ref b31)])) _
      refine st33 _ ?_
      show Steps p.tables e below (T33.setTop (mkF m 41 #[.val (.long q1), .second, .val (.long q2), .second, .val (.long q3), .second, .val (.int p4), .val (.ref b1), .val (.ref bs), .unset, .unset, .unset, .unset, .unset, .unset, .unset] [(.ref b31)])) _
      refine XS.dup X33.here hx rfl (hb hby at_41) rfl rfl ?_
      show Steps p.tables e below (T33.setTop (mkF m 42 #[.val (.long q1), .second, .val (.long q2), .second, .val (.long q3), .second, .val (.int p4), .val (.ref b1), .val (.ref bs), .unset, .unset, .unset, .unset, .unset, .unset, .unset] [(.ref b31), (.ref b31)])) _
      refine XS.iconst X33.here hx rfl (hb hby at_42) ?_
      show Steps p.tables e below (T33.setTop (mkF m 43 #[.val (.long q1), .second, .val (.long q2), .second, .val (.long q3), .second, .val (.int p4), .val (.ref b1), .val (.ref bs), .unset, .unset, .unset, .unset, .unset, .unset, .unset] [(.int (1 : Int32)), (.ref b31), (.ref b31)])) _
      refine XS.aload X33.here hx rfl (hb hby at_43) rfl rfl ?_
      show Steps p.tables e below (T33.setTop (mkF m 45 #[.val (.long q1), .second, .val (.long q2), .second, .val (.long q3), .second, .val (.int p4), .val (.ref b1), .val (.ref bs), .unset, .unset, .unset, .unset, .unset, .unset, .unset] [(.ref bs), (.int (1 : Int32)), (.ref b31), (.ref b31)])) _
      refine XS.iconst X33.here hx rfl (hb hby at_45) ?_
      show Steps p.tables e below (T33.setTop (mkF m 46 #[.val (.long q1), .second, .val (.long q2), .second, .val (.long q3), .second, .val (.int p4), .val (.ref b1), .val (.ref bs), .unset, .unset, .unset, .unset, .unset, .unset, .unset] [(.int (1 : Int32)), (.ref bs), (.int (1 : Int32)), (.ref b31), (.ref b31)])) _
      refine X33.laload hx (j := (1 : Int32)) (v := (.long (gs (1 : Int32)))) (by rw [e33]; exact Ar34.1) (State.isArrayOf_alike hZ.alike Ar34.2.1) Ar34.2.2 hin34 hat34 (g := (mkF m 46 #[.val (.long q1), .second, .val (.long q2), .second, .val (.long q3), .second, .val (.int p4), .val (.ref b1), .val (.ref bs), .unset, .unset, .unset, .unset, .unset, .unset, .unset] [(.int (1 : Int32)), (.ref bs), (.int (1 : Int32)), (.ref b31), (.ref b31)])) rfl rfl (hb hby at_46) _ ?_
      show Steps p.tables e below (T33.setTop (mkF m 47 #[.val (.long q1), .second, .val (.long q2), .second, .val (.long q3), .second, .val (.int p4), .val (.ref b1), .val (.ref bs), .unset, .unset, .unset, .unset, .unset, .unset, .unset] [(.long (gs (1 : Int32))), (.int (1 : Int32)), (.ref b31), (.ref b31)])) _
      refine st35 _ ?_
      show Steps p.tables e below (T35.setTop (mkF m 48 #[.val (.long q1), .second, .val (.long q2), .second, .val (.long q3), .second, .val (.int p4), .val (.ref b1), .val (.ref bs), .unset, .unset, .unset, .unset, .unset, .unset, .unset] [(.ref b31)])) _
      refine XS.dup X35.here hx rfl (hb hby at_48) rfl rfl ?_
      show Steps p.tables e below (T35.setTop (mkF m 49 #[.val (.long q1), .second, .val (.long q2), .second, .val (.long q3), .second, .val (.int p4), .val (.ref b1), .val (.ref bs), .unset, .unset, .unset, .unset, .unset, .unset, .unset] [(.ref b31), (.ref b31)])) _
      refine XS.iconst X35.here hx rfl (hb hby at_49) ?_
      show Steps p.tables e below (T35.setTop (mkF m 50 #[.val (.long q1), .second, .val (.long q2), .second, .val (.long q3), .second, .val (.int p4), .val (.ref b1), .val (.ref bs), .unset, .unset, .unset, .unset, .unset, .unset, .unset] [(.int (2 : Int32)), (.ref b31), (.ref b31)])) _
      refine XS.aload X35.here hx rfl (hb hby at_50) rfl rfl ?_
      show Steps p.tables e below (T35.setTop (mkF m 52 #[.val (.long q1), .second, .val (.long q2), .second, .val (.long q3), .second, .val (.int p4), .val (.ref b1), .val (.ref bs), .unset, .unset, .unset, .unset, .unset, .unset, .unset] [(.ref bs), (.int (2 : Int32)), (.ref b31), (.ref b31)])) _
      refine XS.iconst X35.here hx rfl (hb hby at_52) ?_
      show Steps p.tables e below (T35.setTop (mkF m 53 #[.val (.long q1), .second, .val (.long q2), .second, .val (.long q3), .second, .val (.int p4), .val (.ref b1), .val (.ref bs), .unset, .unset, .unset, .unset, .unset, .unset, .unset] [(.int (2 : Int32)), (.ref bs), (.int (2 : Int32)), (.ref b31), (.ref b31)])) _
      refine X35.laload hx (j := (2 : Int32)) (v := (.long (gs (2 : Int32)))) (by rw [e35]; exact Ar36.1) (State.isArrayOf_alike hZ.alike Ar36.2.1) Ar36.2.2 hin36 hat36 (g := (mkF m 53 #[.val (.long q1), .second, .val (.long q2), .second, .val (.long q3), .second, .val (.int p4), .val (.ref b1), .val (.ref bs), .unset, .unset, .unset, .unset, .unset, .unset, .unset] [(.int (2 : Int32)), (.ref bs), (.int (2 : Int32)), (.ref b31), (.ref b31)])) rfl rfl (hb hby at_53) _ ?_
      show Steps p.tables e below (T35.setTop (mkF m 54 #[.val (.long q1), .second, .val (.long q2), .second, .val (.long q3), .second, .val (.int p4), .val (.ref b1), .val (.ref bs), .unset, .unset, .unset, .unset, .unset, .unset, .unset] [(.long (gs (2 : Int32))), (.int (2 : Int32)), (.ref b31), (.ref b31)])) _
      refine st37 _ ?_
      show Steps p.tables e below (T37.setTop (mkF m 55 #[.val (.long q1), .second, .val (.long q2), .second, .val (.long q3), .second, .val (.int p4), .val (.ref b1), .val (.ref bs), .unset, .unset, .unset, .unset, .unset, .unset, .unset] [(.ref b31)])) _
      refine XS.dup X37.here hx rfl (hb hby at_55) rfl rfl ?_
      show Steps p.tables e below (T37.setTop (mkF m 56 #[.val (.long q1), .second, .val (.long q2), .second, .val (.long q3), .second, .val (.int p4), .val (.ref b1), .val (.ref bs), .unset, .unset, .unset, .unset, .unset, .unset, .unset] [(.ref b31), (.ref b31)])) _
      refine XS.iconst X37.here hx rfl (hb hby at_56) ?_
      show Steps p.tables e below (T37.setTop (mkF m 57 #[.val (.long q1), .second, .val (.long q2), .second, .val (.long q3), .second, .val (.int p4), .val (.ref b1), .val (.ref bs), .unset, .unset, .unset, .unset, .unset, .unset, .unset] [(.int (3 : Int32)), (.ref b31), (.ref b31)])) _
      refine XS.aload X37.here hx rfl (hb hby at_57) rfl rfl ?_
      show Steps p.tables e below (T37.setTop (mkF m 59 #[.val (.long q1), .second, .val (.long q2), .second, .val (.long q3), .second, .val (.int p4), .val (.ref b1), .val (.ref bs), .unset, .unset, .unset, .unset, .unset, .unset, .unset] [(.ref bs), (.int (3 : Int32)), (.ref b31), (.ref b31)])) _
      refine XS.iconst X37.here hx rfl (hb hby at_59) ?_
      show Steps p.tables e below (T37.setTop (mkF m 60 #[.val (.long q1), .second, .val (.long q2), .second, .val (.long q3), .second, .val (.int p4), .val (.ref b1), .val (.ref bs), .unset, .unset, .unset, .unset, .unset, .unset, .unset] [(.int (3 : Int32)), (.ref bs), (.int (3 : Int32)), (.ref b31), (.ref b31)])) _
      refine X37.laload hx (j := (3 : Int32)) (v := (.long (gs (3 : Int32)))) (by rw [e37]; exact Ar38.1) (State.isArrayOf_alike hZ.alike Ar38.2.1) Ar38.2.2 hin38 hat38 (g := (mkF m 60 #[.val (.long q1), .second, .val (.long q2), .second, .val (.long q3), .second, .val (.int p4), .val (.ref b1), .val (.ref bs), .unset, .unset, .unset, .unset, .unset, .unset, .unset] [(.int (3 : Int32)), (.ref bs), (.int (3 : Int32)), (.ref b31), (.ref b31)])) rfl rfl (hb hby at_60) _ ?_
      show Steps p.tables e below (T37.setTop (mkF m 61 #[.val (.long q1), .second, .val (.long q2), .second, .val (.long q3), .second, .val (.int p4), .val (.ref b1), .val (.ref bs), .unset, .unset, .unset, .unset, .unset, .unset, .unset] [(.long (gs (3 : Int32))), (.int (3 : Int32)), (.ref b31), (.ref b31)])) _
      refine st39 _ ?_
      show Steps p.tables e below (T39.setTop (mkF m 62 #[.val (.long q1), .second, .val (.long q2), .second, .val (.long q3), .second, .val (.int p4), .val (.ref b1), .val (.ref bs), .unset, .unset, .unset, .unset, .unset, .unset, .unset] [(.ref b31)])) _
      refine XS.astore X39.here hx rfl (hb hby at_62) rfl rfl (l' := #[.val (.long q1), .second, .val (.long q2), .second, .val (.long q3), .second, .val (.int p4), .val (.ref b1), .val (.ref bs), .val (.ref b31), .unset, .unset, .unset, .unset, .unset, .unset]) rfl ?_
      show Steps p.tables e below (T39.setTop (mkF m 64 #[.val (.long q1), .second, .val (.long q2), .second, .val (.long q3), .second, .val (.int p4), .val (.ref b1), .val (.ref bs), .val (.ref b31), .unset, .unset, .unset, .unset, .unset, .unset] [])) _
      refine XS.iload X39.here hx rfl (hb hby at_64) rfl ?_
      show Steps p.tables e below (T39.setTop (mkF m 66 #[.val (.long q1), .second, .val (.long q2), .second, .val (.long q3), .second, .val (.int p4), .val (.ref b1), .val (.ref bs), .val (.ref b31), .unset, .unset, .unset, .unset, .unset, .unset] [(.int p4)])) _
      refine XS.iconst X39.here hx rfl (hb hby at_66) ?_
      show Steps p.tables e below (T39.setTop (mkF m 67 #[.val (.long q1), .second, .val (.long q2), .second, .val (.long q3), .second, .val (.int p4), .val (.ref b1), .val (.ref bs), .val (.ref b31), .unset, .unset, .unset, .unset, .unset, .unset] [(.int (3 : Int32)), (.int p4)])) _
      refine XS.iand X39.here hx rfl (hb hby at_67) rfl ?_
      show Steps p.tables e below (T39.setTop (mkF m 68 #[.val (.long q1), .second, .val (.long q2), .second, .val (.long q3), .second, .val (.int p4), .val (.ref b1), .val (.ref bs), .val (.ref b31), .unset, .unset, .unset, .unset, .unset, .unset] [(.int (p4 &&& (3 : Int32)))])) _
      rw [← d_ii]
      show Steps p.tables e below (T39.setTop (mkF m 68 #[.val (.long q1), .second, .val (.long q2), .second, .val (.long q3), .second, .val (.int p4), .val (.ref b1), .val (.ref bs), .val (.ref b31), .unset, .unset, .unset, .unset, .unset, .unset] [(.int ii)])) _
      refine XS.istore X39.here hx rfl (hb hby at_68) rfl (l' := #[.val (.long q1), .second, .val (.long q2), .second, .val (.long q3), .second, .val (.int p4), .val (.ref b1), .val (.ref bs), .val (.ref b31), .val (.int ii), .unset, .unset, .unset, .unset, .unset]) rfl ?_
      show Steps p.tables e below (T39.setTop (mkF m 70 #[.val (.long q1), .second, .val (.long q2), .second, .val (.long q3), .second, .val (.int p4), .val (.ref b1), .val (.ref bs), .val (.ref b31), .val (.int ii), .unset, .unset, .unset, .unset, .unset] [])) _
      refine XS.iload X39.here hx rfl (hb hby at_70) rfl ?_
      show Steps p.tables e below (T39.setTop (mkF m 72 #[.val (.long q1), .second, .val (.long q2), .second, .val (.long q3), .second, .val (.int p4), .val (.ref b1), .val (.ref bs), .val (.ref b31), .val (.int ii), .unset, .unset, .unset, .unset, .unset] [(.int p4)])) _
      refine XS.iconst X39.here hx rfl (hb hby at_72) ?_
      show Steps p.tables e below (T39.setTop (mkF m 73 #[.val (.long q1), .second, .val (.long q2), .second, .val (.long q3), .second, .val (.int p4), .val (.ref b1), .val (.ref bs), .val (.ref b31), .val (.int ii), .unset, .unset, .unset, .unset, .unset] [(.int (2 : Int32)), (.int p4)])) _
      refine XS.iushr X39.here hx rfl (hb hby at_73) rfl ?_
      show Steps p.tables e below (T39.setTop (mkF m 74 #[.val (.long q1), .second, .val (.long q2), .second, .val (.long q3), .second, .val (.int p4), .val (.ref b1), .val (.ref bs), .val (.ref b31), .val (.int ii), .unset, .unset, .unset, .unset, .unset] [(.int ((p4.toUInt32 >>> ((2 : Int32) &&& 31).toUInt32).toInt32))])) _
      refine XS.iconst X39.here hx rfl (hb hby at_74) ?_
      show Steps p.tables e below (T39.setTop (mkF m 75 #[.val (.long q1), .second, .val (.long q2), .second, .val (.long q3), .second, .val (.int p4), .val (.ref b1), .val (.ref bs), .val (.ref b31), .val (.int ii), .unset, .unset, .unset, .unset, .unset] [(.int (3 : Int32)), (.int ((p4.toUInt32 >>> ((2 : Int32) &&& 31).toUInt32).toInt32))])) _
      refine XS.iand X39.here hx rfl (hb hby at_75) rfl ?_
      show Steps p.tables e below (T39.setTop (mkF m 76 #[.val (.long q1), .second, .val (.long q2), .second, .val (.long q3), .second, .val (.int p4), .val (.ref b1), .val (.ref bs), .val (.ref b31), .val (.int ii), .unset, .unset, .unset, .unset, .unset] [(.int (((p4.toUInt32 >>> ((2 : Int32) &&& 31).toUInt32).toInt32) &&& (3 : Int32)))])) _
      rw [← d_jj]
      show Steps p.tables e below (T39.setTop (mkF m 76 #[.val (.long q1), .second, .val (.long q2), .second, .val (.long q3), .second, .val (.int p4), .val (.ref b1), .val (.ref bs), .val (.ref b31), .val (.int ii), .unset, .unset, .unset, .unset, .unset] [(.int jj)])) _
      refine XS.istore X39.here hx rfl (hb hby at_76) rfl (l' := #[.val (.long q1), .second, .val (.long q2), .second, .val (.long q3), .second, .val (.int p4), .val (.ref b1), .val (.ref bs), .val (.ref b31), .val (.int ii), .val (.int jj), .unset, .unset, .unset, .unset]) rfl ?_
      show Steps p.tables e below (T39.setTop (mkF m 78 #[.val (.long q1), .second, .val (.long q2), .second, .val (.long q3), .second, .val (.int p4), .val (.ref b1), .val (.ref bs), .val (.ref b31), .val (.int ii), .val (.int jj), .unset, .unset, .unset, .unset] [])) _
      refine XS.aload X39.here hx rfl (hb hby at_78) rfl rfl ?_
      show Steps p.tables e below (T39.setTop (mkF m 80 #[.val (.long q1), .second, .val (.long q2), .second, .val (.long q3), .second, .val (.int p4), .val (.ref b1), .val (.ref bs), .val (.ref b31), .val (.int ii), .val (.int jj), .unset, .unset, .unset, .unset] [(.ref b31)])) _
      refine XS.iload X39.here hx rfl (hb hby at_80) rfl ?_
      show Steps p.tables e below (T39.setTop (mkF m 82 #[.val (.long q1), .second, .val (.long q2), .second, .val (.long q3), .second, .val (.int p4), .val (.ref b1), .val (.ref bs), .val (.ref b31), .val (.int ii), .val (.int jj), .unset, .unset, .unset, .unset] [(.int ii), (.ref b31)])) _
      refine XS.aload X39.here hx rfl (hb hby at_82) rfl rfl ?_
      show Steps p.tables e below (T39.setTop (mkF m 84 #[.val (.long q1), .second, .val (.long q2), .second, .val (.long q3), .second, .val (.int p4), .val (.ref b1), .val (.ref bs), .val (.ref b31), .val (.int ii), .val (.int jj), .unset, .unset, .unset, .unset] [(.ref b31), (.int ii), (.ref b31)])) _
      refine XS.iload X39.here hx rfl (hb hby at_84) rfl ?_
      show Steps p.tables e below (T39.setTop (mkF m 86 #[.val (.long q1), .second, .val (.long q2), .second, .val (.long q3), .second, .val (.int p4), .val (.ref b1), .val (.ref bs), .val (.ref b31), .val (.int ii), .val (.int jj), .unset, .unset, .unset, .unset] [(.int ii), (.ref b31), (.int ii), (.ref b31)])) _
      refine X39.laload hx (j := ii) (v := (.long (gt ii))) (by rw [e39]; exact Ar40.1) (State.isArrayOf_alike hZ.alike Ar40.2.1) Ar40.2.2 hin40 hat40 (g := (mkF m 86 #[.val (.long q1), .second, .val (.long q2), .second, .val (.long q3), .second, .val (.int p4), .val (.ref b1), .val (.ref bs), .val (.ref b31), .val (.int ii), .val (.int jj), .unset, .unset, .unset, .unset] [(.int ii), (.ref b31), (.int ii), (.ref b31)])) rfl rfl (hb hby at_86) _ ?_
      show Steps p.tables e below (T39.setTop (mkF m 87 #[.val (.long q1), .second, .val (.long q2), .second, .val (.long q3), .second, .val (.int p4), .val (.ref b1), .val (.ref bs), .val (.ref b31), .val (.int ii), .val (.int jj), .unset, .unset, .unset, .unset] [(.long (gt ii)), (.int ii), (.ref b31)])) _
      refine XS.lloadN X39.here hx rfl (hb hby at_87) rfl ?_
      show Steps p.tables e below (T39.setTop (mkF m 88 #[.val (.long q1), .second, .val (.long q2), .second, .val (.long q3), .second, .val (.int p4), .val (.ref b1), .val (.ref bs), .val (.ref b31), .val (.int ii), .val (.int jj), .unset, .unset, .unset, .unset] [(.long q2), (.long (gt ii)), (.int ii), (.ref b31)])) _
      refine XS.lxor X39.here hx rfl (hb hby at_88) rfl ?_
      show Steps p.tables e below (T39.setTop (mkF m 89 #[.val (.long q1), .second, .val (.long q2), .second, .val (.long q3), .second, .val (.int p4), .val (.ref b1), .val (.ref bs), .val (.ref b31), .val (.int ii), .val (.int jj), .unset, .unset, .unset, .unset] [(.long ((gt ii) ^^^ q2)), (.int ii), (.ref b31)])) _
      refine st41 _ ?_
      show Steps p.tables e below (T41.setTop (mkF m 90 #[.val (.long q1), .second, .val (.long q2), .second, .val (.long q3), .second, .val (.int p4), .val (.ref b1), .val (.ref bs), .val (.ref b31), .val (.int ii), .val (.int jj), .unset, .unset, .unset, .unset] [])) _
      refine XS.aload X41.here hx rfl (hb hby at_90) rfl rfl ?_
      show Steps p.tables e below (T41.setTop (mkF m 92 #[.val (.long q1), .second, .val (.long q2), .second, .val (.long q3), .second, .val (.int p4), .val (.ref b1), .val (.ref bs), .val (.ref b31), .val (.int ii), .val (.int jj), .unset, .unset, .unset, .unset] [(.ref b31)])) _
      refine XS.iload X41.here hx rfl (hb hby at_92) rfl ?_
      show Steps p.tables e below (T41.setTop (mkF m 94 #[.val (.long q1), .second, .val (.long q2), .second, .val (.long q3), .second, .val (.int p4), .val (.ref b1), .val (.ref bs), .val (.ref b31), .val (.int ii), .val (.int jj), .unset, .unset, .unset, .unset] [(.int jj), (.ref b31)])) _
      refine XS.aload X41.here hx rfl (hb hby at_94) rfl rfl ?_
      show Steps p.tables e below (T41.setTop (mkF m 96 #[.val (.long q1), .second, .val (.long q2), .second, .val (.long q3), .second, .val (.int p4), .val (.ref b1), .val (.ref bs), .val (.ref b31), .val (.int ii), .val (.int jj), .unset, .unset, .unset, .unset] [(.ref b31), (.int jj), (.ref b31)])) _
      refine XS.iload X41.here hx rfl (hb hby at_96) rfl ?_
      show Steps p.tables e below (T41.setTop (mkF m 98 #[.val (.long q1), .second, .val (.long q2), .second, .val (.long q3), .second, .val (.int p4), .val (.ref b1), .val (.ref bs), .val (.ref b31), .val (.int ii), .val (.int jj), .unset, .unset, .unset, .unset] [(.int jj), (.ref b31), (.int jj), (.ref b31)])) _
      refine X41.laload hx (j := jj) (v := (.long (ga41 jj))) (by rw [e41]; exact Ar42.1) (State.isArrayOf_alike hZ.alike Ar42.2.1) Ar42.2.2 hin42 hat42 (g := (mkF m 98 #[.val (.long q1), .second, .val (.long q2), .second, .val (.long q3), .second, .val (.int p4), .val (.ref b1), .val (.ref bs), .val (.ref b31), .val (.int ii), .val (.int jj), .unset, .unset, .unset, .unset] [(.int jj), (.ref b31), (.int jj), (.ref b31)])) rfl rfl (hb hby at_98) _ ?_
      show Steps p.tables e below (T41.setTop (mkF m 99 #[.val (.long q1), .second, .val (.long q2), .second, .val (.long q3), .second, .val (.int p4), .val (.ref b1), .val (.ref bs), .val (.ref b31), .val (.int ii), .val (.int jj), .unset, .unset, .unset, .unset] [(.long (ga41 jj)), (.int jj), (.ref b31)])) _
      refine XS.lload X41.here hx rfl (hb hby at_99) rfl ?_
      show Steps p.tables e below (T41.setTop (mkF m 101 #[.val (.long q1), .second, .val (.long q2), .second, .val (.long q3), .second, .val (.int p4), .val (.ref b1), .val (.ref bs), .val (.ref b31), .val (.int ii), .val (.int jj), .unset, .unset, .unset, .unset] [(.long q3), (.long (ga41 jj)), (.int jj), (.ref b31)])) _
      refine XS.lxor X41.here hx rfl (hb hby at_101) rfl ?_
      show Steps p.tables e below (T41.setTop (mkF m 102 #[.val (.long q1), .second, .val (.long q2), .second, .val (.long q3), .second, .val (.int p4), .val (.ref b1), .val (.ref bs), .val (.ref b31), .val (.int ii), .val (.int jj), .unset, .unset, .unset, .unset] [(.long ((ga41 jj) ^^^ q3)), (.int jj), (.ref b31)])) _
      refine st43 _ ?_
      show Steps p.tables e below (T43.setTop (mkF m 103 #[.val (.long q1), .second, .val (.long q2), .second, .val (.long q3), .second, .val (.int p4), .val (.ref b1), .val (.ref bs), .val (.ref b31), .val (.int ii), .val (.int jj), .unset, .unset, .unset, .unset] [])) _
      refine XS.aload X43.here hx rfl (hb hby at_103) rfl rfl ?_
      show Steps p.tables e below (T43.setTop (mkF m 105 #[.val (.long q1), .second, .val (.long q2), .second, .val (.long q3), .second, .val (.int p4), .val (.ref b1), .val (.ref bs), .val (.ref b31), .val (.int ii), .val (.int jj), .unset, .unset, .unset, .unset] [(.ref b31)])) _
      refine XS.iconst X43.here hx rfl (hb hby at_105) ?_
      show Steps p.tables e below (T43.setTop (mkF m 106 #[.val (.long q1), .second, .val (.long q2), .second, .val (.long q3), .second, .val (.int p4), .val (.ref b1), .val (.ref bs), .val (.ref b31), .val (.int ii), .val (.int jj), .unset, .unset, .unset, .unset] [(.int (0 : Int32)), (.ref b31)])) _
      refine X43.laload hx (j := (0 : Int32)) (v := (.long (ga43 (0 : Int32)))) (by rw [e43]; exact Ar44.1) (State.isArrayOf_alike hZ.alike Ar44.2.1) Ar44.2.2 hin44 hat44 (g := (mkF m 106 #[.val (.long q1), .second, .val (.long q2), .second, .val (.long q3), .second, .val (.int p4), .val (.ref b1), .val (.ref bs), .val (.ref b31), .val (.int ii), .val (.int jj), .unset, .unset, .unset, .unset] [(.int (0 : Int32)), (.ref b31)])) rfl rfl (hb hby at_106) _ ?_
      show Steps p.tables e below (T43.setTop (mkF m 107 #[.val (.long q1), .second, .val (.long q2), .second, .val (.long q3), .second, .val (.int p4), .val (.ref b1), .val (.ref bs), .val (.ref b31), .val (.int ii), .val (.int jj), .unset, .unset, .unset, .unset] [(.long (ga43 (0 : Int32)))])) _
      refine XS.aload X43.here hx rfl (hb hby at_107) rfl rfl ?_
      show Steps p.tables e below (T43.setTop (mkF m 109 #[.val (.long q1), .second, .val (.long q2), .second, .val (.long q3), .second, .val (.int p4), .val (.ref b1), .val (.ref bs), .val (.ref b31), .val (.int ii), .val (.int jj), .unset, .unset, .unset, .unset] [(.ref bs), (.long (ga43 (0 : Int32)))])) _
      refine XS.iconst X43.here hx rfl (hb hby at_109) ?_
      show Steps p.tables e below (T43.setTop (mkF m 110 #[.val (.long q1), .second, .val (.long q2), .second, .val (.long q3), .second, .val (.int p4), .val (.ref b1), .val (.ref bs), .val (.ref b31), .val (.int ii), .val (.int jj), .unset, .unset, .unset, .unset] [(.int (0 : Int32)), (.ref bs), (.long (ga43 (0 : Int32)))])) _
      refine X43.laload hx (j := (0 : Int32)) (v := (.long (gs (0 : Int32)))) (by rw [e43]; exact Ar45.1) (State.isArrayOf_alike hZ.alike Ar45.2.1) Ar45.2.2 hin45 hat45 (g := (mkF m 110 #[.val (.long q1), .second, .val (.long q2), .second, .val (.long q3), .second, .val (.int p4), .val (.ref b1), .val (.ref bs), .val (.ref b31), .val (.int ii), .val (.int jj), .unset, .unset, .unset, .unset] [(.int (0 : Int32)), (.ref bs), (.long (ga43 (0 : Int32)))])) rfl rfl (hb hby at_110) _ ?_
      show Steps p.tables e below (T43.setTop (mkF m 111 #[.val (.long q1), .second, .val (.long q2), .second, .val (.long q3), .second, .val (.int p4), .val (.ref b1), .val (.ref bs), .val (.ref b31), .val (.int ii), .val (.int jj), .unset, .unset, .unset, .unset] [(.long (gs (0 : Int32))), (.long (ga43 (0 : Int32)))])) _
      refine XS.lcmp X43.here hx rfl (hb hby at_111) rfl ?_
      show Steps p.tables e below (T43.setTop (mkF m 112 #[.val (.long q1), .second, .val (.long q2), .second, .val (.long q3), .second, .val (.int p4), .val (.ref b1), .val (.ref bs), .val (.ref b31), .val (.int ii), .val (.int jj), .unset, .unset, .unset, .unset] [(.int (lcmpW (ga43 (0 : Int32)) (gs (0 : Int32))))])) _
      refine j52 _ ?_
      show Steps p.tables e below (T43.setTop (mkF m 156 #[.val (.long q1), .second, .val (.long q2), .second, .val (.long q3), .second, .val (.int p4), .val (.ref b1), .val (.ref bs), .val (.ref b31), .val (.int ii), .val (.int jj), .unset, .unset, .unset, .unset] [(.int ex)])) _
      refine XS.istore X43.here hx rfl (hb hby at_156) rfl (l' := #[.val (.long q1), .second, .val (.long q2), .second, .val (.long q3), .second, .val (.int p4), .val (.ref b1), .val (.ref bs), .val (.ref b31), .val (.int ii), .val (.int jj), .val (.int ex), .unset, .unset, .unset]) rfl ?_
      show Steps p.tables e below (T43.setTop (mkF m 158 #[.val (.long q1), .second, .val (.long q2), .second, .val (.long q3), .second, .val (.int p4), .val (.ref b1), .val (.ref bs), .val (.ref b31), .val (.int ii), .val (.int jj), .val (.int ex), .unset, .unset, .unset] [])) _
      refine XS.aload X43.here hx rfl (hb hby at_158) rfl rfl ?_
      show Steps p.tables e below (T43.setTop (mkF m 160 #[.val (.long q1), .second, .val (.long q2), .second, .val (.long q3), .second, .val (.int p4), .val (.ref b1), .val (.ref bs), .val (.ref b31), .val (.int ii), .val (.int jj), .val (.int ex), .unset, .unset, .unset] [(.ref b1)])) _
      refine XS.aload X43.here hx rfl (hb hby at_160) rfl rfl ?_
      show Steps p.tables e below (T43.setTop (mkF m 162 #[.val (.long q1), .second, .val (.long q2), .second, .val (.long q3), .second, .val (.int p4), .val (.ref b1), .val (.ref bs), .val (.ref b31), .val (.int ii), .val (.int jj), .val (.int ex), .unset, .unset, .unset] [(.ref bs), (.ref b1)])) _
      refine st53.trans ?_
      show Steps p.tables e below (T53.setTop (mkF m 165 #[.val (.long q1), .second, .val (.long q2), .second, .val (.long q3), .second, .val (.int p4), .val (.ref b1), .val (.ref bs), .val (.ref b31), .val (.int ii), .val (.int jj), .val (.int ex), .unset, .unset, .unset] [(.int fst)])) _
      refine XS.istore X53.here hx rfl (hb hby at_165) rfl (l' := #[.val (.long q1), .second, .val (.long q2), .second, .val (.long q3), .second, .val (.int p4), .val (.ref b1), .val (.ref bs), .val (.ref b31), .val (.int ii), .val (.int jj), .val (.int ex), .val (.int fst), .unset, .unset]) rfl ?_
      show Steps p.tables e below (T53.setTop (mkF m 167 #[.val (.long q1), .second, .val (.long q2), .second, .val (.long q3), .second, .val (.int p4), .val (.ref b1), .val (.ref bs), .val (.ref b31), .val (.int ii), .val (.int jj), .val (.int ex), .val (.int fst), .unset, .unset] [])) _
      refine XS.aload X53.here hx rfl (hb hby at_167) rfl rfl ?_
      show Steps p.tables e below (T53.setTop (mkF m 169 #[.val (.long q1), .second, .val (.long q2), .second, .val (.long q3), .second, .val (.int p4), .val (.ref b1), .val (.ref bs), .val (.ref b31), .val (.int ii), .val (.int jj), .val (.int ex), .val (.int fst), .unset, .unset] [(.ref b1)])) _
      refine XS.aload X53.here hx rfl (hb hby at_169) rfl rfl ?_
      show Steps p.tables e below (T53.setTop (mkF m 171 #[.val (.long q1), .second, .val (.long q2), .second, .val (.long q3), .second, .val (.int p4), .val (.ref b1), .val (.ref bs), .val (.ref b31), .val (.int ii), .val (.int jj), .val (.int ex), .val (.int fst), .unset, .unset] [(.ref b31), (.ref b1)])) _
      refine st54.trans ?_
      show Steps p.tables e below (T54.setTop (mkF m 174 #[.val (.long q1), .second, .val (.long q2), .second, .val (.long q3), .second, .val (.int p4), .val (.ref b1), .val (.ref bs), .val (.ref b31), .val (.int ii), .val (.int jj), .val (.int ex), .val (.int fst), .unset, .unset] [(.int snd)])) _
      refine XS.istore X54.here hx rfl (hb hby at_174) rfl (l' := #[.val (.long q1), .second, .val (.long q2), .second, .val (.long q3), .second, .val (.int p4), .val (.ref b1), .val (.ref bs), .val (.ref b31), .val (.int ii), .val (.int jj), .val (.int ex), .val (.int fst), .val (.int snd), .unset]) rfl ?_
      show Steps p.tables e below (T54.setTop (mkF m 176 #[.val (.long q1), .second, .val (.long q2), .second, .val (.long q3), .second, .val (.int p4), .val (.ref b1), .val (.ref bs), .val (.ref b31), .val (.int ii), .val (.int jj), .val (.int ex), .val (.int fst), .val (.int snd), .unset] [])) _
      refine XS.aload X54.here hx rfl (hb hby at_176) rfl rfl ?_
      show Steps p.tables e below (T54.setTop (mkF m 178 #[.val (.long q1), .second, .val (.long q2), .second, .val (.long q3), .second, .val (.int p4), .val (.ref b1), .val (.ref bs), .val (.ref b31), .val (.int ii), .val (.int jj), .val (.int ex), .val (.int fst), .val (.int snd), .unset] [(.ref b1)])) _
      refine XS.aload X54.here hx rfl (hb hby at_178) rfl rfl ?_
      show Steps p.tables e below (T54.setTop (mkF m 180 #[.val (.long q1), .second, .val (.long q2), .second, .val (.long q3), .second, .val (.int p4), .val (.ref b1), .val (.ref bs), .val (.ref b31), .val (.int ii), .val (.int jj), .val (.int ex), .val (.int fst), .val (.int snd), .unset] [(.ref bs), (.ref b1)])) _
      refine st55.trans ?_
      show Steps p.tables e below (T55.setTop (mkF m 183 #[.val (.long q1), .second, .val (.long q2), .second, .val (.long q3), .second, .val (.int p4), .val (.ref b1), .val (.ref bs), .val (.ref b31), .val (.int ii), .val (.int jj), .val (.int ex), .val (.int fst), .val (.int snd), .unset] [(.int trd)])) _
      refine XS.istore X55.here hx rfl (hb hby at_183) rfl (l' := #[.val (.long q1), .second, .val (.long q2), .second, .val (.long q3), .second, .val (.int p4), .val (.ref b1), .val (.ref bs), .val (.ref b31), .val (.int ii), .val (.int jj), .val (.int ex), .val (.int fst), .val (.int snd), .val (.int trd)]) rfl ?_
      show Steps p.tables e below (T55.setTop (mkF m 185 #[.val (.long q1), .second, .val (.long q2), .second, .val (.long q3), .second, .val (.int p4), .val (.ref b1), .val (.ref bs), .val (.ref b31), .val (.int ii), .val (.int jj), .val (.int ex), .val (.int fst), .val (.int snd), .val (.int trd)] [])) _
      refine XS.iload X55.here hx rfl (hb hby at_185) rfl ?_
      show Steps p.tables e below (T55.setTop (mkF m 187 #[.val (.long q1), .second, .val (.long q2), .second, .val (.long q3), .second, .val (.int p4), .val (.ref b1), .val (.ref bs), .val (.ref b31), .val (.int ii), .val (.int jj), .val (.int ex), .val (.int fst), .val (.int snd), .val (.int trd)] [(.int fst)])) _
      refine XS.ifNo X55.here hx rfl (hb hby at_187) rfl ((if0 _ _).trans (feq hc187).1) ?_
      show Steps p.tables e below (T55.setTop (mkF m 190 #[.val (.long q1), .second, .val (.long q2), .second, .val (.long q3), .second, .val (.int p4), .val (.ref b1), .val (.ref bs), .val (.ref b31), .val (.int ii), .val (.int jj), .val (.int ex), .val (.int fst), .val (.int snd), .val (.int trd)] [])) _
      refine XS.iload X55.here hx rfl (hb hby at_190) rfl ?_
      show Steps p.tables e below (T55.setTop (mkF m 192 #[.val (.long q1), .second, .val (.long q2), .second, .val (.long q3), .second, .val (.int p4), .val (.ref b1), .val (.ref bs), .val (.ref b31), .val (.int ii), .val (.int jj), .val (.int ex), .val (.int fst), .val (.int snd), .val (.int trd)] [(.int snd)])) _
      refine XS.iload X55.here hx rfl (hb hby at_192) rfl ?_
      show Steps p.tables e below (T55.setTop (mkF m 194 #[.val (.long q1), .second, .val (.long q2), .second, .val (.long q3), .second, .val (.int p4), .val (.ref b1), .val (.ref bs), .val (.ref b31), .val (.int ii), .val (.int jj), .val (.int ex), .val (.int fst), .val (.int snd), .val (.int trd)] [(.int ex), (.int snd)])) _
      refine XS.icmpNo X55.here hx rfl (hb hby at_194) rfl (teq hc194).2 ?_
      show Steps p.tables e below (T55.setTop (mkF m 197 #[.val (.long q1), .second, .val (.long q2), .second, .val (.long q3), .second, .val (.int p4), .val (.ref b1), .val (.ref bs), .val (.ref b31), .val (.int ii), .val (.int jj), .val (.int ex), .val (.int fst), .val (.int snd), .val (.int trd)] [])) _
      refine XS.iload X55.here hx rfl (hb hby at_197) rfl ?_
      show Steps p.tables e below (T55.setTop (mkF m 199 #[.val (.long q1), .second, .val (.long q2), .second, .val (.long q3), .second, .val (.int p4), .val (.ref b1), .val (.ref bs), .val (.ref b31), .val (.int ii), .val (.int jj), .val (.int ex), .val (.int fst), .val (.int snd), .val (.int trd)] [(.int trd)])) _
      refine XS.ifNo X55.here hx rfl (hb hby at_199) rfl ((if0 _ _).trans (feq hc199).1) ?_
      show Steps p.tables e below (T55.setTop (mkF m 202 #[.val (.long q1), .second, .val (.long q2), .second, .val (.long q3), .second, .val (.int p4), .val (.ref b1), .val (.ref bs), .val (.ref b31), .val (.int ii), .val (.int jj), .val (.int ex), .val (.int fst), .val (.int snd), .val (.int trd)] [])) _
      refine XS.iconst X55.here hx rfl (hb hby at_202) ?_
      show Steps p.tables e below (T55.setTop (mkF m 203 #[.val (.long q1), .second, .val (.long q2), .second, .val (.long q3), .second, .val (.int p4), .val (.ref b1), .val (.ref bs), .val (.ref b31), .val (.int ii), .val (.int jj), .val (.int ex), .val (.int fst), .val (.int snd), .val (.int trd)] [(.int (1 : Int32))])) _
      refine XS.goto X55.here hx rfl (pc0 := 203) (pc' := 207) rfl (hb hby at_203) (by decide) (by decide) ?_
      show Steps p.tables e below (T55.setTop (mkF m 207 #[.val (.long q1), .second, .val (.long q2), .second, .val (.long q3), .second, .val (.int p4), .val (.ref b1), .val (.ref bs), .val (.ref b31), .val (.int ii), .val (.int jj), .val (.int ex), .val (.int fst), .val (.int snd), .val (.int trd)] [(.int (1 : Int32))])) _
      exact retN X55 hx (t := .boolean) Bd.returns (by simp) (hb hby at_207) hr
    · show Q0 Z q1 q2 q3 p4 h0 n0 _ T55.heap _
      rw [e55]
      exact ⟨rfl, N55⟩
set_option maxRecDepth 65536 in
set_option maxHeartbeats 40000000 in
theorem comes_1 {Post : Tables → Env → Array Value → State → Outcome → State → Prop} (hpost : ∀ tb e args s v u, (limb_1_1.after args s (.returned v) u = true ∧ limb_1_2.after args s (.returned v) u = true ∧ True) → FrameEnd s (.returned v) u (Jvm.fieldLocs frame_1_writes args s ++ Jvm.arrayLocs frame_1_arrays args s ++ Jvm.staticLocs frame_1_statics s) 16 128 → Post tb e args s (.returned v) u) :
    ArmFor flags0 classFile x code maxLocals ret World_1 tables_1 room_1 Calls_1 rest_1 Pre_1 Post := by
  intro l hfl _ _ p e ha hc hk s m args below hf hA hF happ hP
  obtain ⟨hcalls, hrest, hpre⟩ := hP
  obtain ⟨-, -, -, hnamed, -, -, -, hat⟩ := (Spec.applies_iff hf).mp happ
  obtain ⟨hg, hn⟩ := and_e (Cond.before_iff.mp (show (Jvm.Cond.and given_1 narrow_1).before args s = true from hpre))
  obtain ⟨hct, hg⟩ := and_e hg
  obtain ⟨ga0, hg⟩ := and_e hg
  obtain ⟨ga1, hg⟩ := and_e hg
  obtain ⟨ga2, hg⟩ := and_e hg
  have ga3 := hg
  obtain ⟨w0, w1, w2, w3, rfl⟩ : ∃ w0 w1 w2 w3 : Value, args = #[w0, w1, w2, w3] := by
    have hs : args.size = 4 := by simpa [Cond.value, given_1] using hct
    obtain ⟨L⟩ := args
    match L, hs with
    | [w0, w1, w2, w3], _ => exact ⟨w0, w1, w2, w3, rfl⟩
  have hw := fun d (hd : d ∈ tables_1) => atoms_spec (ws := Jvm.Cond.code x code maxLocals ret :: tables_1) hat d (List.mem_cons_of_mem _ hd)
  obtain ⟨i0, ei0⟩ := isL_v ga0
  obtain rfl : w0 = (.long i0) := Option.some.inj ei0
  obtain ⟨i1, ei1⟩ := isL_v ga1
  obtain rfl : w1 = (.long i1) := Option.some.inj ei1
  obtain ⟨i2, ei2⟩ := isL_v ga2
  obtain rfl : w2 = (.long i2) := Option.some.inj ei2
  obtain ⟨i3, ei3⟩ := is_v ga3
  obtain rfl : w3 = (.int i3) := Option.some.inj ei3
  obtain ⟨n, o, h1, h2, h3, _, L, rfl, ⟨rfl, N⟩, hq⟩ := rm0 l s _ hw tables_1 i0 i1 i2 i3 s.heap s.heap.size (Nat.le_refl _)  p e ha hc hk s m _ below hf ((Spec.applies_iff_loose hf).mp happ).1 ⟨rfl, State.Warmed39.refl s, rfl⟩ trivial
  refine ⟨n, _, h1, h2, h3, hpost _ _ _ _ _ _ ⟨Cond.after_iff.mpr rfl, Cond.after_iff.mpr (eq_i res_at (Term.int_eval (1)) rfl), trivial⟩ ⟨hq.1, hq.2.1, (hq.2.2.sift fun y hy => Or.inr (N y hy)).mono (by decide) (by decide)⟩⟩
theorem main_1_1 : Claimed_1_1 := comes_1 fun _ _ _ _ _ _ h hF => ⟨h.1, hF⟩
theorem main_1_2 : Claimed_1_2 := comes_1 fun _ _ _ _ _ _ h hF => ⟨h.2.1, hF⟩
end Jvm.Pilot.@@N@@
namespace Jvm.Pilot.@@N@@
open Jvm Jvm.ClassFile Sem Op Lib Jvm.Free Jvm.Stand Jvm.Pilot.@@N@@.Jvm.D
/-! MADE BY PROGRAM (witnessworld.py) out of the Statement's table words and the real class files: 17 classes; the members and pool entries that the words name. The judged class is class 1, her method 1. -/
namespace start1
open Jvm.ClassFile
def u (s : String) : CpInfo := .utf8 (stringToUtf16 s)
/-- a pool by its gaps: so many unusable entries, then the entry; so many at the end -/
def gap : Nat → List CpInfo → List CpInfo
  | 0, r => r
  | n + 1, r => .unusable :: gap n r
def poolList (es : List (Nat × CpInfo)) (last : Nat) : List CpInfo := es.foldr (fun e r => gap e.1 (e.2 :: r)) (gap last [])
def pool (es : List (Nat × CpInfo)) (last : Nat) : Array CpInfo := ⟨poolList es last⟩
def fileOf (pool : Array CpInfo) (this : Nat) (attrs : Array Attribute := #[]) (ms : Array MethodInfo := #[]) (fl : Nat := 33) (sup : Nat := 0) (ifs : Array Nat := #[]) (fds : Array FieldInfo := #[]) : ClassFile where
  minorVersion := 0
  majorVersion := 65
  constantPool := pool
  accessFlags := fl
  thisClass := this
  superClass := sup
  interfaces := ifs
  fields := fds
  methods := ms
  attributes := attrs
def plain (name : String) (sup : Option ClassId) : Class where
  name := name
  kind := .ordinary
  loader := none
  accessFlags := 33
  super := sup
  interfaces := #[]
  cf := none
  fields := #[]
  methods := #[]
  instanceTypes := #[]
  staticTypes := #[]
  resolved := #[]
  callSites := []
  init := .initialized
  statics := none
  mirror := none

def pool0 : Array CpInfo := pool [(5, u "<init>"), (0, u "()V"), (1, .class_ 10), (1, u "java/lang/Object")] 113

def k0c0 : Code := { maxStack := 0, maxLocals := 1, code := object_method_1_code, exceptionTable := #[], attributes := #[] }
def k0m0 : Method := { name := "<init>", desc := "()V", sig := { parameters := [], returnType := none }, accessFlags := 1, code := some k0c0 }
/-- java/lang/Object -/
def k0 : Class := { plain "java/lang/Object" none with
  accessFlags := 33
  interfaces := #[]
  cf := some (fileOf pool0 8 #[] #[{ accessFlags := 1, nameIndex := 5, descriptorIndex := 6, attributes := #[] }] 33 0 #[] #[])
  fields := #[]
  methods := #[k0m0]
  instanceTypes := #[]
  staticTypes := #[]
  resolved := Array.replicate 124 none
  statics := none }

def pool1 : Array CpInfo := pool [(2, .class_ 4), (1, u "java/lang/Object"), (0, u "<init>"), (0, u "()V"), (0, .class_ 8), (0, u "com/example/driftline/driftline/model/LxmRandom"), (0, .methodref 7 10), (0, .nameAndType 5 11), (0, u "(J)V"), (0, .methodref 7 13), (0, .nameAndType 14 15), (0, u "nextLong"), (0, u "()J"), (0, .methodref 7 17), (0, .nameAndType 18 19), (0, u "state"), (0, u "()[J"), (0, .methodref 7 21), (0, .nameAndType 22 23), (0, u "inState"), (0, u "([J)Z"), (0, .class_ 25), (0, u "com/example/driftline/driftline/model/LxmRandomInStatePinLaw"), (2, u "law"), (0, u "(JJJI)Z")] 5

def k1m0 : Method := { name := "<init>", desc := "()V", sig := { parameters := [], returnType := none }, accessFlags := 1, code := none }
def k1c1 : Code := { maxStack := 6, maxLocals := 16, code := code, exceptionTable := #[], attributes := #[] }
def k1m1 : Method := { name := "law", desc := "(JJJI)Z", sig := { parameters := [.long, .long, .long, .int], returnType := some .boolean }, accessFlags := 9, code := some k1c1 }
/-- com/example/driftline/driftline/model/LxmRandomInStatePinLaw -/
def k1 : Class := { plain "com/example/driftline/driftline/model/LxmRandomInStatePinLaw" (some 0) with
  accessFlags := 49
  interfaces := #[]
  cf := some (fileOf pool1 24 #[] #[{ accessFlags := 1, nameIndex := 5, descriptorIndex := 6, attributes := #[] }, { accessFlags := 9, nameIndex := 28, descriptorIndex := 29, attributes := #[] }] 49 2 #[] #[])
  fields := #[]
  methods := #[k1m0, k1m1]
  instanceTypes := #[]
  staticTypes := #[]
  resolved := Array.replicate 35 none
  statics := none }

def pool2 : Array CpInfo := pool [(7, .class_ 8), (0, u "java/util/random/RandomGenerator"), (199, .class_ 209), (0, u "java/lang/Object"), (52, .class_ 263), (0, u "java/util/random/RandomGenerator$ArbitrarilyJumpableGenerator"), (0, .class_ 265), (0, u "java/util/random/RandomGenerator$LeapableGenerator"), (0, .class_ 267), (0, u "java/util/random/RandomGenerator$JumpableGenerator"), (0, .class_ 269), (0, u "java/util/random/RandomGenerator$SplittableGenerator"), (0, .class_ 271), (0, u "java/util/random/RandomGenerator$StreamableGenerator")] 36

/-- java/util/random/RandomGenerator -/
def k2 : Class := { plain "java/util/random/RandomGenerator" (some 0) with
  accessFlags := 1537
  interfaces := #[]
  cf := some (fileOf pool2 7 #[.nestMembers #[262, 264, 266, 268, 270]] #[] 1537 208 #[] #[])
  fields := #[]
  methods := #[]
  instanceTypes := #[]
  staticTypes := #[]
  resolved := Array.replicate 308 none
  statics := none }

def pool3 : Array CpInfo := pool [(1, .methodref 2 3), (0, .class_ 4), (0, .nameAndType 5 6), (0, u "java/lang/Object"), (0, u "<init>"), (0, u "()V"), (0, .class_ 8), (0, u "com/example/driftline/driftline/model/LxmRandom"), (0, .long 7640891576956012809), (1, .methodref 7 12), (0, .nameAndType 13 14), (0, u "murmur"), (0, u "(J)J"), (0, .fieldref 7 16), (0, .nameAndType 17 18), (0, u "a"), (0, u "J"), (0, .fieldref 7 20), (0, .nameAndType 21 18), (0, u "s"), (0, .methodref 7 23), (0, .nameAndType 24 14), (0, u "stafford"), (0, .fieldref 7 26), (0, .nameAndType 27 18), (0, u "x0"), (0, .long 11400714819323198485), (1, .fieldref 7 31), (0, .nameAndType 32 18), (0, u "x1"), (10, .methodref 7 44), (0, .nameAndType 45 14), (0, u "lea"), (0, .long 15074714826142052245), (1, .methodref 49 50), (0, .class_ 51), (0, .nameAndType 52 53), (0, u "java/lang/Long"), (0, u "rotateLeft"), (0, u "(JI)J"), (0, .long 15760922415973212899), (1, .long 18397679294719823053), (1, .long 14181476777654086739), (1, .long 13787848793156543929), (1, .long 10723151780598845931), (1, .class_ 65), (0, u "java/util/random/RandomGenerator"), (0, u "M"), (1, u "GOLDEN_RATIO"), (0, u "SILVER_RATIO"), (0, u "(J)V"), (5, u "state"), (0, u "()[J"), (0, u "inState"), (0, u "([J)Z"), (0, u "nextLong"), (0, u "()J")] 2

def k3c0 : Code := { maxStack := 5, maxLocals := 5, code := prog_21_method_1_code, exceptionTable := #[], attributes := #[] }
def k3m0 : Method := { name := "<init>", desc := "(J)V", sig := { parameters := [.long], returnType := none }, accessFlags := 1, code := some k3c0 }
def k3c1 : Code := { maxStack := 5, maxLocals := 1, code := prog_21_method_4_code, exceptionTable := #[], attributes := #[] }
def k3m1 : Method := { name := "state", desc := "()[J", sig := { parameters := [], returnType := some (.array .long) }, accessFlags := 0, code := some k3c1 }
def k3c2 : Code := { maxStack := 4, maxLocals := 2, code := prog_21_method_5_code, exceptionTable := #[], attributes := #[] }
def k3m2 : Method := { name := "inState", desc := "([J)Z", sig := { parameters := [(.array .long)], returnType := some .boolean }, accessFlags := 0, code := some k3c2 }
def k3c3 : Code := { maxStack := 6, maxLocals := 5, code := prog_21_method_6_code, exceptionTable := #[], attributes := #[] }
def k3m3 : Method := { name := "nextLong", desc := "()J", sig := { parameters := [], returnType := some .long }, accessFlags := 1, code := some k3c3 }
def k3c4 : Code := { maxStack := 5, maxLocals := 6, code := prog_21_method_7_code, exceptionTable := #[], attributes := #[] }
def k3m4 : Method := { name := "lea", desc := "(J)J", sig := { parameters := [.long], returnType := some .long }, accessFlags := 10, code := some k3c4 }
def k3c5 : Code := { maxStack := 5, maxLocals := 6, code := prog_21_method_8_code, exceptionTable := #[], attributes := #[] }
def k3m5 : Method := { name := "murmur", desc := "(J)J", sig := { parameters := [.long], returnType := some .long }, accessFlags := 10, code := some k3c5 }
def k3c6 : Code := { maxStack := 5, maxLocals := 6, code := prog_21_method_9_code, exceptionTable := #[], attributes := #[] }
def k3m6 : Method := { name := "stafford", desc := "(J)J", sig := { parameters := [.long], returnType := some .long }, accessFlags := 10, code := some k3c6 }
/-- com/example/driftline/driftline/model/LxmRandom -/
def k3 : Class := { plain "com/example/driftline/driftline/model/LxmRandom" (some 0) with
  accessFlags := 49
  interfaces := #[2]
  cf := some (fileOf pool3 7 #[] #[{ accessFlags := 1, nameIndex := 5, descriptorIndex := 70, attributes := #[] }, { accessFlags := 0, nameIndex := 76, descriptorIndex := 77, attributes := #[] }, { accessFlags := 0, nameIndex := 78, descriptorIndex := 79, attributes := #[] }, { accessFlags := 1, nameIndex := 80, descriptorIndex := 81, attributes := #[] }, { accessFlags := 10, nameIndex := 45, descriptorIndex := 14, attributes := #[] }, { accessFlags := 10, nameIndex := 13, descriptorIndex := 14, attributes := #[] }, { accessFlags := 10, nameIndex := 24, descriptorIndex := 14, attributes := #[] }] 49 2 #[64] #[{ accessFlags := 26, nameIndex := 66, descriptorIndex := 18, attributes := #[] }, { accessFlags := 26, nameIndex := 68, descriptorIndex := 18, attributes := #[] }, { accessFlags := 26, nameIndex := 69, descriptorIndex := 18, attributes := #[] }, { accessFlags := 18, nameIndex := 17, descriptorIndex := 18, attributes := #[] }, { accessFlags := 2, nameIndex := 21, descriptorIndex := 18, attributes := #[] }, { accessFlags := 2, nameIndex := 27, descriptorIndex := 18, attributes := #[] }, { accessFlags := 2, nameIndex := 32, descriptorIndex := 18, attributes := #[] }])
  fields := #[{ name := "M", type := .long, accessFlags := 26, slot := 0, constantValue := 0 }, { name := "GOLDEN_RATIO", type := .long, accessFlags := 26, slot := 1, constantValue := 0 }, { name := "SILVER_RATIO", type := .long, accessFlags := 26, slot := 2, constantValue := 0 }, { name := "a", type := .long, accessFlags := 18, slot := 0, constantValue := 0 }, { name := "s", type := .long, accessFlags := 2, slot := 1, constantValue := 0 }, { name := "x0", type := .long, accessFlags := 2, slot := 2, constantValue := 0 }, { name := "x1", type := .long, accessFlags := 2, slot := 3, constantValue := 0 }]
  methods := #[k3m0, k3m1, k3m2, k3m3, k3m4, k3m5, k3m6]
  instanceTypes := #[.long, .long, .long, .long]
  staticTypes := #[.long, .long, .long]
  resolved := Array.replicate 84 none
  statics := none }

def pool4 : Array CpInfo := pool [(1, .class_ 2), (0, u "java/io/Serializable"), (0, .class_ 4), (0, u "java/lang/Object")] 2

/-- java/io/Serializable -/
def k4 : Class := { plain "java/io/Serializable" (some 0) with
  accessFlags := 1537
  interfaces := #[]
  cf := some (fileOf pool4 1 #[] #[] 1537 3 #[] #[])
  fields := #[]
  methods := #[]
  instanceTypes := #[]
  staticTypes := #[]
  resolved := Array.replicate 7 none
  statics := none }

def pool5 : Array CpInfo := pool [(2, .class_ 4), (1, u "java/lang/Object"), (0, u "<init>"), (0, u "()V"), (1, .class_ 10), (1, u "java/lang/Number"), (2, .class_ 14), (0, u "java/io/Serializable"), (0, u "serialVersionUID"), (0, u "J")] 20

def k5m0 : Method := { name := "<init>", desc := "()V", sig := { parameters := [], returnType := none }, accessFlags := 1, code := none }
/-- java/lang/Number -/
def k5 : Class := { plain "java/lang/Number" (some 0) with
  accessFlags := 1057
  interfaces := #[4]
  cf := some (fileOf pool5 8 #[] #[{ accessFlags := 1, nameIndex := 5, descriptorIndex := 6, attributes := #[] }] 1057 2 #[13] #[{ accessFlags := 26, nameIndex := 15, descriptorIndex := 16, attributes := #[] }])
  fields := #[{ name := "serialVersionUID", type := .long, accessFlags := 26, slot := 0, constantValue := 0 }]
  methods := #[k5m0]
  instanceTypes := #[]
  staticTypes := #[.long]
  resolved := Array.replicate 37 none
  statics := none }

def pool6 : Array CpInfo := pool [(1, .class_ 2), (0, u "java/lang/Comparable"), (0, .class_ 4), (0, u "java/lang/Object")] 7

/-- java/lang/Comparable -/
def k6 : Class := { plain "java/lang/Comparable" (some 0) with
  accessFlags := 1537
  interfaces := #[]
  cf := some (fileOf pool6 1 #[] #[] 1537 3 #[] #[])
  fields := #[]
  methods := #[]
  instanceTypes := #[]
  staticTypes := #[]
  resolved := Array.replicate 12 none
  statics := none }

def pool7 : Array CpInfo := pool [(1, .class_ 2), (0, u "java/lang/constant/Constable"), (0, .class_ 4), (0, u "java/lang/Object")] 6

/-- java/lang/constant/Constable -/
def k7 : Class := { plain "java/lang/constant/Constable" (some 0) with
  accessFlags := 1537
  interfaces := #[]
  cf := some (fileOf pool7 1 #[] #[] 1537 3 #[] #[])
  fields := #[]
  methods := #[]
  instanceTypes := #[]
  staticTypes := #[]
  resolved := Array.replicate 11 none
  statics := none }

def pool8 : Array CpInfo := pool [(1, .class_ 2), (0, u "java/lang/constant/ConstantDesc"), (0, .class_ 4), (0, u "java/lang/Object")] 32

/-- java/lang/constant/ConstantDesc -/
def k8 : Class := { plain "java/lang/constant/ConstantDesc" (some 0) with
  accessFlags := 1537
  interfaces := #[]
  cf := some (fileOf pool8 1 #[] #[] 1537 3 #[] #[])
  fields := #[]
  methods := #[]
  instanceTypes := #[]
  staticTypes := #[]
  resolved := Array.replicate 37 none
  statics := none }

def pool9 : Array CpInfo := pool [(1, .class_ 2), (0, u "java/lang/Long"), (232, .class_ 237), (1, u "java/lang/Long$LongCache"), (33, .class_ 272), (0, u "java/lang/Number"), (2, u "value"), (0, u "J"), (84, u "TYPE"), (0, u "Ljava/lang/Class;"), (0, .class_ 364), (0, u "java/lang/Comparable"), (0, .class_ 366), (0, u "java/lang/constant/Constable"), (0, .class_ 368), (0, u "java/lang/constant/ConstantDesc"), (0, u "MIN_VALUE"), (1, u "MAX_VALUE"), (4, u "SIZE"), (0, u "I"), (1, u "BYTES"), (1, u "serialVersionUID"), (95, u "rotateLeft"), (0, u "(JI)J")] 45

def k9c0 : Code := { maxStack := 5, maxLocals := 3, code := jdk_35_method_51_code, exceptionTable := #[], attributes := #[] }
def k9m0 : Method := { name := "rotateLeft", desc := "(JI)J", sig := { parameters := [.long, .int], returnType := some .long }, accessFlags := 9, code := some k9c0 }
/-- java/lang/Long -/
def k9 : Class := { plain "java/lang/Long" (some 5) with
  accessFlags := 49
  interfaces := #[6, 7, 8]
  cf := some (fileOf pool9 1 #[.nestMembers #[235]] #[{ accessFlags := 9, nameIndex := 477, descriptorIndex := 478, attributes := #[] }] 49 271 #[363, 365, 367] #[{ accessFlags := 25, nameIndex := 369, descriptorIndex := 276, attributes := #[] }, { accessFlags := 25, nameIndex := 371, descriptorIndex := 276, attributes := #[] }, { accessFlags := 25, nameIndex := 361, descriptorIndex := 362, attributes := #[] }, { accessFlags := 18, nameIndex := 275, descriptorIndex := 276, attributes := #[] }, { accessFlags := 25, nameIndex := 376, descriptorIndex := 377, attributes := #[] }, { accessFlags := 25, nameIndex := 379, descriptorIndex := 377, attributes := #[] }, { accessFlags := 26, nameIndex := 381, descriptorIndex := 276, attributes := #[] }])
  fields := #[{ name := "MIN_VALUE", type := .long, accessFlags := 25, slot := 0, constantValue := 0 }, { name := "MAX_VALUE", type := .long, accessFlags := 25, slot := 1, constantValue := 0 }, { name := "TYPE", type := (.object "java/lang/Class"), accessFlags := 25, slot := 2, constantValue := 0 }, { name := "value", type := .long, accessFlags := 18, slot := 0, constantValue := 0 }, { name := "SIZE", type := .int, accessFlags := 25, slot := 3, constantValue := 0 }, { name := "BYTES", type := .int, accessFlags := 25, slot := 4, constantValue := 0 }, { name := "serialVersionUID", type := .long, accessFlags := 26, slot := 5, constantValue := 0 }]
  methods := #[k9m0]
  instanceTypes := #[.long]
  staticTypes := #[.long, .long, (.object "java/lang/Class"), .int, .int, .long]
  resolved := Array.replicate 524 none
  statics := none }

def pool10 : Array CpInfo := pool [(1, u "java/lang/Cloneable"), (0, .class_ 1), (0, u "java/lang/Object"), (0, .class_ 3)] 3

/-- java/lang/Cloneable -/
def k10 : Class := { plain "java/lang/Cloneable" (some 0) with
  accessFlags := 1537
  interfaces := #[]
  cf := some (fileOf pool10 2 #[] #[] 1537 4 #[] #[])
  fields := #[]
  methods := #[]
  instanceTypes := #[]
  staticTypes := #[]
  resolved := Array.replicate 8 none
  statics := none }

/-- the primitive byte -/
def k11 : Class := { plain "byte" none with kind := .primitive 'B', accessFlags := 0x411 }
/-- [B -/
def k12 : Class := { plain "[B" (some 0) with kind := .array 11 .byte, interfaces := #[10, 4], accessFlags := 1041 }

/-- the primitive int -/
def k13 : Class := { plain "int" none with kind := .primitive 'I', accessFlags := 0x411 }
/-- [I -/
def k14 : Class := { plain "[I" (some 0) with kind := .array 13 .int, interfaces := #[10, 4], accessFlags := 1041 }

/-- the primitive long -/
def k15 : Class := { plain "long" none with kind := .primitive 'J', accessFlags := 0x411 }
/-- [J -/
def k16 : Class := { plain "[J" (some 0) with kind := .array 15 .long, interfaces := #[10, 4], accessFlags := 1041 }

def heap : Heap := #[]
def classes : Array Class := #[k0, k1, k2, k3, k4, k5, k6, k7, k8, k9, k10, k11, k12, k13, k14, k15, k16]
def interned : List (Array UInt16 × Addr) := []
def slotsUsed : Nat := 0
def theMethod : MethodId := ⟨1, 1⟩
def args0 : Array Value := #[.long 5, .long 2, .long 3, .int 9]
def aboutOver (below : List Frame) : State where
  vm := { classes := classes, interned := interned.toArray }
  heap := heap
  slotsUsed := slotsUsed
  threads := #[{ frames := .invoking theMethod args0 :: below }]
def below0 : List Frame := [.native { method := ⟨0, 0⟩, args := #[] }]
def about1 : State := aboutOver below0
def p0 : Program := .bare "" "" ""
def e0 : Env := launch0.env 0 0 0
theorem w_frames : about1.frames = Frame.invoking theMethod args0 :: below0 := rfl
set_option maxRecDepth 65536 in
theorem w_args : argsFit about1.vm theMethod args0 = true := by decide +kernel
set_option maxRecDepth 65536 in
theorem w_heap : heapFits about1 = true := by decide +kernel
set_option maxRecDepth 65536 in
theorem w_runnable : about1.curStatus? = some .runnable := by decide +kernel
set_option maxRecDepth 65536 in
theorem w_alone : about1.alone = true := by decide +kernel
set_option maxRecDepth 65536 in
theorem w_named : about1.methodNamed? x = some theMethod := by decide +kernel
set_option maxRecDepth 65536 in
theorem w_hears : about1.hears theMethod below0 = true := by decide +kernel
set_option maxRecDepth 65536 in
theorem w_ripe : about1.ripe theMethod args0 below0 = true := by decide +kernel
theorem w_running : about1.status = .running := rfl
set_option maxRecDepth 65536 in
theorem w_room : about1.hasRoom e0.platform room_1 = true :=
  launch0.hasRoom_least _ room_1 (by decide +kernel) (by decide +kernel) (by decide +kernel) (by decide +kernel) (by decide +kernel) (by decide +kernel)
theorem allAtoms_all (ts : List Jvm.Cond) (a : Array Jvm.Value) (st : Jvm.State) : (allAtoms ts).before a st = ts.all (fun c => c.before a st) := by
  induction ts with
  | nil => rfl
  | cons c t ih =>
    show (Jvm.Cond.and c (allAtoms t)).before a st = _
    rw [Jvm.Cond.before_and, ih, List.all_cons]
def words1 : List Jvm.Cond := Jvm.Cond.code x code maxLocals ret :: tables_1
/-- a 'code' word, met by the world's own term for the bytes: nothing is compared byte by byte -/
theorem code_word {y : MethodName} {bytes : ByteArray} {mx : Nat} {rt : Option FieldType} {a : Array Value} {s : State} {m : MethodId} {meth : Method} {c : Code} (h1 : s.methodNamed? y = some m) (h2 : s.vm.method? m = some meth) (h3 : meth.code = some c) (h4 : c.code = bytes)
    (h5 : (c.maxLocals == mx && c.exceptionTable.isEmpty && decide (c.maxStack ≤ mostOperands) && decide (meth.sig.returnType = rt) && !meth.locks && decide (parseMethodDescriptor y.desc = some meth.sig)) = true) : (Jvm.Cond.code y bytes mx rt).before a s = true := by
  simp only [Bool.and_eq_true, beq_iff_eq, Bool.not_eq_true', decide_eq_true_eq] at h5
  obtain ⟨⟨⟨⟨⟨g1, g2⟩, g3⟩, g4⟩, g5⟩, g6⟩ := h5
  simp [Cond.before, Cond.holds, Cond.value, h1, h2, h3, h4, g1, g2, g3, g4, g5, g6]
def isCode : Jvm.Cond → Bool
  | .code _ _ _ _ => true
  | _ => false
theorem all_split {L : List Jvm.Cond} {P : Jvm.Cond → Bool} (h1 : L.all (fun c => isCode c || P c) = true) (h2 : ∀ c ∈ L.filter isCode, P c = true) : L.all P = true := by
  refine List.all_eq_true.mpr fun c hc => ?_
  have h := List.all_eq_true.mp h1 c hc
  rcases Bool.eq_false_or_eq_true (isCode c) with hi | hi
  · exact h2 c (List.mem_filter.mpr ⟨hc, hi⟩)
  · simpa [hi] using h
set_option maxRecDepth 65536 in
theorem w_c0 : (Jvm.Cond.code x code maxLocals ret).before args0 about1 = true := code_word (m := ⟨1, 1⟩) (meth := k1m1) (c := k1c1) (by decide +kernel) rfl rfl rfl (by decide +kernel)
set_option maxRecDepth 65536 in
theorem w_c1 : (Jvm.Cond.code ({ cls := "com/example/driftline/driftline/model/LxmRandom", name := "<init>", desc := "(J)V" } : Jvm.MethodName) prog_21_method_1_code (5 : Nat) (Option.none : Option Jvm.ClassFile.FieldType)).before args0 about1 = true := code_word (m := ⟨3, 0⟩) (meth := k3m0) (c := k3c0) (by decide +kernel) rfl rfl rfl (by decide +kernel)
set_option maxRecDepth 65536 in
theorem w_c2 : (Jvm.Cond.code ({ cls := "java/lang/Object", name := "<init>", desc := "()V" } : Jvm.MethodName) object_method_1_code (1 : Nat) (Option.none : Option Jvm.ClassFile.FieldType)).before args0 about1 = true := code_word (m := ⟨0, 0⟩) (meth := k0m0) (c := k0c0) (by decide +kernel) rfl rfl rfl (by decide +kernel)
set_option maxRecDepth 65536 in
theorem w_c3 : (Jvm.Cond.code ({ cls := "com/example/driftline/driftline/model/LxmRandom", name := "murmur", desc := "(J)J" } : Jvm.MethodName) prog_21_method_8_code (6 : Nat) (Option.some Jvm.ClassFile.FieldType.long)).before args0 about1 = true := code_word (m := ⟨3, 5⟩) (meth := k3m5) (c := k3c5) (by decide +kernel) rfl rfl rfl (by decide +kernel)
set_option maxRecDepth 65536 in
theorem w_c4 : (Jvm.Cond.code ({ cls := "com/example/driftline/driftline/model/LxmRandom", name := "stafford", desc := "(J)J" } : Jvm.MethodName) prog_21_method_9_code (6 : Nat) (Option.some Jvm.ClassFile.FieldType.long)).before args0 about1 = true := code_word (m := ⟨3, 6⟩) (meth := k3m6) (c := k3c6) (by decide +kernel) rfl rfl rfl (by decide +kernel)
set_option maxRecDepth 65536 in
theorem w_c5 : (Jvm.Cond.code ({ cls := "com/example/driftline/driftline/model/LxmRandom", name := "state", desc := "()[J" } : Jvm.MethodName) prog_21_method_4_code (1 : Nat) (Option.some (Jvm.ClassFile.FieldType.array Jvm.ClassFile.FieldType.long))).before args0 about1 = true := code_word (m := ⟨3, 1⟩) (meth := k3m1) (c := k3c1) (by decide +kernel) rfl rfl rfl (by decide +kernel)
set_option maxRecDepth 65536 in
theorem w_c6 : (Jvm.Cond.code ({ cls := "com/example/driftline/driftline/model/LxmRandom", name := "inState", desc := "([J)Z" } : Jvm.MethodName) prog_21_method_5_code (2 : Nat) (Option.some Jvm.ClassFile.FieldType.boolean)).before args0 about1 = true := code_word (m := ⟨3, 2⟩) (meth := k3m2) (c := k3c2) (by decide +kernel) rfl rfl rfl (by decide +kernel)
set_option maxRecDepth 65536 in
theorem w_c7 : (Jvm.Cond.code ({ cls := "com/example/driftline/driftline/model/LxmRandom", name := "nextLong", desc := "()J" } : Jvm.MethodName) prog_21_method_6_code (5 : Nat) (Option.some Jvm.ClassFile.FieldType.long)).before args0 about1 = true := code_word (m := ⟨3, 3⟩) (meth := k3m3) (c := k3c3) (by decide +kernel) rfl rfl rfl (by decide +kernel)
set_option maxRecDepth 65536 in
theorem w_c8 : (Jvm.Cond.code ({ cls := "com/example/driftline/driftline/model/LxmRandom", name := "lea", desc := "(J)J" } : Jvm.MethodName) prog_21_method_7_code (6 : Nat) (Option.some Jvm.ClassFile.FieldType.long)).before args0 about1 = true := code_word (m := ⟨3, 4⟩) (meth := k3m4) (c := k3c4) (by decide +kernel) rfl rfl rfl (by decide +kernel)
set_option maxRecDepth 65536 in
theorem w_c9 : (Jvm.Cond.code ({ cls := "java/lang/Long", name := "rotateLeft", desc := "(JI)J" } : Jvm.MethodName) jdk_35_method_51_code (3 : Nat) (Option.some Jvm.ClassFile.FieldType.long)).before args0 about1 = true := code_word (m := ⟨9, 0⟩) (meth := k9m0) (c := k9c0) (by decide +kernel) rfl rfl rfl (by decide +kernel)
def codes1 : List Jvm.Cond := [Jvm.Cond.code x code maxLocals ret, Jvm.Cond.code ({ cls := "com/example/driftline/driftline/model/LxmRandom", name := "<init>", desc := "(J)V" } : Jvm.MethodName) prog_21_method_1_code (5 : Nat) (Option.none : Option Jvm.ClassFile.FieldType), Jvm.Cond.code ({ cls := "java/lang/Object", name := "<init>", desc := "()V" } : Jvm.MethodName) object_method_1_code (1 : Nat) (Option.none : Option Jvm.ClassFile.FieldType), Jvm.Cond.code ({ cls := "com/example/driftline/driftline/model/LxmRandom", name := "murmur", desc := "(J)J" } : Jvm.MethodName) prog_21_method_8_code (6 : Nat) (Option.some Jvm.ClassFile.FieldType.long), Jvm.Cond.code ({ cls := "com/example/driftline/driftline/model/LxmRandom", name := "stafford", desc := "(J)J" } : Jvm.MethodName) prog_21_method_9_code (6 : Nat) (Option.some Jvm.ClassFile.FieldType.long), Jvm.Cond.code ({ cls := "com/example/driftline/driftline/model/LxmRandom", name := "state", desc := "()[J" } : Jvm.MethodName) prog_21_method_4_code (1 : Nat) (Option.some (Jvm.ClassFile.FieldType.array Jvm.ClassFile.FieldType.long)), Jvm.Cond.code ({ cls := "com/example/driftline/driftline/model/LxmRandom", name := "inState", desc := "([J)Z" } : Jvm.MethodName) prog_21_method_5_code (2 : Nat) (Option.some Jvm.ClassFile.FieldType.boolean), Jvm.Cond.code ({ cls := "com/example/driftline/driftline/model/LxmRandom", name := "nextLong", desc := "()J" } : Jvm.MethodName) prog_21_method_6_code (5 : Nat) (Option.some Jvm.ClassFile.FieldType.long), Jvm.Cond.code ({ cls := "com/example/driftline/driftline/model/LxmRandom", name := "lea", desc := "(J)J" } : Jvm.MethodName) prog_21_method_7_code (6 : Nat) (Option.some Jvm.ClassFile.FieldType.long), Jvm.Cond.code ({ cls := "java/lang/Long", name := "rotateLeft", desc := "(JI)J" } : Jvm.MethodName) jdk_35_method_51_code (3 : Nat) (Option.some Jvm.ClassFile.FieldType.long)]
set_option maxRecDepth 65536 in
theorem codes_eq : words1.filter isCode = codes1 := rfl
theorem w_codes : ∀ c ∈ words1.filter isCode, c.before args0 about1 = true := by
  rw [codes_eq]
  intro c hc
  simp only [codes1, List.mem_cons, List.not_mem_nil, or_false] at hc
  rcases hc with rfl | rfl | rfl | rfl | rfl | rfl | rfl | rfl | rfl | rfl
  · exact w_c0
  · exact w_c1
  · exact w_c2
  · exact w_c3
  · exact w_c4
  · exact w_c5
  · exact w_c6
  · exact w_c7
  · exact w_c8
  · exact w_c9
set_option maxRecDepth 65536 in
theorem w_t1 : (words1.take 24).all (fun c => isCode c || c.before args0 about1) = true := by decide +kernel
set_option maxRecDepth 65536 in
theorem w_t2 : ((words1.drop 24).take 24).all (fun c => isCode c || c.before args0 about1) = true := by decide +kernel
set_option maxRecDepth 65536 in
theorem w_t3 : ((words1.drop 24).drop 24).all (fun c => isCode c || c.before args0 about1) = true := by decide +kernel
theorem w_tables : (allAtoms (Jvm.Cond.code x code maxLocals ret :: tables_1)).before args0 about1 = true := by
  rw [allAtoms_all]
  show words1.all (fun c => c.before args0 about1) = true
  refine all_split ?_ w_codes
  rw [← List.take_append_drop 24 words1, List.all_append, w_t1, ← List.take_append_drop 24 (words1.drop 24), List.all_append, w_t2, w_t3]
  rfl
set_option maxRecDepth 65536 in
theorem w_case : (Jvm.Cond.and given_1 narrow_1).before args0 about1 = true := by decide +kernel
theorem w_applies : (headSpec (Jvm.Cond.code x code maxLocals ret :: tables_1) room_1).applies x e0.platform about1 = true :=
  (Spec.applies_iff w_frames).mpr ⟨w_running, w_runnable, w_alone, w_named, w_hears, w_ripe, w_room, w_tables⟩
theorem atStart : AtStart classFile x code maxLocals ret World_1 tables_1 room_1 Calls_1 rest_1 Pre_1 launch0 p0 e0 about1 theMethod args0 below0 :=
  ⟨lists_1, trivial, launch0.admits_env _ _ _, launch0.least_env, fairChoices_fair.cas, fairChoices_fair.clock, w_frames, w_args, w_heap, w_applies, trivial, trivial, w_case⟩
end start1
theorem witness_1 : WitnessClaimed_1 := ⟨start1.p0, start1.e0, start1.about1, start1.theMethod, start1.args0, start1.below0, start1.atStart⟩
end Jvm.Pilot.@@N@@
