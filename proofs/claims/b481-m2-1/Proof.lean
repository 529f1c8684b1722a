import JvmDerived
import JvmDerived.Pilot.@@N@@Statement
import JvmDerived.Pilot.@@N@@Code
set_option linter.unusedVariables false
set_option linter.unusedSimpArgs false
namespace Jvm.RoadKit
open Sem ClassFile Op Lib Jvm.Stand Jvm.Free Jvm.LawKit
section New
variable {p : Program} {l : Launch} {e : Env} {R : Room} {s : State} {m : MethodId} {args : Array Value} {below : List Frame} {meth : Method} {c : Code} {T : State} {locs : List Loc} {cells slots : Nat}
theorem retI (X : Stand p l e R s m args below meth c T locs cells slots) (hx : p.tables.exec = Jvm.exec) {pc : Nat} {Ls : Array Slot} {z : Int32} {rest : List Value} (hret : meth.sig.returnType = some .int) (hd : decode c.code pc = .ok (.ireturn, 1)) {fs : List Frame}
    (hl : ∀ (f : JFrame) (acts : List Action), f.method = m → f.locked = none → f.entered = [] → (doReturn e (T.setTop f) acts (some (.int z))).1 = T.setFrames fs) : Steps p.tables e below (T.setTop (mkF m pc Ls (.int z :: rest))) (T.setFrames fs) := by
  have hm' : T.vm.method? m = some meth := X.method'
  have hn : narrow .int (.int z) = .int z := rfl
  show Steps p.tables e below (T.setTop { method := m, pc := pc, locals := Ls, stack := _ :: rest, locked := none }) _
  jvm_step X.here [X.here.top, hx, hd, hm', hret, hn]
  first | (intro acts; rw [hl _ acts rfl rfl rfl]) | rw [hl _ _ rfl rfl rfl]
  exact Steps.refl _
end New
end Jvm.RoadKit
namespace Jvm.Pilot.@@N@@
open Jvm Jvm.ClassFile Sem Op Lib Jvm.Free Jvm.Stand Jvm.LawKit Jvm.RoadKit Bundle Jvm.Pilot.@@N@@.Jvm.D
/-- the same for a part of a walk that comes to the frame F -/
theorem own_via {α : Type} {tb : Tables} {e : Env} {below : List Frame} {A B : State} {P : State → α → Prop} {F : α → JFrame} (h : ∀ t, Steps tb e below A t → Steps tb e below B t) (k : ∃ (T : State) (x : α), P T x ∧ ∀ t, Steps tb e below (T.setTop (F x)) t → Steps tb e below A t) : ∃ (T : State) (x : α), P T x ∧ ∀ t, Steps tb e below (T.setTop (F x)) t → Steps tb e below B t := by
  obtain ⟨T, x, k1, k2⟩ := k
  exact ⟨T, x, k1, fun t q => h t (k2 t q)⟩
theorem own_ns {Z : State} {h : Heap} {a : Addr} {C : String} (F : Exa Z h a C) : ∀ c : Cell, h[a]? = some c → c.vm.isStatics = false := fun c hc => by
  obtain ⟨c1, k, h1, -, -, h4, -⟩ := F
  cases hc.symm.trans h1
  exact h4
theorem own_nsA {Z : State} {h : Heap} {a : Addr} {k : ClassId} {ty : FieldType} {z : Int32} {vs : List Value} {dv : Value} (F : Arv Z h a k ty z vs dv) : ∀ c : Cell, h[a]? = some c → c.vm.isStatics = false := fun c hc => by
  obtain ⟨c1, A, -⟩ := F
  cases hc.symm.trans A.1
  exact A.plain
theorem own_nsF {Z : State} {h : Heap} {a : Addr} {C n d : String} {v : Value} (F : Fld Z h a C n d v) : ∀ c : Cell, h[a]? = some c → c.vm.isStatics = false := fun c hc => by
  obtain ⟨c1, _, _, _, _, h1, _, _, _, h5, _⟩ := F
  cases hc.symm.trans h1
  exact h5
theorem own_neA {Z : State} {a0 : Array Value} {h : Heap} {a b : Addr} {C : String} {n : Nat} {k : ClassId} {ty : FieldType} {z : Int32} {vs : List Value} {dv : Value} (F : Exa Z h a C) (wi : (Cond.instantiable C n).before a0 Z = true) (G : Arv Z h b k ty z vs dv) : a ≠ b := by
  obtain ⟨c1, A, -⟩ := G
  exact ne_arr F wi A
theorem own_staKeep {Z : State} {h h' : Heap} {C n d : String} {v : Value} {ws : List Addr} (F : Sta Z h C n d v) (K : Keep h h' ws) (q : ∀ x ∈ ws, ∀ c : Cell, h[x]? = some c → c.vm.isStatics = false) : Sta Z h' C n d v := by
  obtain ⟨cf, i, k, f, st, cell, h1, h2, h3, h4, h5, h6, h7⟩ := F
  exact ⟨cf, i, k, f, st, cell, h1, h2, h3, h4, K.2.1 st cell h5 (fun hm => by rw [q st hm cell h5] at h6; cases h6), h6, h7⟩
/-- a byte made a byte again -/
theorem own_nb (y : Int32) : y.toInt8.toInt32.toInt8.toInt32 = y.toInt8.toInt32 := by 
  have h1 := c_i2b y
  have h2 := c_i2b (y.toInt8.toInt32)
  apply Int32.toInt_inj.mp
  omega
/-- the walk goes on from A where it comes from B to A -/
theorem own_go {tb : Tables} {e : Env} {below : List Frame} {A B : State} {P : State → Outcome → Prop} (h : ∀ t, Steps tb e below A t → Steps tb e below B t) (k : ∃ t o, Steps tb e below A t ∧ P t o) : ∃ t o, Steps tb e below B t ∧ P t o := by
  obtain ⟨t, o, k1, k2⟩ := k
  exact ⟨t, o, h t k1, k2⟩
theorem own_pd0 : parseMethodDescriptor "(J)J" = some ⟨[.long], some .long⟩ := by decide +kernel
theorem own_pd1 : parseMethodDescriptor "(J)V" = some ⟨[.long], none⟩ := by decide +kernel
theorem own_pd2 : parseMethodDescriptor "()J" = some ⟨[], some .long⟩ := by decide +kernel
def own_step (a x : Int64) : Int64 := x * ((2 : Int64) - a * x)
def own_inv (a : Int64) : Int64 := own_step a (own_step a (own_step a (own_step a (own_step a a))))
def own_xs (k : Int32) (z : Int64) : Int64 := z ^^^ ((z.toUInt64 >>> (k &&& 0x3f).toInt64.toUInt64).toInt64)
def own_ux (k k2 : Int32) (z : Int64) : Int64 := (z ^^^ ((z.toUInt64 >>> (k &&& 0x3f).toInt64.toUInt64).toInt64)) ^^^ ((z.toUInt64 >>> (k2 &&& 0x3f).toInt64.toUInt64).toInt64)
def own_mix (z : Int64) : Int64 := own_xs (31 : Int32) (own_xs (27 : Int32) (own_xs (30 : Int32) z * (-4658895280553007687 : Int64)) * (-7723592293110705685 : Int64))
def own_unmix (z : Int64) : Int64 := own_ux (30 : Int32) (60 : Int32) (own_ux (27 : Int32) (54 : Int32) (own_ux (31 : Int32) (62 : Int32) z * own_inv (-7723592293110705685 : Int64)) * own_inv (-4658895280553007687 : Int64))
theorem own_sh (z : Int64) (k : Int32) (n : Nat) (hk : ((k &&& 0x3f).toInt64.toUInt64.toBitVec % 64#64).toNat = n) : ((z.toUInt64 >>> (k &&& 0x3f).toInt64.toUInt64).toInt64).toBitVec = z.toBitVec >>> n := by
  subst hk
  show z.toBitVec >>> ((k &&& 0x3f).toInt64.toUInt64.toBitVec % 64#64) = _
  rfl
theorem own_bits (z : BitVec 64) (n : Nat) (h : 64 ≤ 3 * n) : ((z ^^^ z >>> n) ^^^ (z ^^^ z >>> n) >>> n) ^^^ (z ^^^ z >>> n) >>> (2 * n) = z := by
  apply BitVec.eq_of_getLsbD_eq
  intro i hi
  simp only [BitVec.getLsbD_xor, BitVec.getLsbD_ushiftRight]
  have e1 : n + (n + i) = 2 * n + i := by omega
  have e2 : n + (2 * n + i) = 3 * n + i := by omega
  rw [e1, e2, BitVec.getLsbD_of_ge z (3 * n + i) (by omega)]
  cases z.getLsbD i <;> cases z.getLsbD (n + i) <;> cases z.getLsbD (2 * n + i) <;> rfl
theorem own_undo (z : Int64) (k k2 : Int32) (n : Nat) (h : 64 ≤ 3 * n) (hk : ((k &&& 0x3f).toInt64.toUInt64.toBitVec % 64#64).toNat = n) (hk2 : ((k2 &&& 0x3f).toInt64.toUInt64.toBitVec % 64#64).toNat = 2 * n) : own_ux k k2 (own_xs k z) = z := by
  apply Int64.toBitVec_inj.mp
  unfold own_ux own_xs
  simp only [Int64.toBitVec_xor, own_sh _ k n hk, own_sh _ k2 (2 * n) hk2]
  exact own_bits _ _ h
theorem own_m1 : (-4658895280553007687 : Int64) * own_inv (-4658895280553007687 : Int64) = 1 := by decide +kernel
theorem own_m2 : (-7723592293110705685 : Int64) * own_inv (-7723592293110705685 : Int64) = 1 := by decide +kernel
theorem own_inverts (z : Int64) : own_unmix (own_mix z) = z := by
  unfold own_unmix own_mix
  rw [own_undo _ (31 : Int32) (62 : Int32) 31 (by decide) (by decide) (by decide), Int64.mul_assoc, own_m2, Int64.mul_one, own_undo _ (27 : Int32) (54 : Int32) 27 (by decide) (by decide) (by decide), Int64.mul_assoc, own_m1, Int64.mul_one, own_undo _ (30 : Int32) (60 : Int32) 30 (by decide) (by decide) (by decide)]
theorem d6_0 : decode method_3_code 0 = .ok (.lload_n 0, 1) := by decide +kernel
theorem d6_1 : decode method_3_code 1 = .ok (.lstore_n 2, 1) := by decide +kernel
theorem d6_2 : decode method_3_code 2 = .ok (.lload_n 2, 1) := by decide +kernel
theorem d6_3 : decode method_3_code 3 = .ok (.ldc2_w 24, 3) := by decide +kernel
theorem d6_6 : decode method_3_code 6 = .ok (.lload_n 0, 1) := by decide +kernel
theorem d6_7 : decode method_3_code 7 = .ok (.lload_n 2, 1) := by decide +kernel
theorem d6_8 : decode method_3_code 8 = .ok (.lmul, 1) := by decide +kernel
theorem d6_9 : decode method_3_code 9 = .ok (.lsub, 1) := by decide +kernel
theorem d6_10 : decode method_3_code 10 = .ok (.lmul, 1) := by decide +kernel
theorem d6_11 : decode method_3_code 11 = .ok (.lstore_n 2, 1) := by decide +kernel
theorem d6_12 : decode method_3_code 12 = .ok (.lload_n 2, 1) := by decide +kernel
theorem d6_13 : decode method_3_code 13 = .ok (.ldc2_w 24, 3) := by decide +kernel
theorem d6_16 : decode method_3_code 16 = .ok (.lload_n 0, 1) := by decide +kernel
theorem d6_17 : decode method_3_code 17 = .ok (.lload_n 2, 1) := by decide +kernel
theorem d6_18 : decode method_3_code 18 = .ok (.lmul, 1) := by decide +kernel
theorem d6_19 : decode method_3_code 19 = .ok (.lsub, 1) := by decide +kernel
theorem d6_20 : decode method_3_code 20 = .ok (.lmul, 1) := by decide +kernel
theorem d6_21 : decode method_3_code 21 = .ok (.lstore_n 2, 1) := by decide +kernel
theorem d6_22 : decode method_3_code 22 = .ok (.lload_n 2, 1) := by decide +kernel
theorem d6_23 : decode method_3_code 23 = .ok (.ldc2_w 24, 3) := by decide +kernel
theorem d6_26 : decode method_3_code 26 = .ok (.lload_n 0, 1) := by decide +kernel
theorem d6_27 : decode method_3_code 27 = .ok (.lload_n 2, 1) := by decide +kernel
theorem d6_28 : decode method_3_code 28 = .ok (.lmul, 1) := by decide +kernel
theorem d6_29 : decode method_3_code 29 = .ok (.lsub, 1) := by decide +kernel
theorem d6_30 : decode method_3_code 30 = .ok (.lmul, 1) := by decide +kernel
theorem d6_31 : decode method_3_code 31 = .ok (.lstore_n 2, 1) := by decide +kernel
theorem d6_32 : decode method_3_code 32 = .ok (.lload_n 2, 1) := by decide +kernel
theorem d6_33 : decode method_3_code 33 = .ok (.ldc2_w 24, 3) := by decide +kernel
theorem d6_36 : decode method_3_code 36 = .ok (.lload_n 0, 1) := by decide +kernel
theorem d6_37 : decode method_3_code 37 = .ok (.lload_n 2, 1) := by decide +kernel
theorem d6_38 : decode method_3_code 38 = .ok (.lmul, 1) := by decide +kernel
theorem d6_39 : decode method_3_code 39 = .ok (.lsub, 1) := by decide +kernel
theorem d6_40 : decode method_3_code 40 = .ok (.lmul, 1) := by decide +kernel
theorem d6_41 : decode method_3_code 41 = .ok (.lstore_n 2, 1) := by decide +kernel
theorem d6_42 : decode method_3_code 42 = .ok (.lload_n 2, 1) := by decide +kernel
theorem d6_43 : decode method_3_code 43 = .ok (.ldc2_w 24, 3) := by decide +kernel
theorem d6_46 : decode method_3_code 46 = .ok (.lload_n 0, 1) := by decide +kernel
theorem d6_47 : decode method_3_code 47 = .ok (.lload_n 2, 1) := by decide +kernel
theorem d6_48 : decode method_3_code 48 = .ok (.lmul, 1) := by decide +kernel
theorem d6_49 : decode method_3_code 49 = .ok (.lsub, 1) := by decide +kernel
theorem d6_50 : decode method_3_code 50 = .ok (.lmul, 1) := by decide +kernel
theorem d6_51 : decode method_3_code 51 = .ok (.lstore_n 2, 1) := by decide +kernel
theorem d6_52 : decode method_3_code 52 = .ok (.lload_n 2, 1) := by decide +kernel
theorem d6_53 : decode method_3_code 53 = .ok (.lreturn, 1) := by decide +kernel
theorem own_pn6 : plainName "com/example/quorumweight/quorumweight/model/SplitMix64NextPinLaw" = true := by first | (simp [plainName, overriddenIn]; done) | decide +kernel
theorem own_ef6 (m : MethodId) (x0 : Int64) : entryFrame m #[(.long x0)] 4 = mkF m 0 #[.val (.long x0), .second, .unset, .unset] [] := by first | (simp [entryFrame, mkF, argsToLocals, Value.category]; done) | rfl
def QrmInv (Z : State) (q1 : Int64) (h0 : Heap) (n0 : Nat) (v : Option Value) (h : Heap) (L : List Loc) : Prop := v = some (.long (own_inv q1)) ∧ Fr n0 L ∧ h = h0
set_option maxRecDepth 65536 in
set_option maxHeartbeats 40000000 in
theorem rmInv (l : Launch) (Z : State) (a0 : Array Value) (hw : ∀ d ∈ tables_1, d.before a0 Z = true) (ws : List Jvm.Cond) (q1 : Int64) (h0 : Heap) (n0 : Nat) (Z0 : n0 ≤ h0.size)  :
    MetFree l (⟨"com/example/quorumweight/quorumweight/model/SplitMix64NextPinLaw", "inverse", "(J)J"⟩ : MethodName) (head1 (Jvm.Cond.code (⟨"com/example/quorumweight/quorumweight/model/SplitMix64NextPinLaw", "inverse", "(J)J"⟩ : MethodName) method_3_code 4 (some .long) :: ws) ({ frames := 0, cells := 0, slots := 0, locals := 0 } : Room)) (fun ar_ U_ => ar_ = #[(.long q1)] ∧ Z.Warmed39 U_.vm ∧ U_.heap = h0) (fun _ _ _ _ _ => True) (fun _ U_ ou_ V_ => ∃ v_ L_, ou_ = .returned v_ ∧ QrmInv Z q1 h0 n0 v_ V_.heap L_ ∧ FrameEnd U_ ou_ V_ L_ ({ frames := 0, cells := 0, slots := 0, locals := 0 } : Room).cells ({ frames := 0, cells := 0, slots := 0, locals := 0 } : Room).slots) := by
  refine MetFree.of_bodySF (plainFor_of_name own_pn6) hisR ?_
  intro p e s m args below meth c s₁ Bd hml0 hP hK
  obtain ⟨rfl, hZ, hh⟩ := hP
  have hx := Bd.exec
  have hby := Bd.bytes
  have hml : c.maxLocals = 4 := hml0
  have hown : s.vm.findClass "com/example/quorumweight/quorumweight/model/SplitMix64NextPinLaw" = some m.cls := findClass_of_methodNamed Bd.named
  have hnm := (name_of_methodNamed Bd.named Bd.method).1
  have X0 : Stand p l e ({ frames := 0, cells := 0, slots := 0, locals := 0 } : Room) s m #[(.long q1)] below meth c s₁ [] 0 0 := Stand.of_body Bd
  have e0 : s₁.heap = h0 := by rw [← hh, Bd.state]; rfl
  have N0 := Fr.nil n0
  refine own_go (A := s₁.setTop (mkF m 0 #[.val (.long q1), .second, .unset, .unset] [])) (fun t kz => castTop (own_ef6 m q1) kz) ?_
  refine own_go (A := s₁.setTop (mkF m 12 #[.val (.long q1), .second, .val (.long (q1 * ((2 : Int64) - (q1 * q1)))), .second] [])) (fun _ kz => ?_) ?_
  · show Steps p.tables e below (s₁.setTop (mkF m 0 #[.val (.long q1), .second, .unset, .unset] [])) _
    refine XS.lloadN X0.here hx rfl (hb hby d6_0) rfl ?_
    show Steps p.tables e below (s₁.setTop (mkF m 1 #[.val (.long q1), .second, .unset, .unset] [(.long q1)])) _
    refine XS.lstoreN X0.here hx rfl (hb hby d6_1) rfl (l' := #[.val (.long q1), .second, .val (.long q1), .second]) rfl ?_
    show Steps p.tables e below (s₁.setTop (mkF m 2 #[.val (.long q1), .second, .val (.long q1), .second] [])) _
    refine XS.lloadN X0.here hx rfl (hb hby d6_2) rfl ?_
    show Steps p.tables e below (s₁.setTop (mkF m 3 #[.val (.long q1), .second, .val (.long q1), .second] [(.long q1)])) _
    refine X0.ldc2Long hx hown (mvT hZ (hw _ (List.mem_of_getElem? (i := 31) rfl))) (g := (mkF m 3 #[.val (.long q1), .second, .val (.long q1), .second] [(.long q1)])) rfl (hb hby d6_3) _ ?_
    show Steps p.tables e below (s₁.setTop (mkF m 6 #[.val (.long q1), .second, .val (.long q1), .second] [(.long (2 : Int64)), (.long q1)])) _
    refine XS.lloadN X0.here hx rfl (hb hby d6_6) rfl ?_
    show Steps p.tables e below (s₁.setTop (mkF m 7 #[.val (.long q1), .second, .val (.long q1), .second] [(.long q1), (.long (2 : Int64)), (.long q1)])) _
    refine XS.lloadN X0.here hx rfl (hb hby d6_7) rfl ?_
    show Steps p.tables e below (s₁.setTop (mkF m 8 #[.val (.long q1), .second, .val (.long q1), .second] [(.long q1), (.long q1), (.long (2 : Int64)), (.long q1)])) _
    refine XS.lmul X0.here hx rfl (hb hby d6_8) rfl ?_
    show Steps p.tables e below (s₁.setTop (mkF m 9 #[.val (.long q1), .second, .val (.long q1), .second] [(.long (q1 * q1)), (.long (2 : Int64)), (.long q1)])) _
    refine XS.lsub X0.here hx rfl (hb hby d6_9) rfl ?_
    show Steps p.tables e below (s₁.setTop (mkF m 10 #[.val (.long q1), .second, .val (.long q1), .second] [(.long ((2 : Int64) - (q1 * q1))), (.long q1)])) _
    refine XS.lmul X0.here hx rfl (hb hby d6_10) rfl ?_
    show Steps p.tables e below (s₁.setTop (mkF m 11 #[.val (.long q1), .second, .val (.long q1), .second] [(.long (q1 * ((2 : Int64) - (q1 * q1))))])) _
    refine XS.lstoreN X0.here hx rfl (hb hby d6_11) rfl (l' := #[.val (.long q1), .second, .val (.long (q1 * ((2 : Int64) - (q1 * q1)))), .second]) rfl ?_
    exact kz
  refine own_go (A := s₁.setTop (mkF m 12 #[.val (.long q1), .second, .val (.long (own_step q1 q1)), .second] [])) (fun _ kz => kz) ?_
  refine own_go (A := s₁.setTop (mkF m 22 #[.val (.long q1), .second, .val (.long ((own_step q1 q1) * ((2 : Int64) - (q1 * (own_step q1 q1))))), .second] [])) (fun _ kz => ?_) ?_
  · show Steps p.tables e below (s₁.setTop (mkF m 12 #[.val (.long q1), .second, .val (.long (own_step q1 q1)), .second] [])) _
    refine XS.lloadN X0.here hx rfl (hb hby d6_12) rfl ?_
    show Steps p.tables e below (s₁.setTop (mkF m 13 #[.val (.long q1), .second, .val (.long (own_step q1 q1)), .second] [(.long (own_step q1 q1))])) _
    refine X0.ldc2Long hx hown (mvT hZ (hw _ (List.mem_of_getElem? (i := 31) rfl))) (g := (mkF m 13 #[.val (.long q1), .second, .val (.long (own_step q1 q1)), .second] [(.long (own_step q1 q1))])) rfl (hb hby d6_13) _ ?_
    show Steps p.tables e below (s₁.setTop (mkF m 16 #[.val (.long q1), .second, .val (.long (own_step q1 q1)), .second] [(.long (2 : Int64)), (.long (own_step q1 q1))])) _
    refine XS.lloadN X0.here hx rfl (hb hby d6_16) rfl ?_
    show Steps p.tables e below (s₁.setTop (mkF m 17 #[.val (.long q1), .second, .val (.long (own_step q1 q1)), .second] [(.long q1), (.long (2 : Int64)), (.long (own_step q1 q1))])) _
    refine XS.lloadN X0.here hx rfl (hb hby d6_17) rfl ?_
    show Steps p.tables e below (s₁.setTop (mkF m 18 #[.val (.long q1), .second, .val (.long (own_step q1 q1)), .second] [(.long (own_step q1 q1)), (.long q1), (.long (2 : Int64)), (.long (own_step q1 q1))])) _
    refine XS.lmul X0.here hx rfl (hb hby d6_18) rfl ?_
    show Steps p.tables e below (s₁.setTop (mkF m 19 #[.val (.long q1), .second, .val (.long (own_step q1 q1)), .second] [(.long (q1 * (own_step q1 q1))), (.long (2 : Int64)), (.long (own_step q1 q1))])) _
    refine XS.lsub X0.here hx rfl (hb hby d6_19) rfl ?_
    show Steps p.tables e below (s₁.setTop (mkF m 20 #[.val (.long q1), .second, .val (.long (own_step q1 q1)), .second] [(.long ((2 : Int64) - (q1 * (own_step q1 q1)))), (.long (own_step q1 q1))])) _
    refine XS.lmul X0.here hx rfl (hb hby d6_20) rfl ?_
    show Steps p.tables e below (s₁.setTop (mkF m 21 #[.val (.long q1), .second, .val (.long (own_step q1 q1)), .second] [(.long ((own_step q1 q1) * ((2 : Int64) - (q1 * (own_step q1 q1)))))])) _
    refine XS.lstoreN X0.here hx rfl (hb hby d6_21) rfl (l' := #[.val (.long q1), .second, .val (.long ((own_step q1 q1) * ((2 : Int64) - (q1 * (own_step q1 q1))))), .second]) rfl ?_
    exact kz
  refine own_go (A := s₁.setTop (mkF m 22 #[.val (.long q1), .second, .val (.long (own_step q1 (own_step q1 q1))), .second] [])) (fun _ kz => kz) ?_
  refine own_go (A := s₁.setTop (mkF m 32 #[.val (.long q1), .second, .val (.long ((own_step q1 (own_step q1 q1)) * ((2 : Int64) - (q1 * (own_step q1 (own_step q1 q1)))))), .second] [])) (fun _ kz => ?_) ?_
  · show Steps p.tables e below (s₁.setTop (mkF m 22 #[.val (.long q1), .second, .val (.long (own_step q1 (own_step q1 q1))), .second] [])) _
    refine XS.lloadN X0.here hx rfl (hb hby d6_22) rfl ?_
    show Steps p.tables e below (s₁.setTop (mkF m 23 #[.val (.long q1), .second, .val (.long (own_step q1 (own_step q1 q1))), .second] [(.long (own_step q1 (own_step q1 q1)))])) _
    refine X0.ldc2Long hx hown (mvT hZ (hw _ (List.mem_of_getElem? (i := 31) rfl))) (g := (mkF m 23 #[.val (.long q1), .second, .val (.long (own_step q1 (own_step q1 q1))), .second] [(.long (own_step q1 (own_step q1 q1)))])) rfl (hb hby d6_23) _ ?_
    show Steps p.tables e below (s₁.setTop (mkF m 26 #[.val (.long q1), .second, .val (.long (own_step q1 (own_step q1 q1))), .second] [(.long (2 : Int64)), (.long (own_step q1 (own_step q1 q1)))])) _
    refine XS.lloadN X0.here hx rfl (hb hby d6_26) rfl ?_
    show Steps p.tables e below (s₁.setTop (mkF m 27 #[.val (.long q1), .second, .val (.long (own_step q1 (own_step q1 q1))), .second] [(.long q1), (.long (2 : Int64)), (.long (own_step q1 (own_step q1 q1)))])) _
    refine XS.lloadN X0.here hx rfl (hb hby d6_27) rfl ?_
    show Steps p.tables e below (s₁.setTop (mkF m 28 #[.val (.long q1), .second, .val (.long (own_step q1 (own_step q1 q1))), .second] [(.long (own_step q1 (own_step q1 q1))), (.long q1), (.long (2 : Int64)), (.long (own_step q1 (own_step q1 q1)))])) _
    refine XS.lmul X0.here hx rfl (hb hby d6_28) rfl ?_
    show Steps p.tables e below (s₁.setTop (mkF m 29 #[.val (.long q1), .second, .val (.long (own_step q1 (own_step q1 q1))), .second] [(.long (q1 * (own_step q1 (own_step q1 q1)))), (.long (2 : Int64)), (.long (own_step q1 (own_step q1 q1)))])) _
    refine XS.lsub X0.here hx rfl (hb hby d6_29) rfl ?_
    show Steps p.tables e below (s₁.setTop (mkF m 30 #[.val (.long q1), .second, .val (.long (own_step q1 (own_step q1 q1))), .second] [(.long ((2 : Int64) - (q1 * (own_step q1 (own_step q1 q1))))), (.long (own_step q1 (own_step q1 q1)))])) _
    refine XS.lmul X0.here hx rfl (hb hby d6_30) rfl ?_
    show Steps p.tables e below (s₁.setTop (mkF m 31 #[.val (.long q1), .second, .val (.long (own_step q1 (own_step q1 q1))), .second] [(.long ((own_step q1 (own_step q1 q1)) * ((2 : Int64) - (q1 * (own_step q1 (own_step q1 q1))))))])) _
    refine XS.lstoreN X0.here hx rfl (hb hby d6_31) rfl (l' := #[.val (.long q1), .second, .val (.long ((own_step q1 (own_step q1 q1)) * ((2 : Int64) - (q1 * (own_step q1 (own_step q1 q1)))))), .second]) rfl ?_
    exact kz
  refine own_go (A := s₁.setTop (mkF m 32 #[.val (.long q1), .second, .val (.long (own_step q1 (own_step q1 (own_step q1 q1)))), .second] [])) (fun _ kz => kz) ?_
  refine own_go (A := s₁.setTop (mkF m 42 #[.val (.long q1), .second, .val (.long ((own_step q1 (own_step q1 (own_step q1 q1))) * ((2 : Int64) - (q1 * (own_step q1 (own_step q1 (own_step q1 q1))))))), .second] [])) (fun _ kz => ?_) ?_
  · show Steps p.tables e below (s₁.setTop (mkF m 32 #[.val (.long q1), .second, .val (.long (own_step q1 (own_step q1 (own_step q1 q1)))), .second] [])) _
    refine XS.lloadN X0.here hx rfl (hb hby d6_32) rfl ?_
    show Steps p.tables e below (s₁.setTop (mkF m 33 #[.val (.long q1), .second, .val (.long (own_step q1 (own_step q1 (own_step q1 q1)))), .second] [(.long (own_step q1 (own_step q1 (own_step q1 q1))))])) _
    refine X0.ldc2Long hx hown (mvT hZ (hw _ (List.mem_of_getElem? (i := 31) rfl))) (g := (mkF m 33 #[.val (.long q1), .second, .val (.long (own_step q1 (own_step q1 (own_step q1 q1)))), .second] [(.long (own_step q1 (own_step q1 (own_step q1 q1))))])) rfl (hb hby d6_33) _ ?_
    show Steps p.tables e below (s₁.setTop (mkF m 36 #[.val (.long q1), .second, .val (.long (own_step q1 (own_step q1 (own_step q1 q1)))), .second] [(.long (2 : Int64)), (.long (own_step q1 (own_step q1 (own_step q1 q1))))])) _
    refine XS.lloadN X0.here hx rfl (hb hby d6_36) rfl ?_
    show Steps p.tables e below (s₁.setTop (mkF m 37 #[.val (.long q1), .second, .val (.long (own_step q1 (own_step q1 (own_step q1 q1)))), .second] [(.long q1), (.long (2 : Int64)), (.long (own_step q1 (own_step q1 (own_step q1 q1))))])) _
    refine XS.lloadN X0.here hx rfl (hb hby d6_37) rfl ?_
    show Steps p.tables e below (s₁.setTop (mkF m 38 #[.val (.long q1), .second, .val (.long (own_step q1 (own_step q1 (own_step q1 q1)))), .second] [(.long (own_step q1 (own_step q1 (own_step q1 q1)))), (.long q1), (.long (2 : Int64)), (.long (own_step q1 (own_step q1 (own_step q1 q1))))])) _
    refine XS.lmul X0.here hx rfl (hb hby d6_38) rfl ?_
    show Steps p.tables e below (s₁.setTop (mkF m 39 #[.val (.long q1), .second, .val (.long (own_step q1 (own_step q1 (own_step q1 q1)))), .second] [(.long (q1 * (own_step q1 (own_step q1 (own_step q1 q1))))), (.long (2 : Int64)), (.long (own_step q1 (own_step q1 (own_step q1 q1))))])) _
    refine XS.lsub X0.here hx rfl (hb hby d6_39) rfl ?_
    show Steps p.tables e below (s₁.setTop (mkF m 40 #[.val (.long q1), .second, .val (.long (own_step q1 (own_step q1 (own_step q1 q1)))), .second] [(.long ((2 : Int64) - (q1 * (own_step q1 (own_step q1 (own_step q1 q1)))))), (.long (own_step q1 (own_step q1 (own_step q1 q1))))])) _
    refine XS.lmul X0.here hx rfl (hb hby d6_40) rfl ?_
    show Steps p.tables e below (s₁.setTop (mkF m 41 #[.val (.long q1), .second, .val (.long (own_step q1 (own_step q1 (own_step q1 q1)))), .second] [(.long ((own_step q1 (own_step q1 (own_step q1 q1))) * ((2 : Int64) - (q1 * (own_step q1 (own_step q1 (own_step q1 q1)))))))])) _
    refine XS.lstoreN X0.here hx rfl (hb hby d6_41) rfl (l' := #[.val (.long q1), .second, .val (.long ((own_step q1 (own_step q1 (own_step q1 q1))) * ((2 : Int64) - (q1 * (own_step q1 (own_step q1 (own_step q1 q1))))))), .second]) rfl ?_
    exact kz
  refine own_go (A := s₁.setTop (mkF m 42 #[.val (.long q1), .second, .val (.long (own_step q1 (own_step q1 (own_step q1 (own_step q1 q1))))), .second] [])) (fun _ kz => kz) ?_
  refine own_go (A := s₁.setTop (mkF m 52 #[.val (.long q1), .second, .val (.long ((own_step q1 (own_step q1 (own_step q1 (own_step q1 q1)))) * ((2 : Int64) - (q1 * (own_step q1 (own_step q1 (own_step q1 (own_step q1 q1)))))))), .second] [])) (fun _ kz => ?_) ?_
  · show Steps p.tables e below (s₁.setTop (mkF m 42 #[.val (.long q1), .second, .val (.long (own_step q1 (own_step q1 (own_step q1 (own_step q1 q1))))), .second] [])) _
    refine XS.lloadN X0.here hx rfl (hb hby d6_42) rfl ?_
    show Steps p.tables e below (s₁.setTop (mkF m 43 #[.val (.long q1), .second, .val (.long (own_step q1 (own_step q1 (own_step q1 (own_step q1 q1))))), .second] [(.long (own_step q1 (own_step q1 (own_step q1 (own_step q1 q1)))))])) _
    refine X0.ldc2Long hx hown (mvT hZ (hw _ (List.mem_of_getElem? (i := 31) rfl))) (g := (mkF m 43 #[.val (.long q1), .second, .val (.long (own_step q1 (own_step q1 (own_step q1 (own_step q1 q1))))), .second] [(.long (own_step q1 (own_step q1 (own_step q1 (own_step q1 q1)))))])) rfl (hb hby d6_43) _ ?_
    show Steps p.tables e below (s₁.setTop (mkF m 46 #[.val (.long q1), .second, .val (.long (own_step q1 (own_step q1 (own_step q1 (own_step q1 q1))))), .second] [(.long (2 : Int64)), (.long (own_step q1 (own_step q1 (own_step q1 (own_step q1 q1)))))])) _
    refine XS.lloadN X0.here hx rfl (hb hby d6_46) rfl ?_
    show Steps p.tables e below (s₁.setTop (mkF m 47 #[.val (.long q1), .second, .val (.long (own_step q1 (own_step q1 (own_step q1 (own_step q1 q1))))), .second] [(.long q1), (.long (2 : Int64)), (.long (own_step q1 (own_step q1 (own_step q1 (own_step q1 q1)))))])) _
    refine XS.lloadN X0.here hx rfl (hb hby d6_47) rfl ?_
    show Steps p.tables e below (s₁.setTop (mkF m 48 #[.val (.long q1), .second, .val (.long (own_step q1 (own_step q1 (own_step q1 (own_step q1 q1))))), .second] [(.long (own_step q1 (own_step q1 (own_step q1 (own_step q1 q1))))), (.long q1), (.long (2 : Int64)), (.long (own_step q1 (own_step q1 (own_step q1 (own_step q1 q1)))))])) _
    refine XS.lmul X0.here hx rfl (hb hby d6_48) rfl ?_
    show Steps p.tables e below (s₁.setTop (mkF m 49 #[.val (.long q1), .second, .val (.long (own_step q1 (own_step q1 (own_step q1 (own_step q1 q1))))), .second] [(.long (q1 * (own_step q1 (own_step q1 (own_step q1 (own_step q1 q1)))))), (.long (2 : Int64)), (.long (own_step q1 (own_step q1 (own_step q1 (own_step q1 q1)))))])) _
    refine XS.lsub X0.here hx rfl (hb hby d6_49) rfl ?_
    show Steps p.tables e below (s₁.setTop (mkF m 50 #[.val (.long q1), .second, .val (.long (own_step q1 (own_step q1 (own_step q1 (own_step q1 q1))))), .second] [(.long ((2 : Int64) - (q1 * (own_step q1 (own_step q1 (own_step q1 (own_step q1 q1))))))), (.long (own_step q1 (own_step q1 (own_step q1 (own_step q1 q1)))))])) _
    refine XS.lmul X0.here hx rfl (hb hby d6_50) rfl ?_
    show Steps p.tables e below (s₁.setTop (mkF m 51 #[.val (.long q1), .second, .val (.long (own_step q1 (own_step q1 (own_step q1 (own_step q1 q1))))), .second] [(.long ((own_step q1 (own_step q1 (own_step q1 (own_step q1 q1)))) * ((2 : Int64) - (q1 * (own_step q1 (own_step q1 (own_step q1 (own_step q1 q1))))))))])) _
    refine XS.lstoreN X0.here hx rfl (hb hby d6_51) rfl (l' := #[.val (.long q1), .second, .val (.long ((own_step q1 (own_step q1 (own_step q1 (own_step q1 q1)))) * ((2 : Int64) - (q1 * (own_step q1 (own_step q1 (own_step q1 (own_step q1 q1)))))))), .second]) rfl ?_
    exact kz
  refine own_go (A := s₁.setTop (mkF m 52 #[.val (.long q1), .second, .val (.long (own_step q1 (own_step q1 (own_step q1 (own_step q1 (own_step q1 q1)))))), .second] [])) (fun _ kz => kz) ?_
  refine own_go (A := s₁.setTop (mkF m 53 #[.val (.long q1), .second, .val (.long (own_step q1 (own_step q1 (own_step q1 (own_step q1 (own_step q1 q1)))))), .second] [(.long (own_step q1 (own_step q1 (own_step q1 (own_step q1 (own_step q1 q1))))))])) (fun _ kz => ?_) ?_
  · show Steps p.tables e below (s₁.setTop (mkF m 52 #[.val (.long q1), .second, .val (.long (own_step q1 (own_step q1 (own_step q1 (own_step q1 (own_step q1 q1)))))), .second] [])) _
    refine XS.lloadN X0.here hx rfl (hb hby d6_52) rfl ?_
    exact kz
  obtain ⟨fs, hrr, hrun, hended, hW, hsame⟩ := X0.leave (v := some (.long (own_step q1 (own_step q1 (own_step q1 (own_step q1 (own_step q1 q1))))))) (fun h => by rw [Bd.returns] at h; cases h)
  refine ⟨_, _, ?_, hrun, hended, _, _, rfl, ?_, ⟨_, rfl⟩, hW, hsame.mono (by decide) (by decide)⟩
  · show Steps p.tables e below (s₁.setTop (mkF m 53 #[.val (.long q1), .second, .val (.long (own_step q1 (own_step q1 (own_step q1 (own_step q1 (own_step q1 q1)))))), .second] [(.long (own_step q1 (own_step q1 (own_step q1 (own_step q1 (own_step q1 q1))))))])) _
    exact retOut X0 hx (t := .long) Bd.returns rfl (Or.inr (Or.inl ⟨rfl, rfl, _, rfl⟩)) (hb hby d6_53) hrr
  · show QrmInv Z q1 h0 n0 _ s₁.heap _
    rw [e0]
    exact ⟨rfl, N0, rfl⟩
theorem d4_0 : decode prog_51_method_4_code 0 = .ok (.lload_n 0, 1) := by decide +kernel
theorem d4_1 : decode prog_51_method_4_code 1 = .ok (.lload_n 0, 1) := by decide +kernel
theorem d4_2 : decode prog_51_method_4_code 2 = .ok (.bipush 30, 2) := by decide +kernel
theorem d4_4 : decode prog_51_method_4_code 4 = .ok (.lushr, 1) := by decide +kernel
theorem d4_5 : decode prog_51_method_4_code 5 = .ok (.lxor, 1) := by decide +kernel
theorem d4_6 : decode prog_51_method_4_code 6 = .ok (.ldc2_w 22, 3) := by decide +kernel
theorem d4_9 : decode prog_51_method_4_code 9 = .ok (.lmul, 1) := by decide +kernel
theorem d4_10 : decode prog_51_method_4_code 10 = .ok (.lstore_n 2, 1) := by decide +kernel
theorem d4_11 : decode prog_51_method_4_code 11 = .ok (.lload_n 2, 1) := by decide +kernel
theorem d4_12 : decode prog_51_method_4_code 12 = .ok (.lload_n 2, 1) := by decide +kernel
theorem d4_13 : decode prog_51_method_4_code 13 = .ok (.bipush 27, 2) := by decide +kernel
theorem d4_15 : decode prog_51_method_4_code 15 = .ok (.lushr, 1) := by decide +kernel
theorem d4_16 : decode prog_51_method_4_code 16 = .ok (.lxor, 1) := by decide +kernel
theorem d4_17 : decode prog_51_method_4_code 17 = .ok (.ldc2_w 24, 3) := by decide +kernel
theorem d4_20 : decode prog_51_method_4_code 20 = .ok (.lmul, 1) := by decide +kernel
theorem d4_21 : decode prog_51_method_4_code 21 = .ok (.lstore_n 2, 1) := by decide +kernel
theorem d4_22 : decode prog_51_method_4_code 22 = .ok (.lload_n 2, 1) := by decide +kernel
theorem d4_23 : decode prog_51_method_4_code 23 = .ok (.lload_n 2, 1) := by decide +kernel
theorem d4_24 : decode prog_51_method_4_code 24 = .ok (.bipush 31, 2) := by decide +kernel
theorem d4_26 : decode prog_51_method_4_code 26 = .ok (.lushr, 1) := by decide +kernel
theorem d4_27 : decode prog_51_method_4_code 27 = .ok (.lxor, 1) := by decide +kernel
theorem d4_28 : decode prog_51_method_4_code 28 = .ok (.lreturn, 1) := by decide +kernel
theorem own_pn4 : plainName "com/example/quorumweight/quorumweight/model/SplitMix64" = true := by first | (simp [plainName, overriddenIn]; done) | decide +kernel
theorem own_ef4 (m : MethodId) (x0 : Int64) : entryFrame m #[(.long x0)] 4 = mkF m 0 #[.val (.long x0), .second, .unset, .unset] [] := by first | (simp [entryFrame, mkF, argsToLocals, Value.category]; done) | rfl
def QrmMix (Z : State) (q1 : Int64) (h0 : Heap) (n0 : Nat) (v : Option Value) (h : Heap) (L : List Loc) : Prop := v = some (.long (own_mix q1)) ∧ Fr n0 L ∧ h = h0
set_option maxRecDepth 65536 in
set_option maxHeartbeats 40000000 in
theorem rmMix (l : Launch) (Z : State) (a0 : Array Value) (hw : ∀ d ∈ tables_1, d.before a0 Z = true) (ws : List Jvm.Cond) (q1 : Int64) (h0 : Heap) (n0 : Nat) (Z0 : n0 ≤ h0.size)  :
    MetFree l (⟨"com/example/quorumweight/quorumweight/model/SplitMix64", "mix", "(J)J"⟩ : MethodName) (head1 (Jvm.Cond.code (⟨"com/example/quorumweight/quorumweight/model/SplitMix64", "mix", "(J)J"⟩ : MethodName) prog_51_method_4_code 4 (some .long) :: ws) ({ frames := 0, cells := 0, slots := 0, locals := 0 } : Room)) (fun ar_ U_ => ar_ = #[(.long q1)] ∧ Z.Warmed39 U_.vm ∧ U_.heap = h0) (fun _ _ _ _ _ => True) (fun _ U_ ou_ V_ => ∃ v_ L_, ou_ = .returned v_ ∧ QrmMix Z q1 h0 n0 v_ V_.heap L_ ∧ FrameEnd U_ ou_ V_ L_ ({ frames := 0, cells := 0, slots := 0, locals := 0 } : Room).cells ({ frames := 0, cells := 0, slots := 0, locals := 0 } : Room).slots) := by
  refine MetFree.of_bodySF (plainFor_of_name own_pn4) hisR ?_
  intro p e s m args below meth c s₁ Bd hml0 hP hK
  obtain ⟨rfl, hZ, hh⟩ := hP
  have hx := Bd.exec
  have hby := Bd.bytes
  have hml : c.maxLocals = 4 := hml0
  have hown : s.vm.findClass "com/example/quorumweight/quorumweight/model/SplitMix64" = some m.cls := findClass_of_methodNamed Bd.named
  have hnm := (name_of_methodNamed Bd.named Bd.method).1
  have X0 : Stand p l e ({ frames := 0, cells := 0, slots := 0, locals := 0 } : Room) s m #[(.long q1)] below meth c s₁ [] 0 0 := Stand.of_body Bd
  have e0 : s₁.heap = h0 := by rw [← hh, Bd.state]; rfl
  have N0 := Fr.nil n0
  refine own_go (A := s₁.setTop (mkF m 0 #[.val (.long q1), .second, .unset, .unset] [])) (fun t kz => castTop (own_ef4 m q1) kz) ?_
  refine own_go (A := s₁.setTop (mkF m 11 #[.val (.long q1), .second, .val (.long ((q1 ^^^ ((q1.toUInt64 >>> ((30 : Int32) &&& 0x3f).toInt64.toUInt64).toInt64)) * (-4658895280553007687 : Int64))), .second] [])) (fun _ kz => ?_) ?_
  · show Steps p.tables e below (s₁.setTop (mkF m 0 #[.val (.long q1), .second, .unset, .unset] [])) _
    refine XS.lloadN X0.here hx rfl (hb hby d4_0) rfl ?_
    show Steps p.tables e below (s₁.setTop (mkF m 1 #[.val (.long q1), .second, .unset, .unset] [(.long q1)])) _
    refine XS.lloadN X0.here hx rfl (hb hby d4_1) rfl ?_
    show Steps p.tables e below (s₁.setTop (mkF m 2 #[.val (.long q1), .second, .unset, .unset] [(.long q1), (.long q1)])) _
    refine XS.bipush X0.here hx rfl (hb hby d4_2) ?_
    show Steps p.tables e below (s₁.setTop (mkF m 4 #[.val (.long q1), .second, .unset, .unset] [(.int (30 : Int32)), (.long q1), (.long q1)])) _
    refine XS.lushr X0.here hx rfl (hb hby d4_4) rfl ?_
    show Steps p.tables e below (s₁.setTop (mkF m 5 #[.val (.long q1), .second, .unset, .unset] [(.long ((q1.toUInt64 >>> ((30 : Int32) &&& 0x3f).toInt64.toUInt64).toInt64)), (.long q1)])) _
    refine XS.lxor X0.here hx rfl (hb hby d4_5) rfl ?_
    show Steps p.tables e below (s₁.setTop (mkF m 6 #[.val (.long q1), .second, .unset, .unset] [(.long (q1 ^^^ ((q1.toUInt64 >>> ((30 : Int32) &&& 0x3f).toInt64.toUInt64).toInt64)))])) _
    refine X0.ldc2Long hx hown (mvT hZ (hw _ (List.mem_of_getElem? (i := 20) rfl))) (g := (mkF m 6 #[.val (.long q1), .second, .unset, .unset] [(.long (q1 ^^^ ((q1.toUInt64 >>> ((30 : Int32) &&& 0x3f).toInt64.toUInt64).toInt64)))])) rfl (hb hby d4_6) _ ?_
    show Steps p.tables e below (s₁.setTop (mkF m 9 #[.val (.long q1), .second, .unset, .unset] [(.long (-4658895280553007687 : Int64)), (.long (q1 ^^^ ((q1.toUInt64 >>> ((30 : Int32) &&& 0x3f).toInt64.toUInt64).toInt64)))])) _
    refine XS.lmul X0.here hx rfl (hb hby d4_9) rfl ?_
    show Steps p.tables e below (s₁.setTop (mkF m 10 #[.val (.long q1), .second, .unset, .unset] [(.long ((q1 ^^^ ((q1.toUInt64 >>> ((30 : Int32) &&& 0x3f).toInt64.toUInt64).toInt64)) * (-4658895280553007687 : Int64)))])) _
    refine XS.lstoreN X0.here hx rfl (hb hby d4_10) rfl (l' := #[.val (.long q1), .second, .val (.long ((q1 ^^^ ((q1.toUInt64 >>> ((30 : Int32) &&& 0x3f).toInt64.toUInt64).toInt64)) * (-4658895280553007687 : Int64))), .second]) rfl ?_
    exact kz
  refine own_go (A := s₁.setTop (mkF m 11 #[.val (.long q1), .second, .val (.long (own_xs (30 : Int32) q1 * (-4658895280553007687 : Int64))), .second] [])) (fun _ kz => kz) ?_
  refine own_go (A := s₁.setTop (mkF m 22 #[.val (.long q1), .second, .val (.long (((own_xs (30 : Int32) q1 * (-4658895280553007687 : Int64)) ^^^ (((own_xs (30 : Int32) q1 * (-4658895280553007687 : Int64)).toUInt64 >>> ((27 : Int32) &&& 0x3f).toInt64.toUInt64).toInt64)) * (-7723592293110705685 : Int64))), .second] [])) (fun _ kz => ?_) ?_
  · show Steps p.tables e below (s₁.setTop (mkF m 11 #[.val (.long q1), .second, .val (.long (own_xs (30 : Int32) q1 * (-4658895280553007687 : Int64))), .second] [])) _
    refine XS.lloadN X0.here hx rfl (hb hby d4_11) rfl ?_
    show Steps p.tables e below (s₁.setTop (mkF m 12 #[.val (.long q1), .second, .val (.long (own_xs (30 : Int32) q1 * (-4658895280553007687 : Int64))), .second] [(.long (own_xs (30 : Int32) q1 * (-4658895280553007687 : Int64)))])) _
    refine XS.lloadN X0.here hx rfl (hb hby d4_12) rfl ?_
    show Steps p.tables e below (s₁.setTop (mkF m 13 #[.val (.long q1), .second, .val (.long (own_xs (30 : Int32) q1 * (-4658895280553007687 : Int64))), .second] [(.long (own_xs (30 : Int32) q1 * (-4658895280553007687 : Int64))), (.long (own_xs (30 : Int32) q1 * (-4658895280553007687 : Int64)))])) _
    refine XS.bipush X0.here hx rfl (hb hby d4_13) ?_
    show Steps p.tables e below (s₁.setTop (mkF m 15 #[.val (.long q1), .second, .val (.long (own_xs (30 : Int32) q1 * (-4658895280553007687 : Int64))), .second] [(.int (27 : Int32)), (.long (own_xs (30 : Int32) q1 * (-4658895280553007687 : Int64))), (.long (own_xs (30 : Int32) q1 * (-4658895280553007687 : Int64)))])) _
    refine XS.lushr X0.here hx rfl (hb hby d4_15) rfl ?_
    show Steps p.tables e below (s₁.setTop (mkF m 16 #[.val (.long q1), .second, .val (.long (own_xs (30 : Int32) q1 * (-4658895280553007687 : Int64))), .second] [(.long (((own_xs (30 : Int32) q1 * (-4658895280553007687 : Int64)).toUInt64 >>> ((27 : Int32) &&& 0x3f).toInt64.toUInt64).toInt64)), (.long (own_xs (30 : Int32) q1 * (-4658895280553007687 : Int64)))])) _
    refine XS.lxor X0.here hx rfl (hb hby d4_16) rfl ?_
    show Steps p.tables e below (s₁.setTop (mkF m 17 #[.val (.long q1), .second, .val (.long (own_xs (30 : Int32) q1 * (-4658895280553007687 : Int64))), .second] [(.long ((own_xs (30 : Int32) q1 * (-4658895280553007687 : Int64)) ^^^ (((own_xs (30 : Int32) q1 * (-4658895280553007687 : Int64)).toUInt64 >>> ((27 : Int32) &&& 0x3f).toInt64.toUInt64).toInt64)))])) _
    refine X0.ldc2Long hx hown (mvT hZ (hw _ (List.mem_of_getElem? (i := 21) rfl))) (g := (mkF m 17 #[.val (.long q1), .second, .val (.long (own_xs (30 : Int32) q1 * (-4658895280553007687 : Int64))), .second] [(.long ((own_xs (30 : Int32) q1 * (-4658895280553007687 : Int64)) ^^^ (((own_xs (30 : Int32) q1 * (-4658895280553007687 : Int64)).toUInt64 >>> ((27 : Int32) &&& 0x3f).toInt64.toUInt64).toInt64)))])) rfl (hb hby d4_17) _ ?_
    show Steps p.tables e below (s₁.setTop (mkF m 20 #[.val (.long q1), .second, .val (.long (own_xs (30 : Int32) q1 * (-4658895280553007687 : Int64))), .second] [(.long (-7723592293110705685 : Int64)), (.long ((own_xs (30 : Int32) q1 * (-4658895280553007687 : Int64)) ^^^ (((own_xs (30 : Int32) q1 * (-4658895280553007687 : Int64)).toUInt64 >>> ((27 : Int32) &&& 0x3f).toInt64.toUInt64).toInt64)))])) _
    refine XS.lmul X0.here hx rfl (hb hby d4_20) rfl ?_
    show Steps p.tables e below (s₁.setTop (mkF m 21 #[.val (.long q1), .second, .val (.long (own_xs (30 : Int32) q1 * (-4658895280553007687 : Int64))), .second] [(.long (((own_xs (30 : Int32) q1 * (-4658895280553007687 : Int64)) ^^^ (((own_xs (30 : Int32) q1 * (-4658895280553007687 : Int64)).toUInt64 >>> ((27 : Int32) &&& 0x3f).toInt64.toUInt64).toInt64)) * (-7723592293110705685 : Int64)))])) _
    refine XS.lstoreN X0.here hx rfl (hb hby d4_21) rfl (l' := #[.val (.long q1), .second, .val (.long (((own_xs (30 : Int32) q1 * (-4658895280553007687 : Int64)) ^^^ (((own_xs (30 : Int32) q1 * (-4658895280553007687 : Int64)).toUInt64 >>> ((27 : Int32) &&& 0x3f).toInt64.toUInt64).toInt64)) * (-7723592293110705685 : Int64))), .second]) rfl ?_
    exact kz
  refine own_go (A := s₁.setTop (mkF m 22 #[.val (.long q1), .second, .val (.long (own_xs (27 : Int32) (own_xs (30 : Int32) q1 * (-4658895280553007687 : Int64)) * (-7723592293110705685 : Int64))), .second] [])) (fun _ kz => kz) ?_
  refine own_go (A := s₁.setTop (mkF m 28 #[.val (.long q1), .second, .val (.long (own_xs (27 : Int32) (own_xs (30 : Int32) q1 * (-4658895280553007687 : Int64)) * (-7723592293110705685 : Int64))), .second] [(.long ((own_xs (27 : Int32) (own_xs (30 : Int32) q1 * (-4658895280553007687 : Int64)) * (-7723592293110705685 : Int64)) ^^^ (((own_xs (27 : Int32) (own_xs (30 : Int32) q1 * (-4658895280553007687 : Int64)) * (-7723592293110705685 : Int64)).toUInt64 >>> ((31 : Int32) &&& 0x3f).toInt64.toUInt64).toInt64)))])) (fun _ kz => ?_) ?_
  · show Steps p.tables e below (s₁.setTop (mkF m 22 #[.val (.long q1), .second, .val (.long (own_xs (27 : Int32) (own_xs (30 : Int32) q1 * (-4658895280553007687 : Int64)) * (-7723592293110705685 : Int64))), .second] [])) _
    refine XS.lloadN X0.here hx rfl (hb hby d4_22) rfl ?_
    show Steps p.tables e below (s₁.setTop (mkF m 23 #[.val (.long q1), .second, .val (.long (own_xs (27 : Int32) (own_xs (30 : Int32) q1 * (-4658895280553007687 : Int64)) * (-7723592293110705685 : Int64))), .second] [(.long (own_xs (27 : Int32) (own_xs (30 : Int32) q1 * (-4658895280553007687 : Int64)) * (-7723592293110705685 : Int64)))])) _
    refine XS.lloadN X0.here hx rfl (hb hby d4_23) rfl ?_
    show Steps p.tables e below (s₁.setTop (mkF m 24 #[.val (.long q1), .second, .val (.long (own_xs (27 : Int32) (own_xs (30 : Int32) q1 * (-4658895280553007687 : Int64)) * (-7723592293110705685 : Int64))), .second] [(.long (own_xs (27 : Int32) (own_xs (30 : Int32) q1 * (-4658895280553007687 : Int64)) * (-7723592293110705685 : Int64))), (.long (own_xs (27 : Int32) (own_xs (30 : Int32) q1 * (-4658895280553007687 : Int64)) * (-7723592293110705685 : Int64)))])) _
    refine XS.bipush X0.here hx rfl (hb hby d4_24) ?_
    show Steps p.tables e below (s₁.setTop (mkF m 26 #[.val (.long q1), .second, .val (.long (own_xs (27 : Int32) (own_xs (30 : Int32) q1 * (-4658895280553007687 : Int64)) * (-7723592293110705685 : Int64))), .second] [(.int (31 : Int32)), (.long (own_xs (27 : Int32) (own_xs (30 : Int32) q1 * (-4658895280553007687 : Int64)) * (-7723592293110705685 : Int64))), (.long (own_xs (27 : Int32) (own_xs (30 : Int32) q1 * (-4658895280553007687 : Int64)) * (-7723592293110705685 : Int64)))])) _
    refine XS.lushr X0.here hx rfl (hb hby d4_26) rfl ?_
    show Steps p.tables e below (s₁.setTop (mkF m 27 #[.val (.long q1), .second, .val (.long (own_xs (27 : Int32) (own_xs (30 : Int32) q1 * (-4658895280553007687 : Int64)) * (-7723592293110705685 : Int64))), .second] [(.long (((own_xs (27 : Int32) (own_xs (30 : Int32) q1 * (-4658895280553007687 : Int64)) * (-7723592293110705685 : Int64)).toUInt64 >>> ((31 : Int32) &&& 0x3f).toInt64.toUInt64).toInt64)), (.long (own_xs (27 : Int32) (own_xs (30 : Int32) q1 * (-4658895280553007687 : Int64)) * (-7723592293110705685 : Int64)))])) _
    refine XS.lxor X0.here hx rfl (hb hby d4_27) rfl ?_
    exact kz
  refine own_go (A := s₁.setTop (mkF m 28 #[.val (.long q1), .second, .val (.long (own_xs (27 : Int32) (own_xs (30 : Int32) q1 * (-4658895280553007687 : Int64)) * (-7723592293110705685 : Int64))), .second] [(.long (own_mix q1))])) (fun _ kz => kz) ?_
  obtain ⟨fs, hrr, hrun, hended, hW, hsame⟩ := X0.leave (v := some (.long (own_mix q1))) (fun h => by rw [Bd.returns] at h; cases h)
  refine ⟨_, _, ?_, hrun, hended, _, _, rfl, ?_, ⟨_, rfl⟩, hW, hsame.mono (by decide) (by decide)⟩
  · show Steps p.tables e below (s₁.setTop (mkF m 28 #[.val (.long q1), .second, .val (.long (own_xs (27 : Int32) (own_xs (30 : Int32) q1 * (-4658895280553007687 : Int64)) * (-7723592293110705685 : Int64))), .second] [(.long (own_mix q1))])) _
    exact retOut X0 hx (t := .long) Bd.returns rfl (Or.inr (Or.inl ⟨rfl, rfl, _, rfl⟩)) (hb hby d4_28) hrr
  · show QrmMix Z q1 h0 n0 _ s₁.heap _
    rw [e0]
    exact ⟨rfl, N0, rfl⟩
theorem d5_0 : decode method_4_code 0 = .ok (.lload_n 0, 1) := by decide +kernel
theorem d5_1 : decode method_4_code 1 = .ok (.lload_n 0, 1) := by decide +kernel
theorem d5_2 : decode method_4_code 2 = .ok (.bipush 31, 2) := by decide +kernel
theorem d5_4 : decode method_4_code 4 = .ok (.lushr, 1) := by decide +kernel
theorem d5_5 : decode method_4_code 5 = .ok (.lxor, 1) := by decide +kernel
theorem d5_6 : decode method_4_code 6 = .ok (.lload_n 0, 1) := by decide +kernel
theorem d5_7 : decode method_4_code 7 = .ok (.bipush 62, 2) := by decide +kernel
theorem d5_9 : decode method_4_code 9 = .ok (.lushr, 1) := by decide +kernel
theorem d5_10 : decode method_4_code 10 = .ok (.lxor, 1) := by decide +kernel
theorem d5_11 : decode method_4_code 11 = .ok (.lstore_n 2, 1) := by decide +kernel
theorem d5_12 : decode method_4_code 12 = .ok (.lload_n 2, 1) := by decide +kernel
theorem d5_13 : decode method_4_code 13 = .ok (.ldc2_w 26, 3) := by decide +kernel
theorem d5_16 : decode method_4_code 16 = .ok (.invokestatic 28, 3) := by decide +kernel
theorem d5_19 : decode method_4_code 19 = .ok (.lmul, 1) := by decide +kernel
theorem d5_20 : decode method_4_code 20 = .ok (.lstore_n 2, 1) := by decide +kernel
theorem d5_21 : decode method_4_code 21 = .ok (.lload_n 2, 1) := by decide +kernel
theorem d5_22 : decode method_4_code 22 = .ok (.lload_n 2, 1) := by decide +kernel
theorem d5_23 : decode method_4_code 23 = .ok (.bipush 27, 2) := by decide +kernel
theorem d5_25 : decode method_4_code 25 = .ok (.lushr, 1) := by decide +kernel
theorem d5_26 : decode method_4_code 26 = .ok (.lxor, 1) := by decide +kernel
theorem d5_27 : decode method_4_code 27 = .ok (.lload_n 2, 1) := by decide +kernel
theorem d5_28 : decode method_4_code 28 = .ok (.bipush 54, 2) := by decide +kernel
theorem d5_30 : decode method_4_code 30 = .ok (.lushr, 1) := by decide +kernel
theorem d5_31 : decode method_4_code 31 = .ok (.lxor, 1) := by decide +kernel
theorem d5_32 : decode method_4_code 32 = .ok (.lstore_n 2, 1) := by decide +kernel
theorem d5_33 : decode method_4_code 33 = .ok (.lload_n 2, 1) := by decide +kernel
theorem d5_34 : decode method_4_code 34 = .ok (.ldc2_w 31, 3) := by decide +kernel
theorem d5_37 : decode method_4_code 37 = .ok (.invokestatic 28, 3) := by decide +kernel
theorem d5_40 : decode method_4_code 40 = .ok (.lmul, 1) := by decide +kernel
theorem d5_41 : decode method_4_code 41 = .ok (.lstore_n 2, 1) := by decide +kernel
theorem d5_42 : decode method_4_code 42 = .ok (.lload_n 2, 1) := by decide +kernel
theorem d5_43 : decode method_4_code 43 = .ok (.lload_n 2, 1) := by decide +kernel
theorem d5_44 : decode method_4_code 44 = .ok (.bipush 30, 2) := by decide +kernel
theorem d5_46 : decode method_4_code 46 = .ok (.lushr, 1) := by decide +kernel
theorem d5_47 : decode method_4_code 47 = .ok (.lxor, 1) := by decide +kernel
theorem d5_48 : decode method_4_code 48 = .ok (.lload_n 2, 1) := by decide +kernel
theorem d5_49 : decode method_4_code 49 = .ok (.bipush 60, 2) := by decide +kernel
theorem d5_51 : decode method_4_code 51 = .ok (.lushr, 1) := by decide +kernel
theorem d5_52 : decode method_4_code 52 = .ok (.lxor, 1) := by decide +kernel
theorem d5_53 : decode method_4_code 53 = .ok (.lstore_n 2, 1) := by decide +kernel
theorem d5_54 : decode method_4_code 54 = .ok (.lload_n 2, 1) := by decide +kernel
theorem d5_55 : decode method_4_code 55 = .ok (.lreturn, 1) := by decide +kernel
theorem own_pn5 : plainName "com/example/quorumweight/quorumweight/model/SplitMix64NextPinLaw" = true := by first | (simp [plainName, overriddenIn]; done) | decide +kernel
theorem own_ef5 (m : MethodId) (x0 : Int64) : entryFrame m #[(.long x0)] 4 = mkF m 0 #[.val (.long x0), .second, .unset, .unset] [] := by first | (simp [entryFrame, mkF, argsToLocals, Value.category]; done) | rfl
def QrmUn (Z : State) (q1 : Int64) (h0 : Heap) (n0 : Nat) (v : Option Value) (h : Heap) (L : List Loc) : Prop := v = some (.long (own_unmix q1)) ∧ Fr n0 L ∧ h = h0
set_option maxRecDepth 65536 in
set_option maxHeartbeats 40000000 in
theorem rmUn (l : Launch) (Z : State) (a0 : Array Value) (hw : ∀ d ∈ tables_1, d.before a0 Z = true) (ws : List Jvm.Cond) (q1 : Int64) (h0 : Heap) (n0 : Nat) (Z0 : n0 ≤ h0.size)  :
    MetFree l (⟨"com/example/quorumweight/quorumweight/model/SplitMix64NextPinLaw", "unmix", "(J)J"⟩ : MethodName) (head1 (Jvm.Cond.code (⟨"com/example/quorumweight/quorumweight/model/SplitMix64NextPinLaw", "unmix", "(J)J"⟩ : MethodName) method_4_code 4 (some .long) :: ws) ({ frames := 1, cells := 0, slots := 0, locals := 17 } : Room)) (fun ar_ U_ => ar_ = #[(.long q1)] ∧ Z.Warmed39 U_.vm ∧ U_.heap = h0) (fun _ _ _ _ _ => True) (fun _ U_ ou_ V_ => ∃ v_ L_, ou_ = .returned v_ ∧ QrmUn Z q1 h0 n0 v_ V_.heap L_ ∧ FrameEnd U_ ou_ V_ L_ ({ frames := 1, cells := 0, slots := 0, locals := 17 } : Room).cells ({ frames := 1, cells := 0, slots := 0, locals := 17 } : Room).slots) := by
  refine MetFree.of_bodySF (plainFor_of_name own_pn5) hisR ?_
  intro p e s m args below meth c s₁ Bd hml0 hP hK
  obtain ⟨rfl, hZ, hh⟩ := hP
  have hx := Bd.exec
  have hby := Bd.bytes
  have hml : c.maxLocals = 4 := hml0
  have hown : s.vm.findClass "com/example/quorumweight/quorumweight/model/SplitMix64NextPinLaw" = some m.cls := findClass_of_methodNamed Bd.named
  have hnm := (name_of_methodNamed Bd.named Bd.method).1
  have X0 : Stand p l e ({ frames := 1, cells := 0, slots := 0, locals := 17 } : Room) s m #[(.long q1)] below meth c s₁ [] 0 0 := Stand.of_body Bd
  have e0 : s₁.heap = h0 := by rw [← hh, Bd.state]; rfl
  have N0 := Fr.nil n0
  refine own_go (A := s₁.setTop (mkF m 0 #[.val (.long q1), .second, .unset, .unset] [])) (fun t kz => castTop (own_ef5 m q1) kz) ?_
  refine own_go (A := s₁.setTop (mkF m 12 #[.val (.long q1), .second, .val (.long ((q1 ^^^ ((q1.toUInt64 >>> ((31 : Int32) &&& 0x3f).toInt64.toUInt64).toInt64)) ^^^ ((q1.toUInt64 >>> ((62 : Int32) &&& 0x3f).toInt64.toUInt64).toInt64))), .second] [])) (fun _ kz => ?_) ?_
  · show Steps p.tables e below (s₁.setTop (mkF m 0 #[.val (.long q1), .second, .unset, .unset] [])) _
    refine XS.lloadN X0.here hx rfl (hb hby d5_0) rfl ?_
    show Steps p.tables e below (s₁.setTop (mkF m 1 #[.val (.long q1), .second, .unset, .unset] [(.long q1)])) _
    refine XS.lloadN X0.here hx rfl (hb hby d5_1) rfl ?_
    show Steps p.tables e below (s₁.setTop (mkF m 2 #[.val (.long q1), .second, .unset, .unset] [(.long q1), (.long q1)])) _
    refine XS.bipush X0.here hx rfl (hb hby d5_2) ?_
    show Steps p.tables e below (s₁.setTop (mkF m 4 #[.val (.long q1), .second, .unset, .unset] [(.int (31 : Int32)), (.long q1), (.long q1)])) _
    refine XS.lushr X0.here hx rfl (hb hby d5_4) rfl ?_
    show Steps p.tables e below (s₁.setTop (mkF m 5 #[.val (.long q1), .second, .unset, .unset] [(.long ((q1.toUInt64 >>> ((31 : Int32) &&& 0x3f).toInt64.toUInt64).toInt64)), (.long q1)])) _
    refine XS.lxor X0.here hx rfl (hb hby d5_5) rfl ?_
    show Steps p.tables e below (s₁.setTop (mkF m 6 #[.val (.long q1), .second, .unset, .unset] [(.long (q1 ^^^ ((q1.toUInt64 >>> ((31 : Int32) &&& 0x3f).toInt64.toUInt64).toInt64)))])) _
    refine XS.lloadN X0.here hx rfl (hb hby d5_6) rfl ?_
    show Steps p.tables e below (s₁.setTop (mkF m 7 #[.val (.long q1), .second, .unset, .unset] [(.long q1), (.long (q1 ^^^ ((q1.toUInt64 >>> ((31 : Int32) &&& 0x3f).toInt64.toUInt64).toInt64)))])) _
    refine XS.bipush X0.here hx rfl (hb hby d5_7) ?_
    show Steps p.tables e below (s₁.setTop (mkF m 9 #[.val (.long q1), .second, .unset, .unset] [(.int (62 : Int32)), (.long q1), (.long (q1 ^^^ ((q1.toUInt64 >>> ((31 : Int32) &&& 0x3f).toInt64.toUInt64).toInt64)))])) _
    refine XS.lushr X0.here hx rfl (hb hby d5_9) rfl ?_
    show Steps p.tables e below (s₁.setTop (mkF m 10 #[.val (.long q1), .second, .unset, .unset] [(.long ((q1.toUInt64 >>> ((62 : Int32) &&& 0x3f).toInt64.toUInt64).toInt64)), (.long (q1 ^^^ ((q1.toUInt64 >>> ((31 : Int32) &&& 0x3f).toInt64.toUInt64).toInt64)))])) _
    refine XS.lxor X0.here hx rfl (hb hby d5_10) rfl ?_
    show Steps p.tables e below (s₁.setTop (mkF m 11 #[.val (.long q1), .second, .unset, .unset] [(.long ((q1 ^^^ ((q1.toUInt64 >>> ((31 : Int32) &&& 0x3f).toInt64.toUInt64).toInt64)) ^^^ ((q1.toUInt64 >>> ((62 : Int32) &&& 0x3f).toInt64.toUInt64).toInt64)))])) _
    refine XS.lstoreN X0.here hx rfl (hb hby d5_11) rfl (l' := #[.val (.long q1), .second, .val (.long ((q1 ^^^ ((q1.toUInt64 >>> ((31 : Int32) &&& 0x3f).toInt64.toUInt64).toInt64)) ^^^ ((q1.toUInt64 >>> ((62 : Int32) &&& 0x3f).toInt64.toUInt64).toInt64))), .second]) rfl ?_
    exact kz
  refine own_go (A := s₁.setTop (mkF m 12 #[.val (.long q1), .second, .val (.long (own_ux (31 : Int32) (62 : Int32) q1)), .second] [])) (fun _ kz => kz) ?_
  refine own_go (A := s₁.setTop (mkF m 16 #[.val (.long q1), .second, .val (.long (own_ux (31 : Int32) (62 : Int32) q1)), .second] [(.long (-7723592293110705685 : Int64)), (.long (own_ux (31 : Int32) (62 : Int32) q1))])) (fun _ kz => ?_) ?_
  · show Steps p.tables e below (s₁.setTop (mkF m 12 #[.val (.long q1), .second, .val (.long (own_ux (31 : Int32) (62 : Int32) q1)), .second] [])) _
    refine XS.lloadN X0.here hx rfl (hb hby d5_12) rfl ?_
    show Steps p.tables e below (s₁.setTop (mkF m 13 #[.val (.long q1), .second, .val (.long (own_ux (31 : Int32) (62 : Int32) q1)), .second] [(.long (own_ux (31 : Int32) (62 : Int32) q1))])) _
    refine X0.ldc2Long hx hown (mvT hZ (hw _ (List.mem_of_getElem? (i := 27) rfl))) (g := (mkF m 13 #[.val (.long q1), .second, .val (.long (own_ux (31 : Int32) (62 : Int32) q1)), .second] [(.long (own_ux (31 : Int32) (62 : Int32) q1))])) rfl (hb hby d5_13) _ ?_
    exact kz
  obtain ⟨_, _, ⟨T1, L1, k1, n1⟩, -, X1, ⟨Lc1, hQ1, l1, y1, z1⟩, st1⟩ := Jvm.LawKit.callS X0 hx (y := (⟨"com/example/quorumweight/quorumweight/model/SplitMix64NextPinLaw", "inverse", "(J)J"⟩ : MethodName)) hown (mvT hZ (hw _ (List.mem_of_getElem? (i := 28) rfl))) (mvT hZ (hw _ (List.mem_of_getElem? (i := 29) rfl))) (mvT hZ (hw _ (List.mem_of_getElem? (i := 25) rfl))) (mvT hZ (hw _ (List.mem_of_getElem? (i := 30) rfl))) (by decide) (backOf (W := 2) (rmInv l Z a0 hw [] (-7723592293110705685 : Int64) h0 n0 Z0) hZ (hw _ (List.mem_of_getElem? (i := 30) rfl)) (hw _ (List.mem_of_getElem? (i := 25) rfl)) (by decide) (by decide)) (g := (mkF m 16 #[.val (.long q1), .second, .val (.long (own_ux (31 : Int32) (62 : Int32) q1)), .second] [(.long (-7723592293110705685 : Int64)), (.long (own_ux (31 : Int32) (62 : Int32) q1))])) rfl (by rw [hml]; rfl) (argsL := [(.long (-7723592293110705685 : Int64))]) (rest := [(.long (own_ux (31 : Int32) (62 : Int32) q1))]) (lenOf own_pd0 rfl) rfl (by show 2 * 0 + _ ≤ _; exact Nat.le_of_eq rfl) (hb hby d5_16) (fun _ _ => ⟨rfl, e0, (by decide : 0 + 0 ≤ _), (by decide : 0 + 0 ≤ _)⟩)
  dsimp only [Pt.U, Pt.locs, Pt.cells, Pt.slots] at X1 l1 y1 z1 st1 hQ1
  subst l1 y1 z1
  obtain ⟨rfl, N1q, e1⟩ := hQ1
  have N1 := Fr.app N0 N1q
  refine own_go (A := T1.setTop (mkF m 19 #[.val (.long q1), .second, .val (.long (own_ux (31 : Int32) (62 : Int32) q1)), .second] [(.long (own_inv (-7723592293110705685 : Int64))), (.long (own_ux (31 : Int32) (62 : Int32) q1))])) (fun _ kz => st1 _ kz) ?_
  refine own_go (A := T1.setTop (mkF m 33 #[.val (.long q1), .second, .val (.long ((((own_ux (31 : Int32) (62 : Int32) q1) * (own_inv (-7723592293110705685 : Int64))) ^^^ ((((own_ux (31 : Int32) (62 : Int32) q1) * (own_inv (-7723592293110705685 : Int64))).toUInt64 >>> ((27 : Int32) &&& 0x3f).toInt64.toUInt64).toInt64)) ^^^ ((((own_ux (31 : Int32) (62 : Int32) q1) * (own_inv (-7723592293110705685 : Int64))).toUInt64 >>> ((54 : Int32) &&& 0x3f).toInt64.toUInt64).toInt64))), .second] [])) (fun _ kz => ?_) ?_
  · show Steps p.tables e below (T1.setTop (mkF m 19 #[.val (.long q1), .second, .val (.long (own_ux (31 : Int32) (62 : Int32) q1)), .second] [(.long (own_inv (-7723592293110705685 : Int64))), (.long (own_ux (31 : Int32) (62 : Int32) q1))])) _
    refine XS.lmul X1.here hx rfl (hb hby d5_19) rfl ?_
    show Steps p.tables e below (T1.setTop (mkF m 20 #[.val (.long q1), .second, .val (.long (own_ux (31 : Int32) (62 : Int32) q1)), .second] [(.long ((own_ux (31 : Int32) (62 : Int32) q1) * (own_inv (-7723592293110705685 : Int64))))])) _
    refine XS.lstoreN X1.here hx rfl (hb hby d5_20) rfl (l' := #[.val (.long q1), .second, .val (.long ((own_ux (31 : Int32) (62 : Int32) q1) * (own_inv (-7723592293110705685 : Int64)))), .second]) rfl ?_
    show Steps p.tables e below (T1.setTop (mkF m 21 #[.val (.long q1), .second, .val (.long ((own_ux (31 : Int32) (62 : Int32) q1) * (own_inv (-7723592293110705685 : Int64)))), .second] [])) _
    refine XS.lloadN X1.here hx rfl (hb hby d5_21) rfl ?_
    show Steps p.tables e below (T1.setTop (mkF m 22 #[.val (.long q1), .second, .val (.long ((own_ux (31 : Int32) (62 : Int32) q1) * (own_inv (-7723592293110705685 : Int64)))), .second] [(.long ((own_ux (31 : Int32) (62 : Int32) q1) * (own_inv (-7723592293110705685 : Int64))))])) _
    refine XS.lloadN X1.here hx rfl (hb hby d5_22) rfl ?_
    show Steps p.tables e below (T1.setTop (mkF m 23 #[.val (.long q1), .second, .val (.long ((own_ux (31 : Int32) (62 : Int32) q1) * (own_inv (-7723592293110705685 : Int64)))), .second] [(.long ((own_ux (31 : Int32) (62 : Int32) q1) * (own_inv (-7723592293110705685 : Int64)))), (.long ((own_ux (31 : Int32) (62 : Int32) q1) * (own_inv (-7723592293110705685 : Int64))))])) _
    refine XS.bipush X1.here hx rfl (hb hby d5_23) ?_
    show Steps p.tables e below (T1.setTop (mkF m 25 #[.val (.long q1), .second, .val (.long ((own_ux (31 : Int32) (62 : Int32) q1) * (own_inv (-7723592293110705685 : Int64)))), .second] [(.int (27 : Int32)), (.long ((own_ux (31 : Int32) (62 : Int32) q1) * (own_inv (-7723592293110705685 : Int64)))), (.long ((own_ux (31 : Int32) (62 : Int32) q1) * (own_inv (-7723592293110705685 : Int64))))])) _
    refine XS.lushr X1.here hx rfl (hb hby d5_25) rfl ?_
    show Steps p.tables e below (T1.setTop (mkF m 26 #[.val (.long q1), .second, .val (.long ((own_ux (31 : Int32) (62 : Int32) q1) * (own_inv (-7723592293110705685 : Int64)))), .second] [(.long ((((own_ux (31 : Int32) (62 : Int32) q1) * (own_inv (-7723592293110705685 : Int64))).toUInt64 >>> ((27 : Int32) &&& 0x3f).toInt64.toUInt64).toInt64)), (.long ((own_ux (31 : Int32) (62 : Int32) q1) * (own_inv (-7723592293110705685 : Int64))))])) _
    refine XS.lxor X1.here hx rfl (hb hby d5_26) rfl ?_
    show Steps p.tables e below (T1.setTop (mkF m 27 #[.val (.long q1), .second, .val (.long ((own_ux (31 : Int32) (62 : Int32) q1) * (own_inv (-7723592293110705685 : Int64)))), .second] [(.long (((own_ux (31 : Int32) (62 : Int32) q1) * (own_inv (-7723592293110705685 : Int64))) ^^^ ((((own_ux (31 : Int32) (62 : Int32) q1) * (own_inv (-7723592293110705685 : Int64))).toUInt64 >>> ((27 : Int32) &&& 0x3f).toInt64.toUInt64).toInt64)))])) _
    refine XS.lloadN X1.here hx rfl (hb hby d5_27) rfl ?_
    show Steps p.tables e below (T1.setTop (mkF m 28 #[.val (.long q1), .second, .val (.long ((own_ux (31 : Int32) (62 : Int32) q1) * (own_inv (-7723592293110705685 : Int64)))), .second] [(.long ((own_ux (31 : Int32) (62 : Int32) q1) * (own_inv (-7723592293110705685 : Int64)))), (.long (((own_ux (31 : Int32) (62 : Int32) q1) * (own_inv (-7723592293110705685 : Int64))) ^^^ ((((own_ux (31 : Int32) (62 : Int32) q1) * (own_inv (-7723592293110705685 : Int64))).toUInt64 >>> ((27 : Int32) &&& 0x3f).toInt64.toUInt64).toInt64)))])) _
    refine XS.bipush X1.here hx rfl (hb hby d5_28) ?_
    show Steps p.tables e below (T1.setTop (mkF m 30 #[.val (.long q1), .second, .val (.long ((own_ux (31 : Int32) (62 : Int32) q1) * (own_inv (-7723592293110705685 : Int64)))), .second] [(.int (54 : Int32)), (.long ((own_ux (31 : Int32) (62 : Int32) q1) * (own_inv (-7723592293110705685 : Int64)))), (.long (((own_ux (31 : Int32) (62 : Int32) q1) * (own_inv (-7723592293110705685 : Int64))) ^^^ ((((own_ux (31 : Int32) (62 : Int32) q1) * (own_inv (-7723592293110705685 : Int64))).toUInt64 >>> ((27 : Int32) &&& 0x3f).toInt64.toUInt64).toInt64)))])) _
    refine XS.lushr X1.here hx rfl (hb hby d5_30) rfl ?_
    show Steps p.tables e below (T1.setTop (mkF m 31 #[.val (.long q1), .second, .val (.long ((own_ux (31 : Int32) (62 : Int32) q1) * (own_inv (-7723592293110705685 : Int64)))), .second] [(.long ((((own_ux (31 : Int32) (62 : Int32) q1) * (own_inv (-7723592293110705685 : Int64))).toUInt64 >>> ((54 : Int32) &&& 0x3f).toInt64.toUInt64).toInt64)), (.long (((own_ux (31 : Int32) (62 : Int32) q1) * (own_inv (-7723592293110705685 : Int64))) ^^^ ((((own_ux (31 : Int32) (62 : Int32) q1) * (own_inv (-7723592293110705685 : Int64))).toUInt64 >>> ((27 : Int32) &&& 0x3f).toInt64.toUInt64).toInt64)))])) _
    refine XS.lxor X1.here hx rfl (hb hby d5_31) rfl ?_
    show Steps p.tables e below (T1.setTop (mkF m 32 #[.val (.long q1), .second, .val (.long ((own_ux (31 : Int32) (62 : Int32) q1) * (own_inv (-7723592293110705685 : Int64)))), .second] [(.long ((((own_ux (31 : Int32) (62 : Int32) q1) * (own_inv (-7723592293110705685 : Int64))) ^^^ ((((own_ux (31 : Int32) (62 : Int32) q1) * (own_inv (-7723592293110705685 : Int64))).toUInt64 >>> ((27 : Int32) &&& 0x3f).toInt64.toUInt64).toInt64)) ^^^ ((((own_ux (31 : Int32) (62 : Int32) q1) * (own_inv (-7723592293110705685 : Int64))).toUInt64 >>> ((54 : Int32) &&& 0x3f).toInt64.toUInt64).toInt64)))])) _
    refine XS.lstoreN X1.here hx rfl (hb hby d5_32) rfl (l' := #[.val (.long q1), .second, .val (.long ((((own_ux (31 : Int32) (62 : Int32) q1) * (own_inv (-7723592293110705685 : Int64))) ^^^ ((((own_ux (31 : Int32) (62 : Int32) q1) * (own_inv (-7723592293110705685 : Int64))).toUInt64 >>> ((27 : Int32) &&& 0x3f).toInt64.toUInt64).toInt64)) ^^^ ((((own_ux (31 : Int32) (62 : Int32) q1) * (own_inv (-7723592293110705685 : Int64))).toUInt64 >>> ((54 : Int32) &&& 0x3f).toInt64.toUInt64).toInt64))), .second]) rfl ?_
    exact kz
  refine own_go (A := T1.setTop (mkF m 33 #[.val (.long q1), .second, .val (.long (own_ux (27 : Int32) (54 : Int32) ((own_ux (31 : Int32) (62 : Int32) q1) * own_inv (-7723592293110705685 : Int64)))), .second] [])) (fun _ kz => kz) ?_
  refine own_go (A := T1.setTop (mkF m 37 #[.val (.long q1), .second, .val (.long (own_ux (27 : Int32) (54 : Int32) ((own_ux (31 : Int32) (62 : Int32) q1) * own_inv (-7723592293110705685 : Int64)))), .second] [(.long (-4658895280553007687 : Int64)), (.long (own_ux (27 : Int32) (54 : Int32) ((own_ux (31 : Int32) (62 : Int32) q1) * own_inv (-7723592293110705685 : Int64))))])) (fun _ kz => ?_) ?_
  · show Steps p.tables e below (T1.setTop (mkF m 33 #[.val (.long q1), .second, .val (.long (own_ux (27 : Int32) (54 : Int32) ((own_ux (31 : Int32) (62 : Int32) q1) * own_inv (-7723592293110705685 : Int64)))), .second] [])) _
    refine XS.lloadN X1.here hx rfl (hb hby d5_33) rfl ?_
    show Steps p.tables e below (T1.setTop (mkF m 34 #[.val (.long q1), .second, .val (.long (own_ux (27 : Int32) (54 : Int32) ((own_ux (31 : Int32) (62 : Int32) q1) * own_inv (-7723592293110705685 : Int64)))), .second] [(.long (own_ux (27 : Int32) (54 : Int32) ((own_ux (31 : Int32) (62 : Int32) q1) * own_inv (-7723592293110705685 : Int64))))])) _
    refine X1.ldc2Long hx hown (mvT hZ (hw _ (List.mem_of_getElem? (i := 32) rfl))) (g := (mkF m 34 #[.val (.long q1), .second, .val (.long (own_ux (27 : Int32) (54 : Int32) ((own_ux (31 : Int32) (62 : Int32) q1) * own_inv (-7723592293110705685 : Int64)))), .second] [(.long (own_ux (27 : Int32) (54 : Int32) ((own_ux (31 : Int32) (62 : Int32) q1) * own_inv (-7723592293110705685 : Int64))))])) rfl (hb hby d5_34) _ ?_
    exact kz
  obtain ⟨_, _, ⟨T2, L2, k2, n2⟩, -, X2, ⟨Lc2, hQ2, l2, y2, z2⟩, st2⟩ := Jvm.LawKit.callS X1 hx (y := (⟨"com/example/quorumweight/quorumweight/model/SplitMix64NextPinLaw", "inverse", "(J)J"⟩ : MethodName)) hown (mvT hZ (hw _ (List.mem_of_getElem? (i := 28) rfl))) (mvT hZ (hw _ (List.mem_of_getElem? (i := 29) rfl))) (mvT hZ (hw _ (List.mem_of_getElem? (i := 25) rfl))) (mvT hZ (hw _ (List.mem_of_getElem? (i := 30) rfl))) (by decide) (backOf (W := 2) (rmInv l Z a0 hw [] (-4658895280553007687 : Int64) h0 n0 Z0) hZ (hw _ (List.mem_of_getElem? (i := 30) rfl)) (hw _ (List.mem_of_getElem? (i := 25) rfl)) (by decide) (by decide)) (g := (mkF m 37 #[.val (.long q1), .second, .val (.long (own_ux (27 : Int32) (54 : Int32) ((own_ux (31 : Int32) (62 : Int32) q1) * own_inv (-7723592293110705685 : Int64)))), .second] [(.long (-4658895280553007687 : Int64)), (.long (own_ux (27 : Int32) (54 : Int32) ((own_ux (31 : Int32) (62 : Int32) q1) * own_inv (-7723592293110705685 : Int64))))])) rfl (by rw [hml]; rfl) (argsL := [(.long (-4658895280553007687 : Int64))]) (rest := [(.long (own_ux (27 : Int32) (54 : Int32) ((own_ux (31 : Int32) (62 : Int32) q1) * own_inv (-7723592293110705685 : Int64))))]) (lenOf own_pd0 rfl) rfl (by show 2 * 0 + _ ≤ _; exact Nat.le_of_eq rfl) (hb hby d5_37) (fun _ _ => ⟨rfl, e1, (by decide : 0 + 0 ≤ _), (by decide : 0 + 0 ≤ _)⟩)
  dsimp only [Pt.U, Pt.locs, Pt.cells, Pt.slots] at X2 l2 y2 z2 st2 hQ2
  subst l2 y2 z2
  obtain ⟨rfl, N2q, e2⟩ := hQ2
  have N2 := Fr.app N1 N2q
  refine own_go (A := T2.setTop (mkF m 40 #[.val (.long q1), .second, .val (.long (own_ux (27 : Int32) (54 : Int32) ((own_ux (31 : Int32) (62 : Int32) q1) * own_inv (-7723592293110705685 : Int64)))), .second] [(.long (own_inv (-4658895280553007687 : Int64))), (.long (own_ux (27 : Int32) (54 : Int32) ((own_ux (31 : Int32) (62 : Int32) q1) * own_inv (-7723592293110705685 : Int64))))])) (fun _ kz => st2 _ kz) ?_
  refine own_go (A := T2.setTop (mkF m 54 #[.val (.long q1), .second, .val (.long ((((own_ux (27 : Int32) (54 : Int32) ((own_ux (31 : Int32) (62 : Int32) q1) * own_inv (-7723592293110705685 : Int64))) * (own_inv (-4658895280553007687 : Int64))) ^^^ ((((own_ux (27 : Int32) (54 : Int32) ((own_ux (31 : Int32) (62 : Int32) q1) * own_inv (-7723592293110705685 : Int64))) * (own_inv (-4658895280553007687 : Int64))).toUInt64 >>> ((30 : Int32) &&& 0x3f).toInt64.toUInt64).toInt64)) ^^^ ((((own_ux (27 : Int32) (54 : Int32) ((own_ux (31 : Int32) (62 : Int32) q1) * own_inv (-7723592293110705685 : Int64))) * (own_inv (-4658895280553007687 : Int64))).toUInt64 >>> ((60 : Int32) &&& 0x3f).toInt64.toUInt64).toInt64))), .second] [])) (fun _ kz => ?_) ?_
  · show Steps p.tables e below (T2.setTop (mkF m 40 #[.val (.long q1), .second, .val (.long (own_ux (27 : Int32) (54 : Int32) ((own_ux (31 : Int32) (62 : Int32) q1) * own_inv (-7723592293110705685 : Int64)))), .second] [(.long (own_inv (-4658895280553007687 : Int64))), (.long (own_ux (27 : Int32) (54 : Int32) ((own_ux (31 : Int32) (62 : Int32) q1) * own_inv (-7723592293110705685 : Int64))))])) _
    refine XS.lmul X2.here hx rfl (hb hby d5_40) rfl ?_
    show Steps p.tables e below (T2.setTop (mkF m 41 #[.val (.long q1), .second, .val (.long (own_ux (27 : Int32) (54 : Int32) ((own_ux (31 : Int32) (62 : Int32) q1) * own_inv (-7723592293110705685 : Int64)))), .second] [(.long ((own_ux (27 : Int32) (54 : Int32) ((own_ux (31 : Int32) (62 : Int32) q1) * own_inv (-7723592293110705685 : Int64))) * (own_inv (-4658895280553007687 : Int64))))])) _
    refine XS.lstoreN X2.here hx rfl (hb hby d5_41) rfl (l' := #[.val (.long q1), .second, .val (.long ((own_ux (27 : Int32) (54 : Int32) ((own_ux (31 : Int32) (62 : Int32) q1) * own_inv (-7723592293110705685 : Int64))) * (own_inv (-4658895280553007687 : Int64)))), .second]) rfl ?_
    show Steps p.tables e below (T2.setTop (mkF m 42 #[.val (.long q1), .second, .val (.long ((own_ux (27 : Int32) (54 : Int32) ((own_ux (31 : Int32) (62 : Int32) q1) * own_inv (-7723592293110705685 : Int64))) * (own_inv (-4658895280553007687 : Int64)))), .second] [])) _
    refine XS.lloadN X2.here hx rfl (hb hby d5_42) rfl ?_
    show Steps p.tables e below (T2.setTop (mkF m 43 #[.val (.long q1), .second, .val (.long ((own_ux (27 : Int32) (54 : Int32) ((own_ux (31 : Int32) (62 : Int32) q1) * own_inv (-7723592293110705685 : Int64))) * (own_inv (-4658895280553007687 : Int64)))), .second] [(.long ((own_ux (27 : Int32) (54 : Int32) ((own_ux (31 : Int32) (62 : Int32) q1) * own_inv (-7723592293110705685 : Int64))) * (own_inv (-4658895280553007687 : Int64))))])) _
    refine XS.lloadN X2.here hx rfl (hb hby d5_43) rfl ?_
    show Steps p.tables e below (T2.setTop (mkF m 44 #[.val (.long q1), .second, .val (.long ((own_ux (27 : Int32) (54 : Int32) ((own_ux (31 : Int32) (62 : Int32) q1) * own_inv (-7723592293110705685 : Int64))) * (own_inv (-4658895280553007687 : Int64)))), .second] [(.long ((own_ux (27 : Int32) (54 : Int32) ((own_ux (31 : Int32) (62 : Int32) q1) * own_inv (-7723592293110705685 : Int64))) * (own_inv (-4658895280553007687 : Int64)))), (.long ((own_ux (27 : Int32) (54 : Int32) ((own_ux (31 : Int32) (62 : Int32) q1) * own_inv (-7723592293110705685 : Int64))) * (own_inv (-4658895280553007687 : Int64))))])) _
    refine XS.bipush X2.here hx rfl (hb hby d5_44) ?_
    show Steps p.tables e below (T2.setTop (mkF m 46 #[.val (.long q1), .second, .val (.long ((own_ux (27 : Int32) (54 : Int32) ((own_ux (31 : Int32) (62 : Int32) q1) * own_inv (-7723592293110705685 : Int64))) * (own_inv (-4658895280553007687 : Int64)))), .second] [(.int (30 : Int32)), (.long ((own_ux (27 : Int32) (54 : Int32) ((own_ux (31 : Int32) (62 : Int32) q1) * own_inv (-7723592293110705685 : Int64))) * (own_inv (-4658895280553007687 : Int64)))), (.long ((own_ux (27 : Int32) (54 : Int32) ((own_ux (31 : Int32) (62 : Int32) q1) * own_inv (-7723592293110705685 : Int64))) * (own_inv (-4658895280553007687 : Int64))))])) _
    refine XS.lushr X2.here hx rfl (hb hby d5_46) rfl ?_
    show Steps p.tables e below (T2.setTop (mkF m 47 #[.val (.long q1), .second, .val (.long ((own_ux (27 : Int32) (54 : Int32) ((own_ux (31 : Int32) (62 : Int32) q1) * own_inv (-7723592293110705685 : Int64))) * (own_inv (-4658895280553007687 : Int64)))), .second] [(.long ((((own_ux (27 : Int32) (54 : Int32) ((own_ux (31 : Int32) (62 : Int32) q1) * own_inv (-7723592293110705685 : Int64))) * (own_inv (-4658895280553007687 : Int64))).toUInt64 >>> ((30 : Int32) &&& 0x3f).toInt64.toUInt64).toInt64)), (.long ((own_ux (27 : Int32) (54 : Int32) ((own_ux (31 : Int32) (62 : Int32) q1) * own_inv (-7723592293110705685 : Int64))) * (own_inv (-4658895280553007687 : Int64))))])) _
    refine XS.lxor X2.here hx rfl (hb hby d5_47) rfl ?_
    show Steps p.tables e below (T2.setTop (mkF m 48 #[.val (.long q1), .second, .val (.long ((own_ux (27 : Int32) (54 : Int32) ((own_ux (31 : Int32) (62 : Int32) q1) * own_inv (-7723592293110705685 : Int64))) * (own_inv (-4658895280553007687 : Int64)))), .second] [(.long (((own_ux (27 : Int32) (54 : Int32) ((own_ux (31 : Int32) (62 : Int32) q1) * own_inv (-7723592293110705685 : Int64))) * (own_inv (-4658895280553007687 : Int64))) ^^^ ((((own_ux (27 : Int32) (54 : Int32) ((own_ux (31 : Int32) (62 : Int32) q1) * own_inv (-7723592293110705685 : Int64))) * (own_inv (-4658895280553007687 : Int64))).toUInt64 >>> ((30 : Int32) &&& 0x3f).toInt64.toUInt64).toInt64)))])) _
    refine XS.lloadN X2.here hx rfl (hb hby d5_48) rfl ?_
    show Steps p.tables e below (T2.setTop (mkF m 49 #[.val (.long q1), .second, .val (.long ((own_ux (27 : Int32) (54 : Int32) ((own_ux (31 : Int32) (62 : Int32) q1) * own_inv (-7723592293110705685 : Int64))) * (own_inv (-4658895280553007687 : Int64)))), .second] [(.long ((own_ux (27 : Int32) (54 : Int32) ((own_ux (31 : Int32) (62 : Int32) q1) * own_inv (-7723592293110705685 : Int64))) * (own_inv (-4658895280553007687 : Int64)))), (.long (((own_ux (27 : Int32) (54 : Int32) ((own_ux (31 : Int32) (62 : Int32) q1) * own_inv (-7723592293110705685 : Int64))) * (own_inv (-4658895280553007687 : Int64))) ^^^ ((((own_ux (27 : Int32) (54 : Int32) ((own_ux (31 : Int32) (62 : Int32) q1) * own_inv (-7723592293110705685 : Int64))) * (own_inv (-4658895280553007687 : Int64))).toUInt64 >>> ((30 : Int32) &&& 0x3f).toInt64.toUInt64).toInt64)))])) _
    refine XS.bipush X2.here hx rfl (hb hby d5_49) ?_
    show Steps p.tables e below (T2.setTop (mkF m 51 #[.val (.long q1), .second, .val (.long ((own_ux (27 : Int32) (54 : Int32) ((own_ux (31 : Int32) (62 : Int32) q1) * own_inv (-7723592293110705685 : Int64))) * (own_inv (-4658895280553007687 : Int64)))), .second] [(.int (60 : Int32)), (.long ((own_ux (27 : Int32) (54 : Int32) ((own_ux (31 : Int32) (62 : Int32) q1) * own_inv (-7723592293110705685 : Int64))) * (own_inv (-4658895280553007687 : Int64)))), (.long (((own_ux (27 : Int32) (54 : Int32) ((own_ux (31 : Int32) (62 : Int32) q1) * own_inv (-7723592293110705685 : Int64))) * (own_inv (-4658895280553007687 : Int64))) ^^^ ((((own_ux (27 : Int32) (54 : Int32) ((own_ux (31 : Int32) (62 : Int32) q1) * own_inv (-7723592293110705685 : Int64))) * (own_inv (-4658895280553007687 : Int64))).toUInt64 >>> ((30 : Int32) &&& 0x3f).toInt64.toUInt64).toInt64)))])) _
    refine XS.lushr X2.here hx rfl (hb hby d5_51) rfl ?_
    show Steps p.tables e below (T2.setTop (mkF m 52 #[.val (.long q1), .second, .val (.long ((own_ux (27 : Int32) (54 : Int32) ((own_ux (31 : Int32) (62 : Int32) q1) * own_inv (-7723592293110705685 : Int64))) * (own_inv (-4658895280553007687 : Int64)))), .second] [(.long ((((own_ux (27 : Int32) (54 : Int32) ((own_ux (31 : Int32) (62 : Int32) q1) * own_inv (-7723592293110705685 : Int64))) * (own_inv (-4658895280553007687 : Int64))).toUInt64 >>> ((60 : Int32) &&& 0x3f).toInt64.toUInt64).toInt64)), (.long (((own_ux (27 : Int32) (54 : Int32) ((own_ux (31 : Int32) (62 : Int32) q1) * own_inv (-7723592293110705685 : Int64))) * (own_inv (-4658895280553007687 : Int64))) ^^^ ((((own_ux (27 : Int32) (54 : Int32) ((own_ux (31 : Int32) (62 : Int32) q1) * own_inv (-7723592293110705685 : Int64))) * (own_inv (-4658895280553007687 : Int64))).toUInt64 >>> ((30 : Int32) &&& 0x3f).toInt64.toUInt64).toInt64)))])) _
    refine XS.lxor X2.here hx rfl (hb hby d5_52) rfl ?_
    show Steps p.tables e below (T2.setTop (mkF m 53 #[.val (.long q1), .second, .val (.long ((own_ux (27 : Int32) (54 : Int32) ((own_ux (31 : Int32) (62 : Int32) q1) * own_inv (-7723592293110705685 : Int64))) * (own_inv (-4658895280553007687 : Int64)))), .second] [(.long ((((own_ux (27 : Int32) (54 : Int32) ((own_ux (31 : Int32) (62 : Int32) q1) * own_inv (-7723592293110705685 : Int64))) * (own_inv (-4658895280553007687 : Int64))) ^^^ ((((own_ux (27 : Int32) (54 : Int32) ((own_ux (31 : Int32) (62 : Int32) q1) * own_inv (-7723592293110705685 : Int64))) * (own_inv (-4658895280553007687 : Int64))).toUInt64 >>> ((30 : Int32) &&& 0x3f).toInt64.toUInt64).toInt64)) ^^^ ((((own_ux (27 : Int32) (54 : Int32) ((own_ux (31 : Int32) (62 : Int32) q1) * own_inv (-7723592293110705685 : Int64))) * (own_inv (-4658895280553007687 : Int64))).toUInt64 >>> ((60 : Int32) &&& 0x3f).toInt64.toUInt64).toInt64)))])) _
    refine XS.lstoreN X2.here hx rfl (hb hby d5_53) rfl (l' := #[.val (.long q1), .second, .val (.long ((((own_ux (27 : Int32) (54 : Int32) ((own_ux (31 : Int32) (62 : Int32) q1) * own_inv (-7723592293110705685 : Int64))) * (own_inv (-4658895280553007687 : Int64))) ^^^ ((((own_ux (27 : Int32) (54 : Int32) ((own_ux (31 : Int32) (62 : Int32) q1) * own_inv (-7723592293110705685 : Int64))) * (own_inv (-4658895280553007687 : Int64))).toUInt64 >>> ((30 : Int32) &&& 0x3f).toInt64.toUInt64).toInt64)) ^^^ ((((own_ux (27 : Int32) (54 : Int32) ((own_ux (31 : Int32) (62 : Int32) q1) * own_inv (-7723592293110705685 : Int64))) * (own_inv (-4658895280553007687 : Int64))).toUInt64 >>> ((60 : Int32) &&& 0x3f).toInt64.toUInt64).toInt64))), .second]) rfl ?_
    exact kz
  refine own_go (A := T2.setTop (mkF m 54 #[.val (.long q1), .second, .val (.long (own_unmix q1)), .second] [])) (fun _ kz => kz) ?_
  refine own_go (A := T2.setTop (mkF m 55 #[.val (.long q1), .second, .val (.long (own_unmix q1)), .second] [(.long (own_unmix q1))])) (fun _ kz => ?_) ?_
  · show Steps p.tables e below (T2.setTop (mkF m 54 #[.val (.long q1), .second, .val (.long (own_unmix q1)), .second] [])) _
    refine XS.lloadN X2.here hx rfl (hb hby d5_54) rfl ?_
    exact kz
  obtain ⟨fs, hrr, hrun, hended, hW, hsame⟩ := X2.leave (v := some (.long (own_unmix q1))) (fun h => by rw [Bd.returns] at h; cases h)
  refine ⟨_, _, ?_, hrun, hended, _, _, rfl, ?_, ⟨_, rfl⟩, hW, hsame.mono (by decide) (by decide)⟩
  · show Steps p.tables e below (T2.setTop (mkF m 55 #[.val (.long q1), .second, .val (.long (own_unmix q1)), .second] [(.long (own_unmix q1))])) _
    exact retOut X2 hx (t := .long) Bd.returns rfl (Or.inr (Or.inl ⟨rfl, rfl, _, rfl⟩)) (hb hby d5_55) hrr
  · show QrmUn Z q1 h0 n0 _ T2.heap _
    rw [e2]
    exact ⟨rfl, N2, rfl⟩
theorem d3_0 : decode prog_51_method_3_code 0 = .ok (.aload_n 0, 1) := by decide +kernel
theorem d3_1 : decode prog_51_method_3_code 1 = .ok (.dup, 1) := by decide +kernel
theorem d3_2 : decode prog_51_method_3_code 2 = .ok (.getfield 7, 3) := by decide +kernel
theorem d3_5 : decode prog_51_method_3_code 5 = .ok (.ldc2_w 13, 3) := by decide +kernel
theorem d3_8 : decode prog_51_method_3_code 8 = .ok (.ladd, 1) := by decide +kernel
theorem d3_9 : decode prog_51_method_3_code 9 = .ok (.putfield 7, 3) := by decide +kernel
theorem d3_12 : decode prog_51_method_3_code 12 = .ok (.aload_n 0, 1) := by decide +kernel
theorem d3_13 : decode prog_51_method_3_code 13 = .ok (.getfield 7, 3) := by decide +kernel
theorem d3_16 : decode prog_51_method_3_code 16 = .ok (.invokestatic 15, 3) := by decide +kernel
theorem d3_19 : decode prog_51_method_3_code 19 = .ok (.lreturn, 1) := by decide +kernel
theorem own_pn3 : plainName "com/example/quorumweight/quorumweight/model/SplitMix64" = true := by first | (simp [plainName, overriddenIn]; done) | decide +kernel
theorem own_ef3 (m : MethodId) (x0 : Addr) : entryFrame m #[(.ref x0)] 1 = mkF m 0 #[.val (.ref x0)] [] := by first | (simp [entryFrame, mkF, argsToLocals, Value.category]; done) | rfl
def QrmNext (Z : State) (a : Addr) (q1 : Int64) (h0 : Heap) (n0 : Nat) (v : Option Value) (h : Heap) (L : List Loc) : Prop := v = some (.long (own_mix (q1 + (-7046029254386353131 : Int64)))) ∧ Fr n0 L ∧ Keep h0 h [a] ∧ Exa Z h a "com/example/quorumweight/quorumweight/model/SplitMix64" ∧ Fld Z h a "com/example/quorumweight/quorumweight/model/SplitMix64" "state" "J" (.long (q1 + (-7046029254386353131 : Int64)))
set_option maxRecDepth 65536 in
set_option maxHeartbeats 40000000 in
theorem rmNext (l : Launch) (Z : State) (a0 : Array Value) (hw : ∀ d ∈ tables_1, d.before a0 Z = true) (ws : List Jvm.Cond) (a : Addr) (q1 : Int64) (h0 : Heap) (n0 : Nat) (Z0 : n0 ≤ h0.size) (Ex : Exa Z h0 a "com/example/quorumweight/quorumweight/model/SplitMix64") (Fs : Fld Z h0 a "com/example/quorumweight/quorumweight/model/SplitMix64" "state" "J" (.long q1)) (g_a : n0 ≤ a) :
    MetFree l (⟨"com/example/quorumweight/quorumweight/model/SplitMix64", "next", "()J"⟩ : MethodName) (head1 (Jvm.Cond.code (⟨"com/example/quorumweight/quorumweight/model/SplitMix64", "next", "()J"⟩ : MethodName) prog_51_method_3_code 1 (some .long) :: ws) ({ frames := 1, cells := 0, slots := 0, locals := 15 } : Room)) (fun ar_ U_ => ar_ = #[(.ref a)] ∧ Z.Warmed39 U_.vm ∧ U_.heap = h0) (fun _ _ _ _ _ => True) (fun _ U_ ou_ V_ => ∃ v_ L_, ou_ = .returned v_ ∧ QrmNext Z a q1 h0 n0 v_ V_.heap L_ ∧ FrameEnd U_ ou_ V_ L_ ({ frames := 1, cells := 0, slots := 0, locals := 15 } : Room).cells ({ frames := 1, cells := 0, slots := 0, locals := 15 } : Room).slots) := by
  refine MetFree.of_bodySF (plainFor_of_name own_pn3) hisR ?_
  intro p e s m args below meth c s₁ Bd hml0 hP hK
  obtain ⟨rfl, hZ, hh⟩ := hP
  have hx := Bd.exec
  have hby := Bd.bytes
  have hml : c.maxLocals = 1 := hml0
  have hown : s.vm.findClass "com/example/quorumweight/quorumweight/model/SplitMix64" = some m.cls := findClass_of_methodNamed Bd.named
  have hnm := (name_of_methodNamed Bd.named Bd.method).1
  have X0 : Stand p l e ({ frames := 1, cells := 0, slots := 0, locals := 15 } : Room) s m #[(.ref a)] below meth c s₁ [] 0 0 := Stand.of_body Bd
  have e0 : s₁.heap = h0 := by rw [← hh, Bd.state]; rfl
  have N0 := Fr.nil n0
  have Kp0 : Keep h0 h0 [a] := Keep.refl h0 _
  refine own_go (A := s₁.setTop (mkF m 0 #[.val (.ref a)] [])) (fun t kz => castTop (own_ef3 m a) kz) ?_
  refine own_go (A := s₁.setTop (mkF m 2 #[.val (.ref a)] [(.ref a), (.ref a)])) (fun _ kz => ?_) ?_
  · show Steps p.tables e below (s₁.setTop (mkF m 0 #[.val (.ref a)] [])) _
    refine XS.aloadN X0.here hx rfl (hb hby d3_0) rfl rfl ?_
    show Steps p.tables e below (s₁.setTop (mkF m 1 #[.val (.ref a)] [(.ref a)])) _
    refine XS.dup X0.here hx rfl (hb hby d3_1) rfl rfl ?_
    exact kz
  obtain ⟨T1, X1, e1, st1⟩ := getF X0 hx hZ hown (host := "") (Or.inl (hw _ (List.mem_of_getElem? (i := 9) rfl))) Via.refl e0 Fs (g := (mkF m 2 #[.val (.ref a)] [(.ref a), (.ref a)])) rfl rfl (hb hby d3_2)
  refine own_go (A := T1.setTop (mkF m 5 #[.val (.ref a)] [(.long q1), (.ref a)])) (fun _ kz => st1 _ kz) ?_
  refine own_go (A := T1.setTop (mkF m 9 #[.val (.ref a)] [(.long (q1 + (-7046029254386353131 : Int64))), (.ref a)])) (fun _ kz => ?_) ?_
  · show Steps p.tables e below (T1.setTop (mkF m 5 #[.val (.ref a)] [(.long q1), (.ref a)])) _
    refine X1.ldc2Long hx hown (mvT hZ (hw _ (List.mem_of_getElem? (i := 16) rfl))) (g := (mkF m 5 #[.val (.ref a)] [(.long q1), (.ref a)])) rfl (hb hby d3_5) _ ?_
    show Steps p.tables e below (T1.setTop (mkF m 8 #[.val (.ref a)] [(.long (-7046029254386353131 : Int64)), (.long q1), (.ref a)])) _
    refine XS.ladd X1.here hx rfl (hb hby d3_8) rfl ?_
    exact kz
  obtain ⟨T2, h2, X2, e2, W2, st2⟩ := putF X1 hx hZ hown (host := "") (Or.inl (hw _ (List.mem_of_getElem? (i := 9) rfl))) Via.refl e1 Fs Ex (Or.inl (hw _ (List.mem_of_getElem? (i := 10) rfl))) (hw _ (List.mem_of_getElem? (i := 1) rfl)) (ty := .long) (by decide) rfl rfl (g := (mkF m 9 #[.val (.ref a)] [(.long (q1 + (-7046029254386353131 : Int64))), (.ref a)])) rfl rfl (hb hby d3_9)
  have Fw2 := Fs.same W2
  replace Ex := Ex.wr W2
  have Z2 : n0 ≤ h2.size := Nat.le_trans Z0 (Keep.of_wr W2).1
  have Kp2 : Keep h0 h2 [a] := Kp0.wr W2 (Or.inl (List.mem_of_getElem? (i := 0) rfl))
  have F_state_a := Fw2
  have N2 := Fr.snoc X2 N0 g_a
  refine own_go (A := T2.setTop (mkF m 12 #[.val (.ref a)] [])) (fun _ kz => st2 _ kz) ?_
  refine own_go (A := T2.setTop (mkF m 13 #[.val (.ref a)] [(.ref a)])) (fun _ kz => ?_) ?_
  · show Steps p.tables e below (T2.setTop (mkF m 12 #[.val (.ref a)] [])) _
    refine XS.aloadN X2.here hx rfl (hb hby d3_12) rfl rfl ?_
    exact kz
  obtain ⟨T3, X3, e3, st3⟩ := getF X2 hx hZ hown (host := "") (Or.inl (hw _ (List.mem_of_getElem? (i := 9) rfl))) Via.refl e2 F_state_a (g := (mkF m 13 #[.val (.ref a)] [(.ref a)])) rfl rfl (hb hby d3_13)
  refine own_go (A := T3.setTop (mkF m 16 #[.val (.ref a)] [(.long (q1 + (-7046029254386353131 : Int64)))])) (fun _ kz => st3 _ kz) ?_
  obtain ⟨_, _, ⟨T4, L4, k4, n4⟩, -, X4, ⟨Lc4, hQ4, l4, y4, z4⟩, st4⟩ := Jvm.LawKit.callS X3 hx (y := (⟨"com/example/quorumweight/quorumweight/model/SplitMix64", "mix", "(J)J"⟩ : MethodName)) hown (mvT hZ (hw _ (List.mem_of_getElem? (i := 17) rfl))) (mvT hZ (hw _ (List.mem_of_getElem? (i := 18) rfl))) (mvT hZ (hw _ (List.mem_of_getElem? (i := 2) rfl))) (mvT hZ (hw _ (List.mem_of_getElem? (i := 19) rfl))) (by decide) (backOf (W := 0) (rmMix l Z a0 hw [] (q1 + (-7046029254386353131 : Int64)) h2 n0 Z2) hZ (hw _ (List.mem_of_getElem? (i := 19) rfl)) (hw _ (List.mem_of_getElem? (i := 2) rfl)) (by decide) (by decide)) (g := (mkF m 16 #[.val (.ref a)] [(.long (q1 + (-7046029254386353131 : Int64)))])) rfl (by rw [hml]; rfl) (argsL := [(.long (q1 + (-7046029254386353131 : Int64)))]) (rest := []) (lenOf own_pd0 rfl) rfl (by show 2 * 0 + _ ≤ _; exact Nat.le_of_eq rfl) (hb hby d3_16) (fun _ _ => ⟨rfl, e3, (by decide : 0 + 0 ≤ _), (by decide : 0 + 0 ≤ _)⟩)
  dsimp only [Pt.U, Pt.locs, Pt.cells, Pt.slots] at X4 l4 y4 z4 st4 hQ4
  subst l4 y4 z4
  obtain ⟨rfl, N4q, e4⟩ := hQ4
  have N4 := Fr.app N2 N4q
  refine own_go (A := T4.setTop (mkF m 19 #[.val (.ref a)] [(.long (own_mix (q1 + (-7046029254386353131 : Int64))))])) (fun _ kz => st4 _ kz) ?_
  obtain ⟨fs, hrr, hrun, hended, hW, hsame⟩ := X4.leave (v := some (.long (own_mix (q1 + (-7046029254386353131 : Int64))))) (fun h => by rw [Bd.returns] at h; cases h)
  refine ⟨_, _, ?_, hrun, hended, _, _, rfl, ?_, ⟨_, rfl⟩, hW, hsame.mono (by decide) (by decide)⟩
  · show Steps p.tables e below (T4.setTop (mkF m 19 #[.val (.ref a)] [(.long (own_mix (q1 + (-7046029254386353131 : Int64))))])) _
    exact retOut X4 hx (t := .long) Bd.returns rfl (Or.inr (Or.inl ⟨rfl, rfl, _, rfl⟩)) (hb hby d3_19) hrr
  · show QrmNext Z a q1 h0 n0 _ T4.heap _
    rw [e4]
    exact ⟨rfl, N4, Kp2, Ex, F_state_a⟩
theorem d1_0 : decode prog_51_method_1_code 0 = .ok (.aload_n 0, 1) := by decide +kernel
theorem d1_1 : decode prog_51_method_1_code 1 = .ok (.invokespecial 1, 3) := by decide +kernel
theorem d1_4 : decode prog_51_method_1_code 4 = .ok (.aload_n 0, 1) := by decide +kernel
theorem d1_5 : decode prog_51_method_1_code 5 = .ok (.lload_n 1, 1) := by decide +kernel
theorem d1_6 : decode prog_51_method_1_code 6 = .ok (.putfield 7, 3) := by decide +kernel
theorem d1_9 : decode prog_51_method_1_code 9 = .ok (.return_, 1) := by decide +kernel
theorem own_pn1 : plainName "com/example/quorumweight/quorumweight/model/SplitMix64" = true := by first | (simp [plainName, overriddenIn]; done) | decide +kernel
theorem own_ef1 (m : MethodId) (x0 : Addr) (x1 : Int64) : entryFrame m #[(.ref x0), (.long x1)] 3 = mkF m 0 #[.val (.ref x0), .val (.long x1), .second] [] := by first | (simp [entryFrame, mkF, argsToLocals, Value.category]; done) | rfl
def QrmInit (Z : State) (a : Addr) (q1 : Int64) (h0 : Heap) (n0 : Nat) (v : Option Value) (h : Heap) (L : List Loc) : Prop := v = none ∧ Fr n0 L ∧ Keep h0 h [a] ∧ Exa Z h a "com/example/quorumweight/quorumweight/model/SplitMix64" ∧ Fld Z h a "com/example/quorumweight/quorumweight/model/SplitMix64" "state" "J" (.long q1)
set_option maxRecDepth 65536 in
set_option maxHeartbeats 40000000 in
theorem rmInit (l : Launch) (Z : State) (a0 : Array Value) (hw : ∀ d ∈ tables_1, d.before a0 Z = true) (ws : List Jvm.Cond) (a : Addr) (q1 : Int64) (h0 : Heap) (n0 : Nat) (Z0 : n0 ≤ h0.size) (Ex : Exa Z h0 a "com/example/quorumweight/quorumweight/model/SplitMix64") (Fs : Fld Z h0 a "com/example/quorumweight/quorumweight/model/SplitMix64" "state" "J" (.long (0 : Int64))) (g_a : n0 ≤ a) :
    MetFree l (⟨"com/example/quorumweight/quorumweight/model/SplitMix64", "<init>", "(J)V"⟩ : MethodName) (head1 (Jvm.Cond.code (⟨"com/example/quorumweight/quorumweight/model/SplitMix64", "<init>", "(J)V"⟩ : MethodName) prog_51_method_1_code 3 none :: ws) ({ frames := 1, cells := 0, slots := 0, locals := 12 } : Room)) (fun ar_ U_ => ar_ = #[(.ref a), (.long q1)] ∧ Z.Warmed39 U_.vm ∧ U_.heap = h0) (fun _ _ _ _ _ => True) (fun _ U_ ou_ V_ => ∃ v_ L_, ou_ = .returned v_ ∧ QrmInit Z a q1 h0 n0 v_ V_.heap L_ ∧ FrameEnd U_ ou_ V_ L_ ({ frames := 1, cells := 0, slots := 0, locals := 12 } : Room).cells ({ frames := 1, cells := 0, slots := 0, locals := 12 } : Room).slots) := by
  refine MetFree.of_bodySF (plainFor_of_name own_pn1) hisR ?_
  intro p e s m args below meth c s₁ Bd hml0 hP hK
  obtain ⟨rfl, hZ, hh⟩ := hP
  have hx := Bd.exec
  have hby := Bd.bytes
  have hml : c.maxLocals = 3 := hml0
  have hown : s.vm.findClass "com/example/quorumweight/quorumweight/model/SplitMix64" = some m.cls := findClass_of_methodNamed Bd.named
  have hnm := (name_of_methodNamed Bd.named Bd.method).1
  have X0 : Stand p l e ({ frames := 1, cells := 0, slots := 0, locals := 12 } : Room) s m #[(.ref a), (.long q1)] below meth c s₁ [] 0 0 := Stand.of_body Bd
  have e0 : s₁.heap = h0 := by rw [← hh, Bd.state]; rfl
  have N0 := Fr.nil n0
  have Kp0 : Keep h0 h0 [a] := Keep.refl h0 _
  refine own_go (A := s₁.setTop (mkF m 0 #[.val (.ref a), .val (.long q1), .second] [])) (fun t kz => castTop (own_ef1 m a q1) kz) ?_
  refine own_go (A := s₁.setTop (mkF m 1 #[.val (.ref a), .val (.long q1), .second] [(.ref a)])) (fun _ kz => ?_) ?_
  · show Steps p.tables e below (s₁.setTop (mkF m 0 #[.val (.ref a), .val (.long q1), .second] [])) _
    refine XS.aloadN X0.here hx rfl (hb hby d1_0) rfl rfl ?_
    exact kz
  obtain ⟨T1, X1, e1, st1⟩ := initO X0 hx hZ hown (hw _ (List.mem_of_getElem? (i := 6) rfl)) (hw _ (List.mem_of_getElem? (i := 7) rfl)) (hw _ (List.mem_of_getElem? (i := 8) rfl)) e0 (g := (mkF m 1 #[.val (.ref a), .val (.long q1), .second] [(.ref a)])) rfl (by rw [hml]; rfl) rfl (hb hby d1_1) (by decide) (W := 0) (by show 2 * 0 + _ ≤ _; exact Nat.le_of_eq rfl) (by decide)
  refine own_go (A := T1.setTop (mkF m 4 #[.val (.ref a), .val (.long q1), .second] [])) (fun _ kz => st1 _ kz) ?_
  refine own_go (A := T1.setTop (mkF m 6 #[.val (.ref a), .val (.long q1), .second] [(.long q1), (.ref a)])) (fun _ kz => ?_) ?_
  · show Steps p.tables e below (T1.setTop (mkF m 4 #[.val (.ref a), .val (.long q1), .second] [])) _
    refine XS.aloadN X1.here hx rfl (hb hby d1_4) rfl rfl ?_
    show Steps p.tables e below (T1.setTop (mkF m 5 #[.val (.ref a), .val (.long q1), .second] [(.ref a)])) _
    refine XS.lloadN X1.here hx rfl (hb hby d1_5) rfl ?_
    exact kz
  obtain ⟨T2, h2, X2, e2, W2, st2⟩ := putF X1 hx hZ hown (host := "") (Or.inl (hw _ (List.mem_of_getElem? (i := 9) rfl))) Via.refl e1 Fs Ex (Or.inl (hw _ (List.mem_of_getElem? (i := 10) rfl))) (hw _ (List.mem_of_getElem? (i := 1) rfl)) (ty := .long) (by decide) rfl rfl (g := (mkF m 6 #[.val (.ref a), .val (.long q1), .second] [(.long q1), (.ref a)])) rfl rfl (hb hby d1_6)
  have Fw2 := Fs.same W2
  replace Ex := Ex.wr W2
  have Z2 : n0 ≤ h2.size := Nat.le_trans Z0 (Keep.of_wr W2).1
  have Kp2 : Keep h0 h2 [a] := Kp0.wr W2 (Or.inl (List.mem_of_getElem? (i := 0) rfl))
  have F_state_a := Fw2
  have N2 := Fr.snoc X2 N0 g_a
  refine own_go (A := T2.setTop (mkF m 9 #[.val (.ref a), .val (.long q1), .second] [])) (fun _ kz => st2 _ kz) ?_
  obtain ⟨fs, hrr, hrun, hended, hW, hsame⟩ := X2.leave (v := none) (fun _ => rfl)
  refine ⟨_, _, ?_, hrun, hended, _, _, rfl, ?_, ⟨_, rfl⟩, hW, hsame.mono (by decide) (by decide)⟩
  · show Steps p.tables e below (T2.setTop (mkF m 9 #[.val (.ref a), .val (.long q1), .second] [])) _
    exact X2.returnOut hx Bd.returns (hb hby d1_9) hrr
  · show QrmInit Z a q1 h0 n0 _ T2.heap _
    rw [e2]
    exact ⟨rfl, N2, Kp2, Ex, F_state_a⟩
theorem own_pn0 : plainName "com/example/quorumweight/quorumweight/model/SplitMix64NextPinLaw" = true := by first | (simp [plainName, overriddenIn]; done) | decide +kernel
theorem own_ef0 (m : MethodId) (x0 : Int64) : entryFrame m #[(.long x0)] maxLocals = mkF m 0 #[.val (.long x0), .second, .unset, .unset, .unset, .unset, .unset, .unset, .unset] [] := by first | (simp [entryFrame, mkF, argsToLocals, Value.category, maxLocals]; done) | rfl
def Qrm0 (Z : State) (q1 : Int64) (h0 : Heap) (n0 : Nat) (v : Option Value) (h : Heap) (L : List Loc) : Prop := v = some (.int 1) ∧ Fr n0 L
set_option maxRecDepth 65536 in
set_option maxHeartbeats 40000000 in
theorem rm0 (l : Launch) (Z : State) (a0 : Array Value) (hw : ∀ d ∈ tables_1, d.before a0 Z = true) (ws : List Jvm.Cond) (q1 : Int64) (h0 : Heap) (n0 : Nat) (Z0 : n0 ≤ h0.size)  :
    MetFree l x (head1 (Jvm.Cond.code x code maxLocals ret :: ws) room_1) (fun ar_ U_ => ar_ = #[(.long q1)] ∧ Z.Warmed39 U_.vm ∧ U_.heap = h0) (fun _ _ _ _ _ => True) (fun _ U_ ou_ V_ => ∃ v_ L_, ou_ = .returned v_ ∧ Qrm0 Z q1 h0 n0 v_ V_.heap L_ ∧ FrameEnd U_ ou_ V_ L_ room_1.cells room_1.slots) := by
  refine MetFree.of_bodySF (plainFor_of_name own_pn0) hisR ?_
  intro p e s m args below meth c s₁ Bd hml0 hP hK
  obtain ⟨rfl, hZ, hh⟩ := hP
  have hx := Bd.exec
  have hby := Bd.bytes
  have hml : c.maxLocals = 9 := hml0
  have hown : s.vm.findClass "com/example/quorumweight/quorumweight/model/SplitMix64NextPinLaw" = some m.cls := findClass_of_methodNamed Bd.named
  have hnm := (name_of_methodNamed Bd.named Bd.method).1
  have X0 : Stand p l e room_1 s m #[(.long q1)] below meth c s₁ [] 0 0 := Stand.of_body Bd
  have e0 : s₁.heap = h0 := by rw [← hh, Bd.state]; rfl
  have N0 := Fr.nil n0
  refine own_go (A := s₁.setTop (mkF m 0 #[.val (.long q1), .second, .unset, .unset, .unset, .unset, .unset, .unset, .unset] [])) (fun t kz => castTop (own_ef0 m q1) kz) ?_
  obtain ⟨T1, h1, X1, e1, E1, A1, D1, -, st1⟩ := newO X0 hx hZ hown (hw _ (List.mem_of_getElem? (i := 0) rfl)) (hw _ (List.mem_of_getElem? (i := 1) rfl)) (hw _ (List.mem_of_getElem? (i := 2) rfl)) e0 (g := (mkF m 0 #[.val (.long q1), .second, .unset, .unset, .unset, .unset, .unset, .unset, .unset] [])) rfl (hb hby at_0) (by decide) (by decide)
  obtain ⟨b1, gq1⟩ : ∃ z, z = h0.size := ⟨_, rfl⟩
  rw [← gq1] at A1 D1 st1
  have g_b1 : n0 ≤ b1 := Nat.le_trans Z0 (Nat.le_of_eq gq1.symm)
  have Z1 : n0 ≤ h1.size := Nat.le_trans Z0 E1.1
  have Ex_b1 := A1
  have F_state_b1 : Fld Z h1 b1 "com/example/quorumweight/quorumweight/model/SplitMix64" "state" "J" (.long (0 : Int64)) := D1 (Or.inl (hw _ (List.mem_of_getElem? (i := 10) rfl))) (ty := .long) (by decide)
  refine own_go (A := T1.setTop (mkF m 3 #[.val (.long q1), .second, .unset, .unset, .unset, .unset, .unset, .unset, .unset] [(.ref b1)])) (fun _ kz => st1 _ kz) ?_
  refine own_go (A := T1.setTop (mkF m 5 #[.val (.long q1), .second, .unset, .unset, .unset, .unset, .unset, .unset, .unset] [(.long q1), (.ref b1), (.ref b1)])) (fun _ kz => ?_) ?_
  · show Steps p.tables e below (T1.setTop (mkF m 3 #[.val (.long q1), .second, .unset, .unset, .unset, .unset, .unset, .unset, .unset] [(.ref b1)])) _
    refine XS.dup X1.here hx rfl (hb hby at_3) rfl rfl ?_
    show Steps p.tables e below (T1.setTop (mkF m 4 #[.val (.long q1), .second, .unset, .unset, .unset, .unset, .unset, .unset, .unset] [(.ref b1), (.ref b1)])) _
    refine XS.lloadN X1.here hx rfl (hb hby at_4) rfl ?_
    exact kz
  obtain ⟨_, _, ⟨T2, L2, k2, n2⟩, -, X2, ⟨Lc2, hQ2, l2, y2, z2⟩, st2⟩ := X1.specialBack hx (y := (⟨"com/example/quorumweight/quorumweight/model/SplitMix64", "<init>", "(J)V"⟩ : MethodName)) rfl hown (mvT hZ (hw _ (List.mem_of_getElem? (i := 3) rfl))) (mvT hZ (hw _ (List.mem_of_getElem? (i := 4) rfl))) (mvT hZ (hw _ (List.mem_of_getElem? (i := 5) rfl))) (by decide) (backOf (W := 1) (rmInit l Z a0 hw [] b1 q1 h1 n0 Z1 Ex_b1 F_state_b1 g_b1) hZ (hw _ (List.mem_of_getElem? (i := 5) rfl)) (hw _ (List.mem_of_getElem? (i := 2) rfl)) (by decide) (by decide)) (g := (mkF m 5 #[.val (.long q1), .second, .unset, .unset, .unset, .unset, .unset, .unset, .unset] [(.long q1), (.ref b1), (.ref b1)])) rfl (by rw [hml]; rfl) (Steps.refl _) (a := b1) (argsL := [(.long q1)]) (rest := [(.ref b1)]) (lenOf own_pd1 rfl) rfl (by show 2 * 0 + _ ≤ _; exact Nat.le_of_eq rfl) (hb hby at_5) (fun _ _ => ⟨rfl, e1, (by decide : 1 + 0 ≤ _), (by decide : 1 + 0 ≤ _)⟩)
  dsimp only [Pt.U, Pt.locs, Pt.cells, Pt.slots] at X2 l2 y2 z2 st2 hQ2
  subst l2 y2 z2
  obtain ⟨rfl, N2q, K2q, _, Fq2⟩ := hQ2
  have N2 := Fr.app N0 N2q
  replace Ex_b1 := Ex_b1.keep K2q
  have Z2 : n0 ≤ T2.heap.size := Nat.le_trans Z1 K2q.1
  refine own_go (A := T2.setTop (mkF m 8 #[.val (.long q1), .second, .unset, .unset, .unset, .unset, .unset, .unset, .unset] [(.ref b1)])) (fun _ kz => st2.trans kz) ?_
  refine own_go (A := T2.setTop (mkF m 10 #[.val (.long q1), .second, .val (.ref b1), .unset, .unset, .unset, .unset, .unset, .unset] [(.ref b1)])) (fun _ kz => ?_) ?_
  · show Steps p.tables e below (T2.setTop (mkF m 8 #[.val (.long q1), .second, .unset, .unset, .unset, .unset, .unset, .unset, .unset] [(.ref b1)])) _
    refine XS.astoreN X2.here hx rfl (hb hby at_8) rfl rfl (l' := #[.val (.long q1), .second, .val (.ref b1), .unset, .unset, .unset, .unset, .unset, .unset]) rfl ?_
    show Steps p.tables e below (T2.setTop (mkF m 9 #[.val (.long q1), .second, .val (.ref b1), .unset, .unset, .unset, .unset, .unset, .unset] [])) _
    refine XS.aloadN X2.here hx rfl (hb hby at_9) rfl rfl ?_
    exact kz
  obtain ⟨cq3, kq3, q3a, q3b, q3c⟩ := isOf hZ rfl Ex_b1
  obtain ⟨_, _, ⟨T3, L3, k3, n3⟩, -, X3, ⟨Lc3, hQ3, l3, y3, z3⟩, st3⟩ := X2.virtualBack hx (y := (⟨"com/example/quorumweight/quorumweight/model/SplitMix64", "next", "()J"⟩ : MethodName)) (z := (⟨"com/example/quorumweight/quorumweight/model/SplitMix64", "next", "()J"⟩ : MethodName)) hown (mvT hZ (hw _ (List.mem_of_getElem? (i := 11) rfl))) (mvT hZ (hw _ (List.mem_of_getElem? (i := 12) rfl))) (notFace_of_selects (args := #[]) (mvT hZ (hw _ (List.mem_of_getElem? (i := 14) rfl)))) (mvT hZ (hw _ (List.mem_of_getElem? (i := 14) rfl))) (mvT hZ (hw _ (List.mem_of_getElem? (i := 13) rfl))) (by decide) (backOf (W := 0) (rmNext l Z a0 hw [] b1 q1 T2.heap n0 Z2 Ex_b1 Fq2 g_b1) hZ (hw _ (List.mem_of_getElem? (i := 15) rfl)) (hw _ (List.mem_of_getElem? (i := 2) rfl)) (by decide) (by decide)) q3a q3c (g := (mkF m 10 #[.val (.long q1), .second, .val (.ref b1), .unset, .unset, .unset, .unset, .unset, .unset] [(.ref b1)])) rfl (by rw [hml]; rfl) (Steps.refl _) (argsL := []) (rest := []) (lenOf own_pd2 rfl) rfl (by show 2 * 0 + _ ≤ _; exact Nat.le_of_eq rfl) (hb hby at_10) (fun _ _ => ⟨rfl, rfl, (by decide : 1 + 0 ≤ _), (by decide : 1 + 0 ≤ _)⟩)
  dsimp only [Pt.U, Pt.locs, Pt.cells, Pt.slots] at X3 l3 y3 z3 st3 hQ3
  subst l3 y3 z3
  obtain ⟨rfl, N3q, K3q, _, Fq3⟩ := hQ3
  have N3 := Fr.app N2 N3q
  replace Ex_b1 := Ex_b1.keep K3q
  have Z3 : n0 ≤ T3.heap.size := Nat.le_trans Z2 K3q.1
  refine own_go (A := T3.setTop (mkF m 13 #[.val (.long q1), .second, .val (.ref b1), .unset, .unset, .unset, .unset, .unset, .unset] [(.long (own_mix (q1 + (-7046029254386353131 : Int64))))])) (fun _ kz => st3.trans kz) ?_
  refine own_go (A := T3.setTop (mkF m 15 #[.val (.long q1), .second, .val (.ref b1), .val (.long (own_mix (q1 + (-7046029254386353131 : Int64)))), .second, .unset, .unset, .unset, .unset] [(.ref b1)])) (fun _ kz => ?_) ?_
  · show Steps p.tables e below (T3.setTop (mkF m 13 #[.val (.long q1), .second, .val (.ref b1), .unset, .unset, .unset, .unset, .unset, .unset] [(.long (own_mix (q1 + (-7046029254386353131 : Int64))))])) _
    refine XS.lstoreN X3.here hx rfl (hb hby at_13) rfl (l' := #[.val (.long q1), .second, .val (.ref b1), .val (.long (own_mix (q1 + (-7046029254386353131 : Int64)))), .second, .unset, .unset, .unset, .unset]) rfl ?_
    show Steps p.tables e below (T3.setTop (mkF m 14 #[.val (.long q1), .second, .val (.ref b1), .val (.long (own_mix (q1 + (-7046029254386353131 : Int64)))), .second, .unset, .unset, .unset, .unset] [])) _
    refine XS.aloadN X3.here hx rfl (hb hby at_14) rfl rfl ?_
    exact kz
  obtain ⟨cq4, kq4, q4a, q4b, q4c⟩ := isOf hZ rfl Ex_b1
  obtain ⟨_, _, ⟨T4, L4, k4, n4⟩, -, X4, ⟨Lc4, hQ4, l4, y4, z4⟩, st4⟩ := X3.virtualBack hx (y := (⟨"com/example/quorumweight/quorumweight/model/SplitMix64", "next", "()J"⟩ : MethodName)) (z := (⟨"com/example/quorumweight/quorumweight/model/SplitMix64", "next", "()J"⟩ : MethodName)) hown (mvT hZ (hw _ (List.mem_of_getElem? (i := 11) rfl))) (mvT hZ (hw _ (List.mem_of_getElem? (i := 12) rfl))) (notFace_of_selects (args := #[]) (mvT hZ (hw _ (List.mem_of_getElem? (i := 14) rfl)))) (mvT hZ (hw _ (List.mem_of_getElem? (i := 14) rfl))) (mvT hZ (hw _ (List.mem_of_getElem? (i := 13) rfl))) (by decide) (backOf (W := 0) (rmNext l Z a0 hw [] b1 (q1 + (-7046029254386353131 : Int64)) T3.heap n0 Z3 Ex_b1 Fq3 g_b1) hZ (hw _ (List.mem_of_getElem? (i := 15) rfl)) (hw _ (List.mem_of_getElem? (i := 2) rfl)) (by decide) (by decide)) q4a q4c (g := (mkF m 15 #[.val (.long q1), .second, .val (.ref b1), .val (.long (own_mix (q1 + (-7046029254386353131 : Int64)))), .second, .unset, .unset, .unset, .unset] [(.ref b1)])) rfl (by rw [hml]; rfl) (Steps.refl _) (argsL := []) (rest := []) (lenOf own_pd2 rfl) rfl (by show 2 * 0 + _ ≤ _; exact Nat.le_of_eq rfl) (hb hby at_15) (fun _ _ => ⟨rfl, rfl, (by decide : 1 + 0 ≤ _), (by decide : 1 + 0 ≤ _)⟩)
  dsimp only [Pt.U, Pt.locs, Pt.cells, Pt.slots] at X4 l4 y4 z4 st4 hQ4
  subst l4 y4 z4
  obtain ⟨rfl, N4q, K4q, _, Fq4⟩ := hQ4
  have N4 := Fr.app N3 N4q
  replace Ex_b1 := Ex_b1.keep K4q
  have Z4 : n0 ≤ T4.heap.size := Nat.le_trans Z3 K4q.1
  refine own_go (A := T4.setTop (mkF m 18 #[.val (.long q1), .second, .val (.ref b1), .val (.long (own_mix (q1 + (-7046029254386353131 : Int64)))), .second, .unset, .unset, .unset, .unset] [(.long (own_mix ((q1 + (-7046029254386353131 : Int64)) + (-7046029254386353131 : Int64))))])) (fun _ kz => st4.trans kz) ?_
  refine own_go (A := T4.setTop (mkF m 26 #[.val (.long q1), .second, .val (.ref b1), .val (.long (own_mix (q1 + (-7046029254386353131 : Int64)))), .second, .val (.long (own_mix ((q1 + (-7046029254386353131 : Int64)) + (-7046029254386353131 : Int64)))), .second, .val (.long (-7046029254386353131 : Int64)), .second] [(.long (own_mix (q1 + (-7046029254386353131 : Int64))))])) (fun _ kz => ?_) ?_
  · show Steps p.tables e below (T4.setTop (mkF m 18 #[.val (.long q1), .second, .val (.ref b1), .val (.long (own_mix (q1 + (-7046029254386353131 : Int64)))), .second, .unset, .unset, .unset, .unset] [(.long (own_mix ((q1 + (-7046029254386353131 : Int64)) + (-7046029254386353131 : Int64))))])) _
    refine XS.lstore X4.here hx rfl (hb hby at_18) rfl (l' := #[.val (.long q1), .second, .val (.ref b1), .val (.long (own_mix (q1 + (-7046029254386353131 : Int64)))), .second, .val (.long (own_mix ((q1 + (-7046029254386353131 : Int64)) + (-7046029254386353131 : Int64)))), .second, .unset, .unset]) rfl ?_
    show Steps p.tables e below (T4.setTop (mkF m 20 #[.val (.long q1), .second, .val (.ref b1), .val (.long (own_mix (q1 + (-7046029254386353131 : Int64)))), .second, .val (.long (own_mix ((q1 + (-7046029254386353131 : Int64)) + (-7046029254386353131 : Int64)))), .second, .unset, .unset] [])) _
    refine X4.ldc2Long hx hown (mvT hZ (hw _ (List.mem_of_getElem? (i := 22) rfl))) (g := (mkF m 20 #[.val (.long q1), .second, .val (.ref b1), .val (.long (own_mix (q1 + (-7046029254386353131 : Int64)))), .second, .val (.long (own_mix ((q1 + (-7046029254386353131 : Int64)) + (-7046029254386353131 : Int64)))), .second, .unset, .unset] [])) rfl (hb hby at_20) _ ?_
    show Steps p.tables e below (T4.setTop (mkF m 23 #[.val (.long q1), .second, .val (.ref b1), .val (.long (own_mix (q1 + (-7046029254386353131 : Int64)))), .second, .val (.long (own_mix ((q1 + (-7046029254386353131 : Int64)) + (-7046029254386353131 : Int64)))), .second, .unset, .unset] [(.long (-7046029254386353131 : Int64))])) _
    refine XS.lstore X4.here hx rfl (hb hby at_23) rfl (l' := #[.val (.long q1), .second, .val (.ref b1), .val (.long (own_mix (q1 + (-7046029254386353131 : Int64)))), .second, .val (.long (own_mix ((q1 + (-7046029254386353131 : Int64)) + (-7046029254386353131 : Int64)))), .second, .val (.long (-7046029254386353131 : Int64)), .second]) rfl ?_
    show Steps p.tables e below (T4.setTop (mkF m 25 #[.val (.long q1), .second, .val (.ref b1), .val (.long (own_mix (q1 + (-7046029254386353131 : Int64)))), .second, .val (.long (own_mix ((q1 + (-7046029254386353131 : Int64)) + (-7046029254386353131 : Int64)))), .second, .val (.long (-7046029254386353131 : Int64)), .second] [])) _
    refine XS.lloadN X4.here hx rfl (hb hby at_25) rfl ?_
    exact kz
  obtain ⟨_, _, ⟨T5, L5, k5, n5⟩, -, X5, ⟨Lc5, hQ5, l5, y5, z5⟩, st5⟩ := Jvm.LawKit.callS X4 hx (y := (⟨"com/example/quorumweight/quorumweight/model/SplitMix64NextPinLaw", "unmix", "(J)J"⟩ : MethodName)) hown (mvT hZ (hw _ (List.mem_of_getElem? (i := 23) rfl))) (mvT hZ (hw _ (List.mem_of_getElem? (i := 24) rfl))) (mvT hZ (hw _ (List.mem_of_getElem? (i := 25) rfl))) (mvT hZ (hw _ (List.mem_of_getElem? (i := 26) rfl))) (by decide) (backOf (W := 0) (rmUn l Z a0 hw [] (own_mix (q1 + (-7046029254386353131 : Int64))) T4.heap n0 Z4) hZ (hw _ (List.mem_of_getElem? (i := 26) rfl)) (hw _ (List.mem_of_getElem? (i := 25) rfl)) (by decide) (by decide)) (g := (mkF m 26 #[.val (.long q1), .second, .val (.ref b1), .val (.long (own_mix (q1 + (-7046029254386353131 : Int64)))), .second, .val (.long (own_mix ((q1 + (-7046029254386353131 : Int64)) + (-7046029254386353131 : Int64)))), .second, .val (.long (-7046029254386353131 : Int64)), .second] [(.long (own_mix (q1 + (-7046029254386353131 : Int64))))])) rfl (by rw [hml]; rfl) (argsL := [(.long (own_mix (q1 + (-7046029254386353131 : Int64))))]) (rest := []) (lenOf own_pd0 rfl) rfl (by show 2 * 0 + _ ≤ _; exact Nat.le_of_eq rfl) (hb hby at_26) (fun _ _ => ⟨rfl, rfl, (by decide : 1 + 0 ≤ _), (by decide : 1 + 0 ≤ _)⟩)
  dsimp only [Pt.U, Pt.locs, Pt.cells, Pt.slots] at X5 l5 y5 z5 st5 hQ5
  subst l5 y5 z5
  obtain ⟨rfl, N5q, e5⟩ := hQ5
  have N5 := Fr.app N4 N5q
  refine own_go (A := T5.setTop (mkF m 29 #[.val (.long q1), .second, .val (.ref b1), .val (.long (own_mix (q1 + (-7046029254386353131 : Int64)))), .second, .val (.long (own_mix ((q1 + (-7046029254386353131 : Int64)) + (-7046029254386353131 : Int64)))), .second, .val (.long (-7046029254386353131 : Int64)), .second] [(.long (own_unmix (own_mix (q1 + (-7046029254386353131 : Int64)))))])) (fun _ kz => st5 _ kz) ?_
  refine own_go (A := T5.setTop (mkF m 39 #[.val (.long q1), .second, .val (.ref b1), .val (.long (own_mix (q1 + (-7046029254386353131 : Int64)))), .second, .val (.long (own_mix ((q1 + (-7046029254386353131 : Int64)) + (-7046029254386353131 : Int64)))), .second, .val (.long (-7046029254386353131 : Int64)), .second] [(.long (own_mix ((q1 + (-7046029254386353131 : Int64)) + (-7046029254386353131 : Int64))))])) (fun _ kz => ?_) ?_
  · show Steps p.tables e below (T5.setTop (mkF m 29 #[.val (.long q1), .second, .val (.ref b1), .val (.long (own_mix (q1 + (-7046029254386353131 : Int64)))), .second, .val (.long (own_mix ((q1 + (-7046029254386353131 : Int64)) + (-7046029254386353131 : Int64)))), .second, .val (.long (-7046029254386353131 : Int64)), .second] [(.long (own_unmix (own_mix (q1 + (-7046029254386353131 : Int64)))))])) _
    refine XS.lloadN X5.here hx rfl (hb hby at_29) rfl ?_
    show Steps p.tables e below (T5.setTop (mkF m 30 #[.val (.long q1), .second, .val (.ref b1), .val (.long (own_mix (q1 + (-7046029254386353131 : Int64)))), .second, .val (.long (own_mix ((q1 + (-7046029254386353131 : Int64)) + (-7046029254386353131 : Int64)))), .second, .val (.long (-7046029254386353131 : Int64)), .second] [(.long q1), (.long (own_unmix (own_mix (q1 + (-7046029254386353131 : Int64)))))])) _
    refine XS.lload X5.here hx rfl (hb hby at_30) rfl ?_
    show Steps p.tables e below (T5.setTop (mkF m 32 #[.val (.long q1), .second, .val (.ref b1), .val (.long (own_mix (q1 + (-7046029254386353131 : Int64)))), .second, .val (.long (own_mix ((q1 + (-7046029254386353131 : Int64)) + (-7046029254386353131 : Int64)))), .second, .val (.long (-7046029254386353131 : Int64)), .second] [(.long (-7046029254386353131 : Int64)), (.long q1), (.long (own_unmix (own_mix (q1 + (-7046029254386353131 : Int64)))))])) _
    refine XS.ladd X5.here hx rfl (hb hby at_32) rfl ?_
    show Steps p.tables e below (T5.setTop (mkF m 33 #[.val (.long q1), .second, .val (.ref b1), .val (.long (own_mix (q1 + (-7046029254386353131 : Int64)))), .second, .val (.long (own_mix ((q1 + (-7046029254386353131 : Int64)) + (-7046029254386353131 : Int64)))), .second, .val (.long (-7046029254386353131 : Int64)), .second] [(.long (q1 + (-7046029254386353131 : Int64))), (.long (own_unmix (own_mix (q1 + (-7046029254386353131 : Int64)))))])) _
    refine XS.lcmp X5.here hx rfl (hb hby at_33) rfl ?_
    show Steps p.tables e below (T5.setTop (mkF m 34 #[.val (.long q1), .second, .val (.ref b1), .val (.long (own_mix (q1 + (-7046029254386353131 : Int64)))), .second, .val (.long (own_mix ((q1 + (-7046029254386353131 : Int64)) + (-7046029254386353131 : Int64)))), .second, .val (.long (-7046029254386353131 : Int64)), .second] [(.int (lcmpW (own_unmix (own_mix (q1 + (-7046029254386353131 : Int64)))) (q1 + (-7046029254386353131 : Int64))))])) _
    refine XS.ifNo X5.here hx rfl (hb hby at_34) rfl ((if0 _ _).trans (teq ((lw_eq _ _).mpr (own_inverts _))).2) ?_
    show Steps p.tables e below (T5.setTop (mkF m 37 #[.val (.long q1), .second, .val (.ref b1), .val (.long (own_mix (q1 + (-7046029254386353131 : Int64)))), .second, .val (.long (own_mix ((q1 + (-7046029254386353131 : Int64)) + (-7046029254386353131 : Int64)))), .second, .val (.long (-7046029254386353131 : Int64)), .second] [])) _
    refine XS.lload X5.here hx rfl (hb hby at_37) rfl ?_
    exact kz
  obtain ⟨_, _, ⟨T6, L6, k6, n6⟩, -, X6, ⟨Lc6, hQ6, l6, y6, z6⟩, st6⟩ := Jvm.LawKit.callS X5 hx (y := (⟨"com/example/quorumweight/quorumweight/model/SplitMix64NextPinLaw", "unmix", "(J)J"⟩ : MethodName)) hown (mvT hZ (hw _ (List.mem_of_getElem? (i := 23) rfl))) (mvT hZ (hw _ (List.mem_of_getElem? (i := 24) rfl))) (mvT hZ (hw _ (List.mem_of_getElem? (i := 25) rfl))) (mvT hZ (hw _ (List.mem_of_getElem? (i := 26) rfl))) (by decide) (backOf (W := 0) (rmUn l Z a0 hw [] (own_mix ((q1 + (-7046029254386353131 : Int64)) + (-7046029254386353131 : Int64))) T4.heap n0 Z4) hZ (hw _ (List.mem_of_getElem? (i := 26) rfl)) (hw _ (List.mem_of_getElem? (i := 25) rfl)) (by decide) (by decide)) (g := (mkF m 39 #[.val (.long q1), .second, .val (.ref b1), .val (.long (own_mix (q1 + (-7046029254386353131 : Int64)))), .second, .val (.long (own_mix ((q1 + (-7046029254386353131 : Int64)) + (-7046029254386353131 : Int64)))), .second, .val (.long (-7046029254386353131 : Int64)), .second] [(.long (own_mix ((q1 + (-7046029254386353131 : Int64)) + (-7046029254386353131 : Int64))))])) rfl (by rw [hml]; rfl) (argsL := [(.long (own_mix ((q1 + (-7046029254386353131 : Int64)) + (-7046029254386353131 : Int64))))]) (rest := []) (lenOf own_pd0 rfl) rfl (by show 2 * 0 + _ ≤ _; exact Nat.le_of_eq rfl) (hb hby at_39) (fun _ _ => ⟨rfl, e5, (by decide : 1 + 0 ≤ _), (by decide : 1 + 0 ≤ _)⟩)
  dsimp only [Pt.U, Pt.locs, Pt.cells, Pt.slots] at X6 l6 y6 z6 st6 hQ6
  subst l6 y6 z6
  obtain ⟨rfl, N6q, e6⟩ := hQ6
  have N6 := Fr.app N5 N6q
  refine own_go (A := T6.setTop (mkF m 42 #[.val (.long q1), .second, .val (.ref b1), .val (.long (own_mix (q1 + (-7046029254386353131 : Int64)))), .second, .val (.long (own_mix ((q1 + (-7046029254386353131 : Int64)) + (-7046029254386353131 : Int64)))), .second, .val (.long (-7046029254386353131 : Int64)), .second] [(.long (own_unmix (own_mix ((q1 + (-7046029254386353131 : Int64)) + (-7046029254386353131 : Int64)))))])) (fun _ kz => st6 _ kz) ?_
  refine own_go (A := T6.setTop (mkF m 58 #[.val (.long q1), .second, .val (.ref b1), .val (.long (own_mix (q1 + (-7046029254386353131 : Int64)))), .second, .val (.long (own_mix ((q1 + (-7046029254386353131 : Int64)) + (-7046029254386353131 : Int64)))), .second, .val (.long (-7046029254386353131 : Int64)), .second] [(.int (1 : Int32))])) (fun _ kz => ?_) ?_
  · show Steps p.tables e below (T6.setTop (mkF m 42 #[.val (.long q1), .second, .val (.ref b1), .val (.long (own_mix (q1 + (-7046029254386353131 : Int64)))), .second, .val (.long (own_mix ((q1 + (-7046029254386353131 : Int64)) + (-7046029254386353131 : Int64)))), .second, .val (.long (-7046029254386353131 : Int64)), .second] [(.long (own_unmix (own_mix ((q1 + (-7046029254386353131 : Int64)) + (-7046029254386353131 : Int64)))))])) _
    refine XS.lloadN X6.here hx rfl (hb hby at_42) rfl ?_
    show Steps p.tables e below (T6.setTop (mkF m 43 #[.val (.long q1), .second, .val (.ref b1), .val (.long (own_mix (q1 + (-7046029254386353131 : Int64)))), .second, .val (.long (own_mix ((q1 + (-7046029254386353131 : Int64)) + (-7046029254386353131 : Int64)))), .second, .val (.long (-7046029254386353131 : Int64)), .second] [(.long q1), (.long (own_unmix (own_mix ((q1 + (-7046029254386353131 : Int64)) + (-7046029254386353131 : Int64)))))])) _
    refine XS.lload X6.here hx rfl (hb hby at_43) rfl ?_
    show Steps p.tables e below (T6.setTop (mkF m 45 #[.val (.long q1), .second, .val (.ref b1), .val (.long (own_mix (q1 + (-7046029254386353131 : Int64)))), .second, .val (.long (own_mix ((q1 + (-7046029254386353131 : Int64)) + (-7046029254386353131 : Int64)))), .second, .val (.long (-7046029254386353131 : Int64)), .second] [(.long (-7046029254386353131 : Int64)), (.long q1), (.long (own_unmix (own_mix ((q1 + (-7046029254386353131 : Int64)) + (-7046029254386353131 : Int64)))))])) _
    refine XS.ladd X6.here hx rfl (hb hby at_45) rfl ?_
    show Steps p.tables e below (T6.setTop (mkF m 46 #[.val (.long q1), .second, .val (.ref b1), .val (.long (own_mix (q1 + (-7046029254386353131 : Int64)))), .second, .val (.long (own_mix ((q1 + (-7046029254386353131 : Int64)) + (-7046029254386353131 : Int64)))), .second, .val (.long (-7046029254386353131 : Int64)), .second] [(.long (q1 + (-7046029254386353131 : Int64))), (.long (own_unmix (own_mix ((q1 + (-7046029254386353131 : Int64)) + (-7046029254386353131 : Int64)))))])) _
    refine XS.lload X6.here hx rfl (hb hby at_46) rfl ?_
    show Steps p.tables e below (T6.setTop (mkF m 48 #[.val (.long q1), .second, .val (.ref b1), .val (.long (own_mix (q1 + (-7046029254386353131 : Int64)))), .second, .val (.long (own_mix ((q1 + (-7046029254386353131 : Int64)) + (-7046029254386353131 : Int64)))), .second, .val (.long (-7046029254386353131 : Int64)), .second] [(.long (-7046029254386353131 : Int64)), (.long (q1 + (-7046029254386353131 : Int64))), (.long (own_unmix (own_mix ((q1 + (-7046029254386353131 : Int64)) + (-7046029254386353131 : Int64)))))])) _
    refine XS.ladd X6.here hx rfl (hb hby at_48) rfl ?_
    show Steps p.tables e below (T6.setTop (mkF m 49 #[.val (.long q1), .second, .val (.ref b1), .val (.long (own_mix (q1 + (-7046029254386353131 : Int64)))), .second, .val (.long (own_mix ((q1 + (-7046029254386353131 : Int64)) + (-7046029254386353131 : Int64)))), .second, .val (.long (-7046029254386353131 : Int64)), .second] [(.long ((q1 + (-7046029254386353131 : Int64)) + (-7046029254386353131 : Int64))), (.long (own_unmix (own_mix ((q1 + (-7046029254386353131 : Int64)) + (-7046029254386353131 : Int64)))))])) _
    refine XS.lcmp X6.here hx rfl (hb hby at_49) rfl ?_
    show Steps p.tables e below (T6.setTop (mkF m 50 #[.val (.long q1), .second, .val (.ref b1), .val (.long (own_mix (q1 + (-7046029254386353131 : Int64)))), .second, .val (.long (own_mix ((q1 + (-7046029254386353131 : Int64)) + (-7046029254386353131 : Int64)))), .second, .val (.long (-7046029254386353131 : Int64)), .second] [(.int (lcmpW (own_unmix (own_mix ((q1 + (-7046029254386353131 : Int64)) + (-7046029254386353131 : Int64)))) ((q1 + (-7046029254386353131 : Int64)) + (-7046029254386353131 : Int64))))])) _
    refine XS.ifNo X6.here hx rfl (hb hby at_50) rfl ((if0 _ _).trans (teq ((lw_eq _ _).mpr (own_inverts _))).2) ?_
    show Steps p.tables e below (T6.setTop (mkF m 53 #[.val (.long q1), .second, .val (.ref b1), .val (.long (own_mix (q1 + (-7046029254386353131 : Int64)))), .second, .val (.long (own_mix ((q1 + (-7046029254386353131 : Int64)) + (-7046029254386353131 : Int64)))), .second, .val (.long (-7046029254386353131 : Int64)), .second] [])) _
    refine XS.iconst X6.here hx rfl (hb hby at_53) ?_
    show Steps p.tables e below (T6.setTop (mkF m 54 #[.val (.long q1), .second, .val (.ref b1), .val (.long (own_mix (q1 + (-7046029254386353131 : Int64)))), .second, .val (.long (own_mix ((q1 + (-7046029254386353131 : Int64)) + (-7046029254386353131 : Int64)))), .second, .val (.long (-7046029254386353131 : Int64)), .second] [(.int (1 : Int32))])) _
    refine XS.goto X6.here hx rfl (pc0 := 54) (pc' := 58) rfl (hb hby at_54) (by decide) (by decide) ?_
    exact kz
  obtain ⟨fs, hrr, hrun, hended, hW, hsame⟩ := X6.leave (v := some (.int (1 : Int32))) (fun h => by rw [Bd.returns] at h; cases h)
  refine ⟨_, _, ?_, hrun, hended, _, _, rfl, ?_, ⟨_, rfl⟩, hW, hsame.mono (by decide) (by decide)⟩
  · show Steps p.tables e below (T6.setTop (mkF m 58 #[.val (.long q1), .second, .val (.ref b1), .val (.long (own_mix (q1 + (-7046029254386353131 : Int64)))), .second, .val (.long (own_mix ((q1 + (-7046029254386353131 : Int64)) + (-7046029254386353131 : Int64)))), .second, .val (.long (-7046029254386353131 : Int64)), .second] [(.int (1 : Int32))])) _
    exact retN X6 hx (t := .boolean) Bd.returns (by simp) (hb hby at_58) hrr
  · show Qrm0 Z q1 h0 n0 _ T6.heap _
    rw [e6]
    exact ⟨rfl, N6⟩
set_option maxRecDepth 65536 in
set_option maxHeartbeats 40000000 in
theorem comes_1 {Post : Tables → Env → Array Value → State → Outcome → State → Prop} (hpost : ∀ tb e args s v u, (limb_1_1.after args s (.returned v) u = true ∧ limb_1_2.after args s (.returned v) u = true ∧ True) → FrameEnd s (.returned v) u (Jvm.fieldLocs frame_1_writes args s ++ Jvm.arrayLocs frame_1_arrays args s ++ Jvm.staticLocs frame_1_statics s) 16 128 → Post tb e args s (.returned v) u) :
    ArmFor flags0 classFile x code maxLocals ret World_1 tables_1 room_1 Calls_1 rest_1 Pre_1 Post := by
  intro l hfl _ _ p e ha hc hk s m args below hf hA hF happ hP
  obtain ⟨hcalls, hrest, hpre⟩ := hP
  obtain ⟨-, -, -, hnamed, -, -, -, hat⟩ := (Spec.applies_iff hf).mp happ
  obtain ⟨hg, hn⟩ := and_e (Cond.before_iff.mp (show (Jvm.Cond.and given_1 narrow_1).before args s = true from hpre))
  obtain ⟨hcnt, hg1⟩ := and_e hg
  obtain ⟨w0, rfl⟩ : ∃ w0 : Value, args = #[w0] := by
    have hs : args.size = 1 := by simpa [Cond.value, given_1] using hcnt
    obtain ⟨L⟩ := args
    match L, hs with
    | [w0], _ => exact ⟨w0, rfl⟩
  have hw := fun d (hd : d ∈ tables_1) => atoms_spec (ws := Jvm.Cond.code x code maxLocals ret :: tables_1) hat d (List.mem_cons_of_mem _ hd)
  have hfit : Fit s := fun {y c} hc i hi => by
    obtain ⟨ha, rfl⟩ := Array.getElem?_eq_some_iff.mp hc
    have q := List.all_eq_true.mp ((Array.all_eq_true_iff_forall_mem.mp hF) _ (Array.getElem_mem ha)) i (List.mem_range.mpr hi)
    simpa [Array.getElem?_eq_getElem hi] using q
  obtain ⟨i0, ei0⟩ := isL_v hg1
  obtain rfl : w0 = (.long i0) := Option.some.inj ei0
  obtain ⟨n, o, h1, h2, h3, _, L, rfl, ⟨rfl, N⟩, hq⟩ := rm0 l s _ hw tables_1 i0  s.heap s.heap.size (Nat.le_refl _)  p e ha hc hk s m _ below hf ((Spec.applies_iff_loose hf).mp happ).1 ⟨rfl, State.Warmed39.refl s, rfl⟩ trivial
  refine ⟨n, _, h1, h2, h3, hpost _ _ _ _ _ _ ⟨Cond.after_iff.mpr rfl, Cond.after_iff.mpr (eq_i res_at (Term.int_eval (1)) rfl), trivial⟩ ⟨hq.1, hq.2.1, (hq.2.2.sift fun y hy => Or.inr (N y hy)).mono (by decide) (by decide)⟩⟩
theorem main_1_1 : Claimed_1_1 := comes_1 fun _ _ _ _ _ _ h hF => ⟨h.1, hF⟩
theorem main_1_2 : Claimed_1_2 := comes_1 fun _ _ _ _ _ _ h hF => ⟨h.2.1, hF⟩
end Jvm.Pilot.@@N@@
namespace Jvm.Pilot.@@N@@
open Jvm Jvm.ClassFile Sem Op Lib Jvm.Free Jvm.Stand Jvm.Pilot.@@N@@.Jvm.D
/-! MADE BY PROGRAM (witnessworld.py) out of the Statement's table words and the real class files: 9 classes; the members and pool entries that the words name. The judged class is class 1, her method 1. -/
namespace start1
open Jvm.ClassFile
def u (s : String) : CpInfo := .utf8 (stringToUtf16 s)
/-- a pool by its gaps: so many unusable entries, then the entry; so many at the end -/
def gap : Nat → List CpInfo → List CpInfo
  | 0, r => r
  | n + 1, r => .unusable :: gap n r
def poolList (es : List (Nat × CpInfo)) (last : Nat) : List CpInfo := es.foldr (fun e r => gap e.1 (e.2 :: r)) (gap last [])
def pool (es : List (Nat × CpInfo)) (last : Nat) : Array CpInfo := ⟨poolList es last⟩
def fileOf (pool : Array CpInfo) (this : Nat) (attrs : Array Attribute := #[]) (ms : Array MethodInfo := #[]) (fl : Nat := 33) (sup : Nat := 0) (ifs : Array Nat := #[]) (fds : Array FieldInfo := #[]) : ClassFile where
  minorVersion := 0
  majorVersion := 65
  constantPool := pool
  accessFlags := fl
  thisClass := this
  superClass := sup
  interfaces := ifs
  fields := fds
  methods := ms
  attributes := attrs
def plain (name : String) (sup : Option ClassId) : Class where
  name := name
  kind := .ordinary
  loader := none
  accessFlags := 33
  super := sup
  interfaces := #[]
  cf := none
  fields := #[]
  methods := #[]
  instanceTypes := #[]
  staticTypes := #[]
  resolved := #[]
  callSites := []
  init := .initialized
  statics := none
  mirror := none

def pool0 : Array CpInfo := pool [(5, u "<init>"), (0, u "()V"), (1, .class_ 10), (1, u "java/lang/Object")] 113

def k0c0 : Code := { maxStack := 0, maxLocals := 1, code := object_method_1_code, exceptionTable := #[], attributes := #[] }
def k0m0 : Method := { name := "<init>", desc := "()V", sig := { parameters := [], returnType := none }, accessFlags := 1, code := some k0c0 }
/-- java/lang/Object -/
def k0 : Class := { plain "java/lang/Object" none with
  accessFlags := 33
  interfaces := #[]
  cf := some (fileOf pool0 8 #[] #[{ accessFlags := 1, nameIndex := 5, descriptorIndex := 6, attributes := #[] }] 33 0 #[] #[])
  fields := #[]
  methods := #[k0m0]
  instanceTypes := #[]
  staticTypes := #[]
  resolved := Array.replicate 124 none
  statics := none }

def pool1 : Array CpInfo := pool [(2, .class_ 4), (1, u "java/lang/Object"), (0, u "<init>"), (0, u "()V"), (0, .class_ 8), (0, u "com/example/quorumweight/quorumweight/model/SplitMix64"), (0, .methodref 7 10), (0, .nameAndType 5 11), (0, u "(J)V"), (0, .methodref 7 13), (0, .nameAndType 14 15), (0, u "next"), (0, u "()J"), (0, .long 11400714819323198485), (1, .methodref 19 20), (0, .class_ 21), (0, .nameAndType 22 23), (0, u "com/example/quorumweight/quorumweight/model/SplitMix64NextPinLaw"), (0, u "unmix"), (0, u "(J)J"), (0, .long 2), (1, .long 10723151780598845931), (1, .methodref 19 29), (0, .nameAndType 30 23), (0, u "inverse"), (0, .long 13787848793156543929), (3, u "law"), (0, u "(J)Z")] 3

def k1m0 : Method := { name := "<init>", desc := "()V", sig := { parameters := [], returnType := none }, accessFlags := 1, code := none }
def k1c1 : Code := { maxStack := 6, maxLocals := 9, code := code, exceptionTable := #[], attributes := #[] }
def k1m1 : Method := { name := "law", desc := "(J)Z", sig := { parameters := [.long], returnType := some .boolean }, accessFlags := 9, code := some k1c1 }
def k1c2 : Code := { maxStack := 8, maxLocals := 4, code := method_3_code, exceptionTable := #[], attributes := #[] }
def k1m2 : Method := { name := "inverse", desc := "(J)J", sig := { parameters := [.long], returnType := some .long }, accessFlags := 10, code := some k1c2 }
def k1c3 : Code := { maxStack := 5, maxLocals := 4, code := method_4_code, exceptionTable := #[], attributes := #[] }
def k1m3 : Method := { name := "unmix", desc := "(J)J", sig := { parameters := [.long], returnType := some .long }, accessFlags := 10, code := some k1c3 }
/-- com/example/quorumweight/quorumweight/model/SplitMix64NextPinLaw -/
def k1 : Class := { plain "com/example/quorumweight/quorumweight/model/SplitMix64NextPinLaw" (some 0) with
  accessFlags := 49
  interfaces := #[]
  cf := some (fileOf pool1 19 #[] #[{ accessFlags := 1, nameIndex := 5, descriptorIndex := 6, attributes := #[] }, { accessFlags := 9, nameIndex := 35, descriptorIndex := 36, attributes := #[] }, { accessFlags := 10, nameIndex := 30, descriptorIndex := 23, attributes := #[] }, { accessFlags := 10, nameIndex := 22, descriptorIndex := 23, attributes := #[] }] 49 2 #[] #[])
  fields := #[]
  methods := #[k1m0, k1m1, k1m2, k1m3]
  instanceTypes := #[]
  staticTypes := #[]
  resolved := Array.replicate 40 none
  statics := none }

def pool2 : Array CpInfo := pool [(1, .methodref 2 3), (0, .class_ 4), (0, .nameAndType 5 6), (0, u "java/lang/Object"), (0, u "<init>"), (0, u "()V"), (0, .fieldref 8 9), (0, .class_ 10), (0, .nameAndType 11 12), (0, u "com/example/quorumweight/quorumweight/model/SplitMix64"), (0, u "state"), (0, u "J"), (0, .long 11400714819323198485), (1, .methodref 8 16), (0, .nameAndType 17 18), (0, u "mix"), (0, u "(J)J"), (2, u "(J)V"), (0, .long 13787848793156543929), (1, .long 10723151780598845931), (1, u "GOLDEN_GAMMA"), (8, u "next"), (0, u "()J")] 2

def k2c0 : Code := { maxStack := 3, maxLocals := 3, code := prog_51_method_1_code, exceptionTable := #[], attributes := #[] }
def k2m0 : Method := { name := "<init>", desc := "(J)V", sig := { parameters := [.long], returnType := none }, accessFlags := 1, code := some k2c0 }
def k2c1 : Code := { maxStack := 5, maxLocals := 1, code := prog_51_method_3_code, exceptionTable := #[], attributes := #[] }
def k2m1 : Method := { name := "next", desc := "()J", sig := { parameters := [], returnType := some .long }, accessFlags := 1, code := some k2c1 }
def k2c2 : Code := { maxStack := 5, maxLocals := 4, code := prog_51_method_4_code, exceptionTable := #[], attributes := #[] }
def k2m2 : Method := { name := "mix", desc := "(J)J", sig := { parameters := [.long], returnType := some .long }, accessFlags := 10, code := some k2c2 }
/-- com/example/quorumweight/quorumweight/model/SplitMix64 -/
def k2 : Class := { plain "com/example/quorumweight/quorumweight/model/SplitMix64" (some 0) with
  accessFlags := 49
  interfaces := #[]
  cf := some (fileOf pool2 8 #[] #[{ accessFlags := 1, nameIndex := 5, descriptorIndex := 21, attributes := #[] }, { accessFlags := 1, nameIndex := 35, descriptorIndex := 36, attributes := #[] }, { accessFlags := 10, nameIndex := 17, descriptorIndex := 18, attributes := #[] }] 49 2 #[] #[{ accessFlags := 26, nameIndex := 26, descriptorIndex := 12, attributes := #[] }, { accessFlags := 2, nameIndex := 11, descriptorIndex := 12, attributes := #[] }])
  fields := #[{ name := "GOLDEN_GAMMA", type := .long, accessFlags := 26, slot := 0, constantValue := 0 }, { name := "state", type := .long, accessFlags := 2, slot := 0, constantValue := 0 }]
  methods := #[k2m0, k2m1, k2m2]
  instanceTypes := #[.long]
  staticTypes := #[.long]
  resolved := Array.replicate 39 none
  statics := none }

def pool3 : Array CpInfo := pool [(1, u "java/lang/Cloneable"), (0, .class_ 1), (0, u "java/lang/Object"), (0, .class_ 3)] 3

/-- java/lang/Cloneable -/
def k3 : Class := { plain "java/lang/Cloneable" (some 0) with
  accessFlags := 1537
  interfaces := #[]
  cf := some (fileOf pool3 2 #[] #[] 1537 4 #[] #[])
  fields := #[]
  methods := #[]
  instanceTypes := #[]
  staticTypes := #[]
  resolved := Array.replicate 8 none
  statics := none }

def pool4 : Array CpInfo := pool [(1, u "java/io/Serializable"), (0, .class_ 1), (0, u "java/lang/Object"), (0, .class_ 3)] 3

/-- java/io/Serializable -/
def k4 : Class := { plain "java/io/Serializable" (some 0) with
  accessFlags := 1537
  interfaces := #[]
  cf := some (fileOf pool4 2 #[] #[] 1537 4 #[] #[])
  fields := #[]
  methods := #[]
  instanceTypes := #[]
  staticTypes := #[]
  resolved := Array.replicate 8 none
  statics := none }

/-- the primitive byte -/
def k5 : Class := { plain "byte" none with kind := .primitive 'B', accessFlags := 0x411 }
/-- [B -/
def k6 : Class := { plain "[B" (some 0) with kind := .array 5 .byte, interfaces := #[3, 4], accessFlags := 1041 }

/-- the primitive int -/
def k7 : Class := { plain "int" none with kind := .primitive 'I', accessFlags := 0x411 }
/-- [I -/
def k8 : Class := { plain "[I" (some 0) with kind := .array 7 .int, interfaces := #[3, 4], accessFlags := 1041 }

def heap : Heap := #[]
def classes : Array Class := #[k0, k1, k2, k3, k4, k5, k6, k7, k8]
def interned : List (Array UInt16 × Addr) := []
def slotsUsed : Nat := 0
def theMethod : MethodId := ⟨1, 1⟩
def args0 : Array Value := #[.long 5]
def aboutOver (below : List Frame) : State where
  vm := { classes := classes, interned := interned.toArray }
  heap := heap
  slotsUsed := slotsUsed
  threads := #[{ frames := .invoking theMethod args0 :: below }]
def below0 : List Frame := [.native { method := ⟨0, 0⟩, args := #[] }]
def about1 : State := aboutOver below0
def p0 : Program := .bare "" "" ""
def e0 : Env := launch0.env 0 0 0
theorem w_frames : about1.frames = Frame.invoking theMethod args0 :: below0 := rfl
set_option maxRecDepth 65536 in
theorem w_args : argsFit about1.vm theMethod args0 = true := by decide +kernel
set_option maxRecDepth 65536 in
theorem w_heap : heapFits about1 = true := by decide +kernel
set_option maxRecDepth 65536 in
theorem w_runnable : about1.curStatus? = some .runnable := by decide +kernel
set_option maxRecDepth 65536 in
theorem w_alone : about1.alone = true := by decide +kernel
set_option maxRecDepth 65536 in
theorem w_named : about1.methodNamed? x = some theMethod := by decide +kernel
set_option maxRecDepth 65536 in
theorem w_hears : about1.hears theMethod below0 = true := by decide +kernel
set_option maxRecDepth 65536 in
theorem w_ripe : about1.ripe theMethod args0 below0 = true := by decide +kernel
theorem w_running : about1.status = .running := rfl
set_option maxRecDepth 65536 in
theorem w_room : about1.hasRoom e0.platform room_1 = true :=
  launch0.hasRoom_least _ room_1 (by decide +kernel) (by decide +kernel) (by decide +kernel) (by decide +kernel) (by decide +kernel) (by decide +kernel)
theorem allAtoms_all (ts : List Jvm.Cond) (a : Array Jvm.Value) (st : Jvm.State) : (allAtoms ts).before a st = ts.all (fun c => c.before a st) := by
  induction ts with
  | nil => rfl
  | cons c t ih =>
    show (Jvm.Cond.and c (allAtoms t)).before a st = _
    rw [Jvm.Cond.before_and, ih, List.all_cons]
def words1 : List Jvm.Cond := Jvm.Cond.code x code maxLocals ret :: tables_1
/-- a 'code' word, met by the world's own term for the bytes: nothing is compared byte by byte -/
theorem code_word {y : MethodName} {bytes : ByteArray} {mx : Nat} {rt : Option FieldType} {a : Array Value} {s : State} {m : MethodId} {meth : Method} {c : Code} (h1 : s.methodNamed? y = some m) (h2 : s.vm.method? m = some meth) (h3 : meth.code = some c) (h4 : c.code = bytes)
    (h5 : (c.maxLocals == mx && c.exceptionTable.isEmpty && decide (c.maxStack ≤ mostOperands) && decide (meth.sig.returnType = rt) && !meth.locks && decide (parseMethodDescriptor y.desc = some meth.sig)) = true) : (Jvm.Cond.code y bytes mx rt).before a s = true := by
  simp only [Bool.and_eq_true, beq_iff_eq, Bool.not_eq_true', decide_eq_true_eq] at h5
  obtain ⟨⟨⟨⟨⟨g1, g2⟩, g3⟩, g4⟩, g5⟩, g6⟩ := h5
  simp [Cond.before, Cond.holds, Cond.value, h1, h2, h3, h4, g1, g2, g3, g4, g5, g6]
def isCode : Jvm.Cond → Bool
  | .code _ _ _ _ => true
  | _ => false
theorem all_split {L : List Jvm.Cond} {P : Jvm.Cond → Bool} (h1 : L.all (fun c => isCode c || P c) = true) (h2 : ∀ c ∈ L.filter isCode, P c = true) : L.all P = true := by
  refine List.all_eq_true.mpr fun c hc => ?_
  have h := List.all_eq_true.mp h1 c hc
  rcases Bool.eq_false_or_eq_true (isCode c) with hi | hi
  · exact h2 c (List.mem_filter.mpr ⟨hc, hi⟩)
  · simpa [hi] using h
set_option maxRecDepth 65536 in
theorem w_c0 : (Jvm.Cond.code x code maxLocals ret).before args0 about1 = true := code_word (m := ⟨1, 1⟩) (meth := k1m1) (c := k1c1) (by decide +kernel) rfl rfl rfl (by decide +kernel)
set_option maxRecDepth 65536 in
theorem w_c1 : (Jvm.Cond.code ({ cls := "com/example/quorumweight/quorumweight/model/SplitMix64", name := "<init>", desc := "(J)V" } : Jvm.MethodName) prog_51_method_1_code (3 : Nat) (Option.none : Option Jvm.ClassFile.FieldType)).before args0 about1 = true := code_word (m := ⟨2, 0⟩) (meth := k2m0) (c := k2c0) (by decide +kernel) rfl rfl rfl (by decide +kernel)
set_option maxRecDepth 65536 in
theorem w_c2 : (Jvm.Cond.code ({ cls := "java/lang/Object", name := "<init>", desc := "()V" } : Jvm.MethodName) object_method_1_code (1 : Nat) (Option.none : Option Jvm.ClassFile.FieldType)).before args0 about1 = true := code_word (m := ⟨0, 0⟩) (meth := k0m0) (c := k0c0) (by decide +kernel) rfl rfl rfl (by decide +kernel)
set_option maxRecDepth 65536 in
theorem w_c3 : (Jvm.Cond.code ({ cls := "com/example/quorumweight/quorumweight/model/SplitMix64", name := "next", desc := "()J" } : Jvm.MethodName) prog_51_method_3_code (1 : Nat) (Option.some Jvm.ClassFile.FieldType.long)).before args0 about1 = true := code_word (m := ⟨2, 1⟩) (meth := k2m1) (c := k2c1) (by decide +kernel) rfl rfl rfl (by decide +kernel)
set_option maxRecDepth 65536 in
theorem w_c4 : (Jvm.Cond.code ({ cls := "com/example/quorumweight/quorumweight/model/SplitMix64", name := "mix", desc := "(J)J" } : Jvm.MethodName) prog_51_method_4_code (4 : Nat) (Option.some Jvm.ClassFile.FieldType.long)).before args0 about1 = true := code_word (m := ⟨2, 2⟩) (meth := k2m2) (c := k2c2) (by decide +kernel) rfl rfl rfl (by decide +kernel)
set_option maxRecDepth 65536 in
theorem w_c5 : (Jvm.Cond.code ({ cls := "com/example/quorumweight/quorumweight/model/SplitMix64NextPinLaw", name := "unmix", desc := "(J)J" } : Jvm.MethodName) method_4_code (4 : Nat) (Option.some Jvm.ClassFile.FieldType.long)).before args0 about1 = true := code_word (m := ⟨1, 3⟩) (meth := k1m3) (c := k1c3) (by decide +kernel) rfl rfl rfl (by decide +kernel)
set_option maxRecDepth 65536 in
theorem w_c6 : (Jvm.Cond.code ({ cls := "com/example/quorumweight/quorumweight/model/SplitMix64NextPinLaw", name := "inverse", desc := "(J)J" } : Jvm.MethodName) method_3_code (4 : Nat) (Option.some Jvm.ClassFile.FieldType.long)).before args0 about1 = true := code_word (m := ⟨1, 2⟩) (meth := k1m2) (c := k1c2) (by decide +kernel) rfl rfl rfl (by decide +kernel)
def codes1 : List Jvm.Cond := [Jvm.Cond.code x code maxLocals ret, Jvm.Cond.code ({ cls := "com/example/quorumweight/quorumweight/model/SplitMix64", name := "<init>", desc := "(J)V" } : Jvm.MethodName) prog_51_method_1_code (3 : Nat) (Option.none : Option Jvm.ClassFile.FieldType), Jvm.Cond.code ({ cls := "java/lang/Object", name := "<init>", desc := "()V" } : Jvm.MethodName) object_method_1_code (1 : Nat) (Option.none : Option Jvm.ClassFile.FieldType), Jvm.Cond.code ({ cls := "com/example/quorumweight/quorumweight/model/SplitMix64", name := "next", desc := "()J" } : Jvm.MethodName) prog_51_method_3_code (1 : Nat) (Option.some Jvm.ClassFile.FieldType.long), Jvm.Cond.code ({ cls := "com/example/quorumweight/quorumweight/model/SplitMix64", name := "mix", desc := "(J)J" } : Jvm.MethodName) prog_51_method_4_code (4 : Nat) (Option.some Jvm.ClassFile.FieldType.long), Jvm.Cond.code ({ cls := "com/example/quorumweight/quorumweight/model/SplitMix64NextPinLaw", name := "unmix", desc := "(J)J" } : Jvm.MethodName) method_4_code (4 : Nat) (Option.some Jvm.ClassFile.FieldType.long), Jvm.Cond.code ({ cls := "com/example/quorumweight/quorumweight/model/SplitMix64NextPinLaw", name := "inverse", desc := "(J)J" } : Jvm.MethodName) method_3_code (4 : Nat) (Option.some Jvm.ClassFile.FieldType.long)]
set_option maxRecDepth 65536 in
theorem codes_eq : words1.filter isCode = codes1 := rfl
theorem w_codes : ∀ c ∈ words1.filter isCode, c.before args0 about1 = true := by
  rw [codes_eq]
  intro c hc
  simp only [codes1, List.mem_cons, List.not_mem_nil, or_false] at hc
  rcases hc with rfl | rfl | rfl | rfl | rfl | rfl | rfl
  · exact w_c0
  · exact w_c1
  · exact w_c2
  · exact w_c3
  · exact w_c4
  · exact w_c5
  · exact w_c6
set_option maxRecDepth 65536 in
theorem w_t1 : (words1.take 24).all (fun c => isCode c || c.before args0 about1) = true := by decide +kernel
set_option maxRecDepth 65536 in
theorem w_t2 : (words1.drop 24).all (fun c => isCode c || c.before args0 about1) = true := by decide +kernel
theorem w_tables : (allAtoms (Jvm.Cond.code x code maxLocals ret :: tables_1)).before args0 about1 = true := by
  rw [allAtoms_all]
  show words1.all (fun c => c.before args0 about1) = true
  refine all_split ?_ w_codes
  rw [← List.take_append_drop 24 words1, List.all_append, w_t1, w_t2]
  rfl
set_option maxRecDepth 65536 in
theorem w_case : (Jvm.Cond.and given_1 narrow_1).before args0 about1 = true := by decide +kernel
theorem w_applies : (headSpec (Jvm.Cond.code x code maxLocals ret :: tables_1) room_1).applies x e0.platform about1 = true :=
  (Spec.applies_iff w_frames).mpr ⟨w_running, w_runnable, w_alone, w_named, w_hears, w_ripe, w_room, w_tables⟩
theorem atStart : AtStart classFile x code maxLocals ret World_1 tables_1 room_1 Calls_1 rest_1 Pre_1 launch0 p0 e0 about1 theMethod args0 below0 :=
  ⟨lists_1, trivial, launch0.admits_env _ _ _, launch0.least_env, fairChoices_fair.cas, fairChoices_fair.clock, w_frames, w_args, w_heap, w_applies, trivial, trivial, w_case⟩
end start1
theorem witness_1 : WitnessClaimed_1 := ⟨start1.p0, start1.e0, start1.about1, start1.theMethod, start1.args0, start1.below0, start1.atStart⟩
end Jvm.Pilot.@@N@@
