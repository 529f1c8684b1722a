import JvmDerived
import JvmDerived.Pilot.@@N@@Statement
import JvmDerived.Pilot.@@N@@Code
set_option linter.unusedVariables false
set_option linter.unusedSimpArgs false
namespace Jvm.RoadKit
open Sem ClassFile Op Lib Jvm.Stand Jvm.Free Jvm.LawKit
section New
variable {p : Program} {l : Launch} {e : Env} {R : Room} {s : State} {m : MethodId} {args : Array Value} {below : List Frame} {meth : Method} {c : Code} {T : State} {locs : List Loc} {cells slots : Nat}
theorem retI (X : Stand p l e R s m args below meth c T locs cells slots) (hx : p.tables.exec = Jvm.exec) {pc : Nat} {Ls : Array Slot} {z : Int32} {rest : List Value} (hret : meth.sig.returnType = some .int) (hd : decode c.code pc = .ok (.ireturn, 1)) {fs : List Frame}
    (hl : ∀ (f : JFrame) (acts : List Action), f.method = m → f.locked = none → f.entered = [] → (doReturn e (T.setTop f) acts (some (.int z))).1 = T.setFrames fs) : Steps p.tables e below (T.setTop (mkF m pc Ls (.int z :: rest))) (T.setFrames fs) := by
  have hm' : T.vm.method? m = some meth := X.method'
  have hn : narrow .int (.int z) = .int z := rfl
  show Steps p.tables e below (T.setTop { method := m, pc := pc, locals := Ls, stack := _ :: rest, locked := none }) _
  jvm_step X.here [X.here.top, hx, hd, hm', hret, hn]
  first | (intro acts; rw [hl _ acts rfl rfl rfl]) | rw [hl _ _ rfl rfl rfl]
  exact Steps.refl _
end New
end Jvm.RoadKit
namespace Jvm.Pilot.@@N@@
open Jvm Jvm.ClassFile Sem Op Lib Jvm.Free Jvm.Stand Jvm.LawKit Jvm.RoadKit Bundle Jvm.Pilot.@@N@@.Jvm.D
/-- the same for a part of a walk that comes to the frame F -/
theorem own_via {α : Type} {tb : Tables} {e : Env} {below : List Frame} {A B : State} {P : State → α → Prop} {F : α → JFrame} (h : ∀ t, Steps tb e below A t → Steps tb e below B t) (k : ∃ (T : State) (x : α), P T x ∧ ∀ t, Steps tb e below (T.setTop (F x)) t → Steps tb e below A t) : ∃ (T : State) (x : α), P T x ∧ ∀ t, Steps tb e below (T.setTop (F x)) t → Steps tb e below B t := by
  obtain ⟨T, x, k1, k2⟩ := k
  exact ⟨T, x, k1, fun t q => h t (k2 t q)⟩
theorem own_ns {Z : State} {h : Heap} {a : Addr} {C : String} (F : Exa Z h a C) : ∀ c : Cell, h[a]? = some c → c.vm.isStatics = false := fun c hc => by
  obtain ⟨c1, k, h1, -, -, h4, -⟩ := F
  cases hc.symm.trans h1
  exact h4
theorem own_nsA {Z : State} {h : Heap} {a : Addr} {k : ClassId} {ty : FieldType} {z : Int32} {vs : List Value} {dv : Value} (F : Arv Z h a k ty z vs dv) : ∀ c : Cell, h[a]? = some c → c.vm.isStatics = false := fun c hc => by
  obtain ⟨c1, A, -⟩ := F
  cases hc.symm.trans A.1
  exact A.plain
theorem own_nsF {Z : State} {h : Heap} {a : Addr} {C n d : String} {v : Value} (F : Fld Z h a C n d v) : ∀ c : Cell, h[a]? = some c → c.vm.isStatics = false := fun c hc => by
  obtain ⟨c1, _, _, _, _, h1, _, _, _, h5, _⟩ := F
  cases hc.symm.trans h1
  exact h5
theorem own_neA {Z : State} {a0 : Array Value} {h : Heap} {a b : Addr} {C : String} {n : Nat} {k : ClassId} {ty : FieldType} {z : Int32} {vs : List Value} {dv : Value} (F : Exa Z h a C) (wi : (Cond.instantiable C n).before a0 Z = true) (G : Arv Z h b k ty z vs dv) : a ≠ b := by
  obtain ⟨c1, A, -⟩ := G
  exact ne_arr F wi A
theorem own_staKeep {Z : State} {h h' : Heap} {C n d : String} {v : Value} {ws : List Addr} (F : Sta Z h C n d v) (K : Keep h h' ws) (q : ∀ x ∈ ws, ∀ c : Cell, h[x]? = some c → c.vm.isStatics = false) : Sta Z h' C n d v := by
  obtain ⟨cf, i, k, f, st, cell, h1, h2, h3, h4, h5, h6, h7⟩ := F
  exact ⟨cf, i, k, f, st, cell, h1, h2, h3, h4, K.2.1 st cell h5 (fun hm => by rw [q st hm cell h5] at h6; cases h6), h6, h7⟩
/-- a byte made a byte again -/
theorem own_nb (y : Int32) : y.toInt8.toInt32.toInt8.toInt32 = y.toInt8.toInt32 := by 
  have h1 := c_i2b y
  have h2 := c_i2b (y.toInt8.toInt32)
  apply Int32.toInt_inj.mp
  omega
/-- the walk goes on from A where it comes from B to A -/
theorem own_go {tb : Tables} {e : Env} {below : List Frame} {A B : State} {P : State → Outcome → Prop} (h : ∀ t, Steps tb e below A t → Steps tb e below B t) (k : ∃ t o, Steps tb e below A t ∧ P t o) : ∃ t o, Steps tb e below B t ∧ P t o := by
  obtain ⟨t, o, k1, k2⟩ := k
  exact ⟨t, o, h t k1, k2⟩
theorem own_pd0 : parseMethodDescriptor "(J)J" = some ⟨[.long], some .long⟩ := by decide +kernel
theorem own_t (q1 : Int64) : 100 ≤ ((100 : Int64) + ((q1 &&& (9223372036854775807 : Int64)) - (q1 &&& (9223372036854775807 : Int64)) / (3599901 : Int64) * (3599901 : Int64))).toInt ∧ ((100 : Int64) + ((q1 &&& (9223372036854775807 : Int64)) - (q1 &&& (9223372036854775807 : Int64)) / (3599901 : Int64) * (3599901 : Int64))).toInt ≤ 3600000 := by
  have h1 := c_maskL q1 (9223372036854775807 : Int64) 63 (by decide) (by decide)
  generalize (q1 &&& (9223372036854775807 : Int64)) = y at *
  have h2 := (c_lrem y (3599901 : Int64) 3599901 (by decide)).1 (by omega)
  generalize (y - y / (3599901 : Int64) * (3599901 : Int64)) = z at *
  have h3 := c_ladd (100 : Int64) z
  have h4 := rng64 ((100 : Int64) + z)
  have h5 : (100 : Int64).toInt = 100 := by decide
  omega
theorem own_lo (q1 : Int64) : ¬ ((100 : Int64) + ((q1 &&& (9223372036854775807 : Int64)) - (q1 &&& (9223372036854775807 : Int64)) / (3599901 : Int64) * (3599901 : Int64)) < (100 : Int64)) := fun h => by
  rw [Int64.lt_iff_toInt_lt] at h
  have h5 : (100 : Int64).toInt = 100 := by decide
  have := own_t q1
  omega
theorem own_hi (q1 : Int64) : ¬ ((3600000 : Int64) < (100 : Int64) + ((q1 &&& (9223372036854775807 : Int64)) - (q1 &&& (9223372036854775807 : Int64)) / (3599901 : Int64) * (3599901 : Int64))) := fun h => by
  rw [Int64.lt_iff_toInt_lt] at h
  have h5 : (3600000 : Int64).toInt = 3600000 := by decide
  have := own_t q1
  omega
theorem d1_0 : decode prog_33_method_2_code 0 = .ok (.lload_n 0, 1) := by decide +kernel
theorem d1_1 : decode prog_33_method_2_code 1 = .ok (.ldc2_w 36, 3) := by decide +kernel
theorem d1_4 : decode prog_33_method_2_code 4 = .ok (.lcmp, 1) := by decide +kernel
theorem d1_5 : decode prog_33_method_2_code 5 = .ok (.ifCond .lt 11, 3) := by decide +kernel
theorem d1_8 : decode prog_33_method_2_code 8 = .ok (.lload_n 0, 1) := by decide +kernel
theorem d1_9 : decode prog_33_method_2_code 9 = .ok (.ldc2_w 38, 3) := by decide +kernel
theorem d1_12 : decode prog_33_method_2_code 12 = .ok (.lcmp, 1) := by decide +kernel
theorem d1_13 : decode prog_33_method_2_code 13 = .ok (.ifCond .le 13, 3) := by decide +kernel
theorem d1_26 : decode prog_33_method_2_code 26 = .ok (.lload_n 0, 1) := by decide +kernel
theorem d1_27 : decode prog_33_method_2_code 27 = .ok (.lreturn, 1) := by decide +kernel
theorem own_pn1 : plainName "com/example/quartermaster/quartermaster/Sessions" = true := by first | (simp [plainName, overriddenIn]; done) | decide +kernel
theorem own_ef1 (m : MethodId) (x0 : Int64) : entryFrame m #[(.long x0)] 2 = mkF m 0 #[.val (.long x0), .second] [] := by first | (simp [entryFrame, mkF, argsToLocals, Value.category]; done) | rfl
def Qrm1 (Z : State) (q1 : Int64) (h0 : Heap) (n0 : Nat) (v : Option Value) (h : Heap) (L : List Loc) : Prop := v = some (.long q1) ∧ Fr n0 L ∧ h = h0
set_option maxRecDepth 65536 in
set_option maxHeartbeats 40000000 in
theorem rm1 (l : Launch) (Z : State) (a0 : Array Value) (hw : ∀ d ∈ tables_1, d.before a0 Z = true) (ws : List Jvm.Cond) (q1 : Int64) (h0 : Heap) (n0 : Nat) (Z0 : n0 ≤ h0.size) (hlo : ¬ (lcmpW q1 (100 : Int64) < (0 : Int32))) (hhi : ¬ ((0 : Int32) < lcmpW q1 (3600000 : Int64))) :
    MetFree l (⟨"com/example/quartermaster/quartermaster/Sessions", "requireTtl", "(J)J"⟩ : MethodName) (head1 (Jvm.Cond.code (⟨"com/example/quartermaster/quartermaster/Sessions", "requireTtl", "(J)J"⟩ : MethodName) prog_33_method_2_code 2 (some .long) :: ws) ({ frames := 0, cells := 0, slots := 0, locals := 0 } : Room)) (fun ar_ U_ => ar_ = #[(.long q1)] ∧ Z.Warmed39 U_.vm ∧ U_.heap = h0) (fun _ _ _ _ _ => True) (fun _ U_ ou_ V_ => ∃ v_ L_, ou_ = .returned v_ ∧ Qrm1 Z q1 h0 n0 v_ V_.heap L_ ∧ FrameEnd U_ ou_ V_ L_ ({ frames := 0, cells := 0, slots := 0, locals := 0 } : Room).cells ({ frames := 0, cells := 0, slots := 0, locals := 0 } : Room).slots) := by
  refine MetFree.of_bodySF (plainFor_of_name own_pn1) hisR ?_
  intro p e s m args below meth c s₁ Bd hml0 hP hK
  obtain ⟨rfl, hZ, hh⟩ := hP
  have hx := Bd.exec
  have hby := Bd.bytes
  have hml : c.maxLocals = 2 := hml0
  have hown : s.vm.findClass "com/example/quartermaster/quartermaster/Sessions" = some m.cls := findClass_of_methodNamed Bd.named
  have hnm := (name_of_methodNamed Bd.named Bd.method).1
  have X0 : Stand p l e ({ frames := 0, cells := 0, slots := 0, locals := 0 } : Room) s m #[(.long q1)] below meth c s₁ [] 0 0 := Stand.of_body Bd
  have e0 : s₁.heap = h0 := by rw [← hh, Bd.state]; rfl
  have N0 := Fr.nil n0
  refine own_go (A := s₁.setTop (mkF m 0 #[.val (.long q1), .second] [])) (fun t kz => castTop (own_ef1 m q1) kz) ?_
  refine own_go (A := s₁.setTop (mkF m 27 #[.val (.long q1), .second] [(.long q1)])) (fun _ kz => ?_) ?_
  · show Steps p.tables e below (s₁.setTop (mkF m 0 #[.val (.long q1), .second] [])) _
    refine XS.lloadN X0.here hx rfl (hb hby d1_0) rfl ?_
    show Steps p.tables e below (s₁.setTop (mkF m 1 #[.val (.long q1), .second] [(.long q1)])) _
    refine X0.ldc2Long hx hown (mvT hZ (hw _ (List.mem_of_getElem? (i := 7) rfl))) (g := (mkF m 1 #[.val (.long q1), .second] [(.long q1)])) rfl (hb hby d1_1) _ ?_
    show Steps p.tables e below (s₁.setTop (mkF m 4 #[.val (.long q1), .second] [(.long (100 : Int64)), (.long q1)])) _
    refine XS.lcmp X0.here hx rfl (hb hby d1_4) rfl ?_
    show Steps p.tables e below (s₁.setTop (mkF m 5 #[.val (.long q1), .second] [(.int (lcmpW q1 (100 : Int64)))])) _
    refine XS.ifNo X0.here hx rfl (hb hby d1_5) rfl ((if0 _ _).trans (flt hlo).1) ?_
    show Steps p.tables e below (s₁.setTop (mkF m 8 #[.val (.long q1), .second] [])) _
    refine XS.lloadN X0.here hx rfl (hb hby d1_8) rfl ?_
    show Steps p.tables e below (s₁.setTop (mkF m 9 #[.val (.long q1), .second] [(.long q1)])) _
    refine X0.ldc2Long hx hown (mvT hZ (hw _ (List.mem_of_getElem? (i := 8) rfl))) (g := (mkF m 9 #[.val (.long q1), .second] [(.long q1)])) rfl (hb hby d1_9) _ ?_
    show Steps p.tables e below (s₁.setTop (mkF m 12 #[.val (.long q1), .second] [(.long (3600000 : Int64)), (.long q1)])) _
    refine XS.lcmp X0.here hx rfl (hb hby d1_12) rfl ?_
    show Steps p.tables e below (s₁.setTop (mkF m 13 #[.val (.long q1), .second] [(.int (lcmpW q1 (3600000 : Int64)))])) _
    refine XS.ifYes X0.here hx rfl (pc0 := 13) (pc' := 26) rfl (hb hby d1_13) rfl ((if0 _ _).trans (flt hhi).2.2.2) (by decide) (by decide) ?_
    show Steps p.tables e below (s₁.setTop (mkF m 26 #[.val (.long q1), .second] [])) _
    refine XS.lloadN X0.here hx rfl (hb hby d1_26) rfl ?_
    exact kz
  obtain ⟨fs, hrr, hrun, hended, hW, hsame⟩ := X0.leave (v := some (.long q1)) (fun h => by rw [Bd.returns] at h; cases h)
  refine ⟨_, _, ?_, hrun, hended, _, _, rfl, ?_, ⟨_, rfl⟩, hW, hsame.mono (by decide) (by decide)⟩
  · show Steps p.tables e below (s₁.setTop (mkF m 27 #[.val (.long q1), .second] [(.long q1)])) _
    exact retOut X0 hx (t := .long) Bd.returns rfl (Or.inr (Or.inl ⟨rfl, rfl, _, rfl⟩)) (hb hby d1_27) hrr
  · show Qrm1 Z q1 h0 n0 _ s₁.heap _
    rw [e0]
    exact ⟨rfl, N0, rfl⟩
theorem own_pn0 : plainName "com/example/quartermaster/quartermaster/SessionsRequireTtlPinLaw" = true := by first | (simp [plainName, overriddenIn]; done) | decide +kernel
theorem own_ef0 (m : MethodId) (x0 : Int64) : entryFrame m #[(.long x0)] maxLocals = mkF m 0 #[.val (.long x0), .second, .unset, .unset, .unset, .unset, .unset] [] := by first | (simp [entryFrame, mkF, argsToLocals, Value.category, maxLocals]; done) | rfl
def Qrm0 (Z : State) (q1 : Int64) (h0 : Heap) (n0 : Nat) (v : Option Value) (h : Heap) (L : List Loc) : Prop := v = some (.int 1) ∧ Fr n0 L
set_option maxRecDepth 65536 in
set_option maxHeartbeats 40000000 in
theorem rm0 (l : Launch) (Z : State) (a0 : Array Value) (hw : ∀ d ∈ tables_1, d.before a0 Z = true) (ws : List Jvm.Cond) (q1 : Int64) (h0 : Heap) (n0 : Nat) (Z0 : n0 ≤ h0.size)  :
    MetFree l x (head1 (Jvm.Cond.code x code maxLocals ret :: ws) room_1) (fun ar_ U_ => ar_ = #[(.long q1)] ∧ Z.Warmed39 U_.vm ∧ U_.heap = h0) (fun _ _ _ _ _ => True) (fun _ U_ ou_ V_ => ∃ v_ L_, ou_ = .returned v_ ∧ Qrm0 Z q1 h0 n0 v_ V_.heap L_ ∧ FrameEnd U_ ou_ V_ L_ room_1.cells room_1.slots) := by
  refine MetFree.of_bodySF (plainFor_of_name own_pn0) hisR ?_
  intro p e s m args below meth c s₁ Bd hml0 hP hK
  obtain ⟨rfl, hZ, hh⟩ := hP
  have hx := Bd.exec
  have hby := Bd.bytes
  have hml : c.maxLocals = 7 := hml0
  have hown : s.vm.findClass "com/example/quartermaster/quartermaster/SessionsRequireTtlPinLaw" = some m.cls := findClass_of_methodNamed Bd.named
  have hnm := (name_of_methodNamed Bd.named Bd.method).1
  have X0 : Stand p l e room_1 s m #[(.long q1)] below meth c s₁ [] 0 0 := Stand.of_body Bd
  have e0 : s₁.heap = h0 := by rw [← hh, Bd.state]; rfl
  have N0 := Fr.nil n0
  refine own_go (A := s₁.setTop (mkF m 0 #[.val (.long q1), .second, .unset, .unset, .unset, .unset, .unset] [])) (fun t kz => castTop (own_ef0 m q1) kz) ?_
  refine own_go (A := s₁.setTop (mkF m 15 #[.val (.long q1), .second, .val (.long ((100 : Int64) + ((q1 &&& (9223372036854775807 : Int64)) - (q1 &&& (9223372036854775807 : Int64)) / (3599901 : Int64) * (3599901 : Int64)))), .second, .unset, .unset, .unset] [(.long ((100 : Int64) + ((q1 &&& (9223372036854775807 : Int64)) - (q1 &&& (9223372036854775807 : Int64)) / (3599901 : Int64) * (3599901 : Int64))))])) (fun _ kz => ?_) ?_
  · show Steps p.tables e below (s₁.setTop (mkF m 0 #[.val (.long q1), .second, .unset, .unset, .unset, .unset, .unset] [])) _
    refine X0.ldc2Long hx hown (mvT hZ (hw _ (List.mem_of_getElem? (i := 0) rfl))) (g := (mkF m 0 #[.val (.long q1), .second, .unset, .unset, .unset, .unset, .unset] [])) rfl (hb hby at_0) _ ?_
    show Steps p.tables e below (s₁.setTop (mkF m 3 #[.val (.long q1), .second, .unset, .unset, .unset, .unset, .unset] [(.long (100 : Int64))])) _
    refine XS.lloadN X0.here hx rfl (hb hby at_3) rfl ?_
    show Steps p.tables e below (s₁.setTop (mkF m 4 #[.val (.long q1), .second, .unset, .unset, .unset, .unset, .unset] [(.long q1), (.long (100 : Int64))])) _
    refine X0.ldc2Long hx hown (mvT hZ (hw _ (List.mem_of_getElem? (i := 1) rfl))) (g := (mkF m 4 #[.val (.long q1), .second, .unset, .unset, .unset, .unset, .unset] [(.long q1), (.long (100 : Int64))])) rfl (hb hby at_4) _ ?_
    show Steps p.tables e below (s₁.setTop (mkF m 7 #[.val (.long q1), .second, .unset, .unset, .unset, .unset, .unset] [(.long (9223372036854775807 : Int64)), (.long q1), (.long (100 : Int64))])) _
    refine XS.land X0.here hx rfl (hb hby at_7) rfl ?_
    show Steps p.tables e below (s₁.setTop (mkF m 8 #[.val (.long q1), .second, .unset, .unset, .unset, .unset, .unset] [(.long (q1 &&& (9223372036854775807 : Int64))), (.long (100 : Int64))])) _
    refine X0.ldc2Long hx hown (mvT hZ (hw _ (List.mem_of_getElem? (i := 2) rfl))) (g := (mkF m 8 #[.val (.long q1), .second, .unset, .unset, .unset, .unset, .unset] [(.long (q1 &&& (9223372036854775807 : Int64))), (.long (100 : Int64))])) rfl (hb hby at_8) _ ?_
    show Steps p.tables e below (s₁.setTop (mkF m 11 #[.val (.long q1), .second, .unset, .unset, .unset, .unset, .unset] [(.long (3599901 : Int64)), (.long (q1 &&& (9223372036854775807 : Int64))), (.long (100 : Int64))])) _
    refine XS.lrem X0.here hx rfl (hb hby at_11) rfl (by decide) ?_
    show Steps p.tables e below (s₁.setTop (mkF m 12 #[.val (.long q1), .second, .unset, .unset, .unset, .unset, .unset] [(.long ((q1 &&& (9223372036854775807 : Int64)) - (q1 &&& (9223372036854775807 : Int64)) / (3599901 : Int64) * (3599901 : Int64))), (.long (100 : Int64))])) _
    refine XS.ladd X0.here hx rfl (hb hby at_12) rfl ?_
    show Steps p.tables e below (s₁.setTop (mkF m 13 #[.val (.long q1), .second, .unset, .unset, .unset, .unset, .unset] [(.long ((100 : Int64) + ((q1 &&& (9223372036854775807 : Int64)) - (q1 &&& (9223372036854775807 : Int64)) / (3599901 : Int64) * (3599901 : Int64))))])) _
    refine XS.lstoreN X0.here hx rfl (hb hby at_13) rfl (l' := #[.val (.long q1), .second, .val (.long ((100 : Int64) + ((q1 &&& (9223372036854775807 : Int64)) - (q1 &&& (9223372036854775807 : Int64)) / (3599901 : Int64) * (3599901 : Int64)))), .second, .unset, .unset, .unset]) rfl ?_
    show Steps p.tables e below (s₁.setTop (mkF m 14 #[.val (.long q1), .second, .val (.long ((100 : Int64) + ((q1 &&& (9223372036854775807 : Int64)) - (q1 &&& (9223372036854775807 : Int64)) / (3599901 : Int64) * (3599901 : Int64)))), .second, .unset, .unset, .unset] [])) _
    refine XS.lloadN X0.here hx rfl (hb hby at_14) rfl ?_
    exact kz
  obtain ⟨_, _, ⟨T1, L1, k1, n1⟩, -, X1, ⟨Lc1, hQ1, l1, y1, z1⟩, st1⟩ := Jvm.LawKit.callS X0 hx (y := (⟨"com/example/quartermaster/quartermaster/Sessions", "requireTtl", "(J)J"⟩ : MethodName)) hown (mvT hZ (hw _ (List.mem_of_getElem? (i := 3) rfl))) (mvT hZ (hw _ (List.mem_of_getElem? (i := 4) rfl))) (mvT hZ (hw _ (List.mem_of_getElem? (i := 5) rfl))) (mvT hZ (hw _ (List.mem_of_getElem? (i := 6) rfl))) (by decide) (backOf (W := 0) (rm1 l Z a0 hw [] ((100 : Int64) + ((q1 &&& (9223372036854775807 : Int64)) - (q1 &&& (9223372036854775807 : Int64)) / (3599901 : Int64) * (3599901 : Int64))) h0 n0 Z0 (fun h => own_lo q1 ((lw_lt _ _).mp h)) (fun h => own_hi q1 ((lw_gt _ _).mp h))) hZ (hw _ (List.mem_of_getElem? (i := 6) rfl)) (hw _ (List.mem_of_getElem? (i := 5) rfl)) (by decide) (by decide)) (g := (mkF m 15 #[.val (.long q1), .second, .val (.long ((100 : Int64) + ((q1 &&& (9223372036854775807 : Int64)) - (q1 &&& (9223372036854775807 : Int64)) / (3599901 : Int64) * (3599901 : Int64)))), .second, .unset, .unset, .unset] [(.long ((100 : Int64) + ((q1 &&& (9223372036854775807 : Int64)) - (q1 &&& (9223372036854775807 : Int64)) / (3599901 : Int64) * (3599901 : Int64))))])) rfl (by rw [hml]; rfl) (argsL := [(.long ((100 : Int64) + ((q1 &&& (9223372036854775807 : Int64)) - (q1 &&& (9223372036854775807 : Int64)) / (3599901 : Int64) * (3599901 : Int64))))]) (rest := []) (lenOf own_pd0 rfl) rfl (by show 2 * 0 + _ ≤ _; exact Nat.le_of_eq rfl) (hb hby at_15) (fun _ _ => ⟨rfl, e0, (by decide : 0 + 0 ≤ _), (by decide : 0 + 0 ≤ _)⟩)
  dsimp only [Pt.U, Pt.locs, Pt.cells, Pt.slots] at X1 l1 y1 z1 st1 hQ1
  subst l1 y1 z1
  obtain ⟨rfl, N1q, e1⟩ := hQ1
  have N1 := Fr.app N0 N1q
  refine own_go (A := T1.setTop (mkF m 18 #[.val (.long q1), .second, .val (.long ((100 : Int64) + ((q1 &&& (9223372036854775807 : Int64)) - (q1 &&& (9223372036854775807 : Int64)) / (3599901 : Int64) * (3599901 : Int64)))), .second, .unset, .unset, .unset] [(.long ((100 : Int64) + ((q1 &&& (9223372036854775807 : Int64)) - (q1 &&& (9223372036854775807 : Int64)) / (3599901 : Int64) * (3599901 : Int64))))])) (fun _ kz => st1 _ kz) ?_
  refine own_go (A := T1.setTop (mkF m 33 #[.val (.long q1), .second, .val (.long ((100 : Int64) + ((q1 &&& (9223372036854775807 : Int64)) - (q1 &&& (9223372036854775807 : Int64)) / (3599901 : Int64) * (3599901 : Int64)))), .second, .val (.int (1 : Int32)), .unset, .unset] [(.long (100 : Int64))])) (fun _ kz => ?_) ?_
  · show Steps p.tables e below (T1.setTop (mkF m 18 #[.val (.long q1), .second, .val (.long ((100 : Int64) + ((q1 &&& (9223372036854775807 : Int64)) - (q1 &&& (9223372036854775807 : Int64)) / (3599901 : Int64) * (3599901 : Int64)))), .second, .unset, .unset, .unset] [(.long ((100 : Int64) + ((q1 &&& (9223372036854775807 : Int64)) - (q1 &&& (9223372036854775807 : Int64)) / (3599901 : Int64) * (3599901 : Int64))))])) _
    refine XS.lloadN X1.here hx rfl (hb hby at_18) rfl ?_
    show Steps p.tables e below (T1.setTop (mkF m 19 #[.val (.long q1), .second, .val (.long ((100 : Int64) + ((q1 &&& (9223372036854775807 : Int64)) - (q1 &&& (9223372036854775807 : Int64)) / (3599901 : Int64) * (3599901 : Int64)))), .second, .unset, .unset, .unset] [(.long ((100 : Int64) + ((q1 &&& (9223372036854775807 : Int64)) - (q1 &&& (9223372036854775807 : Int64)) / (3599901 : Int64) * (3599901 : Int64)))), (.long ((100 : Int64) + ((q1 &&& (9223372036854775807 : Int64)) - (q1 &&& (9223372036854775807 : Int64)) / (3599901 : Int64) * (3599901 : Int64))))])) _
    refine XS.lcmp X1.here hx rfl (hb hby at_19) rfl ?_
    show Steps p.tables e below (T1.setTop (mkF m 20 #[.val (.long q1), .second, .val (.long ((100 : Int64) + ((q1 &&& (9223372036854775807 : Int64)) - (q1 &&& (9223372036854775807 : Int64)) / (3599901 : Int64) * (3599901 : Int64)))), .second, .unset, .unset, .unset] [(.int (lcmpW ((100 : Int64) + ((q1 &&& (9223372036854775807 : Int64)) - (q1 &&& (9223372036854775807 : Int64)) / (3599901 : Int64) * (3599901 : Int64))) ((100 : Int64) + ((q1 &&& (9223372036854775807 : Int64)) - (q1 &&& (9223372036854775807 : Int64)) / (3599901 : Int64) * (3599901 : Int64)))))])) _
    refine XS.ifNo X1.here hx rfl (hb hby at_20) rfl ((if0 _ _).trans (teq ((lw_eq _ _).mpr rfl)).2) ?_
    show Steps p.tables e below (T1.setTop (mkF m 23 #[.val (.long q1), .second, .val (.long ((100 : Int64) + ((q1 &&& (9223372036854775807 : Int64)) - (q1 &&& (9223372036854775807 : Int64)) / (3599901 : Int64) * (3599901 : Int64)))), .second, .unset, .unset, .unset] [])) _
    refine XS.iconst X1.here hx rfl (hb hby at_23) ?_
    show Steps p.tables e below (T1.setTop (mkF m 24 #[.val (.long q1), .second, .val (.long ((100 : Int64) + ((q1 &&& (9223372036854775807 : Int64)) - (q1 &&& (9223372036854775807 : Int64)) / (3599901 : Int64) * (3599901 : Int64)))), .second, .unset, .unset, .unset] [(.int (1 : Int32))])) _
    refine XS.goto X1.here hx rfl (pc0 := 24) (pc' := 28) rfl (hb hby at_24) (by decide) (by decide) ?_
    show Steps p.tables e below (T1.setTop (mkF m 28 #[.val (.long q1), .second, .val (.long ((100 : Int64) + ((q1 &&& (9223372036854775807 : Int64)) - (q1 &&& (9223372036854775807 : Int64)) / (3599901 : Int64) * (3599901 : Int64)))), .second, .unset, .unset, .unset] [(.int (1 : Int32))])) _
    refine XS.istore X1.here hx rfl (hb hby at_28) rfl (l' := #[.val (.long q1), .second, .val (.long ((100 : Int64) + ((q1 &&& (9223372036854775807 : Int64)) - (q1 &&& (9223372036854775807 : Int64)) / (3599901 : Int64) * (3599901 : Int64)))), .second, .val (.int (1 : Int32)), .unset, .unset]) rfl ?_
    show Steps p.tables e below (T1.setTop (mkF m 30 #[.val (.long q1), .second, .val (.long ((100 : Int64) + ((q1 &&& (9223372036854775807 : Int64)) - (q1 &&& (9223372036854775807 : Int64)) / (3599901 : Int64) * (3599901 : Int64)))), .second, .val (.int (1 : Int32)), .unset, .unset] [])) _
    refine X1.ldc2Long hx hown (mvT hZ (hw _ (List.mem_of_getElem? (i := 0) rfl))) (g := (mkF m 30 #[.val (.long q1), .second, .val (.long ((100 : Int64) + ((q1 &&& (9223372036854775807 : Int64)) - (q1 &&& (9223372036854775807 : Int64)) / (3599901 : Int64) * (3599901 : Int64)))), .second, .val (.int (1 : Int32)), .unset, .unset] [])) rfl (hb hby at_30) _ ?_
    exact kz
  obtain ⟨_, _, ⟨T2, L2, k2, n2⟩, -, X2, ⟨Lc2, hQ2, l2, y2, z2⟩, st2⟩ := Jvm.LawKit.callS X1 hx (y := (⟨"com/example/quartermaster/quartermaster/Sessions", "requireTtl", "(J)J"⟩ : MethodName)) hown (mvT hZ (hw _ (List.mem_of_getElem? (i := 3) rfl))) (mvT hZ (hw _ (List.mem_of_getElem? (i := 4) rfl))) (mvT hZ (hw _ (List.mem_of_getElem? (i := 5) rfl))) (mvT hZ (hw _ (List.mem_of_getElem? (i := 6) rfl))) (by decide) (backOf (W := 0) (rm1 l Z a0 hw [] (100 : Int64) h0 n0 Z0 (by decide) (by decide)) hZ (hw _ (List.mem_of_getElem? (i := 6) rfl)) (hw _ (List.mem_of_getElem? (i := 5) rfl)) (by decide) (by decide)) (g := (mkF m 33 #[.val (.long q1), .second, .val (.long ((100 : Int64) + ((q1 &&& (9223372036854775807 : Int64)) - (q1 &&& (9223372036854775807 : Int64)) / (3599901 : Int64) * (3599901 : Int64)))), .second, .val (.int (1 : Int32)), .unset, .unset] [(.long (100 : Int64))])) rfl (by rw [hml]; rfl) (argsL := [(.long (100 : Int64))]) (rest := []) (lenOf own_pd0 rfl) rfl (by show 2 * 0 + _ ≤ _; exact Nat.le_of_eq rfl) (hb hby at_33) (fun _ _ => ⟨rfl, e1, (by decide : 0 + 0 ≤ _), (by decide : 0 + 0 ≤ _)⟩)
  dsimp only [Pt.U, Pt.locs, Pt.cells, Pt.slots] at X2 l2 y2 z2 st2 hQ2
  subst l2 y2 z2
  obtain ⟨rfl, N2q, e2⟩ := hQ2
  have N2 := Fr.app N1 N2q
  refine own_go (A := T2.setTop (mkF m 36 #[.val (.long q1), .second, .val (.long ((100 : Int64) + ((q1 &&& (9223372036854775807 : Int64)) - (q1 &&& (9223372036854775807 : Int64)) / (3599901 : Int64) * (3599901 : Int64)))), .second, .val (.int (1 : Int32)), .unset, .unset] [(.long (100 : Int64))])) (fun _ kz => st2 _ kz) ?_
  refine own_go (A := T2.setTop (mkF m 53 #[.val (.long q1), .second, .val (.long ((100 : Int64) + ((q1 &&& (9223372036854775807 : Int64)) - (q1 &&& (9223372036854775807 : Int64)) / (3599901 : Int64) * (3599901 : Int64)))), .second, .val (.int (1 : Int32)), .val (.int (1 : Int32)), .unset] [(.long (3600000 : Int64))])) (fun _ kz => ?_) ?_
  · show Steps p.tables e below (T2.setTop (mkF m 36 #[.val (.long q1), .second, .val (.long ((100 : Int64) + ((q1 &&& (9223372036854775807 : Int64)) - (q1 &&& (9223372036854775807 : Int64)) / (3599901 : Int64) * (3599901 : Int64)))), .second, .val (.int (1 : Int32)), .unset, .unset] [(.long (100 : Int64))])) _
    refine X2.ldc2Long hx hown (mvT hZ (hw _ (List.mem_of_getElem? (i := 0) rfl))) (g := (mkF m 36 #[.val (.long q1), .second, .val (.long ((100 : Int64) + ((q1 &&& (9223372036854775807 : Int64)) - (q1 &&& (9223372036854775807 : Int64)) / (3599901 : Int64) * (3599901 : Int64)))), .second, .val (.int (1 : Int32)), .unset, .unset] [(.long (100 : Int64))])) rfl (hb hby at_36) _ ?_
    show Steps p.tables e below (T2.setTop (mkF m 39 #[.val (.long q1), .second, .val (.long ((100 : Int64) + ((q1 &&& (9223372036854775807 : Int64)) - (q1 &&& (9223372036854775807 : Int64)) / (3599901 : Int64) * (3599901 : Int64)))), .second, .val (.int (1 : Int32)), .unset, .unset] [(.long (100 : Int64)), (.long (100 : Int64))])) _
    refine XS.lcmp X2.here hx rfl (hb hby at_39) rfl ?_
    show Steps p.tables e below (T2.setTop (mkF m 40 #[.val (.long q1), .second, .val (.long ((100 : Int64) + ((q1 &&& (9223372036854775807 : Int64)) - (q1 &&& (9223372036854775807 : Int64)) / (3599901 : Int64) * (3599901 : Int64)))), .second, .val (.int (1 : Int32)), .unset, .unset] [(.int (lcmpW (100 : Int64) (100 : Int64)))])) _
    refine XS.ifNo X2.here hx rfl (hb hby at_40) rfl ((if0 _ _).trans (teq ((lw_eq _ _).mpr rfl)).2) ?_
    show Steps p.tables e below (T2.setTop (mkF m 43 #[.val (.long q1), .second, .val (.long ((100 : Int64) + ((q1 &&& (9223372036854775807 : Int64)) - (q1 &&& (9223372036854775807 : Int64)) / (3599901 : Int64) * (3599901 : Int64)))), .second, .val (.int (1 : Int32)), .unset, .unset] [])) _
    refine XS.iconst X2.here hx rfl (hb hby at_43) ?_
    show Steps p.tables e below (T2.setTop (mkF m 44 #[.val (.long q1), .second, .val (.long ((100 : Int64) + ((q1 &&& (9223372036854775807 : Int64)) - (q1 &&& (9223372036854775807 : Int64)) / (3599901 : Int64) * (3599901 : Int64)))), .second, .val (.int (1 : Int32)), .unset, .unset] [(.int (1 : Int32))])) _
    refine XS.goto X2.here hx rfl (pc0 := 44) (pc' := 48) rfl (hb hby at_44) (by decide) (by decide) ?_
    show Steps p.tables e below (T2.setTop (mkF m 48 #[.val (.long q1), .second, .val (.long ((100 : Int64) + ((q1 &&& (9223372036854775807 : Int64)) - (q1 &&& (9223372036854775807 : Int64)) / (3599901 : Int64) * (3599901 : Int64)))), .second, .val (.int (1 : Int32)), .unset, .unset] [(.int (1 : Int32))])) _
    refine XS.istore X2.here hx rfl (hb hby at_48) rfl (l' := #[.val (.long q1), .second, .val (.long ((100 : Int64) + ((q1 &&& (9223372036854775807 : Int64)) - (q1 &&& (9223372036854775807 : Int64)) / (3599901 : Int64) * (3599901 : Int64)))), .second, .val (.int (1 : Int32)), .val (.int (1 : Int32)), .unset]) rfl ?_
    show Steps p.tables e below (T2.setTop (mkF m 50 #[.val (.long q1), .second, .val (.long ((100 : Int64) + ((q1 &&& (9223372036854775807 : Int64)) - (q1 &&& (9223372036854775807 : Int64)) / (3599901 : Int64) * (3599901 : Int64)))), .second, .val (.int (1 : Int32)), .val (.int (1 : Int32)), .unset] [])) _
    refine X2.ldc2Long hx hown (mvT hZ (hw _ (List.mem_of_getElem? (i := 9) rfl))) (g := (mkF m 50 #[.val (.long q1), .second, .val (.long ((100 : Int64) + ((q1 &&& (9223372036854775807 : Int64)) - (q1 &&& (9223372036854775807 : Int64)) / (3599901 : Int64) * (3599901 : Int64)))), .second, .val (.int (1 : Int32)), .val (.int (1 : Int32)), .unset] [])) rfl (hb hby at_50) _ ?_
    exact kz
  obtain ⟨_, _, ⟨T3, L3, k3, n3⟩, -, X3, ⟨Lc3, hQ3, l3, y3, z3⟩, st3⟩ := Jvm.LawKit.callS X2 hx (y := (⟨"com/example/quartermaster/quartermaster/Sessions", "requireTtl", "(J)J"⟩ : MethodName)) hown (mvT hZ (hw _ (List.mem_of_getElem? (i := 3) rfl))) (mvT hZ (hw _ (List.mem_of_getElem? (i := 4) rfl))) (mvT hZ (hw _ (List.mem_of_getElem? (i := 5) rfl))) (mvT hZ (hw _ (List.mem_of_getElem? (i := 6) rfl))) (by decide) (backOf (W := 0) (rm1 l Z a0 hw [] (3600000 : Int64) h0 n0 Z0 (by decide) (by decide)) hZ (hw _ (List.mem_of_getElem? (i := 6) rfl)) (hw _ (List.mem_of_getElem? (i := 5) rfl)) (by decide) (by decide)) (g := (mkF m 53 #[.val (.long q1), .second, .val (.long ((100 : Int64) + ((q1 &&& (9223372036854775807 : Int64)) - (q1 &&& (9223372036854775807 : Int64)) / (3599901 : Int64) * (3599901 : Int64)))), .second, .val (.int (1 : Int32)), .val (.int (1 : Int32)), .unset] [(.long (3600000 : Int64))])) rfl (by rw [hml]; rfl) (argsL := [(.long (3600000 : Int64))]) (rest := []) (lenOf own_pd0 rfl) rfl (by show 2 * 0 + _ ≤ _; exact Nat.le_of_eq rfl) (hb hby at_53) (fun _ _ => ⟨rfl, e2, (by decide : 0 + 0 ≤ _), (by decide : 0 + 0 ≤ _)⟩)
  dsimp only [Pt.U, Pt.locs, Pt.cells, Pt.slots] at X3 l3 y3 z3 st3 hQ3
  subst l3 y3 z3
  obtain ⟨rfl, N3q, e3⟩ := hQ3
  have N3 := Fr.app N2 N3q
  refine own_go (A := T3.setTop (mkF m 56 #[.val (.long q1), .second, .val (.long ((100 : Int64) + ((q1 &&& (9223372036854775807 : Int64)) - (q1 &&& (9223372036854775807 : Int64)) / (3599901 : Int64) * (3599901 : Int64)))), .second, .val (.int (1 : Int32)), .val (.int (1 : Int32)), .unset] [(.long (3600000 : Int64))])) (fun _ kz => st3 _ kz) ?_
  refine own_go (A := T3.setTop (mkF m 90 #[.val (.long q1), .second, .val (.long ((100 : Int64) + ((q1 &&& (9223372036854775807 : Int64)) - (q1 &&& (9223372036854775807 : Int64)) / (3599901 : Int64) * (3599901 : Int64)))), .second, .val (.int (1 : Int32)), .val (.int (1 : Int32)), .val (.int (1 : Int32))] [(.int (1 : Int32))])) (fun _ kz => ?_) ?_
  · show Steps p.tables e below (T3.setTop (mkF m 56 #[.val (.long q1), .second, .val (.long ((100 : Int64) + ((q1 &&& (9223372036854775807 : Int64)) - (q1 &&& (9223372036854775807 : Int64)) / (3599901 : Int64) * (3599901 : Int64)))), .second, .val (.int (1 : Int32)), .val (.int (1 : Int32)), .unset] [(.long (3600000 : Int64))])) _
    refine X3.ldc2Long hx hown (mvT hZ (hw _ (List.mem_of_getElem? (i := 9) rfl))) (g := (mkF m 56 #[.val (.long q1), .second, .val (.long ((100 : Int64) + ((q1 &&& (9223372036854775807 : Int64)) - (q1 &&& (9223372036854775807 : Int64)) / (3599901 : Int64) * (3599901 : Int64)))), .second, .val (.int (1 : Int32)), .val (.int (1 : Int32)), .unset] [(.long (3600000 : Int64))])) rfl (hb hby at_56) _ ?_
    show Steps p.tables e below (T3.setTop (mkF m 59 #[.val (.long q1), .second, .val (.long ((100 : Int64) + ((q1 &&& (9223372036854775807 : Int64)) - (q1 &&& (9223372036854775807 : Int64)) / (3599901 : Int64) * (3599901 : Int64)))), .second, .val (.int (1 : Int32)), .val (.int (1 : Int32)), .unset] [(.long (3600000 : Int64)), (.long (3600000 : Int64))])) _
    refine XS.lcmp X3.here hx rfl (hb hby at_59) rfl ?_
    show Steps p.tables e below (T3.setTop (mkF m 60 #[.val (.long q1), .second, .val (.long ((100 : Int64) + ((q1 &&& (9223372036854775807 : Int64)) - (q1 &&& (9223372036854775807 : Int64)) / (3599901 : Int64) * (3599901 : Int64)))), .second, .val (.int (1 : Int32)), .val (.int (1 : Int32)), .unset] [(.int (lcmpW (3600000 : Int64) (3600000 : Int64)))])) _
    refine XS.ifNo X3.here hx rfl (hb hby at_60) rfl ((if0 _ _).trans (teq ((lw_eq _ _).mpr rfl)).2) ?_
    show Steps p.tables e below (T3.setTop (mkF m 63 #[.val (.long q1), .second, .val (.long ((100 : Int64) + ((q1 &&& (9223372036854775807 : Int64)) - (q1 &&& (9223372036854775807 : Int64)) / (3599901 : Int64) * (3599901 : Int64)))), .second, .val (.int (1 : Int32)), .val (.int (1 : Int32)), .unset] [])) _
    refine XS.iconst X3.here hx rfl (hb hby at_63) ?_
    show Steps p.tables e below (T3.setTop (mkF m 64 #[.val (.long q1), .second, .val (.long ((100 : Int64) + ((q1 &&& (9223372036854775807 : Int64)) - (q1 &&& (9223372036854775807 : Int64)) / (3599901 : Int64) * (3599901 : Int64)))), .second, .val (.int (1 : Int32)), .val (.int (1 : Int32)), .unset] [(.int (1 : Int32))])) _
    refine XS.goto X3.here hx rfl (pc0 := 64) (pc' := 68) rfl (hb hby at_64) (by decide) (by decide) ?_
    show Steps p.tables e below (T3.setTop (mkF m 68 #[.val (.long q1), .second, .val (.long ((100 : Int64) + ((q1 &&& (9223372036854775807 : Int64)) - (q1 &&& (9223372036854775807 : Int64)) / (3599901 : Int64) * (3599901 : Int64)))), .second, .val (.int (1 : Int32)), .val (.int (1 : Int32)), .unset] [(.int (1 : Int32))])) _
    refine XS.istore X3.here hx rfl (hb hby at_68) rfl (l' := #[.val (.long q1), .second, .val (.long ((100 : Int64) + ((q1 &&& (9223372036854775807 : Int64)) - (q1 &&& (9223372036854775807 : Int64)) / (3599901 : Int64) * (3599901 : Int64)))), .second, .val (.int (1 : Int32)), .val (.int (1 : Int32)), .val (.int (1 : Int32))]) rfl ?_
    show Steps p.tables e below (T3.setTop (mkF m 70 #[.val (.long q1), .second, .val (.long ((100 : Int64) + ((q1 &&& (9223372036854775807 : Int64)) - (q1 &&& (9223372036854775807 : Int64)) / (3599901 : Int64) * (3599901 : Int64)))), .second, .val (.int (1 : Int32)), .val (.int (1 : Int32)), .val (.int (1 : Int32))] [])) _
    refine XS.iload X3.here hx rfl (hb hby at_70) rfl ?_
    show Steps p.tables e below (T3.setTop (mkF m 72 #[.val (.long q1), .second, .val (.long ((100 : Int64) + ((q1 &&& (9223372036854775807 : Int64)) - (q1 &&& (9223372036854775807 : Int64)) / (3599901 : Int64) * (3599901 : Int64)))), .second, .val (.int (1 : Int32)), .val (.int (1 : Int32)), .val (.int (1 : Int32))] [(.int (1 : Int32))])) _
    refine XS.ifNo X3.here hx rfl (hb hby at_72) rfl ((if0 _ _).trans (feq (by decide : ¬ ((1 : Int32) = (0 : Int32)))).1) ?_
    show Steps p.tables e below (T3.setTop (mkF m 75 #[.val (.long q1), .second, .val (.long ((100 : Int64) + ((q1 &&& (9223372036854775807 : Int64)) - (q1 &&& (9223372036854775807 : Int64)) / (3599901 : Int64) * (3599901 : Int64)))), .second, .val (.int (1 : Int32)), .val (.int (1 : Int32)), .val (.int (1 : Int32))] [])) _
    refine XS.iload X3.here hx rfl (hb hby at_75) rfl ?_
    show Steps p.tables e below (T3.setTop (mkF m 77 #[.val (.long q1), .second, .val (.long ((100 : Int64) + ((q1 &&& (9223372036854775807 : Int64)) - (q1 &&& (9223372036854775807 : Int64)) / (3599901 : Int64) * (3599901 : Int64)))), .second, .val (.int (1 : Int32)), .val (.int (1 : Int32)), .val (.int (1 : Int32))] [(.int (1 : Int32))])) _
    refine XS.ifNo X3.here hx rfl (hb hby at_77) rfl ((if0 _ _).trans (feq (by decide : ¬ ((1 : Int32) = (0 : Int32)))).1) ?_
    show Steps p.tables e below (T3.setTop (mkF m 80 #[.val (.long q1), .second, .val (.long ((100 : Int64) + ((q1 &&& (9223372036854775807 : Int64)) - (q1 &&& (9223372036854775807 : Int64)) / (3599901 : Int64) * (3599901 : Int64)))), .second, .val (.int (1 : Int32)), .val (.int (1 : Int32)), .val (.int (1 : Int32))] [])) _
    refine XS.iload X3.here hx rfl (hb hby at_80) rfl ?_
    show Steps p.tables e below (T3.setTop (mkF m 82 #[.val (.long q1), .second, .val (.long ((100 : Int64) + ((q1 &&& (9223372036854775807 : Int64)) - (q1 &&& (9223372036854775807 : Int64)) / (3599901 : Int64) * (3599901 : Int64)))), .second, .val (.int (1 : Int32)), .val (.int (1 : Int32)), .val (.int (1 : Int32))] [(.int (1 : Int32))])) _
    refine XS.ifNo X3.here hx rfl (hb hby at_82) rfl ((if0 _ _).trans (feq (by decide : ¬ ((1 : Int32) = (0 : Int32)))).1) ?_
    show Steps p.tables e below (T3.setTop (mkF m 85 #[.val (.long q1), .second, .val (.long ((100 : Int64) + ((q1 &&& (9223372036854775807 : Int64)) - (q1 &&& (9223372036854775807 : Int64)) / (3599901 : Int64) * (3599901 : Int64)))), .second, .val (.int (1 : Int32)), .val (.int (1 : Int32)), .val (.int (1 : Int32))] [])) _
    refine XS.iconst X3.here hx rfl (hb hby at_85) ?_
    show Steps p.tables e below (T3.setTop (mkF m 86 #[.val (.long q1), .second, .val (.long ((100 : Int64) + ((q1 &&& (9223372036854775807 : Int64)) - (q1 &&& (9223372036854775807 : Int64)) / (3599901 : Int64) * (3599901 : Int64)))), .second, .val (.int (1 : Int32)), .val (.int (1 : Int32)), .val (.int (1 : Int32))] [(.int (1 : Int32))])) _
    refine XS.goto X3.here hx rfl (pc0 := 86) (pc' := 90) rfl (hb hby at_86) (by decide) (by decide) ?_
    exact kz
  obtain ⟨fs, hrr, hrun, hended, hW, hsame⟩ := X3.leave (v := some (.int (1 : Int32))) (fun h => by rw [Bd.returns] at h; cases h)
  refine ⟨_, _, ?_, hrun, hended, _, _, rfl, ?_, ⟨_, rfl⟩, hW, hsame.mono (by decide) (by decide)⟩
  · show Steps p.tables e below (T3.setTop (mkF m 90 #[.val (.long q1), .second, .val (.long ((100 : Int64) + ((q1 &&& (9223372036854775807 : Int64)) - (q1 &&& (9223372036854775807 : Int64)) / (3599901 : Int64) * (3599901 : Int64)))), .second, .val (.int (1 : Int32)), .val (.int (1 : Int32)), .val (.int (1 : Int32))] [(.int (1 : Int32))])) _
    exact retN X3 hx (t := .boolean) Bd.returns (by simp) (hb hby at_90) hrr
  · show Qrm0 Z q1 h0 n0 _ T3.heap _
    rw [e3]
    exact ⟨rfl, N3⟩
set_option maxRecDepth 65536 in
set_option maxHeartbeats 40000000 in
theorem comes_1 {Post : Tables → Env → Array Value → State → Outcome → State → Prop} (hpost : ∀ tb e args s v u, (limb_1_1.after args s (.returned v) u = true ∧ limb_1_2.after args s (.returned v) u = true ∧ True) → FrameEnd s (.returned v) u (Jvm.fieldLocs frame_1_writes args s ++ Jvm.arrayLocs frame_1_arrays args s ++ Jvm.staticLocs frame_1_statics s) 0 0 → Post tb e args s (.returned v) u) :
    ArmFor flags0 classFile x code maxLocals ret World_1 tables_1 room_1 Calls_1 rest_1 Pre_1 Post := by
  intro l hfl _ _ p e ha hc hk s m args below hf hA hF happ hP
  obtain ⟨hcalls, hrest, hpre⟩ := hP
  obtain ⟨-, -, -, hnamed, -, -, -, hat⟩ := (Spec.applies_iff hf).mp happ
  obtain ⟨hg, hn⟩ := and_e (Cond.before_iff.mp (show (Jvm.Cond.and given_1 narrow_1).before args s = true from hpre))
  obtain ⟨hcnt, hg1⟩ := and_e hg
  obtain ⟨w0, rfl⟩ : ∃ w0 : Value, args = #[w0] := by
    have hs : args.size = 1 := by simpa [Cond.value, given_1] using hcnt
    obtain ⟨L⟩ := args
    match L, hs with
    | [w0], _ => exact ⟨w0, rfl⟩
  have hw := fun d (hd : d ∈ tables_1) => atoms_spec (ws := Jvm.Cond.code x code maxLocals ret :: tables_1) hat d (List.mem_cons_of_mem _ hd)
  have hfit : Fit s := fun {y c} hc i hi => by
    obtain ⟨ha, rfl⟩ := Array.getElem?_eq_some_iff.mp hc
    have q := List.all_eq_true.mp ((Array.all_eq_true_iff_forall_mem.mp hF) _ (Array.getElem_mem ha)) i (List.mem_range.mpr hi)
    simpa [Array.getElem?_eq_getElem hi] using q
  obtain ⟨i0, ei0⟩ := isL_v hg1
  obtain rfl : w0 = (.long i0) := Option.some.inj ei0
  obtain ⟨n, o, h1, h2, h3, _, L, rfl, ⟨rfl, N⟩, hq⟩ := rm0 l s _ hw tables_1 i0  s.heap s.heap.size (Nat.le_refl _)  p e ha hc hk s m _ below hf ((Spec.applies_iff_loose hf).mp happ).1 ⟨rfl, State.Warmed39.refl s, rfl⟩ trivial
  refine ⟨n, _, h1, h2, h3, hpost _ _ _ _ _ _ ⟨Cond.after_iff.mpr rfl, Cond.after_iff.mpr (eq_i res_at (Term.int_eval (1)) rfl), trivial⟩ ⟨hq.1, hq.2.1, (hq.2.2.sift fun y hy => Or.inr (N y hy)).mono (by decide) (by decide)⟩⟩
theorem main_1_1 : Claimed_1_1 := comes_1 fun _ _ _ _ _ _ h hF => ⟨h.1, hF⟩
theorem main_1_2 : Claimed_1_2 := comes_1 fun _ _ _ _ _ _ h hF => ⟨h.2.1, hF⟩
end Jvm.Pilot.@@N@@
namespace Jvm.Pilot.@@N@@
open Jvm Jvm.ClassFile Sem Op Lib Jvm.Free Jvm.Stand Jvm.Pilot.@@N@@.Jvm.D
/-! MADE BY PROGRAM (witnessworld.py) out of the Statement's table words and the real class files: 9 classes; the members and pool entries that the words name. The judged class is class 1, her method 1. -/
namespace start1
open Jvm.ClassFile
def u (s : String) : CpInfo := .utf8 (stringToUtf16 s)
/-- a pool by its gaps: so many unusable entries, then the entry; so many at the end -/
def gap : Nat → List CpInfo → List CpInfo
  | 0, r => r
  | n + 1, r => .unusable :: gap n r
def poolList (es : List (Nat × CpInfo)) (last : Nat) : List CpInfo := es.foldr (fun e r => gap e.1 (e.2 :: r)) (gap last [])
def pool (es : List (Nat × CpInfo)) (last : Nat) : Array CpInfo := ⟨poolList es last⟩
def fileOf (pool : Array CpInfo) (this : Nat) (attrs : Array Attribute := #[]) (ms : Array MethodInfo := #[]) (fl : Nat := 33) (sup : Nat := 0) (ifs : Array Nat := #[]) (fds : Array FieldInfo := #[]) : ClassFile where
  minorVersion := 0
  majorVersion := 65
  constantPool := pool
  accessFlags := fl
  thisClass := this
  superClass := sup
  interfaces := ifs
  fields := fds
  methods := ms
  attributes := attrs
def plain (name : String) (sup : Option ClassId) : Class where
  name := name
  kind := .ordinary
  loader := none
  accessFlags := 33
  super := sup
  interfaces := #[]
  cf := none
  fields := #[]
  methods := #[]
  instanceTypes := #[]
  staticTypes := #[]
  resolved := #[]
  callSites := []
  init := .initialized
  statics := none
  mirror := none

def pool0 : Array CpInfo := pool [(5, u "<init>"), (0, u "()V"), (1, .class_ 10), (1, u "java/lang/Object")] 113

def k0m0 : Method := { name := "<init>", desc := "()V", sig := { parameters := [], returnType := none }, accessFlags := 1, code := none }
/-- java/lang/Object -/
def k0 : Class := { plain "java/lang/Object" none with
  accessFlags := 33
  interfaces := #[]
  cf := some (fileOf pool0 8 #[] #[{ accessFlags := 1, nameIndex := 5, descriptorIndex := 6, attributes := #[] }] 33 0 #[] #[])
  fields := #[]
  methods := #[k0m0]
  instanceTypes := #[]
  staticTypes := #[]
  resolved := Array.replicate 124 none
  statics := none }

def pool1 : Array CpInfo := pool [(2, .class_ 4), (1, u "java/lang/Object"), (0, u "<init>"), (0, u "()V"), (0, .long 100), (3, .long 9223372036854775807), (1, .long 3599901), (1, .methodref 16 17), (0, .class_ 18), (0, .nameAndType 19 20), (0, u "com/example/quartermaster/quartermaster/Sessions"), (0, u "requireTtl"), (0, u "(J)J"), (0, .long 3600000), (1, .class_ 24), (0, u "com/example/quartermaster/quartermaster/SessionsRequireTtlPinLaw"), (2, u "law"), (0, u "(J)Z")] 3

def k1m0 : Method := { name := "<init>", desc := "()V", sig := { parameters := [], returnType := none }, accessFlags := 2, code := none }
def k1c1 : Code := { maxStack := 6, maxLocals := 7, code := code, exceptionTable := #[], attributes := #[] }
def k1m1 : Method := { name := "law", desc := "(J)Z", sig := { parameters := [.long], returnType := some .boolean }, accessFlags := 9, code := some k1c1 }
/-- com/example/quartermaster/quartermaster/SessionsRequireTtlPinLaw -/
def k1 : Class := { plain "com/example/quartermaster/quartermaster/SessionsRequireTtlPinLaw" (some 0) with
  accessFlags := 49
  interfaces := #[]
  cf := some (fileOf pool1 23 #[] #[{ accessFlags := 2, nameIndex := 5, descriptorIndex := 6, attributes := #[] }, { accessFlags := 9, nameIndex := 27, descriptorIndex := 28, attributes := #[] }] 49 2 #[] #[])
  fields := #[]
  methods := #[k1m0, k1m1]
  instanceTypes := #[]
  staticTypes := #[]
  resolved := Array.replicate 32 none
  statics := none }

def pool2 : Array CpInfo := pool [(2, .class_ 4), (1, u "java/lang/Object"), (6, .class_ 13), (1, u "com/example/quartermaster/quartermaster/Sessions"), (0, u "open"), (0, u "Ljava/util/Map;"), (4, u "BY_DEADLINE"), (0, u "Ljava/util/Comparator;"), (5, u "byDeadline"), (0, u "Ljava/util/TreeSet;"), (2, u "ofRequest"), (2, u "clock"), (0, u "Ljava/util/function/LongSupplier;"), (0, .long 100), (1, .long 3600000), (14, .class_ 54), (0, u "com/example/quartermaster/quartermaster/Sessions$Session"), (81, u "J"), (46, u "(J)J"), (30, u "MIN_TTL_MILLIS"), (1, u "MAX_TTL_MILLIS"), (7, u "requireTtl")] 61

def k2c0 : Code := { maxStack := 4, maxLocals := 2, code := prog_33_method_2_code, exceptionTable := #[], attributes := #[] }
def k2m0 : Method := { name := "requireTtl", desc := "(J)J", sig := { parameters := [.long], returnType := some .long }, accessFlags := 8, code := some k2c0 }
/-- com/example/quartermaster/quartermaster/Sessions -/
def k2 : Class := { plain "com/example/quartermaster/quartermaster/Sessions" (some 0) with
  accessFlags := 48
  interfaces := #[]
  cf := some (fileOf pool2 11 #[.nestMembers #[53]] #[{ accessFlags := 8, nameIndex := 224, descriptorIndex := 183, attributes := #[] }] 48 2 #[] #[{ accessFlags := 24, nameIndex := 214, descriptorIndex := 136, attributes := #[] }, { accessFlags := 24, nameIndex := 216, descriptorIndex := 136, attributes := #[] }, { accessFlags := 26, nameIndex := 20, descriptorIndex := 21, attributes := #[] }, { accessFlags := 18, nameIndex := 34, descriptorIndex := 35, attributes := #[] }, { accessFlags := 18, nameIndex := 14, descriptorIndex := 15, attributes := #[] }, { accessFlags := 18, nameIndex := 27, descriptorIndex := 28, attributes := #[] }, { accessFlags := 18, nameIndex := 31, descriptorIndex := 15, attributes := #[] }])
  fields := #[{ name := "MIN_TTL_MILLIS", type := .long, accessFlags := 24, slot := 0, constantValue := 0 }, { name := "MAX_TTL_MILLIS", type := .long, accessFlags := 24, slot := 1, constantValue := 0 }, { name := "BY_DEADLINE", type := (.object "java/util/Comparator"), accessFlags := 26, slot := 2, constantValue := 0 }, { name := "clock", type := (.object "java/util/function/LongSupplier"), accessFlags := 18, slot := 0, constantValue := 0 }, { name := "open", type := (.object "java/util/Map"), accessFlags := 18, slot := 1, constantValue := 0 }, { name := "byDeadline", type := (.object "java/util/TreeSet"), accessFlags := 18, slot := 2, constantValue := 0 }, { name := "ofRequest", type := (.object "java/util/Map"), accessFlags := 18, slot := 3, constantValue := 0 }]
  methods := #[k2m0]
  instanceTypes := #[(.object "java/util/function/LongSupplier"), (.object "java/util/Map"), (.object "java/util/TreeSet"), (.object "java/util/Map")]
  staticTypes := #[.long, .long, (.object "java/util/Comparator")]
  resolved := Array.replicate 286 none
  statics := none }

def pool3 : Array CpInfo := pool [(1, u "java/lang/Cloneable"), (0, .class_ 1), (0, u "java/lang/Object"), (0, .class_ 3)] 3

/-- java/lang/Cloneable -/
def k3 : Class := { plain "java/lang/Cloneable" (some 0) with
  accessFlags := 1537
  interfaces := #[]
  cf := some (fileOf pool3 2 #[] #[] 1537 4 #[] #[])
  fields := #[]
  methods := #[]
  instanceTypes := #[]
  staticTypes := #[]
  resolved := Array.replicate 8 none
  statics := none }

def pool4 : Array CpInfo := pool [(1, u "java/io/Serializable"), (0, .class_ 1), (0, u "java/lang/Object"), (0, .class_ 3)] 3

/-- java/io/Serializable -/
def k4 : Class := { plain "java/io/Serializable" (some 0) with
  accessFlags := 1537
  interfaces := #[]
  cf := some (fileOf pool4 2 #[] #[] 1537 4 #[] #[])
  fields := #[]
  methods := #[]
  instanceTypes := #[]
  staticTypes := #[]
  resolved := Array.replicate 8 none
  statics := none }

/-- the primitive byte -/
def k5 : Class := { plain "byte" none with kind := .primitive 'B', accessFlags := 0x411 }
/-- [B -/
def k6 : Class := { plain "[B" (some 0) with kind := .array 5 .byte, interfaces := #[3, 4], accessFlags := 1041 }

/-- the primitive int -/
def k7 : Class := { plain "int" none with kind := .primitive 'I', accessFlags := 0x411 }
/-- [I -/
def k8 : Class := { plain "[I" (some 0) with kind := .array 7 .int, interfaces := #[3, 4], accessFlags := 1041 }

def heap : Heap := #[]
def classes : Array Class := #[k0, k1, k2, k3, k4, k5, k6, k7, k8]
def interned : List (Array UInt16 × Addr) := []
def slotsUsed : Nat := 0
def theMethod : MethodId := ⟨1, 1⟩
def args0 : Array Value := #[.long 5]
def aboutOver (below : List Frame) : State where
  vm := { classes := classes, interned := interned.toArray }
  heap := heap
  slotsUsed := slotsUsed
  threads := #[{ frames := .invoking theMethod args0 :: below }]
def below0 : List Frame := [.native { method := ⟨0, 0⟩, args := #[] }]
def about1 : State := aboutOver below0
def p0 : Program := .bare "" "" ""
def e0 : Env := launch0.env 0 0 0
theorem w_frames : about1.frames = Frame.invoking theMethod args0 :: below0 := rfl
set_option maxRecDepth 65536 in
theorem w_args : argsFit about1.vm theMethod args0 = true := by decide +kernel
set_option maxRecDepth 65536 in
theorem w_heap : heapFits about1 = true := by decide +kernel
set_option maxRecDepth 65536 in
theorem w_runnable : about1.curStatus? = some .runnable := by decide +kernel
set_option maxRecDepth 65536 in
theorem w_alone : about1.alone = true := by decide +kernel
set_option maxRecDepth 65536 in
theorem w_named : about1.methodNamed? x = some theMethod := by decide +kernel
set_option maxRecDepth 65536 in
theorem w_hears : about1.hears theMethod below0 = true := by decide +kernel
set_option maxRecDepth 65536 in
theorem w_ripe : about1.ripe theMethod args0 below0 = true := by decide +kernel
theorem w_running : about1.status = .running := rfl
set_option maxRecDepth 65536 in
theorem w_room : about1.hasRoom e0.platform room_1 = true :=
  launch0.hasRoom_least _ room_1 (by decide +kernel) (by decide +kernel) (by decide +kernel) (by decide +kernel) (by decide +kernel) (by decide +kernel)
theorem allAtoms_all (ts : List Jvm.Cond) (a : Array Jvm.Value) (st : Jvm.State) : (allAtoms ts).before a st = ts.all (fun c => c.before a st) := by
  induction ts with
  | nil => rfl
  | cons c t ih =>
    show (Jvm.Cond.and c (allAtoms t)).before a st = _
    rw [Jvm.Cond.before_and, ih, List.all_cons]
def words1 : List Jvm.Cond := Jvm.Cond.code x code maxLocals ret :: tables_1
/-- a 'code' word, met by the world's own term for the bytes: nothing is compared byte by byte -/
theorem code_word {y : MethodName} {bytes : ByteArray} {mx : Nat} {rt : Option FieldType} {a : Array Value} {s : State} {m : MethodId} {meth : Method} {c : Code} (h1 : s.methodNamed? y = some m) (h2 : s.vm.method? m = some meth) (h3 : meth.code = some c) (h4 : c.code = bytes)
    (h5 : (c.maxLocals == mx && c.exceptionTable.isEmpty && decide (c.maxStack ≤ mostOperands) && decide (meth.sig.returnType = rt) && !meth.locks && decide (parseMethodDescriptor y.desc = some meth.sig)) = true) : (Jvm.Cond.code y bytes mx rt).before a s = true := by
  simp only [Bool.and_eq_true, beq_iff_eq, Bool.not_eq_true', decide_eq_true_eq] at h5
  obtain ⟨⟨⟨⟨⟨g1, g2⟩, g3⟩, g4⟩, g5⟩, g6⟩ := h5
  simp [Cond.before, Cond.holds, Cond.value, h1, h2, h3, h4, g1, g2, g3, g4, g5, g6]
def isCode : Jvm.Cond → Bool
  | .code _ _ _ _ => true
  | _ => false
theorem all_split {L : List Jvm.Cond} {P : Jvm.Cond → Bool} (h1 : L.all (fun c => isCode c || P c) = true) (h2 : ∀ c ∈ L.filter isCode, P c = true) : L.all P = true := by
  refine List.all_eq_true.mpr fun c hc => ?_
  have h := List.all_eq_true.mp h1 c hc
  rcases Bool.eq_false_or_eq_true (isCode c) with hi | hi
  · exact h2 c (List.mem_filter.mpr ⟨hc, hi⟩)
  · simpa [hi] using h
set_option maxRecDepth 65536 in
theorem w_c0 : (Jvm.Cond.code x code maxLocals ret).before args0 about1 = true := code_word (m := ⟨1, 1⟩) (meth := k1m1) (c := k1c1) (by decide +kernel) rfl rfl rfl (by decide +kernel)
set_option maxRecDepth 65536 in
theorem w_c1 : (Jvm.Cond.code ({ cls := "com/example/quartermaster/quartermaster/Sessions", name := "requireTtl", desc := "(J)J" } : Jvm.MethodName) prog_33_method_2_code (2 : Nat) (Option.some Jvm.ClassFile.FieldType.long)).before args0 about1 = true := code_word (m := ⟨2, 0⟩) (meth := k2m0) (c := k2c0) (by decide +kernel) rfl rfl rfl (by decide +kernel)
def codes1 : List Jvm.Cond := [Jvm.Cond.code x code maxLocals ret, Jvm.Cond.code ({ cls := "com/example/quartermaster/quartermaster/Sessions", name := "requireTtl", desc := "(J)J" } : Jvm.MethodName) prog_33_method_2_code (2 : Nat) (Option.some Jvm.ClassFile.FieldType.long)]
set_option maxRecDepth 65536 in
theorem codes_eq : words1.filter isCode = codes1 := rfl
theorem w_codes : ∀ c ∈ words1.filter isCode, c.before args0 about1 = true := by
  rw [codes_eq]
  intro c hc
  simp only [codes1, List.mem_cons, List.not_mem_nil, or_false] at hc
  rcases hc with rfl | rfl
  · exact w_c0
  · exact w_c1
set_option maxRecDepth 65536 in
theorem w_t1 : words1.all (fun c => isCode c || c.before args0 about1) = true := by decide +kernel
theorem w_tables : (allAtoms (Jvm.Cond.code x code maxLocals ret :: tables_1)).before args0 about1 = true := by
  rw [allAtoms_all]
  show words1.all (fun c => c.before args0 about1) = true
  refine all_split ?_ w_codes
  rw [w_t1]
set_option maxRecDepth 65536 in
theorem w_case : (Jvm.Cond.and given_1 narrow_1).before args0 about1 = true := by decide +kernel
theorem w_applies : (headSpec (Jvm.Cond.code x code maxLocals ret :: tables_1) room_1).applies x e0.platform about1 = true :=
  (Spec.applies_iff w_frames).mpr ⟨w_running, w_runnable, w_alone, w_named, w_hears, w_ripe, w_room, w_tables⟩
theorem atStart : AtStart classFile x code maxLocals ret World_1 tables_1 room_1 Calls_1 rest_1 Pre_1 launch0 p0 e0 about1 theMethod args0 below0 :=
  ⟨lists_1, trivial, launch0.admits_env _ _ _, launch0.least_env, fairChoices_fair.cas, fairChoices_fair.clock, w_frames, w_args, w_heap, w_applies, trivial, trivial, w_case⟩
end start1
theorem witness_1 : WitnessClaimed_1 := ⟨start1.p0, start1.e0, start1.about1, start1.theMethod, start1.args0, start1.below0, start1.atStart⟩
end Jvm.Pilot.@@N@@
