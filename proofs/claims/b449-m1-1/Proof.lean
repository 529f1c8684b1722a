import JvmDerived
import JvmDerived.Pilot.@@N@@Statement
import JvmDerived.Pilot.@@N@@Code
set_option linter.unusedVariables false
set_option linter.unusedSimpArgs false
namespace Jvm.RoadKit
open Sem ClassFile Op Lib Jvm.Stand Jvm.Free Jvm.LawKit
section New
variable {p : Program} {l : Launch} {e : Env} {R : Room} {s : State} {m : MethodId} {args : Array Value} {below : List Frame} {meth : Method} {c : Code} {T : State} {locs : List Loc} {cells slots : Nat}
theorem retI (X : Stand p l e R s m args below meth c T locs cells slots) (hx : p.tables.exec = Jvm.exec) {pc : Nat} {Ls : Array Slot} {z : Int32} {rest : List Value} (hret : meth.sig.returnType = some .int) (hd : decode c.code pc = .ok (.ireturn, 1)) {fs : List Frame}
    (hl : ∀ (f : JFrame) (acts : List Action), f.method = m → f.locked = none → f.entered = [] → (doReturn e (T.setTop f) acts (some (.int z))).1 = T.setFrames fs) : Steps p.tables e below (T.setTop (mkF m pc Ls (.int z :: rest))) (T.setFrames fs) := by
  have hm' : T.vm.method? m = some meth := X.method'
  have hn : narrow .int (.int z) = .int z := rfl
  show Steps p.tables e below (T.setTop { method := m, pc := pc, locals := Ls, stack := _ :: rest, locked := none }) _
  jvm_step X.here [X.here.top, hx, hd, hm', hret, hn]
  first | (intro acts; rw [hl _ acts rfl rfl rfl]) | rw [hl _ _ rfl rfl rfl]
  exact Steps.refl _
end New
end Jvm.RoadKit
namespace Jvm.Pilot.@@N@@
open Jvm Jvm.ClassFile Sem Op Lib Jvm.Free Jvm.Stand Jvm.LawKit Jvm.RoadKit Bundle Jvm.Pilot.@@N@@.Jvm.D
/-- the same for a part of a walk that comes to the frame F -/
theorem own_via {α : Type} {tb : Tables} {e : Env} {below : List Frame} {A B : State} {P : State → α → Prop} {F : α → JFrame} (h : ∀ t, Steps tb e below A t → Steps tb e below B t) (k : ∃ (T : State) (x : α), P T x ∧ ∀ t, Steps tb e below (T.setTop (F x)) t → Steps tb e below A t) : ∃ (T : State) (x : α), P T x ∧ ∀ t, Steps tb e below (T.setTop (F x)) t → Steps tb e below B t := by
  obtain ⟨T, x, k1, k2⟩ := k
  exact ⟨T, x, k1, fun t q => h t (k2 t q)⟩
theorem own_ns {Z : State} {h : Heap} {a : Addr} {C : String} (F : Exa Z h a C) : ∀ c : Cell, h[a]? = some c → c.vm.isStatics = false := fun c hc => by
  obtain ⟨c1, k, h1, -, -, h4, -⟩ := F
  cases hc.symm.trans h1
  exact h4
theorem own_nsA {Z : State} {h : Heap} {a : Addr} {k : ClassId} {ty : FieldType} {z : Int32} {vs : List Value} {dv : Value} (F : Arv Z h a k ty z vs dv) : ∀ c : Cell, h[a]? = some c → c.vm.isStatics = false := fun c hc => by
  obtain ⟨c1, A, -⟩ := F
  cases hc.symm.trans A.1
  exact A.plain
theorem own_nsF {Z : State} {h : Heap} {a : Addr} {C n d : String} {v : Value} (F : Fld Z h a C n d v) : ∀ c : Cell, h[a]? = some c → c.vm.isStatics = false := fun c hc => by
  obtain ⟨c1, _, _, _, _, h1, _, _, _, h5, _⟩ := F
  cases hc.symm.trans h1
  exact h5
theorem own_neA {Z : State} {a0 : Array Value} {h : Heap} {a b : Addr} {C : String} {n : Nat} {k : ClassId} {ty : FieldType} {z : Int32} {vs : List Value} {dv : Value} (F : Exa Z h a C) (wi : (Cond.instantiable C n).before a0 Z = true) (G : Arv Z h b k ty z vs dv) : a ≠ b := by
  obtain ⟨c1, A, -⟩ := G
  exact ne_arr F wi A
theorem own_staKeep {Z : State} {h h' : Heap} {C n d : String} {v : Value} {ws : List Addr} (F : Sta Z h C n d v) (K : Keep h h' ws) (q : ∀ x ∈ ws, ∀ c : Cell, h[x]? = some c → c.vm.isStatics = false) : Sta Z h' C n d v := by
  obtain ⟨cf, i, k, f, st, cell, h1, h2, h3, h4, h5, h6, h7⟩ := F
  exact ⟨cf, i, k, f, st, cell, h1, h2, h3, h4, K.2.1 st cell h5 (fun hm => by rw [q st hm cell h5] at h6; cases h6), h6, h7⟩
/-- a byte made a byte again -/
theorem own_nb (y : Int32) : y.toInt8.toInt32.toInt8.toInt32 = y.toInt8.toInt32 := by 
  have h1 := c_i2b y
  have h2 := c_i2b (y.toInt8.toInt32)
  apply Int32.toInt_inj.mp
  omega
/-- the walk goes on from A where it comes from B to A -/
theorem own_go {tb : Tables} {e : Env} {below : List Frame} {A B : State} {P : State → Outcome → Prop} (h : ∀ t, Steps tb e below A t → Steps tb e below B t) (k : ∃ t o, Steps tb e below A t ∧ P t o) : ∃ t o, Steps tb e below B t ∧ P t o := by
  obtain ⟨t, o, k1, k2⟩ := k
  exact ⟨t, o, h t k1, k2⟩
theorem own_pd0 : parseMethodDescriptor "()V" = some ⟨[], none⟩ := by decide +kernel
theorem own_pd1 : parseMethodDescriptor "([I[I)V" = some ⟨[(.array .int), (.array .int)], none⟩ := by decide +kernel
theorem own_pd2 : parseMethodDescriptor "(II)I" = some ⟨[.int, .int], some .int⟩ := by decide +kernel
def own_target (row set s0 s1 s2 t0 t1 t2 : Int32) : Int32 := if row = (0 : Int32) then (if s0 = set then t0 else (-1 : Int32)) else (if row = (1 : Int32) then (if s1 = set then t1 else (-1 : Int32)) else (if row = (2 : Int32) then (if s2 = set then t2 else (-1 : Int32)) else (-1 : Int32)))
theorem own_target_ge {row set s0 s1 s2 t0 t1 t2 : Int32} (h : ¬ row < (3 : Int32)) : own_target row set s0 s1 s2 t0 t1 t2 = (-1 : Int32) := by
  unfold own_target
  rw [if_neg (fun e => h (by rw [e]; decide)), if_neg (fun e => h (by rw [e]; decide)), if_neg (fun e => h (by rw [e]; decide))]
theorem own_lt3 (row : Int32) (h0 : ¬ row < (0 : Int32)) (h : row < (3 : Int32)) : row = (0 : Int32) ∨ row = (1 : Int32) ∨ row = (2 : Int32) := by
  have e0 : (0 : Int32).toInt = 0 := by decide
  have e1 : (1 : Int32).toInt = 1 := by decide
  have e2 : (2 : Int32).toInt = 2 := by decide
  have e3 : (3 : Int32).toInt = 3 := by decide
  simp only [Int32.lt_iff_toInt_lt, ← Int32.toInt_inj, e0, e1, e2, e3] at *
  omega
theorem own_row (p row : Int32) (h : row = if p < (0 : Int32) then (p &&& (2147483647 : Int32)) else (p % (4 : Int32))) : ¬ row < (0 : Int32) := by
  have e0 : (0 : Int32).toInt = 0 := by decide
  have h1 := c_mask p (2147483647 : Int32) 31 (by decide) (by decide)
  have h2 := c_irem p (4 : Int32) 4 (by decide)
  rw [h]
  split <;> simp only [Int32.lt_iff_toInt_lt, e0] at * <;> omega
theorem d4_0 : decode jdk_71_method_1_code 0 = .ok (.aload_n 0, 1) := by decide +kernel
theorem d4_1 : decode jdk_71_method_1_code 1 = .ok (.invokespecial 1, 3) := by decide +kernel
theorem d4_4 : decode jdk_71_method_1_code 4 = .ok (.return_, 1) := by decide +kernel
theorem own_pn4 : plainName "java/util/AbstractMap" = true := by first | (simp [plainName, overriddenIn]; done) | decide +kernel
theorem own_ef4 (m : MethodId) (x0 : Addr) : entryFrame m #[(.ref x0)] 1 = mkF m 0 #[.val (.ref x0)] [] := by first | (simp [entryFrame, mkF, argsToLocals, Value.category]; done) | rfl
def QrmAM (Z : State) (a : Addr) (h0 : Heap) (n0 : Nat) (v : Option Value) (h : Heap) (L : List Loc) : Prop := v = none ∧ Fr n0 L ∧ h = h0
set_option maxRecDepth 65536 in
set_option maxHeartbeats 40000000 in
theorem rmAM (l : Launch) (Z : State) (a0 : Array Value) (hw : ∀ d ∈ tables_1, d.before a0 Z = true) (ws : List Jvm.Cond) (a : Addr) (h0 : Heap) (n0 : Nat) (Z0 : n0 ≤ h0.size)  :
    MetFree l (⟨"java/util/AbstractMap", "<init>", "()V"⟩ : MethodName) (head1 (Jvm.Cond.code (⟨"java/util/AbstractMap", "<init>", "()V"⟩ : MethodName) jdk_71_method_1_code 1 none :: ws) ({ frames := 1, cells := 0, slots := 0, locals := 12 } : Room)) (fun ar_ U_ => ar_ = #[(.ref a)] ∧ Z.Warmed39 U_.vm ∧ U_.heap = h0) (fun _ _ _ _ _ => True) (fun _ U_ ou_ V_ => ∃ v_ L_, ou_ = .returned v_ ∧ QrmAM Z a h0 n0 v_ V_.heap L_ ∧ FrameEnd U_ ou_ V_ L_ ({ frames := 1, cells := 0, slots := 0, locals := 12 } : Room).cells ({ frames := 1, cells := 0, slots := 0, locals := 12 } : Room).slots) := by
  refine MetFree.of_bodySF (plainFor_of_name own_pn4) hisR ?_
  intro p e s m args below meth c s₁ Bd hml0 hP hK
  obtain ⟨rfl, hZ, hh⟩ := hP
  have hx := Bd.exec
  have hby := Bd.bytes
  have hml : c.maxLocals = 1 := hml0
  have hown : s.vm.findClass "java/util/AbstractMap" = some m.cls := findClass_of_methodNamed Bd.named
  have hnm := (name_of_methodNamed Bd.named Bd.method).1
  have X0 : Stand p l e ({ frames := 1, cells := 0, slots := 0, locals := 12 } : Room) s m #[(.ref a)] below meth c s₁ [] 0 0 := Stand.of_body Bd
  have e0 : s₁.heap = h0 := by rw [← hh, Bd.state]; rfl
  have N0 := Fr.nil n0
  refine own_go (A := s₁.setTop (mkF m 0 #[.val (.ref a)] [])) (fun t kz => castTop (own_ef4 m a) kz) ?_
  refine own_go (A := s₁.setTop (mkF m 1 #[.val (.ref a)] [(.ref a)])) (fun _ kz => ?_) ?_
  · show Steps p.tables e below (s₁.setTop (mkF m 0 #[.val (.ref a)] [])) _
    refine XS.aloadN X0.here hx rfl (hb hby d4_0) rfl rfl ?_
    exact kz
  obtain ⟨T1, X1, e1, st1⟩ := initO X0 hx hZ hown (hw _ (List.mem_of_getElem? (i := 22) rfl)) (hw _ (List.mem_of_getElem? (i := 8) rfl)) (hw _ (List.mem_of_getElem? (i := 9) rfl)) e0 (g := (mkF m 1 #[.val (.ref a)] [(.ref a)])) rfl (by rw [hml]; rfl) rfl (hb hby d4_1) (by decide) (W := 0) (by show 2 * 0 + _ ≤ _; exact Nat.le_of_eq rfl) (by decide)
  refine own_go (A := T1.setTop (mkF m 4 #[.val (.ref a)] [])) (fun _ kz => st1 _ kz) ?_
  obtain ⟨fs, hrr, hrun, hended, hW, hsame⟩ := X1.leave (v := none) (fun _ => rfl)
  refine ⟨_, _, ?_, hrun, hended, _, _, rfl, ?_, ⟨_, rfl⟩, hW, hsame.mono (by decide) (by decide)⟩
  · show Steps p.tables e below (T1.setTop (mkF m 4 #[.val (.ref a)] [])) _
    exact X1.returnOut hx Bd.returns (hb hby d4_4) hrr
  · show QrmAM Z a h0 n0 _ T1.heap _
    rw [e1]
    exact ⟨rfl, N0, rfl⟩
theorem d3_0 : decode jdk_69_method_7_code 0 = .ok (.aload_n 0, 1) := by decide +kernel
theorem d3_1 : decode jdk_69_method_7_code 1 = .ok (.invokespecial 43, 3) := by decide +kernel
theorem d3_4 : decode jdk_69_method_7_code 4 = .ok (.aload_n 0, 1) := by decide +kernel
theorem d3_5 : decode jdk_69_method_7_code 5 = .ok (.ldc 92, 2) := by decide +kernel
theorem d3_7 : decode jdk_69_method_7_code 7 = .ok (.putfield 81, 3) := by decide +kernel
theorem d3_10 : decode jdk_69_method_7_code 10 = .ok (.return_, 1) := by decide +kernel
theorem own_pn3 : plainName "java/util/HashMap" = true := by first | (simp [plainName, overriddenIn]; done) | decide +kernel
theorem own_ef3 (m : MethodId) (x0 : Addr) : entryFrame m #[(.ref x0)] 1 = mkF m 0 #[.val (.ref x0)] [] := by first | (simp [entryFrame, mkF, argsToLocals, Value.category]; done) | rfl
def QrmHM (Z : State) (a : Addr) (h0 : Heap) (n0 : Nat) (v : Option Value) (h : Heap) (L : List Loc) : Prop := v = none ∧ Fr n0 L ∧ Keep h0 h [a]
set_option maxRecDepth 65536 in
set_option maxHeartbeats 40000000 in
theorem rmHM (l : Launch) (Z : State) (a0 : Array Value) (hw : ∀ d ∈ tables_1, d.before a0 Z = true) (ws : List Jvm.Cond) (a : Addr) (h0 : Heap) (n0 : Nat) (Z0 : n0 ≤ h0.size) (Ex : Exa Z h0 a "java/util/HashMap") (Fl : Fld Z h0 a "java/util/HashMap" "loadFactor" "F" (defaultValue .float)) (g_a : n0 ≤ a) :
    MetFree l (⟨"java/util/HashMap", "<init>", "()V"⟩ : MethodName) (head1 (Jvm.Cond.code (⟨"java/util/HashMap", "<init>", "()V"⟩ : MethodName) jdk_69_method_7_code 1 none :: ws) ({ frames := 2, cells := 0, slots := 0, locals := 24 } : Room)) (fun ar_ U_ => ar_ = #[(.ref a)] ∧ Z.Warmed39 U_.vm ∧ U_.heap = h0) (fun _ _ _ _ _ => True) (fun _ U_ ou_ V_ => ∃ v_ L_, ou_ = .returned v_ ∧ QrmHM Z a h0 n0 v_ V_.heap L_ ∧ FrameEnd U_ ou_ V_ L_ ({ frames := 2, cells := 0, slots := 0, locals := 24 } : Room).cells ({ frames := 2, cells := 0, slots := 0, locals := 24 } : Room).slots) := by
  refine MetFree.of_bodySF (plainFor_of_name own_pn3) hisR ?_
  intro p e s m args below meth c s₁ Bd hml0 hP hK
  obtain ⟨rfl, hZ, hh⟩ := hP
  have hx := Bd.exec
  have hby := Bd.bytes
  have hml : c.maxLocals = 1 := hml0
  have hown : s.vm.findClass "java/util/HashMap" = some m.cls := findClass_of_methodNamed Bd.named
  have hnm := (name_of_methodNamed Bd.named Bd.method).1
  have X0 : Stand p l e ({ frames := 2, cells := 0, slots := 0, locals := 24 } : Room) s m #[(.ref a)] below meth c s₁ [] 0 0 := Stand.of_body Bd
  have e0 : s₁.heap = h0 := by rw [← hh, Bd.state]; rfl
  have N0 := Fr.nil n0
  have Kp0 : Keep h0 h0 [a] := Keep.refl h0 _
  refine own_go (A := s₁.setTop (mkF m 0 #[.val (.ref a)] [])) (fun t kz => castTop (own_ef3 m a) kz) ?_
  refine own_go (A := s₁.setTop (mkF m 1 #[.val (.ref a)] [(.ref a)])) (fun _ kz => ?_) ?_
  · show Steps p.tables e below (s₁.setTop (mkF m 0 #[.val (.ref a)] [])) _
    refine XS.aloadN X0.here hx rfl (hb hby d3_0) rfl rfl ?_
    exact kz
  obtain ⟨_, _, ⟨T1, L1, k1, n1⟩, -, X1, ⟨Lc1, hQ1, l1, y1, z1⟩, st1⟩ := X0.specialBack hx (y := (⟨"java/util/AbstractMap", "<init>", "()V"⟩ : MethodName)) rfl hown (mvT hZ (hw _ (List.mem_of_getElem? (i := 16) rfl))) (mvT hZ (hw _ (List.mem_of_getElem? (i := 17) rfl))) (mvT hZ (hw _ (List.mem_of_getElem? (i := 21) rfl))) (by decide) (backOf (W := 0) (rmAM l Z a0 hw [] a h0 n0 Z0) hZ (hw _ (List.mem_of_getElem? (i := 21) rfl)) (hw _ (List.mem_of_getElem? (i := 20) rfl)) (by decide) (by decide)) (g := (mkF m 1 #[.val (.ref a)] [(.ref a)])) rfl (by rw [hml]; rfl) (Steps.refl _) (a := a) (argsL := []) (rest := []) (lenOf own_pd0 rfl) rfl (by show 2 * 0 + _ ≤ _; exact Nat.le_of_eq rfl) (hb hby d3_1) (fun _ _ => ⟨rfl, e0, (by decide : 0 + 0 ≤ _), (by decide : 0 + 0 ≤ _)⟩)
  dsimp only [Pt.U, Pt.locs, Pt.cells, Pt.slots] at X1 l1 y1 z1 st1 hQ1
  subst l1 y1 z1
  obtain ⟨rfl, N1q, e1⟩ := hQ1
  have N1 := Fr.app N0 N1q
  refine own_go (A := T1.setTop (mkF m 4 #[.val (.ref a)] [])) (fun _ kz => st1.trans kz) ?_
  refine own_go (A := T1.setTop (mkF m 7 #[.val (.ref a)] [(.float (1061158912 : UInt32)), (.ref a)])) (fun _ kz => ?_) ?_
  · show Steps p.tables e below (T1.setTop (mkF m 4 #[.val (.ref a)] [])) _
    refine XS.aloadN X1.here hx rfl (hb hby d3_4) rfl rfl ?_
    show Steps p.tables e below (T1.setTop (mkF m 5 #[.val (.ref a)] [(.ref a)])) _
    refine X1.ldcFloatC hx hown (mvT hZ (hw _ (List.mem_of_getElem? (i := 23) rfl))) (g := (mkF m 5 #[.val (.ref a)] [(.ref a)])) rfl (hb hby d3_5) _ ?_
    exact kz
  obtain ⟨T2, h2, X2, e2, W2, st2⟩ := putF X1 hx hZ hown (host := "") (Or.inl (hw _ (List.mem_of_getElem? (i := 24) rfl))) Via.refl e1 Fl Ex (Or.inr ⟨(hw _ (List.mem_of_getElem? (i := 25) rfl)), rfl, hnm⟩) (hw _ (List.mem_of_getElem? (i := 11) rfl)) (ty := .float) (by decide) rfl rfl (g := (mkF m 7 #[.val (.ref a)] [(.float (1061158912 : UInt32)), (.ref a)])) rfl rfl (hb hby d3_7)
  have Fw2 := Fl.same W2
  replace Ex := Ex.wr W2
  have Z2 : n0 ≤ h2.size := Nat.le_trans Z0 (Keep.of_wr W2).1
  have Kp2 : Keep h0 h2 [a] := Kp0.wr W2 (Or.inl (List.mem_of_getElem? (i := 0) rfl))
  have F_loadFactor_a := Fw2
  have N2 := Fr.snoc X2 N1 g_a
  refine own_go (A := T2.setTop (mkF m 10 #[.val (.ref a)] [])) (fun _ kz => st2 _ kz) ?_
  obtain ⟨fs, hrr, hrun, hended, hW, hsame⟩ := X2.leave (v := none) (fun _ => rfl)
  refine ⟨_, _, ?_, hrun, hended, _, _, rfl, ?_, ⟨_, rfl⟩, hW, hsame.mono (by decide) (by decide)⟩
  · show Steps p.tables e below (T2.setTop (mkF m 10 #[.val (.ref a)] [])) _
    exact X2.returnOut hx Bd.returns (hb hby d3_10) hrr
  · show QrmHM Z a h0 n0 _ T2.heap _
    rw [e2]
    exact ⟨rfl, N2, Kp2⟩
theorem d1_0 : decode prog_44_method_1_code 0 = .ok (.aload_n 0, 1) := by decide +kernel
theorem d1_1 : decode prog_44_method_1_code 1 = .ok (.invokespecial 1, 3) := by decide +kernel
theorem d1_4 : decode prog_44_method_1_code 4 = .ok (.aload_n 0, 1) := by decide +kernel
theorem d1_5 : decode prog_44_method_1_code 5 = .ok (.new 7, 3) := by decide +kernel
theorem d1_8 : decode prog_44_method_1_code 8 = .ok (.dup, 1) := by decide +kernel
theorem d1_9 : decode prog_44_method_1_code 9 = .ok (.invokespecial 9, 3) := by decide +kernel
theorem d1_12 : decode prog_44_method_1_code 12 = .ok (.putfield 10, 3) := by decide +kernel
theorem d1_15 : decode prog_44_method_1_code 15 = .ok (.aload_n 0, 1) := by decide +kernel
theorem d1_16 : decode prog_44_method_1_code 16 = .ok (.aload_n 1, 1) := by decide +kernel
theorem d1_17 : decode prog_44_method_1_code 17 = .ok (.putfield 16, 3) := by decide +kernel
theorem d1_20 : decode prog_44_method_1_code 20 = .ok (.aload_n 0, 1) := by decide +kernel
theorem d1_21 : decode prog_44_method_1_code 21 = .ok (.aload_n 2, 1) := by decide +kernel
theorem d1_22 : decode prog_44_method_1_code 22 = .ok (.putfield 20, 3) := by decide +kernel
theorem d1_25 : decode prog_44_method_1_code 25 = .ok (.return_, 1) := by decide +kernel
theorem own_pn1 : plainName "com/example/bare_words/barewords/KeyReads$Targets" = true := by first | (simp [plainName, overriddenIn]; done) | decide +kernel
theorem own_ef1 (m : MethodId) (x0 : Addr) (x1 : Addr) (x2 : Addr) : entryFrame m #[(.ref x0), (.ref x1), (.ref x2)] 3 = mkF m 0 #[.val (.ref x0), .val (.ref x1), .val (.ref x2)] [] := by first | (simp [entryFrame, mkF, argsToLocals, Value.category]; done) | rfl
def QrmInit (Z : State) (a a1 a2 : Addr) (h0 : Heap) (n0 : Nat) (v : Option Value) (h : Heap) (L : List Loc) : Prop := v = none ∧ Fr n0 L ∧ Keep h0 h [a] ∧ Exa Z h a "com/example/bare_words/barewords/KeyReads$Targets" ∧ Fld Z h a "com/example/bare_words/barewords/KeyReads$Targets" "sets" "[I" (.ref a1) ∧ Fld Z h a "com/example/bare_words/barewords/KeyReads$Targets" "rows" "[I" (.ref a2)
set_option maxRecDepth 65536 in
set_option maxHeartbeats 40000000 in
theorem rmInit (l : Launch) (Z : State) (a0 : Array Value) (hw : ∀ d ∈ tables_1, d.before a0 Z = true) (ws : List Jvm.Cond) (a a1 a2 : Addr) (h0 : Heap) (n0 : Nat) (Z0 : n0 ≤ h0.size) (Ex : Exa Z h0 a "com/example/bare_words/barewords/KeyReads$Targets") (F_referencing_a : Fld Z h0 a "com/example/bare_words/barewords/KeyReads$Targets" "referencing" "Ljava/util/Map;" .null) (F_sets_a : Fld Z h0 a "com/example/bare_words/barewords/KeyReads$Targets" "sets" "[I" .null) (F_rows_a : Fld Z h0 a "com/example/bare_words/barewords/KeyReads$Targets" "rows" "[I" .null) (g_a : n0 ≤ a) :
    MetFree l (⟨"com/example/bare_words/barewords/KeyReads$Targets", "<init>", "([I[I)V"⟩ : MethodName) (head1 (Jvm.Cond.code (⟨"com/example/bare_words/barewords/KeyReads$Targets", "<init>", "([I[I)V"⟩ : MethodName) prog_44_method_1_code 3 none :: ws) ({ frames := 3, cells := 1, slots := 8, locals := 38 } : Room)) (fun ar_ U_ => ar_ = #[(.ref a), (.ref a1), (.ref a2)] ∧ Z.Warmed39 U_.vm ∧ U_.heap = h0) (fun _ _ _ _ _ => True) (fun _ U_ ou_ V_ => ∃ v_ L_, ou_ = .returned v_ ∧ QrmInit Z a a1 a2 h0 n0 v_ V_.heap L_ ∧ FrameEnd U_ ou_ V_ L_ ({ frames := 3, cells := 1, slots := 8, locals := 38 } : Room).cells ({ frames := 3, cells := 1, slots := 8, locals := 38 } : Room).slots) := by
  refine MetFree.of_bodySF (plainFor_of_name own_pn1) hisR ?_
  intro p e s m args below meth c s₁ Bd hml0 hP hK
  obtain ⟨rfl, hZ, hh⟩ := hP
  have hx := Bd.exec
  have hby := Bd.bytes
  have hml : c.maxLocals = 3 := hml0
  have hown : s.vm.findClass "com/example/bare_words/barewords/KeyReads$Targets" = some m.cls := findClass_of_methodNamed Bd.named
  have hnm := (name_of_methodNamed Bd.named Bd.method).1
  have X0 : Stand p l e ({ frames := 3, cells := 1, slots := 8, locals := 38 } : Room) s m #[(.ref a), (.ref a1), (.ref a2)] below meth c s₁ [] 0 0 := Stand.of_body Bd
  have e0 : s₁.heap = h0 := by rw [← hh, Bd.state]; rfl
  have N0 := Fr.nil n0
  have Kp0 : Keep h0 h0 [a] := Keep.refl h0 _
  refine own_go (A := s₁.setTop (mkF m 0 #[.val (.ref a), .val (.ref a1), .val (.ref a2)] [])) (fun t kz => castTop (own_ef1 m a a1 a2) kz) ?_
  refine own_go (A := s₁.setTop (mkF m 1 #[.val (.ref a), .val (.ref a1), .val (.ref a2)] [(.ref a)])) (fun _ kz => ?_) ?_
  · show Steps p.tables e below (s₁.setTop (mkF m 0 #[.val (.ref a), .val (.ref a1), .val (.ref a2)] [])) _
    refine XS.aloadN X0.here hx rfl (hb hby d1_0) rfl rfl ?_
    exact kz
  obtain ⟨T1, X1, e1, st1⟩ := initO X0 hx hZ hown (hw _ (List.mem_of_getElem? (i := 7) rfl)) (hw _ (List.mem_of_getElem? (i := 8) rfl)) (hw _ (List.mem_of_getElem? (i := 9) rfl)) e0 (g := (mkF m 1 #[.val (.ref a), .val (.ref a1), .val (.ref a2)] [(.ref a)])) rfl (by rw [hml]; rfl) rfl (hb hby d1_1) (by decide) (W := 0) (by show 2 * 0 + _ ≤ _; exact Nat.le_of_eq rfl) (by decide)
  refine own_go (A := T1.setTop (mkF m 4 #[.val (.ref a), .val (.ref a1), .val (.ref a2)] [])) (fun _ kz => st1 _ kz) ?_
  refine own_go (A := T1.setTop (mkF m 5 #[.val (.ref a), .val (.ref a1), .val (.ref a2)] [(.ref a)])) (fun _ kz => ?_) ?_
  · show Steps p.tables e below (T1.setTop (mkF m 4 #[.val (.ref a), .val (.ref a1), .val (.ref a2)] [])) _
    refine XS.aloadN X1.here hx rfl (hb hby d1_4) rfl rfl ?_
    exact kz
  obtain ⟨T2, h2, X2, e2, E2, A2, D2, -, st2⟩ := newO X1 hx hZ hown (hw _ (List.mem_of_getElem? (i := 10) rfl)) (hw _ (List.mem_of_getElem? (i := 11) rfl)) (hw _ (List.mem_of_getElem? (i := 12) rfl)) e1 (g := (mkF m 5 #[.val (.ref a), .val (.ref a1), .val (.ref a2)] [(.ref a)])) rfl (hb hby d1_5) (by decide) (by decide)
  obtain ⟨b2, gq2⟩ : ∃ z, z = h0.size := ⟨_, rfl⟩
  rw [← gq2] at A2 D2 st2
  have g_b2 : n0 ≤ b2 := Nat.le_trans Z0 (Nat.le_of_eq gq2.symm)
  have ne_a_b2 : a ≠ b2 := Nat.ne_of_lt (Nat.lt_of_lt_of_le Ex.lt (Nat.le_of_eq gq2.symm))
  have szk_b2 : h0.size ≤ b2 := Nat.le_trans Kp0.1 (Nat.le_of_eq gq2.symm)
  replace Ex := Ex.ext E2
  replace F_referencing_a := F_referencing_a.ext E2
  replace F_sets_a := F_sets_a.ext E2
  replace F_rows_a := F_rows_a.ext E2
  have Z2 : n0 ≤ h2.size := Nat.le_trans Z0 E2.1
  have Kp2 : Keep h0 h2 [a] := Kp0.ext E2
  have Ex_b2 := A2
  have F_loadFactor_b2 : Fld Z h2 b2 "java/util/HashMap" "loadFactor" "F" (defaultValue .float) := D2 (Or.inr (hw _ (List.mem_of_getElem? (i := 25) rfl))) (ty := .float) (by decide)
  refine own_go (A := T2.setTop (mkF m 8 #[.val (.ref a), .val (.ref a1), .val (.ref a2)] [(.ref b2), (.ref a)])) (fun _ kz => st2 _ kz) ?_
  refine own_go (A := T2.setTop (mkF m 9 #[.val (.ref a), .val (.ref a1), .val (.ref a2)] [(.ref b2), (.ref b2), (.ref a)])) (fun _ kz => ?_) ?_
  · show Steps p.tables e below (T2.setTop (mkF m 8 #[.val (.ref a), .val (.ref a1), .val (.ref a2)] [(.ref b2), (.ref a)])) _
    refine XS.dup X2.here hx rfl (hb hby d1_8) rfl rfl ?_
    exact kz
  obtain ⟨_, _, ⟨T3, L3, k3, n3⟩, -, X3, ⟨Lc3, hQ3, l3, y3, z3⟩, st3⟩ := X2.specialBack hx (y := (⟨"java/util/HashMap", "<init>", "()V"⟩ : MethodName)) rfl hown (mvT hZ (hw _ (List.mem_of_getElem? (i := 13) rfl))) (mvT hZ (hw _ (List.mem_of_getElem? (i := 14) rfl))) (mvT hZ (hw _ (List.mem_of_getElem? (i := 15) rfl))) (by decide) (backOf (W := 2) (rmHM l Z a0 hw [] b2 h2 n0 Z2 Ex_b2 F_loadFactor_b2 g_b2) hZ (hw _ (List.mem_of_getElem? (i := 15) rfl)) (hw _ (List.mem_of_getElem? (i := 12) rfl)) (by decide) (by decide)) (g := (mkF m 9 #[.val (.ref a), .val (.ref a1), .val (.ref a2)] [(.ref b2), (.ref b2), (.ref a)])) rfl (by rw [hml]; rfl) (Steps.refl _) (a := b2) (argsL := []) (rest := [(.ref b2), (.ref a)]) (lenOf own_pd0 rfl) rfl (by show 2 * 0 + _ ≤ _; exact Nat.le_of_eq rfl) (hb hby d1_9) (fun _ _ => ⟨rfl, e2, (by decide : 1 + 0 ≤ _), (by decide : 8 + 0 ≤ _)⟩)
  dsimp only [Pt.U, Pt.locs, Pt.cells, Pt.slots] at X3 l3 y3 z3 st3 hQ3
  subst l3 y3 z3
  obtain ⟨rfl, N3q, K3q⟩ := hQ3
  have N3 := Fr.app N0 N3q
  replace Ex := Ex.keep K3q
  replace F_referencing_a := F_referencing_a.keep K3q (ninS ne_a_b2 nin0)
  replace F_sets_a := F_sets_a.keep K3q (ninS ne_a_b2 nin0)
  replace F_rows_a := F_rows_a.keep K3q (ninS ne_a_b2 nin0)
  replace Ex_b2 := Ex_b2.keep K3q
  have Z3 : n0 ≤ T3.heap.size := Nat.le_trans Z2 K3q.1
  have Kp3 : Keep h0 T3.heap [a] := Kp2.trans K3q (allS (Or.inr szk_b2) (all0))
  refine own_go (A := T3.setTop (mkF m 12 #[.val (.ref a), .val (.ref a1), .val (.ref a2)] [(.ref b2), (.ref a)])) (fun _ kz => st3.trans kz) ?_
  obtain ⟨T4, h4, X4, e4, W4, st4⟩ := putF X3 hx hZ hown (host := "") (Or.inl (hw _ (List.mem_of_getElem? (i := 26) rfl))) Via.refl rfl F_referencing_a Ex (Or.inr ⟨(hw _ (List.mem_of_getElem? (i := 27) rfl)), rfl, hnm⟩) (hw _ (List.mem_of_getElem? (i := 1) rfl)) (ty := (.object "java/util/Map")) (by decide) rfl rfl (g := (mkF m 12 #[.val (.ref a), .val (.ref a1), .val (.ref a2)] [(.ref b2), (.ref a)])) rfl rfl (hb hby d1_12)
  have Fw4 := F_referencing_a.same W4
  replace Ex := Ex.wr W4
  replace F_sets_a := F_sets_a.other W4 (Or.inr (slot_ne (Or.inr (hw _ (List.mem_of_getElem? (i := 29) rfl))) (Or.inr (hw _ (List.mem_of_getElem? (i := 27) rfl))) (by decide) (t := (.array .int)) (t' := (.object "java/util/Map")) (by decide) (by decide)))
  replace F_rows_a := F_rows_a.other W4 (Or.inr (slot_ne (Or.inr (hw _ (List.mem_of_getElem? (i := 31) rfl))) (Or.inr (hw _ (List.mem_of_getElem? (i := 27) rfl))) (by decide) (t := (.array .int)) (t' := (.object "java/util/Map")) (by decide) (by decide)))
  replace Ex_b2 := Ex_b2.wr W4
  have Z4 : n0 ≤ h4.size := Nat.le_trans Z3 (Keep.of_wr W4).1
  have Kp4 : Keep h0 h4 [a] := Kp3.wr W4 (Or.inl (List.mem_of_getElem? (i := 0) rfl))
  have F_referencing_a := Fw4
  have N4 := Fr.snoc X4 N3 g_a
  refine own_go (A := T4.setTop (mkF m 15 #[.val (.ref a), .val (.ref a1), .val (.ref a2)] [])) (fun _ kz => st4 _ kz) ?_
  refine own_go (A := T4.setTop (mkF m 17 #[.val (.ref a), .val (.ref a1), .val (.ref a2)] [(.ref a1), (.ref a)])) (fun _ kz => ?_) ?_
  · show Steps p.tables e below (T4.setTop (mkF m 15 #[.val (.ref a), .val (.ref a1), .val (.ref a2)] [])) _
    refine XS.aloadN X4.here hx rfl (hb hby d1_15) rfl rfl ?_
    show Steps p.tables e below (T4.setTop (mkF m 16 #[.val (.ref a), .val (.ref a1), .val (.ref a2)] [(.ref a)])) _
    refine XS.aloadN X4.here hx rfl (hb hby d1_16) rfl rfl ?_
    exact kz
  obtain ⟨T5, h5, X5, e5, W5, st5⟩ := putF X4 hx hZ hown (host := "") (Or.inl (hw _ (List.mem_of_getElem? (i := 28) rfl))) Via.refl e4 F_sets_a Ex (Or.inr ⟨(hw _ (List.mem_of_getElem? (i := 29) rfl)), rfl, hnm⟩) (hw _ (List.mem_of_getElem? (i := 1) rfl)) (ty := (.array .int)) (by decide) rfl rfl (g := (mkF m 17 #[.val (.ref a), .val (.ref a1), .val (.ref a2)] [(.ref a1), (.ref a)])) rfl rfl (hb hby d1_17)
  have Fw5 := F_sets_a.same W5
  replace Ex := Ex.wr W5
  replace F_referencing_a := F_referencing_a.other W5 (Or.inr (slot_ne (Or.inr (hw _ (List.mem_of_getElem? (i := 27) rfl))) (Or.inr (hw _ (List.mem_of_getElem? (i := 29) rfl))) (by decide) (t := (.object "java/util/Map")) (t' := (.array .int)) (by decide) (by decide)))
  replace F_rows_a := F_rows_a.other W5 (Or.inr (slot_ne (Or.inr (hw _ (List.mem_of_getElem? (i := 31) rfl))) (Or.inr (hw _ (List.mem_of_getElem? (i := 29) rfl))) (by decide) (t := (.array .int)) (t' := (.array .int)) (by decide) (by decide)))
  replace Ex_b2 := Ex_b2.wr W5
  have Z5 : n0 ≤ h5.size := Nat.le_trans Z4 (Keep.of_wr W5).1
  have Kp5 : Keep h0 h5 [a] := Kp4.wr W5 (Or.inl (List.mem_of_getElem? (i := 0) rfl))
  have F_sets_a := Fw5
  have N5 := Fr.snoc X5 N4 g_a
  refine own_go (A := T5.setTop (mkF m 20 #[.val (.ref a), .val (.ref a1), .val (.ref a2)] [])) (fun _ kz => st5 _ kz) ?_
  refine own_go (A := T5.setTop (mkF m 22 #[.val (.ref a), .val (.ref a1), .val (.ref a2)] [(.ref a2), (.ref a)])) (fun _ kz => ?_) ?_
  · show Steps p.tables e below (T5.setTop (mkF m 20 #[.val (.ref a), .val (.ref a1), .val (.ref a2)] [])) _
    refine XS.aloadN X5.here hx rfl (hb hby d1_20) rfl rfl ?_
    show Steps p.tables e below (T5.setTop (mkF m 21 #[.val (.ref a), .val (.ref a1), .val (.ref a2)] [(.ref a)])) _
    refine XS.aloadN X5.here hx rfl (hb hby d1_21) rfl rfl ?_
    exact kz
  obtain ⟨T6, h6, X6, e6, W6, st6⟩ := putF X5 hx hZ hown (host := "") (Or.inl (hw _ (List.mem_of_getElem? (i := 30) rfl))) Via.refl e5 F_rows_a Ex (Or.inr ⟨(hw _ (List.mem_of_getElem? (i := 31) rfl)), rfl, hnm⟩) (hw _ (List.mem_of_getElem? (i := 1) rfl)) (ty := (.array .int)) (by decide) rfl rfl (g := (mkF m 22 #[.val (.ref a), .val (.ref a1), .val (.ref a2)] [(.ref a2), (.ref a)])) rfl rfl (hb hby d1_22)
  have Fw6 := F_rows_a.same W6
  replace Ex := Ex.wr W6
  replace F_referencing_a := F_referencing_a.other W6 (Or.inr (slot_ne (Or.inr (hw _ (List.mem_of_getElem? (i := 27) rfl))) (Or.inr (hw _ (List.mem_of_getElem? (i := 31) rfl))) (by decide) (t := (.object "java/util/Map")) (t' := (.array .int)) (by decide) (by decide)))
  replace F_sets_a := F_sets_a.other W6 (Or.inr (slot_ne (Or.inr (hw _ (List.mem_of_getElem? (i := 29) rfl))) (Or.inr (hw _ (List.mem_of_getElem? (i := 31) rfl))) (by decide) (t := (.array .int)) (t' := (.array .int)) (by decide) (by decide)))
  replace Ex_b2 := Ex_b2.wr W6
  have Z6 : n0 ≤ h6.size := Nat.le_trans Z5 (Keep.of_wr W6).1
  have Kp6 : Keep h0 h6 [a] := Kp5.wr W6 (Or.inl (List.mem_of_getElem? (i := 0) rfl))
  have F_rows_a := Fw6
  have N6 := Fr.snoc X6 N5 g_a
  refine own_go (A := T6.setTop (mkF m 25 #[.val (.ref a), .val (.ref a1), .val (.ref a2)] [])) (fun _ kz => st6 _ kz) ?_
  obtain ⟨fs, hrr, hrun, hended, hW, hsame⟩ := X6.leave (v := none) (fun _ => rfl)
  refine ⟨_, _, ?_, hrun, hended, _, _, rfl, ?_, ⟨_, rfl⟩, hW, hsame.mono (by decide) (by decide)⟩
  · show Steps p.tables e below (T6.setTop (mkF m 25 #[.val (.ref a), .val (.ref a1), .val (.ref a2)] [])) _
    exact X6.returnOut hx Bd.returns (hb hby d1_25) hrr
  · show QrmInit Z a a1 a2 h0 n0 _ T6.heap _
    rw [e6]
    exact ⟨rfl, N6, Kp6, Ex, F_sets_a, F_rows_a⟩
theorem d5_0 : decode prog_44_method_3_code 0 = .ok (.iload_n 1, 1) := by decide +kernel
theorem d5_1 : decode prog_44_method_3_code 1 = .ok (.aload_n 0, 1) := by decide +kernel
theorem d5_2 : decode prog_44_method_3_code 2 = .ok (.getfield 16, 3) := by decide +kernel
theorem d5_5 : decode prog_44_method_3_code 5 = .ok (.arraylength, 1) := by decide +kernel
theorem d5_6 : decode prog_44_method_3_code 6 = .ok (.if_icmp .ge 22, 3) := by decide +kernel
theorem d5_9 : decode prog_44_method_3_code 9 = .ok (.aload_n 0, 1) := by decide +kernel
theorem d5_10 : decode prog_44_method_3_code 10 = .ok (.getfield 16, 3) := by decide +kernel
theorem d5_13 : decode prog_44_method_3_code 13 = .ok (.iload_n 1, 1) := by decide +kernel
theorem d5_14 : decode prog_44_method_3_code 14 = .ok (.iaload, 1) := by decide +kernel
theorem d5_15 : decode prog_44_method_3_code 15 = .ok (.iload_n 2, 1) := by decide +kernel
theorem d5_16 : decode prog_44_method_3_code 16 = .ok (.if_icmp .ne 12, 3) := by decide +kernel
theorem d5_19 : decode prog_44_method_3_code 19 = .ok (.aload_n 0, 1) := by decide +kernel
theorem d5_20 : decode prog_44_method_3_code 20 = .ok (.getfield 20, 3) := by decide +kernel
theorem d5_23 : decode prog_44_method_3_code 23 = .ok (.iload_n 1, 1) := by decide +kernel
theorem d5_24 : decode prog_44_method_3_code 24 = .ok (.iaload, 1) := by decide +kernel
theorem d5_25 : decode prog_44_method_3_code 25 = .ok (.goto 4, 3) := by decide +kernel
theorem d5_28 : decode prog_44_method_3_code 28 = .ok (.iconst (-1), 1) := by decide +kernel
theorem d5_29 : decode prog_44_method_3_code 29 = .ok (.ireturn, 1) := by decide +kernel
theorem own_pn5 : plainName "com/example/bare_words/barewords/KeyReads$Targets" = true := by first | (simp [plainName, overriddenIn]; done) | decide +kernel
theorem own_ef5 (m : MethodId) (x0 : Addr) (x1 : Int32) (x2 : Int32) : entryFrame m #[(.ref x0), (.int x1), (.int x2)] 3 = mkF m 0 #[.val (.ref x0), .val (.int x1), .val (.int x2)] [] := by first | (simp [entryFrame, mkF, argsToLocals, Value.category]; done) | rfl
def QrmT (Z : State) (a a1 a2 : Addr) (k1 k2 : ClassId) (row set s0 s1 s2 t0 t1 t2 r : Int32) (h0 : Heap) (n0 : Nat) (v : Option Value) (h : Heap) (L : List Loc) : Prop := v = some (.int r) ∧ Fr n0 L ∧ h = h0
set_option maxRecDepth 65536 in
set_option maxHeartbeats 40000000 in
theorem rmT (l : Launch) (Z : State) (a0 : Array Value) (hw : ∀ d ∈ tables_1, d.before a0 Z = true) (ws : List Jvm.Cond) (a a1 a2 : Addr) (k1 k2 : ClassId) (row set s0 s1 s2 t0 t1 t2 r : Int32) (h0 : Heap) (n0 : Nat) (Z0 : n0 ≤ h0.size) (hrow : ¬ row < (0 : Int32)) (Fs : Fld Z h0 a "com/example/bare_words/barewords/KeyReads$Targets" "sets" "[I" (.ref a1)) (Fr_ : Fld Z h0 a "com/example/bare_words/barewords/KeyReads$Targets" "rows" "[I" (.ref a2)) (A1 : Arv Z h0 a1 k1 .int (3 : Int32) [(.int s0), (.int s1), (.int s2)] (.int (0 : Int32))) (A2 : Arv Z h0 a2 k2 .int (3 : Int32) [(.int t0), (.int t1), (.int t2)] (.int (0 : Int32))) (hr : own_target row set s0 s1 s2 t0 t1 t2 = r) :
    MetFree l (⟨"com/example/bare_words/barewords/KeyReads$Targets", "target", "(II)I"⟩ : MethodName) (head1 (Jvm.Cond.code (⟨"com/example/bare_words/barewords/KeyReads$Targets", "target", "(II)I"⟩ : MethodName) prog_44_method_3_code 3 (some .int) :: ws) ({ frames := 0, cells := 0, slots := 0, locals := 0 } : Room)) (fun ar_ U_ => ar_ = #[(.ref a), (.int row), (.int set)] ∧ Z.Warmed39 U_.vm ∧ U_.heap = h0) (fun _ _ _ _ _ => True) (fun _ U_ ou_ V_ => ∃ v_ L_, ou_ = .returned v_ ∧ QrmT Z a a1 a2 k1 k2 row set s0 s1 s2 t0 t1 t2 r h0 n0 v_ V_.heap L_ ∧ FrameEnd U_ ou_ V_ L_ ({ frames := 0, cells := 0, slots := 0, locals := 0 } : Room).cells ({ frames := 0, cells := 0, slots := 0, locals := 0 } : Room).slots) := by
  refine MetFree.of_bodySF (plainFor_of_name own_pn5) hisR ?_
  intro p e s m args below meth c s₁ Bd hml0 hP hK
  obtain ⟨rfl, hZ, hh⟩ := hP
  have hx := Bd.exec
  have hby := Bd.bytes
  have hml : c.maxLocals = 3 := hml0
  have hown : s.vm.findClass "com/example/bare_words/barewords/KeyReads$Targets" = some m.cls := findClass_of_methodNamed Bd.named
  have hnm := (name_of_methodNamed Bd.named Bd.method).1
  have X0 : Stand p l e ({ frames := 0, cells := 0, slots := 0, locals := 0 } : Room) s m #[(.ref a), (.int row), (.int set)] below meth c s₁ [] 0 0 := Stand.of_body Bd
  have e0 : s₁.heap = h0 := by rw [← hh, Bd.state]; rfl
  have N0 := Fr.nil n0
  refine own_go (A := s₁.setTop (mkF m 0 #[.val (.ref a), .val (.int row), .val (.int set)] [])) (fun t kz => castTop (own_ef5 m a row set) kz) ?_
  refine own_go (A := s₁.setTop (mkF m 2 #[.val (.ref a), .val (.int row), .val (.int set)] [(.ref a), (.int row)])) (fun _ kz => ?_) ?_
  · show Steps p.tables e below (s₁.setTop (mkF m 0 #[.val (.ref a), .val (.int row), .val (.int set)] [])) _
    refine XS.iloadN X0.here hx rfl (hb hby d5_0) rfl ?_
    show Steps p.tables e below (s₁.setTop (mkF m 1 #[.val (.ref a), .val (.int row), .val (.int set)] [(.int row)])) _
    refine XS.aloadN X0.here hx rfl (hb hby d5_1) rfl rfl ?_
    exact kz
  obtain ⟨T1, X1, e1, st1⟩ := getF X0 hx hZ hown (host := "") (Or.inl (hw _ (List.mem_of_getElem? (i := 28) rfl))) Via.refl e0 Fs (g := (mkF m 2 #[.val (.ref a), .val (.int row), .val (.int set)] [(.ref a), (.int row)])) rfl rfl (hb hby d5_2)
  refine own_go (A := T1.setTop (mkF m 5 #[.val (.ref a), .val (.int row), .val (.int set)] [(.ref a1), (.int row)])) (fun _ kz => st1 _ kz) ?_
  obtain ⟨cl2, Ar2, -, S2, M2, -, -⟩ := id A1
  refine own_go (A := T1.setTop (mkF m 6 #[.val (.ref a), .val (.int row), .val (.int set)] [(.int (3 : Int32)), (.int row)])) (fun _ kz => ?_) ?_
  · refine X1.arraylength hx (by rw [e1]; exact Ar2.1) (State.isArrayOf_alike hZ.alike Ar2.2.1) (g := (mkF m 5 #[.val (.ref a), .val (.int row), .val (.int set)] [(.ref a1), (.int row)])) rfl rfl (hb hby d5_5) _ ?_
    rw [len_of S2 M2]
    exact kz
  by_cases hs3 : row < (3 : Int32)
  · skip
    refine own_go (A := T1.setTop (mkF m 9 #[.val (.ref a), .val (.int row), .val (.int set)] [])) (fun _ kz => ?_) ?_
    · show Steps p.tables e below (T1.setTop (mkF m 6 #[.val (.ref a), .val (.int row), .val (.int set)] [(.int (3 : Int32)), (.int row)])) _
      refine XS.icmpNo X1.here hx rfl (hb hby d5_6) rfl (tlt hs3).2.1 ?_
      exact kz
    rcases own_lt3 _ hrow hs3 with rfl | rfl | rfl
    · skip
      refine own_go (A := T1.setTop (mkF m 10 #[.val (.ref a), .val (.int (0 : Int32)), .val (.int set)] [(.ref a)])) (fun _ kz => ?_) ?_
      · show Steps p.tables e below (T1.setTop (mkF m 9 #[.val (.ref a), .val (.int (0 : Int32)), .val (.int set)] [])) _
        refine XS.aloadN X1.here hx rfl (hb hby d5_9) rfl rfl ?_
        exact kz
      obtain ⟨T4, X4, e4, st4⟩ := getF X1 hx hZ hown (host := "") (Or.inl (hw _ (List.mem_of_getElem? (i := 28) rfl))) Via.refl e1 Fs (g := (mkF m 10 #[.val (.ref a), .val (.int (0 : Int32)), .val (.int set)] [(.ref a)])) rfl rfl (hb hby d5_10)
      refine own_go (A := T4.setTop (mkF m 13 #[.val (.ref a), .val (.int (0 : Int32)), .val (.int set)] [(.ref a1)])) (fun _ kz => st4 _ kz) ?_
      refine own_go (A := T4.setTop (mkF m 14 #[.val (.ref a), .val (.int (0 : Int32)), .val (.int set)] [(.int (0 : Int32)), (.ref a1)])) (fun _ kz => ?_) ?_
      · show Steps p.tables e below (T4.setTop (mkF m 13 #[.val (.ref a), .val (.int (0 : Int32)), .val (.int set)] [(.ref a1)])) _
        refine XS.iloadN X4.here hx rfl (hb hby d5_13) rfl ?_
        exact kz
      obtain ⟨cl5, Ar5, -, S5, M5, H5, -⟩ := id A1
      have hin5 : ¬ ((0 : Int32) < 0 ∨ cl5.slots.size ≤ ((0 : Int32)).toNatClampNeg) := inb_of S5 ⟨by decide, by decide⟩
      have hat5 : cl5.slots[((0 : Int32)).toNatClampNeg]? = some (.int s0) := H5.at hin5 rfl
      refine own_go (A := T4.setTop (mkF m 15 #[.val (.ref a), .val (.int (0 : Int32)), .val (.int set)] [(.int s0)])) (fun _ kz => ?_) ?_
      · refine X4.iaload hx (j := (0 : Int32)) (v := (.int s0)) (by rw [e4]; exact Ar5.1) (State.isArrayOf_alike hZ.alike Ar5.2.1) Ar5.2.2 hin5 hat5 (g := (mkF m 14 #[.val (.ref a), .val (.int (0 : Int32)), .val (.int set)] [(.int (0 : Int32)), (.ref a1)])) rfl rfl (hb hby d5_14) _ ?_
        exact kz
      refine own_go (A := T4.setTop (mkF m 16 #[.val (.ref a), .val (.int (0 : Int32)), .val (.int set)] [(.int set), (.int s0)])) (fun _ kz => ?_) ?_
      · show Steps p.tables e below (T4.setTop (mkF m 15 #[.val (.ref a), .val (.int (0 : Int32)), .val (.int set)] [(.int s0)])) _
        refine XS.iloadN X4.here hx rfl (hb hby d5_15) rfl ?_
        exact kz
      by_cases hs6 : s0 = set
      · skip
        refine own_go (A := T4.setTop (mkF m 19 #[.val (.ref a), .val (.int (0 : Int32)), .val (.int set)] [])) (fun _ kz => ?_) ?_
        · show Steps p.tables e below (T4.setTop (mkF m 16 #[.val (.ref a), .val (.int (0 : Int32)), .val (.int set)] [(.int set), (.int s0)])) _
          refine XS.icmpNo X4.here hx rfl (hb hby d5_16) rfl (teq hs6).2 ?_
          exact kz
        refine own_go (A := T4.setTop (mkF m 20 #[.val (.ref a), .val (.int (0 : Int32)), .val (.int set)] [(.ref a)])) (fun _ kz => ?_) ?_
        · show Steps p.tables e below (T4.setTop (mkF m 19 #[.val (.ref a), .val (.int (0 : Int32)), .val (.int set)] [])) _
          refine XS.aloadN X4.here hx rfl (hb hby d5_19) rfl rfl ?_
          exact kz
        obtain ⟨T7, X7, e7, st7⟩ := getF X4 hx hZ hown (host := "") (Or.inl (hw _ (List.mem_of_getElem? (i := 30) rfl))) Via.refl e4 Fr_ (g := (mkF m 20 #[.val (.ref a), .val (.int (0 : Int32)), .val (.int set)] [(.ref a)])) rfl rfl (hb hby d5_20)
        refine own_go (A := T7.setTop (mkF m 23 #[.val (.ref a), .val (.int (0 : Int32)), .val (.int set)] [(.ref a2)])) (fun _ kz => st7 _ kz) ?_
        refine own_go (A := T7.setTop (mkF m 24 #[.val (.ref a), .val (.int (0 : Int32)), .val (.int set)] [(.int (0 : Int32)), (.ref a2)])) (fun _ kz => ?_) ?_
        · show Steps p.tables e below (T7.setTop (mkF m 23 #[.val (.ref a), .val (.int (0 : Int32)), .val (.int set)] [(.ref a2)])) _
          refine XS.iloadN X7.here hx rfl (hb hby d5_23) rfl ?_
          exact kz
        obtain ⟨cl8, Ar8, -, S8, M8, H8, -⟩ := id A2
        have hin8 : ¬ ((0 : Int32) < 0 ∨ cl8.slots.size ≤ ((0 : Int32)).toNatClampNeg) := inb_of S8 ⟨by decide, by decide⟩
        have hat8 : cl8.slots[((0 : Int32)).toNatClampNeg]? = some (.int t0) := H8.at hin8 rfl
        refine own_go (A := T7.setTop (mkF m 25 #[.val (.ref a), .val (.int (0 : Int32)), .val (.int set)] [(.int t0)])) (fun _ kz => ?_) ?_
        · refine X7.iaload hx (j := (0 : Int32)) (v := (.int t0)) (by rw [e7]; exact Ar8.1) (State.isArrayOf_alike hZ.alike Ar8.2.1) Ar8.2.2 hin8 hat8 (g := (mkF m 24 #[.val (.ref a), .val (.int (0 : Int32)), .val (.int set)] [(.int (0 : Int32)), (.ref a2)])) rfl rfl (hb hby d5_24) _ ?_
          exact kz
        refine own_go (A := T7.setTop (mkF m 29 #[.val (.ref a), .val (.int (0 : Int32)), .val (.int set)] [(.int t0)])) (fun _ kz => ?_) ?_
        · show Steps p.tables e below (T7.setTop (mkF m 25 #[.val (.ref a), .val (.int (0 : Int32)), .val (.int set)] [(.int t0)])) _
          refine XS.goto X7.here hx rfl (pc0 := 25) (pc' := 29) rfl (hb hby d5_25) (by decide) (by decide) ?_
          exact kz
        obtain ⟨fs, hrr, hrun, hended, hW, hsame⟩ := X7.leave (v := some (.int t0)) (fun h => by rw [Bd.returns] at h; cases h)
        refine ⟨_, _, ?_, hrun, hended, _, _, rfl, ?_, ⟨_, rfl⟩, hW, hsame.mono (by decide) (by decide)⟩
        · show Steps p.tables e below (T7.setTop (mkF m 29 #[.val (.ref a), .val (.int (0 : Int32)), .val (.int set)] [(.int t0)])) _
          exact retI X7 hx Bd.returns (hb hby d5_29) hrr
        · show QrmT Z a a1 a2 k1 k2 (0 : Int32) set s0 s1 s2 t0 t1 t2 r h0 n0 _ T7.heap _
          rw [e7]
          exact ⟨by rw [← hr]; simp [own_target, hs6], N0, rfl⟩
      · skip
        refine own_go (A := T4.setTop (mkF m 28 #[.val (.ref a), .val (.int (0 : Int32)), .val (.int set)] [])) (fun _ kz => ?_) ?_
        · show Steps p.tables e below (T4.setTop (mkF m 16 #[.val (.ref a), .val (.int (0 : Int32)), .val (.int set)] [(.int set), (.int s0)])) _
          refine XS.icmpYes X4.here hx rfl (pc0 := 16) (pc' := 28) rfl (hb hby d5_16) rfl (feq hs6).2 (by decide) (by decide) ?_
          exact kz
        refine own_go (A := T4.setTop (mkF m 29 #[.val (.ref a), .val (.int (0 : Int32)), .val (.int set)] [(.int (-1 : Int32))])) (fun _ kz => ?_) ?_
        · show Steps p.tables e below (T4.setTop (mkF m 28 #[.val (.ref a), .val (.int (0 : Int32)), .val (.int set)] [])) _
          refine XS.iconst X4.here hx rfl (hb hby d5_28) ?_
          exact kz
        obtain ⟨fs, hrr, hrun, hended, hW, hsame⟩ := X4.leave (v := some (.int (-1 : Int32))) (fun h => by rw [Bd.returns] at h; cases h)
        refine ⟨_, _, ?_, hrun, hended, _, _, rfl, ?_, ⟨_, rfl⟩, hW, hsame.mono (by decide) (by decide)⟩
        · show Steps p.tables e below (T4.setTop (mkF m 29 #[.val (.ref a), .val (.int (0 : Int32)), .val (.int set)] [(.int (-1 : Int32))])) _
          exact retI X4 hx Bd.returns (hb hby d5_29) hrr
        · show QrmT Z a a1 a2 k1 k2 (0 : Int32) set s0 s1 s2 t0 t1 t2 r h0 n0 _ T4.heap _
          rw [e4]
          exact ⟨by rw [← hr]; simp [own_target, hs6], N0, rfl⟩
    · skip
      refine own_go (A := T1.setTop (mkF m 10 #[.val (.ref a), .val (.int (1 : Int32)), .val (.int set)] [(.ref a)])) (fun _ kz => ?_) ?_
      · show Steps p.tables e below (T1.setTop (mkF m 9 #[.val (.ref a), .val (.int (1 : Int32)), .val (.int set)] [])) _
        refine XS.aloadN X1.here hx rfl (hb hby d5_9) rfl rfl ?_
        exact kz
      obtain ⟨T9, X9, e9, st9⟩ := getF X1 hx hZ hown (host := "") (Or.inl (hw _ (List.mem_of_getElem? (i := 28) rfl))) Via.refl e1 Fs (g := (mkF m 10 #[.val (.ref a), .val (.int (1 : Int32)), .val (.int set)] [(.ref a)])) rfl rfl (hb hby d5_10)
      refine own_go (A := T9.setTop (mkF m 13 #[.val (.ref a), .val (.int (1 : Int32)), .val (.int set)] [(.ref a1)])) (fun _ kz => st9 _ kz) ?_
      refine own_go (A := T9.setTop (mkF m 14 #[.val (.ref a), .val (.int (1 : Int32)), .val (.int set)] [(.int (1 : Int32)), (.ref a1)])) (fun _ kz => ?_) ?_
      · show Steps p.tables e below (T9.setTop (mkF m 13 #[.val (.ref a), .val (.int (1 : Int32)), .val (.int set)] [(.ref a1)])) _
        refine XS.iloadN X9.here hx rfl (hb hby d5_13) rfl ?_
        exact kz
      obtain ⟨cl10, Ar10, -, S10, M10, H10, -⟩ := id A1
      have hin10 : ¬ ((1 : Int32) < 0 ∨ cl10.slots.size ≤ ((1 : Int32)).toNatClampNeg) := inb_of S10 ⟨by decide, by decide⟩
      have hat10 : cl10.slots[((1 : Int32)).toNatClampNeg]? = some (.int s1) := H10.at hin10 rfl
      refine own_go (A := T9.setTop (mkF m 15 #[.val (.ref a), .val (.int (1 : Int32)), .val (.int set)] [(.int s1)])) (fun _ kz => ?_) ?_
      · refine X9.iaload hx (j := (1 : Int32)) (v := (.int s1)) (by rw [e9]; exact Ar10.1) (State.isArrayOf_alike hZ.alike Ar10.2.1) Ar10.2.2 hin10 hat10 (g := (mkF m 14 #[.val (.ref a), .val (.int (1 : Int32)), .val (.int set)] [(.int (1 : Int32)), (.ref a1)])) rfl rfl (hb hby d5_14) _ ?_
        exact kz
      refine own_go (A := T9.setTop (mkF m 16 #[.val (.ref a), .val (.int (1 : Int32)), .val (.int set)] [(.int set), (.int s1)])) (fun _ kz => ?_) ?_
      · show Steps p.tables e below (T9.setTop (mkF m 15 #[.val (.ref a), .val (.int (1 : Int32)), .val (.int set)] [(.int s1)])) _
        refine XS.iloadN X9.here hx rfl (hb hby d5_15) rfl ?_
        exact kz
      by_cases hs11 : s1 = set
      · skip
        refine own_go (A := T9.setTop (mkF m 19 #[.val (.ref a), .val (.int (1 : Int32)), .val (.int set)] [])) (fun _ kz => ?_) ?_
        · show Steps p.tables e below (T9.setTop (mkF m 16 #[.val (.ref a), .val (.int (1 : Int32)), .val (.int set)] [(.int set), (.int s1)])) _
          refine XS.icmpNo X9.here hx rfl (hb hby d5_16) rfl (teq hs11).2 ?_
          exact kz
        refine own_go (A := T9.setTop (mkF m 20 #[.val (.ref a), .val (.int (1 : Int32)), .val (.int set)] [(.ref a)])) (fun _ kz => ?_) ?_
        · show Steps p.tables e below (T9.setTop (mkF m 19 #[.val (.ref a), .val (.int (1 : Int32)), .val (.int set)] [])) _
          refine XS.aloadN X9.here hx rfl (hb hby d5_19) rfl rfl ?_
          exact kz
        obtain ⟨T12, X12, e12, st12⟩ := getF X9 hx hZ hown (host := "") (Or.inl (hw _ (List.mem_of_getElem? (i := 30) rfl))) Via.refl e9 Fr_ (g := (mkF m 20 #[.val (.ref a), .val (.int (1 : Int32)), .val (.int set)] [(.ref a)])) rfl rfl (hb hby d5_20)
        refine own_go (A := T12.setTop (mkF m 23 #[.val (.ref a), .val (.int (1 : Int32)), .val (.int set)] [(.ref a2)])) (fun _ kz => st12 _ kz) ?_
        refine own_go (A := T12.setTop (mkF m 24 #[.val (.ref a), .val (.int (1 : Int32)), .val (.int set)] [(.int (1 : Int32)), (.ref a2)])) (fun _ kz => ?_) ?_
        · show Steps p.tables e below (T12.setTop (mkF m 23 #[.val (.ref a), .val (.int (1 : Int32)), .val (.int set)] [(.ref a2)])) _
          refine XS.iloadN X12.here hx rfl (hb hby d5_23) rfl ?_
          exact kz
        obtain ⟨cl13, Ar13, -, S13, M13, H13, -⟩ := id A2
        have hin13 : ¬ ((1 : Int32) < 0 ∨ cl13.slots.size ≤ ((1 : Int32)).toNatClampNeg) := inb_of S13 ⟨by decide, by decide⟩
        have hat13 : cl13.slots[((1 : Int32)).toNatClampNeg]? = some (.int t1) := H13.at hin13 rfl
        refine own_go (A := T12.setTop (mkF m 25 #[.val (.ref a), .val (.int (1 : Int32)), .val (.int set)] [(.int t1)])) (fun _ kz => ?_) ?_
        · refine X12.iaload hx (j := (1 : Int32)) (v := (.int t1)) (by rw [e12]; exact Ar13.1) (State.isArrayOf_alike hZ.alike Ar13.2.1) Ar13.2.2 hin13 hat13 (g := (mkF m 24 #[.val (.ref a), .val (.int (1 : Int32)), .val (.int set)] [(.int (1 : Int32)), (.ref a2)])) rfl rfl (hb hby d5_24) _ ?_
          exact kz
        refine own_go (A := T12.setTop (mkF m 29 #[.val (.ref a), .val (.int (1 : Int32)), .val (.int set)] [(.int t1)])) (fun _ kz => ?_) ?_
        · show Steps p.tables e below (T12.setTop (mkF m 25 #[.val (.ref a), .val (.int (1 : Int32)), .val (.int set)] [(.int t1)])) _
          refine XS.goto X12.here hx rfl (pc0 := 25) (pc' := 29) rfl (hb hby d5_25) (by decide) (by decide) ?_
          exact kz
        obtain ⟨fs, hrr, hrun, hended, hW, hsame⟩ := X12.leave (v := some (.int t1)) (fun h => by rw [Bd.returns] at h; cases h)
        refine ⟨_, _, ?_, hrun, hended, _, _, rfl, ?_, ⟨_, rfl⟩, hW, hsame.mono (by decide) (by decide)⟩
        · show Steps p.tables e below (T12.setTop (mkF m 29 #[.val (.ref a), .val (.int (1 : Int32)), .val (.int set)] [(.int t1)])) _
          exact retI X12 hx Bd.returns (hb hby d5_29) hrr
        · show QrmT Z a a1 a2 k1 k2 (1 : Int32) set s0 s1 s2 t0 t1 t2 r h0 n0 _ T12.heap _
          rw [e12]
          exact ⟨by rw [← hr]; simp [own_target, hs11], N0, rfl⟩
      · skip
        refine own_go (A := T9.setTop (mkF m 28 #[.val (.ref a), .val (.int (1 : Int32)), .val (.int set)] [])) (fun _ kz => ?_) ?_
        · show Steps p.tables e below (T9.setTop (mkF m 16 #[.val (.ref a), .val (.int (1 : Int32)), .val (.int set)] [(.int set), (.int s1)])) _
          refine XS.icmpYes X9.here hx rfl (pc0 := 16) (pc' := 28) rfl (hb hby d5_16) rfl (feq hs11).2 (by decide) (by decide) ?_
          exact kz
        refine own_go (A := T9.setTop (mkF m 29 #[.val (.ref a), .val (.int (1 : Int32)), .val (.int set)] [(.int (-1 : Int32))])) (fun _ kz => ?_) ?_
        · show Steps p.tables e below (T9.setTop (mkF m 28 #[.val (.ref a), .val (.int (1 : Int32)), .val (.int set)] [])) _
          refine XS.iconst X9.here hx rfl (hb hby d5_28) ?_
          exact kz
        obtain ⟨fs, hrr, hrun, hended, hW, hsame⟩ := X9.leave (v := some (.int (-1 : Int32))) (fun h => by rw [Bd.returns] at h; cases h)
        refine ⟨_, _, ?_, hrun, hended, _, _, rfl, ?_, ⟨_, rfl⟩, hW, hsame.mono (by decide) (by decide)⟩
        · show Steps p.tables e below (T9.setTop (mkF m 29 #[.val (.ref a), .val (.int (1 : Int32)), .val (.int set)] [(.int (-1 : Int32))])) _
          exact retI X9 hx Bd.returns (hb hby d5_29) hrr
        · show QrmT Z a a1 a2 k1 k2 (1 : Int32) set s0 s1 s2 t0 t1 t2 r h0 n0 _ T9.heap _
          rw [e9]
          exact ⟨by rw [← hr]; simp [own_target, hs11], N0, rfl⟩
    · skip
      refine own_go (A := T1.setTop (mkF m 10 #[.val (.ref a), .val (.int (2 : Int32)), .val (.int set)] [(.ref a)])) (fun _ kz => ?_) ?_
      · show Steps p.tables e below (T1.setTop (mkF m 9 #[.val (.ref a), .val (.int (2 : Int32)), .val (.int set)] [])) _
        refine XS.aloadN X1.here hx rfl (hb hby d5_9) rfl rfl ?_
        exact kz
      obtain ⟨T14, X14, e14, st14⟩ := getF X1 hx hZ hown (host := "") (Or.inl (hw _ (List.mem_of_getElem? (i := 28) rfl))) Via.refl e1 Fs (g := (mkF m 10 #[.val (.ref a), .val (.int (2 : Int32)), .val (.int set)] [(.ref a)])) rfl rfl (hb hby d5_10)
      refine own_go (A := T14.setTop (mkF m 13 #[.val (.ref a), .val (.int (2 : Int32)), .val (.int set)] [(.ref a1)])) (fun _ kz => st14 _ kz) ?_
      refine own_go (A := T14.setTop (mkF m 14 #[.val (.ref a), .val (.int (2 : Int32)), .val (.int set)] [(.int (2 : Int32)), (.ref a1)])) (fun _ kz => ?_) ?_
      · show Steps p.tables e below (T14.setTop (mkF m 13 #[.val (.ref a), .val (.int (2 : Int32)), .val (.int set)] [(.ref a1)])) _
        refine XS.iloadN X14.here hx rfl (hb hby d5_13) rfl ?_
        exact kz
      obtain ⟨cl15, Ar15, -, S15, M15, H15, -⟩ := id A1
      have hin15 : ¬ ((2 : Int32) < 0 ∨ cl15.slots.size ≤ ((2 : Int32)).toNatClampNeg) := inb_of S15 ⟨by decide, by decide⟩
      have hat15 : cl15.slots[((2 : Int32)).toNatClampNeg]? = some (.int s2) := H15.at hin15 rfl
      refine own_go (A := T14.setTop (mkF m 15 #[.val (.ref a), .val (.int (2 : Int32)), .val (.int set)] [(.int s2)])) (fun _ kz => ?_) ?_
      · refine X14.iaload hx (j := (2 : Int32)) (v := (.int s2)) (by rw [e14]; exact Ar15.1) (State.isArrayOf_alike hZ.alike Ar15.2.1) Ar15.2.2 hin15 hat15 (g := (mkF m 14 #[.val (.ref a), .val (.int (2 : Int32)), .val (.int set)] [(.int (2 : Int32)), (.ref a1)])) rfl rfl (hb hby d5_14) _ ?_
        exact kz
      refine own_go (A := T14.setTop (mkF m 16 #[.val (.ref a), .val (.int (2 : Int32)), .val (.int set)] [(.int set), (.int s2)])) (fun _ kz => ?_) ?_
      · show Steps p.tables e below (T14.setTop (mkF m 15 #[.val (.ref a), .val (.int (2 : Int32)), .val (.int set)] [(.int s2)])) _
        refine XS.iloadN X14.here hx rfl (hb hby d5_15) rfl ?_
        exact kz
      by_cases hs16 : s2 = set
      · skip
        refine own_go (A := T14.setTop (mkF m 19 #[.val (.ref a), .val (.int (2 : Int32)), .val (.int set)] [])) (fun _ kz => ?_) ?_
        · show Steps p.tables e below (T14.setTop (mkF m 16 #[.val (.ref a), .val (.int (2 : Int32)), .val (.int set)] [(.int set), (.int s2)])) _
          refine XS.icmpNo X14.here hx rfl (hb hby d5_16) rfl (teq hs16).2 ?_
          exact kz
        refine own_go (A := T14.setTop (mkF m 20 #[.val (.ref a), .val (.int (2 : Int32)), .val (.int set)] [(.ref a)])) (fun _ kz => ?_) ?_
        · show Steps p.tables e below (T14.setTop (mkF m 19 #[.val (.ref a), .val (.int (2 : Int32)), .val (.int set)] [])) _
          refine XS.aloadN X14.here hx rfl (hb hby d5_19) rfl rfl ?_
          exact kz
        obtain ⟨T17, X17, e17, st17⟩ := getF X14 hx hZ hown (host := "") (Or.inl (hw _ (List.mem_of_getElem? (i := 30) rfl))) Via.refl e14 Fr_ (g := (mkF m 20 #[.val (.ref a), .val (.int (2 : Int32)), .val (.int set)] [(.ref a)])) rfl rfl (hb hby d5_20)
        refine own_go (A := T17.setTop (mkF m 23 #[.val (.ref a), .val (.int (2 : Int32)), .val (.int set)] [(.ref a2)])) (fun _ kz => st17 _ kz) ?_
        refine own_go (A := T17.setTop (mkF m 24 #[.val (.ref a), .val (.int (2 : Int32)), .val (.int set)] [(.int (2 : Int32)), (.ref a2)])) (fun _ kz => ?_) ?_
        · show Steps p.tables e below (T17.setTop (mkF m 23 #[.val (.ref a), .val (.int (2 : Int32)), .val (.int set)] [(.ref a2)])) _
          refine XS.iloadN X17.here hx rfl (hb hby d5_23) rfl ?_
          exact kz
        obtain ⟨cl18, Ar18, -, S18, M18, H18, -⟩ := id A2
        have hin18 : ¬ ((2 : Int32) < 0 ∨ cl18.slots.size ≤ ((2 : Int32)).toNatClampNeg) := inb_of S18 ⟨by decide, by decide⟩
        have hat18 : cl18.slots[((2 : Int32)).toNatClampNeg]? = some (.int t2) := H18.at hin18 rfl
        refine own_go (A := T17.setTop (mkF m 25 #[.val (.ref a), .val (.int (2 : Int32)), .val (.int set)] [(.int t2)])) (fun _ kz => ?_) ?_
        · refine X17.iaload hx (j := (2 : Int32)) (v := (.int t2)) (by rw [e17]; exact Ar18.1) (State.isArrayOf_alike hZ.alike Ar18.2.1) Ar18.2.2 hin18 hat18 (g := (mkF m 24 #[.val (.ref a), .val (.int (2 : Int32)), .val (.int set)] [(.int (2 : Int32)), (.ref a2)])) rfl rfl (hb hby d5_24) _ ?_
          exact kz
        refine own_go (A := T17.setTop (mkF m 29 #[.val (.ref a), .val (.int (2 : Int32)), .val (.int set)] [(.int t2)])) (fun _ kz => ?_) ?_
        · show Steps p.tables e below (T17.setTop (mkF m 25 #[.val (.ref a), .val (.int (2 : Int32)), .val (.int set)] [(.int t2)])) _
          refine XS.goto X17.here hx rfl (pc0 := 25) (pc' := 29) rfl (hb hby d5_25) (by decide) (by decide) ?_
          exact kz
        obtain ⟨fs, hrr, hrun, hended, hW, hsame⟩ := X17.leave (v := some (.int t2)) (fun h => by rw [Bd.returns] at h; cases h)
        refine ⟨_, _, ?_, hrun, hended, _, _, rfl, ?_, ⟨_, rfl⟩, hW, hsame.mono (by decide) (by decide)⟩
        · show Steps p.tables e below (T17.setTop (mkF m 29 #[.val (.ref a), .val (.int (2 : Int32)), .val (.int set)] [(.int t2)])) _
          exact retI X17 hx Bd.returns (hb hby d5_29) hrr
        · show QrmT Z a a1 a2 k1 k2 (2 : Int32) set s0 s1 s2 t0 t1 t2 r h0 n0 _ T17.heap _
          rw [e17]
          exact ⟨by rw [← hr]; simp [own_target, hs16], N0, rfl⟩
      · skip
        refine own_go (A := T14.setTop (mkF m 28 #[.val (.ref a), .val (.int (2 : Int32)), .val (.int set)] [])) (fun _ kz => ?_) ?_
        · show Steps p.tables e below (T14.setTop (mkF m 16 #[.val (.ref a), .val (.int (2 : Int32)), .val (.int set)] [(.int set), (.int s2)])) _
          refine XS.icmpYes X14.here hx rfl (pc0 := 16) (pc' := 28) rfl (hb hby d5_16) rfl (feq hs16).2 (by decide) (by decide) ?_
          exact kz
        refine own_go (A := T14.setTop (mkF m 29 #[.val (.ref a), .val (.int (2 : Int32)), .val (.int set)] [(.int (-1 : Int32))])) (fun _ kz => ?_) ?_
        · show Steps p.tables e below (T14.setTop (mkF m 28 #[.val (.ref a), .val (.int (2 : Int32)), .val (.int set)] [])) _
          refine XS.iconst X14.here hx rfl (hb hby d5_28) ?_
          exact kz
        obtain ⟨fs, hrr, hrun, hended, hW, hsame⟩ := X14.leave (v := some (.int (-1 : Int32))) (fun h => by rw [Bd.returns] at h; cases h)
        refine ⟨_, _, ?_, hrun, hended, _, _, rfl, ?_, ⟨_, rfl⟩, hW, hsame.mono (by decide) (by decide)⟩
        · show Steps p.tables e below (T14.setTop (mkF m 29 #[.val (.ref a), .val (.int (2 : Int32)), .val (.int set)] [(.int (-1 : Int32))])) _
          exact retI X14 hx Bd.returns (hb hby d5_29) hrr
        · show QrmT Z a a1 a2 k1 k2 (2 : Int32) set s0 s1 s2 t0 t1 t2 r h0 n0 _ T14.heap _
          rw [e14]
          exact ⟨by rw [← hr]; simp [own_target, hs16], N0, rfl⟩
  · skip
    refine own_go (A := T1.setTop (mkF m 28 #[.val (.ref a), .val (.int row), .val (.int set)] [])) (fun _ kz => ?_) ?_
    · show Steps p.tables e below (T1.setTop (mkF m 6 #[.val (.ref a), .val (.int row), .val (.int set)] [(.int (3 : Int32)), (.int row)])) _
      refine XS.icmpYes X1.here hx rfl (pc0 := 6) (pc' := 28) rfl (hb hby d5_6) rfl (flt hs3).2.1 (by decide) (by decide) ?_
      exact kz
    refine own_go (A := T1.setTop (mkF m 29 #[.val (.ref a), .val (.int row), .val (.int set)] [(.int (-1 : Int32))])) (fun _ kz => ?_) ?_
    · show Steps p.tables e below (T1.setTop (mkF m 28 #[.val (.ref a), .val (.int row), .val (.int set)] [])) _
      refine XS.iconst X1.here hx rfl (hb hby d5_28) ?_
      exact kz
    obtain ⟨fs, hrr, hrun, hended, hW, hsame⟩ := X1.leave (v := some (.int (-1 : Int32))) (fun h => by rw [Bd.returns] at h; cases h)
    refine ⟨_, _, ?_, hrun, hended, _, _, rfl, ?_, ⟨_, rfl⟩, hW, hsame.mono (by decide) (by decide)⟩
    · show Steps p.tables e below (T1.setTop (mkF m 29 #[.val (.ref a), .val (.int row), .val (.int set)] [(.int (-1 : Int32))])) _
      exact retI X1 hx Bd.returns (hb hby d5_29) hrr
    · show QrmT Z a a1 a2 k1 k2 row set s0 s1 s2 t0 t1 t2 r h0 n0 _ T1.heap _
      rw [e1]
      exact ⟨by rw [← hr, own_target_ge hs3], N0, rfl⟩
theorem own_pn0 : plainName "com/example/bare_words/barewords/TargetsTargetPinLaw" = true := by first | (simp [plainName, overriddenIn]; done) | decide +kernel
theorem own_ef0 (m : MethodId) (x0 : Int32) (x1 : Int32) (x2 : Int32) (x3 : Int32) (x4 : Int32) (x5 : Int64) : entryFrame m #[(.int x0), (.int x1), (.int x2), (.int x3), (.int x4), (.long x5)] maxLocals = mkF m 0 #[.val (.int x0), .val (.int x1), .val (.int x2), .val (.int x3), .val (.int x4), .val (.long x5), .second, .unset, .unset, .unset, .unset, .unset, .unset, .unset, .unset, .unset, .unset, .unset, .unset] [] := by first | (simp [entryFrame, mkF, argsToLocals, Value.category, maxLocals]; done) | rfl
def Qrm0 (Z : State) (p1 p2 p3 p4 p5 : Int32) (q6 : Int64) (h0 : Heap) (n0 : Nat) (v : Option Value) (h : Heap) (L : List Loc) : Prop := v = some (.int 1) ∧ Fr n0 L
set_option maxRecDepth 65536 in
set_option maxHeartbeats 40000000 in
theorem rm0 (l : Launch) (Z : State) (a0 : Array Value) (hw : ∀ d ∈ tables_1, d.before a0 Z = true) (ws : List Jvm.Cond) (p1 p2 p3 p4 p5 : Int32) (q6 : Int64) (h0 : Heap) (n0 : Nat) (Z0 : n0 ≤ h0.size)  :
    MetFree l x (head1 (Jvm.Cond.code x code maxLocals ret :: ws) room_1) (fun ar_ U_ => ar_ = #[(.int p1), (.int p2), (.int p3), (.int p4), (.int p5), (.long q6)] ∧ Z.Warmed39 U_.vm ∧ U_.heap = h0) (fun _ _ _ _ _ => True) (fun _ U_ ou_ V_ => ∃ v_ L_, ou_ = .returned v_ ∧ Qrm0 Z p1 p2 p3 p4 p5 q6 h0 n0 v_ V_.heap L_ ∧ FrameEnd U_ ou_ V_ L_ room_1.cells room_1.slots) := by
  refine MetFree.of_bodySF (plainFor_of_name own_pn0) hisR ?_
  intro p e s m args below meth c s₁ Bd hml0 hP hK
  obtain ⟨rfl, hZ, hh⟩ := hP
  have hx := Bd.exec
  have hby := Bd.bytes
  have hml : c.maxLocals = 19 := hml0
  have hown : s.vm.findClass "com/example/bare_words/barewords/TargetsTargetPinLaw" = some m.cls := findClass_of_methodNamed Bd.named
  have hnm := (name_of_methodNamed Bd.named Bd.method).1
  have X0 : Stand p l e room_1 s m #[(.int p1), (.int p2), (.int p3), (.int p4), (.int p5), (.long q6)] below meth c s₁ [] 0 0 := Stand.of_body Bd
  have e0 : s₁.heap = h0 := by rw [← hh, Bd.state]; rfl
  have N0 := Fr.nil n0
  refine own_go (A := s₁.setTop (mkF m 0 #[.val (.int p1), .val (.int p2), .val (.int p3), .val (.int p4), .val (.int p5), .val (.long q6), .second, .unset, .unset, .unset, .unset, .unset, .unset, .unset, .unset, .unset, .unset, .unset, .unset] [])) (fun t kz => castTop (own_ef0 m p1 p2 p3 p4 p5 q6) kz) ?_
  obtain ⟨s0, hs0⟩ : ∃ z, z = (if p3 < (0 : Int32) then (-1 : Int32) else p3) := ⟨_, rfl⟩
  refine own_go (A := s₁.setTop (mkF m 9 #[.val (.int p1), .val (.int p2), .val (.int p3), .val (.int p4), .val (.int p5), .val (.long q6), .second, .unset, .unset, .unset, .unset, .unset, .unset, .unset, .unset, .unset, .unset, .unset, .unset] [(.int s0)])) (fun _ kz => ?_) ?_
  · show Steps p.tables e below (s₁.setTop (mkF m 0 #[.val (.int p1), .val (.int p2), .val (.int p3), .val (.int p4), .val (.int p5), .val (.long q6), .second, .unset, .unset, .unset, .unset, .unset, .unset, .unset, .unset, .unset, .unset, .unset, .unset] [])) _
    refine XS.iloadN X0.here hx rfl (hb hby at_0) rfl ?_
    show Steps p.tables e below (s₁.setTop (mkF m 1 #[.val (.int p1), .val (.int p2), .val (.int p3), .val (.int p4), .val (.int p5), .val (.long q6), .second, .unset, .unset, .unset, .unset, .unset, .unset, .unset, .unset, .unset, .unset, .unset, .unset] [(.int p3)])) _
    by_cases hc1 : p3 < (0 : Int32)
    · rw [hs0, if_pos hc1] at kz
      refine XS.ifNo X0.here hx rfl (hb hby at_1) rfl ((if0 _ _).trans (tlt hc1).2.1) ?_
      show Steps p.tables e below (s₁.setTop (mkF m 4 #[.val (.int p1), .val (.int p2), .val (.int p3), .val (.int p4), .val (.int p5), .val (.long q6), .second, .unset, .unset, .unset, .unset, .unset, .unset, .unset, .unset, .unset, .unset, .unset, .unset] [])) _
      refine XS.iconst X0.here hx rfl (hb hby at_4) ?_
      show Steps p.tables e below (s₁.setTop (mkF m 5 #[.val (.int p1), .val (.int p2), .val (.int p3), .val (.int p4), .val (.int p5), .val (.long q6), .second, .unset, .unset, .unset, .unset, .unset, .unset, .unset, .unset, .unset, .unset, .unset, .unset] [(.int (-1 : Int32))])) _
      refine XS.goto X0.here hx rfl (pc0 := 5) (pc' := 9) rfl (hb hby at_5) (by decide) (by decide) ?_
      exact kz
    · rw [hs0, if_neg hc1] at kz
      refine XS.ifYes X0.here hx rfl (pc0 := 1) (pc' := 8) rfl (hb hby at_1) rfl ((if0 _ _).trans (flt hc1).2.1) (by decide) (by decide) ?_
      show Steps p.tables e below (s₁.setTop (mkF m 8 #[.val (.int p1), .val (.int p2), .val (.int p3), .val (.int p4), .val (.int p5), .val (.long q6), .second, .unset, .unset, .unset, .unset, .unset, .unset, .unset, .unset, .unset, .unset, .unset, .unset] [])) _
      refine XS.iloadN X0.here hx rfl (hb hby at_8) rfl ?_
      exact kz
  obtain ⟨s1, hs1⟩ : ∃ z, z = (if p4 < (0 : Int32) then (-1 : Int32) else p4) := ⟨_, rfl⟩
  refine own_go (A := s₁.setTop (mkF m 20 #[.val (.int p1), .val (.int p2), .val (.int p3), .val (.int p4), .val (.int p5), .val (.long q6), .second, .val (.int s0), .unset, .unset, .unset, .unset, .unset, .unset, .unset, .unset, .unset, .unset, .unset] [(.int s1)])) (fun _ kz => ?_) ?_
  · show Steps p.tables e below (s₁.setTop (mkF m 9 #[.val (.int p1), .val (.int p2), .val (.int p3), .val (.int p4), .val (.int p5), .val (.long q6), .second, .unset, .unset, .unset, .unset, .unset, .unset, .unset, .unset, .unset, .unset, .unset, .unset] [(.int s0)])) _
    refine XS.istore X0.here hx rfl (hb hby at_9) rfl (l' := #[.val (.int p1), .val (.int p2), .val (.int p3), .val (.int p4), .val (.int p5), .val (.long q6), .second, .val (.int s0), .unset, .unset, .unset, .unset, .unset, .unset, .unset, .unset, .unset, .unset, .unset]) rfl ?_
    show Steps p.tables e below (s₁.setTop (mkF m 11 #[.val (.int p1), .val (.int p2), .val (.int p3), .val (.int p4), .val (.int p5), .val (.long q6), .second, .val (.int s0), .unset, .unset, .unset, .unset, .unset, .unset, .unset, .unset, .unset, .unset, .unset] [])) _
    refine XS.iloadN X0.here hx rfl (hb hby at_11) rfl ?_
    show Steps p.tables e below (s₁.setTop (mkF m 12 #[.val (.int p1), .val (.int p2), .val (.int p3), .val (.int p4), .val (.int p5), .val (.long q6), .second, .val (.int s0), .unset, .unset, .unset, .unset, .unset, .unset, .unset, .unset, .unset, .unset, .unset] [(.int p4)])) _
    by_cases hc12 : p4 < (0 : Int32)
    · rw [hs1, if_pos hc12] at kz
      refine XS.ifNo X0.here hx rfl (hb hby at_12) rfl ((if0 _ _).trans (tlt hc12).2.1) ?_
      show Steps p.tables e below (s₁.setTop (mkF m 15 #[.val (.int p1), .val (.int p2), .val (.int p3), .val (.int p4), .val (.int p5), .val (.long q6), .second, .val (.int s0), .unset, .unset, .unset, .unset, .unset, .unset, .unset, .unset, .unset, .unset, .unset] [])) _
      refine XS.iconst X0.here hx rfl (hb hby at_15) ?_
      show Steps p.tables e below (s₁.setTop (mkF m 16 #[.val (.int p1), .val (.int p2), .val (.int p3), .val (.int p4), .val (.int p5), .val (.long q6), .second, .val (.int s0), .unset, .unset, .unset, .unset, .unset, .unset, .unset, .unset, .unset, .unset, .unset] [(.int (-1 : Int32))])) _
      refine XS.goto X0.here hx rfl (pc0 := 16) (pc' := 20) rfl (hb hby at_16) (by decide) (by decide) ?_
      exact kz
    · rw [hs1, if_neg hc12] at kz
      refine XS.ifYes X0.here hx rfl (pc0 := 12) (pc' := 19) rfl (hb hby at_12) rfl ((if0 _ _).trans (flt hc12).2.1) (by decide) (by decide) ?_
      show Steps p.tables e below (s₁.setTop (mkF m 19 #[.val (.int p1), .val (.int p2), .val (.int p3), .val (.int p4), .val (.int p5), .val (.long q6), .second, .val (.int s0), .unset, .unset, .unset, .unset, .unset, .unset, .unset, .unset, .unset, .unset, .unset] [])) _
      refine XS.iloadN X0.here hx rfl (hb hby at_19) rfl ?_
      exact kz
  obtain ⟨s2, hs2⟩ : ∃ z, z = (if p5 < (0 : Int32) then (-1 : Int32) else p5) := ⟨_, rfl⟩
  refine own_go (A := s₁.setTop (mkF m 33 #[.val (.int p1), .val (.int p2), .val (.int p3), .val (.int p4), .val (.int p5), .val (.long q6), .second, .val (.int s0), .val (.int s1), .unset, .unset, .unset, .unset, .unset, .unset, .unset, .unset, .unset, .unset] [(.int s2)])) (fun _ kz => ?_) ?_
  · show Steps p.tables e below (s₁.setTop (mkF m 20 #[.val (.int p1), .val (.int p2), .val (.int p3), .val (.int p4), .val (.int p5), .val (.long q6), .second, .val (.int s0), .unset, .unset, .unset, .unset, .unset, .unset, .unset, .unset, .unset, .unset, .unset] [(.int s1)])) _
    refine XS.istore X0.here hx rfl (hb hby at_20) rfl (l' := #[.val (.int p1), .val (.int p2), .val (.int p3), .val (.int p4), .val (.int p5), .val (.long q6), .second, .val (.int s0), .val (.int s1), .unset, .unset, .unset, .unset, .unset, .unset, .unset, .unset, .unset, .unset]) rfl ?_
    show Steps p.tables e below (s₁.setTop (mkF m 22 #[.val (.int p1), .val (.int p2), .val (.int p3), .val (.int p4), .val (.int p5), .val (.long q6), .second, .val (.int s0), .val (.int s1), .unset, .unset, .unset, .unset, .unset, .unset, .unset, .unset, .unset, .unset] [])) _
    refine XS.iload X0.here hx rfl (hb hby at_22) rfl ?_
    show Steps p.tables e below (s₁.setTop (mkF m 24 #[.val (.int p1), .val (.int p2), .val (.int p3), .val (.int p4), .val (.int p5), .val (.long q6), .second, .val (.int s0), .val (.int s1), .unset, .unset, .unset, .unset, .unset, .unset, .unset, .unset, .unset, .unset] [(.int p5)])) _
    by_cases hc24 : p5 < (0 : Int32)
    · rw [hs2, if_pos hc24] at kz
      refine XS.ifNo X0.here hx rfl (hb hby at_24) rfl ((if0 _ _).trans (tlt hc24).2.1) ?_
      show Steps p.tables e below (s₁.setTop (mkF m 27 #[.val (.int p1), .val (.int p2), .val (.int p3), .val (.int p4), .val (.int p5), .val (.long q6), .second, .val (.int s0), .val (.int s1), .unset, .unset, .unset, .unset, .unset, .unset, .unset, .unset, .unset, .unset] [])) _
      refine XS.iconst X0.here hx rfl (hb hby at_27) ?_
      show Steps p.tables e below (s₁.setTop (mkF m 28 #[.val (.int p1), .val (.int p2), .val (.int p3), .val (.int p4), .val (.int p5), .val (.long q6), .second, .val (.int s0), .val (.int s1), .unset, .unset, .unset, .unset, .unset, .unset, .unset, .unset, .unset, .unset] [(.int (-1 : Int32))])) _
      refine XS.goto X0.here hx rfl (pc0 := 28) (pc' := 33) rfl (hb hby at_28) (by decide) (by decide) ?_
      exact kz
    · rw [hs2, if_neg hc24] at kz
      refine XS.ifYes X0.here hx rfl (pc0 := 24) (pc' := 31) rfl (hb hby at_24) rfl ((if0 _ _).trans (flt hc24).2.1) (by decide) (by decide) ?_
      show Steps p.tables e below (s₁.setTop (mkF m 31 #[.val (.int p1), .val (.int p2), .val (.int p3), .val (.int p4), .val (.int p5), .val (.long q6), .second, .val (.int s0), .val (.int s1), .unset, .unset, .unset, .unset, .unset, .unset, .unset, .unset, .unset, .unset] [])) _
      refine XS.iload X0.here hx rfl (hb hby at_31) rfl ?_
      exact kz
  refine own_go (A := s₁.setTop (mkF m 40 #[.val (.int p1), .val (.int p2), .val (.int p3), .val (.int p4), .val (.int p5), .val (.long q6), .second, .val (.int s0), .val (.int s1), .val (.int s2), .val (.int (q6.toInt32)), .unset, .unset, .unset, .unset, .unset, .unset, .unset, .unset] [])) (fun _ kz => ?_) ?_
  · show Steps p.tables e below (s₁.setTop (mkF m 33 #[.val (.int p1), .val (.int p2), .val (.int p3), .val (.int p4), .val (.int p5), .val (.long q6), .second, .val (.int s0), .val (.int s1), .unset, .unset, .unset, .unset, .unset, .unset, .unset, .unset, .unset, .unset] [(.int s2)])) _
    refine XS.istore X0.here hx rfl (hb hby at_33) rfl (l' := #[.val (.int p1), .val (.int p2), .val (.int p3), .val (.int p4), .val (.int p5), .val (.long q6), .second, .val (.int s0), .val (.int s1), .val (.int s2), .unset, .unset, .unset, .unset, .unset, .unset, .unset, .unset, .unset]) rfl ?_
    show Steps p.tables e below (s₁.setTop (mkF m 35 #[.val (.int p1), .val (.int p2), .val (.int p3), .val (.int p4), .val (.int p5), .val (.long q6), .second, .val (.int s0), .val (.int s1), .val (.int s2), .unset, .unset, .unset, .unset, .unset, .unset, .unset, .unset, .unset] [])) _
    refine XS.lload X0.here hx rfl (hb hby at_35) rfl ?_
    show Steps p.tables e below (s₁.setTop (mkF m 37 #[.val (.int p1), .val (.int p2), .val (.int p3), .val (.int p4), .val (.int p5), .val (.long q6), .second, .val (.int s0), .val (.int s1), .val (.int s2), .unset, .unset, .unset, .unset, .unset, .unset, .unset, .unset, .unset] [(.long q6)])) _
    refine XS.l2i X0.here hx rfl (hb hby at_37) rfl ?_
    show Steps p.tables e below (s₁.setTop (mkF m 38 #[.val (.int p1), .val (.int p2), .val (.int p3), .val (.int p4), .val (.int p5), .val (.long q6), .second, .val (.int s0), .val (.int s1), .val (.int s2), .unset, .unset, .unset, .unset, .unset, .unset, .unset, .unset, .unset] [(.int (q6.toInt32))])) _
    refine XS.istore X0.here hx rfl (hb hby at_38) rfl (l' := #[.val (.int p1), .val (.int p2), .val (.int p3), .val (.int p4), .val (.int p5), .val (.long q6), .second, .val (.int s0), .val (.int s1), .val (.int s2), .val (.int (q6.toInt32)), .unset, .unset, .unset, .unset, .unset, .unset, .unset, .unset]) rfl ?_
    exact kz
  obtain ⟨t0, ht0⟩ : ∃ z, z = (q6.toInt32) := ⟨_, rfl⟩
  refine own_go (A := s₁.setTop (mkF m 40 #[.val (.int p1), .val (.int p2), .val (.int p3), .val (.int p4), .val (.int p5), .val (.long q6), .second, .val (.int s0), .val (.int s1), .val (.int s2), .val (.int t0), .unset, .unset, .unset, .unset, .unset, .unset, .unset, .unset] [])) (fun _ kz => by rw [ht0] at kz; exact kz) ?_
  refine own_go (A := s₁.setTop (mkF m 48 #[.val (.int p1), .val (.int p2), .val (.int p3), .val (.int p4), .val (.int p5), .val (.long q6), .second, .val (.int s0), .val (.int s1), .val (.int s2), .val (.int t0), .val (.int (((q6.toUInt64 >>> ((32 : Int32) &&& 0x3f).toInt64.toUInt64).toInt64).toInt32)), .unset, .unset, .unset, .unset, .unset, .unset, .unset] [])) (fun _ kz => ?_) ?_
  · show Steps p.tables e below (s₁.setTop (mkF m 40 #[.val (.int p1), .val (.int p2), .val (.int p3), .val (.int p4), .val (.int p5), .val (.long q6), .second, .val (.int s0), .val (.int s1), .val (.int s2), .val (.int t0), .unset, .unset, .unset, .unset, .unset, .unset, .unset, .unset] [])) _
    refine XS.lload X0.here hx rfl (hb hby at_40) rfl ?_
    show Steps p.tables e below (s₁.setTop (mkF m 42 #[.val (.int p1), .val (.int p2), .val (.int p3), .val (.int p4), .val (.int p5), .val (.long q6), .second, .val (.int s0), .val (.int s1), .val (.int s2), .val (.int t0), .unset, .unset, .unset, .unset, .unset, .unset, .unset, .unset] [(.long q6)])) _
    refine XS.bipush X0.here hx rfl (hb hby at_42) ?_
    show Steps p.tables e below (s₁.setTop (mkF m 44 #[.val (.int p1), .val (.int p2), .val (.int p3), .val (.int p4), .val (.int p5), .val (.long q6), .second, .val (.int s0), .val (.int s1), .val (.int s2), .val (.int t0), .unset, .unset, .unset, .unset, .unset, .unset, .unset, .unset] [(.int (32 : Int32)), (.long q6)])) _
    refine XS.lushr X0.here hx rfl (hb hby at_44) rfl ?_
    show Steps p.tables e below (s₁.setTop (mkF m 45 #[.val (.int p1), .val (.int p2), .val (.int p3), .val (.int p4), .val (.int p5), .val (.long q6), .second, .val (.int s0), .val (.int s1), .val (.int s2), .val (.int t0), .unset, .unset, .unset, .unset, .unset, .unset, .unset, .unset] [(.long ((q6.toUInt64 >>> ((32 : Int32) &&& 0x3f).toInt64.toUInt64).toInt64))])) _
    refine XS.l2i X0.here hx rfl (hb hby at_45) rfl ?_
    show Steps p.tables e below (s₁.setTop (mkF m 46 #[.val (.int p1), .val (.int p2), .val (.int p3), .val (.int p4), .val (.int p5), .val (.long q6), .second, .val (.int s0), .val (.int s1), .val (.int s2), .val (.int t0), .unset, .unset, .unset, .unset, .unset, .unset, .unset, .unset] [(.int (((q6.toUInt64 >>> ((32 : Int32) &&& 0x3f).toInt64.toUInt64).toInt64).toInt32))])) _
    refine XS.istore X0.here hx rfl (hb hby at_46) rfl (l' := #[.val (.int p1), .val (.int p2), .val (.int p3), .val (.int p4), .val (.int p5), .val (.long q6), .second, .val (.int s0), .val (.int s1), .val (.int s2), .val (.int t0), .val (.int (((q6.toUInt64 >>> ((32 : Int32) &&& 0x3f).toInt64.toUInt64).toInt64).toInt32)), .unset, .unset, .unset, .unset, .unset, .unset, .unset]) rfl ?_
    exact kz
  obtain ⟨t1, ht1⟩ : ∃ z, z = (((q6.toUInt64 >>> ((32 : Int32) &&& 0x3f).toInt64.toUInt64).toInt64).toInt32) := ⟨_, rfl⟩
  refine own_go (A := s₁.setTop (mkF m 48 #[.val (.int p1), .val (.int p2), .val (.int p3), .val (.int p4), .val (.int p5), .val (.long q6), .second, .val (.int s0), .val (.int s1), .val (.int s2), .val (.int t0), .val (.int t1), .unset, .unset, .unset, .unset, .unset, .unset, .unset] [])) (fun _ kz => by rw [ht1] at kz; exact kz) ?_
  refine own_go (A := s₁.setTop (mkF m 56 #[.val (.int p1), .val (.int p2), .val (.int p3), .val (.int p4), .val (.int p5), .val (.long q6), .second, .val (.int s0), .val (.int s1), .val (.int s2), .val (.int t0), .val (.int t1), .val (.int (((q6.toUInt64 >>> ((16 : Int32) &&& 0x3f).toInt64.toUInt64).toInt64).toInt32)), .unset, .unset, .unset, .unset, .unset, .unset] [])) (fun _ kz => ?_) ?_
  · show Steps p.tables e below (s₁.setTop (mkF m 48 #[.val (.int p1), .val (.int p2), .val (.int p3), .val (.int p4), .val (.int p5), .val (.long q6), .second, .val (.int s0), .val (.int s1), .val (.int s2), .val (.int t0), .val (.int t1), .unset, .unset, .unset, .unset, .unset, .unset, .unset] [])) _
    refine XS.lload X0.here hx rfl (hb hby at_48) rfl ?_
    show Steps p.tables e below (s₁.setTop (mkF m 50 #[.val (.int p1), .val (.int p2), .val (.int p3), .val (.int p4), .val (.int p5), .val (.long q6), .second, .val (.int s0), .val (.int s1), .val (.int s2), .val (.int t0), .val (.int t1), .unset, .unset, .unset, .unset, .unset, .unset, .unset] [(.long q6)])) _
    refine XS.bipush X0.here hx rfl (hb hby at_50) ?_
    show Steps p.tables e below (s₁.setTop (mkF m 52 #[.val (.int p1), .val (.int p2), .val (.int p3), .val (.int p4), .val (.int p5), .val (.long q6), .second, .val (.int s0), .val (.int s1), .val (.int s2), .val (.int t0), .val (.int t1), .unset, .unset, .unset, .unset, .unset, .unset, .unset] [(.int (16 : Int32)), (.long q6)])) _
    refine XS.lushr X0.here hx rfl (hb hby at_52) rfl ?_
    show Steps p.tables e below (s₁.setTop (mkF m 53 #[.val (.int p1), .val (.int p2), .val (.int p3), .val (.int p4), .val (.int p5), .val (.long q6), .second, .val (.int s0), .val (.int s1), .val (.int s2), .val (.int t0), .val (.int t1), .unset, .unset, .unset, .unset, .unset, .unset, .unset] [(.long ((q6.toUInt64 >>> ((16 : Int32) &&& 0x3f).toInt64.toUInt64).toInt64))])) _
    refine XS.l2i X0.here hx rfl (hb hby at_53) rfl ?_
    show Steps p.tables e below (s₁.setTop (mkF m 54 #[.val (.int p1), .val (.int p2), .val (.int p3), .val (.int p4), .val (.int p5), .val (.long q6), .second, .val (.int s0), .val (.int s1), .val (.int s2), .val (.int t0), .val (.int t1), .unset, .unset, .unset, .unset, .unset, .unset, .unset] [(.int (((q6.toUInt64 >>> ((16 : Int32) &&& 0x3f).toInt64.toUInt64).toInt64).toInt32))])) _
    refine XS.istore X0.here hx rfl (hb hby at_54) rfl (l' := #[.val (.int p1), .val (.int p2), .val (.int p3), .val (.int p4), .val (.int p5), .val (.long q6), .second, .val (.int s0), .val (.int s1), .val (.int s2), .val (.int t0), .val (.int t1), .val (.int (((q6.toUInt64 >>> ((16 : Int32) &&& 0x3f).toInt64.toUInt64).toInt64).toInt32)), .unset, .unset, .unset, .unset, .unset, .unset]) rfl ?_
    exact kz
  obtain ⟨t2, ht2⟩ : ∃ z, z = (((q6.toUInt64 >>> ((16 : Int32) &&& 0x3f).toInt64.toUInt64).toInt64).toInt32) := ⟨_, rfl⟩
  refine own_go (A := s₁.setTop (mkF m 56 #[.val (.int p1), .val (.int p2), .val (.int p3), .val (.int p4), .val (.int p5), .val (.long q6), .second, .val (.int s0), .val (.int s1), .val (.int s2), .val (.int t0), .val (.int t1), .val (.int t2), .unset, .unset, .unset, .unset, .unset, .unset] [])) (fun _ kz => by rw [ht2] at kz; exact kz) ?_
  obtain ⟨row, hrow⟩ : ∃ z, z = (if p1 < (0 : Int32) then (p1 &&& (2147483647 : Int32)) else (p1 % (4 : Int32))) := ⟨_, rfl⟩
  refine own_go (A := s₁.setTop (mkF m 70 #[.val (.int p1), .val (.int p2), .val (.int p3), .val (.int p4), .val (.int p5), .val (.long q6), .second, .val (.int s0), .val (.int s1), .val (.int s2), .val (.int t0), .val (.int t1), .val (.int t2), .unset, .unset, .unset, .unset, .unset, .unset] [(.int row)])) (fun _ kz => ?_) ?_
  · show Steps p.tables e below (s₁.setTop (mkF m 56 #[.val (.int p1), .val (.int p2), .val (.int p3), .val (.int p4), .val (.int p5), .val (.long q6), .second, .val (.int s0), .val (.int s1), .val (.int s2), .val (.int t0), .val (.int t1), .val (.int t2), .unset, .unset, .unset, .unset, .unset, .unset] [])) _
    refine XS.iloadN X0.here hx rfl (hb hby at_56) rfl ?_
    show Steps p.tables e below (s₁.setTop (mkF m 57 #[.val (.int p1), .val (.int p2), .val (.int p3), .val (.int p4), .val (.int p5), .val (.long q6), .second, .val (.int s0), .val (.int s1), .val (.int s2), .val (.int t0), .val (.int t1), .val (.int t2), .unset, .unset, .unset, .unset, .unset, .unset] [(.int p1)])) _
    by_cases hc57 : p1 < (0 : Int32)
    · rw [hrow, if_pos hc57] at kz
      refine XS.ifNo X0.here hx rfl (hb hby at_57) rfl ((if0 _ _).trans (tlt hc57).2.1) ?_
      show Steps p.tables e below (s₁.setTop (mkF m 60 #[.val (.int p1), .val (.int p2), .val (.int p3), .val (.int p4), .val (.int p5), .val (.long q6), .second, .val (.int s0), .val (.int s1), .val (.int s2), .val (.int t0), .val (.int t1), .val (.int t2), .unset, .unset, .unset, .unset, .unset, .unset] [])) _
      refine XS.iloadN X0.here hx rfl (hb hby at_60) rfl ?_
      show Steps p.tables e below (s₁.setTop (mkF m 61 #[.val (.int p1), .val (.int p2), .val (.int p3), .val (.int p4), .val (.int p5), .val (.long q6), .second, .val (.int s0), .val (.int s1), .val (.int s2), .val (.int t0), .val (.int t1), .val (.int t2), .unset, .unset, .unset, .unset, .unset, .unset] [(.int p1)])) _
      refine X0.ldcInt hx hown (mvT hZ (hw _ (List.mem_of_getElem? (i := 37) rfl))) (g := (mkF m 61 #[.val (.int p1), .val (.int p2), .val (.int p3), .val (.int p4), .val (.int p5), .val (.long q6), .second, .val (.int s0), .val (.int s1), .val (.int s2), .val (.int t0), .val (.int t1), .val (.int t2), .unset, .unset, .unset, .unset, .unset, .unset] [(.int p1)])) rfl (hb hby at_61) _ ?_
      show Steps p.tables e below (s₁.setTop (mkF m 63 #[.val (.int p1), .val (.int p2), .val (.int p3), .val (.int p4), .val (.int p5), .val (.long q6), .second, .val (.int s0), .val (.int s1), .val (.int s2), .val (.int t0), .val (.int t1), .val (.int t2), .unset, .unset, .unset, .unset, .unset, .unset] [(.int (2147483647 : Int32)), (.int p1)])) _
      refine XS.iand X0.here hx rfl (hb hby at_63) rfl ?_
      show Steps p.tables e below (s₁.setTop (mkF m 64 #[.val (.int p1), .val (.int p2), .val (.int p3), .val (.int p4), .val (.int p5), .val (.long q6), .second, .val (.int s0), .val (.int s1), .val (.int s2), .val (.int t0), .val (.int t1), .val (.int t2), .unset, .unset, .unset, .unset, .unset, .unset] [(.int (p1 &&& (2147483647 : Int32)))])) _
      refine XS.goto X0.here hx rfl (pc0 := 64) (pc' := 70) rfl (hb hby at_64) (by decide) (by decide) ?_
      exact kz
    · rw [hrow, if_neg hc57] at kz
      refine XS.ifYes X0.here hx rfl (pc0 := 57) (pc' := 67) rfl (hb hby at_57) rfl ((if0 _ _).trans (flt hc57).2.1) (by decide) (by decide) ?_
      show Steps p.tables e below (s₁.setTop (mkF m 67 #[.val (.int p1), .val (.int p2), .val (.int p3), .val (.int p4), .val (.int p5), .val (.long q6), .second, .val (.int s0), .val (.int s1), .val (.int s2), .val (.int t0), .val (.int t1), .val (.int t2), .unset, .unset, .unset, .unset, .unset, .unset] [])) _
      refine XS.iloadN X0.here hx rfl (hb hby at_67) rfl ?_
      show Steps p.tables e below (s₁.setTop (mkF m 68 #[.val (.int p1), .val (.int p2), .val (.int p3), .val (.int p4), .val (.int p5), .val (.long q6), .second, .val (.int s0), .val (.int s1), .val (.int s2), .val (.int t0), .val (.int t1), .val (.int t2), .unset, .unset, .unset, .unset, .unset, .unset] [(.int p1)])) _
      refine XS.iconst X0.here hx rfl (hb hby at_68) ?_
      show Steps p.tables e below (s₁.setTop (mkF m 69 #[.val (.int p1), .val (.int p2), .val (.int p3), .val (.int p4), .val (.int p5), .val (.long q6), .second, .val (.int s0), .val (.int s1), .val (.int s2), .val (.int t0), .val (.int t1), .val (.int t2), .unset, .unset, .unset, .unset, .unset, .unset] [(.int (4 : Int32)), (.int p1)])) _
      refine iremM X0 hx rfl (hb hby at_69) rfl (by decide) ?_
      exact kz
  obtain ⟨at3, hat3⟩ : ∃ z, z = (if row = (2 : Int32) then s2 else (-1 : Int32)) := ⟨_, rfl⟩
  obtain ⟨at2, hat2⟩ : ∃ z, z = (if row = (1 : Int32) then s1 else at3) := ⟨_, rfl⟩
  obtain ⟨at1, hat1⟩ : ∃ z, z = (if row = (0 : Int32) then s0 else at2) := ⟨_, rfl⟩
  refine own_go (A := s₁.setTop (mkF m 105 #[.val (.int p1), .val (.int p2), .val (.int p3), .val (.int p4), .val (.int p5), .val (.long q6), .second, .val (.int s0), .val (.int s1), .val (.int s2), .val (.int t0), .val (.int t1), .val (.int t2), .val (.int row), .unset, .unset, .unset, .unset, .unset] [(.int at1)])) (fun _ kz => ?_) ?_
  · show Steps p.tables e below (s₁.setTop (mkF m 70 #[.val (.int p1), .val (.int p2), .val (.int p3), .val (.int p4), .val (.int p5), .val (.long q6), .second, .val (.int s0), .val (.int s1), .val (.int s2), .val (.int t0), .val (.int t1), .val (.int t2), .unset, .unset, .unset, .unset, .unset, .unset] [(.int row)])) _
    refine XS.istore X0.here hx rfl (hb hby at_70) rfl (l' := #[.val (.int p1), .val (.int p2), .val (.int p3), .val (.int p4), .val (.int p5), .val (.long q6), .second, .val (.int s0), .val (.int s1), .val (.int s2), .val (.int t0), .val (.int t1), .val (.int t2), .val (.int row), .unset, .unset, .unset, .unset, .unset]) rfl ?_
    show Steps p.tables e below (s₁.setTop (mkF m 72 #[.val (.int p1), .val (.int p2), .val (.int p3), .val (.int p4), .val (.int p5), .val (.long q6), .second, .val (.int s0), .val (.int s1), .val (.int s2), .val (.int t0), .val (.int t1), .val (.int t2), .val (.int row), .unset, .unset, .unset, .unset, .unset] [])) _
    refine XS.iload X0.here hx rfl (hb hby at_72) rfl ?_
    show Steps p.tables e below (s₁.setTop (mkF m 74 #[.val (.int p1), .val (.int p2), .val (.int p3), .val (.int p4), .val (.int p5), .val (.long q6), .second, .val (.int s0), .val (.int s1), .val (.int s2), .val (.int t0), .val (.int t1), .val (.int t2), .val (.int row), .unset, .unset, .unset, .unset, .unset] [(.int row)])) _
    by_cases hc74 : row = (0 : Int32)
    · rw [hat1, if_pos hc74] at kz
      refine XS.ifNo X0.here hx rfl (hb hby at_74) rfl ((if0 _ _).trans (teq hc74).2) ?_
      show Steps p.tables e below (s₁.setTop (mkF m 77 #[.val (.int p1), .val (.int p2), .val (.int p3), .val (.int p4), .val (.int p5), .val (.long q6), .second, .val (.int s0), .val (.int s1), .val (.int s2), .val (.int t0), .val (.int t1), .val (.int t2), .val (.int row), .unset, .unset, .unset, .unset, .unset] [])) _
      refine XS.iload X0.here hx rfl (hb hby at_77) rfl ?_
      show Steps p.tables e below (s₁.setTop (mkF m 79 #[.val (.int p1), .val (.int p2), .val (.int p3), .val (.int p4), .val (.int p5), .val (.long q6), .second, .val (.int s0), .val (.int s1), .val (.int s2), .val (.int t0), .val (.int t1), .val (.int t2), .val (.int row), .unset, .unset, .unset, .unset, .unset] [(.int s0)])) _
      refine XS.goto X0.here hx rfl (pc0 := 79) (pc' := 105) rfl (hb hby at_79) (by decide) (by decide) ?_
      exact kz
    · rw [hat1, if_neg hc74] at kz
      refine XS.ifYes X0.here hx rfl (pc0 := 74) (pc' := 82) rfl (hb hby at_74) rfl ((if0 _ _).trans (feq hc74).2) (by decide) (by decide) ?_
      show Steps p.tables e below (s₁.setTop (mkF m 82 #[.val (.int p1), .val (.int p2), .val (.int p3), .val (.int p4), .val (.int p5), .val (.long q6), .second, .val (.int s0), .val (.int s1), .val (.int s2), .val (.int t0), .val (.int t1), .val (.int t2), .val (.int row), .unset, .unset, .unset, .unset, .unset] [])) _
      refine XS.iload X0.here hx rfl (hb hby at_82) rfl ?_
      show Steps p.tables e below (s₁.setTop (mkF m 84 #[.val (.int p1), .val (.int p2), .val (.int p3), .val (.int p4), .val (.int p5), .val (.long q6), .second, .val (.int s0), .val (.int s1), .val (.int s2), .val (.int t0), .val (.int t1), .val (.int t2), .val (.int row), .unset, .unset, .unset, .unset, .unset] [(.int row)])) _
      refine XS.iconst X0.here hx rfl (hb hby at_84) ?_
      show Steps p.tables e below (s₁.setTop (mkF m 85 #[.val (.int p1), .val (.int p2), .val (.int p3), .val (.int p4), .val (.int p5), .val (.long q6), .second, .val (.int s0), .val (.int s1), .val (.int s2), .val (.int t0), .val (.int t1), .val (.int t2), .val (.int row), .unset, .unset, .unset, .unset, .unset] [(.int (1 : Int32)), (.int row)])) _
      by_cases hc85 : row = (1 : Int32)
      · rw [hat2, if_pos hc85] at kz
        refine XS.icmpNo X0.here hx rfl (hb hby at_85) rfl (teq hc85).2 ?_
        show Steps p.tables e below (s₁.setTop (mkF m 88 #[.val (.int p1), .val (.int p2), .val (.int p3), .val (.int p4), .val (.int p5), .val (.long q6), .second, .val (.int s0), .val (.int s1), .val (.int s2), .val (.int t0), .val (.int t1), .val (.int t2), .val (.int row), .unset, .unset, .unset, .unset, .unset] [])) _
        refine XS.iload X0.here hx rfl (hb hby at_88) rfl ?_
        show Steps p.tables e below (s₁.setTop (mkF m 90 #[.val (.int p1), .val (.int p2), .val (.int p3), .val (.int p4), .val (.int p5), .val (.long q6), .second, .val (.int s0), .val (.int s1), .val (.int s2), .val (.int t0), .val (.int t1), .val (.int t2), .val (.int row), .unset, .unset, .unset, .unset, .unset] [(.int s1)])) _
        refine XS.goto X0.here hx rfl (pc0 := 90) (pc' := 105) rfl (hb hby at_90) (by decide) (by decide) ?_
        exact kz
      · rw [hat2, if_neg hc85] at kz
        refine XS.icmpYes X0.here hx rfl (pc0 := 85) (pc' := 93) rfl (hb hby at_85) rfl (feq hc85).2 (by decide) (by decide) ?_
        show Steps p.tables e below (s₁.setTop (mkF m 93 #[.val (.int p1), .val (.int p2), .val (.int p3), .val (.int p4), .val (.int p5), .val (.long q6), .second, .val (.int s0), .val (.int s1), .val (.int s2), .val (.int t0), .val (.int t1), .val (.int t2), .val (.int row), .unset, .unset, .unset, .unset, .unset] [])) _
        refine XS.iload X0.here hx rfl (hb hby at_93) rfl ?_
        show Steps p.tables e below (s₁.setTop (mkF m 95 #[.val (.int p1), .val (.int p2), .val (.int p3), .val (.int p4), .val (.int p5), .val (.long q6), .second, .val (.int s0), .val (.int s1), .val (.int s2), .val (.int t0), .val (.int t1), .val (.int t2), .val (.int row), .unset, .unset, .unset, .unset, .unset] [(.int row)])) _
        refine XS.iconst X0.here hx rfl (hb hby at_95) ?_
        show Steps p.tables e below (s₁.setTop (mkF m 96 #[.val (.int p1), .val (.int p2), .val (.int p3), .val (.int p4), .val (.int p5), .val (.long q6), .second, .val (.int s0), .val (.int s1), .val (.int s2), .val (.int t0), .val (.int t1), .val (.int t2), .val (.int row), .unset, .unset, .unset, .unset, .unset] [(.int (2 : Int32)), (.int row)])) _
        by_cases hc96 : row = (2 : Int32)
        · rw [hat3, if_pos hc96] at kz
          refine XS.icmpNo X0.here hx rfl (hb hby at_96) rfl (teq hc96).2 ?_
          show Steps p.tables e below (s₁.setTop (mkF m 99 #[.val (.int p1), .val (.int p2), .val (.int p3), .val (.int p4), .val (.int p5), .val (.long q6), .second, .val (.int s0), .val (.int s1), .val (.int s2), .val (.int t0), .val (.int t1), .val (.int t2), .val (.int row), .unset, .unset, .unset, .unset, .unset] [])) _
          refine XS.iload X0.here hx rfl (hb hby at_99) rfl ?_
          show Steps p.tables e below (s₁.setTop (mkF m 101 #[.val (.int p1), .val (.int p2), .val (.int p3), .val (.int p4), .val (.int p5), .val (.long q6), .second, .val (.int s0), .val (.int s1), .val (.int s2), .val (.int t0), .val (.int t1), .val (.int t2), .val (.int row), .unset, .unset, .unset, .unset, .unset] [(.int s2)])) _
          refine XS.goto X0.here hx rfl (pc0 := 101) (pc' := 105) rfl (hb hby at_101) (by decide) (by decide) ?_
          exact kz
        · rw [hat3, if_neg hc96] at kz
          refine XS.icmpYes X0.here hx rfl (pc0 := 96) (pc' := 104) rfl (hb hby at_96) rfl (feq hc96).2 (by decide) (by decide) ?_
          show Steps p.tables e below (s₁.setTop (mkF m 104 #[.val (.int p1), .val (.int p2), .val (.int p3), .val (.int p4), .val (.int p5), .val (.long q6), .second, .val (.int s0), .val (.int s1), .val (.int s2), .val (.int t0), .val (.int t1), .val (.int t2), .val (.int row), .unset, .unset, .unset, .unset, .unset] [])) _
          refine XS.iconst X0.here hx rfl (hb hby at_104) ?_
          exact kz
  obtain ⟨set1, hset1⟩ : ∃ z, z = (if at1 < (0 : Int32) then (p2 &&& (2147483647 : Int32)) else at1) := ⟨_, rfl⟩
  obtain ⟨set, hset⟩ : ∃ z, z = (if (p2 &&& (1 : Int32)) = (0 : Int32) then (p2 &&& (2147483647 : Int32)) else set1) := ⟨_, rfl⟩
  refine own_go (A := s₁.setTop (mkF m 127 #[.val (.int p1), .val (.int p2), .val (.int p3), .val (.int p4), .val (.int p5), .val (.long q6), .second, .val (.int s0), .val (.int s1), .val (.int s2), .val (.int t0), .val (.int t1), .val (.int t2), .val (.int row), .val (.int at1), .unset, .unset, .unset, .unset] [(.int set)])) (fun _ kz => ?_) ?_
  · show Steps p.tables e below (s₁.setTop (mkF m 105 #[.val (.int p1), .val (.int p2), .val (.int p3), .val (.int p4), .val (.int p5), .val (.long q6), .second, .val (.int s0), .val (.int s1), .val (.int s2), .val (.int t0), .val (.int t1), .val (.int t2), .val (.int row), .unset, .unset, .unset, .unset, .unset] [(.int at1)])) _
    refine XS.istore X0.here hx rfl (hb hby at_105) rfl (l' := #[.val (.int p1), .val (.int p2), .val (.int p3), .val (.int p4), .val (.int p5), .val (.long q6), .second, .val (.int s0), .val (.int s1), .val (.int s2), .val (.int t0), .val (.int t1), .val (.int t2), .val (.int row), .val (.int at1), .unset, .unset, .unset, .unset]) rfl ?_
    show Steps p.tables e below (s₁.setTop (mkF m 107 #[.val (.int p1), .val (.int p2), .val (.int p3), .val (.int p4), .val (.int p5), .val (.long q6), .second, .val (.int s0), .val (.int s1), .val (.int s2), .val (.int t0), .val (.int t1), .val (.int t2), .val (.int row), .val (.int at1), .unset, .unset, .unset, .unset] [])) _
    refine XS.iloadN X0.here hx rfl (hb hby at_107) rfl ?_
    show Steps p.tables e below (s₁.setTop (mkF m 108 #[.val (.int p1), .val (.int p2), .val (.int p3), .val (.int p4), .val (.int p5), .val (.long q6), .second, .val (.int s0), .val (.int s1), .val (.int s2), .val (.int t0), .val (.int t1), .val (.int t2), .val (.int row), .val (.int at1), .unset, .unset, .unset, .unset] [(.int p2)])) _
    refine XS.iconst X0.here hx rfl (hb hby at_108) ?_
    show Steps p.tables e below (s₁.setTop (mkF m 109 #[.val (.int p1), .val (.int p2), .val (.int p3), .val (.int p4), .val (.int p5), .val (.long q6), .second, .val (.int s0), .val (.int s1), .val (.int s2), .val (.int t0), .val (.int t1), .val (.int t2), .val (.int row), .val (.int at1), .unset, .unset, .unset, .unset] [(.int (1 : Int32)), (.int p2)])) _
    refine XS.iand X0.here hx rfl (hb hby at_109) rfl ?_
    show Steps p.tables e below (s₁.setTop (mkF m 110 #[.val (.int p1), .val (.int p2), .val (.int p3), .val (.int p4), .val (.int p5), .val (.long q6), .second, .val (.int s0), .val (.int s1), .val (.int s2), .val (.int t0), .val (.int t1), .val (.int t2), .val (.int row), .val (.int at1), .unset, .unset, .unset, .unset] [(.int (p2 &&& (1 : Int32)))])) _
    by_cases hc110 : (p2 &&& (1 : Int32)) = (0 : Int32)
    · rw [hset, if_pos hc110] at kz
      refine XS.ifYes X0.here hx rfl (pc0 := 110) (pc' := 123) rfl (hb hby at_110) rfl ((if0 _ _).trans (teq hc110).1) (by decide) (by decide) ?_
      show Steps p.tables e below (s₁.setTop (mkF m 123 #[.val (.int p1), .val (.int p2), .val (.int p3), .val (.int p4), .val (.int p5), .val (.long q6), .second, .val (.int s0), .val (.int s1), .val (.int s2), .val (.int t0), .val (.int t1), .val (.int t2), .val (.int row), .val (.int at1), .unset, .unset, .unset, .unset] [])) _
      refine XS.iloadN X0.here hx rfl (hb hby at_123) rfl ?_
      show Steps p.tables e below (s₁.setTop (mkF m 124 #[.val (.int p1), .val (.int p2), .val (.int p3), .val (.int p4), .val (.int p5), .val (.long q6), .second, .val (.int s0), .val (.int s1), .val (.int s2), .val (.int t0), .val (.int t1), .val (.int t2), .val (.int row), .val (.int at1), .unset, .unset, .unset, .unset] [(.int p2)])) _
      refine X0.ldcInt hx hown (mvT hZ (hw _ (List.mem_of_getElem? (i := 37) rfl))) (g := (mkF m 124 #[.val (.int p1), .val (.int p2), .val (.int p3), .val (.int p4), .val (.int p5), .val (.long q6), .second, .val (.int s0), .val (.int s1), .val (.int s2), .val (.int t0), .val (.int t1), .val (.int t2), .val (.int row), .val (.int at1), .unset, .unset, .unset, .unset] [(.int p2)])) rfl (hb hby at_124) _ ?_
      show Steps p.tables e below (s₁.setTop (mkF m 126 #[.val (.int p1), .val (.int p2), .val (.int p3), .val (.int p4), .val (.int p5), .val (.long q6), .second, .val (.int s0), .val (.int s1), .val (.int s2), .val (.int t0), .val (.int t1), .val (.int t2), .val (.int row), .val (.int at1), .unset, .unset, .unset, .unset] [(.int (2147483647 : Int32)), (.int p2)])) _
      refine XS.iand X0.here hx rfl (hb hby at_126) rfl ?_
      exact kz
    · rw [hset, if_neg hc110] at kz
      refine XS.ifNo X0.here hx rfl (hb hby at_110) rfl ((if0 _ _).trans (feq hc110).1) ?_
      show Steps p.tables e below (s₁.setTop (mkF m 113 #[.val (.int p1), .val (.int p2), .val (.int p3), .val (.int p4), .val (.int p5), .val (.long q6), .second, .val (.int s0), .val (.int s1), .val (.int s2), .val (.int t0), .val (.int t1), .val (.int t2), .val (.int row), .val (.int at1), .unset, .unset, .unset, .unset] [])) _
      refine XS.iload X0.here hx rfl (hb hby at_113) rfl ?_
      show Steps p.tables e below (s₁.setTop (mkF m 115 #[.val (.int p1), .val (.int p2), .val (.int p3), .val (.int p4), .val (.int p5), .val (.long q6), .second, .val (.int s0), .val (.int s1), .val (.int s2), .val (.int t0), .val (.int t1), .val (.int t2), .val (.int row), .val (.int at1), .unset, .unset, .unset, .unset] [(.int at1)])) _
      by_cases hc115 : at1 < (0 : Int32)
      · rw [hset1, if_pos hc115] at kz
        refine XS.ifYes X0.here hx rfl (pc0 := 115) (pc' := 123) rfl (hb hby at_115) rfl ((if0 _ _).trans (tlt hc115).1) (by decide) (by decide) ?_
        show Steps p.tables e below (s₁.setTop (mkF m 123 #[.val (.int p1), .val (.int p2), .val (.int p3), .val (.int p4), .val (.int p5), .val (.long q6), .second, .val (.int s0), .val (.int s1), .val (.int s2), .val (.int t0), .val (.int t1), .val (.int t2), .val (.int row), .val (.int at1), .unset, .unset, .unset, .unset] [])) _
        refine XS.iloadN X0.here hx rfl (hb hby at_123) rfl ?_
        show Steps p.tables e below (s₁.setTop (mkF m 124 #[.val (.int p1), .val (.int p2), .val (.int p3), .val (.int p4), .val (.int p5), .val (.long q6), .second, .val (.int s0), .val (.int s1), .val (.int s2), .val (.int t0), .val (.int t1), .val (.int t2), .val (.int row), .val (.int at1), .unset, .unset, .unset, .unset] [(.int p2)])) _
        refine X0.ldcInt hx hown (mvT hZ (hw _ (List.mem_of_getElem? (i := 37) rfl))) (g := (mkF m 124 #[.val (.int p1), .val (.int p2), .val (.int p3), .val (.int p4), .val (.int p5), .val (.long q6), .second, .val (.int s0), .val (.int s1), .val (.int s2), .val (.int t0), .val (.int t1), .val (.int t2), .val (.int row), .val (.int at1), .unset, .unset, .unset, .unset] [(.int p2)])) rfl (hb hby at_124) _ ?_
        show Steps p.tables e below (s₁.setTop (mkF m 126 #[.val (.int p1), .val (.int p2), .val (.int p3), .val (.int p4), .val (.int p5), .val (.long q6), .second, .val (.int s0), .val (.int s1), .val (.int s2), .val (.int t0), .val (.int t1), .val (.int t2), .val (.int row), .val (.int at1), .unset, .unset, .unset, .unset] [(.int (2147483647 : Int32)), (.int p2)])) _
        refine XS.iand X0.here hx rfl (hb hby at_126) rfl ?_
        exact kz
      · rw [hset1, if_neg hc115] at kz
        refine XS.ifNo X0.here hx rfl (hb hby at_115) rfl ((if0 _ _).trans (flt hc115).1) ?_
        show Steps p.tables e below (s₁.setTop (mkF m 118 #[.val (.int p1), .val (.int p2), .val (.int p3), .val (.int p4), .val (.int p5), .val (.long q6), .second, .val (.int s0), .val (.int s1), .val (.int s2), .val (.int t0), .val (.int t1), .val (.int t2), .val (.int row), .val (.int at1), .unset, .unset, .unset, .unset] [])) _
        refine XS.iload X0.here hx rfl (hb hby at_118) rfl ?_
        show Steps p.tables e below (s₁.setTop (mkF m 120 #[.val (.int p1), .val (.int p2), .val (.int p3), .val (.int p4), .val (.int p5), .val (.long q6), .second, .val (.int s0), .val (.int s1), .val (.int s2), .val (.int t0), .val (.int t1), .val (.int t2), .val (.int row), .val (.int at1), .unset, .unset, .unset, .unset] [(.int at1)])) _
        refine XS.goto X0.here hx rfl (pc0 := 120) (pc' := 127) rfl (hb hby at_120) (by decide) (by decide) ?_
        exact kz
  refine own_go (A := s₁.setTop (mkF m 129 #[.val (.int p1), .val (.int p2), .val (.int p3), .val (.int p4), .val (.int p5), .val (.long q6), .second, .val (.int s0), .val (.int s1), .val (.int s2), .val (.int t0), .val (.int t1), .val (.int t2), .val (.int row), .val (.int at1), .val (.int set), .unset, .unset, .unset] [])) (fun _ kz => ?_) ?_
  · show Steps p.tables e below (s₁.setTop (mkF m 127 #[.val (.int p1), .val (.int p2), .val (.int p3), .val (.int p4), .val (.int p5), .val (.long q6), .second, .val (.int s0), .val (.int s1), .val (.int s2), .val (.int t0), .val (.int t1), .val (.int t2), .val (.int row), .val (.int at1), .unset, .unset, .unset, .unset] [(.int set)])) _
    refine XS.istore X0.here hx rfl (hb hby at_127) rfl (l' := #[.val (.int p1), .val (.int p2), .val (.int p3), .val (.int p4), .val (.int p5), .val (.long q6), .second, .val (.int s0), .val (.int s1), .val (.int s2), .val (.int t0), .val (.int t1), .val (.int t2), .val (.int row), .val (.int at1), .val (.int set), .unset, .unset, .unset]) rfl ?_
    exact kz
  obtain ⟨T1, h1, X1, e1, E1, A1, D1, -, st1⟩ := newO X0 hx hZ hown (hw _ (List.mem_of_getElem? (i := 0) rfl)) (hw _ (List.mem_of_getElem? (i := 1) rfl)) (hw _ (List.mem_of_getElem? (i := 2) rfl)) e0 (g := (mkF m 129 #[.val (.int p1), .val (.int p2), .val (.int p3), .val (.int p4), .val (.int p5), .val (.long q6), .second, .val (.int s0), .val (.int s1), .val (.int s2), .val (.int t0), .val (.int t1), .val (.int t2), .val (.int row), .val (.int at1), .val (.int set), .unset, .unset, .unset] [])) rfl (hb hby at_129) (by decide) (by decide)
  obtain ⟨b1, gq1⟩ : ∃ z, z = h0.size := ⟨_, rfl⟩
  rw [← gq1] at A1 D1 st1
  have g_b1 : n0 ≤ b1 := Nat.le_trans Z0 (Nat.le_of_eq gq1.symm)
  have Z1 : n0 ≤ h1.size := Nat.le_trans Z0 E1.1
  have Ex_b1 := A1
  have F_referencing_b1 : Fld Z h1 b1 "com/example/bare_words/barewords/KeyReads$Targets" "referencing" "Ljava/util/Map;" .null := D1 (Or.inr (hw _ (List.mem_of_getElem? (i := 27) rfl))) (ty := (.object "java/util/Map")) (by decide)
  have F_sets_b1 : Fld Z h1 b1 "com/example/bare_words/barewords/KeyReads$Targets" "sets" "[I" .null := D1 (Or.inr (hw _ (List.mem_of_getElem? (i := 29) rfl))) (ty := (.array .int)) (by decide)
  have F_rows_b1 : Fld Z h1 b1 "com/example/bare_words/barewords/KeyReads$Targets" "rows" "[I" .null := D1 (Or.inr (hw _ (List.mem_of_getElem? (i := 31) rfl))) (ty := (.array .int)) (by decide)
  refine own_go (A := T1.setTop (mkF m 132 #[.val (.int p1), .val (.int p2), .val (.int p3), .val (.int p4), .val (.int p5), .val (.long q6), .second, .val (.int s0), .val (.int s1), .val (.int s2), .val (.int t0), .val (.int t1), .val (.int t2), .val (.int row), .val (.int at1), .val (.int set), .unset, .unset, .unset] [(.ref b1)])) (fun _ kz => st1 _ kz) ?_
  refine own_go (A := T1.setTop (mkF m 134 #[.val (.int p1), .val (.int p2), .val (.int p3), .val (.int p4), .val (.int p5), .val (.long q6), .second, .val (.int s0), .val (.int s1), .val (.int s2), .val (.int t0), .val (.int t1), .val (.int t2), .val (.int row), .val (.int at1), .val (.int set), .unset, .unset, .unset] [(.int (3 : Int32)), (.ref b1), (.ref b1)])) (fun _ kz => ?_) ?_
  · show Steps p.tables e below (T1.setTop (mkF m 132 #[.val (.int p1), .val (.int p2), .val (.int p3), .val (.int p4), .val (.int p5), .val (.long q6), .second, .val (.int s0), .val (.int s1), .val (.int s2), .val (.int t0), .val (.int t1), .val (.int t2), .val (.int row), .val (.int at1), .val (.int set), .unset, .unset, .unset] [(.ref b1)])) _
    refine XS.dup X1.here hx rfl (hb hby at_132) rfl rfl ?_
    show Steps p.tables e below (T1.setTop (mkF m 133 #[.val (.int p1), .val (.int p2), .val (.int p3), .val (.int p4), .val (.int p5), .val (.long q6), .second, .val (.int s0), .val (.int s1), .val (.int s2), .val (.int t0), .val (.int t1), .val (.int t2), .val (.int row), .val (.int at1), .val (.int set), .unset, .unset, .unset] [(.ref b1), (.ref b1)])) _
    refine XS.iconst X1.here hx rfl (hb hby at_133) ?_
    exact kz
  obtain ⟨T2, h2, k2, X2, e2, E2, A2, st2⟩ := newP X1 hx hZ (hw _ (List.mem_of_getElem? (i := 3) rfl)) e1 (g := (mkF m 134 #[.val (.int p1), .val (.int p2), .val (.int p3), .val (.int p4), .val (.int p5), .val (.long q6), .second, .val (.int s0), .val (.int s1), .val (.int s2), .val (.int t0), .val (.int t1), .val (.int t2), .val (.int row), .val (.int at1), .val (.int set), .unset, .unset, .unset] [(.int (3 : Int32)), (.ref b1), (.ref b1)])) rfl (hb hby at_134) rfl (by decide) (cap := 3) (by decide) (by decide) (by decide) (by decide)
  obtain ⟨b2, gq2⟩ : ∃ z, z = h1.size := ⟨_, rfl⟩
  rw [← gq2] at A2 st2
  have g_b2 : n0 ≤ b2 := Nat.le_trans Z1 (Nat.le_of_eq gq2.symm)
  have ne_b1_b2 : b1 ≠ b2 := Nat.ne_of_lt (Nat.lt_of_lt_of_le Ex_b1.lt (Nat.le_of_eq gq2.symm))
  replace Ex_b1 := Ex_b1.ext E2
  replace F_referencing_b1 := F_referencing_b1.ext E2
  replace F_sets_b1 := F_sets_b1.ext E2
  replace F_rows_b1 := F_rows_b1.ext E2
  have Z2 : n0 ≤ h2.size := Nat.le_trans Z1 E2.1
  have Av_b2 : Arv Z h2 b2 k2 .int (3 : Int32) [(.int (0 : Int32)), (.int (0 : Int32)), (.int (0 : Int32))] (.int (0 : Int32)) := (Arv.new A2 (by decide)).pad (pad_rep [] (.int (0 : Int32)) 3)
  refine own_go (A := T2.setTop (mkF m 136 #[.val (.int p1), .val (.int p2), .val (.int p3), .val (.int p4), .val (.int p5), .val (.long q6), .second, .val (.int s0), .val (.int s1), .val (.int s2), .val (.int t0), .val (.int t1), .val (.int t2), .val (.int row), .val (.int at1), .val (.int set), .unset, .unset, .unset] [(.ref b2), (.ref b1), (.ref b1)])) (fun _ kz => st2 _ kz) ?_
  refine own_go (A := T2.setTop (mkF m 140 #[.val (.int p1), .val (.int p2), .val (.int p3), .val (.int p4), .val (.int p5), .val (.long q6), .second, .val (.int s0), .val (.int s1), .val (.int s2), .val (.int t0), .val (.int t1), .val (.int t2), .val (.int row), .val (.int at1), .val (.int set), .unset, .unset, .unset] [(.int s0), (.int (0 : Int32)), (.ref b2), (.ref b2), (.ref b1), (.ref b1)])) (fun _ kz => ?_) ?_
  · show Steps p.tables e below (T2.setTop (mkF m 136 #[.val (.int p1), .val (.int p2), .val (.int p3), .val (.int p4), .val (.int p5), .val (.long q6), .second, .val (.int s0), .val (.int s1), .val (.int s2), .val (.int t0), .val (.int t1), .val (.int t2), .val (.int row), .val (.int at1), .val (.int set), .unset, .unset, .unset] [(.ref b2), (.ref b1), (.ref b1)])) _
    refine XS.dup X2.here hx rfl (hb hby at_136) rfl rfl ?_
    show Steps p.tables e below (T2.setTop (mkF m 137 #[.val (.int p1), .val (.int p2), .val (.int p3), .val (.int p4), .val (.int p5), .val (.long q6), .second, .val (.int s0), .val (.int s1), .val (.int s2), .val (.int t0), .val (.int t1), .val (.int t2), .val (.int row), .val (.int at1), .val (.int set), .unset, .unset, .unset] [(.ref b2), (.ref b2), (.ref b1), (.ref b1)])) _
    refine XS.iconst X2.here hx rfl (hb hby at_137) ?_
    show Steps p.tables e below (T2.setTop (mkF m 138 #[.val (.int p1), .val (.int p2), .val (.int p3), .val (.int p4), .val (.int p5), .val (.long q6), .second, .val (.int s0), .val (.int s1), .val (.int s2), .val (.int t0), .val (.int t1), .val (.int t2), .val (.int row), .val (.int at1), .val (.int set), .unset, .unset, .unset] [(.int (0 : Int32)), (.ref b2), (.ref b2), (.ref b1), (.ref b1)])) _
    refine XS.iload X2.here hx rfl (hb hby at_138) rfl ?_
    exact kz
  obtain ⟨cl3, Ar3, q3, S3, M3, H3, G3⟩ := id Av_b2
  have hin3 : ¬ ((0 : Int32) < 0 ∨ cl3.slots.size ≤ ((0 : Int32)).toNatClampNeg) := inb_of S3 ⟨by decide, by decide⟩
  obtain ⟨T3, h3, X3, e3, W3, st3⟩ := stI X2 hx hZ e2 Ar3 (j := (0 : Int32)) hin3 (g := (mkF m 140 #[.val (.int p1), .val (.int p2), .val (.int p3), .val (.int p4), .val (.int p5), .val (.long q6), .second, .val (.int s0), .val (.int s1), .val (.int s2), .val (.int t0), .val (.int t1), .val (.int t2), .val (.int row), .val (.int at1), .val (.int set), .unset, .unset, .unset] [(.int s0), (.int (0 : Int32)), (.ref b2), (.ref b2), (.ref b1), (.ref b1)])) rfl rfl (hb hby at_140)
  have Aw3 := Arv.set Ar3 q3 S3 M3 H3 G3 rfl W3 0 rfl (Nat.le_of_ble_eq_true rfl)
  replace Ex_b1 := Ex_b1.wr W3
  replace F_referencing_b1 := F_referencing_b1.other W3 (Or.inl ne_b1_b2)
  replace F_sets_b1 := F_sets_b1.other W3 (Or.inl ne_b1_b2)
  replace F_rows_b1 := F_rows_b1.other W3 (Or.inl ne_b1_b2)
  have Z3 : n0 ≤ h3.size := Nat.le_trans Z2 (Keep.of_wr W3).1
  have Av_b2 : Arv Z h3 b2 k2 .int (3 : Int32) [(.int s0), (.int (0 : Int32)), (.int (0 : Int32))] (.int (0 : Int32)) := Aw3
  have N3 := Fr.snoc X3 N0 g_b2
  refine own_go (A := T3.setTop (mkF m 141 #[.val (.int p1), .val (.int p2), .val (.int p3), .val (.int p4), .val (.int p5), .val (.long q6), .second, .val (.int s0), .val (.int s1), .val (.int s2), .val (.int t0), .val (.int t1), .val (.int t2), .val (.int row), .val (.int at1), .val (.int set), .unset, .unset, .unset] [(.ref b2), (.ref b1), (.ref b1)])) (fun _ kz => st3 _ kz) ?_
  refine own_go (A := T3.setTop (mkF m 145 #[.val (.int p1), .val (.int p2), .val (.int p3), .val (.int p4), .val (.int p5), .val (.long q6), .second, .val (.int s0), .val (.int s1), .val (.int s2), .val (.int t0), .val (.int t1), .val (.int t2), .val (.int row), .val (.int at1), .val (.int set), .unset, .unset, .unset] [(.int s1), (.int (1 : Int32)), (.ref b2), (.ref b2), (.ref b1), (.ref b1)])) (fun _ kz => ?_) ?_
  · show Steps p.tables e below (T3.setTop (mkF m 141 #[.val (.int p1), .val (.int p2), .val (.int p3), .val (.int p4), .val (.int p5), .val (.long q6), .second, .val (.int s0), .val (.int s1), .val (.int s2), .val (.int t0), .val (.int t1), .val (.int t2), .val (.int row), .val (.int at1), .val (.int set), .unset, .unset, .unset] [(.ref b2), (.ref b1), (.ref b1)])) _
    refine XS.dup X3.here hx rfl (hb hby at_141) rfl rfl ?_
    show Steps p.tables e below (T3.setTop (mkF m 142 #[.val (.int p1), .val (.int p2), .val (.int p3), .val (.int p4), .val (.int p5), .val (.long q6), .second, .val (.int s0), .val (.int s1), .val (.int s2), .val (.int t0), .val (.int t1), .val (.int t2), .val (.int row), .val (.int at1), .val (.int set), .unset, .unset, .unset] [(.ref b2), (.ref b2), (.ref b1), (.ref b1)])) _
    refine XS.iconst X3.here hx rfl (hb hby at_142) ?_
    show Steps p.tables e below (T3.setTop (mkF m 143 #[.val (.int p1), .val (.int p2), .val (.int p3), .val (.int p4), .val (.int p5), .val (.long q6), .second, .val (.int s0), .val (.int s1), .val (.int s2), .val (.int t0), .val (.int t1), .val (.int t2), .val (.int row), .val (.int at1), .val (.int set), .unset, .unset, .unset] [(.int (1 : Int32)), (.ref b2), (.ref b2), (.ref b1), (.ref b1)])) _
    refine XS.iload X3.here hx rfl (hb hby at_143) rfl ?_
    exact kz
  obtain ⟨cl4, Ar4, q4, S4, M4, H4, G4⟩ := id Av_b2
  have hin4 : ¬ ((1 : Int32) < 0 ∨ cl4.slots.size ≤ ((1 : Int32)).toNatClampNeg) := inb_of S4 ⟨by decide, by decide⟩
  obtain ⟨T4, h4, X4, e4, W4, st4⟩ := stI X3 hx hZ e3 Ar4 (j := (1 : Int32)) hin4 (g := (mkF m 145 #[.val (.int p1), .val (.int p2), .val (.int p3), .val (.int p4), .val (.int p5), .val (.long q6), .second, .val (.int s0), .val (.int s1), .val (.int s2), .val (.int t0), .val (.int t1), .val (.int t2), .val (.int row), .val (.int at1), .val (.int set), .unset, .unset, .unset] [(.int s1), (.int (1 : Int32)), (.ref b2), (.ref b2), (.ref b1), (.ref b1)])) rfl rfl (hb hby at_145)
  have Aw4 := Arv.set Ar4 q4 S4 M4 H4 G4 rfl W4 1 rfl (Nat.le_of_ble_eq_true rfl)
  replace Ex_b1 := Ex_b1.wr W4
  replace F_referencing_b1 := F_referencing_b1.other W4 (Or.inl ne_b1_b2)
  replace F_sets_b1 := F_sets_b1.other W4 (Or.inl ne_b1_b2)
  replace F_rows_b1 := F_rows_b1.other W4 (Or.inl ne_b1_b2)
  have Z4 : n0 ≤ h4.size := Nat.le_trans Z3 (Keep.of_wr W4).1
  have Av_b2 : Arv Z h4 b2 k2 .int (3 : Int32) [(.int s0), (.int s1), (.int (0 : Int32))] (.int (0 : Int32)) := Aw4
  have N4 := Fr.snoc X4 N3 g_b2
  refine own_go (A := T4.setTop (mkF m 146 #[.val (.int p1), .val (.int p2), .val (.int p3), .val (.int p4), .val (.int p5), .val (.long q6), .second, .val (.int s0), .val (.int s1), .val (.int s2), .val (.int t0), .val (.int t1), .val (.int t2), .val (.int row), .val (.int at1), .val (.int set), .unset, .unset, .unset] [(.ref b2), (.ref b1), (.ref b1)])) (fun _ kz => st4 _ kz) ?_
  refine own_go (A := T4.setTop (mkF m 150 #[.val (.int p1), .val (.int p2), .val (.int p3), .val (.int p4), .val (.int p5), .val (.long q6), .second, .val (.int s0), .val (.int s1), .val (.int s2), .val (.int t0), .val (.int t1), .val (.int t2), .val (.int row), .val (.int at1), .val (.int set), .unset, .unset, .unset] [(.int s2), (.int (2 : Int32)), (.ref b2), (.ref b2), (.ref b1), (.ref b1)])) (fun _ kz => ?_) ?_
  · show Steps p.tables e below (T4.setTop (mkF m 146 #[.val (.int p1), .val (.int p2), .val (.int p3), .val (.int p4), .val (.int p5), .val (.long q6), .second, .val (.int s0), .val (.int s1), .val (.int s2), .val (.int t0), .val (.int t1), .val (.int t2), .val (.int row), .val (.int at1), .val (.int set), .unset, .unset, .unset] [(.ref b2), (.ref b1), (.ref b1)])) _
    refine XS.dup X4.here hx rfl (hb hby at_146) rfl rfl ?_
    show Steps p.tables e below (T4.setTop (mkF m 147 #[.val (.int p1), .val (.int p2), .val (.int p3), .val (.int p4), .val (.int p5), .val (.long q6), .second, .val (.int s0), .val (.int s1), .val (.int s2), .val (.int t0), .val (.int t1), .val (.int t2), .val (.int row), .val (.int at1), .val (.int set), .unset, .unset, .unset] [(.ref b2), (.ref b2), (.ref b1), (.ref b1)])) _
    refine XS.iconst X4.here hx rfl (hb hby at_147) ?_
    show Steps p.tables e below (T4.setTop (mkF m 148 #[.val (.int p1), .val (.int p2), .val (.int p3), .val (.int p4), .val (.int p5), .val (.long q6), .second, .val (.int s0), .val (.int s1), .val (.int s2), .val (.int t0), .val (.int t1), .val (.int t2), .val (.int row), .val (.int at1), .val (.int set), .unset, .unset, .unset] [(.int (2 : Int32)), (.ref b2), (.ref b2), (.ref b1), (.ref b1)])) _
    refine XS.iload X4.here hx rfl (hb hby at_148) rfl ?_
    exact kz
  obtain ⟨cl5, Ar5, q5, S5, M5, H5, G5⟩ := id Av_b2
  have hin5 : ¬ ((2 : Int32) < 0 ∨ cl5.slots.size ≤ ((2 : Int32)).toNatClampNeg) := inb_of S5 ⟨by decide, by decide⟩
  obtain ⟨T5, h5, X5, e5, W5, st5⟩ := stI X4 hx hZ e4 Ar5 (j := (2 : Int32)) hin5 (g := (mkF m 150 #[.val (.int p1), .val (.int p2), .val (.int p3), .val (.int p4), .val (.int p5), .val (.long q6), .second, .val (.int s0), .val (.int s1), .val (.int s2), .val (.int t0), .val (.int t1), .val (.int t2), .val (.int row), .val (.int at1), .val (.int set), .unset, .unset, .unset] [(.int s2), (.int (2 : Int32)), (.ref b2), (.ref b2), (.ref b1), (.ref b1)])) rfl rfl (hb hby at_150)
  have Aw5 := Arv.set Ar5 q5 S5 M5 H5 G5 rfl W5 2 rfl (Nat.le_of_ble_eq_true rfl)
  replace Ex_b1 := Ex_b1.wr W5
  replace F_referencing_b1 := F_referencing_b1.other W5 (Or.inl ne_b1_b2)
  replace F_sets_b1 := F_sets_b1.other W5 (Or.inl ne_b1_b2)
  replace F_rows_b1 := F_rows_b1.other W5 (Or.inl ne_b1_b2)
  have Z5 : n0 ≤ h5.size := Nat.le_trans Z4 (Keep.of_wr W5).1
  have Av_b2 : Arv Z h5 b2 k2 .int (3 : Int32) [(.int s0), (.int s1), (.int s2)] (.int (0 : Int32)) := Aw5
  have N5 := Fr.snoc X5 N4 g_b2
  refine own_go (A := T5.setTop (mkF m 151 #[.val (.int p1), .val (.int p2), .val (.int p3), .val (.int p4), .val (.int p5), .val (.long q6), .second, .val (.int s0), .val (.int s1), .val (.int s2), .val (.int t0), .val (.int t1), .val (.int t2), .val (.int row), .val (.int at1), .val (.int set), .unset, .unset, .unset] [(.ref b2), (.ref b1), (.ref b1)])) (fun _ kz => st5 _ kz) ?_
  refine own_go (A := T5.setTop (mkF m 152 #[.val (.int p1), .val (.int p2), .val (.int p3), .val (.int p4), .val (.int p5), .val (.long q6), .second, .val (.int s0), .val (.int s1), .val (.int s2), .val (.int t0), .val (.int t1), .val (.int t2), .val (.int row), .val (.int at1), .val (.int set), .unset, .unset, .unset] [(.int (3 : Int32)), (.ref b2), (.ref b1), (.ref b1)])) (fun _ kz => ?_) ?_
  · show Steps p.tables e below (T5.setTop (mkF m 151 #[.val (.int p1), .val (.int p2), .val (.int p3), .val (.int p4), .val (.int p5), .val (.long q6), .second, .val (.int s0), .val (.int s1), .val (.int s2), .val (.int t0), .val (.int t1), .val (.int t2), .val (.int row), .val (.int at1), .val (.int set), .unset, .unset, .unset] [(.ref b2), (.ref b1), (.ref b1)])) _
    refine XS.iconst X5.here hx rfl (hb hby at_151) ?_
    exact kz
  obtain ⟨T6, h6, k6, X6, e6, E6, A6, st6⟩ := newP X5 hx hZ (hw _ (List.mem_of_getElem? (i := 3) rfl)) e5 (g := (mkF m 152 #[.val (.int p1), .val (.int p2), .val (.int p3), .val (.int p4), .val (.int p5), .val (.long q6), .second, .val (.int s0), .val (.int s1), .val (.int s2), .val (.int t0), .val (.int t1), .val (.int t2), .val (.int row), .val (.int at1), .val (.int set), .unset, .unset, .unset] [(.int (3 : Int32)), (.ref b2), (.ref b1), (.ref b1)])) rfl (hb hby at_152) rfl (by decide) (cap := 3) (by decide) (by decide) (by decide) (by decide)
  obtain ⟨b6, gq6⟩ : ∃ z, z = h5.size := ⟨_, rfl⟩
  rw [← gq6] at A6 st6
  have g_b6 : n0 ≤ b6 := Nat.le_trans Z5 (Nat.le_of_eq gq6.symm)
  have ne_b1_b6 : b1 ≠ b6 := Nat.ne_of_lt (Nat.lt_of_lt_of_le Ex_b1.lt (Nat.le_of_eq gq6.symm))
  have ne_b2_b6 : b2 ≠ b6 := Nat.ne_of_lt (Nat.lt_of_lt_of_le Av_b2.lt (Nat.le_of_eq gq6.symm))
  replace Ex_b1 := Ex_b1.ext E6
  replace F_referencing_b1 := F_referencing_b1.ext E6
  replace F_sets_b1 := F_sets_b1.ext E6
  replace F_rows_b1 := F_rows_b1.ext E6
  replace Av_b2 := Av_b2.ext E6
  have Z6 : n0 ≤ h6.size := Nat.le_trans Z5 E6.1
  have Av_b6 : Arv Z h6 b6 k6 .int (3 : Int32) [(.int (0 : Int32)), (.int (0 : Int32)), (.int (0 : Int32))] (.int (0 : Int32)) := (Arv.new A6 (by decide)).pad (pad_rep [] (.int (0 : Int32)) 3)
  refine own_go (A := T6.setTop (mkF m 154 #[.val (.int p1), .val (.int p2), .val (.int p3), .val (.int p4), .val (.int p5), .val (.long q6), .second, .val (.int s0), .val (.int s1), .val (.int s2), .val (.int t0), .val (.int t1), .val (.int t2), .val (.int row), .val (.int at1), .val (.int set), .unset, .unset, .unset] [(.ref b6), (.ref b2), (.ref b1), (.ref b1)])) (fun _ kz => st6 _ kz) ?_
  refine own_go (A := T6.setTop (mkF m 158 #[.val (.int p1), .val (.int p2), .val (.int p3), .val (.int p4), .val (.int p5), .val (.long q6), .second, .val (.int s0), .val (.int s1), .val (.int s2), .val (.int t0), .val (.int t1), .val (.int t2), .val (.int row), .val (.int at1), .val (.int set), .unset, .unset, .unset] [(.int t0), (.int (0 : Int32)), (.ref b6), (.ref b6), (.ref b2), (.ref b1), (.ref b1)])) (fun _ kz => ?_) ?_
  · show Steps p.tables e below (T6.setTop (mkF m 154 #[.val (.int p1), .val (.int p2), .val (.int p3), .val (.int p4), .val (.int p5), .val (.long q6), .second, .val (.int s0), .val (.int s1), .val (.int s2), .val (.int t0), .val (.int t1), .val (.int t2), .val (.int row), .val (.int at1), .val (.int set), .unset, .unset, .unset] [(.ref b6), (.ref b2), (.ref b1), (.ref b1)])) _
    refine XS.dup X6.here hx rfl (hb hby at_154) rfl rfl ?_
    show Steps p.tables e below (T6.setTop (mkF m 155 #[.val (.int p1), .val (.int p2), .val (.int p3), .val (.int p4), .val (.int p5), .val (.long q6), .second, .val (.int s0), .val (.int s1), .val (.int s2), .val (.int t0), .val (.int t1), .val (.int t2), .val (.int row), .val (.int at1), .val (.int set), .unset, .unset, .unset] [(.ref b6), (.ref b6), (.ref b2), (.ref b1), (.ref b1)])) _
    refine XS.iconst X6.here hx rfl (hb hby at_155) ?_
    show Steps p.tables e below (T6.setTop (mkF m 156 #[.val (.int p1), .val (.int p2), .val (.int p3), .val (.int p4), .val (.int p5), .val (.long q6), .second, .val (.int s0), .val (.int s1), .val (.int s2), .val (.int t0), .val (.int t1), .val (.int t2), .val (.int row), .val (.int at1), .val (.int set), .unset, .unset, .unset] [(.int (0 : Int32)), (.ref b6), (.ref b6), (.ref b2), (.ref b1), (.ref b1)])) _
    refine XS.iload X6.here hx rfl (hb hby at_156) rfl ?_
    exact kz
  obtain ⟨cl7, Ar7, q7, S7, M7, H7, G7⟩ := id Av_b6
  have hin7 : ¬ ((0 : Int32) < 0 ∨ cl7.slots.size ≤ ((0 : Int32)).toNatClampNeg) := inb_of S7 ⟨by decide, by decide⟩
  obtain ⟨T7, h7, X7, e7, W7, st7⟩ := stI X6 hx hZ e6 Ar7 (j := (0 : Int32)) hin7 (g := (mkF m 158 #[.val (.int p1), .val (.int p2), .val (.int p3), .val (.int p4), .val (.int p5), .val (.long q6), .second, .val (.int s0), .val (.int s1), .val (.int s2), .val (.int t0), .val (.int t1), .val (.int t2), .val (.int row), .val (.int at1), .val (.int set), .unset, .unset, .unset] [(.int t0), (.int (0 : Int32)), (.ref b6), (.ref b6), (.ref b2), (.ref b1), (.ref b1)])) rfl rfl (hb hby at_158)
  have Aw7 := Arv.set Ar7 q7 S7 M7 H7 G7 rfl W7 0 rfl (Nat.le_of_ble_eq_true rfl)
  replace Ex_b1 := Ex_b1.wr W7
  replace F_referencing_b1 := F_referencing_b1.other W7 (Or.inl ne_b1_b6)
  replace F_sets_b1 := F_sets_b1.other W7 (Or.inl ne_b1_b6)
  replace F_rows_b1 := F_rows_b1.other W7 (Or.inl ne_b1_b6)
  replace Av_b2 := Av_b2.other W7 ne_b2_b6
  have Z7 : n0 ≤ h7.size := Nat.le_trans Z6 (Keep.of_wr W7).1
  have Av_b6 : Arv Z h7 b6 k6 .int (3 : Int32) [(.int t0), (.int (0 : Int32)), (.int (0 : Int32))] (.int (0 : Int32)) := Aw7
  have N7 := Fr.snoc X7 N5 g_b6
  refine own_go (A := T7.setTop (mkF m 159 #[.val (.int p1), .val (.int p2), .val (.int p3), .val (.int p4), .val (.int p5), .val (.long q6), .second, .val (.int s0), .val (.int s1), .val (.int s2), .val (.int t0), .val (.int t1), .val (.int t2), .val (.int row), .val (.int at1), .val (.int set), .unset, .unset, .unset] [(.ref b6), (.ref b2), (.ref b1), (.ref b1)])) (fun _ kz => st7 _ kz) ?_
  refine own_go (A := T7.setTop (mkF m 163 #[.val (.int p1), .val (.int p2), .val (.int p3), .val (.int p4), .val (.int p5), .val (.long q6), .second, .val (.int s0), .val (.int s1), .val (.int s2), .val (.int t0), .val (.int t1), .val (.int t2), .val (.int row), .val (.int at1), .val (.int set), .unset, .unset, .unset] [(.int t1), (.int (1 : Int32)), (.ref b6), (.ref b6), (.ref b2), (.ref b1), (.ref b1)])) (fun _ kz => ?_) ?_
  · show Steps p.tables e below (T7.setTop (mkF m 159 #[.val (.int p1), .val (.int p2), .val (.int p3), .val (.int p4), .val (.int p5), .val (.long q6), .second, .val (.int s0), .val (.int s1), .val (.int s2), .val (.int t0), .val (.int t1), .val (.int t2), .val (.int row), .val (.int at1), .val (.int set), .unset, .unset, .unset] [(.ref b6), (.ref b2), (.ref b1), (.ref b1)])) _
    refine XS.dup X7.here hx rfl (hb hby at_159) rfl rfl ?_
    show Steps p.tables e below (T7.setTop (mkF m 160 #[.val (.int p1), .val (.int p2), .val (.int p3), .val (.int p4), .val (.int p5), .val (.long q6), .second, .val (.int s0), .val (.int s1), .val (.int s2), .val (.int t0), .val (.int t1), .val (.int t2), .val (.int row), .val (.int at1), .val (.int set), .unset, .unset, .unset] [(.ref b6), (.ref b6), (.ref b2), (.ref b1), (.ref b1)])) _
    refine XS.iconst X7.here hx rfl (hb hby at_160) ?_
    show Steps p.tables e below (T7.setTop (mkF m 161 #[.val (.int p1), .val (.int p2), .val (.int p3), .val (.int p4), .val (.int p5), .val (.long q6), .second, .val (.int s0), .val (.int s1), .val (.int s2), .val (.int t0), .val (.int t1), .val (.int t2), .val (.int row), .val (.int at1), .val (.int set), .unset, .unset, .unset] [(.int (1 : Int32)), (.ref b6), (.ref b6), (.ref b2), (.ref b1), (.ref b1)])) _
    refine XS.iload X7.here hx rfl (hb hby at_161) rfl ?_
    exact kz
  obtain ⟨cl8, Ar8, q8, S8, M8, H8, G8⟩ := id Av_b6
  have hin8 : ¬ ((1 : Int32) < 0 ∨ cl8.slots.size ≤ ((1 : Int32)).toNatClampNeg) := inb_of S8 ⟨by decide, by decide⟩
  obtain ⟨T8, h8, X8, e8, W8, st8⟩ := stI X7 hx hZ e7 Ar8 (j := (1 : Int32)) hin8 (g := (mkF m 163 #[.val (.int p1), .val (.int p2), .val (.int p3), .val (.int p4), .val (.int p5), .val (.long q6), .second, .val (.int s0), .val (.int s1), .val (.int s2), .val (.int t0), .val (.int t1), .val (.int t2), .val (.int row), .val (.int at1), .val (.int set), .unset, .unset, .unset] [(.int t1), (.int (1 : Int32)), (.ref b6), (.ref b6), (.ref b2), (.ref b1), (.ref b1)])) rfl rfl (hb hby at_163)
  have Aw8 := Arv.set Ar8 q8 S8 M8 H8 G8 rfl W8 1 rfl (Nat.le_of_ble_eq_true rfl)
  replace Ex_b1 := Ex_b1.wr W8
  replace F_referencing_b1 := F_referencing_b1.other W8 (Or.inl ne_b1_b6)
  replace F_sets_b1 := F_sets_b1.other W8 (Or.inl ne_b1_b6)
  replace F_rows_b1 := F_rows_b1.other W8 (Or.inl ne_b1_b6)
  replace Av_b2 := Av_b2.other W8 ne_b2_b6
  have Z8 : n0 ≤ h8.size := Nat.le_trans Z7 (Keep.of_wr W8).1
  have Av_b6 : Arv Z h8 b6 k6 .int (3 : Int32) [(.int t0), (.int t1), (.int (0 : Int32))] (.int (0 : Int32)) := Aw8
  have N8 := Fr.snoc X8 N7 g_b6
  refine own_go (A := T8.setTop (mkF m 164 #[.val (.int p1), .val (.int p2), .val (.int p3), .val (.int p4), .val (.int p5), .val (.long q6), .second, .val (.int s0), .val (.int s1), .val (.int s2), .val (.int t0), .val (.int t1), .val (.int t2), .val (.int row), .val (.int at1), .val (.int set), .unset, .unset, .unset] [(.ref b6), (.ref b2), (.ref b1), (.ref b1)])) (fun _ kz => st8 _ kz) ?_
  refine own_go (A := T8.setTop (mkF m 168 #[.val (.int p1), .val (.int p2), .val (.int p3), .val (.int p4), .val (.int p5), .val (.long q6), .second, .val (.int s0), .val (.int s1), .val (.int s2), .val (.int t0), .val (.int t1), .val (.int t2), .val (.int row), .val (.int at1), .val (.int set), .unset, .unset, .unset] [(.int t2), (.int (2 : Int32)), (.ref b6), (.ref b6), (.ref b2), (.ref b1), (.ref b1)])) (fun _ kz => ?_) ?_
  · show Steps p.tables e below (T8.setTop (mkF m 164 #[.val (.int p1), .val (.int p2), .val (.int p3), .val (.int p4), .val (.int p5), .val (.long q6), .second, .val (.int s0), .val (.int s1), .val (.int s2), .val (.int t0), .val (.int t1), .val (.int t2), .val (.int row), .val (.int at1), .val (.int set), .unset, .unset, .unset] [(.ref b6), (.ref b2), (.ref b1), (.ref b1)])) _
    refine XS.dup X8.here hx rfl (hb hby at_164) rfl rfl ?_
    show Steps p.tables e below (T8.setTop (mkF m 165 #[.val (.int p1), .val (.int p2), .val (.int p3), .val (.int p4), .val (.int p5), .val (.long q6), .second, .val (.int s0), .val (.int s1), .val (.int s2), .val (.int t0), .val (.int t1), .val (.int t2), .val (.int row), .val (.int at1), .val (.int set), .unset, .unset, .unset] [(.ref b6), (.ref b6), (.ref b2), (.ref b1), (.ref b1)])) _
    refine XS.iconst X8.here hx rfl (hb hby at_165) ?_
    show Steps p.tables e below (T8.setTop (mkF m 166 #[.val (.int p1), .val (.int p2), .val (.int p3), .val (.int p4), .val (.int p5), .val (.long q6), .second, .val (.int s0), .val (.int s1), .val (.int s2), .val (.int t0), .val (.int t1), .val (.int t2), .val (.int row), .val (.int at1), .val (.int set), .unset, .unset, .unset] [(.int (2 : Int32)), (.ref b6), (.ref b6), (.ref b2), (.ref b1), (.ref b1)])) _
    refine XS.iload X8.here hx rfl (hb hby at_166) rfl ?_
    exact kz
  obtain ⟨cl9, Ar9, q9, S9, M9, H9, G9⟩ := id Av_b6
  have hin9 : ¬ ((2 : Int32) < 0 ∨ cl9.slots.size ≤ ((2 : Int32)).toNatClampNeg) := inb_of S9 ⟨by decide, by decide⟩
  obtain ⟨T9, h9, X9, e9, W9, st9⟩ := stI X8 hx hZ e8 Ar9 (j := (2 : Int32)) hin9 (g := (mkF m 168 #[.val (.int p1), .val (.int p2), .val (.int p3), .val (.int p4), .val (.int p5), .val (.long q6), .second, .val (.int s0), .val (.int s1), .val (.int s2), .val (.int t0), .val (.int t1), .val (.int t2), .val (.int row), .val (.int at1), .val (.int set), .unset, .unset, .unset] [(.int t2), (.int (2 : Int32)), (.ref b6), (.ref b6), (.ref b2), (.ref b1), (.ref b1)])) rfl rfl (hb hby at_168)
  have Aw9 := Arv.set Ar9 q9 S9 M9 H9 G9 rfl W9 2 rfl (Nat.le_of_ble_eq_true rfl)
  replace Ex_b1 := Ex_b1.wr W9
  replace F_referencing_b1 := F_referencing_b1.other W9 (Or.inl ne_b1_b6)
  replace F_sets_b1 := F_sets_b1.other W9 (Or.inl ne_b1_b6)
  replace F_rows_b1 := F_rows_b1.other W9 (Or.inl ne_b1_b6)
  replace Av_b2 := Av_b2.other W9 ne_b2_b6
  have Z9 : n0 ≤ h9.size := Nat.le_trans Z8 (Keep.of_wr W9).1
  have Av_b6 : Arv Z h9 b6 k6 .int (3 : Int32) [(.int t0), (.int t1), (.int t2)] (.int (0 : Int32)) := Aw9
  have N9 := Fr.snoc X9 N8 g_b6
  refine own_go (A := T9.setTop (mkF m 169 #[.val (.int p1), .val (.int p2), .val (.int p3), .val (.int p4), .val (.int p5), .val (.long q6), .second, .val (.int s0), .val (.int s1), .val (.int s2), .val (.int t0), .val (.int t1), .val (.int t2), .val (.int row), .val (.int at1), .val (.int set), .unset, .unset, .unset] [(.ref b6), (.ref b2), (.ref b1), (.ref b1)])) (fun _ kz => st9 _ kz) ?_
  obtain ⟨_, _, ⟨T10, L10, k10, n10⟩, -, X10, ⟨Lc10, hQ10, l10, y10, z10⟩, st10⟩ := X9.specialBack hx (y := (⟨"com/example/bare_words/barewords/KeyReads$Targets", "<init>", "([I[I)V"⟩ : MethodName)) rfl hown (mvT hZ (hw _ (List.mem_of_getElem? (i := 4) rfl))) (mvT hZ (hw _ (List.mem_of_getElem? (i := 5) rfl))) (mvT hZ (hw _ (List.mem_of_getElem? (i := 6) rfl))) (by decide) (backOf (W := 1) (rmInit l Z a0 hw [] b1 b2 b6 h9 n0 Z9 Ex_b1 F_referencing_b1 F_sets_b1 F_rows_b1 g_b1) hZ (hw _ (List.mem_of_getElem? (i := 6) rfl)) (hw _ (List.mem_of_getElem? (i := 2) rfl)) (by decide) (by decide)) (g := (mkF m 169 #[.val (.int p1), .val (.int p2), .val (.int p3), .val (.int p4), .val (.int p5), .val (.long q6), .second, .val (.int s0), .val (.int s1), .val (.int s2), .val (.int t0), .val (.int t1), .val (.int t2), .val (.int row), .val (.int at1), .val (.int set), .unset, .unset, .unset] [(.ref b6), (.ref b2), (.ref b1), (.ref b1)])) rfl (by rw [hml]; rfl) (Steps.refl _) (a := b1) (argsL := [(.ref b2), (.ref b6)]) (rest := [(.ref b1)]) (lenOf own_pd1 rfl) rfl (by show 2 * 0 + _ ≤ _; exact Nat.le_of_eq rfl) (hb hby at_169) (fun _ _ => ⟨rfl, e9, (by decide : 3 + 1 ≤ _), (by decide : 9 + 8 ≤ _)⟩)
  dsimp only [Pt.U, Pt.locs, Pt.cells, Pt.slots] at X10 l10 y10 z10 st10 hQ10
  subst l10 y10 z10
  obtain ⟨rfl, N10q, K10q, _, Fs10, Fr10⟩ := hQ10
  have N10 := Fr.app N9 N10q
  replace Ex_b1 := Ex_b1.keep K10q
  replace Av_b2 := Av_b2.keep K10q (ninS (Ne.symm ne_b1_b2) nin0)
  replace Av_b6 := Av_b6.keep K10q (ninS (Ne.symm ne_b1_b6) nin0)
  have Z10 : n0 ≤ T10.heap.size := Nat.le_trans Z9 K10q.1
  refine own_go (A := T10.setTop (mkF m 172 #[.val (.int p1), .val (.int p2), .val (.int p3), .val (.int p4), .val (.int p5), .val (.long q6), .second, .val (.int s0), .val (.int s1), .val (.int s2), .val (.int t0), .val (.int t1), .val (.int t2), .val (.int row), .val (.int at1), .val (.int set), .unset, .unset, .unset] [(.ref b1)])) (fun _ kz => st10.trans kz) ?_
  refine own_go (A := T10.setTop (mkF m 180 #[.val (.int p1), .val (.int p2), .val (.int p3), .val (.int p4), .val (.int p5), .val (.long q6), .second, .val (.int s0), .val (.int s1), .val (.int s2), .val (.int t0), .val (.int t1), .val (.int t2), .val (.int row), .val (.int at1), .val (.int set), .val (.ref b1), .unset, .unset] [(.int set), (.int row), (.ref b1)])) (fun _ kz => ?_) ?_
  · show Steps p.tables e below (T10.setTop (mkF m 172 #[.val (.int p1), .val (.int p2), .val (.int p3), .val (.int p4), .val (.int p5), .val (.long q6), .second, .val (.int s0), .val (.int s1), .val (.int s2), .val (.int t0), .val (.int t1), .val (.int t2), .val (.int row), .val (.int at1), .val (.int set), .unset, .unset, .unset] [(.ref b1)])) _
    refine XS.astore X10.here hx rfl (hb hby at_172) rfl rfl (l' := #[.val (.int p1), .val (.int p2), .val (.int p3), .val (.int p4), .val (.int p5), .val (.long q6), .second, .val (.int s0), .val (.int s1), .val (.int s2), .val (.int t0), .val (.int t1), .val (.int t2), .val (.int row), .val (.int at1), .val (.int set), .val (.ref b1), .unset, .unset]) rfl ?_
    show Steps p.tables e below (T10.setTop (mkF m 174 #[.val (.int p1), .val (.int p2), .val (.int p3), .val (.int p4), .val (.int p5), .val (.long q6), .second, .val (.int s0), .val (.int s1), .val (.int s2), .val (.int t0), .val (.int t1), .val (.int t2), .val (.int row), .val (.int at1), .val (.int set), .val (.ref b1), .unset, .unset] [])) _
    refine XS.aload X10.here hx rfl (hb hby at_174) rfl rfl ?_
    show Steps p.tables e below (T10.setTop (mkF m 176 #[.val (.int p1), .val (.int p2), .val (.int p3), .val (.int p4), .val (.int p5), .val (.long q6), .second, .val (.int s0), .val (.int s1), .val (.int s2), .val (.int t0), .val (.int t1), .val (.int t2), .val (.int row), .val (.int at1), .val (.int set), .val (.ref b1), .unset, .unset] [(.ref b1)])) _
    refine XS.iload X10.here hx rfl (hb hby at_176) rfl ?_
    show Steps p.tables e below (T10.setTop (mkF m 178 #[.val (.int p1), .val (.int p2), .val (.int p3), .val (.int p4), .val (.int p5), .val (.long q6), .second, .val (.int s0), .val (.int s1), .val (.int s2), .val (.int t0), .val (.int t1), .val (.int t2), .val (.int row), .val (.int at1), .val (.int set), .val (.ref b1), .unset, .unset] [(.int row), (.ref b1)])) _
    refine XS.iload X10.here hx rfl (hb hby at_178) rfl ?_
    exact kz
  obtain ⟨cq11, kq11, q11a, q11b, q11c⟩ := isOf hZ rfl Ex_b1
  obtain ⟨_, _, ⟨T11, L11, k11, n11⟩, -, X11, ⟨Lc11, hQ11, l11, y11, z11⟩, st11⟩ := X10.virtualBack hx (y := (⟨"com/example/bare_words/barewords/KeyReads$Targets", "target", "(II)I"⟩ : MethodName)) (z := (⟨"com/example/bare_words/barewords/KeyReads$Targets", "target", "(II)I"⟩ : MethodName)) hown (mvT hZ (hw _ (List.mem_of_getElem? (i := 32) rfl))) (mvT hZ (hw _ (List.mem_of_getElem? (i := 33) rfl))) (notFace_of_selects (args := #[]) (mvT hZ (hw _ (List.mem_of_getElem? (i := 35) rfl)))) (mvT hZ (hw _ (List.mem_of_getElem? (i := 35) rfl))) (mvT hZ (hw _ (List.mem_of_getElem? (i := 34) rfl))) (by decide) (backOf (W := 0) (rmT l Z a0 hw [] b1 b2 b6 k2 k6 row set s0 s1 s2 t0 t1 t2 (own_target row set s0 s1 s2 t0 t1 t2) T10.heap n0 Z10 (own_row _ _ hrow) Fs10 Fr10 Av_b2 Av_b6 rfl) hZ (hw _ (List.mem_of_getElem? (i := 36) rfl)) (hw _ (List.mem_of_getElem? (i := 2) rfl)) (by decide) (by decide)) q11a q11c (g := (mkF m 180 #[.val (.int p1), .val (.int p2), .val (.int p3), .val (.int p4), .val (.int p5), .val (.long q6), .second, .val (.int s0), .val (.int s1), .val (.int s2), .val (.int t0), .val (.int t1), .val (.int t2), .val (.int row), .val (.int at1), .val (.int set), .val (.ref b1), .unset, .unset] [(.int set), (.int row), (.ref b1)])) rfl (by rw [hml]; rfl) (Steps.refl _) (argsL := [(.int row), (.int set)]) (rest := []) (lenOf own_pd2 rfl) rfl (by show 2 * 0 + _ ≤ _; exact Nat.le_of_eq rfl) (hb hby at_180) (fun _ _ => ⟨rfl, rfl, (by decide : 4 + 0 ≤ _), (by decide : 17 + 0 ≤ _)⟩)
  dsimp only [Pt.U, Pt.locs, Pt.cells, Pt.slots] at X11 l11 y11 z11 st11 hQ11
  subst l11 y11 z11
  obtain ⟨rfl, N11q, e11⟩ := hQ11
  have N11 := Fr.app N10 N11q
  refine own_go (A := T11.setTop (mkF m 183 #[.val (.int p1), .val (.int p2), .val (.int p3), .val (.int p4), .val (.int p5), .val (.long q6), .second, .val (.int s0), .val (.int s1), .val (.int s2), .val (.int t0), .val (.int t1), .val (.int t2), .val (.int row), .val (.int at1), .val (.int set), .val (.ref b1), .unset, .unset] [(.int (own_target row set s0 s1 s2 t0 t1 t2))])) (fun _ kz => st11.trans kz) ?_
  obtain ⟨x2, hx2⟩ : ∃ z, z = (if s0 = set then t0 else (-1 : Int32)) := ⟨_, rfl⟩
  obtain ⟨x4, hx4⟩ : ∃ z, z = (if s1 = set then t1 else (-1 : Int32)) := ⟨_, rfl⟩
  obtain ⟨x6, hx6⟩ : ∃ z, z = (if s2 = set then t2 else (-1 : Int32)) := ⟨_, rfl⟩
  obtain ⟨x5, hx5⟩ : ∃ z, z = (if row = (2 : Int32) then x6 else (-1 : Int32)) := ⟨_, rfl⟩
  obtain ⟨x3, hx3⟩ : ∃ z, z = (if row = (1 : Int32) then x4 else x5) := ⟨_, rfl⟩
  obtain ⟨x1, hx1⟩ : ∃ z, z = (if row = (0 : Int32) then x2 else x3) := ⟨_, rfl⟩
  refine own_go (A := T11.setTop (mkF m 259 #[.val (.int p1), .val (.int p2), .val (.int p3), .val (.int p4), .val (.int p5), .val (.long q6), .second, .val (.int s0), .val (.int s1), .val (.int s2), .val (.int t0), .val (.int t1), .val (.int t2), .val (.int row), .val (.int at1), .val (.int set), .val (.ref b1), .val (.int (own_target row set s0 s1 s2 t0 t1 t2)), .val (.int x1)] [])) (fun _ kz => ?_) ?_
  · show Steps p.tables e below (T11.setTop (mkF m 183 #[.val (.int p1), .val (.int p2), .val (.int p3), .val (.int p4), .val (.int p5), .val (.long q6), .second, .val (.int s0), .val (.int s1), .val (.int s2), .val (.int t0), .val (.int t1), .val (.int t2), .val (.int row), .val (.int at1), .val (.int set), .val (.ref b1), .unset, .unset] [(.int (own_target row set s0 s1 s2 t0 t1 t2))])) _
    refine XS.istore X11.here hx rfl (hb hby at_183) rfl (l' := #[.val (.int p1), .val (.int p2), .val (.int p3), .val (.int p4), .val (.int p5), .val (.long q6), .second, .val (.int s0), .val (.int s1), .val (.int s2), .val (.int t0), .val (.int t1), .val (.int t2), .val (.int row), .val (.int at1), .val (.int set), .val (.ref b1), .val (.int (own_target row set s0 s1 s2 t0 t1 t2)), .unset]) rfl ?_
    show Steps p.tables e below (T11.setTop (mkF m 185 #[.val (.int p1), .val (.int p2), .val (.int p3), .val (.int p4), .val (.int p5), .val (.long q6), .second, .val (.int s0), .val (.int s1), .val (.int s2), .val (.int t0), .val (.int t1), .val (.int t2), .val (.int row), .val (.int at1), .val (.int set), .val (.ref b1), .val (.int (own_target row set s0 s1 s2 t0 t1 t2)), .unset] [])) _
    refine XS.iload X11.here hx rfl (hb hby at_185) rfl ?_
    show Steps p.tables e below (T11.setTop (mkF m 187 #[.val (.int p1), .val (.int p2), .val (.int p3), .val (.int p4), .val (.int p5), .val (.long q6), .second, .val (.int s0), .val (.int s1), .val (.int s2), .val (.int t0), .val (.int t1), .val (.int t2), .val (.int row), .val (.int at1), .val (.int set), .val (.ref b1), .val (.int (own_target row set s0 s1 s2 t0 t1 t2)), .unset] [(.int row)])) _
    by_cases hc187 : row = (0 : Int32)
    · rw [hx1, if_pos hc187] at kz
      refine XS.ifNo X11.here hx rfl (hb hby at_187) rfl ((if0 _ _).trans (teq hc187).2) ?_
      show Steps p.tables e below (T11.setTop (mkF m 190 #[.val (.int p1), .val (.int p2), .val (.int p3), .val (.int p4), .val (.int p5), .val (.long q6), .second, .val (.int s0), .val (.int s1), .val (.int s2), .val (.int t0), .val (.int t1), .val (.int t2), .val (.int row), .val (.int at1), .val (.int set), .val (.ref b1), .val (.int (own_target row set s0 s1 s2 t0 t1 t2)), .unset] [])) _
      refine XS.iload X11.here hx rfl (hb hby at_190) rfl ?_
      show Steps p.tables e below (T11.setTop (mkF m 192 #[.val (.int p1), .val (.int p2), .val (.int p3), .val (.int p4), .val (.int p5), .val (.long q6), .second, .val (.int s0), .val (.int s1), .val (.int s2), .val (.int t0), .val (.int t1), .val (.int t2), .val (.int row), .val (.int at1), .val (.int set), .val (.ref b1), .val (.int (own_target row set s0 s1 s2 t0 t1 t2)), .unset] [(.int s0)])) _
      refine XS.iload X11.here hx rfl (hb hby at_192) rfl ?_
      show Steps p.tables e below (T11.setTop (mkF m 194 #[.val (.int p1), .val (.int p2), .val (.int p3), .val (.int p4), .val (.int p5), .val (.long q6), .second, .val (.int s0), .val (.int s1), .val (.int s2), .val (.int t0), .val (.int t1), .val (.int t2), .val (.int row), .val (.int at1), .val (.int set), .val (.ref b1), .val (.int (own_target row set s0 s1 s2 t0 t1 t2)), .unset] [(.int set), (.int s0)])) _
      by_cases hc194 : s0 = set
      · rw [hx2, if_pos hc194] at kz
        refine XS.icmpNo X11.here hx rfl (hb hby at_194) rfl (teq hc194).2 ?_
        show Steps p.tables e below (T11.setTop (mkF m 197 #[.val (.int p1), .val (.int p2), .val (.int p3), .val (.int p4), .val (.int p5), .val (.long q6), .second, .val (.int s0), .val (.int s1), .val (.int s2), .val (.int t0), .val (.int t1), .val (.int t2), .val (.int row), .val (.int at1), .val (.int set), .val (.ref b1), .val (.int (own_target row set s0 s1 s2 t0 t1 t2)), .unset] [])) _
        refine XS.iload X11.here hx rfl (hb hby at_197) rfl ?_
        show Steps p.tables e below (T11.setTop (mkF m 199 #[.val (.int p1), .val (.int p2), .val (.int p3), .val (.int p4), .val (.int p5), .val (.long q6), .second, .val (.int s0), .val (.int s1), .val (.int s2), .val (.int t0), .val (.int t1), .val (.int t2), .val (.int row), .val (.int at1), .val (.int set), .val (.ref b1), .val (.int (own_target row set s0 s1 s2 t0 t1 t2)), .unset] [(.int t0)])) _
        refine XS.goto X11.here hx rfl (pc0 := 199) (pc' := 203) rfl (hb hby at_199) (by decide) (by decide) ?_
        show Steps p.tables e below (T11.setTop (mkF m 203 #[.val (.int p1), .val (.int p2), .val (.int p3), .val (.int p4), .val (.int p5), .val (.long q6), .second, .val (.int s0), .val (.int s1), .val (.int s2), .val (.int t0), .val (.int t1), .val (.int t2), .val (.int row), .val (.int at1), .val (.int set), .val (.ref b1), .val (.int (own_target row set s0 s1 s2 t0 t1 t2)), .unset] [(.int t0)])) _
        refine XS.istore X11.here hx rfl (hb hby at_203) rfl (l' := #[.val (.int p1), .val (.int p2), .val (.int p3), .val (.int p4), .val (.int p5), .val (.long q6), .second, .val (.int s0), .val (.int s1), .val (.int s2), .val (.int t0), .val (.int t1), .val (.int t2), .val (.int row), .val (.int at1), .val (.int set), .val (.ref b1), .val (.int (own_target row set s0 s1 s2 t0 t1 t2)), .val (.int t0)]) rfl ?_
        show Steps p.tables e below (T11.setTop (mkF m 205 #[.val (.int p1), .val (.int p2), .val (.int p3), .val (.int p4), .val (.int p5), .val (.long q6), .second, .val (.int s0), .val (.int s1), .val (.int s2), .val (.int t0), .val (.int t1), .val (.int t2), .val (.int row), .val (.int at1), .val (.int set), .val (.ref b1), .val (.int (own_target row set s0 s1 s2 t0 t1 t2)), .val (.int t0)] [])) _
        refine XS.goto X11.here hx rfl (pc0 := 205) (pc' := 259) rfl (hb hby at_205) (by decide) (by decide) ?_
        exact kz
      · rw [hx2, if_neg hc194] at kz
        refine XS.icmpYes X11.here hx rfl (pc0 := 194) (pc' := 202) rfl (hb hby at_194) rfl (feq hc194).2 (by decide) (by decide) ?_
        show Steps p.tables e below (T11.setTop (mkF m 202 #[.val (.int p1), .val (.int p2), .val (.int p3), .val (.int p4), .val (.int p5), .val (.long q6), .second, .val (.int s0), .val (.int s1), .val (.int s2), .val (.int t0), .val (.int t1), .val (.int t2), .val (.int row), .val (.int at1), .val (.int set), .val (.ref b1), .val (.int (own_target row set s0 s1 s2 t0 t1 t2)), .unset] [])) _
        refine XS.iconst X11.here hx rfl (hb hby at_202) ?_
        show Steps p.tables e below (T11.setTop (mkF m 203 #[.val (.int p1), .val (.int p2), .val (.int p3), .val (.int p4), .val (.int p5), .val (.long q6), .second, .val (.int s0), .val (.int s1), .val (.int s2), .val (.int t0), .val (.int t1), .val (.int t2), .val (.int row), .val (.int at1), .val (.int set), .val (.ref b1), .val (.int (own_target row set s0 s1 s2 t0 t1 t2)), .unset] [(.int (-1 : Int32))])) _
        refine XS.istore X11.here hx rfl (hb hby at_203) rfl (l' := #[.val (.int p1), .val (.int p2), .val (.int p3), .val (.int p4), .val (.int p5), .val (.long q6), .second, .val (.int s0), .val (.int s1), .val (.int s2), .val (.int t0), .val (.int t1), .val (.int t2), .val (.int row), .val (.int at1), .val (.int set), .val (.ref b1), .val (.int (own_target row set s0 s1 s2 t0 t1 t2)), .val (.int (-1 : Int32))]) rfl ?_
        show Steps p.tables e below (T11.setTop (mkF m 205 #[.val (.int p1), .val (.int p2), .val (.int p3), .val (.int p4), .val (.int p5), .val (.long q6), .second, .val (.int s0), .val (.int s1), .val (.int s2), .val (.int t0), .val (.int t1), .val (.int t2), .val (.int row), .val (.int at1), .val (.int set), .val (.ref b1), .val (.int (own_target row set s0 s1 s2 t0 t1 t2)), .val (.int (-1 : Int32))] [])) _
        refine XS.goto X11.here hx rfl (pc0 := 205) (pc' := 259) rfl (hb hby at_205) (by decide) (by decide) ?_
        exact kz
    · rw [hx1, if_neg hc187] at kz
      refine XS.ifYes X11.here hx rfl (pc0 := 187) (pc' := 208) rfl (hb hby at_187) rfl ((if0 _ _).trans (feq hc187).2) (by decide) (by decide) ?_
      show Steps p.tables e below (T11.setTop (mkF m 208 #[.val (.int p1), .val (.int p2), .val (.int p3), .val (.int p4), .val (.int p5), .val (.long q6), .second, .val (.int s0), .val (.int s1), .val (.int s2), .val (.int t0), .val (.int t1), .val (.int t2), .val (.int row), .val (.int at1), .val (.int set), .val (.ref b1), .val (.int (own_target row set s0 s1 s2 t0 t1 t2)), .unset] [])) _
      refine XS.iload X11.here hx rfl (hb hby at_208) rfl ?_
      show Steps p.tables e below (T11.setTop (mkF m 210 #[.val (.int p1), .val (.int p2), .val (.int p3), .val (.int p4), .val (.int p5), .val (.long q6), .second, .val (.int s0), .val (.int s1), .val (.int s2), .val (.int t0), .val (.int t1), .val (.int t2), .val (.int row), .val (.int at1), .val (.int set), .val (.ref b1), .val (.int (own_target row set s0 s1 s2 t0 t1 t2)), .unset] [(.int row)])) _
      refine XS.iconst X11.here hx rfl (hb hby at_210) ?_
      show Steps p.tables e below (T11.setTop (mkF m 211 #[.val (.int p1), .val (.int p2), .val (.int p3), .val (.int p4), .val (.int p5), .val (.long q6), .second, .val (.int s0), .val (.int s1), .val (.int s2), .val (.int t0), .val (.int t1), .val (.int t2), .val (.int row), .val (.int at1), .val (.int set), .val (.ref b1), .val (.int (own_target row set s0 s1 s2 t0 t1 t2)), .unset] [(.int (1 : Int32)), (.int row)])) _
      by_cases hc211 : row = (1 : Int32)
      · rw [hx3, if_pos hc211] at kz
        refine XS.icmpNo X11.here hx rfl (hb hby at_211) rfl (teq hc211).2 ?_
        show Steps p.tables e below (T11.setTop (mkF m 214 #[.val (.int p1), .val (.int p2), .val (.int p3), .val (.int p4), .val (.int p5), .val (.long q6), .second, .val (.int s0), .val (.int s1), .val (.int s2), .val (.int t0), .val (.int t1), .val (.int t2), .val (.int row), .val (.int at1), .val (.int set), .val (.ref b1), .val (.int (own_target row set s0 s1 s2 t0 t1 t2)), .unset] [])) _
        refine XS.iload X11.here hx rfl (hb hby at_214) rfl ?_
        show Steps p.tables e below (T11.setTop (mkF m 216 #[.val (.int p1), .val (.int p2), .val (.int p3), .val (.int p4), .val (.int p5), .val (.long q6), .second, .val (.int s0), .val (.int s1), .val (.int s2), .val (.int t0), .val (.int t1), .val (.int t2), .val (.int row), .val (.int at1), .val (.int set), .val (.ref b1), .val (.int (own_target row set s0 s1 s2 t0 t1 t2)), .unset] [(.int s1)])) _
        refine XS.iload X11.here hx rfl (hb hby at_216) rfl ?_
        show Steps p.tables e below (T11.setTop (mkF m 218 #[.val (.int p1), .val (.int p2), .val (.int p3), .val (.int p4), .val (.int p5), .val (.long q6), .second, .val (.int s0), .val (.int s1), .val (.int s2), .val (.int t0), .val (.int t1), .val (.int t2), .val (.int row), .val (.int at1), .val (.int set), .val (.ref b1), .val (.int (own_target row set s0 s1 s2 t0 t1 t2)), .unset] [(.int set), (.int s1)])) _
        by_cases hc218 : s1 = set
        · rw [hx4, if_pos hc218] at kz
          refine XS.icmpNo X11.here hx rfl (hb hby at_218) rfl (teq hc218).2 ?_
          show Steps p.tables e below (T11.setTop (mkF m 221 #[.val (.int p1), .val (.int p2), .val (.int p3), .val (.int p4), .val (.int p5), .val (.long q6), .second, .val (.int s0), .val (.int s1), .val (.int s2), .val (.int t0), .val (.int t1), .val (.int t2), .val (.int row), .val (.int at1), .val (.int set), .val (.ref b1), .val (.int (own_target row set s0 s1 s2 t0 t1 t2)), .unset] [])) _
          refine XS.iload X11.here hx rfl (hb hby at_221) rfl ?_
          show Steps p.tables e below (T11.setTop (mkF m 223 #[.val (.int p1), .val (.int p2), .val (.int p3), .val (.int p4), .val (.int p5), .val (.long q6), .second, .val (.int s0), .val (.int s1), .val (.int s2), .val (.int t0), .val (.int t1), .val (.int t2), .val (.int row), .val (.int at1), .val (.int set), .val (.ref b1), .val (.int (own_target row set s0 s1 s2 t0 t1 t2)), .unset] [(.int t1)])) _
          refine XS.goto X11.here hx rfl (pc0 := 223) (pc' := 227) rfl (hb hby at_223) (by decide) (by decide) ?_
          show Steps p.tables e below (T11.setTop (mkF m 227 #[.val (.int p1), .val (.int p2), .val (.int p3), .val (.int p4), .val (.int p5), .val (.long q6), .second, .val (.int s0), .val (.int s1), .val (.int s2), .val (.int t0), .val (.int t1), .val (.int t2), .val (.int row), .val (.int at1), .val (.int set), .val (.ref b1), .val (.int (own_target row set s0 s1 s2 t0 t1 t2)), .unset] [(.int t1)])) _
          refine XS.istore X11.here hx rfl (hb hby at_227) rfl (l' := #[.val (.int p1), .val (.int p2), .val (.int p3), .val (.int p4), .val (.int p5), .val (.long q6), .second, .val (.int s0), .val (.int s1), .val (.int s2), .val (.int t0), .val (.int t1), .val (.int t2), .val (.int row), .val (.int at1), .val (.int set), .val (.ref b1), .val (.int (own_target row set s0 s1 s2 t0 t1 t2)), .val (.int t1)]) rfl ?_
          show Steps p.tables e below (T11.setTop (mkF m 229 #[.val (.int p1), .val (.int p2), .val (.int p3), .val (.int p4), .val (.int p5), .val (.long q6), .second, .val (.int s0), .val (.int s1), .val (.int s2), .val (.int t0), .val (.int t1), .val (.int t2), .val (.int row), .val (.int at1), .val (.int set), .val (.ref b1), .val (.int (own_target row set s0 s1 s2 t0 t1 t2)), .val (.int t1)] [])) _
          refine XS.goto X11.here hx rfl (pc0 := 229) (pc' := 259) rfl (hb hby at_229) (by decide) (by decide) ?_
          exact kz
        · rw [hx4, if_neg hc218] at kz
          refine XS.icmpYes X11.here hx rfl (pc0 := 218) (pc' := 226) rfl (hb hby at_218) rfl (feq hc218).2 (by decide) (by decide) ?_
          show Steps p.tables e below (T11.setTop (mkF m 226 #[.val (.int p1), .val (.int p2), .val (.int p3), .val (.int p4), .val (.int p5), .val (.long q6), .second, .val (.int s0), .val (.int s1), .val (.int s2), .val (.int t0), .val (.int t1), .val (.int t2), .val (.int row), .val (.int at1), .val (.int set), .val (.ref b1), .val (.int (own_target row set s0 s1 s2 t0 t1 t2)), .unset] [])) _
          refine XS.iconst X11.here hx rfl (hb hby at_226) ?_
          show Steps p.tables e below (T11.setTop (mkF m 227 #[.val (.int p1), .val (.int p2), .val (.int p3), .val (.int p4), .val (.int p5), .val (.long q6), .second, .val (.int s0), .val (.int s1), .val (.int s2), .val (.int t0), .val (.int t1), .val (.int t2), .val (.int row), .val (.int at1), .val (.int set), .val (.ref b1), .val (.int (own_target row set s0 s1 s2 t0 t1 t2)), .unset] [(.int (-1 : Int32))])) _
          refine XS.istore X11.here hx rfl (hb hby at_227) rfl (l' := #[.val (.int p1), .val (.int p2), .val (.int p3), .val (.int p4), .val (.int p5), .val (.long q6), .second, .val (.int s0), .val (.int s1), .val (.int s2), .val (.int t0), .val (.int t1), .val (.int t2), .val (.int row), .val (.int at1), .val (.int set), .val (.ref b1), .val (.int (own_target row set s0 s1 s2 t0 t1 t2)), .val (.int (-1 : Int32))]) rfl ?_
          show Steps p.tables e below (T11.setTop (mkF m 229 #[.val (.int p1), .val (.int p2), .val (.int p3), .val (.int p4), .val (.int p5), .val (.long q6), .second, .val (.int s0), .val (.int s1), .val (.int s2), .val (.int t0), .val (.int t1), .val (.int t2), .val (.int row), .val (.int at1), .val (.int set), .val (.ref b1), .val (.int (own_target row set s0 s1 s2 t0 t1 t2)), .val (.int (-1 : Int32))] [])) _
          refine XS.goto X11.here hx rfl (pc0 := 229) (pc' := 259) rfl (hb hby at_229) (by decide) (by decide) ?_
          exact kz
      · rw [hx3, if_neg hc211] at kz
        refine XS.icmpYes X11.here hx rfl (pc0 := 211) (pc' := 232) rfl (hb hby at_211) rfl (feq hc211).2 (by decide) (by decide) ?_
        show Steps p.tables e below (T11.setTop (mkF m 232 #[.val (.int p1), .val (.int p2), .val (.int p3), .val (.int p4), .val (.int p5), .val (.long q6), .second, .val (.int s0), .val (.int s1), .val (.int s2), .val (.int t0), .val (.int t1), .val (.int t2), .val (.int row), .val (.int at1), .val (.int set), .val (.ref b1), .val (.int (own_target row set s0 s1 s2 t0 t1 t2)), .unset] [])) _
        refine XS.iload X11.here hx rfl (hb hby at_232) rfl ?_
        show Steps p.tables e below (T11.setTop (mkF m 234 #[.val (.int p1), .val (.int p2), .val (.int p3), .val (.int p4), .val (.int p5), .val (.long q6), .second, .val (.int s0), .val (.int s1), .val (.int s2), .val (.int t0), .val (.int t1), .val (.int t2), .val (.int row), .val (.int at1), .val (.int set), .val (.ref b1), .val (.int (own_target row set s0 s1 s2 t0 t1 t2)), .unset] [(.int row)])) _
        refine XS.iconst X11.here hx rfl (hb hby at_234) ?_
        show Steps p.tables e below (T11.setTop (mkF m 235 #[.val (.int p1), .val (.int p2), .val (.int p3), .val (.int p4), .val (.int p5), .val (.long q6), .second, .val (.int s0), .val (.int s1), .val (.int s2), .val (.int t0), .val (.int t1), .val (.int t2), .val (.int row), .val (.int at1), .val (.int set), .val (.ref b1), .val (.int (own_target row set s0 s1 s2 t0 t1 t2)), .unset] [(.int (2 : Int32)), (.int row)])) _
        by_cases hc235 : row = (2 : Int32)
        · rw [hx5, if_pos hc235] at kz
          refine XS.icmpNo X11.here hx rfl (hb hby at_235) rfl (teq hc235).2 ?_
          show Steps p.tables e below (T11.setTop (mkF m 238 #[.val (.int p1), .val (.int p2), .val (.int p3), .val (.int p4), .val (.int p5), .val (.long q6), .second, .val (.int s0), .val (.int s1), .val (.int s2), .val (.int t0), .val (.int t1), .val (.int t2), .val (.int row), .val (.int at1), .val (.int set), .val (.ref b1), .val (.int (own_target row set s0 s1 s2 t0 t1 t2)), .unset] [])) _
          refine XS.iload X11.here hx rfl (hb hby at_238) rfl ?_
          show Steps p.tables e below (T11.setTop (mkF m 240 #[.val (.int p1), .val (.int p2), .val (.int p3), .val (.int p4), .val (.int p5), .val (.long q6), .second, .val (.int s0), .val (.int s1), .val (.int s2), .val (.int t0), .val (.int t1), .val (.int t2), .val (.int row), .val (.int at1), .val (.int set), .val (.ref b1), .val (.int (own_target row set s0 s1 s2 t0 t1 t2)), .unset] [(.int s2)])) _
          refine XS.iload X11.here hx rfl (hb hby at_240) rfl ?_
          show Steps p.tables e below (T11.setTop (mkF m 242 #[.val (.int p1), .val (.int p2), .val (.int p3), .val (.int p4), .val (.int p5), .val (.long q6), .second, .val (.int s0), .val (.int s1), .val (.int s2), .val (.int t0), .val (.int t1), .val (.int t2), .val (.int row), .val (.int at1), .val (.int set), .val (.ref b1), .val (.int (own_target row set s0 s1 s2 t0 t1 t2)), .unset] [(.int set), (.int s2)])) _
          by_cases hc242 : s2 = set
          · rw [hx6, if_pos hc242] at kz
            refine XS.icmpNo X11.here hx rfl (hb hby at_242) rfl (teq hc242).2 ?_
            show Steps p.tables e below (T11.setTop (mkF m 245 #[.val (.int p1), .val (.int p2), .val (.int p3), .val (.int p4), .val (.int p5), .val (.long q6), .second, .val (.int s0), .val (.int s1), .val (.int s2), .val (.int t0), .val (.int t1), .val (.int t2), .val (.int row), .val (.int at1), .val (.int set), .val (.ref b1), .val (.int (own_target row set s0 s1 s2 t0 t1 t2)), .unset] [])) _
            refine XS.iload X11.here hx rfl (hb hby at_245) rfl ?_
            show Steps p.tables e below (T11.setTop (mkF m 247 #[.val (.int p1), .val (.int p2), .val (.int p3), .val (.int p4), .val (.int p5), .val (.long q6), .second, .val (.int s0), .val (.int s1), .val (.int s2), .val (.int t0), .val (.int t1), .val (.int t2), .val (.int row), .val (.int at1), .val (.int set), .val (.ref b1), .val (.int (own_target row set s0 s1 s2 t0 t1 t2)), .unset] [(.int t2)])) _
            refine XS.goto X11.here hx rfl (pc0 := 247) (pc' := 251) rfl (hb hby at_247) (by decide) (by decide) ?_
            show Steps p.tables e below (T11.setTop (mkF m 251 #[.val (.int p1), .val (.int p2), .val (.int p3), .val (.int p4), .val (.int p5), .val (.long q6), .second, .val (.int s0), .val (.int s1), .val (.int s2), .val (.int t0), .val (.int t1), .val (.int t2), .val (.int row), .val (.int at1), .val (.int set), .val (.ref b1), .val (.int (own_target row set s0 s1 s2 t0 t1 t2)), .unset] [(.int t2)])) _
            refine XS.istore X11.here hx rfl (hb hby at_251) rfl (l' := #[.val (.int p1), .val (.int p2), .val (.int p3), .val (.int p4), .val (.int p5), .val (.long q6), .second, .val (.int s0), .val (.int s1), .val (.int s2), .val (.int t0), .val (.int t1), .val (.int t2), .val (.int row), .val (.int at1), .val (.int set), .val (.ref b1), .val (.int (own_target row set s0 s1 s2 t0 t1 t2)), .val (.int t2)]) rfl ?_
            show Steps p.tables e below (T11.setTop (mkF m 253 #[.val (.int p1), .val (.int p2), .val (.int p3), .val (.int p4), .val (.int p5), .val (.long q6), .second, .val (.int s0), .val (.int s1), .val (.int s2), .val (.int t0), .val (.int t1), .val (.int t2), .val (.int row), .val (.int at1), .val (.int set), .val (.ref b1), .val (.int (own_target row set s0 s1 s2 t0 t1 t2)), .val (.int t2)] [])) _
            refine XS.goto X11.here hx rfl (pc0 := 253) (pc' := 259) rfl (hb hby at_253) (by decide) (by decide) ?_
            exact kz
          · rw [hx6, if_neg hc242] at kz
            refine XS.icmpYes X11.here hx rfl (pc0 := 242) (pc' := 250) rfl (hb hby at_242) rfl (feq hc242).2 (by decide) (by decide) ?_
            show Steps p.tables e below (T11.setTop (mkF m 250 #[.val (.int p1), .val (.int p2), .val (.int p3), .val (.int p4), .val (.int p5), .val (.long q6), .second, .val (.int s0), .val (.int s1), .val (.int s2), .val (.int t0), .val (.int t1), .val (.int t2), .val (.int row), .val (.int at1), .val (.int set), .val (.ref b1), .val (.int (own_target row set s0 s1 s2 t0 t1 t2)), .unset] [])) _
            refine XS.iconst X11.here hx rfl (hb hby at_250) ?_
            show Steps p.tables e below (T11.setTop (mkF m 251 #[.val (.int p1), .val (.int p2), .val (.int p3), .val (.int p4), .val (.int p5), .val (.long q6), .second, .val (.int s0), .val (.int s1), .val (.int s2), .val (.int t0), .val (.int t1), .val (.int t2), .val (.int row), .val (.int at1), .val (.int set), .val (.ref b1), .val (.int (own_target row set s0 s1 s2 t0 t1 t2)), .unset] [(.int (-1 : Int32))])) _
            refine XS.istore X11.here hx rfl (hb hby at_251) rfl (l' := #[.val (.int p1), .val (.int p2), .val (.int p3), .val (.int p4), .val (.int p5), .val (.long q6), .second, .val (.int s0), .val (.int s1), .val (.int s2), .val (.int t0), .val (.int t1), .val (.int t2), .val (.int row), .val (.int at1), .val (.int set), .val (.ref b1), .val (.int (own_target row set s0 s1 s2 t0 t1 t2)), .val (.int (-1 : Int32))]) rfl ?_
            show Steps p.tables e below (T11.setTop (mkF m 253 #[.val (.int p1), .val (.int p2), .val (.int p3), .val (.int p4), .val (.int p5), .val (.long q6), .second, .val (.int s0), .val (.int s1), .val (.int s2), .val (.int t0), .val (.int t1), .val (.int t2), .val (.int row), .val (.int at1), .val (.int set), .val (.ref b1), .val (.int (own_target row set s0 s1 s2 t0 t1 t2)), .val (.int (-1 : Int32))] [])) _
            refine XS.goto X11.here hx rfl (pc0 := 253) (pc' := 259) rfl (hb hby at_253) (by decide) (by decide) ?_
            exact kz
        · rw [hx5, if_neg hc235] at kz
          refine XS.icmpYes X11.here hx rfl (pc0 := 235) (pc' := 256) rfl (hb hby at_235) rfl (feq hc235).2 (by decide) (by decide) ?_
          show Steps p.tables e below (T11.setTop (mkF m 256 #[.val (.int p1), .val (.int p2), .val (.int p3), .val (.int p4), .val (.int p5), .val (.long q6), .second, .val (.int s0), .val (.int s1), .val (.int s2), .val (.int t0), .val (.int t1), .val (.int t2), .val (.int row), .val (.int at1), .val (.int set), .val (.ref b1), .val (.int (own_target row set s0 s1 s2 t0 t1 t2)), .unset] [])) _
          refine XS.iconst X11.here hx rfl (hb hby at_256) ?_
          show Steps p.tables e below (T11.setTop (mkF m 257 #[.val (.int p1), .val (.int p2), .val (.int p3), .val (.int p4), .val (.int p5), .val (.long q6), .second, .val (.int s0), .val (.int s1), .val (.int s2), .val (.int t0), .val (.int t1), .val (.int t2), .val (.int row), .val (.int at1), .val (.int set), .val (.ref b1), .val (.int (own_target row set s0 s1 s2 t0 t1 t2)), .unset] [(.int (-1 : Int32))])) _
          refine XS.istore X11.here hx rfl (hb hby at_257) rfl (l' := #[.val (.int p1), .val (.int p2), .val (.int p3), .val (.int p4), .val (.int p5), .val (.long q6), .second, .val (.int s0), .val (.int s1), .val (.int s2), .val (.int t0), .val (.int t1), .val (.int t2), .val (.int row), .val (.int at1), .val (.int set), .val (.ref b1), .val (.int (own_target row set s0 s1 s2 t0 t1 t2)), .val (.int (-1 : Int32))]) rfl ?_
          exact kz
  refine own_go (A := T11.setTop (mkF m 271 #[.val (.int p1), .val (.int p2), .val (.int p3), .val (.int p4), .val (.int p5), .val (.long q6), .second, .val (.int s0), .val (.int s1), .val (.int s2), .val (.int t0), .val (.int t1), .val (.int t2), .val (.int row), .val (.int at1), .val (.int set), .val (.ref b1), .val (.int (own_target row set s0 s1 s2 t0 t1 t2)), .val (.int x1)] [(.int (1 : Int32))])) (fun _ kz => ?_) ?_
  · show Steps p.tables e below (T11.setTop (mkF m 259 #[.val (.int p1), .val (.int p2), .val (.int p3), .val (.int p4), .val (.int p5), .val (.long q6), .second, .val (.int s0), .val (.int s1), .val (.int s2), .val (.int t0), .val (.int t1), .val (.int t2), .val (.int row), .val (.int at1), .val (.int set), .val (.ref b1), .val (.int (own_target row set s0 s1 s2 t0 t1 t2)), .val (.int x1)] [])) _
    refine XS.iload X11.here hx rfl (hb hby at_259) rfl ?_
    show Steps p.tables e below (T11.setTop (mkF m 261 #[.val (.int p1), .val (.int p2), .val (.int p3), .val (.int p4), .val (.int p5), .val (.long q6), .second, .val (.int s0), .val (.int s1), .val (.int s2), .val (.int t0), .val (.int t1), .val (.int t2), .val (.int row), .val (.int at1), .val (.int set), .val (.ref b1), .val (.int (own_target row set s0 s1 s2 t0 t1 t2)), .val (.int x1)] [(.int (own_target row set s0 s1 s2 t0 t1 t2))])) _
    refine XS.iload X11.here hx rfl (hb hby at_261) rfl ?_
    show Steps p.tables e below (T11.setTop (mkF m 263 #[.val (.int p1), .val (.int p2), .val (.int p3), .val (.int p4), .val (.int p5), .val (.long q6), .second, .val (.int s0), .val (.int s1), .val (.int s2), .val (.int t0), .val (.int t1), .val (.int t2), .val (.int row), .val (.int at1), .val (.int set), .val (.ref b1), .val (.int (own_target row set s0 s1 s2 t0 t1 t2)), .val (.int x1)] [(.int x1), (.int (own_target row set s0 s1 s2 t0 t1 t2))])) _
    refine XS.icmpNo X11.here hx rfl (hb hby at_263) rfl (teq (by simp only [own_target, hx1, hx2, hx3, hx4, hx5, hx6])).2 ?_
    show Steps p.tables e below (T11.setTop (mkF m 266 #[.val (.int p1), .val (.int p2), .val (.int p3), .val (.int p4), .val (.int p5), .val (.long q6), .second, .val (.int s0), .val (.int s1), .val (.int s2), .val (.int t0), .val (.int t1), .val (.int t2), .val (.int row), .val (.int at1), .val (.int set), .val (.ref b1), .val (.int (own_target row set s0 s1 s2 t0 t1 t2)), .val (.int x1)] [])) _
    refine XS.iconst X11.here hx rfl (hb hby at_266) ?_
    show Steps p.tables e below (T11.setTop (mkF m 267 #[.val (.int p1), .val (.int p2), .val (.int p3), .val (.int p4), .val (.int p5), .val (.long q6), .second, .val (.int s0), .val (.int s1), .val (.int s2), .val (.int t0), .val (.int t1), .val (.int t2), .val (.int row), .val (.int at1), .val (.int set), .val (.ref b1), .val (.int (own_target row set s0 s1 s2 t0 t1 t2)), .val (.int x1)] [(.int (1 : Int32))])) _
    refine XS.goto X11.here hx rfl (pc0 := 267) (pc' := 271) rfl (hb hby at_267) (by decide) (by decide) ?_
    exact kz
  obtain ⟨fs, hrr, hrun, hended, hW, hsame⟩ := X11.leave (v := some (.int (1 : Int32))) (fun h => by rw [Bd.returns] at h; cases h)
  refine ⟨_, _, ?_, hrun, hended, _, _, rfl, ?_, ⟨_, rfl⟩, hW, hsame.mono (by decide) (by decide)⟩
  · show Steps p.tables e below (T11.setTop (mkF m 271 #[.val (.int p1), .val (.int p2), .val (.int p3), .val (.int p4), .val (.int p5), .val (.long q6), .second, .val (.int s0), .val (.int s1), .val (.int s2), .val (.int t0), .val (.int t1), .val (.int t2), .val (.int row), .val (.int at1), .val (.int set), .val (.ref b1), .val (.int (own_target row set s0 s1 s2 t0 t1 t2)), .val (.int x1)] [(.int (1 : Int32))])) _
    exact retN X11 hx (t := .boolean) Bd.returns (by simp) (hb hby at_271) hrr
  · show Qrm0 Z p1 p2 p3 p4 p5 q6 h0 n0 _ T11.heap _
    rw [e11]
    exact ⟨rfl, N11⟩
set_option maxRecDepth 65536 in
set_option maxHeartbeats 40000000 in
theorem comes_1 {Post : Tables → Env → Array Value → State → Outcome → State → Prop} (hpost : ∀ tb e args s v u, (limb_1_1.after args s (.returned v) u = true ∧ limb_1_2.after args s (.returned v) u = true ∧ True) → FrameEnd s (.returned v) u (Jvm.fieldLocs frame_1_writes args s ++ Jvm.arrayLocs frame_1_arrays args s ++ Jvm.staticLocs frame_1_statics s) 16 128 → Post tb e args s (.returned v) u) :
    ArmFor flags0 classFile x code maxLocals ret World_1 tables_1 room_1 Calls_1 rest_1 Pre_1 Post := by
  intro l hfl _ _ p e ha hc hk s m args below hf hA hF happ hP
  obtain ⟨hcalls, hrest, hpre⟩ := hP
  obtain ⟨-, -, -, hnamed, -, -, -, hat⟩ := (Spec.applies_iff hf).mp happ
  obtain ⟨hg, hn⟩ := and_e (Cond.before_iff.mp (show (Jvm.Cond.and given_1 narrow_1).before args s = true from hpre))
  obtain ⟨hcnt, hg1⟩ := and_e hg
  obtain ⟨ha0, hg2⟩ := and_e hg1
  obtain ⟨ha1, hg3⟩ := and_e hg2
  obtain ⟨ha2, hg4⟩ := and_e hg3
  obtain ⟨ha3, hg5⟩ := and_e hg4
  obtain ⟨ha4, hg6⟩ := and_e hg5
  obtain ⟨w0, w1, w2, w3, w4, w5, rfl⟩ : ∃ w0 w1 w2 w3 w4 w5 : Value, args = #[w0, w1, w2, w3, w4, w5] := by
    have hs : args.size = 6 := by simpa [Cond.value, given_1] using hcnt
    obtain ⟨L⟩ := args
    match L, hs with
    | [w0, w1, w2, w3, w4, w5], _ => exact ⟨w0, w1, w2, w3, w4, w5, rfl⟩
  have hw := fun d (hd : d ∈ tables_1) => atoms_spec (ws := Jvm.Cond.code x code maxLocals ret :: tables_1) hat d (List.mem_cons_of_mem _ hd)
  have hfit : Fit s := fun {y c} hc i hi => by
    obtain ⟨ha, rfl⟩ := Array.getElem?_eq_some_iff.mp hc
    have q := List.all_eq_true.mp ((Array.all_eq_true_iff_forall_mem.mp hF) _ (Array.getElem_mem ha)) i (List.mem_range.mpr hi)
    simpa [Array.getElem?_eq_getElem hi] using q
  obtain ⟨i0, ei0⟩ := is_v ha0
  obtain rfl : w0 = (.int i0) := Option.some.inj ei0
  obtain ⟨i1, ei1⟩ := is_v ha1
  obtain rfl : w1 = (.int i1) := Option.some.inj ei1
  obtain ⟨i2, ei2⟩ := is_v ha2
  obtain rfl : w2 = (.int i2) := Option.some.inj ei2
  obtain ⟨i3, ei3⟩ := is_v ha3
  obtain rfl : w3 = (.int i3) := Option.some.inj ei3
  obtain ⟨i4, ei4⟩ := is_v ha4
  obtain rfl : w4 = (.int i4) := Option.some.inj ei4
  obtain ⟨i5, ei5⟩ := isL_v hg6
  obtain rfl : w5 = (.long i5) := Option.some.inj ei5
  obtain ⟨n, o, h1, h2, h3, _, L, rfl, ⟨rfl, N⟩, hq⟩ := rm0 l s _ hw tables_1 i0 i1 i2 i3 i4 i5  s.heap s.heap.size (Nat.le_refl _)  p e ha hc hk s m _ below hf ((Spec.applies_iff_loose hf).mp happ).1 ⟨rfl, State.Warmed39.refl s, rfl⟩ trivial
  refine ⟨n, _, h1, h2, h3, hpost _ _ _ _ _ _ ⟨Cond.after_iff.mpr rfl, Cond.after_iff.mpr (eq_i res_at (Term.int_eval (1)) rfl), trivial⟩ ⟨hq.1, hq.2.1, (hq.2.2.sift fun y hy => Or.inr (N y hy)).mono (by decide) (by decide)⟩⟩
theorem main_1_1 : Claimed_1_1 := comes_1 fun _ _ _ _ _ _ h hF => ⟨h.1, hF⟩
theorem main_1_2 : Claimed_1_2 := comes_1 fun _ _ _ _ _ _ h hF => ⟨h.2.1, hF⟩
end Jvm.Pilot.@@N@@
namespace Jvm.Pilot.@@N@@
open Jvm Jvm.ClassFile Sem Op Lib Jvm.Free Jvm.Stand Jvm.Pilot.@@N@@.Jvm.D
/-! MADE BY PROGRAM (witnessworld.py) out of the Statement's table words and the real class files: 12 classes; the members and pool entries that the words name. The judged class is class 1, her method 1. -/
namespace start1
open Jvm.ClassFile
def u (s : String) : CpInfo := .utf8 (stringToUtf16 s)
/-- a pool by its gaps: so many unusable entries, then the entry; so many at the end -/
def gap : Nat → List CpInfo → List CpInfo
  | 0, r => r
  | n + 1, r => .unusable :: gap n r
def poolList (es : List (Nat × CpInfo)) (last : Nat) : List CpInfo := es.foldr (fun e r => gap e.1 (e.2 :: r)) (gap last [])
def pool (es : List (Nat × CpInfo)) (last : Nat) : Array CpInfo := ⟨poolList es last⟩
def fileOf (pool : Array CpInfo) (this : Nat) (attrs : Array Attribute := #[]) (ms : Array MethodInfo := #[]) (fl : Nat := 33) (sup : Nat := 0) (ifs : Array Nat := #[]) (fds : Array FieldInfo := #[]) : ClassFile where
  minorVersion := 0
  majorVersion := 65
  constantPool := pool
  accessFlags := fl
  thisClass := this
  superClass := sup
  interfaces := ifs
  fields := fds
  methods := ms
  attributes := attrs
def plain (name : String) (sup : Option ClassId) : Class where
  name := name
  kind := .ordinary
  loader := none
  accessFlags := 33
  super := sup
  interfaces := #[]
  cf := none
  fields := #[]
  methods := #[]
  instanceTypes := #[]
  staticTypes := #[]
  resolved := #[]
  callSites := []
  init := .initialized
  statics := none
  mirror := none

def pool0 : Array CpInfo := pool [(5, u "<init>"), (0, u "()V"), (1, .class_ 10), (1, u "java/lang/Object")] 113

def k0c0 : Code := { maxStack := 0, maxLocals := 1, code := object_method_1_code, exceptionTable := #[], attributes := #[] }
def k0m0 : Method := { name := "<init>", desc := "()V", sig := { parameters := [], returnType := none }, accessFlags := 1, code := some k0c0 }
/-- java/lang/Object -/
def k0 : Class := { plain "java/lang/Object" none with
  accessFlags := 33
  interfaces := #[]
  cf := some (fileOf pool0 8 #[] #[{ accessFlags := 1, nameIndex := 5, descriptorIndex := 6, attributes := #[] }] 33 0 #[] #[])
  fields := #[]
  methods := #[k0m0]
  instanceTypes := #[]
  staticTypes := #[]
  resolved := Array.replicate 124 none
  statics := none }

def pool1 : Array CpInfo := pool [(2, .class_ 4), (1, u "java/lang/Object"), (0, u "<init>"), (0, u "()V"), (0, .integer 2147483647), (0, .class_ 9), (0, u "com/example/bare_words/barewords/KeyReads$Targets"), (0, .methodref 8 11), (0, .nameAndType 5 12), (0, u "([I[I)V"), (0, .methodref 8 14), (0, .nameAndType 15 16), (0, u "target"), (0, u "(II)I"), (0, .class_ 18), (0, u "com/example/bare_words/barewords/TargetsTargetPinLaw"), (2, u "law"), (0, u "(IIIIIJ)Z")] 7

def k1m0 : Method := { name := "<init>", desc := "()V", sig := { parameters := [], returnType := none }, accessFlags := 1, code := none }
def k1c1 : Code := { maxStack := 7, maxLocals := 19, code := code, exceptionTable := #[], attributes := #[] }
def k1m1 : Method := { name := "law", desc := "(IIIIIJ)Z", sig := { parameters := [.int, .int, .int, .int, .int, .long], returnType := some .boolean }, accessFlags := 9, code := some k1c1 }
/-- com/example/bare_words/barewords/TargetsTargetPinLaw -/
def k1 : Class := { plain "com/example/bare_words/barewords/TargetsTargetPinLaw" (some 0) with
  accessFlags := 49
  interfaces := #[]
  cf := some (fileOf pool1 17 #[] #[{ accessFlags := 1, nameIndex := 5, descriptorIndex := 6, attributes := #[] }, { accessFlags := 9, nameIndex := 21, descriptorIndex := 22, attributes := #[] }] 49 2 #[] #[])
  fields := #[]
  methods := #[k1m0, k1m1]
  instanceTypes := #[]
  staticTypes := #[]
  resolved := Array.replicate 30 none
  statics := none }

def pool2 : Array CpInfo := pool [(1, .methodref 2 3), (0, .class_ 4), (0, .nameAndType 5 6), (0, u "java/lang/Object"), (0, u "<init>"), (0, u "()V"), (0, .class_ 8), (0, u "java/util/HashMap"), (0, .methodref 7 3), (0, .fieldref 11 12), (0, .class_ 13), (0, .nameAndType 14 15), (0, u "com/example/bare_words/barewords/KeyReads$Targets"), (0, u "referencing"), (0, u "Ljava/util/Map;"), (0, .fieldref 11 17), (0, .nameAndType 18 19), (0, u "sets"), (0, u "[I"), (0, .fieldref 11 21), (0, .nameAndType 22 19), (0, u "rows"), (51, .class_ 76), (1, u "com/example/bare_words/barewords/KeyReads"), (4, u "([I[I)V"), (4, u "target"), (0, u "(II)I")] 31

def k2c0 : Code := { maxStack := 3, maxLocals := 3, code := prog_44_method_1_code, exceptionTable := #[], attributes := #[] }
def k2m0 : Method := { name := "<init>", desc := "([I[I)V", sig := { parameters := [(.array .int), (.array .int)], returnType := none }, accessFlags := 0, code := some k2c0 }
def k2c1 : Code := { maxStack := 2, maxLocals := 3, code := prog_44_method_3_code, exceptionTable := #[], attributes := #[] }
def k2m1 : Method := { name := "target", desc := "(II)I", sig := { parameters := [.int, .int], returnType := some .int }, accessFlags := 0, code := some k2c1 }
/-- com/example/bare_words/barewords/KeyReads$Targets -/
def k2 : Class := { plain "com/example/bare_words/barewords/KeyReads$Targets" (some 0) with
  accessFlags := 48
  interfaces := #[]
  cf := some (fileOf pool2 11 #[.nestHost 74] #[{ accessFlags := 0, nameIndex := 5, descriptorIndex := 81, attributes := #[] }, { accessFlags := 0, nameIndex := 86, descriptorIndex := 87, attributes := #[] }] 48 2 #[] #[{ accessFlags := 18, nameIndex := 18, descriptorIndex := 19, attributes := #[] }, { accessFlags := 18, nameIndex := 22, descriptorIndex := 19, attributes := #[] }, { accessFlags := 18, nameIndex := 14, descriptorIndex := 15, attributes := #[] }])
  fields := #[{ name := "sets", type := (.array .int), accessFlags := 18, slot := 0, constantValue := 0 }, { name := "rows", type := (.array .int), accessFlags := 18, slot := 1, constantValue := 0 }, { name := "referencing", type := (.object "java/util/Map"), accessFlags := 18, slot := 2, constantValue := 0 }]
  methods := #[k2m0, k2m1]
  instanceTypes := #[(.array .int), (.array .int), (.object "java/util/Map")]
  staticTypes := #[]
  resolved := Array.replicate 119 none
  statics := none }

def pool3 : Array CpInfo := pool [(2, .class_ 4), (1, u "java/util/Map"), (31, .class_ 37), (0, u "java/util/Map$Entry"), (55, .class_ 94), (0, u "java/lang/Object")] 168

/-- java/util/Map -/
def k3 : Class := { plain "java/util/Map" (some 0) with
  accessFlags := 1537
  interfaces := #[]
  cf := some (fileOf pool3 2 #[.nestMembers #[36]] #[] 1537 93 #[] #[])
  fields := #[]
  methods := #[]
  instanceTypes := #[]
  staticTypes := #[]
  resolved := Array.replicate 263 none
  statics := none }

def pool4 : Array CpInfo := pool [(1, .methodref 2 3), (0, .class_ 4), (0, .nameAndType 5 6), (0, u "java/lang/Object"), (0, u "<init>"), (0, u "()V"), (1, .class_ 10), (1, u "java/util/AbstractMap"), (42, .class_ 54), (0, u "java/util/Map"), (9, u "keySet"), (0, u "Ljava/util/Set;"), (0, .class_ 67), (0, u "java/util/AbstractMap$1"), (5, u "values"), (0, u "Ljava/util/Collection;"), (0, .class_ 76), (0, u "java/util/AbstractMap$2"), (104, .class_ 182), (0, u "java/util/AbstractMap$ViewCollection"), (0, .class_ 184), (0, u "java/util/AbstractMap$SimpleImmutableEntry"), (0, .class_ 186), (0, u "java/util/AbstractMap$SimpleEntry"), (0, .class_ 188), (0, u "java/util/AbstractMap$2$1"), (0, .class_ 190), (0, u "java/util/AbstractMap$1$1")] 5

def k4c0 : Code := { maxStack := 1, maxLocals := 1, code := jdk_71_method_1_code, exceptionTable := #[], attributes := #[] }
def k4m0 : Method := { name := "<init>", desc := "()V", sig := { parameters := [], returnType := none }, accessFlags := 4, code := some k4c0 }
/-- java/util/AbstractMap -/
def k4 : Class := { plain "java/util/AbstractMap" (some 0) with
  accessFlags := 1057
  interfaces := #[3]
  cf := some (fileOf pool4 8 #[.nestMembers #[181, 183, 185, 75, 187, 66, 189]] #[{ accessFlags := 4, nameIndex := 5, descriptorIndex := 6, attributes := #[] }] 1057 2 #[53] #[{ accessFlags := 128, nameIndex := 64, descriptorIndex := 65, attributes := #[] }, { accessFlags := 128, nameIndex := 73, descriptorIndex := 74, attributes := #[] }])
  fields := #[{ name := "keySet", type := (.object "java/util/Set"), accessFlags := 128, slot := 0, constantValue := 0 }, { name := "values", type := (.object "java/util/Collection"), accessFlags := 128, slot := 1, constantValue := 0 }]
  methods := #[k4m0]
  instanceTypes := #[(.object "java/util/Set"), (.object "java/util/Collection")]
  staticTypes := #[]
  resolved := Array.replicate 196 none
  statics := none }

def pool5 : Array CpInfo := pool [(1, .class_ 2), (0, u "java/lang/Cloneable"), (0, .class_ 4), (0, u "java/lang/Object")] 2

/-- java/lang/Cloneable -/
def k5 : Class := { plain "java/lang/Cloneable" (some 0) with
  accessFlags := 1537
  interfaces := #[]
  cf := some (fileOf pool5 1 #[] #[] 1537 3 #[] #[])
  fields := #[]
  methods := #[]
  instanceTypes := #[]
  staticTypes := #[]
  resolved := Array.replicate 7 none
  statics := none }

def pool6 : Array CpInfo := pool [(1, .class_ 2), (0, u "java/io/Serializable"), (0, .class_ 4), (0, u "java/lang/Object")] 2

/-- java/io/Serializable -/
def k6 : Class := { plain "java/io/Serializable" (some 0) with
  accessFlags := 1537
  interfaces := #[]
  cf := some (fileOf pool6 1 #[] #[] 1537 3 #[] #[])
  fields := #[]
  methods := #[]
  instanceTypes := #[]
  staticTypes := #[]
  resolved := Array.replicate 7 none
  statics := none }

def pool7 : Array CpInfo := pool [(40, .class_ 41), (0, u "java/util/HashMap"), (1, .methodref 44 45), (0, .class_ 46), (0, .nameAndType 47 48), (0, u "java/util/AbstractMap"), (0, u "<init>"), (0, u "()V"), (32, .fieldref 40 82), (0, .nameAndType 83 84), (0, u "loadFactor"), (0, u "F"), (5, u "threshold"), (0, u "I"), (0, .float 1061158912), (8, .class_ 103), (1, u "java/util/Map"), (0, u "size"), (2, u "table"), (0, u "[Ljava/util/HashMap$Node;"), (14, u "entrySet"), (39, .class_ 165), (1, u "java/util/HashMap$Node"), (14, .class_ 181), (0, u "java/util/HashMap$TreeNode"), (22, u "modCount"), (37, u "Ljava/util/Set;"), (0, .class_ 244), (0, u "java/util/HashMap$KeySet"), (18, .class_ 264), (0, u "java/util/HashMap$Values"), (3, .class_ 269), (0, u "java/util/HashMap$EntrySet"), (76, .class_ 348), (1, u "java/util/HashMap$UnsafeHolder"), (43, .class_ 393), (0, u "java/lang/Cloneable"), (0, .class_ 395), (0, u "java/io/Serializable"), (0, u "serialVersionUID"), (0, u "J"), (3, u "DEFAULT_INITIAL_CAPACITY"), (1, u "MAXIMUM_CAPACITY"), (0, u "DEFAULT_LOAD_FACTOR"), (0, u "TREEIFY_THRESHOLD"), (1, u "UNTREEIFY_THRESHOLD"), (1, u "MIN_TREEIFY_CAPACITY"), (186, .class_ 597), (0, u "java/util/HashMap$EntrySpliterator"), (0, .class_ 599), (0, u "java/util/HashMap$ValueSpliterator"), (0, .class_ 601), (0, u "java/util/HashMap$KeySpliterator"), (0, .class_ 603), (0, u "java/util/HashMap$HashMapSpliterator"), (0, .class_ 605), (0, u "java/util/HashMap$EntryIterator"), (0, .class_ 607), (0, u "java/util/HashMap$ValueIterator"), (0, .class_ 609), (0, u "java/util/HashMap$KeyIterator"), (0, .class_ 611), (0, u "java/util/HashMap$HashIterator")] 17

def k7c0 : Code := { maxStack := 2, maxLocals := 1, code := jdk_69_method_7_code, exceptionTable := #[], attributes := #[] }
def k7m0 : Method := { name := "<init>", desc := "()V", sig := { parameters := [], returnType := none }, accessFlags := 1, code := some k7c0 }
/-- java/util/HashMap -/
def k7 : Class := { plain "java/util/HashMap" (some 4) with
  accessFlags := 33
  interfaces := #[3, 5, 6]
  cf := some (fileOf pool7 40 #[.nestMembers #[180, 596, 598, 600, 602, 604, 606, 608, 610, 346, 268, 263, 243, 163]] #[{ accessFlags := 1, nameIndex := 47, descriptorIndex := 48, attributes := #[] }] 33 44 #[101, 392, 394] #[{ accessFlags := 26, nameIndex := 396, descriptorIndex := 397, attributes := #[] }, { accessFlags := 24, nameIndex := 401, descriptorIndex := 91, attributes := #[] }, { accessFlags := 24, nameIndex := 403, descriptorIndex := 91, attributes := #[] }, { accessFlags := 24, nameIndex := 404, descriptorIndex := 84, attributes := #[] }, { accessFlags := 24, nameIndex := 405, descriptorIndex := 91, attributes := #[] }, { accessFlags := 24, nameIndex := 407, descriptorIndex := 91, attributes := #[] }, { accessFlags := 24, nameIndex := 409, descriptorIndex := 91, attributes := #[] }, { accessFlags := 128, nameIndex := 107, descriptorIndex := 108, attributes := #[] }, { accessFlags := 128, nameIndex := 123, descriptorIndex := 242, attributes := #[] }, { accessFlags := 128, nameIndex := 104, descriptorIndex := 91, attributes := #[] }, { accessFlags := 128, nameIndex := 204, descriptorIndex := 91, attributes := #[] }, { accessFlags := 0, nameIndex := 90, descriptorIndex := 91, attributes := #[] }, { accessFlags := 16, nameIndex := 83, descriptorIndex := 84, attributes := #[] }])
  fields := #[{ name := "serialVersionUID", type := .long, accessFlags := 26, slot := 0, constantValue := 0 }, { name := "DEFAULT_INITIAL_CAPACITY", type := .int, accessFlags := 24, slot := 1, constantValue := 0 }, { name := "MAXIMUM_CAPACITY", type := .int, accessFlags := 24, slot := 2, constantValue := 0 }, { name := "DEFAULT_LOAD_FACTOR", type := .float, accessFlags := 24, slot := 3, constantValue := 0 }, { name := "TREEIFY_THRESHOLD", type := .int, accessFlags := 24, slot := 4, constantValue := 0 }, { name := "UNTREEIFY_THRESHOLD", type := .int, accessFlags := 24, slot := 5, constantValue := 0 }, { name := "MIN_TREEIFY_CAPACITY", type := .int, accessFlags := 24, slot := 6, constantValue := 0 }, { name := "table", type := (.array (.object "java/util/HashMap$Node")), accessFlags := 128, slot := 2, constantValue := 0 }, { name := "entrySet", type := (.object "java/util/Set"), accessFlags := 128, slot := 3, constantValue := 0 }, { name := "size", type := .int, accessFlags := 128, slot := 4, constantValue := 0 }, { name := "modCount", type := .int, accessFlags := 128, slot := 5, constantValue := 0 }, { name := "threshold", type := .int, accessFlags := 0, slot := 6, constantValue := 0 }, { name := "loadFactor", type := .float, accessFlags := 16, slot := 7, constantValue := 0 }]
  methods := #[k7m0]
  instanceTypes := #[(.object "java/util/Set"), (.object "java/util/Collection"), (.array (.object "java/util/HashMap$Node")), (.object "java/util/Set"), .int, .int, .int, .float]
  staticTypes := #[.long, .int, .int, .float, .int, .int, .int]
  resolved := Array.replicate 629 none
  statics := none }

/-- the primitive byte -/
def k8 : Class := { plain "byte" none with kind := .primitive 'B', accessFlags := 0x411 }
/-- [B -/
def k9 : Class := { plain "[B" (some 0) with kind := .array 8 .byte, interfaces := #[5, 6], accessFlags := 1041 }

/-- the primitive int -/
def k10 : Class := { plain "int" none with kind := .primitive 'I', accessFlags := 0x411 }
/-- [I -/
def k11 : Class := { plain "[I" (some 0) with kind := .array 10 .int, interfaces := #[5, 6], accessFlags := 1041 }

def heap : Heap := #[]
def classes : Array Class := #[k0, k1, k2, k3, k4, k5, k6, k7, k8, k9, k10, k11]
def interned : List (Array UInt16 × Addr) := []
def slotsUsed : Nat := 0
def theMethod : MethodId := ⟨1, 1⟩
def args0 : Array Value := #[.int 5, .int 5, .int 5, .int 5, .int 5, .long 7]
def aboutOver (below : List Frame) : State where
  vm := { classes := classes, interned := interned.toArray }
  heap := heap
  slotsUsed := slotsUsed
  threads := #[{ frames := .invoking theMethod args0 :: below }]
def below0 : List Frame := [.native { method := ⟨0, 0⟩, args := #[] }]
def about1 : State := aboutOver below0
def p0 : Program := .bare "" "" ""
def e0 : Env := launch0.env 0 0 0
theorem w_frames : about1.frames = Frame.invoking theMethod args0 :: below0 := rfl
set_option maxRecDepth 65536 in
theorem w_args : argsFit about1.vm theMethod args0 = true := by decide +kernel
set_option maxRecDepth 65536 in
theorem w_heap : heapFits about1 = true := by decide +kernel
set_option maxRecDepth 65536 in
theorem w_runnable : about1.curStatus? = some .runnable := by decide +kernel
set_option maxRecDepth 65536 in
theorem w_alone : about1.alone = true := by decide +kernel
set_option maxRecDepth 65536 in
theorem w_named : about1.methodNamed? x = some theMethod := by decide +kernel
set_option maxRecDepth 65536 in
theorem w_hears : about1.hears theMethod below0 = true := by decide +kernel
set_option maxRecDepth 65536 in
theorem w_ripe : about1.ripe theMethod args0 below0 = true := by decide +kernel
theorem w_running : about1.status = .running := rfl
set_option maxRecDepth 65536 in
theorem w_room : about1.hasRoom e0.platform room_1 = true :=
  launch0.hasRoom_least _ room_1 (by decide +kernel) (by decide +kernel) (by decide +kernel) (by decide +kernel) (by decide +kernel) (by decide +kernel)
theorem allAtoms_all (ts : List Jvm.Cond) (a : Array Jvm.Value) (st : Jvm.State) : (allAtoms ts).before a st = ts.all (fun c => c.before a st) := by
  induction ts with
  | nil => rfl
  | cons c t ih =>
    show (Jvm.Cond.and c (allAtoms t)).before a st = _
    rw [Jvm.Cond.before_and, ih, List.all_cons]
def words1 : List Jvm.Cond := Jvm.Cond.code x code maxLocals ret :: tables_1
/-- a 'code' word, met by the world's own term for the bytes: nothing is compared byte by byte -/
theorem code_word {y : MethodName} {bytes : ByteArray} {mx : Nat} {rt : Option FieldType} {a : Array Value} {s : State} {m : MethodId} {meth : Method} {c : Code} (h1 : s.methodNamed? y = some m) (h2 : s.vm.method? m = some meth) (h3 : meth.code = some c) (h4 : c.code = bytes)
    (h5 : (c.maxLocals == mx && c.exceptionTable.isEmpty && decide (c.maxStack ≤ mostOperands) && decide (meth.sig.returnType = rt) && !meth.locks && decide (parseMethodDescriptor y.desc = some meth.sig)) = true) : (Jvm.Cond.code y bytes mx rt).before a s = true := by
  simp only [Bool.and_eq_true, beq_iff_eq, Bool.not_eq_true', decide_eq_true_eq] at h5
  obtain ⟨⟨⟨⟨⟨g1, g2⟩, g3⟩, g4⟩, g5⟩, g6⟩ := h5
  simp [Cond.before, Cond.holds, Cond.value, h1, h2, h3, h4, g1, g2, g3, g4, g5, g6]
def isCode : Jvm.Cond → Bool
  | .code _ _ _ _ => true
  | _ => false
theorem all_split {L : List Jvm.Cond} {P : Jvm.Cond → Bool} (h1 : L.all (fun c => isCode c || P c) = true) (h2 : ∀ c ∈ L.filter isCode, P c = true) : L.all P = true := by
  refine List.all_eq_true.mpr fun c hc => ?_
  have h := List.all_eq_true.mp h1 c hc
  rcases Bool.eq_false_or_eq_true (isCode c) with hi | hi
  · exact h2 c (List.mem_filter.mpr ⟨hc, hi⟩)
  · simpa [hi] using h
set_option maxRecDepth 65536 in
theorem w_c0 : (Jvm.Cond.code x code maxLocals ret).before args0 about1 = true := code_word (m := ⟨1, 1⟩) (meth := k1m1) (c := k1c1) (by decide +kernel) rfl rfl rfl (by decide +kernel)
set_option maxRecDepth 65536 in
theorem w_c1 : (Jvm.Cond.code ({ cls := "com/example/bare_words/barewords/KeyReads$Targets", name := "<init>", desc := "([I[I)V" } : Jvm.MethodName) prog_44_method_1_code (3 : Nat) (Option.none : Option Jvm.ClassFile.FieldType)).before args0 about1 = true := code_word (m := ⟨2, 0⟩) (meth := k2m0) (c := k2c0) (by decide +kernel) rfl rfl rfl (by decide +kernel)
set_option maxRecDepth 65536 in
theorem w_c2 : (Jvm.Cond.code ({ cls := "java/lang/Object", name := "<init>", desc := "()V" } : Jvm.MethodName) object_method_1_code (1 : Nat) (Option.none : Option Jvm.ClassFile.FieldType)).before args0 about1 = true := code_word (m := ⟨0, 0⟩) (meth := k0m0) (c := k0c0) (by decide +kernel) rfl rfl rfl (by decide +kernel)
set_option maxRecDepth 65536 in
theorem w_c3 : (Jvm.Cond.code ({ cls := "java/util/HashMap", name := "<init>", desc := "()V" } : Jvm.MethodName) jdk_69_method_7_code (1 : Nat) (Option.none : Option Jvm.ClassFile.FieldType)).before args0 about1 = true := code_word (m := ⟨7, 0⟩) (meth := k7m0) (c := k7c0) (by decide +kernel) rfl rfl rfl (by decide +kernel)
set_option maxRecDepth 65536 in
theorem w_c4 : (Jvm.Cond.code ({ cls := "java/util/AbstractMap", name := "<init>", desc := "()V" } : Jvm.MethodName) jdk_71_method_1_code (1 : Nat) (Option.none : Option Jvm.ClassFile.FieldType)).before args0 about1 = true := code_word (m := ⟨4, 0⟩) (meth := k4m0) (c := k4c0) (by decide +kernel) rfl rfl rfl (by decide +kernel)
set_option maxRecDepth 65536 in
theorem w_c5 : (Jvm.Cond.code ({ cls := "com/example/bare_words/barewords/KeyReads$Targets", name := "target", desc := "(II)I" } : Jvm.MethodName) prog_44_method_3_code (3 : Nat) (Option.some Jvm.ClassFile.FieldType.int)).before args0 about1 = true := code_word (m := ⟨2, 1⟩) (meth := k2m1) (c := k2c1) (by decide +kernel) rfl rfl rfl (by decide +kernel)
def codes1 : List Jvm.Cond := [Jvm.Cond.code x code maxLocals ret, Jvm.Cond.code ({ cls := "com/example/bare_words/barewords/KeyReads$Targets", name := "<init>", desc := "([I[I)V" } : Jvm.MethodName) prog_44_method_1_code (3 : Nat) (Option.none : Option Jvm.ClassFile.FieldType), Jvm.Cond.code ({ cls := "java/lang/Object", name := "<init>", desc := "()V" } : Jvm.MethodName) object_method_1_code (1 : Nat) (Option.none : Option Jvm.ClassFile.FieldType), Jvm.Cond.code ({ cls := "java/util/HashMap", name := "<init>", desc := "()V" } : Jvm.MethodName) jdk_69_method_7_code (1 : Nat) (Option.none : Option Jvm.ClassFile.FieldType), Jvm.Cond.code ({ cls := "java/util/AbstractMap", name := "<init>", desc := "()V" } : Jvm.MethodName) jdk_71_method_1_code (1 : Nat) (Option.none : Option Jvm.ClassFile.FieldType), Jvm.Cond.code ({ cls := "com/example/bare_words/barewords/KeyReads$Targets", name := "target", desc := "(II)I" } : Jvm.MethodName) prog_44_method_3_code (3 : Nat) (Option.some Jvm.ClassFile.FieldType.int)]
set_option maxRecDepth 65536 in
theorem codes_eq : words1.filter isCode = codes1 := rfl
theorem w_codes : ∀ c ∈ words1.filter isCode, c.before args0 about1 = true := by
  rw [codes_eq]
  intro c hc
  simp only [codes1, List.mem_cons, List.not_mem_nil, or_false] at hc
  rcases hc with rfl | rfl | rfl | rfl | rfl | rfl
  · exact w_c0
  · exact w_c1
  · exact w_c2
  · exact w_c3
  · exact w_c4
  · exact w_c5
set_option maxRecDepth 65536 in
theorem w_t1 : (words1.take 24).all (fun c => isCode c || c.before args0 about1) = true := by decide +kernel
set_option maxRecDepth 65536 in
theorem w_t2 : (words1.drop 24).all (fun c => isCode c || c.before args0 about1) = true := by decide +kernel
theorem w_tables : (allAtoms (Jvm.Cond.code x code maxLocals ret :: tables_1)).before args0 about1 = true := by
  rw [allAtoms_all]
  show words1.all (fun c => c.before args0 about1) = true
  refine all_split ?_ w_codes
  rw [← List.take_append_drop 24 words1, List.all_append, w_t1, w_t2]
  rfl
set_option maxRecDepth 65536 in
theorem w_case : (Jvm.Cond.and given_1 narrow_1).before args0 about1 = true := by decide +kernel
theorem w_applies : (headSpec (Jvm.Cond.code x code maxLocals ret :: tables_1) room_1).applies x e0.platform about1 = true :=
  (Spec.applies_iff w_frames).mpr ⟨w_running, w_runnable, w_alone, w_named, w_hears, w_ripe, w_room, w_tables⟩
theorem atStart : AtStart classFile x code maxLocals ret World_1 tables_1 room_1 Calls_1 rest_1 Pre_1 launch0 p0 e0 about1 theMethod args0 below0 :=
  ⟨lists_1, trivial, launch0.admits_env _ _ _, launch0.least_env, fairChoices_fair.cas, fairChoices_fair.clock, w_frames, w_args, w_heap, w_applies, trivial, trivial, w_case⟩
end start1
theorem witness_1 : WitnessClaimed_1 := ⟨start1.p0, start1.e0, start1.about1, start1.theMethod, start1.args0, start1.below0, start1.atStart⟩
end Jvm.Pilot.@@N@@
