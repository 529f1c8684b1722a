import JvmDerived
import JvmDerived.Pilot.@@N@@Statement
import JvmDerived.Pilot.@@N@@Code
set_option linter.unusedVariables false
set_option linter.unusedSimpArgs false
namespace Jvm.RoadKit
open Sem ClassFile Op Lib Jvm.Stand Jvm.Free Jvm.LawKit
section New
variable {p : Program} {l : Launch} {e : Env} {R : Room} {s : State} {m : MethodId} {args : Array Value} {below : List Frame} {meth : Method} {c : Code} {T : State} {locs : List Loc} {cells slots : Nat}
theorem retI (X : Stand p l e R s m args below meth c T locs cells slots) (hx : p.tables.exec = Jvm.exec) {pc : Nat} {Ls : Array Slot} {z : Int32} {rest : List Value} (hret : meth.sig.returnType = some .int) (hd : decode c.code pc = .ok (.ireturn, 1)) {fs : List Frame}
    (hl : ∀ (f : JFrame) (acts : List Action), f.method = m → f.locked = none → f.entered = [] → (doReturn e (T.setTop f) acts (some (.int z))).1 = T.setFrames fs) : Steps p.tables e below (T.setTop (mkF m pc Ls (.int z :: rest))) (T.setFrames fs) := by
  have hm' : T.vm.method? m = some meth := X.method'
  have hn : narrow .int (.int z) = .int z := rfl
  show Steps p.tables e below (T.setTop { method := m, pc := pc, locals := Ls, stack := _ :: rest, locked := none }) _
  jvm_step X.here [X.here.top, hx, hd, hm', hret, hn]
  first | (intro acts; rw [hl _ acts rfl rfl rfl]) | rw [hl _ _ rfl rfl rfl]
  exact Steps.refl _
end New
end Jvm.RoadKit
namespace Jvm.Pilot.@@N@@
open Jvm Jvm.ClassFile Sem Op Lib Jvm.Free Jvm.Stand Jvm.LawKit Jvm.RoadKit Bundle Jvm.Free.Fl Jvm.Pilot.@@N@@.Jvm.D
/-- the same for a part of a walk that comes to the frame F -/
theorem own_via {α : Type} {tb : Tables} {e : Env} {below : List Frame} {A B : State} {P : State → α → Prop} {F : α → JFrame} (h : ∀ t, Steps tb e below A t → Steps tb e below B t) (k : ∃ (T : State) (x : α), P T x ∧ ∀ t, Steps tb e below (T.setTop (F x)) t → Steps tb e below A t) : ∃ (T : State) (x : α), P T x ∧ ∀ t, Steps tb e below (T.setTop (F x)) t → Steps tb e below B t := by
  obtain ⟨T, x, k1, k2⟩ := k
  exact ⟨T, x, k1, fun t q => h t (k2 t q)⟩
theorem own_ns {Z : State} {h : Heap} {a : Addr} {C : String} (F : Exa Z h a C) : ∀ c : Cell, h[a]? = some c → c.vm.isStatics = false := fun c hc => by
  obtain ⟨c1, k, h1, -, -, h4, -⟩ := F
  cases hc.symm.trans h1
  exact h4
theorem own_nsA {Z : State} {h : Heap} {a : Addr} {k : ClassId} {ty : FieldType} {z : Int32} {vs : List Value} {dv : Value} (F : Arv Z h a k ty z vs dv) : ∀ c : Cell, h[a]? = some c → c.vm.isStatics = false := fun c hc => by
  obtain ⟨c1, A, -⟩ := F
  cases hc.symm.trans A.1
  exact A.plain
theorem own_nsF {Z : State} {h : Heap} {a : Addr} {C n d : String} {v : Value} (F : Fld Z h a C n d v) : ∀ c : Cell, h[a]? = some c → c.vm.isStatics = false := fun c hc => by
  obtain ⟨c1, _, _, _, _, h1, _, _, _, h5, _⟩ := F
  cases hc.symm.trans h1
  exact h5
theorem own_neA {Z : State} {a0 : Array Value} {h : Heap} {a b : Addr} {C : String} {n : Nat} {k : ClassId} {ty : FieldType} {z : Int32} {vs : List Value} {dv : Value} (F : Exa Z h a C) (wi : (Cond.instantiable C n).before a0 Z = true) (G : Arv Z h b k ty z vs dv) : a ≠ b := by
  obtain ⟨c1, A, -⟩ := G
  exact ne_arr F wi A
theorem own_staKeep {Z : State} {h h' : Heap} {C n d : String} {v : Value} {ws : List Addr} (F : Sta Z h C n d v) (K : Keep h h' ws) (q : ∀ x ∈ ws, ∀ c : Cell, h[x]? = some c → c.vm.isStatics = false) : Sta Z h' C n d v := by
  obtain ⟨cf, i, k, f, st, cell, h1, h2, h3, h4, h5, h6, h7⟩ := F
  exact ⟨cf, i, k, f, st, cell, h1, h2, h3, h4, K.2.1 st cell h5 (fun hm => by rw [q st hm cell h5] at h6; cases h6), h6, h7⟩
/-- a byte made a byte again -/
theorem own_nb (y : Int32) : y.toInt8.toInt32.toInt8.toInt32 = y.toInt8.toInt32 := by 
  have h1 := c_i2b y
  have h2 := c_i2b (y.toInt8.toInt32)
  apply Int32.toInt_inj.mp
  omega
theorem own_nbn (y : Int32) : nar .byte (y.toInt8.toInt32) = y.toInt8.toInt32 := own_nb y
/-- the walk goes on from A where it comes from B to A -/
theorem own_go {tb : Tables} {e : Env} {below : List Frame} {A B : State} {P : State → Outcome → Prop} (h : ∀ t, Steps tb e below A t → Steps tb e below B t) (k : ∃ t o, Steps tb e below A t ∧ P t o) : ∃ t o, Steps tb e below B t ∧ P t o := by
  obtain ⟨t, o, k1, k2⟩ := k
  exact ⟨t, o, h t k1, k2⟩
theorem own_pd0 : parseMethodDescriptor "([DIID)V" = some ⟨[(.array .double), .int, .int, .double], none⟩ := by decide +kernel
theorem own_pd1 : parseMethodDescriptor "(DIIID)D" = some ⟨[.double, .int, .int, .int, .double], some .double⟩ := by decide +kernel
def own_exp (x : UInt64) (i o ln : Int32) (y : UInt64) : UInt64 := if i < o then x else if i < o + ln then (if cmpValue (FP.dcmp x y) .g < (0 : Int32) then FP.dconst0 else x) else x
theorem own_noNaN (a : Int32) (i o ln : Int32) (y : UInt64) : NoNaN64 (own_exp (FP.i2d a) i o ln y) := by
  have h1 : NoNaN64 (FP.i2d a) := nn_w (i2d_w a)
  have h2 : NoNaN64 FP.dconst0 := nn_w (a := 0) l2d_zero.symm
  unfold own_exp
  split
  · exact h1
  · split
    · split
      · exact h2
      · exact h1
    · exact h1
theorem own_o {p : Int32} (o : Int32) (ho : o = p &&& (3 : Int32)) : 0 ≤ o.toInt ∧ o.toInt < 4 := by
  have h1 := c_mask p (3 : Int32) 2 (by decide) (by decide)
  rw [← ho] at h1
  omega
theorem own_nz {p : Int32} (o : Int32) (ho : o = p &&& (3 : Int32)) : (5 : Int32) - o ≠ 0 := fun h => by
  have h1 := own_o o ho
  have h2 := c_isub (5 : Int32) o
  rw [h] at h2
  have e5 : (5 : Int32).toInt = 5 := by decide
  have e0 : (0 : Int32).toInt = 0 := by decide
  omega
theorem own_ol {p : Int32} (o ln : Int32) (ho : o = p &&& (3 : Int32)) (hl : ln = (((p.toUInt32 >>> ((2 : Int32) &&& 31).toUInt32).toInt32) &&& (7 : Int32)) % ((5 : Int32) - o)) : (o = (0 : Int32) ∧ ln = (0 : Int32)) ∨ (o = (0 : Int32) ∧ ln = (1 : Int32)) ∨ (o = (0 : Int32) ∧ ln = (2 : Int32)) ∨ (o = (0 : Int32) ∧ ln = (3 : Int32)) ∨ (o = (0 : Int32) ∧ ln = (4 : Int32)) ∨ (o = (1 : Int32) ∧ ln = (0 : Int32)) ∨ (o = (1 : Int32) ∧ ln = (1 : Int32)) ∨ (o = (1 : Int32) ∧ ln = (2 : Int32)) ∨ (o = (1 : Int32) ∧ ln = (3 : Int32)) ∨ (o = (2 : Int32) ∧ ln = (0 : Int32)) ∨ (o = (2 : Int32) ∧ ln = (1 : Int32)) ∨ (o = (2 : Int32) ∧ ln = (2 : Int32)) ∨ (o = (3 : Int32) ∧ ln = (0 : Int32)) ∨ (o = (3 : Int32) ∧ ln = (1 : Int32)) := by
  have h1 := own_o o ho
  have h2 := c_isub (5 : Int32) o
  have h2' := rng32 ((5 : Int32) - o)
  have h3 := c_mask ((p.toUInt32 >>> ((2 : Int32) &&& 31).toUInt32).toInt32) (7 : Int32) 3 (by decide) (by decide)
  have h4 := c_iremV (((p.toUInt32 >>> ((2 : Int32) &&& 31).toUInt32).toInt32) &&& (7 : Int32)) ((5 : Int32) - o)
  rw [← hl] at h4
  have e5 : (5 : Int32).toInt = 5 := by decide
  have e0 : (0 : Int32).toInt = 0 := by decide
  have e1 : (1 : Int32).toInt = 1 := by decide
  have e2 : (2 : Int32).toInt = 2 := by decide
  have e3 : (3 : Int32).toInt = 3 := by decide
  have e4 : (4 : Int32).toInt = 4 := by decide
  have hd : ((5 : Int32) - o).toInt = 5 - o.toInt := by omega
  have h5 := h4.1 (by omega) (by omega)
  have ho : o = (0 : Int32) ∨ o = (1 : Int32) ∨ o = (2 : Int32) ∨ o = (3 : Int32) := by
    simp only [← Int32.toInt_inj, e0, e1, e2, e3]
    omega
  have hl5 : ln = (0 : Int32) ∨ ln = (1 : Int32) ∨ ln = (2 : Int32) ∨ ln = (3 : Int32) ∨ ln = (4 : Int32) := by
    simp only [← Int32.toInt_inj, e0, e1, e2, e3, e4]
    omega
  have h6 : ln.toInt + o.toInt < 5 := by omega
  clear hl h4 h5 h3 h2 h2' hd h1
  rcases ho with rfl | rfl | rfl | rfl <;> rcases hl5 with rfl | rfl | rfl | rfl | rfl <;> first | decide | (exfalso; revert h6; decide)
theorem d2_0 : decode method_3_code 0 = .ok (.iload_n 2, 1) := by decide +kernel
theorem d2_1 : decode method_3_code 1 = .ok (.iload_n 3, 1) := by decide +kernel
theorem d2_2 : decode method_3_code 2 = .ok (.if_icmp .lt 20, 3) := by decide +kernel
theorem d2_5 : decode method_3_code 5 = .ok (.iload_n 2, 1) := by decide +kernel
theorem d2_6 : decode method_3_code 6 = .ok (.iload_n 3, 1) := by decide +kernel
theorem d2_7 : decode method_3_code 7 = .ok (.iload 4, 2) := by decide +kernel
theorem d2_9 : decode method_3_code 9 = .ok (.iadd, 1) := by decide +kernel
theorem d2_10 : decode method_3_code 10 = .ok (.if_icmp .ge 12, 3) := by decide +kernel
theorem d2_13 : decode method_3_code 13 = .ok (.dload_n 0, 1) := by decide +kernel
theorem d2_14 : decode method_3_code 14 = .ok (.dload 5, 2) := by decide +kernel
theorem d2_16 : decode method_3_code 16 = .ok (.dcmp .g, 1) := by decide +kernel
theorem d2_17 : decode method_3_code 17 = .ok (.ifCond .ge 5, 3) := by decide +kernel
theorem d2_20 : decode method_3_code 20 = .ok (.dconst 0, 1) := by decide +kernel
theorem d2_21 : decode method_3_code 21 = .ok (.dreturn, 1) := by decide +kernel
theorem d2_22 : decode method_3_code 22 = .ok (.dload_n 0, 1) := by decide +kernel
theorem d2_23 : decode method_3_code 23 = .ok (.dreturn, 1) := by decide +kernel
theorem own_pn2 : plainName "com/example/quorumweight/quorumweight/risk/FailureCountFlushPinLaw" = true := by first | (simp [plainName, overriddenIn]; done) | decide +kernel
theorem own_ef2 (m : MethodId) (x0 : UInt64) (x1 : Int32) (x2 : Int32) (x3 : Int32) (x4 : UInt64) : entryFrame m #[(.double x0), (.int x1), (.int x2), (.int x3), (.double x4)] 7 = mkF m 0 #[.val (.double x0), .second, .val (.int x1), .val (.int x2), .val (.int x3), .val (.double x4), .second] [] := by first | (simp [entryFrame, mkF, argsToLocals, Value.category]; done) | rfl
def QrmExp (Z : State) (x : UInt64) (i o ln : Int32) (y : UInt64) (h0 : Heap) (n0 : Nat) (v : Option Value) (h : Heap) (L : List Loc) : Prop := v = some (.double (own_exp x i o ln y)) ∧ Fr n0 L ∧ h = h0
set_option maxRecDepth 65536 in
set_option maxHeartbeats 40000000 in
theorem rmExp (l : Launch) (Z : State) (a0 : Array Value) (hw : ∀ d ∈ tables_1, d.before a0 Z = true) (ws : List Jvm.Cond) (x : UInt64) (i o ln : Int32) (y : UInt64) (h0 : Heap) (n0 : Nat) (Z0 : n0 ≤ h0.size)  :
    MetFree l (⟨"com/example/quorumweight/quorumweight/risk/FailureCountFlushPinLaw", "expected", "(DIIID)D"⟩ : MethodName) (head1 (Jvm.Cond.code (⟨"com/example/quorumweight/quorumweight/risk/FailureCountFlushPinLaw", "expected", "(DIIID)D"⟩ : MethodName) method_3_code 7 (some .double) :: ws) ({ frames := 0, cells := 0, slots := 0, locals := 0 } : Room)) (fun ar_ U_ => ar_ = #[(.double x), (.int i), (.int o), (.int ln), (.double y)] ∧ Z.Warmed39 U_.vm ∧ U_.heap = h0) (fun _ _ _ _ _ => True) (fun _ U_ ou_ V_ => ∃ v_ L_, ou_ = .returned v_ ∧ QrmExp Z x i o ln y h0 n0 v_ V_.heap L_ ∧ FrameEnd U_ ou_ V_ L_ ({ frames := 0, cells := 0, slots := 0, locals := 0 } : Room).cells ({ frames := 0, cells := 0, slots := 0, locals := 0 } : Room).slots) := by
  refine MetFree.of_bodySF (plainFor_of_name own_pn2) hisR ?_
  intro p e s m args below meth c s₁ Bd hml0 hP hK
  obtain ⟨rfl, hZ, hh⟩ := hP
  have hx := Bd.exec
  have hby := Bd.bytes
  have hml : c.maxLocals = 7 := hml0
  have hown : s.vm.findClass "com/example/quorumweight/quorumweight/risk/FailureCountFlushPinLaw" = some m.cls := findClass_of_methodNamed Bd.named
  have hnm := (name_of_methodNamed Bd.named Bd.method).1
  have X0 : Stand p l e ({ frames := 0, cells := 0, slots := 0, locals := 0 } : Room) s m #[(.double x), (.int i), (.int o), (.int ln), (.double y)] below meth c s₁ [] 0 0 := Stand.of_body Bd
  have e0 : s₁.heap = h0 := by rw [← hh, Bd.state]; rfl
  have N0 := Fr.nil n0
  refine own_go (A := s₁.setTop (mkF m 0 #[.val (.double x), .second, .val (.int i), .val (.int o), .val (.int ln), .val (.double y), .second] [])) (fun t kz => castTop (own_ef2 m x i o ln y) kz) ?_
  refine own_go (A := s₁.setTop (mkF m 2 #[.val (.double x), .second, .val (.int i), .val (.int o), .val (.int ln), .val (.double y), .second] [(.int o), (.int i)])) (fun _ kz => ?_) ?_
  · show Steps p.tables e below (s₁.setTop (mkF m 0 #[.val (.double x), .second, .val (.int i), .val (.int o), .val (.int ln), .val (.double y), .second] [])) _
    refine XS.iloadN X0.here hx rfl (hb hby d2_0) rfl ?_
    show Steps p.tables e below (s₁.setTop (mkF m 1 #[.val (.double x), .second, .val (.int i), .val (.int o), .val (.int ln), .val (.double y), .second] [(.int i)])) _
    refine XS.iloadN X0.here hx rfl (hb hby d2_1) rfl ?_
    exact kz
  by_cases hs1 : i < o
  · skip
    refine own_go (A := s₁.setTop (mkF m 22 #[.val (.double x), .second, .val (.int i), .val (.int o), .val (.int ln), .val (.double y), .second] [])) (fun _ kz => ?_) ?_
    · show Steps p.tables e below (s₁.setTop (mkF m 2 #[.val (.double x), .second, .val (.int i), .val (.int o), .val (.int ln), .val (.double y), .second] [(.int o), (.int i)])) _
      refine XS.icmpYes X0.here hx rfl (pc0 := 2) (pc' := 22) rfl (hb hby d2_2) rfl (tlt hs1).1 (by decide) (by decide) ?_
      exact kz
    refine own_go (A := s₁.setTop (mkF m 23 #[.val (.double x), .second, .val (.int i), .val (.int o), .val (.int ln), .val (.double y), .second] [(.double x)])) (fun _ kz => ?_) ?_
    · show Steps p.tables e below (s₁.setTop (mkF m 22 #[.val (.double x), .second, .val (.int i), .val (.int o), .val (.int ln), .val (.double y), .second] [])) _
      refine XS.dloadN X0.here hx rfl (hb hby d2_22) rfl ?_
      exact kz
    obtain ⟨fs, hrr, hrun, hended, hW, hsame⟩ := X0.leave (v := some (.double x)) (fun h => by rw [Bd.returns] at h; cases h)
    refine ⟨_, _, ?_, hrun, hended, _, _, rfl, ?_, ⟨_, rfl⟩, hW, hsame.mono (by decide) (by decide)⟩
    · show Steps p.tables e below (s₁.setTop (mkF m 23 #[.val (.double x), .second, .val (.int i), .val (.int o), .val (.int ln), .val (.double y), .second] [(.double x)])) _
      exact retOut X0 hx (t := .double) Bd.returns rfl (Or.inr (Or.inr (Or.inl ⟨rfl, rfl, _, rfl⟩))) (hb hby d2_23) hrr
    · show QrmExp Z x i o ln y h0 n0 _ s₁.heap _
      rw [e0]
      exact ⟨by simp [own_exp, hs1], N0, rfl⟩
  · skip
    refine own_go (A := s₁.setTop (mkF m 5 #[.val (.double x), .second, .val (.int i), .val (.int o), .val (.int ln), .val (.double y), .second] [])) (fun _ kz => ?_) ?_
    · show Steps p.tables e below (s₁.setTop (mkF m 2 #[.val (.double x), .second, .val (.int i), .val (.int o), .val (.int ln), .val (.double y), .second] [(.int o), (.int i)])) _
      refine XS.icmpNo X0.here hx rfl (hb hby d2_2) rfl (flt hs1).1 ?_
      exact kz
    refine own_go (A := s₁.setTop (mkF m 10 #[.val (.double x), .second, .val (.int i), .val (.int o), .val (.int ln), .val (.double y), .second] [(.int (o + ln)), (.int i)])) (fun _ kz => ?_) ?_
    · show Steps p.tables e below (s₁.setTop (mkF m 5 #[.val (.double x), .second, .val (.int i), .val (.int o), .val (.int ln), .val (.double y), .second] [])) _
      refine XS.iloadN X0.here hx rfl (hb hby d2_5) rfl ?_
      show Steps p.tables e below (s₁.setTop (mkF m 6 #[.val (.double x), .second, .val (.int i), .val (.int o), .val (.int ln), .val (.double y), .second] [(.int i)])) _
      refine XS.iloadN X0.here hx rfl (hb hby d2_6) rfl ?_
      show Steps p.tables e below (s₁.setTop (mkF m 7 #[.val (.double x), .second, .val (.int i), .val (.int o), .val (.int ln), .val (.double y), .second] [(.int o), (.int i)])) _
      refine XS.iload X0.here hx rfl (hb hby d2_7) rfl ?_
      show Steps p.tables e below (s₁.setTop (mkF m 9 #[.val (.double x), .second, .val (.int i), .val (.int o), .val (.int ln), .val (.double y), .second] [(.int ln), (.int o), (.int i)])) _
      refine XS.iadd X0.here hx rfl (hb hby d2_9) rfl ?_
      exact kz
    by_cases hs2 : i < (o + ln)
    · skip
      refine own_go (A := s₁.setTop (mkF m 13 #[.val (.double x), .second, .val (.int i), .val (.int o), .val (.int ln), .val (.double y), .second] [])) (fun _ kz => ?_) ?_
      · show Steps p.tables e below (s₁.setTop (mkF m 10 #[.val (.double x), .second, .val (.int i), .val (.int o), .val (.int ln), .val (.double y), .second] [(.int (o + ln)), (.int i)])) _
        refine XS.icmpNo X0.here hx rfl (hb hby d2_10) rfl (tlt hs2).2.1 ?_
        exact kz
      refine own_go (A := s₁.setTop (mkF m 17 #[.val (.double x), .second, .val (.int i), .val (.int o), .val (.int ln), .val (.double y), .second] [(.int (cmpValue (FP.dcmp x y) .g))])) (fun _ kz => ?_) ?_
      · show Steps p.tables e below (s₁.setTop (mkF m 13 #[.val (.double x), .second, .val (.int i), .val (.int o), .val (.int ln), .val (.double y), .second] [])) _
        refine XS.dloadN X0.here hx rfl (hb hby d2_13) rfl ?_
        show Steps p.tables e below (s₁.setTop (mkF m 14 #[.val (.double x), .second, .val (.int i), .val (.int o), .val (.int ln), .val (.double y), .second] [(.double x)])) _
        refine XS.dload X0.here hx rfl (hb hby d2_14) rfl ?_
        show Steps p.tables e below (s₁.setTop (mkF m 16 #[.val (.double x), .second, .val (.int i), .val (.int o), .val (.int ln), .val (.double y), .second] [(.double y), (.double x)])) _
        refine XS.dcmpS X0.here hx rfl (hb hby d2_16) rfl rfl ?_
        exact kz
      by_cases hs3 : (cmpValue (FP.dcmp x y) .g) < (0 : Int32)
      · skip
        refine own_go (A := s₁.setTop (mkF m 20 #[.val (.double x), .second, .val (.int i), .val (.int o), .val (.int ln), .val (.double y), .second] [])) (fun _ kz => ?_) ?_
        · show Steps p.tables e below (s₁.setTop (mkF m 17 #[.val (.double x), .second, .val (.int i), .val (.int o), .val (.int ln), .val (.double y), .second] [(.int (cmpValue (FP.dcmp x y) .g))])) _
          refine XS.ifNo X0.here hx rfl (hb hby d2_17) rfl ((if0 _ _).trans (tlt hs3).2.1) ?_
          exact kz
        refine own_go (A := s₁.setTop (mkF m 21 #[.val (.double x), .second, .val (.int i), .val (.int o), .val (.int ln), .val (.double y), .second] [(.double FP.dconst0)])) (fun _ kz => ?_) ?_
        · show Steps p.tables e below (s₁.setTop (mkF m 20 #[.val (.double x), .second, .val (.int i), .val (.int o), .val (.int ln), .val (.double y), .second] [])) _
          refine XS.dconst0 X0.here hx rfl (hb hby d2_20) rfl ?_
          exact kz
        obtain ⟨fs, hrr, hrun, hended, hW, hsame⟩ := X0.leave (v := some (.double FP.dconst0)) (fun h => by rw [Bd.returns] at h; cases h)
        refine ⟨_, _, ?_, hrun, hended, _, _, rfl, ?_, ⟨_, rfl⟩, hW, hsame.mono (by decide) (by decide)⟩
        · show Steps p.tables e below (s₁.setTop (mkF m 21 #[.val (.double x), .second, .val (.int i), .val (.int o), .val (.int ln), .val (.double y), .second] [(.double FP.dconst0)])) _
          exact retOut X0 hx (t := .double) Bd.returns rfl (Or.inr (Or.inr (Or.inl ⟨rfl, rfl, _, rfl⟩))) (hb hby d2_21) hrr
        · show QrmExp Z x i o ln y h0 n0 _ s₁.heap _
          rw [e0]
          exact ⟨by simp [own_exp, hs1, hs2, hs3], N0, rfl⟩
      · skip
        refine own_go (A := s₁.setTop (mkF m 22 #[.val (.double x), .second, .val (.int i), .val (.int o), .val (.int ln), .val (.double y), .second] [])) (fun _ kz => ?_) ?_
        · show Steps p.tables e below (s₁.setTop (mkF m 17 #[.val (.double x), .second, .val (.int i), .val (.int o), .val (.int ln), .val (.double y), .second] [(.int (cmpValue (FP.dcmp x y) .g))])) _
          refine XS.ifYes X0.here hx rfl (pc0 := 17) (pc' := 22) rfl (hb hby d2_17) rfl ((if0 _ _).trans (flt hs3).2.1) (by decide) (by decide) ?_
          exact kz
        refine own_go (A := s₁.setTop (mkF m 23 #[.val (.double x), .second, .val (.int i), .val (.int o), .val (.int ln), .val (.double y), .second] [(.double x)])) (fun _ kz => ?_) ?_
        · show Steps p.tables e below (s₁.setTop (mkF m 22 #[.val (.double x), .second, .val (.int i), .val (.int o), .val (.int ln), .val (.double y), .second] [])) _
          refine XS.dloadN X0.here hx rfl (hb hby d2_22) rfl ?_
          exact kz
        obtain ⟨fs, hrr, hrun, hended, hW, hsame⟩ := X0.leave (v := some (.double x)) (fun h => by rw [Bd.returns] at h; cases h)
        refine ⟨_, _, ?_, hrun, hended, _, _, rfl, ?_, ⟨_, rfl⟩, hW, hsame.mono (by decide) (by decide)⟩
        · show Steps p.tables e below (s₁.setTop (mkF m 23 #[.val (.double x), .second, .val (.int i), .val (.int o), .val (.int ln), .val (.double y), .second] [(.double x)])) _
          exact retOut X0 hx (t := .double) Bd.returns rfl (Or.inr (Or.inr (Or.inl ⟨rfl, rfl, _, rfl⟩))) (hb hby d2_23) hrr
        · show QrmExp Z x i o ln y h0 n0 _ s₁.heap _
          rw [e0]
          exact ⟨by simp [own_exp, hs1, hs2, hs3], N0, rfl⟩
    · skip
      refine own_go (A := s₁.setTop (mkF m 22 #[.val (.double x), .second, .val (.int i), .val (.int o), .val (.int ln), .val (.double y), .second] [])) (fun _ kz => ?_) ?_
      · show Steps p.tables e below (s₁.setTop (mkF m 10 #[.val (.double x), .second, .val (.int i), .val (.int o), .val (.int ln), .val (.double y), .second] [(.int (o + ln)), (.int i)])) _
        refine XS.icmpYes X0.here hx rfl (pc0 := 10) (pc' := 22) rfl (hb hby d2_10) rfl (flt hs2).2.1 (by decide) (by decide) ?_
        exact kz
      refine own_go (A := s₁.setTop (mkF m 23 #[.val (.double x), .second, .val (.int i), .val (.int o), .val (.int ln), .val (.double y), .second] [(.double x)])) (fun _ kz => ?_) ?_
      · show Steps p.tables e below (s₁.setTop (mkF m 22 #[.val (.double x), .second, .val (.int i), .val (.int o), .val (.int ln), .val (.double y), .second] [])) _
        refine XS.dloadN X0.here hx rfl (hb hby d2_22) rfl ?_
        exact kz
      obtain ⟨fs, hrr, hrun, hended, hW, hsame⟩ := X0.leave (v := some (.double x)) (fun h => by rw [Bd.returns] at h; cases h)
      refine ⟨_, _, ?_, hrun, hended, _, _, rfl, ?_, ⟨_, rfl⟩, hW, hsame.mono (by decide) (by decide)⟩
      · show Steps p.tables e below (s₁.setTop (mkF m 23 #[.val (.double x), .second, .val (.int i), .val (.int o), .val (.int ln), .val (.double y), .second] [(.double x)])) _
        exact retOut X0 hx (t := .double) Bd.returns rfl (Or.inr (Or.inr (Or.inl ⟨rfl, rfl, _, rfl⟩))) (hb hby d2_23) hrr
      · show QrmExp Z x i o ln y h0 n0 _ s₁.heap _
        rw [e0]
        exact ⟨by simp [own_exp, hs1, hs2], N0, rfl⟩
theorem d1_0 : decode prog_92_method_17_code 0 = .ok (.iload_n 1, 1) := by decide +kernel
theorem d1_1 : decode prog_92_method_17_code 1 = .ok (.istore 5, 2) := by decide +kernel
theorem d1_3 : decode prog_92_method_17_code 3 = .ok (.iload 5, 2) := by decide +kernel
theorem d1_5 : decode prog_92_method_17_code 5 = .ok (.iload_n 1, 1) := by decide +kernel
theorem d1_6 : decode prog_92_method_17_code 6 = .ok (.iload_n 2, 1) := by decide +kernel
theorem d1_7 : decode prog_92_method_17_code 7 = .ok (.iadd, 1) := by decide +kernel
theorem d1_8 : decode prog_92_method_17_code 8 = .ok (.if_icmp .ge 23, 3) := by decide +kernel
theorem d1_11 : decode prog_92_method_17_code 11 = .ok (.aload_n 0, 1) := by decide +kernel
theorem d1_12 : decode prog_92_method_17_code 12 = .ok (.iload 5, 2) := by decide +kernel
theorem d1_14 : decode prog_92_method_17_code 14 = .ok (.daload, 1) := by decide +kernel
theorem d1_15 : decode prog_92_method_17_code 15 = .ok (.dload_n 3, 1) := by decide +kernel
theorem d1_16 : decode prog_92_method_17_code 16 = .ok (.dcmp .g, 1) := by decide +kernel
theorem d1_17 : decode prog_92_method_17_code 17 = .ok (.ifCond .ge 8, 3) := by decide +kernel
theorem d1_20 : decode prog_92_method_17_code 20 = .ok (.aload_n 0, 1) := by decide +kernel
theorem d1_21 : decode prog_92_method_17_code 21 = .ok (.iload 5, 2) := by decide +kernel
theorem d1_23 : decode prog_92_method_17_code 23 = .ok (.dconst 0, 1) := by decide +kernel
theorem d1_24 : decode prog_92_method_17_code 24 = .ok (.dastore, 1) := by decide +kernel
theorem d1_25 : decode prog_92_method_17_code 25 = .ok (.iinc 5 1, 3) := by decide +kernel
theorem d1_28 : decode prog_92_method_17_code 28 = .ok (.goto (-25), 3) := by decide +kernel
theorem d1_31 : decode prog_92_method_17_code 31 = .ok (.return_, 1) := by decide +kernel
theorem own_pn1 : plainName "com/example/quorumweight/quorumweight/risk/FailureCount" = true := by first | (simp [plainName, overriddenIn]; done) | decide +kernel
theorem own_ef1 (m : MethodId) (x0 : Addr) (x1 : Int32) (x2 : Int32) (x3 : UInt64) : entryFrame m #[(.ref x0), (.int x1), (.int x2), (.double x3)] 6 = mkF m 0 #[.val (.ref x0), .val (.int x1), .val (.int x2), .val (.double x3), .second, .unset] [] := by first | (simp [entryFrame, mkF, argsToLocals, Value.category]; done) | rfl
def QrmFl (Z : State) (a : Addr) (o ln : Int32) (y : UInt64) (kc : ClassId) (x0 x1 x2 x3 : UInt64) (h0 : Heap) (n0 : Nat) (v : Option Value) (h : Heap) (L : List Loc) : Prop := v = none ∧ Fr n0 L ∧ Keep h0 h [a] ∧ Arv Z h a kc .double (4 : Int32) [(.double (own_exp x0 (0 : Int32) o ln y)), (.double (own_exp x1 (1 : Int32) o ln y)), (.double (own_exp x2 (2 : Int32) o ln y)), (.double (own_exp x3 (3 : Int32) o ln y))] (.double (0 : UInt64))
set_option maxRecDepth 65536 in
set_option maxHeartbeats 40000000 in
theorem rmFl (l : Launch) (Z : State) (a0 : Array Value) (hw : ∀ d ∈ tables_1, d.before a0 Z = true) (ws : List Jvm.Cond) (a : Addr) (o ln : Int32) (y : UInt64) (kc : ClassId) (x0 x1 x2 x3 : UInt64) (h0 : Heap) (n0 : Nat) (Z0 : n0 ≤ h0.size) (hol : (o = (0 : Int32) ∧ ln = (0 : Int32)) ∨ (o = (0 : Int32) ∧ ln = (1 : Int32)) ∨ (o = (0 : Int32) ∧ ln = (2 : Int32)) ∨ (o = (0 : Int32) ∧ ln = (3 : Int32)) ∨ (o = (0 : Int32) ∧ ln = (4 : Int32)) ∨ (o = (1 : Int32) ∧ ln = (0 : Int32)) ∨ (o = (1 : Int32) ∧ ln = (1 : Int32)) ∨ (o = (1 : Int32) ∧ ln = (2 : Int32)) ∨ (o = (1 : Int32) ∧ ln = (3 : Int32)) ∨ (o = (2 : Int32) ∧ ln = (0 : Int32)) ∨ (o = (2 : Int32) ∧ ln = (1 : Int32)) ∨ (o = (2 : Int32) ∧ ln = (2 : Int32)) ∨ (o = (3 : Int32) ∧ ln = (0 : Int32)) ∨ (o = (3 : Int32) ∧ ln = (1 : Int32))) (g_a : n0 ≤ a) (Av : Arv Z h0 a kc .double (4 : Int32) [(.double x0), (.double x1), (.double x2), (.double x3)] (.double (0 : UInt64))) :
    MetFree l (⟨"com/example/quorumweight/quorumweight/risk/FailureCount", "flush", "([DIID)V"⟩ : MethodName) (head1 (Jvm.Cond.code (⟨"com/example/quorumweight/quorumweight/risk/FailureCount", "flush", "([DIID)V"⟩ : MethodName) prog_92_method_17_code 6 none :: ws) ({ frames := 0, cells := 0, slots := 0, locals := 0 } : Room)) (fun ar_ U_ => ar_ = #[(.ref a), (.int o), (.int ln), (.double y)] ∧ Z.Warmed39 U_.vm ∧ U_.heap = h0) (fun _ _ _ _ _ => True) (fun _ U_ ou_ V_ => ∃ v_ L_, ou_ = .returned v_ ∧ QrmFl Z a o ln y kc x0 x1 x2 x3 h0 n0 v_ V_.heap L_ ∧ FrameEnd U_ ou_ V_ L_ ({ frames := 0, cells := 0, slots := 0, locals := 0 } : Room).cells ({ frames := 0, cells := 0, slots := 0, locals := 0 } : Room).slots) := by
  refine MetFree.of_bodySF (plainFor_of_name own_pn1) hisR ?_
  intro p e s m args below meth c s₁ Bd hml0 hP hK
  obtain ⟨rfl, hZ, hh⟩ := hP
  have hx := Bd.exec
  have hby := Bd.bytes
  have hml : c.maxLocals = 6 := hml0
  have hown : s.vm.findClass "com/example/quorumweight/quorumweight/risk/FailureCount" = some m.cls := findClass_of_methodNamed Bd.named
  have hnm := (name_of_methodNamed Bd.named Bd.method).1
  have X0 : Stand p l e ({ frames := 0, cells := 0, slots := 0, locals := 0 } : Room) s m #[(.ref a), (.int o), (.int ln), (.double y)] below meth c s₁ [] 0 0 := Stand.of_body Bd
  have e0 : s₁.heap = h0 := by rw [← hh, Bd.state]; rfl
  have N0 := Fr.nil n0
  have Kp0 : Keep h0 h0 [a] := Keep.refl h0 _
  refine own_go (A := s₁.setTop (mkF m 0 #[.val (.ref a), .val (.int o), .val (.int ln), .val (.double y), .second, .unset] [])) (fun t kz => castTop (own_ef1 m a o ln y) kz) ?_
  rcases hol with ⟨rfl, rfl⟩ | ⟨rfl, rfl⟩ | ⟨rfl, rfl⟩ | ⟨rfl, rfl⟩ | ⟨rfl, rfl⟩ | ⟨rfl, rfl⟩ | ⟨rfl, rfl⟩ | ⟨rfl, rfl⟩ | ⟨rfl, rfl⟩ | ⟨rfl, rfl⟩ | ⟨rfl, rfl⟩ | ⟨rfl, rfl⟩ | ⟨rfl, rfl⟩ | ⟨rfl, rfl⟩
  · skip
    refine own_go (A := s₁.setTop (mkF m 31 #[.val (.ref a), .val (.int (0 : Int32)), .val (.int (0 : Int32)), .val (.double y), .second, .val (.int (0 : Int32))] [])) (fun _ kz => ?_) ?_
    · show Steps p.tables e below (s₁.setTop (mkF m 0 #[.val (.ref a), .val (.int (0 : Int32)), .val (.int (0 : Int32)), .val (.double y), .second, .unset] [])) _
      refine XS.iloadN X0.here hx rfl (hb hby d1_0) rfl ?_
      show Steps p.tables e below (s₁.setTop (mkF m 1 #[.val (.ref a), .val (.int (0 : Int32)), .val (.int (0 : Int32)), .val (.double y), .second, .unset] [(.int (0 : Int32))])) _
      refine XS.istore X0.here hx rfl (hb hby d1_1) rfl (l' := #[.val (.ref a), .val (.int (0 : Int32)), .val (.int (0 : Int32)), .val (.double y), .second, .val (.int (0 : Int32))]) rfl ?_
      show Steps p.tables e below (s₁.setTop (mkF m 3 #[.val (.ref a), .val (.int (0 : Int32)), .val (.int (0 : Int32)), .val (.double y), .second, .val (.int (0 : Int32))] [])) _
      refine XS.iload X0.here hx rfl (hb hby d1_3) rfl ?_
      show Steps p.tables e below (s₁.setTop (mkF m 5 #[.val (.ref a), .val (.int (0 : Int32)), .val (.int (0 : Int32)), .val (.double y), .second, .val (.int (0 : Int32))] [(.int (0 : Int32))])) _
      refine XS.iloadN X0.here hx rfl (hb hby d1_5) rfl ?_
      show Steps p.tables e below (s₁.setTop (mkF m 6 #[.val (.ref a), .val (.int (0 : Int32)), .val (.int (0 : Int32)), .val (.double y), .second, .val (.int (0 : Int32))] [(.int (0 : Int32)), (.int (0 : Int32))])) _
      refine XS.iloadN X0.here hx rfl (hb hby d1_6) rfl ?_
      show Steps p.tables e below (s₁.setTop (mkF m 7 #[.val (.ref a), .val (.int (0 : Int32)), .val (.int (0 : Int32)), .val (.double y), .second, .val (.int (0 : Int32))] [(.int (0 : Int32)), (.int (0 : Int32)), (.int (0 : Int32))])) _
      refine XS.iadd X0.here hx rfl (hb hby d1_7) rfl ?_
      show Steps p.tables e below (s₁.setTop (mkF m 8 #[.val (.ref a), .val (.int (0 : Int32)), .val (.int (0 : Int32)), .val (.double y), .second, .val (.int (0 : Int32))] [(.int (0 : Int32)), (.int (0 : Int32))])) _
      refine XS.icmpYes X0.here hx rfl (pc0 := 8) (pc' := 31) rfl (hb hby d1_8) rfl (flt (by decide : ¬ ((0 : Int32) < (0 : Int32)))).2.1 (by decide) (by decide) ?_
      exact kz
    obtain ⟨fs, hrr, hrun, hended, hW, hsame⟩ := X0.leave (v := none) (fun _ => rfl)
    refine ⟨_, _, ?_, hrun, hended, _, _, rfl, ?_, ⟨_, rfl⟩, hW, hsame.mono (by decide) (by decide)⟩
    · show Steps p.tables e below (s₁.setTop (mkF m 31 #[.val (.ref a), .val (.int (0 : Int32)), .val (.int (0 : Int32)), .val (.double y), .second, .val (.int (0 : Int32))] [])) _
      exact X0.returnOut hx Bd.returns (hb hby d1_31) hrr
    · show QrmFl Z a (0 : Int32) (0 : Int32) y kc x0 x1 x2 x3 h0 n0 _ s₁.heap _
      rw [e0]
      exact ⟨rfl, N0, Kp0, by simpa [own_exp] using Av⟩
  · skip
    refine own_go (A := s₁.setTop (mkF m 14 #[.val (.ref a), .val (.int (0 : Int32)), .val (.int (1 : Int32)), .val (.double y), .second, .val (.int (0 : Int32))] [(.int (0 : Int32)), (.ref a)])) (fun _ kz => ?_) ?_
    · show Steps p.tables e below (s₁.setTop (mkF m 0 #[.val (.ref a), .val (.int (0 : Int32)), .val (.int (1 : Int32)), .val (.double y), .second, .unset] [])) _
      refine XS.iloadN X0.here hx rfl (hb hby d1_0) rfl ?_
      show Steps p.tables e below (s₁.setTop (mkF m 1 #[.val (.ref a), .val (.int (0 : Int32)), .val (.int (1 : Int32)), .val (.double y), .second, .unset] [(.int (0 : Int32))])) _
      refine XS.istore X0.here hx rfl (hb hby d1_1) rfl (l' := #[.val (.ref a), .val (.int (0 : Int32)), .val (.int (1 : Int32)), .val (.double y), .second, .val (.int (0 : Int32))]) rfl ?_
      show Steps p.tables e below (s₁.setTop (mkF m 3 #[.val (.ref a), .val (.int (0 : Int32)), .val (.int (1 : Int32)), .val (.double y), .second, .val (.int (0 : Int32))] [])) _
      refine XS.iload X0.here hx rfl (hb hby d1_3) rfl ?_
      show Steps p.tables e below (s₁.setTop (mkF m 5 #[.val (.ref a), .val (.int (0 : Int32)), .val (.int (1 : Int32)), .val (.double y), .second, .val (.int (0 : Int32))] [(.int (0 : Int32))])) _
      refine XS.iloadN X0.here hx rfl (hb hby d1_5) rfl ?_
      show Steps p.tables e below (s₁.setTop (mkF m 6 #[.val (.ref a), .val (.int (0 : Int32)), .val (.int (1 : Int32)), .val (.double y), .second, .val (.int (0 : Int32))] [(.int (0 : Int32)), (.int (0 : Int32))])) _
      refine XS.iloadN X0.here hx rfl (hb hby d1_6) rfl ?_
      show Steps p.tables e below (s₁.setTop (mkF m 7 #[.val (.ref a), .val (.int (0 : Int32)), .val (.int (1 : Int32)), .val (.double y), .second, .val (.int (0 : Int32))] [(.int (1 : Int32)), (.int (0 : Int32)), (.int (0 : Int32))])) _
      refine XS.iadd X0.here hx rfl (hb hby d1_7) rfl ?_
      show Steps p.tables e below (s₁.setTop (mkF m 8 #[.val (.ref a), .val (.int (0 : Int32)), .val (.int (1 : Int32)), .val (.double y), .second, .val (.int (0 : Int32))] [(.int (1 : Int32)), (.int (0 : Int32))])) _
      refine XS.icmpNo X0.here hx rfl (hb hby d1_8) rfl (tlt (by decide : ((0 : Int32) < (1 : Int32)))).2.1 ?_
      show Steps p.tables e below (s₁.setTop (mkF m 11 #[.val (.ref a), .val (.int (0 : Int32)), .val (.int (1 : Int32)), .val (.double y), .second, .val (.int (0 : Int32))] [])) _
      refine XS.aloadN X0.here hx rfl (hb hby d1_11) rfl rfl ?_
      show Steps p.tables e below (s₁.setTop (mkF m 12 #[.val (.ref a), .val (.int (0 : Int32)), .val (.int (1 : Int32)), .val (.double y), .second, .val (.int (0 : Int32))] [(.ref a)])) _
      refine XS.iload X0.here hx rfl (hb hby d1_12) rfl ?_
      exact kz
    obtain ⟨cl1, Ar1, -, S1, M1, H1, -⟩ := id Av
    have hin1 : ¬ ((0 : Int32) < 0 ∨ cl1.slots.size ≤ ((0 : Int32)).toNatClampNeg) := inb_of S1 ⟨by decide, by decide⟩
    have hat1 : cl1.slots[((0 : Int32)).toNatClampNeg]? = some (.double x0) := H1.at hin1 rfl
    refine own_go (A := s₁.setTop (mkF m 15 #[.val (.ref a), .val (.int (0 : Int32)), .val (.int (1 : Int32)), .val (.double y), .second, .val (.int (0 : Int32))] [(.double x0)])) (fun _ kz => ?_) ?_
    · refine X0.daload hx (j := (0 : Int32)) (v := (.double x0)) (by rw [e0]; exact Ar1.1) (State.isArrayOf_alike hZ.alike Ar1.2.1) Ar1.2.2 hin1 hat1 (g := (mkF m 14 #[.val (.ref a), .val (.int (0 : Int32)), .val (.int (1 : Int32)), .val (.double y), .second, .val (.int (0 : Int32))] [(.int (0 : Int32)), (.ref a)])) rfl rfl (hb hby d1_14) _ ?_
      exact kz
    refine own_go (A := s₁.setTop (mkF m 17 #[.val (.ref a), .val (.int (0 : Int32)), .val (.int (1 : Int32)), .val (.double y), .second, .val (.int (0 : Int32))] [(.int (cmpValue (FP.dcmp x0 y) .g))])) (fun _ kz => ?_) ?_
    · show Steps p.tables e below (s₁.setTop (mkF m 15 #[.val (.ref a), .val (.int (0 : Int32)), .val (.int (1 : Int32)), .val (.double y), .second, .val (.int (0 : Int32))] [(.double x0)])) _
      refine XS.dloadN X0.here hx rfl (hb hby d1_15) rfl ?_
      show Steps p.tables e below (s₁.setTop (mkF m 16 #[.val (.ref a), .val (.int (0 : Int32)), .val (.int (1 : Int32)), .val (.double y), .second, .val (.int (0 : Int32))] [(.double y), (.double x0)])) _
      refine XS.dcmpS X0.here hx rfl (hb hby d1_16) rfl rfl ?_
      exact kz
    by_cases hs2 : (cmpValue (FP.dcmp x0 y) .g) < (0 : Int32)
    · skip
      refine own_go (A := s₁.setTop (mkF m 20 #[.val (.ref a), .val (.int (0 : Int32)), .val (.int (1 : Int32)), .val (.double y), .second, .val (.int (0 : Int32))] [])) (fun _ kz => ?_) ?_
      · show Steps p.tables e below (s₁.setTop (mkF m 17 #[.val (.ref a), .val (.int (0 : Int32)), .val (.int (1 : Int32)), .val (.double y), .second, .val (.int (0 : Int32))] [(.int (cmpValue (FP.dcmp x0 y) .g))])) _
        refine XS.ifNo X0.here hx rfl (hb hby d1_17) rfl ((if0 _ _).trans (tlt hs2).2.1) ?_
        exact kz
      refine own_go (A := s₁.setTop (mkF m 24 #[.val (.ref a), .val (.int (0 : Int32)), .val (.int (1 : Int32)), .val (.double y), .second, .val (.int (0 : Int32))] [(.double FP.dconst0), (.int (0 : Int32)), (.ref a)])) (fun _ kz => ?_) ?_
      · show Steps p.tables e below (s₁.setTop (mkF m 20 #[.val (.ref a), .val (.int (0 : Int32)), .val (.int (1 : Int32)), .val (.double y), .second, .val (.int (0 : Int32))] [])) _
        refine XS.aloadN X0.here hx rfl (hb hby d1_20) rfl rfl ?_
        show Steps p.tables e below (s₁.setTop (mkF m 21 #[.val (.ref a), .val (.int (0 : Int32)), .val (.int (1 : Int32)), .val (.double y), .second, .val (.int (0 : Int32))] [(.ref a)])) _
        refine XS.iload X0.here hx rfl (hb hby d1_21) rfl ?_
        show Steps p.tables e below (s₁.setTop (mkF m 23 #[.val (.ref a), .val (.int (0 : Int32)), .val (.int (1 : Int32)), .val (.double y), .second, .val (.int (0 : Int32))] [(.int (0 : Int32)), (.ref a)])) _
        refine XS.dconst0 X0.here hx rfl (hb hby d1_23) rfl ?_
        exact kz
      obtain ⟨cl3, Ar3, q3, S3, M3, H3, G3⟩ := id Av
      have hin3 : ¬ ((0 : Int32) < 0 ∨ cl3.slots.size ≤ ((0 : Int32)).toNatClampNeg) := inb_of S3 ⟨by decide, by decide⟩
      obtain ⟨T3, h3, X3, e3, W3, st3⟩ := stD X0 hx hZ e0 Ar3 (j := (0 : Int32)) hin3 (g := (mkF m 24 #[.val (.ref a), .val (.int (0 : Int32)), .val (.int (1 : Int32)), .val (.double y), .second, .val (.int (0 : Int32))] [(.double FP.dconst0), (.int (0 : Int32)), (.ref a)])) rfl rfl (hb hby d1_24)
      have Aw3 := Arv.set Ar3 q3 S3 M3 H3 G3 rfl W3 0 rfl (Nat.le_of_ble_eq_true rfl)
      have Z3 : n0 ≤ h3.size := Nat.le_trans Z0 (Keep.of_wr W3).1
      have Kp3 : Keep h0 h3 [a] := Kp0.wr W3 (Or.inl (List.mem_of_getElem? (i := 0) rfl))
      have Av_a : Arv Z h3 a kc .double (4 : Int32) [(.double FP.dconst0), (.double x1), (.double x2), (.double x3)] (.double (0 : UInt64)) := Aw3
      have N3 := Fr.snoc X3 N0 g_a
      refine own_go (A := T3.setTop (mkF m 25 #[.val (.ref a), .val (.int (0 : Int32)), .val (.int (1 : Int32)), .val (.double y), .second, .val (.int (0 : Int32))] [])) (fun _ kz => st3 _ kz) ?_
      refine own_go (A := T3.setTop (mkF m 31 #[.val (.ref a), .val (.int (0 : Int32)), .val (.int (1 : Int32)), .val (.double y), .second, .val (.int (1 : Int32))] [])) (fun _ kz => ?_) ?_
      · show Steps p.tables e below (T3.setTop (mkF m 25 #[.val (.ref a), .val (.int (0 : Int32)), .val (.int (1 : Int32)), .val (.double y), .second, .val (.int (0 : Int32))] [])) _
        refine XS.iinc X3.here hx rfl (hb hby d1_25) rfl (l' := #[.val (.ref a), .val (.int (0 : Int32)), .val (.int (1 : Int32)), .val (.double y), .second, .val (.int (1 : Int32))]) rfl ?_
        show Steps p.tables e below (T3.setTop (mkF m 28 #[.val (.ref a), .val (.int (0 : Int32)), .val (.int (1 : Int32)), .val (.double y), .second, .val (.int (1 : Int32))] [])) _
        refine XS.goto X3.here hx rfl (pc0 := 28) (pc' := 3) rfl (hb hby d1_28) (by decide) (by decide) ?_
        show Steps p.tables e below (T3.setTop (mkF m 3 #[.val (.ref a), .val (.int (0 : Int32)), .val (.int (1 : Int32)), .val (.double y), .second, .val (.int (1 : Int32))] [])) _
        refine XS.iload X3.here hx rfl (hb hby d1_3) rfl ?_
        show Steps p.tables e below (T3.setTop (mkF m 5 #[.val (.ref a), .val (.int (0 : Int32)), .val (.int (1 : Int32)), .val (.double y), .second, .val (.int (1 : Int32))] [(.int (1 : Int32))])) _
        refine XS.iloadN X3.here hx rfl (hb hby d1_5) rfl ?_
        show Steps p.tables e below (T3.setTop (mkF m 6 #[.val (.ref a), .val (.int (0 : Int32)), .val (.int (1 : Int32)), .val (.double y), .second, .val (.int (1 : Int32))] [(.int (0 : Int32)), (.int (1 : Int32))])) _
        refine XS.iloadN X3.here hx rfl (hb hby d1_6) rfl ?_
        show Steps p.tables e below (T3.setTop (mkF m 7 #[.val (.ref a), .val (.int (0 : Int32)), .val (.int (1 : Int32)), .val (.double y), .second, .val (.int (1 : Int32))] [(.int (1 : Int32)), (.int (0 : Int32)), (.int (1 : Int32))])) _
        refine XS.iadd X3.here hx rfl (hb hby d1_7) rfl ?_
        show Steps p.tables e below (T3.setTop (mkF m 8 #[.val (.ref a), .val (.int (0 : Int32)), .val (.int (1 : Int32)), .val (.double y), .second, .val (.int (1 : Int32))] [(.int (1 : Int32)), (.int (1 : Int32))])) _
        refine XS.icmpYes X3.here hx rfl (pc0 := 8) (pc' := 31) rfl (hb hby d1_8) rfl (flt (by decide : ¬ ((1 : Int32) < (1 : Int32)))).2.1 (by decide) (by decide) ?_
        exact kz
      obtain ⟨fs, hrr, hrun, hended, hW, hsame⟩ := X3.leave (v := none) (fun _ => rfl)
      refine ⟨_, _, ?_, hrun, hended, _, _, rfl, ?_, ⟨_, rfl⟩, hW, hsame.mono (by decide) (by decide)⟩
      · show Steps p.tables e below (T3.setTop (mkF m 31 #[.val (.ref a), .val (.int (0 : Int32)), .val (.int (1 : Int32)), .val (.double y), .second, .val (.int (1 : Int32))] [])) _
        exact X3.returnOut hx Bd.returns (hb hby d1_31) hrr
      · show QrmFl Z a (0 : Int32) (1 : Int32) y kc x0 x1 x2 x3 h0 n0 _ T3.heap _
        rw [e3]
        exact ⟨rfl, N3, Kp3, by simpa [own_exp, hs2] using Av_a⟩
    · skip
      refine own_go (A := s₁.setTop (mkF m 25 #[.val (.ref a), .val (.int (0 : Int32)), .val (.int (1 : Int32)), .val (.double y), .second, .val (.int (0 : Int32))] [])) (fun _ kz => ?_) ?_
      · show Steps p.tables e below (s₁.setTop (mkF m 17 #[.val (.ref a), .val (.int (0 : Int32)), .val (.int (1 : Int32)), .val (.double y), .second, .val (.int (0 : Int32))] [(.int (cmpValue (FP.dcmp x0 y) .g))])) _
        refine XS.ifYes X0.here hx rfl (pc0 := 17) (pc' := 25) rfl (hb hby d1_17) rfl ((if0 _ _).trans (flt hs2).2.1) (by decide) (by decide) ?_
        exact kz
      refine own_go (A := s₁.setTop (mkF m 31 #[.val (.ref a), .val (.int (0 : Int32)), .val (.int (1 : Int32)), .val (.double y), .second, .val (.int (1 : Int32))] [])) (fun _ kz => ?_) ?_
      · show Steps p.tables e below (s₁.setTop (mkF m 25 #[.val (.ref a), .val (.int (0 : Int32)), .val (.int (1 : Int32)), .val (.double y), .second, .val (.int (0 : Int32))] [])) _
        refine XS.iinc X0.here hx rfl (hb hby d1_25) rfl (l' := #[.val (.ref a), .val (.int (0 : Int32)), .val (.int (1 : Int32)), .val (.double y), .second, .val (.int (1 : Int32))]) rfl ?_
        show Steps p.tables e below (s₁.setTop (mkF m 28 #[.val (.ref a), .val (.int (0 : Int32)), .val (.int (1 : Int32)), .val (.double y), .second, .val (.int (1 : Int32))] [])) _
        refine XS.goto X0.here hx rfl (pc0 := 28) (pc' := 3) rfl (hb hby d1_28) (by decide) (by decide) ?_
        show Steps p.tables e below (s₁.setTop (mkF m 3 #[.val (.ref a), .val (.int (0 : Int32)), .val (.int (1 : Int32)), .val (.double y), .second, .val (.int (1 : Int32))] [])) _
        refine XS.iload X0.here hx rfl (hb hby d1_3) rfl ?_
        show Steps p.tables e below (s₁.setTop (mkF m 5 #[.val (.ref a), .val (.int (0 : Int32)), .val (.int (1 : Int32)), .val (.double y), .second, .val (.int (1 : Int32))] [(.int (1 : Int32))])) _
        refine XS.iloadN X0.here hx rfl (hb hby d1_5) rfl ?_
        show Steps p.tables e below (s₁.setTop (mkF m 6 #[.val (.ref a), .val (.int (0 : Int32)), .val (.int (1 : Int32)), .val (.double y), .second, .val (.int (1 : Int32))] [(.int (0 : Int32)), (.int (1 : Int32))])) _
        refine XS.iloadN X0.here hx rfl (hb hby d1_6) rfl ?_
        show Steps p.tables e below (s₁.setTop (mkF m 7 #[.val (.ref a), .val (.int (0 : Int32)), .val (.int (1 : Int32)), .val (.double y), .second, .val (.int (1 : Int32))] [(.int (1 : Int32)), (.int (0 : Int32)), (.int (1 : Int32))])) _
        refine XS.iadd X0.here hx rfl (hb hby d1_7) rfl ?_
        show Steps p.tables e below (s₁.setTop (mkF m 8 #[.val (.ref a), .val (.int (0 : Int32)), .val (.int (1 : Int32)), .val (.double y), .second, .val (.int (1 : Int32))] [(.int (1 : Int32)), (.int (1 : Int32))])) _
        refine XS.icmpYes X0.here hx rfl (pc0 := 8) (pc' := 31) rfl (hb hby d1_8) rfl (flt (by decide : ¬ ((1 : Int32) < (1 : Int32)))).2.1 (by decide) (by decide) ?_
        exact kz
      obtain ⟨fs, hrr, hrun, hended, hW, hsame⟩ := X0.leave (v := none) (fun _ => rfl)
      refine ⟨_, _, ?_, hrun, hended, _, _, rfl, ?_, ⟨_, rfl⟩, hW, hsame.mono (by decide) (by decide)⟩
      · show Steps p.tables e below (s₁.setTop (mkF m 31 #[.val (.ref a), .val (.int (0 : Int32)), .val (.int (1 : Int32)), .val (.double y), .second, .val (.int (1 : Int32))] [])) _
        exact X0.returnOut hx Bd.returns (hb hby d1_31) hrr
      · show QrmFl Z a (0 : Int32) (1 : Int32) y kc x0 x1 x2 x3 h0 n0 _ s₁.heap _
        rw [e0]
        exact ⟨rfl, N0, Kp0, by simpa [own_exp, hs2] using Av⟩
  · skip
    refine own_go (A := s₁.setTop (mkF m 14 #[.val (.ref a), .val (.int (0 : Int32)), .val (.int (2 : Int32)), .val (.double y), .second, .val (.int (0 : Int32))] [(.int (0 : Int32)), (.ref a)])) (fun _ kz => ?_) ?_
    · show Steps p.tables e below (s₁.setTop (mkF m 0 #[.val (.ref a), .val (.int (0 : Int32)), .val (.int (2 : Int32)), .val (.double y), .second, .unset] [])) _
      refine XS.iloadN X0.here hx rfl (hb hby d1_0) rfl ?_
      show Steps p.tables e below (s₁.setTop (mkF m 1 #[.val (.ref a), .val (.int (0 : Int32)), .val (.int (2 : Int32)), .val (.double y), .second, .unset] [(.int (0 : Int32))])) _
      refine XS.istore X0.here hx rfl (hb hby d1_1) rfl (l' := #[.val (.ref a), .val (.int (0 : Int32)), .val (.int (2 : Int32)), .val (.double y), .second, .val (.int (0 : Int32))]) rfl ?_
      show Steps p.tables e below (s₁.setTop (mkF m 3 #[.val (.ref a), .val (.int (0 : Int32)), .val (.int (2 : Int32)), .val (.double y), .second, .val (.int (0 : Int32))] [])) _
      refine XS.iload X0.here hx rfl (hb hby d1_3) rfl ?_
      show Steps p.tables e below (s₁.setTop (mkF m 5 #[.val (.ref a), .val (.int (0 : Int32)), .val (.int (2 : Int32)), .val (.double y), .second, .val (.int (0 : Int32))] [(.int (0 : Int32))])) _
      refine XS.iloadN X0.here hx rfl (hb hby d1_5) rfl ?_
      show Steps p.tables e below (s₁.setTop (mkF m 6 #[.val (.ref a), .val (.int (0 : Int32)), .val (.int (2 : Int32)), .val (.double y), .second, .val (.int (0 : Int32))] [(.int (0 : Int32)), (.int (0 : Int32))])) _
      refine XS.iloadN X0.here hx rfl (hb hby d1_6) rfl ?_
      show Steps p.tables e below (s₁.setTop (mkF m 7 #[.val (.ref a), .val (.int (0 : Int32)), .val (.int (2 : Int32)), .val (.double y), .second, .val (.int (0 : Int32))] [(.int (2 : Int32)), (.int (0 : Int32)), (.int (0 : Int32))])) _
      refine XS.iadd X0.here hx rfl (hb hby d1_7) rfl ?_
      show Steps p.tables e below (s₁.setTop (mkF m 8 #[.val (.ref a), .val (.int (0 : Int32)), .val (.int (2 : Int32)), .val (.double y), .second, .val (.int (0 : Int32))] [(.int (2 : Int32)), (.int (0 : Int32))])) _
      refine XS.icmpNo X0.here hx rfl (hb hby d1_8) rfl (tlt (by decide : ((0 : Int32) < (2 : Int32)))).2.1 ?_
      show Steps p.tables e below (s₁.setTop (mkF m 11 #[.val (.ref a), .val (.int (0 : Int32)), .val (.int (2 : Int32)), .val (.double y), .second, .val (.int (0 : Int32))] [])) _
      refine XS.aloadN X0.here hx rfl (hb hby d1_11) rfl rfl ?_
      show Steps p.tables e below (s₁.setTop (mkF m 12 #[.val (.ref a), .val (.int (0 : Int32)), .val (.int (2 : Int32)), .val (.double y), .second, .val (.int (0 : Int32))] [(.ref a)])) _
      refine XS.iload X0.here hx rfl (hb hby d1_12) rfl ?_
      exact kz
    obtain ⟨cl4, Ar4, -, S4, M4, H4, -⟩ := id Av
    have hin4 : ¬ ((0 : Int32) < 0 ∨ cl4.slots.size ≤ ((0 : Int32)).toNatClampNeg) := inb_of S4 ⟨by decide, by decide⟩
    have hat4 : cl4.slots[((0 : Int32)).toNatClampNeg]? = some (.double x0) := H4.at hin4 rfl
    refine own_go (A := s₁.setTop (mkF m 15 #[.val (.ref a), .val (.int (0 : Int32)), .val (.int (2 : Int32)), .val (.double y), .second, .val (.int (0 : Int32))] [(.double x0)])) (fun _ kz => ?_) ?_
    · refine X0.daload hx (j := (0 : Int32)) (v := (.double x0)) (by rw [e0]; exact Ar4.1) (State.isArrayOf_alike hZ.alike Ar4.2.1) Ar4.2.2 hin4 hat4 (g := (mkF m 14 #[.val (.ref a), .val (.int (0 : Int32)), .val (.int (2 : Int32)), .val (.double y), .second, .val (.int (0 : Int32))] [(.int (0 : Int32)), (.ref a)])) rfl rfl (hb hby d1_14) _ ?_
      exact kz
    refine own_go (A := s₁.setTop (mkF m 17 #[.val (.ref a), .val (.int (0 : Int32)), .val (.int (2 : Int32)), .val (.double y), .second, .val (.int (0 : Int32))] [(.int (cmpValue (FP.dcmp x0 y) .g))])) (fun _ kz => ?_) ?_
    · show Steps p.tables e below (s₁.setTop (mkF m 15 #[.val (.ref a), .val (.int (0 : Int32)), .val (.int (2 : Int32)), .val (.double y), .second, .val (.int (0 : Int32))] [(.double x0)])) _
      refine XS.dloadN X0.here hx rfl (hb hby d1_15) rfl ?_
      show Steps p.tables e below (s₁.setTop (mkF m 16 #[.val (.ref a), .val (.int (0 : Int32)), .val (.int (2 : Int32)), .val (.double y), .second, .val (.int (0 : Int32))] [(.double y), (.double x0)])) _
      refine XS.dcmpS X0.here hx rfl (hb hby d1_16) rfl rfl ?_
      exact kz
    by_cases hs5 : (cmpValue (FP.dcmp x0 y) .g) < (0 : Int32)
    · skip
      refine own_go (A := s₁.setTop (mkF m 20 #[.val (.ref a), .val (.int (0 : Int32)), .val (.int (2 : Int32)), .val (.double y), .second, .val (.int (0 : Int32))] [])) (fun _ kz => ?_) ?_
      · show Steps p.tables e below (s₁.setTop (mkF m 17 #[.val (.ref a), .val (.int (0 : Int32)), .val (.int (2 : Int32)), .val (.double y), .second, .val (.int (0 : Int32))] [(.int (cmpValue (FP.dcmp x0 y) .g))])) _
        refine XS.ifNo X0.here hx rfl (hb hby d1_17) rfl ((if0 _ _).trans (tlt hs5).2.1) ?_
        exact kz
      refine own_go (A := s₁.setTop (mkF m 24 #[.val (.ref a), .val (.int (0 : Int32)), .val (.int (2 : Int32)), .val (.double y), .second, .val (.int (0 : Int32))] [(.double FP.dconst0), (.int (0 : Int32)), (.ref a)])) (fun _ kz => ?_) ?_
      · show Steps p.tables e below (s₁.setTop (mkF m 20 #[.val (.ref a), .val (.int (0 : Int32)), .val (.int (2 : Int32)), .val (.double y), .second, .val (.int (0 : Int32))] [])) _
        refine XS.aloadN X0.here hx rfl (hb hby d1_20) rfl rfl ?_
        show Steps p.tables e below (s₁.setTop (mkF m 21 #[.val (.ref a), .val (.int (0 : Int32)), .val (.int (2 : Int32)), .val (.double y), .second, .val (.int (0 : Int32))] [(.ref a)])) _
        refine XS.iload X0.here hx rfl (hb hby d1_21) rfl ?_
        show Steps p.tables e below (s₁.setTop (mkF m 23 #[.val (.ref a), .val (.int (0 : Int32)), .val (.int (2 : Int32)), .val (.double y), .second, .val (.int (0 : Int32))] [(.int (0 : Int32)), (.ref a)])) _
        refine XS.dconst0 X0.here hx rfl (hb hby d1_23) rfl ?_
        exact kz
      obtain ⟨cl6, Ar6, q6, S6, M6, H6, G6⟩ := id Av
      have hin6 : ¬ ((0 : Int32) < 0 ∨ cl6.slots.size ≤ ((0 : Int32)).toNatClampNeg) := inb_of S6 ⟨by decide, by decide⟩
      obtain ⟨T6, h6, X6, e6, W6, st6⟩ := stD X0 hx hZ e0 Ar6 (j := (0 : Int32)) hin6 (g := (mkF m 24 #[.val (.ref a), .val (.int (0 : Int32)), .val (.int (2 : Int32)), .val (.double y), .second, .val (.int (0 : Int32))] [(.double FP.dconst0), (.int (0 : Int32)), (.ref a)])) rfl rfl (hb hby d1_24)
      have Aw6 := Arv.set Ar6 q6 S6 M6 H6 G6 rfl W6 0 rfl (Nat.le_of_ble_eq_true rfl)
      have Z6 : n0 ≤ h6.size := Nat.le_trans Z0 (Keep.of_wr W6).1
      have Kp6 : Keep h0 h6 [a] := Kp0.wr W6 (Or.inl (List.mem_of_getElem? (i := 0) rfl))
      have Av_a : Arv Z h6 a kc .double (4 : Int32) [(.double FP.dconst0), (.double x1), (.double x2), (.double x3)] (.double (0 : UInt64)) := Aw6
      have N6 := Fr.snoc X6 N0 g_a
      refine own_go (A := T6.setTop (mkF m 25 #[.val (.ref a), .val (.int (0 : Int32)), .val (.int (2 : Int32)), .val (.double y), .second, .val (.int (0 : Int32))] [])) (fun _ kz => st6 _ kz) ?_
      refine own_go (A := T6.setTop (mkF m 14 #[.val (.ref a), .val (.int (0 : Int32)), .val (.int (2 : Int32)), .val (.double y), .second, .val (.int (1 : Int32))] [(.int (1 : Int32)), (.ref a)])) (fun _ kz => ?_) ?_
      · show Steps p.tables e below (T6.setTop (mkF m 25 #[.val (.ref a), .val (.int (0 : Int32)), .val (.int (2 : Int32)), .val (.double y), .second, .val (.int (0 : Int32))] [])) _
        refine XS.iinc X6.here hx rfl (hb hby d1_25) rfl (l' := #[.val (.ref a), .val (.int (0 : Int32)), .val (.int (2 : Int32)), .val (.double y), .second, .val (.int (1 : Int32))]) rfl ?_
        show Steps p.tables e below (T6.setTop (mkF m 28 #[.val (.ref a), .val (.int (0 : Int32)), .val (.int (2 : Int32)), .val (.double y), .second, .val (.int (1 : Int32))] [])) _
        refine XS.goto X6.here hx rfl (pc0 := 28) (pc' := 3) rfl (hb hby d1_28) (by decide) (by decide) ?_
        show Steps p.tables e below (T6.setTop (mkF m 3 #[.val (.ref a), .val (.int (0 : Int32)), .val (.int (2 : Int32)), .val (.double y), .second, .val (.int (1 : Int32))] [])) _
        refine XS.iload X6.here hx rfl (hb hby d1_3) rfl ?_
        show Steps p.tables e below (T6.setTop (mkF m 5 #[.val (.ref a), .val (.int (0 : Int32)), .val (.int (2 : Int32)), .val (.double y), .second, .val (.int (1 : Int32))] [(.int (1 : Int32))])) _
        refine XS.iloadN X6.here hx rfl (hb hby d1_5) rfl ?_
        show Steps p.tables e below (T6.setTop (mkF m 6 #[.val (.ref a), .val (.int (0 : Int32)), .val (.int (2 : Int32)), .val (.double y), .second, .val (.int (1 : Int32))] [(.int (0 : Int32)), (.int (1 : Int32))])) _
        refine XS.iloadN X6.here hx rfl (hb hby d1_6) rfl ?_
        show Steps p.tables e below (T6.setTop (mkF m 7 #[.val (.ref a), .val (.int (0 : Int32)), .val (.int (2 : Int32)), .val (.double y), .second, .val (.int (1 : Int32))] [(.int (2 : Int32)), (.int (0 : Int32)), (.int (1 : Int32))])) _
        refine XS.iadd X6.here hx rfl (hb hby d1_7) rfl ?_
        show Steps p.tables e below (T6.setTop (mkF m 8 #[.val (.ref a), .val (.int (0 : Int32)), .val (.int (2 : Int32)), .val (.double y), .second, .val (.int (1 : Int32))] [(.int (2 : Int32)), (.int (1 : Int32))])) _
        refine XS.icmpNo X6.here hx rfl (hb hby d1_8) rfl (tlt (by decide : ((1 : Int32) < (2 : Int32)))).2.1 ?_
        show Steps p.tables e below (T6.setTop (mkF m 11 #[.val (.ref a), .val (.int (0 : Int32)), .val (.int (2 : Int32)), .val (.double y), .second, .val (.int (1 : Int32))] [])) _
        refine XS.aloadN X6.here hx rfl (hb hby d1_11) rfl rfl ?_
        show Steps p.tables e below (T6.setTop (mkF m 12 #[.val (.ref a), .val (.int (0 : Int32)), .val (.int (2 : Int32)), .val (.double y), .second, .val (.int (1 : Int32))] [(.ref a)])) _
        refine XS.iload X6.here hx rfl (hb hby d1_12) rfl ?_
        exact kz
      obtain ⟨cl7, Ar7, -, S7, M7, H7, -⟩ := id Av_a
      have hin7 : ¬ ((1 : Int32) < 0 ∨ cl7.slots.size ≤ ((1 : Int32)).toNatClampNeg) := inb_of S7 ⟨by decide, by decide⟩
      have hat7 : cl7.slots[((1 : Int32)).toNatClampNeg]? = some (.double x1) := H7.at hin7 rfl
      refine own_go (A := T6.setTop (mkF m 15 #[.val (.ref a), .val (.int (0 : Int32)), .val (.int (2 : Int32)), .val (.double y), .second, .val (.int (1 : Int32))] [(.double x1)])) (fun _ kz => ?_) ?_
      · refine X6.daload hx (j := (1 : Int32)) (v := (.double x1)) (by rw [e6]; exact Ar7.1) (State.isArrayOf_alike hZ.alike Ar7.2.1) Ar7.2.2 hin7 hat7 (g := (mkF m 14 #[.val (.ref a), .val (.int (0 : Int32)), .val (.int (2 : Int32)), .val (.double y), .second, .val (.int (1 : Int32))] [(.int (1 : Int32)), (.ref a)])) rfl rfl (hb hby d1_14) _ ?_
        exact kz
      refine own_go (A := T6.setTop (mkF m 17 #[.val (.ref a), .val (.int (0 : Int32)), .val (.int (2 : Int32)), .val (.double y), .second, .val (.int (1 : Int32))] [(.int (cmpValue (FP.dcmp x1 y) .g))])) (fun _ kz => ?_) ?_
      · show Steps p.tables e below (T6.setTop (mkF m 15 #[.val (.ref a), .val (.int (0 : Int32)), .val (.int (2 : Int32)), .val (.double y), .second, .val (.int (1 : Int32))] [(.double x1)])) _
        refine XS.dloadN X6.here hx rfl (hb hby d1_15) rfl ?_
        show Steps p.tables e below (T6.setTop (mkF m 16 #[.val (.ref a), .val (.int (0 : Int32)), .val (.int (2 : Int32)), .val (.double y), .second, .val (.int (1 : Int32))] [(.double y), (.double x1)])) _
        refine XS.dcmpS X6.here hx rfl (hb hby d1_16) rfl rfl ?_
        exact kz
      by_cases hs8 : (cmpValue (FP.dcmp x1 y) .g) < (0 : Int32)
      · skip
        refine own_go (A := T6.setTop (mkF m 20 #[.val (.ref a), .val (.int (0 : Int32)), .val (.int (2 : Int32)), .val (.double y), .second, .val (.int (1 : Int32))] [])) (fun _ kz => ?_) ?_
        · show Steps p.tables e below (T6.setTop (mkF m 17 #[.val (.ref a), .val (.int (0 : Int32)), .val (.int (2 : Int32)), .val (.double y), .second, .val (.int (1 : Int32))] [(.int (cmpValue (FP.dcmp x1 y) .g))])) _
          refine XS.ifNo X6.here hx rfl (hb hby d1_17) rfl ((if0 _ _).trans (tlt hs8).2.1) ?_
          exact kz
        refine own_go (A := T6.setTop (mkF m 24 #[.val (.ref a), .val (.int (0 : Int32)), .val (.int (2 : Int32)), .val (.double y), .second, .val (.int (1 : Int32))] [(.double FP.dconst0), (.int (1 : Int32)), (.ref a)])) (fun _ kz => ?_) ?_
        · show Steps p.tables e below (T6.setTop (mkF m 20 #[.val (.ref a), .val (.int (0 : Int32)), .val (.int (2 : Int32)), .val (.double y), .second, .val (.int (1 : Int32))] [])) _
          refine XS.aloadN X6.here hx rfl (hb hby d1_20) rfl rfl ?_
          show Steps p.tables e below (T6.setTop (mkF m 21 #[.val (.ref a), .val (.int (0 : Int32)), .val (.int (2 : Int32)), .val (.double y), .second, .val (.int (1 : Int32))] [(.ref a)])) _
          refine XS.iload X6.here hx rfl (hb hby d1_21) rfl ?_
          show Steps p.tables e below (T6.setTop (mkF m 23 #[.val (.ref a), .val (.int (0 : Int32)), .val (.int (2 : Int32)), .val (.double y), .second, .val (.int (1 : Int32))] [(.int (1 : Int32)), (.ref a)])) _
          refine XS.dconst0 X6.here hx rfl (hb hby d1_23) rfl ?_
          exact kz
        obtain ⟨cl9, Ar9, q9, S9, M9, H9, G9⟩ := id Av_a
        have hin9 : ¬ ((1 : Int32) < 0 ∨ cl9.slots.size ≤ ((1 : Int32)).toNatClampNeg) := inb_of S9 ⟨by decide, by decide⟩
        obtain ⟨T9, h9, X9, e9, W9, st9⟩ := stD X6 hx hZ e6 Ar9 (j := (1 : Int32)) hin9 (g := (mkF m 24 #[.val (.ref a), .val (.int (0 : Int32)), .val (.int (2 : Int32)), .val (.double y), .second, .val (.int (1 : Int32))] [(.double FP.dconst0), (.int (1 : Int32)), (.ref a)])) rfl rfl (hb hby d1_24)
        have Aw9 := Arv.set Ar9 q9 S9 M9 H9 G9 rfl W9 1 rfl (Nat.le_of_ble_eq_true rfl)
        have Z9 : n0 ≤ h9.size := Nat.le_trans Z6 (Keep.of_wr W9).1
        have Kp9 : Keep h0 h9 [a] := Kp6.wr W9 (Or.inl (List.mem_of_getElem? (i := 0) rfl))
        have Av_a : Arv Z h9 a kc .double (4 : Int32) [(.double FP.dconst0), (.double FP.dconst0), (.double x2), (.double x3)] (.double (0 : UInt64)) := Aw9
        have N9 := Fr.snoc X9 N6 g_a
        refine own_go (A := T9.setTop (mkF m 25 #[.val (.ref a), .val (.int (0 : Int32)), .val (.int (2 : Int32)), .val (.double y), .second, .val (.int (1 : Int32))] [])) (fun _ kz => st9 _ kz) ?_
        refine own_go (A := T9.setTop (mkF m 31 #[.val (.ref a), .val (.int (0 : Int32)), .val (.int (2 : Int32)), .val (.double y), .second, .val (.int (2 : Int32))] [])) (fun _ kz => ?_) ?_
        · show Steps p.tables e below (T9.setTop (mkF m 25 #[.val (.ref a), .val (.int (0 : Int32)), .val (.int (2 : Int32)), .val (.double y), .second, .val (.int (1 : Int32))] [])) _
          refine XS.iinc X9.here hx rfl (hb hby d1_25) rfl (l' := #[.val (.ref a), .val (.int (0 : Int32)), .val (.int (2 : Int32)), .val (.double y), .second, .val (.int (2 : Int32))]) rfl ?_
          show Steps p.tables e below (T9.setTop (mkF m 28 #[.val (.ref a), .val (.int (0 : Int32)), .val (.int (2 : Int32)), .val (.double y), .second, .val (.int (2 : Int32))] [])) _
          refine XS.goto X9.here hx rfl (pc0 := 28) (pc' := 3) rfl (hb hby d1_28) (by decide) (by decide) ?_
          show Steps p.tables e below (T9.setTop (mkF m 3 #[.val (.ref a), .val (.int (0 : Int32)), .val (.int (2 : Int32)), .val (.double y), .second, .val (.int (2 : Int32))] [])) _
          refine XS.iload X9.here hx rfl (hb hby d1_3) rfl ?_
          show Steps p.tables e below (T9.setTop (mkF m 5 #[.val (.ref a), .val (.int (0 : Int32)), .val (.int (2 : Int32)), .val (.double y), .second, .val (.int (2 : Int32))] [(.int (2 : Int32))])) _
          refine XS.iloadN X9.here hx rfl (hb hby d1_5) rfl ?_
          show Steps p.tables e below (T9.setTop (mkF m 6 #[.val (.ref a), .val (.int (0 : Int32)), .val (.int (2 : Int32)), .val (.double y), .second, .val (.int (2 : Int32))] [(.int (0 : Int32)), (.int (2 : Int32))])) _
          refine XS.iloadN X9.here hx rfl (hb hby d1_6) rfl ?_
          show Steps p.tables e below (T9.setTop (mkF m 7 #[.val (.ref a), .val (.int (0 : Int32)), .val (.int (2 : Int32)), .val (.double y), .second, .val (.int (2 : Int32))] [(.int (2 : Int32)), (.int (0 : Int32)), (.int (2 : Int32))])) _
          refine XS.iadd X9.here hx rfl (hb hby d1_7) rfl ?_
          show Steps p.tables e below (T9.setTop (mkF m 8 #[.val (.ref a), .val (.int (0 : Int32)), .val (.int (2 : Int32)), .val (.double y), .second, .val (.int (2 : Int32))] [(.int (2 : Int32)), (.int (2 : Int32))])) _
          refine XS.icmpYes X9.here hx rfl (pc0 := 8) (pc' := 31) rfl (hb hby d1_8) rfl (flt (by decide : ¬ ((2 : Int32) < (2 : Int32)))).2.1 (by decide) (by decide) ?_
          exact kz
        obtain ⟨fs, hrr, hrun, hended, hW, hsame⟩ := X9.leave (v := none) (fun _ => rfl)
        refine ⟨_, _, ?_, hrun, hended, _, _, rfl, ?_, ⟨_, rfl⟩, hW, hsame.mono (by decide) (by decide)⟩
        · show Steps p.tables e below (T9.setTop (mkF m 31 #[.val (.ref a), .val (.int (0 : Int32)), .val (.int (2 : Int32)), .val (.double y), .second, .val (.int (2 : Int32))] [])) _
          exact X9.returnOut hx Bd.returns (hb hby d1_31) hrr
        · show QrmFl Z a (0 : Int32) (2 : Int32) y kc x0 x1 x2 x3 h0 n0 _ T9.heap _
          rw [e9]
          exact ⟨rfl, N9, Kp9, by simpa [own_exp, hs5, hs8] using Av_a⟩
      · skip
        refine own_go (A := T6.setTop (mkF m 25 #[.val (.ref a), .val (.int (0 : Int32)), .val (.int (2 : Int32)), .val (.double y), .second, .val (.int (1 : Int32))] [])) (fun _ kz => ?_) ?_
        · show Steps p.tables e below (T6.setTop (mkF m 17 #[.val (.ref a), .val (.int (0 : Int32)), .val (.int (2 : Int32)), .val (.double y), .second, .val (.int (1 : Int32))] [(.int (cmpValue (FP.dcmp x1 y) .g))])) _
          refine XS.ifYes X6.here hx rfl (pc0 := 17) (pc' := 25) rfl (hb hby d1_17) rfl ((if0 _ _).trans (flt hs8).2.1) (by decide) (by decide) ?_
          exact kz
        refine own_go (A := T6.setTop (mkF m 31 #[.val (.ref a), .val (.int (0 : Int32)), .val (.int (2 : Int32)), .val (.double y), .second, .val (.int (2 : Int32))] [])) (fun _ kz => ?_) ?_
        · show Steps p.tables e below (T6.setTop (mkF m 25 #[.val (.ref a), .val (.int (0 : Int32)), .val (.int (2 : Int32)), .val (.double y), .second, .val (.int (1 : Int32))] [])) _
          refine XS.iinc X6.here hx rfl (hb hby d1_25) rfl (l' := #[.val (.ref a), .val (.int (0 : Int32)), .val (.int (2 : Int32)), .val (.double y), .second, .val (.int (2 : Int32))]) rfl ?_
          show Steps p.tables e below (T6.setTop (mkF m 28 #[.val (.ref a), .val (.int (0 : Int32)), .val (.int (2 : Int32)), .val (.double y), .second, .val (.int (2 : Int32))] [])) _
          refine XS.goto X6.here hx rfl (pc0 := 28) (pc' := 3) rfl (hb hby d1_28) (by decide) (by decide) ?_
          show Steps p.tables e below (T6.setTop (mkF m 3 #[.val (.ref a), .val (.int (0 : Int32)), .val (.int (2 : Int32)), .val (.double y), .second, .val (.int (2 : Int32))] [])) _
          refine XS.iload X6.here hx rfl (hb hby d1_3) rfl ?_
          show Steps p.tables e below (T6.setTop (mkF m 5 #[.val (.ref a), .val (.int (0 : Int32)), .val (.int (2 : Int32)), .val (.double y), .second, .val (.int (2 : Int32))] [(.int (2 : Int32))])) _
          refine XS.iloadN X6.here hx rfl (hb hby d1_5) rfl ?_
          show Steps p.tables e below (T6.setTop (mkF m 6 #[.val (.ref a), .val (.int (0 : Int32)), .val (.int (2 : Int32)), .val (.double y), .second, .val (.int (2 : Int32))] [(.int (0 : Int32)), (.int (2 : Int32))])) _
          refine XS.iloadN X6.here hx rfl (hb hby d1_6) rfl ?_
          show Steps p.tables e below (T6.setTop (mkF m 7 #[.val (.ref a), .val (.int (0 : Int32)), .val (.int (2 : Int32)), .val (.double y), .second, .val (.int (2 : Int32))] [(.int (2 : Int32)), (.int (0 : Int32)), (.int (2 : Int32))])) _
          refine XS.iadd X6.here hx rfl (hb hby d1_7) rfl ?_
          show Steps p.tables e below (T6.setTop (mkF m 8 #[.val (.ref a), .val (.int (0 : Int32)), .val (.int (2 : Int32)), .val (.double y), .second, .val (.int (2 : Int32))] [(.int (2 : Int32)), (.int (2 : Int32))])) _
          refine XS.icmpYes X6.here hx rfl (pc0 := 8) (pc' := 31) rfl (hb hby d1_8) rfl (flt (by decide : ¬ ((2 : Int32) < (2 : Int32)))).2.1 (by decide) (by decide) ?_
          exact kz
        obtain ⟨fs, hrr, hrun, hended, hW, hsame⟩ := X6.leave (v := none) (fun _ => rfl)
        refine ⟨_, _, ?_, hrun, hended, _, _, rfl, ?_, ⟨_, rfl⟩, hW, hsame.mono (by decide) (by decide)⟩
        · show Steps p.tables e below (T6.setTop (mkF m 31 #[.val (.ref a), .val (.int (0 : Int32)), .val (.int (2 : Int32)), .val (.double y), .second, .val (.int (2 : Int32))] [])) _
          exact X6.returnOut hx Bd.returns (hb hby d1_31) hrr
        · show QrmFl Z a (0 : Int32) (2 : Int32) y kc x0 x1 x2 x3 h0 n0 _ T6.heap _
          rw [e6]
          exact ⟨rfl, N6, Kp6, by simpa [own_exp, hs5, hs8] using Av_a⟩
    · skip
      refine own_go (A := s₁.setTop (mkF m 25 #[.val (.ref a), .val (.int (0 : Int32)), .val (.int (2 : Int32)), .val (.double y), .second, .val (.int (0 : Int32))] [])) (fun _ kz => ?_) ?_
      · show Steps p.tables e below (s₁.setTop (mkF m 17 #[.val (.ref a), .val (.int (0 : Int32)), .val (.int (2 : Int32)), .val (.double y), .second, .val (.int (0 : Int32))] [(.int (cmpValue (FP.dcmp x0 y) .g))])) _
        refine XS.ifYes X0.here hx rfl (pc0 := 17) (pc' := 25) rfl (hb hby d1_17) rfl ((if0 _ _).trans (flt hs5).2.1) (by decide) (by decide) ?_
        exact kz
      refine own_go (A := s₁.setTop (mkF m 14 #[.val (.ref a), .val (.int (0 : Int32)), .val (.int (2 : Int32)), .val (.double y), .second, .val (.int (1 : Int32))] [(.int (1 : Int32)), (.ref a)])) (fun _ kz => ?_) ?_
      · show Steps p.tables e below (s₁.setTop (mkF m 25 #[.val (.ref a), .val (.int (0 : Int32)), .val (.int (2 : Int32)), .val (.double y), .second, .val (.int (0 : Int32))] [])) _
        refine XS.iinc X0.here hx rfl (hb hby d1_25) rfl (l' := #[.val (.ref a), .val (.int (0 : Int32)), .val (.int (2 : Int32)), .val (.double y), .second, .val (.int (1 : Int32))]) rfl ?_
        show Steps p.tables e below (s₁.setTop (mkF m 28 #[.val (.ref a), .val (.int (0 : Int32)), .val (.int (2 : Int32)), .val (.double y), .second, .val (.int (1 : Int32))] [])) _
        refine XS.goto X0.here hx rfl (pc0 := 28) (pc' := 3) rfl (hb hby d1_28) (by decide) (by decide) ?_
        show Steps p.tables e below (s₁.setTop (mkF m 3 #[.val (.ref a), .val (.int (0 : Int32)), .val (.int (2 : Int32)), .val (.double y), .second, .val (.int (1 : Int32))] [])) _
        refine XS.iload X0.here hx rfl (hb hby d1_3) rfl ?_
        show Steps p.tables e below (s₁.setTop (mkF m 5 #[.val (.ref a), .val (.int (0 : Int32)), .val (.int (2 : Int32)), .val (.double y), .second, .val (.int (1 : Int32))] [(.int (1 : Int32))])) _
        refine XS.iloadN X0.here hx rfl (hb hby d1_5) rfl ?_
        show Steps p.tables e below (s₁.setTop (mkF m 6 #[.val (.ref a), .val (.int (0 : Int32)), .val (.int (2 : Int32)), .val (.double y), .second, .val (.int (1 : Int32))] [(.int (0 : Int32)), (.int (1 : Int32))])) _
        refine XS.iloadN X0.here hx rfl (hb hby d1_6) rfl ?_
        show Steps p.tables e below (s₁.setTop (mkF m 7 #[.val (.ref a), .val (.int (0 : Int32)), .val (.int (2 : Int32)), .val (.double y), .second, .val (.int (1 : Int32))] [(.int (2 : Int32)), (.int (0 : Int32)), (.int (1 : Int32))])) _
        refine XS.iadd X0.here hx rfl (hb hby d1_7) rfl ?_
        show Steps p.tables e below (s₁.setTop (mkF m 8 #[.val (.ref a), .val (.int (0 : Int32)), .val (.int (2 : Int32)), .val (.double y), .second, .val (.int (1 : Int32))] [(.int (2 : Int32)), (.int (1 : Int32))])) _
        refine XS.icmpNo X0.here hx rfl (hb hby d1_8) rfl (tlt (by decide : ((1 : Int32) < (2 : Int32)))).2.1 ?_
        show Steps p.tables e below (s₁.setTop (mkF m 11 #[.val (.ref a), .val (.int (0 : Int32)), .val (.int (2 : Int32)), .val (.double y), .second, .val (.int (1 : Int32))] [])) _
        refine XS.aloadN X0.here hx rfl (hb hby d1_11) rfl rfl ?_
        show Steps p.tables e below (s₁.setTop (mkF m 12 #[.val (.ref a), .val (.int (0 : Int32)), .val (.int (2 : Int32)), .val (.double y), .second, .val (.int (1 : Int32))] [(.ref a)])) _
        refine XS.iload X0.here hx rfl (hb hby d1_12) rfl ?_
        exact kz
      obtain ⟨cl10, Ar10, -, S10, M10, H10, -⟩ := id Av
      have hin10 : ¬ ((1 : Int32) < 0 ∨ cl10.slots.size ≤ ((1 : Int32)).toNatClampNeg) := inb_of S10 ⟨by decide, by decide⟩
      have hat10 : cl10.slots[((1 : Int32)).toNatClampNeg]? = some (.double x1) := H10.at hin10 rfl
      refine own_go (A := s₁.setTop (mkF m 15 #[.val (.ref a), .val (.int (0 : Int32)), .val (.int (2 : Int32)), .val (.double y), .second, .val (.int (1 : Int32))] [(.double x1)])) (fun _ kz => ?_) ?_
      · refine X0.daload hx (j := (1 : Int32)) (v := (.double x1)) (by rw [e0]; exact Ar10.1) (State.isArrayOf_alike hZ.alike Ar10.2.1) Ar10.2.2 hin10 hat10 (g := (mkF m 14 #[.val (.ref a), .val (.int (0 : Int32)), .val (.int (2 : Int32)), .val (.double y), .second, .val (.int (1 : Int32))] [(.int (1 : Int32)), (.ref a)])) rfl rfl (hb hby d1_14) _ ?_
        exact kz
      refine own_go (A := s₁.setTop (mkF m 17 #[.val (.ref a), .val (.int (0 : Int32)), .val (.int (2 : Int32)), .val (.double y), .second, .val (.int (1 : Int32))] [(.int (cmpValue (FP.dcmp x1 y) .g))])) (fun _ kz => ?_) ?_
      · show Steps p.tables e below (s₁.setTop (mkF m 15 #[.val (.ref a), .val (.int (0 : Int32)), .val (.int (2 : Int32)), .val (.double y), .second, .val (.int (1 : Int32))] [(.double x1)])) _
        refine XS.dloadN X0.here hx rfl (hb hby d1_15) rfl ?_
        show Steps p.tables e below (s₁.setTop (mkF m 16 #[.val (.ref a), .val (.int (0 : Int32)), .val (.int (2 : Int32)), .val (.double y), .second, .val (.int (1 : Int32))] [(.double y), (.double x1)])) _
        refine XS.dcmpS X0.here hx rfl (hb hby d1_16) rfl rfl ?_
        exact kz
      by_cases hs11 : (cmpValue (FP.dcmp x1 y) .g) < (0 : Int32)
      · skip
        refine own_go (A := s₁.setTop (mkF m 20 #[.val (.ref a), .val (.int (0 : Int32)), .val (.int (2 : Int32)), .val (.double y), .second, .val (.int (1 : Int32))] [])) (fun _ kz => ?_) ?_
        · show Steps p.tables e below (s₁.setTop (mkF m 17 #[.val (.ref a), .val (.int (0 : Int32)), .val (.int (2 : Int32)), .val (.double y), .second, .val (.int (1 : Int32))] [(.int (cmpValue (FP.dcmp x1 y) .g))])) _
          refine XS.ifNo X0.here hx rfl (hb hby d1_17) rfl ((if0 _ _).trans (tlt hs11).2.1) ?_
          exact kz
        refine own_go (A := s₁.setTop (mkF m 24 #[.val (.ref a), .val (.int (0 : Int32)), .val (.int (2 : Int32)), .val (.double y), .second, .val (.int (1 : Int32))] [(.double FP.dconst0), (.int (1 : Int32)), (.ref a)])) (fun _ kz => ?_) ?_
        · show Steps p.tables e below (s₁.setTop (mkF m 20 #[.val (.ref a), .val (.int (0 : Int32)), .val (.int (2 : Int32)), .val (.double y), .second, .val (.int (1 : Int32))] [])) _
          refine XS.aloadN X0.here hx rfl (hb hby d1_20) rfl rfl ?_
          show Steps p.tables e below (s₁.setTop (mkF m 21 #[.val (.ref a), .val (.int (0 : Int32)), .val (.int (2 : Int32)), .val (.double y), .second, .val (.int (1 : Int32))] [(.ref a)])) _
          refine XS.iload X0.here hx rfl (hb hby d1_21) rfl ?_
          show Steps p.tables e below (s₁.setTop (mkF m 23 #[.val (.ref a), .val (.int (0 : Int32)), .val (.int (2 : Int32)), .val (.double y), .second, .val (.int (1 : Int32))] [(.int (1 : Int32)), (.ref a)])) _
          refine XS.dconst0 X0.here hx rfl (hb hby d1_23) rfl ?_
          exact kz
        obtain ⟨cl12, Ar12, q12, S12, M12, H12, G12⟩ := id Av
        have hin12 : ¬ ((1 : Int32) < 0 ∨ cl12.slots.size ≤ ((1 : Int32)).toNatClampNeg) := inb_of S12 ⟨by decide, by decide⟩
        obtain ⟨T12, h12, X12, e12, W12, st12⟩ := stD X0 hx hZ e0 Ar12 (j := (1 : Int32)) hin12 (g := (mkF m 24 #[.val (.ref a), .val (.int (0 : Int32)), .val (.int (2 : Int32)), .val (.double y), .second, .val (.int (1 : Int32))] [(.double FP.dconst0), (.int (1 : Int32)), (.ref a)])) rfl rfl (hb hby d1_24)
        have Aw12 := Arv.set Ar12 q12 S12 M12 H12 G12 rfl W12 1 rfl (Nat.le_of_ble_eq_true rfl)
        have Z12 : n0 ≤ h12.size := Nat.le_trans Z0 (Keep.of_wr W12).1
        have Kp12 : Keep h0 h12 [a] := Kp0.wr W12 (Or.inl (List.mem_of_getElem? (i := 0) rfl))
        have Av_a : Arv Z h12 a kc .double (4 : Int32) [(.double x0), (.double FP.dconst0), (.double x2), (.double x3)] (.double (0 : UInt64)) := Aw12
        have N12 := Fr.snoc X12 N0 g_a
        refine own_go (A := T12.setTop (mkF m 25 #[.val (.ref a), .val (.int (0 : Int32)), .val (.int (2 : Int32)), .val (.double y), .second, .val (.int (1 : Int32))] [])) (fun _ kz => st12 _ kz) ?_
        refine own_go (A := T12.setTop (mkF m 31 #[.val (.ref a), .val (.int (0 : Int32)), .val (.int (2 : Int32)), .val (.double y), .second, .val (.int (2 : Int32))] [])) (fun _ kz => ?_) ?_
        · show Steps p.tables e below (T12.setTop (mkF m 25 #[.val (.ref a), .val (.int (0 : Int32)), .val (.int (2 : Int32)), .val (.double y), .second, .val (.int (1 : Int32))] [])) _
          refine XS.iinc X12.here hx rfl (hb hby d1_25) rfl (l' := #[.val (.ref a), .val (.int (0 : Int32)), .val (.int (2 : Int32)), .val (.double y), .second, .val (.int (2 : Int32))]) rfl ?_
          show Steps p.tables e below (T12.setTop (mkF m 28 #[.val (.ref a), .val (.int (0 : Int32)), .val (.int (2 : Int32)), .val (.double y), .second, .val (.int (2 : Int32))] [])) _
          refine XS.goto X12.here hx rfl (pc0 := 28) (pc' := 3) rfl (hb hby d1_28) (by decide) (by decide) ?_
          show Steps p.tables e below (T12.setTop (mkF m 3 #[.val (.ref a), .val (.int (0 : Int32)), .val (.int (2 : Int32)), .val (.double y), .second, .val (.int (2 : Int32))] [])) _
          refine XS.iload X12.here hx rfl (hb hby d1_3) rfl ?_
          show Steps p.tables e below (T12.setTop (mkF m 5 #[.val (.ref a), .val (.int (0 : Int32)), .val (.int (2 : Int32)), .val (.double y), .second, .val (.int (2 : Int32))] [(.int (2 : Int32))])) _
          refine XS.iloadN X12.here hx rfl (hb hby d1_5) rfl ?_
          show Steps p.tables e below (T12.setTop (mkF m 6 #[.val (.ref a), .val (.int (0 : Int32)), .val (.int (2 : Int32)), .val (.double y), .second, .val (.int (2 : Int32))] [(.int (0 : Int32)), (.int (2 : Int32))])) _
          refine XS.iloadN X12.here hx rfl (hb hby d1_6) rfl ?_
          show Steps p.tables e below (T12.setTop (mkF m 7 #[.val (.ref a), .val (.int (0 : Int32)), .val (.int (2 : Int32)), .val (.double y), .second, .val (.int (2 : Int32))] [(.int (2 : Int32)), (.int (0 : Int32)), (.int (2 : Int32))])) _
          refine XS.iadd X12.here hx rfl (hb hby d1_7) rfl ?_
          show Steps p.tables e below (T12.setTop (mkF m 8 #[.val (.ref a), .val (.int (0 : Int32)), .val (.int (2 : Int32)), .val (.double y), .second, .val (.int (2 : Int32))] [(.int (2 : Int32)), (.int (2 : Int32))])) _
          refine XS.icmpYes X12.here hx rfl (pc0 := 8) (pc' := 31) rfl (hb hby d1_8) rfl (flt (by decide : ¬ ((2 : Int32) < (2 : Int32)))).2.1 (by decide) (by decide) ?_
          exact kz
        obtain ⟨fs, hrr, hrun, hended, hW, hsame⟩ := X12.leave (v := none) (fun _ => rfl)
        refine ⟨_, _, ?_, hrun, hended, _, _, rfl, ?_, ⟨_, rfl⟩, hW, hsame.mono (by decide) (by decide)⟩
        · show Steps p.tables e below (T12.setTop (mkF m 31 #[.val (.ref a), .val (.int (0 : Int32)), .val (.int (2 : Int32)), .val (.double y), .second, .val (.int (2 : Int32))] [])) _
          exact X12.returnOut hx Bd.returns (hb hby d1_31) hrr
        · show QrmFl Z a (0 : Int32) (2 : Int32) y kc x0 x1 x2 x3 h0 n0 _ T12.heap _
          rw [e12]
          exact ⟨rfl, N12, Kp12, by simpa [own_exp, hs5, hs11] using Av_a⟩
      · skip
        refine own_go (A := s₁.setTop (mkF m 25 #[.val (.ref a), .val (.int (0 : Int32)), .val (.int (2 : Int32)), .val (.double y), .second, .val (.int (1 : Int32))] [])) (fun _ kz => ?_) ?_
        · show Steps p.tables e below (s₁.setTop (mkF m 17 #[.val (.ref a), .val (.int (0 : Int32)), .val (.int (2 : Int32)), .val (.double y), .second, .val (.int (1 : Int32))] [(.int (cmpValue (FP.dcmp x1 y) .g))])) _
          refine XS.ifYes X0.here hx rfl (pc0 := 17) (pc' := 25) rfl (hb hby d1_17) rfl ((if0 _ _).trans (flt hs11).2.1) (by decide) (by decide) ?_
          exact kz
        refine own_go (A := s₁.setTop (mkF m 31 #[.val (.ref a), .val (.int (0 : Int32)), .val (.int (2 : Int32)), .val (.double y), .second, .val (.int (2 : Int32))] [])) (fun _ kz => ?_) ?_
        · show Steps p.tables e below (s₁.setTop (mkF m 25 #[.val (.ref a), .val (.int (0 : Int32)), .val (.int (2 : Int32)), .val (.double y), .second, .val (.int (1 : Int32))] [])) _
          refine XS.iinc X0.here hx rfl (hb hby d1_25) rfl (l' := #[.val (.ref a), .val (.int (0 : Int32)), .val (.int (2 : Int32)), .val (.double y), .second, .val (.int (2 : Int32))]) rfl ?_
          show Steps p.tables e below (s₁.setTop (mkF m 28 #[.val (.ref a), .val (.int (0 : Int32)), .val (.int (2 : Int32)), .val (.double y), .second, .val (.int (2 : Int32))] [])) _
          refine XS.goto X0.here hx rfl (pc0 := 28) (pc' := 3) rfl (hb hby d1_28) (by decide) (by decide) ?_
          show Steps p.tables e below (s₁.setTop (mkF m 3 #[.val (.ref a), .val (.int (0 : Int32)), .val (.int (2 : Int32)), .val (.double y), .second, .val (.int (2 : Int32))] [])) _
          refine XS.iload X0.here hx rfl (hb hby d1_3) rfl ?_
          show Steps p.tables e below (s₁.setTop (mkF m 5 #[.val (.ref a), .val (.int (0 : Int32)), .val (.int (2 : Int32)), .val (.double y), .second, .val (.int (2 : Int32))] [(.int (2 : Int32))])) _
          refine XS.iloadN X0.here hx rfl (hb hby d1_5) rfl ?_
          show Steps p.tables e below (s₁.setTop (mkF m 6 #[.val (.ref a), .val (.int (0 : Int32)), .val (.int (2 : Int32)), .val (.double y), .second, .val (.int (2 : Int32))] [(.int (0 : Int32)), (.int (2 : Int32))])) _
          refine XS.iloadN X0.here hx rfl (hb hby d1_6) rfl ?_
          show Steps p.tables e below (s₁.setTop (mkF m 7 #[.val (.ref a), .val (.int (0 : Int32)), .val (.int (2 : Int32)), .val (.double y), .second, .val (.int (2 : Int32))] [(.int (2 : Int32)), (.int (0 : Int32)), (.int (2 : Int32))])) _
          refine XS.iadd X0.here hx rfl (hb hby d1_7) rfl ?_
          show Steps p.tables e below (s₁.setTop (mkF m 8 #[.val (.ref a), .val (.int (0 : Int32)), .val (.int (2 : Int32)), .val (.double y), .second, .val (.int (2 : Int32))] [(.int (2 : Int32)), (.int (2 : Int32))])) _
          refine XS.icmpYes X0.here hx rfl (pc0 := 8) (pc' := 31) rfl (hb hby d1_8) rfl (flt (by decide : ¬ ((2 : Int32) < (2 : Int32)))).2.1 (by decide) (by decide) ?_
          exact kz
        obtain ⟨fs, hrr, hrun, hended, hW, hsame⟩ := X0.leave (v := none) (fun _ => rfl)
        refine ⟨_, _, ?_, hrun, hended, _, _, rfl, ?_, ⟨_, rfl⟩, hW, hsame.mono (by decide) (by decide)⟩
        · show Steps p.tables e below (s₁.setTop (mkF m 31 #[.val (.ref a), .val (.int (0 : Int32)), .val (.int (2 : Int32)), .val (.double y), .second, .val (.int (2 : Int32))] [])) _
          exact X0.returnOut hx Bd.returns (hb hby d1_31) hrr
        · show QrmFl Z a (0 : Int32) (2 : Int32) y kc x0 x1 x2 x3 h0 n0 _ s₁.heap _
          rw [e0]
          exact ⟨rfl, N0, Kp0, by simpa [own_exp, hs5, hs11] using Av⟩
  · skip
    refine own_go (A := s₁.setTop (mkF m 14 #[.val (.ref a), .val (.int (0 : Int32)), .val (.int (3 : Int32)), .val (.double y), .second, .val (.int (0 : Int32))] [(.int (0 : Int32)), (.ref a)])) (fun _ kz => ?_) ?_
    · show Steps p.tables e below (s₁.setTop (mkF m 0 #[.val (.ref a), .val (.int (0 : Int32)), .val (.int (3 : Int32)), .val (.double y), .second, .unset] [])) _
      refine XS.iloadN X0.here hx rfl (hb hby d1_0) rfl ?_
      show Steps p.tables e below (s₁.setTop (mkF m 1 #[.val (.ref a), .val (.int (0 : Int32)), .val (.int (3 : Int32)), .val (.double y), .second, .unset] [(.int (0 : Int32))])) _
      refine XS.istore X0.here hx rfl (hb hby d1_1) rfl (l' := #[.val (.ref a), .val (.int (0 : Int32)), .val (.int (3 : Int32)), .val (.double y), .second, .val (.int (0 : Int32))]) rfl ?_
      show Steps p.tables e below (s₁.setTop (mkF m 3 #[.val (.ref a), .val (.int (0 : Int32)), .val (.int (3 : Int32)), .val (.double y), .second, .val (.int (0 : Int32))] [])) _
      refine XS.iload X0.here hx rfl (hb hby d1_3) rfl ?_
      show Steps p.tables e below (s₁.setTop (mkF m 5 #[.val (.ref a), .val (.int (0 : Int32)), .val (.int (3 : Int32)), .val (.double y), .second, .val (.int (0 : Int32))] [(.int (0 : Int32))])) _
      refine XS.iloadN X0.here hx rfl (hb hby d1_5) rfl ?_
      show Steps p.tables e below (s₁.setTop (mkF m 6 #[.val (.ref a), .val (.int (0 : Int32)), .val (.int (3 : Int32)), .val (.double y), .second, .val (.int (0 : Int32))] [(.int (0 : Int32)), (.int (0 : Int32))])) _
      refine XS.iloadN X0.here hx rfl (hb hby d1_6) rfl ?_
      show Steps p.tables e below (s₁.setTop (mkF m 7 #[.val (.ref a), .val (.int (0 : Int32)), .val (.int (3 : Int32)), .val (.double y), .second, .val (.int (0 : Int32))] [(.int (3 : Int32)), (.int (0 : Int32)), (.int (0 : Int32))])) _
      refine XS.iadd X0.here hx rfl (hb hby d1_7) rfl ?_
      show Steps p.tables e below (s₁.setTop (mkF m 8 #[.val (.ref a), .val (.int (0 : Int32)), .val (.int (3 : Int32)), .val (.double y), .second, .val (.int (0 : Int32))] [(.int (3 : Int32)), (.int (0 : Int32))])) _
      refine XS.icmpNo X0.here hx rfl (hb hby d1_8) rfl (tlt (by decide : ((0 : Int32) < (3 : Int32)))).2.1 ?_
      show Steps p.tables e below (s₁.setTop (mkF m 11 #[.val (.ref a), .val (.int (0 : Int32)), .val (.int (3 : Int32)), .val (.double y), .second, .val (.int (0 : Int32))] [])) _
      refine XS.aloadN X0.here hx rfl (hb hby d1_11) rfl rfl ?_
      show Steps p.tables e below (s₁.setTop (mkF m 12 #[.val (.ref a), .val (.int (0 : Int32)), .val (.int (3 : Int32)), .val (.double y), .second, .val (.int (0 : Int32))] [(.ref a)])) _
      refine XS.iload X0.here hx rfl (hb hby d1_12) rfl ?_
      exact kz
    obtain ⟨cl13, Ar13, -, S13, M13, H13, -⟩ := id Av
    have hin13 : ¬ ((0 : Int32) < 0 ∨ cl13.slots.size ≤ ((0 : Int32)).toNatClampNeg) := inb_of S13 ⟨by decide, by decide⟩
    have hat13 : cl13.slots[((0 : Int32)).toNatClampNeg]? = some (.double x0) := H13.at hin13 rfl
    refine own_go (A := s₁.setTop (mkF m 15 #[.val (.ref a), .val (.int (0 : Int32)), .val (.int (3 : Int32)), .val (.double y), .second, .val (.int (0 : Int32))] [(.double x0)])) (fun _ kz => ?_) ?_
    · refine X0.daload hx (j := (0 : Int32)) (v := (.double x0)) (by rw [e0]; exact Ar13.1) (State.isArrayOf_alike hZ.alike Ar13.2.1) Ar13.2.2 hin13 hat13 (g := (mkF m 14 #[.val (.ref a), .val (.int (0 : Int32)), .val (.int (3 : Int32)), .val (.double y), .second, .val (.int (0 : Int32))] [(.int (0 : Int32)), (.ref a)])) rfl rfl (hb hby d1_14) _ ?_
      exact kz
    refine own_go (A := s₁.setTop (mkF m 17 #[.val (.ref a), .val (.int (0 : Int32)), .val (.int (3 : Int32)), .val (.double y), .second, .val (.int (0 : Int32))] [(.int (cmpValue (FP.dcmp x0 y) .g))])) (fun _ kz => ?_) ?_
    · show Steps p.tables e below (s₁.setTop (mkF m 15 #[.val (.ref a), .val (.int (0 : Int32)), .val (.int (3 : Int32)), .val (.double y), .second, .val (.int (0 : Int32))] [(.double x0)])) _
      refine XS.dloadN X0.here hx rfl (hb hby d1_15) rfl ?_
      show Steps p.tables e below (s₁.setTop (mkF m 16 #[.val (.ref a), .val (.int (0 : Int32)), .val (.int (3 : Int32)), .val (.double y), .second, .val (.int (0 : Int32))] [(.double y), (.double x0)])) _
      refine XS.dcmpS X0.here hx rfl (hb hby d1_16) rfl rfl ?_
      exact kz
    by_cases hs14 : (cmpValue (FP.dcmp x0 y) .g) < (0 : Int32)
    · skip
      refine own_go (A := s₁.setTop (mkF m 20 #[.val (.ref a), .val (.int (0 : Int32)), .val (.int (3 : Int32)), .val (.double y), .second, .val (.int (0 : Int32))] [])) (fun _ kz => ?_) ?_
      · show Steps p.tables e below (s₁.setTop (mkF m 17 #[.val (.ref a), .val (.int (0 : Int32)), .val (.int (3 : Int32)), .val (.double y), .second, .val (.int (0 : Int32))] [(.int (cmpValue (FP.dcmp x0 y) .g))])) _
        refine XS.ifNo X0.here hx rfl (hb hby d1_17) rfl ((if0 _ _).trans (tlt hs14).2.1) ?_
        exact kz
      refine own_go (A := s₁.setTop (mkF m 24 #[.val (.ref a), .val (.int (0 : Int32)), .val (.int (3 : Int32)), .val (.double y), .second, .val (.int (0 : Int32))] [(.double FP.dconst0), (.int (0 : Int32)), (.ref a)])) (fun _ kz => ?_) ?_
      · show Steps p.tables e below (s₁.setTop (mkF m 20 #[.val (.ref a), .val (.int (0 : Int32)), .val (.int (3 : Int32)), .val (.double y), .second, .val (.int (0 : Int32))] [])) _
        refine XS.aloadN X0.here hx rfl (hb hby d1_20) rfl rfl ?_
        show Steps p.tables e below (s₁.setTop (mkF m 21 #[.val (.ref a), .val (.int (0 : Int32)), .val (.int (3 : Int32)), .val (.double y), .second, .val (.int (0 : Int32))] [(.ref a)])) _
        refine XS.iload X0.here hx rfl (hb hby d1_21) rfl ?_
        show Steps p.tables e below (s₁.setTop (mkF m 23 #[.val (.ref a), .val (.int (0 : Int32)), .val (.int (3 : Int32)), .val (.double y), .second, .val (.int (0 : Int32))] [(.int (0 : Int32)), (.ref a)])) _
        refine XS.dconst0 X0.here hx rfl (hb hby d1_23) rfl ?_
        exact kz
      obtain ⟨cl15, Ar15, q15, S15, M15, H15, G15⟩ := id Av
      have hin15 : ¬ ((0 : Int32) < 0 ∨ cl15.slots.size ≤ ((0 : Int32)).toNatClampNeg) := inb_of S15 ⟨by decide, by decide⟩
      obtain ⟨T15, h15, X15, e15, W15, st15⟩ := stD X0 hx hZ e0 Ar15 (j := (0 : Int32)) hin15 (g := (mkF m 24 #[.val (.ref a), .val (.int (0 : Int32)), .val (.int (3 : Int32)), .val (.double y), .second, .val (.int (0 : Int32))] [(.double FP.dconst0), (.int (0 : Int32)), (.ref a)])) rfl rfl (hb hby d1_24)
      have Aw15 := Arv.set Ar15 q15 S15 M15 H15 G15 rfl W15 0 rfl (Nat.le_of_ble_eq_true rfl)
      have Z15 : n0 ≤ h15.size := Nat.le_trans Z0 (Keep.of_wr W15).1
      have Kp15 : Keep h0 h15 [a] := Kp0.wr W15 (Or.inl (List.mem_of_getElem? (i := 0) rfl))
      have Av_a : Arv Z h15 a kc .double (4 : Int32) [(.double FP.dconst0), (.double x1), (.double x2), (.double x3)] (.double (0 : UInt64)) := Aw15
      have N15 := Fr.snoc X15 N0 g_a
      refine own_go (A := T15.setTop (mkF m 25 #[.val (.ref a), .val (.int (0 : Int32)), .val (.int (3 : Int32)), .val (.double y), .second, .val (.int (0 : Int32))] [])) (fun _ kz => st15 _ kz) ?_
      refine own_go (A := T15.setTop (mkF m 14 #[.val (.ref a), .val (.int (0 : Int32)), .val (.int (3 : Int32)), .val (.double y), .second, .val (.int (1 : Int32))] [(.int (1 : Int32)), (.ref a)])) (fun _ kz => ?_) ?_
      · show Steps p.tables e below (T15.setTop (mkF m 25 #[.val (.ref a), .val (.int (0 : Int32)), .val (.int (3 : Int32)), .val (.double y), .second, .val (.int (0 : Int32))] [])) _
        refine XS.iinc X15.here hx rfl (hb hby d1_25) rfl (l' := #[.val (.ref a), .val (.int (0 : Int32)), .val (.int (3 : Int32)), .val (.double y), .second, .val (.int (1 : Int32))]) rfl ?_
        show Steps p.tables e below (T15.setTop (mkF m 28 #[.val (.ref a), .val (.int (0 : Int32)), .val (.int (3 : Int32)), .val (.double y), .second, .val (.int (1 : Int32))] [])) _
        refine XS.goto X15.here hx rfl (pc0 := 28) (pc' := 3) rfl (hb hby d1_28) (by decide) (by decide) ?_
        show Steps p.tables e below (T15.setTop (mkF m 3 #[.val (.ref a), .val (.int (0 : Int32)), .val (.int (3 : Int32)), .val (.double y), .second, .val (.int (1 : Int32))] [])) _
        refine XS.iload X15.here hx rfl (hb hby d1_3) rfl ?_
        show Steps p.tables e below (T15.setTop (mkF m 5 #[.val (.ref a), .val (.int (0 : Int32)), .val (.int (3 : Int32)), .val (.double y), .second, .val (.int (1 : Int32))] [(.int (1 : Int32))])) _
        refine XS.iloadN X15.here hx rfl (hb hby d1_5) rfl ?_
        show Steps p.tables e below (T15.setTop (mkF m 6 #[.val (.ref a), .val (.int (0 : Int32)), .val (.int (3 : Int32)), .val (.double y), .second, .val (.int (1 : Int32))] [(.int (0 : Int32)), (.int (1 : Int32))])) _
        refine XS.iloadN X15.here hx rfl (hb hby d1_6) rfl ?_
        show Steps p.tables e below (T15.setTop (mkF m 7 #[.val (.ref a), .val (.int (0 : Int32)), .val (.int (3 : Int32)), .val (.double y), .second, .val (.int (1 : Int32))] [(.int (3 : Int32)), (.int (0 : Int32)), (.int (1 : Int32))])) _
        refine XS.iadd X15.here hx rfl (hb hby d1_7) rfl ?_
        show Steps p.tables e below (T15.setTop (mkF m 8 #[.val (.ref a), .val (.int (0 : Int32)), .val (.int (3 : Int32)), .val (.double y), .second, .val (.int (1 : Int32))] [(.int (3 : Int32)), (.int (1 : Int32))])) _
        refine XS.icmpNo X15.here hx rfl (hb hby d1_8) rfl (tlt (by decide : ((1 : Int32) < (3 : Int32)))).2.1 ?_
        show Steps p.tables e below (T15.setTop (mkF m 11 #[.val (.ref a), .val (.int (0 : Int32)), .val (.int (3 : Int32)), .val (.double y), .second, .val (.int (1 : Int32))] [])) _
        refine XS.aloadN X15.here hx rfl (hb hby d1_11) rfl rfl ?_
        show Steps p.tables e below (T15.setTop (mkF m 12 #[.val (.ref a), .val (.int (0 : Int32)), .val (.int (3 : Int32)), .val (.double y), .second, .val (.int (1 : Int32))] [(.ref a)])) _
        refine XS.iload X15.here hx rfl (hb hby d1_12) rfl ?_
        exact kz
      obtain ⟨cl16, Ar16, -, S16, M16, H16, -⟩ := id Av_a
      have hin16 : ¬ ((1 : Int32) < 0 ∨ cl16.slots.size ≤ ((1 : Int32)).toNatClampNeg) := inb_of S16 ⟨by decide, by decide⟩
      have hat16 : cl16.slots[((1 : Int32)).toNatClampNeg]? = some (.double x1) := H16.at hin16 rfl
      refine own_go (A := T15.setTop (mkF m 15 #[.val (.ref a), .val (.int (0 : Int32)), .val (.int (3 : Int32)), .val (.double y), .second, .val (.int (1 : Int32))] [(.double x1)])) (fun _ kz => ?_) ?_
      · refine X15.daload hx (j := (1 : Int32)) (v := (.double x1)) (by rw [e15]; exact Ar16.1) (State.isArrayOf_alike hZ.alike Ar16.2.1) Ar16.2.2 hin16 hat16 (g := (mkF m 14 #[.val (.ref a), .val (.int (0 : Int32)), .val (.int (3 : Int32)), .val (.double y), .second, .val (.int (1 : Int32))] [(.int (1 : Int32)), (.ref a)])) rfl rfl (hb hby d1_14) _ ?_
        exact kz
      refine own_go (A := T15.setTop (mkF m 17 #[.val (.ref a), .val (.int (0 : Int32)), .val (.int (3 : Int32)), .val (.double y), .second, .val (.int (1 : Int32))] [(.int (cmpValue (FP.dcmp x1 y) .g))])) (fun _ kz => ?_) ?_
      · show Steps p.tables e below (T15.setTop (mkF m 15 #[.val (.ref a), .val (.int (0 : Int32)), .val (.int (3 : Int32)), .val (.double y), .second, .val (.int (1 : Int32))] [(.double x1)])) _
        refine XS.dloadN X15.here hx rfl (hb hby d1_15) rfl ?_
        show Steps p.tables e below (T15.setTop (mkF m 16 #[.val (.ref a), .val (.int (0 : Int32)), .val (.int (3 : Int32)), .val (.double y), .second, .val (.int (1 : Int32))] [(.double y), (.double x1)])) _
        refine XS.dcmpS X15.here hx rfl (hb hby d1_16) rfl rfl ?_
        exact kz
      by_cases hs17 : (cmpValue (FP.dcmp x1 y) .g) < (0 : Int32)
      · skip
        refine own_go (A := T15.setTop (mkF m 20 #[.val (.ref a), .val (.int (0 : Int32)), .val (.int (3 : Int32)), .val (.double y), .second, .val (.int (1 : Int32))] [])) (fun _ kz => ?_) ?_
        · show Steps p.tables e below (T15.setTop (mkF m 17 #[.val (.ref a), .val (.int (0 : Int32)), .val (.int (3 : Int32)), .val (.double y), .second, .val (.int (1 : Int32))] [(.int (cmpValue (FP.dcmp x1 y) .g))])) _
          refine XS.ifNo X15.here hx rfl (hb hby d1_17) rfl ((if0 _ _).trans (tlt hs17).2.1) ?_
          exact kz
        refine own_go (A := T15.setTop (mkF m 24 #[.val (.ref a), .val (.int (0 : Int32)), .val (.int (3 : Int32)), .val (.double y), .second, .val (.int (1 : Int32))] [(.double FP.dconst0), (.int (1 : Int32)), (.ref a)])) (fun _ kz => ?_) ?_
        · show Steps p.tables e below (T15.setTop (mkF m 20 #[.val (.ref a), .val (.int (0 : Int32)), .val (.int (3 : Int32)), .val (.double y), .second, .val (.int (1 : Int32))] [])) _
          refine XS.aloadN X15.here hx rfl (hb hby d1_20) rfl rfl ?_
          show Steps p.tables e below (T15.setTop (mkF m 21 #[.val (.ref a), .val (.int (0 : Int32)), .val (.int (3 : Int32)), .val (.double y), .second, .val (.int (1 : Int32))] [(.ref a)])) _
          refine XS.iload X15.here hx rfl (hb hby d1_21) rfl ?_
          show Steps p.tables e below (T15.setTop (mkF m 23 #[.val (.ref a), .val (.int (0 : Int32)), .val (.int (3 : Int32)), .val (.double y), .second, .val (.int (1 : Int32))] [(.int (1 : Int32)), (.ref a)])) _
          refine XS.dconst0 X15.here hx rfl (hb hby d1_23) rfl ?_
          exact kz
        obtain ⟨cl18, Ar18, q18, S18, M18, H18, G18⟩ := id Av_a
        have hin18 : ¬ ((1 : Int32) < 0 ∨ cl18.slots.size ≤ ((1 : Int32)).toNatClampNeg) := inb_of S18 ⟨by decide, by decide⟩
        obtain ⟨T18, h18, X18, e18, W18, st18⟩ := stD X15 hx hZ e15 Ar18 (j := (1 : Int32)) hin18 (g := (mkF m 24 #[.val (.ref a), .val (.int (0 : Int32)), .val (.int (3 : Int32)), .val (.double y), .second, .val (.int (1 : Int32))] [(.double FP.dconst0), (.int (1 : Int32)), (.ref a)])) rfl rfl (hb hby d1_24)
        have Aw18 := Arv.set Ar18 q18 S18 M18 H18 G18 rfl W18 1 rfl (Nat.le_of_ble_eq_true rfl)
        have Z18 : n0 ≤ h18.size := Nat.le_trans Z15 (Keep.of_wr W18).1
        have Kp18 : Keep h0 h18 [a] := Kp15.wr W18 (Or.inl (List.mem_of_getElem? (i := 0) rfl))
        have Av_a : Arv Z h18 a kc .double (4 : Int32) [(.double FP.dconst0), (.double FP.dconst0), (.double x2), (.double x3)] (.double (0 : UInt64)) := Aw18
        have N18 := Fr.snoc X18 N15 g_a
        refine own_go (A := T18.setTop (mkF m 25 #[.val (.ref a), .val (.int (0 : Int32)), .val (.int (3 : Int32)), .val (.double y), .second, .val (.int (1 : Int32))] [])) (fun _ kz => st18 _ kz) ?_
        refine own_go (A := T18.setTop (mkF m 14 #[.val (.ref a), .val (.int (0 : Int32)), .val (.int (3 : Int32)), .val (.double y), .second, .val (.int (2 : Int32))] [(.int (2 : Int32)), (.ref a)])) (fun _ kz => ?_) ?_
        · show Steps p.tables e below (T18.setTop (mkF m 25 #[.val (.ref a), .val (.int (0 : Int32)), .val (.int (3 : Int32)), .val (.double y), .second, .val (.int (1 : Int32))] [])) _
          refine XS.iinc X18.here hx rfl (hb hby d1_25) rfl (l' := #[.val (.ref a), .val (.int (0 : Int32)), .val (.int (3 : Int32)), .val (.double y), .second, .val (.int (2 : Int32))]) rfl ?_
          show Steps p.tables e below (T18.setTop (mkF m 28 #[.val (.ref a), .val (.int (0 : Int32)), .val (.int (3 : Int32)), .val (.double y), .second, .val (.int (2 : Int32))] [])) _
          refine XS.goto X18.here hx rfl (pc0 := 28) (pc' := 3) rfl (hb hby d1_28) (by decide) (by decide) ?_
          show Steps p.tables e below (T18.setTop (mkF m 3 #[.val (.ref a), .val (.int (0 : Int32)), .val (.int (3 : Int32)), .val (.double y), .second, .val (.int (2 : Int32))] [])) _
          refine XS.iload X18.here hx rfl (hb hby d1_3) rfl ?_
          show Steps p.tables e below (T18.setTop (mkF m 5 #[.val (.ref a), .val (.int (0 : Int32)), .val (.int (3 : Int32)), .val (.double y), .second, .val (.int (2 : Int32))] [(.int (2 : Int32))])) _
          refine XS.iloadN X18.here hx rfl (hb hby d1_5) rfl ?_
          show Steps p.tables e below (T18.setTop (mkF m 6 #[.val (.ref a), .val (.int (0 : Int32)), .val (.int (3 : Int32)), .val (.double y), .second, .val (.int (2 : Int32))] [(.int (0 : Int32)), (.int (2 : Int32))])) _
          refine XS.iloadN X18.here hx rfl (hb hby d1_6) rfl ?_
          show Steps p.tables e below (T18.setTop (mkF m 7 #[.val (.ref a), .val (.int (0 : Int32)), .val (.int (3 : Int32)), .val (.double y), .second, .val (.int (2 : Int32))] [(.int (3 : Int32)), (.int (0 : Int32)), (.int (2 : Int32))])) _
          refine XS.iadd X18.here hx rfl (hb hby d1_7) rfl ?_
          show Steps p.tables e below (T18.setTop (mkF m 8 #[.val (.ref a), .val (.int (0 : Int32)), .val (.int (3 : Int32)), .val (.double y), .second, .val (.int (2 : Int32))] [(.int (3 : Int32)), (.int (2 : Int32))])) _
          refine XS.icmpNo X18.here hx rfl (hb hby d1_8) rfl (tlt (by decide : ((2 : Int32) < (3 : Int32)))).2.1 ?_
          show Steps p.tables e below (T18.setTop (mkF m 11 #[.val (.ref a), .val (.int (0 : Int32)), .val (.int (3 : Int32)), .val (.double y), .second, .val (.int (2 : Int32))] [])) _
          refine XS.aloadN X18.here hx rfl (hb hby d1_11) rfl rfl ?_
          show Steps p.tables e below (T18.setTop (mkF m 12 #[.val (.ref a), .val (.int (0 : Int32)), .val (.int (3 : Int32)), .val (.double y), .second, .val (.int (2 : Int32))] [(.ref a)])) _
          refine XS.iload X18.here hx rfl (hb hby d1_12) rfl ?_
          exact kz
        obtain ⟨cl19, Ar19, -, S19, M19, H19, -⟩ := id Av_a
        have hin19 : ¬ ((2 : Int32) < 0 ∨ cl19.slots.size ≤ ((2 : Int32)).toNatClampNeg) := inb_of S19 ⟨by decide, by decide⟩
        have hat19 : cl19.slots[((2 : Int32)).toNatClampNeg]? = some (.double x2) := H19.at hin19 rfl
        refine own_go (A := T18.setTop (mkF m 15 #[.val (.ref a), .val (.int (0 : Int32)), .val (.int (3 : Int32)), .val (.double y), .second, .val (.int (2 : Int32))] [(.double x2)])) (fun _ kz => ?_) ?_
        · refine X18.daload hx (j := (2 : Int32)) (v := (.double x2)) (by rw [e18]; exact Ar19.1) (State.isArrayOf_alike hZ.alike Ar19.2.1) Ar19.2.2 hin19 hat19 (g := (mkF m 14 #[.val (.ref a), .val (.int (0 : Int32)), .val (.int (3 : Int32)), .val (.double y), .second, .val (.int (2 : Int32))] [(.int (2 : Int32)), (.ref a)])) rfl rfl (hb hby d1_14) _ ?_
          exact kz
        refine own_go (A := T18.setTop (mkF m 17 #[.val (.ref a), .val (.int (0 : Int32)), .val (.int (3 : Int32)), .val (.double y), .second, .val (.int (2 : Int32))] [(.int (cmpValue (FP.dcmp x2 y) .g))])) (fun _ kz => ?_) ?_
        · show Steps p.tables e below (T18.setTop (mkF m 15 #[.val (.ref a), .val (.int (0 : Int32)), .val (.int (3 : Int32)), .val (.double y), .second, .val (.int (2 : Int32))] [(.double x2)])) _
          refine XS.dloadN X18.here hx rfl (hb hby d1_15) rfl ?_
          show Steps p.tables e below (T18.setTop (mkF m 16 #[.val (.ref a), .val (.int (0 : Int32)), .val (.int (3 : Int32)), .val (.double y), .second, .val (.int (2 : Int32))] [(.double y), (.double x2)])) _
          refine XS.dcmpS X18.here hx rfl (hb hby d1_16) rfl rfl ?_
          exact kz
        by_cases hs20 : (cmpValue (FP.dcmp x2 y) .g) < (0 : Int32)
        · skip
          refine own_go (A := T18.setTop (mkF m 20 #[.val (.ref a), .val (.int (0 : Int32)), .val (.int (3 : Int32)), .val (.double y), .second, .val (.int (2 : Int32))] [])) (fun _ kz => ?_) ?_
          · show Steps p.tables e below (T18.setTop (mkF m 17 #[.val (.ref a), .val (.int (0 : Int32)), .val (.int (3 : Int32)), .val (.double y), .second, .val (.int (2 : Int32))] [(.int (cmpValue (FP.dcmp x2 y) .g))])) _
            refine XS.ifNo X18.here hx rfl (hb hby d1_17) rfl ((if0 _ _).trans (tlt hs20).2.1) ?_
            exact kz
          refine own_go (A := T18.setTop (mkF m 24 #[.val (.ref a), .val (.int (0 : Int32)), .val (.int (3 : Int32)), .val (.double y), .second, .val (.int (2 : Int32))] [(.double FP.dconst0), (.int (2 : Int32)), (.ref a)])) (fun _ kz => ?_) ?_
          · show Steps p.tables e below (T18.setTop (mkF m 20 #[.val (.ref a), .val (.int (0 : Int32)), .val (.int (3 : Int32)), .val (.double y), .second, .val (.int (2 : Int32))] [])) _
            refine XS.aloadN X18.here hx rfl (hb hby d1_20) rfl rfl ?_
            show Steps p.tables e below (T18.setTop (mkF m 21 #[.val (.ref a), .val (.int (0 : Int32)), .val (.int (3 : Int32)), .val (.double y), .second, .val (.int (2 : Int32))] [(.ref a)])) _
            refine XS.iload X18.here hx rfl (hb hby d1_21) rfl ?_
            show Steps p.tables e below (T18.setTop (mkF m 23 #[.val (.ref a), .val (.int (0 : Int32)), .val (.int (3 : Int32)), .val (.double y), .second, .val (.int (2 : Int32))] [(.int (2 : Int32)), (.ref a)])) _
            refine XS.dconst0 X18.here hx rfl (hb hby d1_23) rfl ?_
            exact kz
          obtain ⟨cl21, Ar21, q21, S21, M21, H21, G21⟩ := id Av_a
          have hin21 : ¬ ((2 : Int32) < 0 ∨ cl21.slots.size ≤ ((2 : Int32)).toNatClampNeg) := inb_of S21 ⟨by decide, by decide⟩
          obtain ⟨T21, h21, X21, e21, W21, st21⟩ := stD X18 hx hZ e18 Ar21 (j := (2 : Int32)) hin21 (g := (mkF m 24 #[.val (.ref a), .val (.int (0 : Int32)), .val (.int (3 : Int32)), .val (.double y), .second, .val (.int (2 : Int32))] [(.double FP.dconst0), (.int (2 : Int32)), (.ref a)])) rfl rfl (hb hby d1_24)
          have Aw21 := Arv.set Ar21 q21 S21 M21 H21 G21 rfl W21 2 rfl (Nat.le_of_ble_eq_true rfl)
          have Z21 : n0 ≤ h21.size := Nat.le_trans Z18 (Keep.of_wr W21).1
          have Kp21 : Keep h0 h21 [a] := Kp18.wr W21 (Or.inl (List.mem_of_getElem? (i := 0) rfl))
          have Av_a : Arv Z h21 a kc .double (4 : Int32) [(.double FP.dconst0), (.double FP.dconst0), (.double FP.dconst0), (.double x3)] (.double (0 : UInt64)) := Aw21
          have N21 := Fr.snoc X21 N18 g_a
          refine own_go (A := T21.setTop (mkF m 25 #[.val (.ref a), .val (.int (0 : Int32)), .val (.int (3 : Int32)), .val (.double y), .second, .val (.int (2 : Int32))] [])) (fun _ kz => st21 _ kz) ?_
          refine own_go (A := T21.setTop (mkF m 31 #[.val (.ref a), .val (.int (0 : Int32)), .val (.int (3 : Int32)), .val (.double y), .second, .val (.int (3 : Int32))] [])) (fun _ kz => ?_) ?_
          · show Steps p.tables e below (T21.setTop (mkF m 25 #[.val (.ref a), .val (.int (0 : Int32)), .val (.int (3 : Int32)), .val (.double y), .second, .val (.int (2 : Int32))] [])) _
            refine XS.iinc X21.here hx rfl (hb hby d1_25) rfl (l' := #[.val (.ref a), .val (.int (0 : Int32)), .val (.int (3 : Int32)), .val (.double y), .second, .val (.int (3 : Int32))]) rfl ?_
            show Steps p.tables e below (T21.setTop (mkF m 28 #[.val (.ref a), .val (.int (0 : Int32)), .val (.int (3 : Int32)), .val (.double y), .second, .val (.int (3 : Int32))] [])) _
            refine XS.goto X21.here hx rfl (pc0 := 28) (pc' := 3) rfl (hb hby d1_28) (by decide) (by decide) ?_
            show Steps p.tables e below (T21.setTop (mkF m 3 #[.val (.ref a), .val (.int (0 : Int32)), .val (.int (3 : Int32)), .val (.double y), .second, .val (.int (3 : Int32))] [])) _
            refine XS.iload X21.here hx rfl (hb hby d1_3) rfl ?_
            show Steps p.tables e below (T21.setTop (mkF m 5 #[.val (.ref a), .val (.int (0 : Int32)), .val (.int (3 : Int32)), .val (.double y), .second, .val (.int (3 : Int32))] [(.int (3 : Int32))])) _
            refine XS.iloadN X21.here hx rfl (hb hby d1_5) rfl ?_
            show Steps p.tables e below (T21.setTop (mkF m 6 #[.val (.ref a), .val (.int (0 : Int32)), .val (.int (3 : Int32)), .val (.double y), .second, .val (.int (3 : Int32))] [(.int (0 : Int32)), (.int (3 : Int32))])) _
            refine XS.iloadN X21.here hx rfl (hb hby d1_6) rfl ?_
            show Steps p.tables e below (T21.setTop (mkF m 7 #[.val (.ref a), .val (.int (0 : Int32)), .val (.int (3 : Int32)), .val (.double y), .second, .val (.int (3 : Int32))] [(.int (3 : Int32)), (.int (0 : Int32)), (.int (3 : Int32))])) _
            refine XS.iadd X21.here hx rfl (hb hby d1_7) rfl ?_
            show Steps p.tables e below (T21.setTop (mkF m 8 #[.val (.ref a), .val (.int (0 : Int32)), .val (.int (3 : Int32)), .val (.double y), .second, .val (.int (3 : Int32))] [(.int (3 : Int32)), (.int (3 : Int32))])) _
            refine XS.icmpYes X21.here hx rfl (pc0 := 8) (pc' := 31) rfl (hb hby d1_8) rfl (flt (by decide : ¬ ((3 : Int32) < (3 : Int32)))).2.1 (by decide) (by decide) ?_
            exact kz
          obtain ⟨fs, hrr, hrun, hended, hW, hsame⟩ := X21.leave (v := none) (fun _ => rfl)
          refine ⟨_, _, ?_, hrun, hended, _, _, rfl, ?_, ⟨_, rfl⟩, hW, hsame.mono (by decide) (by decide)⟩
          · show Steps p.tables e below (T21.setTop (mkF m 31 #[.val (.ref a), .val (.int (0 : Int32)), .val (.int (3 : Int32)), .val (.double y), .second, .val (.int (3 : Int32))] [])) _
            exact X21.returnOut hx Bd.returns (hb hby d1_31) hrr
          · show QrmFl Z a (0 : Int32) (3 : Int32) y kc x0 x1 x2 x3 h0 n0 _ T21.heap _
            rw [e21]
            exact ⟨rfl, N21, Kp21, by simpa [own_exp, hs14, hs17, hs20] using Av_a⟩
        · skip
          refine own_go (A := T18.setTop (mkF m 25 #[.val (.ref a), .val (.int (0 : Int32)), .val (.int (3 : Int32)), .val (.double y), .second, .val (.int (2 : Int32))] [])) (fun _ kz => ?_) ?_
          · show Steps p.tables e below (T18.setTop (mkF m 17 #[.val (.ref a), .val (.int (0 : Int32)), .val (.int (3 : Int32)), .val (.double y), .second, .val (.int (2 : Int32))] [(.int (cmpValue (FP.dcmp x2 y) .g))])) _
            refine XS.ifYes X18.here hx rfl (pc0 := 17) (pc' := 25) rfl (hb hby d1_17) rfl ((if0 _ _).trans (flt hs20).2.1) (by decide) (by decide) ?_
            exact kz
          refine own_go (A := T18.setTop (mkF m 31 #[.val (.ref a), .val (.int (0 : Int32)), .val (.int (3 : Int32)), .val (.double y), .second, .val (.int (3 : Int32))] [])) (fun _ kz => ?_) ?_
          · show Steps p.tables e below (T18.setTop (mkF m 25 #[.val (.ref a), .val (.int (0 : Int32)), .val (.int (3 : Int32)), .val (.double y), .second, .val (.int (2 : Int32))] [])) _
            refine XS.iinc X18.here hx rfl (hb hby d1_25) rfl (l' := #[.val (.ref a), .val (.int (0 : Int32)), .val (.int (3 : Int32)), .val (.double y), .second, .val (.int (3 : Int32))]) rfl ?_
            show Steps p.tables e below (T18.setTop (mkF m 28 #[.val (.ref a), .val (.int (0 : Int32)), .val (.int (3 : Int32)), .val (.double y), .second, .val (.int (3 : Int32))] [])) _
            refine XS.goto X18.here hx rfl (pc0 := 28) (pc' := 3) rfl (hb hby d1_28) (by decide) (by decide) ?_
            show Steps p.tables e below (T18.setTop (mkF m 3 #[.val (.ref a), .val (.int (0 : Int32)), .val (.int (3 : Int32)), .val (.double y), .second, .val (.int (3 : Int32))] [])) _
            refine XS.iload X18.here hx rfl (hb hby d1_3) rfl ?_
            show Steps p.tables e below (T18.setTop (mkF m 5 #[.val (.ref a), .val (.int (0 : Int32)), .val (.int (3 : Int32)), .val (.double y), .second, .val (.int (3 : Int32))] [(.int (3 : Int32))])) _
            refine XS.iloadN X18.here hx rfl (hb hby d1_5) rfl ?_
            show Steps p.tables e below (T18.setTop (mkF m 6 #[.val (.ref a), .val (.int (0 : Int32)), .val (.int (3 : Int32)), .val (.double y), .second, .val (.int (3 : Int32))] [(.int (0 : Int32)), (.int (3 : Int32))])) _
            refine XS.iloadN X18.here hx rfl (hb hby d1_6) rfl ?_
            show Steps p.tables e below (T18.setTop (mkF m 7 #[.val (.ref a), .val (.int (0 : Int32)), .val (.int (3 : Int32)), .val (.double y), .second, .val (.int (3 : Int32))] [(.int (3 : Int32)), (.int (0 : Int32)), (.int (3 : Int32))])) _
            refine XS.iadd X18.here hx rfl (hb hby d1_7) rfl ?_
            show Steps p.tables e below (T18.setTop (mkF m 8 #[.val (.ref a), .val (.int (0 : Int32)), .val (.int (3 : Int32)), .val (.double y), .second, .val (.int (3 : Int32))] [(.int (3 : Int32)), (.int (3 : Int32))])) _
            refine XS.icmpYes X18.here hx rfl (pc0 := 8) (pc' := 31) rfl (hb hby d1_8) rfl (flt (by decide : ¬ ((3 : Int32) < (3 : Int32)))).2.1 (by decide) (by decide) ?_
            exact kz
          obtain ⟨fs, hrr, hrun, hended, hW, hsame⟩ := X18.leave (v := none) (fun _ => rfl)
          refine ⟨_, _, ?_, hrun, hended, _, _, rfl, ?_, ⟨_, rfl⟩, hW, hsame.mono (by decide) (by decide)⟩
          · show Steps p.tables e below (T18.setTop (mkF m 31 #[.val (.ref a), .val (.int (0 : Int32)), .val (.int (3 : Int32)), .val (.double y), .second, .val (.int (3 : Int32))] [])) _
            exact X18.returnOut hx Bd.returns (hb hby d1_31) hrr
          · show QrmFl Z a (0 : Int32) (3 : Int32) y kc x0 x1 x2 x3 h0 n0 _ T18.heap _
            rw [e18]
            exact ⟨rfl, N18, Kp18, by simpa [own_exp, hs14, hs17, hs20] using Av_a⟩
      · skip
        refine own_go (A := T15.setTop (mkF m 25 #[.val (.ref a), .val (.int (0 : Int32)), .val (.int (3 : Int32)), .val (.double y), .second, .val (.int (1 : Int32))] [])) (fun _ kz => ?_) ?_
        · show Steps p.tables e below (T15.setTop (mkF m 17 #[.val (.ref a), .val (.int (0 : Int32)), .val (.int (3 : Int32)), .val (.double y), .second, .val (.int (1 : Int32))] [(.int (cmpValue (FP.dcmp x1 y) .g))])) _
          refine XS.ifYes X15.here hx rfl (pc0 := 17) (pc' := 25) rfl (hb hby d1_17) rfl ((if0 _ _).trans (flt hs17).2.1) (by decide) (by decide) ?_
          exact kz
        refine own_go (A := T15.setTop (mkF m 14 #[.val (.ref a), .val (.int (0 : Int32)), .val (.int (3 : Int32)), .val (.double y), .second, .val (.int (2 : Int32))] [(.int (2 : Int32)), (.ref a)])) (fun _ kz => ?_) ?_
        · show Steps p.tables e below (T15.setTop (mkF m 25 #[.val (.ref a), .val (.int (0 : Int32)), .val (.int (3 : Int32)), .val (.double y), .second, .val (.int (1 : Int32))] [])) _
          refine XS.iinc X15.here hx rfl (hb hby d1_25) rfl (l' := #[.val (.ref a), .val (.int (0 : Int32)), .val (.int (3 : Int32)), .val (.double y), .second, .val (.int (2 : Int32))]) rfl ?_
          show Steps p.tables e below (T15.setTop (mkF m 28 #[.val (.ref a), .val (.int (0 : Int32)), .val (.int (3 : Int32)), .val (.double y), .second, .val (.int (2 : Int32))] [])) _
          refine XS.goto X15.here hx rfl (pc0 := 28) (pc' := 3) rfl (hb hby d1_28) (by decide) (by decide) ?_
          show Steps p.tables e below (T15.setTop (mkF m 3 #[.val (.ref a), .val (.int (0 : Int32)), .val (.int (3 : Int32)), .val (.double y), .second, .val (.int (2 : Int32))] [])) _
          refine XS.iload X15.here hx rfl (hb hby d1_3) rfl ?_
          show Steps p.tables e below (T15.setTop (mkF m 5 #[.val (.ref a), .val (.int (0 : Int32)), .val (.int (3 : Int32)), .val (.double y), .second, .val (.int (2 : Int32))] [(.int (2 : Int32))])) _
          refine XS.iloadN X15.here hx rfl (hb hby d1_5) rfl ?_
          show Steps p.tables e below (T15.setTop (mkF m 6 #[.val (.ref a), .val (.int (0 : Int32)), .val (.int (3 : Int32)), .val (.double y), .second, .val (.int (2 : Int32))] [(.int (0 : Int32)), (.int (2 : Int32))])) _
          refine XS.iloadN X15.here hx rfl (hb hby d1_6) rfl ?_
          show Steps p.tables e below (T15.setTop (mkF m 7 #[.val (.ref a), .val (.int (0 : Int32)), .val (.int (3 : Int32)), .val (.double y), .second, .val (.int (2 : Int32))] [(.int (3 : Int32)), (.int (0 : Int32)), (.int (2 : Int32))])) _
          refine XS.iadd X15.here hx rfl (hb hby d1_7) rfl ?_
          show Steps p.tables e below (T15.setTop (mkF m 8 #[.val (.ref a), .val (.int (0 : Int32)), .val (.int (3 : Int32)), .val (.double y), .second, .val (.int (2 : Int32))] [(.int (3 : Int32)), (.int (2 : Int32))])) _
          refine XS.icmpNo X15.here hx rfl (hb hby d1_8) rfl (tlt (by decide : ((2 : Int32) < (3 : Int32)))).2.1 ?_
          show Steps p.tables e below (T15.setTop (mkF m 11 #[.val (.ref a), .val (.int (0 : Int32)), .val (.int (3 : Int32)), .val (.double y), .second, .val (.int (2 : Int32))] [])) _
          refine XS.aloadN X15.here hx rfl (hb hby d1_11) rfl rfl ?_
          show Steps p.tables e below (T15.setTop (mkF m 12 #[.val (.ref a), .val (.int (0 : Int32)), .val (.int (3 : Int32)), .val (.double y), .second, .val (.int (2 : Int32))] [(.ref a)])) _
          refine XS.iload X15.here hx rfl (hb hby d1_12) rfl ?_
          exact kz
        obtain ⟨cl22, Ar22, -, S22, M22, H22, -⟩ := id Av_a
        have hin22 : ¬ ((2 : Int32) < 0 ∨ cl22.slots.size ≤ ((2 : Int32)).toNatClampNeg) := inb_of S22 ⟨by decide, by decide⟩
        have hat22 : cl22.slots[((2 : Int32)).toNatClampNeg]? = some (.double x2) := H22.at hin22 rfl
        refine own_go (A := T15.setTop (mkF m 15 #[.val (.ref a), .val (.int (0 : Int32)), .val (.int (3 : Int32)), .val (.double y), .second, .val (.int (2 : Int32))] [(.double x2)])) (fun _ kz => ?_) ?_
        · refine X15.daload hx (j := (2 : Int32)) (v := (.double x2)) (by rw [e15]; exact Ar22.1) (State.isArrayOf_alike hZ.alike Ar22.2.1) Ar22.2.2 hin22 hat22 (g := (mkF m 14 #[.val (.ref a), .val (.int (0 : Int32)), .val (.int (3 : Int32)), .val (.double y), .second, .val (.int (2 : Int32))] [(.int (2 : Int32)), (.ref a)])) rfl rfl (hb hby d1_14) _ ?_
          exact kz
        refine own_go (A := T15.setTop (mkF m 17 #[.val (.ref a), .val (.int (0 : Int32)), .val (.int (3 : Int32)), .val (.double y), .second, .val (.int (2 : Int32))] [(.int (cmpValue (FP.dcmp x2 y) .g))])) (fun _ kz => ?_) ?_
        · show Steps p.tables e below (T15.setTop (mkF m 15 #[.val (.ref a), .val (.int (0 : Int32)), .val (.int (3 : Int32)), .val (.double y), .second, .val (.int (2 : Int32))] [(.double x2)])) _
          refine XS.dloadN X15.here hx rfl (hb hby d1_15) rfl ?_
          show Steps p.tables e below (T15.setTop (mkF m 16 #[.val (.ref a), .val (.int (0 : Int32)), .val (.int (3 : Int32)), .val (.double y), .second, .val (.int (2 : Int32))] [(.double y), (.double x2)])) _
          refine XS.dcmpS X15.here hx rfl (hb hby d1_16) rfl rfl ?_
          exact kz
        by_cases hs23 : (cmpValue (FP.dcmp x2 y) .g) < (0 : Int32)
        · skip
          refine own_go (A := T15.setTop (mkF m 20 #[.val (.ref a), .val (.int (0 : Int32)), .val (.int (3 : Int32)), .val (.double y), .second, .val (.int (2 : Int32))] [])) (fun _ kz => ?_) ?_
          · show Steps p.tables e below (T15.setTop (mkF m 17 #[.val (.ref a), .val (.int (0 : Int32)), .val (.int (3 : Int32)), .val (.double y), .second, .val (.int (2 : Int32))] [(.int (cmpValue (FP.dcmp x2 y) .g))])) _
            refine XS.ifNo X15.here hx rfl (hb hby d1_17) rfl ((if0 _ _).trans (tlt hs23).2.1) ?_
            exact kz
          refine own_go (A := T15.setTop (mkF m 24 #[.val (.ref a), .val (.int (0 : Int32)), .val (.int (3 : Int32)), .val (.double y), .second, .val (.int (2 : Int32))] [(.double FP.dconst0), (.int (2 : Int32)), (.ref a)])) (fun _ kz => ?_) ?_
          · show Steps p.tables e below (T15.setTop (mkF m 20 #[.val (.ref a), .val (.int (0 : Int32)), .val (.int (3 : Int32)), .val (.double y), .second, .val (.int (2 : Int32))] [])) _
            refine XS.aloadN X15.here hx rfl (hb hby d1_20) rfl rfl ?_
            show Steps p.tables e below (T15.setTop (mkF m 21 #[.val (.ref a), .val (.int (0 : Int32)), .val (.int (3 : Int32)), .val (.double y), .second, .val (.int (2 : Int32))] [(.ref a)])) _
            refine XS.iload X15.here hx rfl (hb hby d1_21) rfl ?_
            show Steps p.tables e below (T15.setTop (mkF m 23 #[.val (.ref a), .val (.int (0 : Int32)), .val (.int (3 : Int32)), .val (.double y), .second, .val (.int (2 : Int32))] [(.int (2 : Int32)), (.ref a)])) _
            refine XS.dconst0 X15.here hx rfl (hb hby d1_23) rfl ?_
            exact kz
          obtain ⟨cl24, Ar24, q24, S24, M24, H24, G24⟩ := id Av_a
          have hin24 : ¬ ((2 : Int32) < 0 ∨ cl24.slots.size ≤ ((2 : Int32)).toNatClampNeg) := inb_of S24 ⟨by decide, by decide⟩
          obtain ⟨T24, h24, X24, e24, W24, st24⟩ := stD X15 hx hZ e15 Ar24 (j := (2 : Int32)) hin24 (g := (mkF m 24 #[.val (.ref a), .val (.int (0 : Int32)), .val (.int (3 : Int32)), .val (.double y), .second, .val (.int (2 : Int32))] [(.double FP.dconst0), (.int (2 : Int32)), (.ref a)])) rfl rfl (hb hby d1_24)
          have Aw24 := Arv.set Ar24 q24 S24 M24 H24 G24 rfl W24 2 rfl (Nat.le_of_ble_eq_true rfl)
          have Z24 : n0 ≤ h24.size := Nat.le_trans Z15 (Keep.of_wr W24).1
          have Kp24 : Keep h0 h24 [a] := Kp15.wr W24 (Or.inl (List.mem_of_getElem? (i := 0) rfl))
          have Av_a : Arv Z h24 a kc .double (4 : Int32) [(.double FP.dconst0), (.double x1), (.double FP.dconst0), (.double x3)] (.double (0 : UInt64)) := Aw24
          have N24 := Fr.snoc X24 N15 g_a
          refine own_go (A := T24.setTop (mkF m 25 #[.val (.ref a), .val (.int (0 : Int32)), .val (.int (3 : Int32)), .val (.double y), .second, .val (.int (2 : Int32))] [])) (fun _ kz => st24 _ kz) ?_
          refine own_go (A := T24.setTop (mkF m 31 #[.val (.ref a), .val (.int (0 : Int32)), .val (.int (3 : Int32)), .val (.double y), .second, .val (.int (3 : Int32))] [])) (fun _ kz => ?_) ?_
          · show Steps p.tables e below (T24.setTop (mkF m 25 #[.val (.ref a), .val (.int (0 : Int32)), .val (.int (3 : Int32)), .val (.double y), .second, .val (.int (2 : Int32))] [])) _
            refine XS.iinc X24.here hx rfl (hb hby d1_25) rfl (l' := #[.val (.ref a), .val (.int (0 : Int32)), .val (.int (3 : Int32)), .val (.double y), .second, .val (.int (3 : Int32))]) rfl ?_
            show Steps p.tables e below (T24.setTop (mkF m 28 #[.val (.ref a), .val (.int (0 : Int32)), .val (.int (3 : Int32)), .val (.double y), .second, .val (.int (3 : Int32))] [])) _
            refine XS.goto X24.here hx rfl (pc0 := 28) (pc' := 3) rfl (hb hby d1_28) (by decide) (by decide) ?_
            show Steps p.tables e below (T24.setTop (mkF m 3 #[.val (.ref a), .val (.int (0 : Int32)), .val (.int (3 : Int32)), .val (.double y), .second, .val (.int (3 : Int32))] [])) _
            refine XS.iload X24.here hx rfl (hb hby d1_3) rfl ?_
            show Steps p.tables e below (T24.setTop (mkF m 5 #[.val (.ref a), .val (.int (0 : Int32)), .val (.int (3 : Int32)), .val (.double y), .second, .val (.int (3 : Int32))] [(.int (3 : Int32))])) _
            refine XS.iloadN X24.here hx rfl (hb hby d1_5) rfl ?_
            show Steps p.tables e below (T24.setTop (mkF m 6 #[.val (.ref a), .val (.int (0 : Int32)), .val (.int (3 : Int32)), .val (.double y), .second, .val (.int (3 : Int32))] [(.int (0 : Int32)), (.int (3 : Int32))])) _
            refine XS.iloadN X24.here hx rfl (hb hby d1_6) rfl ?_
            show Steps p.tables e below (T24.setTop (mkF m 7 #[.val (.ref a), .val (.int (0 : Int32)), .val (.int (3 : Int32)), .val (.double y), .second, .val (.int (3 : Int32))] [(.int (3 : Int32)), (.int (0 : Int32)), (.int (3 : Int32))])) _
            refine XS.iadd X24.here hx rfl (hb hby d1_7) rfl ?_
            show Steps p.tables e below (T24.setTop (mkF m 8 #[.val (.ref a), .val (.int (0 : Int32)), .val (.int (3 : Int32)), .val (.double y), .second, .val (.int (3 : Int32))] [(.int (3 : Int32)), (.int (3 : Int32))])) _
            refine XS.icmpYes X24.here hx rfl (pc0 := 8) (pc' := 31) rfl (hb hby d1_8) rfl (flt (by decide : ¬ ((3 : Int32) < (3 : Int32)))).2.1 (by decide) (by decide) ?_
            exact kz
          obtain ⟨fs, hrr, hrun, hended, hW, hsame⟩ := X24.leave (v := none) (fun _ => rfl)
          refine ⟨_, _, ?_, hrun, hended, _, _, rfl, ?_, ⟨_, rfl⟩, hW, hsame.mono (by decide) (by decide)⟩
          · show Steps p.tables e below (T24.setTop (mkF m 31 #[.val (.ref a), .val (.int (0 : Int32)), .val (.int (3 : Int32)), .val (.double y), .second, .val (.int (3 : Int32))] [])) _
            exact X24.returnOut hx Bd.returns (hb hby d1_31) hrr
          · show QrmFl Z a (0 : Int32) (3 : Int32) y kc x0 x1 x2 x3 h0 n0 _ T24.heap _
            rw [e24]
            exact ⟨rfl, N24, Kp24, by simpa [own_exp, hs14, hs17, hs23] using Av_a⟩
        · skip
          refine own_go (A := T15.setTop (mkF m 25 #[.val (.ref a), .val (.int (0 : Int32)), .val (.int (3 : Int32)), .val (.double y), .second, .val (.int (2 : Int32))] [])) (fun _ kz => ?_) ?_
          · show Steps p.tables e below (T15.setTop (mkF m 17 #[.val (.ref a), .val (.int (0 : Int32)), .val (.int (3 : Int32)), .val (.double y), .second, .val (.int (2 : Int32))] [(.int (cmpValue (FP.dcmp x2 y) .g))])) _
            refine XS.ifYes X15.here hx rfl (pc0 := 17) (pc' := 25) rfl (hb hby d1_17) rfl ((if0 _ _).trans (flt hs23).2.1) (by decide) (by decide) ?_
            exact kz
          refine own_go (A := T15.setTop (mkF m 31 #[.val (.ref a), .val (.int (0 : Int32)), .val (.int (3 : Int32)), .val (.double y), .second, .val (.int (3 : Int32))] [])) (fun _ kz => ?_) ?_
          · show Steps p.tables e below (T15.setTop (mkF m 25 #[.val (.ref a), .val (.int (0 : Int32)), .val (.int (3 : Int32)), .val (.double y), .second, .val (.int (2 : Int32))] [])) _
            refine XS.iinc X15.here hx rfl (hb hby d1_25) rfl (l' := #[.val (.ref a), .val (.int (0 : Int32)), .val (.int (3 : Int32)), .val (.double y), .second, .val (.int (3 : Int32))]) rfl ?_
            show Steps p.tables e below (T15.setTop (mkF m 28 #[.val (.ref a), .val (.int (0 : Int32)), .val (.int (3 : Int32)), .val (.double y), .second, .val (.int (3 : Int32))] [])) _
            refine XS.goto X15.here hx rfl (pc0 := 28) (pc' := 3) rfl (hb hby d1_28) (by decide) (by decide) ?_
            show Steps p.tables e below (T15.setTop (mkF m 3 #[.val (.ref a), .val (.int (0 : Int32)), .val (.int (3 : Int32)), .val (.double y), .second, .val (.int (3 : Int32))] [])) _
            refine XS.iload X15.here hx rfl (hb hby d1_3) rfl ?_
            show Steps p.tables e below (T15.setTop (mkF m 5 #[.val (.ref a), .val (.int (0 : Int32)), .val (.int (3 : Int32)), .val (.double y), .second, .val (.int (3 : Int32))] [(.int (3 : Int32))])) _
            refine XS.iloadN X15.here hx rfl (hb hby d1_5) rfl ?_
            show Steps p.tables e below (T15.setTop (mkF m 6 #[.val (.ref a), .val (.int (0 : Int32)), .val (.int (3 : Int32)), .val (.double y), .second, .val (.int (3 : Int32))] [(.int (0 : Int32)), (.int (3 : Int32))])) _
            refine XS.iloadN X15.here hx rfl (hb hby d1_6) rfl ?_
            show Steps p.tables e below (T15.setTop (mkF m 7 #[.val (.ref a), .val (.int (0 : Int32)), .val (.int (3 : Int32)), .val (.double y), .second, .val (.int (3 : Int32))] [(.int (3 : Int32)), (.int (0 : Int32)), (.int (3 : Int32))])) _
            refine XS.iadd X15.here hx rfl (hb hby d1_7) rfl ?_
            show Steps p.tables e below (T15.setTop (mkF m 8 #[.val (.ref a), .val (.int (0 : Int32)), .val (.int (3 : Int32)), .val (.double y), .second, .val (.int (3 : Int32))] [(.int (3 : Int32)), (.int (3 : Int32))])) _
            refine XS.icmpYes X15.here hx rfl (pc0 := 8) (pc' := 31) rfl (hb hby d1_8) rfl (flt (by decide : ¬ ((3 : Int32) < (3 : Int32)))).2.1 (by decide) (by decide) ?_
            exact kz
          obtain ⟨fs, hrr, hrun, hended, hW, hsame⟩ := X15.leave (v := none) (fun _ => rfl)
          refine ⟨_, _, ?_, hrun, hended, _, _, rfl, ?_, ⟨_, rfl⟩, hW, hsame.mono (by decide) (by decide)⟩
          · show Steps p.tables e below (T15.setTop (mkF m 31 #[.val (.ref a), .val (.int (0 : Int32)), .val (.int (3 : Int32)), .val (.double y), .second, .val (.int (3 : Int32))] [])) _
            exact X15.returnOut hx Bd.returns (hb hby d1_31) hrr
          · show QrmFl Z a (0 : Int32) (3 : Int32) y kc x0 x1 x2 x3 h0 n0 _ T15.heap _
            rw [e15]
            exact ⟨rfl, N15, Kp15, by simpa [own_exp, hs14, hs17, hs23] using Av_a⟩
    · skip
      refine own_go (A := s₁.setTop (mkF m 25 #[.val (.ref a), .val (.int (0 : Int32)), .val (.int (3 : Int32)), .val (.double y), .second, .val (.int (0 : Int32))] [])) (fun _ kz => ?_) ?_
      · show Steps p.tables e below (s₁.setTop (mkF m 17 #[.val (.ref a), .val (.int (0 : Int32)), .val (.int (3 : Int32)), .val (.double y), .second, .val (.int (0 : Int32))] [(.int (cmpValue (FP.dcmp x0 y) .g))])) _
        refine XS.ifYes X0.here hx rfl (pc0 := 17) (pc' := 25) rfl (hb hby d1_17) rfl ((if0 _ _).trans (flt hs14).2.1) (by decide) (by decide) ?_
        exact kz
      refine own_go (A := s₁.setTop (mkF m 14 #[.val (.ref a), .val (.int (0 : Int32)), .val (.int (3 : Int32)), .val (.double y), .second, .val (.int (1 : Int32))] [(.int (1 : Int32)), (.ref a)])) (fun _ kz => ?_) ?_
      · show Steps p.tables e below (s₁.setTop (mkF m 25 #[.val (.ref a), .val (.int (0 : Int32)), .val (.int (3 : Int32)), .val (.double y), .second, .val (.int (0 : Int32))] [])) _
        refine XS.iinc X0.here hx rfl (hb hby d1_25) rfl (l' := #[.val (.ref a), .val (.int (0 : Int32)), .val (.int (3 : Int32)), .val (.double y), .second, .val (.int (1 : Int32))]) rfl ?_
        show Steps p.tables e below (s₁.setTop (mkF m 28 #[.val (.ref a), .val (.int (0 : Int32)), .val (.int (3 : Int32)), .val (.double y), .second, .val (.int (1 : Int32))] [])) _
        refine XS.goto X0.here hx rfl (pc0 := 28) (pc' := 3) rfl (hb hby d1_28) (by decide) (by decide) ?_
        show Steps p.tables e below (s₁.setTop (mkF m 3 #[.val (.ref a), .val (.int (0 : Int32)), .val (.int (3 : Int32)), .val (.double y), .second, .val (.int (1 : Int32))] [])) _
        refine XS.iload X0.here hx rfl (hb hby d1_3) rfl ?_
        show Steps p.tables e below (s₁.setTop (mkF m 5 #[.val (.ref a), .val (.int (0 : Int32)), .val (.int (3 : Int32)), .val (.double y), .second, .val (.int (1 : Int32))] [(.int (1 : Int32))])) _
        refine XS.iloadN X0.here hx rfl (hb hby d1_5) rfl ?_
        show Steps p.tables e below (s₁.setTop (mkF m 6 #[.val (.ref a), .val (.int (0 : Int32)), .val (.int (3 : Int32)), .val (.double y), .second, .val (.int (1 : Int32))] [(.int (0 : Int32)), (.int (1 : Int32))])) _
        refine XS.iloadN X0.here hx rfl (hb hby d1_6) rfl ?_
        show Steps p.tables e below (s₁.setTop (mkF m 7 #[.val (.ref a), .val (.int (0 : Int32)), .val (.int (3 : Int32)), .val (.double y), .second, .val (.int (1 : Int32))] [(.int (3 : Int32)), (.int (0 : Int32)), (.int (1 : Int32))])) _
        refine XS.iadd X0.here hx rfl (hb hby d1_7) rfl ?_
        show Steps p.tables e below (s₁.setTop (mkF m 8 #[.val (.ref a), .val (.int (0 : Int32)), .val (.int (3 : Int32)), .val (.double y), .second, .val (.int (1 : Int32))] [(.int (3 : Int32)), (.int (1 : Int32))])) _
        refine XS.icmpNo X0.here hx rfl (hb hby d1_8) rfl (tlt (by decide : ((1 : Int32) < (3 : Int32)))).2.1 ?_
        show Steps p.tables e below (s₁.setTop (mkF m 11 #[.val (.ref a), .val (.int (0 : Int32)), .val (.int (3 : Int32)), .val (.double y), .second, .val (.int (1 : Int32))] [])) _
        refine XS.aloadN X0.here hx rfl (hb hby d1_11) rfl rfl ?_
        show Steps p.tables e below (s₁.setTop (mkF m 12 #[.val (.ref a), .val (.int (0 : Int32)), .val (.int (3 : Int32)), .val (.double y), .second, .val (.int (1 : Int32))] [(.ref a)])) _
        refine XS.iload X0.here hx rfl (hb hby d1_12) rfl ?_
        exact kz
      obtain ⟨cl25, Ar25, -, S25, M25, H25, -⟩ := id Av
      have hin25 : ¬ ((1 : Int32) < 0 ∨ cl25.slots.size ≤ ((1 : Int32)).toNatClampNeg) := inb_of S25 ⟨by decide, by decide⟩
      have hat25 : cl25.slots[((1 : Int32)).toNatClampNeg]? = some (.double x1) := H25.at hin25 rfl
      refine own_go (A := s₁.setTop (mkF m 15 #[.val (.ref a), .val (.int (0 : Int32)), .val (.int (3 : Int32)), .val (.double y), .second, .val (.int (1 : Int32))] [(.double x1)])) (fun _ kz => ?_) ?_
      · refine X0.daload hx (j := (1 : Int32)) (v := (.double x1)) (by rw [e0]; exact Ar25.1) (State.isArrayOf_alike hZ.alike Ar25.2.1) Ar25.2.2 hin25 hat25 (g := (mkF m 14 #[.val (.ref a), .val (.int (0 : Int32)), .val (.int (3 : Int32)), .val (.double y), .second, .val (.int (1 : Int32))] [(.int (1 : Int32)), (.ref a)])) rfl rfl (hb hby d1_14) _ ?_
        exact kz
      refine own_go (A := s₁.setTop (mkF m 17 #[.val (.ref a), .val (.int (0 : Int32)), .val (.int (3 : Int32)), .val (.double y), .second, .val (.int (1 : Int32))] [(.int (cmpValue (FP.dcmp x1 y) .g))])) (fun _ kz => ?_) ?_
      · show Steps p.tables e below (s₁.setTop (mkF m 15 #[.val (.ref a), .val (.int (0 : Int32)), .val (.int (3 : Int32)), .val (.double y), .second, .val (.int (1 : Int32))] [(.double x1)])) _
        refine XS.dloadN X0.here hx rfl (hb hby d1_15) rfl ?_
        show Steps p.tables e below (s₁.setTop (mkF m 16 #[.val (.ref a), .val (.int (0 : Int32)), .val (.int (3 : Int32)), .val (.double y), .second, .val (.int (1 : Int32))] [(.double y), (.double x1)])) _
        refine XS.dcmpS X0.here hx rfl (hb hby d1_16) rfl rfl ?_
        exact kz
      by_cases hs26 : (cmpValue (FP.dcmp x1 y) .g) < (0 : Int32)
      · skip
        refine own_go (A := s₁.setTop (mkF m 20 #[.val (.ref a), .val (.int (0 : Int32)), .val (.int (3 : Int32)), .val (.double y), .second, .val (.int (1 : Int32))] [])) (fun _ kz => ?_) ?_
        · show Steps p.tables e below (s₁.setTop (mkF m 17 #[.val (.ref a), .val (.int (0 : Int32)), .val (.int (3 : Int32)), .val (.double y), .second, .val (.int (1 : Int32))] [(.int (cmpValue (FP.dcmp x1 y) .g))])) _
          refine XS.ifNo X0.here hx rfl (hb hby d1_17) rfl ((if0 _ _).trans (tlt hs26).2.1) ?_
          exact kz
        refine own_go (A := s₁.setTop (mkF m 24 #[.val (.ref a), .val (.int (0 : Int32)), .val (.int (3 : Int32)), .val (.double y), .second, .val (.int (1 : Int32))] [(.double FP.dconst0), (.int (1 : Int32)), (.ref a)])) (fun _ kz => ?_) ?_
        · show Steps p.tables e below (s₁.setTop (mkF m 20 #[.val (.ref a), .val (.int (0 : Int32)), .val (.int (3 : Int32)), .val (.double y), .second, .val (.int (1 : Int32))] [])) _
          refine XS.aloadN X0.here hx rfl (hb hby d1_20) rfl rfl ?_
          show Steps p.tables e below (s₁.setTop (mkF m 21 #[.val (.ref a), .val (.int (0 : Int32)), .val (.int (3 : Int32)), .val (.double y), .second, .val (.int (1 : Int32))] [(.ref a)])) _
          refine XS.iload X0.here hx rfl (hb hby d1_21) rfl ?_
          show Steps p.tables e below (s₁.setTop (mkF m 23 #[.val (.ref a), .val (.int (0 : Int32)), .val (.int (3 : Int32)), .val (.double y), .second, .val (.int (1 : Int32))] [(.int (1 : Int32)), (.ref a)])) _
          refine XS.dconst0 X0.here hx rfl (hb hby d1_23) rfl ?_
          exact kz
        obtain ⟨cl27, Ar27, q27, S27, M27, H27, G27⟩ := id Av
        have hin27 : ¬ ((1 : Int32) < 0 ∨ cl27.slots.size ≤ ((1 : Int32)).toNatClampNeg) := inb_of S27 ⟨by decide, by decide⟩
        obtain ⟨T27, h27, X27, e27, W27, st27⟩ := stD X0 hx hZ e0 Ar27 (j := (1 : Int32)) hin27 (g := (mkF m 24 #[.val (.ref a), .val (.int (0 : Int32)), .val (.int (3 : Int32)), .val (.double y), .second, .val (.int (1 : Int32))] [(.double FP.dconst0), (.int (1 : Int32)), (.ref a)])) rfl rfl (hb hby d1_24)
        have Aw27 := Arv.set Ar27 q27 S27 M27 H27 G27 rfl W27 1 rfl (Nat.le_of_ble_eq_true rfl)
        have Z27 : n0 ≤ h27.size := Nat.le_trans Z0 (Keep.of_wr W27).1
        have Kp27 : Keep h0 h27 [a] := Kp0.wr W27 (Or.inl (List.mem_of_getElem? (i := 0) rfl))
        have Av_a : Arv Z h27 a kc .double (4 : Int32) [(.double x0), (.double FP.dconst0), (.double x2), (.double x3)] (.double (0 : UInt64)) := Aw27
        have N27 := Fr.snoc X27 N0 g_a
        refine own_go (A := T27.setTop (mkF m 25 #[.val (.ref a), .val (.int (0 : Int32)), .val (.int (3 : Int32)), .val (.double y), .second, .val (.int (1 : Int32))] [])) (fun _ kz => st27 _ kz) ?_
        refine own_go (A := T27.setTop (mkF m 14 #[.val (.ref a), .val (.int (0 : Int32)), .val (.int (3 : Int32)), .val (.double y), .second, .val (.int (2 : Int32))] [(.int (2 : Int32)), (.ref a)])) (fun _ kz => ?_) ?_
        · show Steps p.tables e below (T27.setTop (mkF m 25 #[.val (.ref a), .val (.int (0 : Int32)), .val (.int (3 : Int32)), .val (.double y), .second, .val (.int (1 : Int32))] [])) _
          refine XS.iinc X27.here hx rfl (hb hby d1_25) rfl (l' := #[.val (.ref a), .val (.int (0 : Int32)), .val (.int (3 : Int32)), .val (.double y), .second, .val (.int (2 : Int32))]) rfl ?_
          show Steps p.tables e below (T27.setTop (mkF m 28 #[.val (.ref a), .val (.int (0 : Int32)), .val (.int (3 : Int32)), .val (.double y), .second, .val (.int (2 : Int32))] [])) _
          refine XS.goto X27.here hx rfl (pc0 := 28) (pc' := 3) rfl (hb hby d1_28) (by decide) (by decide) ?_
          show Steps p.tables e below (T27.setTop (mkF m 3 #[.val (.ref a), .val (.int (0 : Int32)), .val (.int (3 : Int32)), .val (.double y), .second, .val (.int (2 : Int32))] [])) _
          refine XS.iload X27.here hx rfl (hb hby d1_3) rfl ?_
          show Steps p.tables e below (T27.setTop (mkF m 5 #[.val (.ref a), .val (.int (0 : Int32)), .val (.int (3 : Int32)), .val (.double y), .second, .val (.int (2 : Int32))] [(.int (2 : Int32))])) _
          refine XS.iloadN X27.here hx rfl (hb hby d1_5) rfl ?_
          show Steps p.tables e below (T27.setTop (mkF m 6 #[.val (.ref a), .val (.int (0 : Int32)), .val (.int (3 : Int32)), .val (.double y), .second, .val (.int (2 : Int32))] [(.int (0 : Int32)), (.int (2 : Int32))])) _
          refine XS.iloadN X27.here hx rfl (hb hby d1_6) rfl ?_
          show Steps p.tables e below (T27.setTop (mkF m 7 #[.val (.ref a), .val (.int (0 : Int32)), .val (.int (3 : Int32)), .val (.double y), .second, .val (.int (2 : Int32))] [(.int (3 : Int32)), (.int (0 : Int32)), (.int (2 : Int32))])) _
          refine XS.iadd X27.here hx rfl (hb hby d1_7) rfl ?_
          show Steps p.tables e below (T27.setTop (mkF m 8 #[.val (.ref a), .val (.int (0 : Int32)), .val (.int (3 : Int32)), .val (.double y), .second, .val (.int (2 : Int32))] [(.int (3 : Int32)), (.int (2 : Int32))])) _
          refine XS.icmpNo X27.here hx rfl (hb hby d1_8) rfl (tlt (by decide : ((2 : Int32) < (3 : Int32)))).2.1 ?_
          show Steps p.tables e below (T27.setTop (mkF m 11 #[.val (.ref a), .val (.int (0 : Int32)), .val (.int (3 : Int32)), .val (.double y), .second, .val (.int (2 : Int32))] [])) _
          refine XS.aloadN X27.here hx rfl (hb hby d1_11) rfl rfl ?_
          show Steps p.tables e below (T27.setTop (mkF m 12 #[.val (.ref a), .val (.int (0 : Int32)), .val (.int (3 : Int32)), .val (.double y), .second, .val (.int (2 : Int32))] [(.ref a)])) _
          refine XS.iload X27.here hx rfl (hb hby d1_12) rfl ?_
          exact kz
        obtain ⟨cl28, Ar28, -, S28, M28, H28, -⟩ := id Av_a
        have hin28 : ¬ ((2 : Int32) < 0 ∨ cl28.slots.size ≤ ((2 : Int32)).toNatClampNeg) := inb_of S28 ⟨by decide, by decide⟩
        have hat28 : cl28.slots[((2 : Int32)).toNatClampNeg]? = some (.double x2) := H28.at hin28 rfl
        refine own_go (A := T27.setTop (mkF m 15 #[.val (.ref a), .val (.int (0 : Int32)), .val (.int (3 : Int32)), .val (.double y), .second, .val (.int (2 : Int32))] [(.double x2)])) (fun _ kz => ?_) ?_
        · refine X27.daload hx (j := (2 : Int32)) (v := (.double x2)) (by rw [e27]; exact Ar28.1) (State.isArrayOf_alike hZ.alike Ar28.2.1) Ar28.2.2 hin28 hat28 (g := (mkF m 14 #[.val (.ref a), .val (.int (0 : Int32)), .val (.int (3 : Int32)), .val (.double y), .second, .val (.int (2 : Int32))] [(.int (2 : Int32)), (.ref a)])) rfl rfl (hb hby d1_14) _ ?_
          exact kz
        refine own_go (A := T27.setTop (mkF m 17 #[.val (.ref a), .val (.int (0 : Int32)), .val (.int (3 : Int32)), .val (.double y), .second, .val (.int (2 : Int32))] [(.int (cmpValue (FP.dcmp x2 y) .g))])) (fun _ kz => ?_) ?_
        · show Steps p.tables e below (T27.setTop (mkF m 15 #[.val (.ref a), .val (.int (0 : Int32)), .val (.int (3 : Int32)), .val (.double y), .second, .val (.int (2 : Int32))] [(.double x2)])) _
          refine XS.dloadN X27.here hx rfl (hb hby d1_15) rfl ?_
          show Steps p.tables e below (T27.setTop (mkF m 16 #[.val (.ref a), .val (.int (0 : Int32)), .val (.int (3 : Int32)), .val (.double y), .second, .val (.int (2 : Int32))] [(.double y), (.double x2)])) _
          refine XS.dcmpS X27.here hx rfl (hb hby d1_16) rfl rfl ?_
          exact kz
        by_cases hs29 : (cmpValue (FP.dcmp x2 y) .g) < (0 : Int32)
        · skip
          refine own_go (A := T27.setTop (mkF m 20 #[.val (.ref a), .val (.int (0 : Int32)), .val (.int (3 : Int32)), .val (.double y), .second, .val (.int (2 : Int32))] [])) (fun _ kz => ?_) ?_
          · show Steps p.tables e below (T27.setTop (mkF m 17 #[.val (.ref a), .val (.int (0 : Int32)), .val (.int (3 : Int32)), .val (.double y), .second, .val (.int (2 : Int32))] [(.int (cmpValue (FP.dcmp x2 y) .g))])) _
            refine XS.ifNo X27.here hx rfl (hb hby d1_17) rfl ((if0 _ _).trans (tlt hs29).2.1) ?_
            exact kz
          refine own_go (A := T27.setTop (mkF m 24 #[.val (.ref a), .val (.int (0 : Int32)), .val (.int (3 : Int32)), .val (.double y), .second, .val (.int (2 : Int32))] [(.double FP.dconst0), (.int (2 : Int32)), (.ref a)])) (fun _ kz => ?_) ?_
          · show Steps p.tables e below (T27.setTop (mkF m 20 #[.val (.ref a), .val (.int (0 : Int32)), .val (.int (3 : Int32)), .val (.double y), .second, .val (.int (2 : Int32))] [])) _
            refine XS.aloadN X27.here hx rfl (hb hby d1_20) rfl rfl ?_
            show Steps p.tables e below (T27.setTop (mkF m 21 #[.val (.ref a), .val (.int (0 : Int32)), .val (.int (3 : Int32)), .val (.double y), .second, .val (.int (2 : Int32))] [(.ref a)])) _
            refine XS.iload X27.here hx rfl (hb hby d1_21) rfl ?_
            show Steps p.tables e below (T27.setTop (mkF m 23 #[.val (.ref a), .val (.int (0 : Int32)), .val (.int (3 : Int32)), .val (.double y), .second, .val (.int (2 : Int32))] [(.int (2 : Int32)), (.ref a)])) _
            refine XS.dconst0 X27.here hx rfl (hb hby d1_23) rfl ?_
            exact kz
          obtain ⟨cl30, Ar30, q30, S30, M30, H30, G30⟩ := id Av_a
          have hin30 : ¬ ((2 : Int32) < 0 ∨ cl30.slots.size ≤ ((2 : Int32)).toNatClampNeg) := inb_of S30 ⟨by decide, by decide⟩
          obtain ⟨T30, h30, X30, e30, W30, st30⟩ := stD X27 hx hZ e27 Ar30 (j := (2 : Int32)) hin30 (g := (mkF m 24 #[.val (.ref a), .val (.int (0 : Int32)), .val (.int (3 : Int32)), .val (.double y), .second, .val (.int (2 : Int32))] [(.double FP.dconst0), (.int (2 : Int32)), (.ref a)])) rfl rfl (hb hby d1_24)
          have Aw30 := Arv.set Ar30 q30 S30 M30 H30 G30 rfl W30 2 rfl (Nat.le_of_ble_eq_true rfl)
          have Z30 : n0 ≤ h30.size := Nat.le_trans Z27 (Keep.of_wr W30).1
          have Kp30 : Keep h0 h30 [a] := Kp27.wr W30 (Or.inl (List.mem_of_getElem? (i := 0) rfl))
          have Av_a : Arv Z h30 a kc .double (4 : Int32) [(.double x0), (.double FP.dconst0), (.double FP.dconst0), (.double x3)] (.double (0 : UInt64)) := Aw30
          have N30 := Fr.snoc X30 N27 g_a
          refine own_go (A := T30.setTop (mkF m 25 #[.val (.ref a), .val (.int (0 : Int32)), .val (.int (3 : Int32)), .val (.double y), .second, .val (.int (2 : Int32))] [])) (fun _ kz => st30 _ kz) ?_
          refine own_go (A := T30.setTop (mkF m 31 #[.val (.ref a), .val (.int (0 : Int32)), .val (.int (3 : Int32)), .val (.double y), .second, .val (.int (3 : Int32))] [])) (fun _ kz => ?_) ?_
          · show Steps p.tables e below (T30.setTop (mkF m 25 #[.val (.ref a), .val (.int (0 : Int32)), .val (.int (3 : Int32)), .val (.double y), .second, .val (.int (2 : Int32))] [])) _
            refine XS.iinc X30.here hx rfl (hb hby d1_25) rfl (l' := #[.val (.ref a), .val (.int (0 : Int32)), .val (.int (3 : Int32)), .val (.double y), .second, .val (.int (3 : Int32))]) rfl ?_
            show Steps p.tables e below (T30.setTop (mkF m 28 #[.val (.ref a), .val (.int (0 : Int32)), .val (.int (3 : Int32)), .val (.double y), .second, .val (.int (3 : Int32))] [])) _
            refine XS.goto X30.here hx rfl (pc0 := 28) (pc' := 3) rfl (hb hby d1_28) (by decide) (by decide) ?_
            show Steps p.tables e below (T30.setTop (mkF m 3 #[.val (.ref a), .val (.int (0 : Int32)), .val (.int (3 : Int32)), .val (.double y), .second, .val (.int (3 : Int32))] [])) _
            refine XS.iload X30.here hx rfl (hb hby d1_3) rfl ?_
            show Steps p.tables e below (T30.setTop (mkF m 5 #[.val (.ref a), .val (.int (0 : Int32)), .val (.int (3 : Int32)), .val (.double y), .second, .val (.int (3 : Int32))] [(.int (3 : Int32))])) _
            refine XS.iloadN X30.here hx rfl (hb hby d1_5) rfl ?_
            show Steps p.tables e below (T30.setTop (mkF m 6 #[.val (.ref a), .val (.int (0 : Int32)), .val (.int (3 : Int32)), .val (.double y), .second, .val (.int (3 : Int32))] [(.int (0 : Int32)), (.int (3 : Int32))])) _
            refine XS.iloadN X30.here hx rfl (hb hby d1_6) rfl ?_
            show Steps p.tables e below (T30.setTop (mkF m 7 #[.val (.ref a), .val (.int (0 : Int32)), .val (.int (3 : Int32)), .val (.double y), .second, .val (.int (3 : Int32))] [(.int (3 : Int32)), (.int (0 : Int32)), (.int (3 : Int32))])) _
            refine XS.iadd X30.here hx rfl (hb hby d1_7) rfl ?_
            show Steps p.tables e below (T30.setTop (mkF m 8 #[.val (.ref a), .val (.int (0 : Int32)), .val (.int (3 : Int32)), .val (.double y), .second, .val (.int (3 : Int32))] [(.int (3 : Int32)), (.int (3 : Int32))])) _
            refine XS.icmpYes X30.here hx rfl (pc0 := 8) (pc' := 31) rfl (hb hby d1_8) rfl (flt (by decide : ¬ ((3 : Int32) < (3 : Int32)))).2.1 (by decide) (by decide) ?_
            exact kz
          obtain ⟨fs, hrr, hrun, hended, hW, hsame⟩ := X30.leave (v := none) (fun _ => rfl)
          refine ⟨_, _, ?_, hrun, hended, _, _, rfl, ?_, ⟨_, rfl⟩, hW, hsame.mono (by decide) (by decide)⟩
          · show Steps p.tables e below (T30.setTop (mkF m 31 #[.val (.ref a), .val (.int (0 : Int32)), .val (.int (3 : Int32)), .val (.double y), .second, .val (.int (3 : Int32))] [])) _
            exact X30.returnOut hx Bd.returns (hb hby d1_31) hrr
          · show QrmFl Z a (0 : Int32) (3 : Int32) y kc x0 x1 x2 x3 h0 n0 _ T30.heap _
            rw [e30]
            exact ⟨rfl, N30, Kp30, by simpa [own_exp, hs14, hs26, hs29] using Av_a⟩
        · skip
          refine own_go (A := T27.setTop (mkF m 25 #[.val (.ref a), .val (.int (0 : Int32)), .val (.int (3 : Int32)), .val (.double y), .second, .val (.int (2 : Int32))] [])) (fun _ kz => ?_) ?_
          · show Steps p.tables e below (T27.setTop (mkF m 17 #[.val (.ref a), .val (.int (0 : Int32)), .val (.int (3 : Int32)), .val (.double y), .second, .val (.int (2 : Int32))] [(.int (cmpValue (FP.dcmp x2 y) .g))])) _
            refine XS.ifYes X27.here hx rfl (pc0 := 17) (pc' := 25) rfl (hb hby d1_17) rfl ((if0 _ _).trans (flt hs29).2.1) (by decide) (by decide) ?_
            exact kz
          refine own_go (A := T27.setTop (mkF m 31 #[.val (.ref a), .val (.int (0 : Int32)), .val (.int (3 : Int32)), .val (.double y), .second, .val (.int (3 : Int32))] [])) (fun _ kz => ?_) ?_
          · show Steps p.tables e below (T27.setTop (mkF m 25 #[.val (.ref a), .val (.int (0 : Int32)), .val (.int (3 : Int32)), .val (.double y), .second, .val (.int (2 : Int32))] [])) _
            refine XS.iinc X27.here hx rfl (hb hby d1_25) rfl (l' := #[.val (.ref a), .val (.int (0 : Int32)), .val (.int (3 : Int32)), .val (.double y), .second, .val (.int (3 : Int32))]) rfl ?_
            show Steps p.tables e below (T27.setTop (mkF m 28 #[.val (.ref a), .val (.int (0 : Int32)), .val (.int (3 : Int32)), .val (.double y), .second, .val (.int (3 : Int32))] [])) _
            refine XS.goto X27.here hx rfl (pc0 := 28) (pc' := 3) rfl (hb hby d1_28) (by decide) (by decide) ?_
            show Steps p.tables e below (T27.setTop (mkF m 3 #[.val (.ref a), .val (.int (0 : Int32)), .val (.int (3 : Int32)), .val (.double y), .second, .val (.int (3 : Int32))] [])) _
            refine XS.iload X27.here hx rfl (hb hby d1_3) rfl ?_
            show Steps p.tables e below (T27.setTop (mkF m 5 #[.val (.ref a), .val (.int (0 : Int32)), .val (.int (3 : Int32)), .val (.double y), .second, .val (.int (3 : Int32))] [(.int (3 : Int32))])) _
            refine XS.iloadN X27.here hx rfl (hb hby d1_5) rfl ?_
            show Steps p.tables e below (T27.setTop (mkF m 6 #[.val (.ref a), .val (.int (0 : Int32)), .val (.int (3 : Int32)), .val (.double y), .second, .val (.int (3 : Int32))] [(.int (0 : Int32)), (.int (3 : Int32))])) _
            refine XS.iloadN X27.here hx rfl (hb hby d1_6) rfl ?_
            show Steps p.tables e below (T27.setTop (mkF m 7 #[.val (.ref a), .val (.int (0 : Int32)), .val (.int (3 : Int32)), .val (.double y), .second, .val (.int (3 : Int32))] [(.int (3 : Int32)), (.int (0 : Int32)), (.int (3 : Int32))])) _
            refine XS.iadd X27.here hx rfl (hb hby d1_7) rfl ?_
            show Steps p.tables e below (T27.setTop (mkF m 8 #[.val (.ref a), .val (.int (0 : Int32)), .val (.int (3 : Int32)), .val (.double y), .second, .val (.int (3 : Int32))] [(.int (3 : Int32)), (.int (3 : Int32))])) _
            refine XS.icmpYes X27.here hx rfl (pc0 := 8) (pc' := 31) rfl (hb hby d1_8) rfl (flt (by decide : ¬ ((3 : Int32) < (3 : Int32)))).2.1 (by decide) (by decide) ?_
            exact kz
          obtain ⟨fs, hrr, hrun, hended, hW, hsame⟩ := X27.leave (v := none) (fun _ => rfl)
          refine ⟨_, _, ?_, hrun, hended, _, _, rfl, ?_, ⟨_, rfl⟩, hW, hsame.mono (by decide) (by decide)⟩
          · show Steps p.tables e below (T27.setTop (mkF m 31 #[.val (.ref a), .val (.int (0 : Int32)), .val (.int (3 : Int32)), .val (.double y), .second, .val (.int (3 : Int32))] [])) _
            exact X27.returnOut hx Bd.returns (hb hby d1_31) hrr
          · show QrmFl Z a (0 : Int32) (3 : Int32) y kc x0 x1 x2 x3 h0 n0 _ T27.heap _
            rw [e27]
            exact ⟨rfl, N27, Kp27, by simpa [own_exp, hs14, hs26, hs29] using Av_a⟩
      · skip
        refine own_go (A := s₁.setTop (mkF m 25 #[.val (.ref a), .val (.int (0 : Int32)), .val (.int (3 : Int32)), .val (.double y), .second, .val (.int (1 : Int32))] [])) (fun _ kz => ?_) ?_
        · show Steps p.tables e below (s₁.setTop (mkF m 17 #[.val (.ref a), .val (.int (0 : Int32)), .val (.int (3 : Int32)), .val (.double y), .second, .val (.int (1 : Int32))] [(.int (cmpValue (FP.dcmp x1 y) .g))])) _
          refine XS.ifYes X0.here hx rfl (pc0 := 17) (pc' := 25) rfl (hb hby d1_17) rfl ((if0 _ _).trans (flt hs26).2.1) (by decide) (by decide) ?_
          exact kz
        refine own_go (A := s₁.setTop (mkF m 14 #[.val (.ref a), .val (.int (0 : Int32)), .val (.int (3 : Int32)), .val (.double y), .second, .val (.int (2 : Int32))] [(.int (2 : Int32)), (.ref a)])) (fun _ kz => ?_) ?_
        · show Steps p.tables e below (s₁.setTop (mkF m 25 #[.val (.ref a), .val (.int (0 : Int32)), .val (.int (3 : Int32)), .val (.double y), .second, .val (.int (1 : Int32))] [])) _
          refine XS.iinc X0.here hx rfl (hb hby d1_25) rfl (l' := #[.val (.ref a), .val (.int (0 : Int32)), .val (.int (3 : Int32)), .val (.double y), .second, .val (.int (2 : Int32))]) rfl ?_
          show Steps p.tables e below (s₁.setTop (mkF m 28 #[.val (.ref a), .val (.int (0 : Int32)), .val (.int (3 : Int32)), .val (.double y), .second, .val (.int (2 : Int32))] [])) _
          refine XS.goto X0.here hx rfl (pc0 := 28) (pc' := 3) rfl (hb hby d1_28) (by decide) (by decide) ?_
          show Steps p.tables e below (s₁.setTop (mkF m 3 #[.val (.ref a), .val (.int (0 : Int32)), .val (.int (3 : Int32)), .val (.double y), .second, .val (.int (2 : Int32))] [])) _
          refine XS.iload X0.here hx rfl (hb hby d1_3) rfl ?_
          show Steps p.tables e below (s₁.setTop (mkF m 5 #[.val (.ref a), .val (.int (0 : Int32)), .val (.int (3 : Int32)), .val (.double y), .second, .val (.int (2 : Int32))] [(.int (2 : Int32))])) _
          refine XS.iloadN X0.here hx rfl (hb hby d1_5) rfl ?_
          show Steps p.tables e below (s₁.setTop (mkF m 6 #[.val (.ref a), .val (.int (0 : Int32)), .val (.int (3 : Int32)), .val (.double y), .second, .val (.int (2 : Int32))] [(.int (0 : Int32)), (.int (2 : Int32))])) _
          refine XS.iloadN X0.here hx rfl (hb hby d1_6) rfl ?_
          show Steps p.tables e below (s₁.setTop (mkF m 7 #[.val (.ref a), .val (.int (0 : Int32)), .val (.int (3 : Int32)), .val (.double y), .second, .val (.int (2 : Int32))] [(.int (3 : Int32)), (.int (0 : Int32)), (.int (2 : Int32))])) _
          refine XS.iadd X0.here hx rfl (hb hby d1_7) rfl ?_
          show Steps p.tables e below (s₁.setTop (mkF m 8 #[.val (.ref a), .val (.int (0 : Int32)), .val (.int (3 : Int32)), .val (.double y), .second, .val (.int (2 : Int32))] [(.int (3 : Int32)), (.int (2 : Int32))])) _
          refine XS.icmpNo X0.here hx rfl (hb hby d1_8) rfl (tlt (by decide : ((2 : Int32) < (3 : Int32)))).2.1 ?_
          show Steps p.tables e below (s₁.setTop (mkF m 11 #[.val (.ref a), .val (.int (0 : Int32)), .val (.int (3 : Int32)), .val (.double y), .second, .val (.int (2 : Int32))] [])) _
          refine XS.aloadN X0.here hx rfl (hb hby d1_11) rfl rfl ?_
          show Steps p.tables e below (s₁.setTop (mkF m 12 #[.val (.ref a), .val (.int (0 : Int32)), .val (.int (3 : Int32)), .val (.double y), .second, .val (.int (2 : Int32))] [(.ref a)])) _
          refine XS.iload X0.here hx rfl (hb hby d1_12) rfl ?_
          exact kz
        obtain ⟨cl31, Ar31, -, S31, M31, H31, -⟩ := id Av
        have hin31 : ¬ ((2 : Int32) < 0 ∨ cl31.slots.size ≤ ((2 : Int32)).toNatClampNeg) := inb_of S31 ⟨by decide, by decide⟩
        have hat31 : cl31.slots[((2 : Int32)).toNatClampNeg]? = some (.double x2) := H31.at hin31 rfl
        refine own_go (A := s₁.setTop (mkF m 15 #[.val (.ref a), .val (.int (0 : Int32)), .val (.int (3 : Int32)), .val (.double y), .second, .val (.int (2 : Int32))] [(.double x2)])) (fun _ kz => ?_) ?_
        · refine X0.daload hx (j := (2 : Int32)) (v := (.double x2)) (by rw [e0]; exact Ar31.1) (State.isArrayOf_alike hZ.alike Ar31.2.1) Ar31.2.2 hin31 hat31 (g := (mkF m 14 #[.val (.ref a), .val (.int (0 : Int32)), .val (.int (3 : Int32)), .val (.double y), .second, .val (.int (2 : Int32))] [(.int (2 : Int32)), (.ref a)])) rfl rfl (hb hby d1_14) _ ?_
          exact kz
        refine own_go (A := s₁.setTop (mkF m 17 #[.val (.ref a), .val (.int (0 : Int32)), .val (.int (3 : Int32)), .val (.double y), .second, .val (.int (2 : Int32))] [(.int (cmpValue (FP.dcmp x2 y) .g))])) (fun _ kz => ?_) ?_
        · show Steps p.tables e below (s₁.setTop (mkF m 15 #[.val (.ref a), .val (.int (0 : Int32)), .val (.int (3 : Int32)), .val (.double y), .second, .val (.int (2 : Int32))] [(.double x2)])) _
          refine XS.dloadN X0.here hx rfl (hb hby d1_15) rfl ?_
          show Steps p.tables e below (s₁.setTop (mkF m 16 #[.val (.ref a), .val (.int (0 : Int32)), .val (.int (3 : Int32)), .val (.double y), .second, .val (.int (2 : Int32))] [(.double y), (.double x2)])) _
          refine XS.dcmpS X0.here hx rfl (hb hby d1_16) rfl rfl ?_
          exact kz
        by_cases hs32 : (cmpValue (FP.dcmp x2 y) .g) < (0 : Int32)
        · skip
          refine own_go (A := s₁.setTop (mkF m 20 #[.val (.ref a), .val (.int (0 : Int32)), .val (.int (3 : Int32)), .val (.double y), .second, .val (.int (2 : Int32))] [])) (fun _ kz => ?_) ?_
          · show Steps p.tables e below (s₁.setTop (mkF m 17 #[.val (.ref a), .val (.int (0 : Int32)), .val (.int (3 : Int32)), .val (.double y), .second, .val (.int (2 : Int32))] [(.int (cmpValue (FP.dcmp x2 y) .g))])) _
            refine XS.ifNo X0.here hx rfl (hb hby d1_17) rfl ((if0 _ _).trans (tlt hs32).2.1) ?_
            exact kz
          refine own_go (A := s₁.setTop (mkF m 24 #[.val (.ref a), .val (.int (0 : Int32)), .val (.int (3 : Int32)), .val (.double y), .second, .val (.int (2 : Int32))] [(.double FP.dconst0), (.int (2 : Int32)), (.ref a)])) (fun _ kz => ?_) ?_
          · show Steps p.tables e below (s₁.setTop (mkF m 20 #[.val (.ref a), .val (.int (0 : Int32)), .val (.int (3 : Int32)), .val (.double y), .second, .val (.int (2 : Int32))] [])) _
            refine XS.aloadN X0.here hx rfl (hb hby d1_20) rfl rfl ?_
            show Steps p.tables e below (s₁.setTop (mkF m 21 #[.val (.ref a), .val (.int (0 : Int32)), .val (.int (3 : Int32)), .val (.double y), .second, .val (.int (2 : Int32))] [(.ref a)])) _
            refine XS.iload X0.here hx rfl (hb hby d1_21) rfl ?_
            show Steps p.tables e below (s₁.setTop (mkF m 23 #[.val (.ref a), .val (.int (0 : Int32)), .val (.int (3 : Int32)), .val (.double y), .second, .val (.int (2 : Int32))] [(.int (2 : Int32)), (.ref a)])) _
            refine XS.dconst0 X0.here hx rfl (hb hby d1_23) rfl ?_
            exact kz
          obtain ⟨cl33, Ar33, q33, S33, M33, H33, G33⟩ := id Av
          have hin33 : ¬ ((2 : Int32) < 0 ∨ cl33.slots.size ≤ ((2 : Int32)).toNatClampNeg) := inb_of S33 ⟨by decide, by decide⟩
          obtain ⟨T33, h33, X33, e33, W33, st33⟩ := stD X0 hx hZ e0 Ar33 (j := (2 : Int32)) hin33 (g := (mkF m 24 #[.val (.ref a), .val (.int (0 : Int32)), .val (.int (3 : Int32)), .val (.double y), .second, .val (.int (2 : Int32))] [(.double FP.dconst0), (.int (2 : Int32)), (.ref a)])) rfl rfl (hb hby d1_24)
          have Aw33 := Arv.set Ar33 q33 S33 M33 H33 G33 rfl W33 2 rfl (Nat.le_of_ble_eq_true rfl)
          have Z33 : n0 ≤ h33.size := Nat.le_trans Z0 (Keep.of_wr W33).1
          have Kp33 : Keep h0 h33 [a] := Kp0.wr W33 (Or.inl (List.mem_of_getElem? (i := 0) rfl))
          have Av_a : Arv Z h33 a kc .double (4 : Int32) [(.double x0), (.double x1), (.double FP.dconst0), (.double x3)] (.double (0 : UInt64)) := Aw33
          have N33 := Fr.snoc X33 N0 g_a
          refine own_go (A := T33.setTop (mkF m 25 #[.val (.ref a), .val (.int (0 : Int32)), .val (.int (3 : Int32)), .val (.double y), .second, .val (.int (2 : Int32))] [])) (fun _ kz => st33 _ kz) ?_
          refine own_go (A := T33.setTop (mkF m 31 #[.val (.ref a), .val (.int (0 : Int32)), .val (.int (3 : Int32)), .val (.double y), .second, .val (.int (3 : Int32))] [])) (fun _ kz => ?_) ?_
          · show Steps p.tables e below (T33.setTop (mkF m 25 #[.val (.ref a), .val (.int (0 : Int32)), .val (.int (3 : Int32)), .val (.double y), .second, .val (.int (2 : Int32))] [])) _
            refine XS.iinc X33.here hx rfl (hb hby d1_25) rfl (l' := #[.val (.ref a), .val (.int (0 : Int32)), .val (.int (3 : Int32)), .val (.double y), .second, .val (.int (3 : Int32))]) rfl ?_
            show Steps p.tables e below (T33.setTop (mkF m 28 #[.val (.ref a), .val (.int (0 : Int32)), .val (.int (3 : Int32)), .val (.double y), .second, .val (.int (3 : Int32))] [])) _
            refine XS.goto X33.here hx rfl (pc0 := 28) (pc' := 3) rfl (hb hby d1_28) (by decide) (by decide) ?_
            show Steps p.tables e below (T33.setTop (mkF m 3 #[.val (.ref a), .val (.int (0 : Int32)), .val (.int (3 : Int32)), .val (.double y), .second, .val (.int (3 : Int32))] [])) _
            refine XS.iload X33.here hx rfl (hb hby d1_3) rfl ?_
            show Steps p.tables e below (T33.setTop (mkF m 5 #[.val (.ref a), .val (.int (0 : Int32)), .val (.int (3 : Int32)), .val (.double y), .second, .val (.int (3 : Int32))] [(.int (3 : Int32))])) _
            refine XS.iloadN X33.here hx rfl (hb hby d1_5) rfl ?_
            show Steps p.tables e below (T33.setTop (mkF m 6 #[.val (.ref a), .val (.int (0 : Int32)), .val (.int (3 : Int32)), .val (.double y), .second, .val (.int (3 : Int32))] [(.int (0 : Int32)), (.int (3 : Int32))])) _
            refine XS.iloadN X33.here hx rfl (hb hby d1_6) rfl ?_
            show Steps p.tables e below (T33.setTop (mkF m 7 #[.val (.ref a), .val (.int (0 : Int32)), .val (.int (3 : Int32)), .val (.double y), .second, .val (.int (3 : Int32))] [(.int (3 : Int32)), (.int (0 : Int32)), (.int (3 : Int32))])) _
            refine XS.iadd X33.here hx rfl (hb hby d1_7) rfl ?_
            show Steps p.tables e below (T33.setTop (mkF m 8 #[.val (.ref a), .val (.int (0 : Int32)), .val (.int (3 : Int32)), .val (.double y), .second, .val (.int (3 : Int32))] [(.int (3 : Int32)), (.int (3 : Int32))])) _
            refine XS.icmpYes X33.here hx rfl (pc0 := 8) (pc' := 31) rfl (hb hby d1_8) rfl (flt (by decide : ¬ ((3 : Int32) < (3 : Int32)))).2.1 (by decide) (by decide) ?_
            exact kz
          obtain ⟨fs, hrr, hrun, hended, hW, hsame⟩ := X33.leave (v := none) (fun _ => rfl)
          refine ⟨_, _, ?_, hrun, hended, _, _, rfl, ?_, ⟨_, rfl⟩, hW, hsame.mono (by decide) (by decide)⟩
          · show Steps p.tables e below (T33.setTop (mkF m 31 #[.val (.ref a), .val (.int (0 : Int32)), .val (.int (3 : Int32)), .val (.double y), .second, .val (.int (3 : Int32))] [])) _
            exact X33.returnOut hx Bd.returns (hb hby d1_31) hrr
          · show QrmFl Z a (0 : Int32) (3 : Int32) y kc x0 x1 x2 x3 h0 n0 _ T33.heap _
            rw [e33]
            exact ⟨rfl, N33, Kp33, by simpa [own_exp, hs14, hs26, hs32] using Av_a⟩
        · skip
          refine own_go (A := s₁.setTop (mkF m 25 #[.val (.ref a), .val (.int (0 : Int32)), .val (.int (3 : Int32)), .val (.double y), .second, .val (.int (2 : Int32))] [])) (fun _ kz => ?_) ?_
          · show Steps p.tables e below (s₁.setTop (mkF m 17 #[.val (.ref a), .val (.int (0 : Int32)), .val (.int (3 : Int32)), .val (.double y), .second, .val (.int (2 : Int32))] [(.int (cmpValue (FP.dcmp x2 y) .g))])) _
            refine XS.ifYes X0.here hx rfl (pc0 := 17) (pc' := 25) rfl (hb hby d1_17) rfl ((if0 _ _).trans (flt hs32).2.1) (by decide) (by decide) ?_
            exact kz
          refine own_go (A := s₁.setTop (mkF m 31 #[.val (.ref a), .val (.int (0 : Int32)), .val (.int (3 : Int32)), .val (.double y), .second, .val (.int (3 : Int32))] [])) (fun _ kz => ?_) ?_
          · show Steps p.tables e below (s₁.setTop (mkF m 25 #[.val (.ref a), .val (.int (0 : Int32)), .val (.int (3 : Int32)), .val (.double y), .second, .val (.int (2 : Int32))] [])) _
            refine XS.iinc X0.here hx rfl (hb hby d1_25) rfl (l' := #[.val (.ref a), .val (.int (0 : Int32)), .val (.int (3 : Int32)), .val (.double y), .second, .val (.int (3 : Int32))]) rfl ?_
            show Steps p.tables e below (s₁.setTop (mkF m 28 #[.val (.ref a), .val (.int (0 : Int32)), .val (.int (3 : Int32)), .val (.double y), .second, .val (.int (3 : Int32))] [])) _
            refine XS.goto X0.here hx rfl (pc0 := 28) (pc' := 3) rfl (hb hby d1_28) (by decide) (by decide) ?_
            show Steps p.tables e below (s₁.setTop (mkF m 3 #[.val (.ref a), .val (.int (0 : Int32)), .val (.int (3 : Int32)), .val (.double y), .second, .val (.int (3 : Int32))] [])) _
            refine XS.iload X0.here hx rfl (hb hby d1_3) rfl ?_
            show Steps p.tables e below (s₁.setTop (mkF m 5 #[.val (.ref a), .val (.int (0 : Int32)), .val (.int (3 : Int32)), .val (.double y), .second, .val (.int (3 : Int32))] [(.int (3 : Int32))])) _
            refine XS.iloadN X0.here hx rfl (hb hby d1_5) rfl ?_
            show Steps p.tables e below (s₁.setTop (mkF m 6 #[.val (.ref a), .val (.int (0 : Int32)), .val (.int (3 : Int32)), .val (.double y), .second, .val (.int (3 : Int32))] [(.int (0 : Int32)), (.int (3 : Int32))])) _
            refine XS.iloadN X0.here hx rfl (hb hby d1_6) rfl ?_
            show Steps p.tables e below (s₁.setTop (mkF m 7 #[.val (.ref a), .val (.int (0 : Int32)), .val (.int (3 : Int32)), .val (.double y), .second, .val (.int (3 : Int32))] [(.int (3 : Int32)), (.int (0 : Int32)), (.int (3 : Int32))])) _
            refine XS.iadd X0.here hx rfl (hb hby d1_7) rfl ?_
            show Steps p.tables e below (s₁.setTop (mkF m 8 #[.val (.ref a), .val (.int (0 : Int32)), .val (.int (3 : Int32)), .val (.double y), .second, .val (.int (3 : Int32))] [(.int (3 : Int32)), (.int (3 : Int32))])) _
            refine XS.icmpYes X0.here hx rfl (pc0 := 8) (pc' := 31) rfl (hb hby d1_8) rfl (flt (by decide : ¬ ((3 : Int32) < (3 : Int32)))).2.1 (by decide) (by decide) ?_
            exact kz
          obtain ⟨fs, hrr, hrun, hended, hW, hsame⟩ := X0.leave (v := none) (fun _ => rfl)
          refine ⟨_, _, ?_, hrun, hended, _, _, rfl, ?_, ⟨_, rfl⟩, hW, hsame.mono (by decide) (by decide)⟩
          · show Steps p.tables e below (s₁.setTop (mkF m 31 #[.val (.ref a), .val (.int (0 : Int32)), .val (.int (3 : Int32)), .val (.double y), .second, .val (.int (3 : Int32))] [])) _
            exact X0.returnOut hx Bd.returns (hb hby d1_31) hrr
          · show QrmFl Z a (0 : Int32) (3 : Int32) y kc x0 x1 x2 x3 h0 n0 _ s₁.heap _
            rw [e0]
            exact ⟨rfl, N0, Kp0, by simpa [own_exp, hs14, hs26, hs32] using Av⟩
  · skip
    refine own_go (A := s₁.setTop (mkF m 14 #[.val (.ref a), .val (.int (0 : Int32)), .val (.int (4 : Int32)), .val (.double y), .second, .val (.int (0 : Int32))] [(.int (0 : Int32)), (.ref a)])) (fun _ kz => ?_) ?_
    · show Steps p.tables e below (s₁.setTop (mkF m 0 #[.val (.ref a), .val (.int (0 : Int32)), .val (.int (4 : Int32)), .val (.double y), .second, .unset] [])) _
      refine XS.iloadN X0.here hx rfl (hb hby d1_0) rfl ?_
      show Steps p.tables e below (s₁.setTop (mkF m 1 #[.val (.ref a), .val (.int (0 : Int32)), .val (.int (4 : Int32)), .val (.double y), .second, .unset] [(.int (0 : Int32))])) _
      refine XS.istore X0.here hx rfl (hb hby d1_1) rfl (l' := #[.val (.ref a), .val (.int (0 : Int32)), .val (.int (4 : Int32)), .val (.double y), .second, .val (.int (0 : Int32))]) rfl ?_
      show Steps p.tables e below (s₁.setTop (mkF m 3 #[.val (.ref a), .val (.int (0 : Int32)), .val (.int (4 : Int32)), .val (.double y), .second, .val (.int (0 : Int32))] [])) _
      refine XS.iload X0.here hx rfl (hb hby d1_3) rfl ?_
      show Steps p.tables e below (s₁.setTop (mkF m 5 #[.val (.ref a), .val (.int (0 : Int32)), .val (.int (4 : Int32)), .val (.double y), .second, .val (.int (0 : Int32))] [(.int (0 : Int32))])) _
      refine XS.iloadN X0.here hx rfl (hb hby d1_5) rfl ?_
      show Steps p.tables e below (s₁.setTop (mkF m 6 #[.val (.ref a), .val (.int (0 : Int32)), .val (.int (4 : Int32)), .val (.double y), .second, .val (.int (0 : Int32))] [(.int (0 : Int32)), (.int (0 : Int32))])) _
      refine XS.iloadN X0.here hx rfl (hb hby d1_6) rfl ?_
      show Steps p.tables e below (s₁.setTop (mkF m 7 #[.val (.ref a), .val (.int (0 : Int32)), .val (.int (4 : Int32)), .val (.double y), .second, .val (.int (0 : Int32))] [(.int (4 : Int32)), (.int (0 : Int32)), (.int (0 : Int32))])) _
      refine XS.iadd X0.here hx rfl (hb hby d1_7) rfl ?_
      show Steps p.tables e below (s₁.setTop (mkF m 8 #[.val (.ref a), .val (.int (0 : Int32)), .val (.int (4 : Int32)), .val (.double y), .second, .val (.int (0 : Int32))] [(.int (4 : Int32)), (.int (0 : Int32))])) _
      refine XS.icmpNo X0.here hx rfl (hb hby d1_8) rfl (tlt (by decide : ((0 : Int32) < (4 : Int32)))).2.1 ?_
      show Steps p.tables e below (s₁.setTop (mkF m 11 #[.val (.ref a), .val (.int (0 : Int32)), .val (.int (4 : Int32)), .val (.double y), .second, .val (.int (0 : Int32))] [])) _
      refine XS.aloadN X0.here hx rfl (hb hby d1_11) rfl rfl ?_
      show Steps p.tables e below (s₁.setTop (mkF m 12 #[.val (.ref a), .val (.int (0 : Int32)), .val (.int (4 : Int32)), .val (.double y), .second, .val (.int (0 : Int32))] [(.ref a)])) _
      refine XS.iload X0.here hx rfl (hb hby d1_12) rfl ?_
      exact kz
    obtain ⟨cl34, Ar34, -, S34, M34, H34, -⟩ := id Av
    have hin34 : ¬ ((0 : Int32) < 0 ∨ cl34.slots.size ≤ ((0 : Int32)).toNatClampNeg) := inb_of S34 ⟨by decide, by decide⟩
    have hat34 : cl34.slots[((0 : Int32)).toNatClampNeg]? = some (.double x0) := H34.at hin34 rfl
    refine own_go (A := s₁.setTop (mkF m 15 #[.val (.ref a), .val (.int (0 : Int32)), .val (.int (4 : Int32)), .val (.double y), .second, .val (.int (0 : Int32))] [(.double x0)])) (fun _ kz => ?_) ?_
    · refine X0.daload hx (j := (0 : Int32)) (v := (.double x0)) (by rw [e0]; exact Ar34.1) (State.isArrayOf_alike hZ.alike Ar34.2.1) Ar34.2.2 hin34 hat34 (g := (mkF m 14 #[.val (.ref a), .val (.int (0 : Int32)), .val (.int (4 : Int32)), .val (.double y), .second, .val (.int (0 : Int32))] [(.int (0 : Int32)), (.ref a)])) rfl rfl (hb hby d1_14) _ ?_
      exact kz
    refine own_go (A := s₁.setTop (mkF m 17 #[.val (.ref a), .val (.int (0 : Int32)), .val (.int (4 : Int32)), .val (.double y), .second, .val (.int (0 : Int32))] [(.int (cmpValue (FP.dcmp x0 y) .g))])) (fun _ kz => ?_) ?_
    · show Steps p.tables e below (s₁.setTop (mkF m 15 #[.val (.ref a), .val (.int (0 : Int32)), .val (.int (4 : Int32)), .val (.double y), .second, .val (.int (0 : Int32))] [(.double x0)])) _
      refine XS.dloadN X0.here hx rfl (hb hby d1_15) rfl ?_
      show Steps p.tables e below (s₁.setTop (mkF m 16 #[.val (.ref a), .val (.int (0 : Int32)), .val (.int (4 : Int32)), .val (.double y), .second, .val (.int (0 : Int32))] [(.double y), (.double x0)])) _
      refine XS.dcmpS X0.here hx rfl (hb hby d1_16) rfl rfl ?_
      exact kz
    by_cases hs35 : (cmpValue (FP.dcmp x0 y) .g) < (0 : Int32)
    · skip
      refine own_go (A := s₁.setTop (mkF m 20 #[.val (.ref a), .val (.int (0 : Int32)), .val (.int (4 : Int32)), .val (.double y), .second, .val (.int (0 : Int32))] [])) (fun _ kz => ?_) ?_
      · show Steps p.tables e below (s₁.setTop (mkF m 17 #[.val (.ref a), .val (.int (0 : Int32)), .val (.int (4 : Int32)), .val (.double y), .second, .val (.int (0 : Int32))] [(.int (cmpValue (FP.dcmp x0 y) .g))])) _
        refine XS.ifNo X0.here hx rfl (hb hby d1_17) rfl ((if0 _ _).trans (tlt hs35).2.1) ?_
        exact kz
      refine own_go (A := s₁.setTop (mkF m 24 #[.val (.ref a), .val (.int (0 : Int32)), .val (.int (4 : Int32)), .val (.double y), .second, .val (.int (0 : Int32))] [(.double FP.dconst0), (.int (0 : Int32)), (.ref a)])) (fun _ kz => ?_) ?_
      · show Steps p.tables e below (s₁.setTop (mkF m 20 #[.val (.ref a), .val (.int (0 : Int32)), .val (.int (4 : Int32)), .val (.double y), .second, .val (.int (0 : Int32))] [])) _
        refine XS.aloadN X0.here hx rfl (hb hby d1_20) rfl rfl ?_
        show Steps p.tables e below (s₁.setTop (mkF m 21 #[.val (.ref a), .val (.int (0 : Int32)), .val (.int (4 : Int32)), .val (.double y), .second, .val (.int (0 : Int32))] [(.ref a)])) _
        refine XS.iload X0.here hx rfl (hb hby d1_21) rfl ?_
        show Steps p.tables e below (s₁.setTop (mkF m 23 #[.val (.ref a), .val (.int (0 : Int32)), .val (.int (4 : Int32)), .val (.double y), .second, .val (.int (0 : Int32))] [(.int (0 : Int32)), (.ref a)])) _
        refine XS.dconst0 X0.here hx rfl (hb hby d1_23) rfl ?_
        exact kz
      obtain ⟨cl36, Ar36, q36, S36, M36, H36, G36⟩ := id Av
      have hin36 : ¬ ((0 : Int32) < 0 ∨ cl36.slots.size ≤ ((0 : Int32)).toNatClampNeg) := inb_of S36 ⟨by decide, by decide⟩
      obtain ⟨T36, h36, X36, e36, W36, st36⟩ := stD X0 hx hZ e0 Ar36 (j := (0 : Int32)) hin36 (g := (mkF m 24 #[.val (.ref a), .val (.int (0 : Int32)), .val (.int (4 : Int32)), .val (.double y), .second, .val (.int (0 : Int32))] [(.double FP.dconst0), (.int (0 : Int32)), (.ref a)])) rfl rfl (hb hby d1_24)
      have Aw36 := Arv.set Ar36 q36 S36 M36 H36 G36 rfl W36 0 rfl (Nat.le_of_ble_eq_true rfl)
      have Z36 : n0 ≤ h36.size := Nat.le_trans Z0 (Keep.of_wr W36).1
      have Kp36 : Keep h0 h36 [a] := Kp0.wr W36 (Or.inl (List.mem_of_getElem? (i := 0) rfl))
      have Av_a : Arv Z h36 a kc .double (4 : Int32) [(.double FP.dconst0), (.double x1), (.double x2), (.double x3)] (.double (0 : UInt64)) := Aw36
      have N36 := Fr.snoc X36 N0 g_a
      refine own_go (A := T36.setTop (mkF m 25 #[.val (.ref a), .val (.int (0 : Int32)), .val (.int (4 : Int32)), .val (.double y), .second, .val (.int (0 : Int32))] [])) (fun _ kz => st36 _ kz) ?_
      refine own_go (A := T36.setTop (mkF m 14 #[.val (.ref a), .val (.int (0 : Int32)), .val (.int (4 : Int32)), .val (.double y), .second, .val (.int (1 : Int32))] [(.int (1 : Int32)), (.ref a)])) (fun _ kz => ?_) ?_
      · show Steps p.tables e below (T36.setTop (mkF m 25 #[.val (.ref a), .val (.int (0 : Int32)), .val (.int (4 : Int32)), .val (.double y), .second, .val (.int (0 : Int32))] [])) _
        refine XS.iinc X36.here hx rfl (hb hby d1_25) rfl (l' := #[.val (.ref a), .val (.int (0 : Int32)), .val (.int (4 : Int32)), .val (.double y), .second, .val (.int (1 : Int32))]) rfl ?_
        show Steps p.tables e below (T36.setTop (mkF m 28 #[.val (.ref a), .val (.int (0 : Int32)), .val (.int (4 : Int32)), .val (.double y), .second, .val (.int (1 : Int32))] [])) _
        refine XS.goto X36.here hx rfl (pc0 := 28) (pc' := 3) rfl (hb hby d1_28) (by decide) (by decide) ?_
        show Steps p.tables e below (T36.setTop (mkF m 3 #[.val (.ref a), .val (.int (0 : Int32)), .val (.int (4 : Int32)), .val (.double y), .second, .val (.int (1 : Int32))] [])) _
        refine XS.iload X36.here hx rfl (hb hby d1_3) rfl ?_
        show Steps p.tables e below (T36.setTop (mkF m 5 #[.val (.ref a), .val (.int (0 : Int32)), .val (.int (4 : Int32)), .val (.double y), .second, .val (.int (1 : Int32))] [(.int (1 : Int32))])) _
        refine XS.iloadN X36.here hx rfl (hb hby d1_5) rfl ?_
        show Steps p.tables e below (T36.setTop (mkF m 6 #[.val (.ref a), .val (.int (0 : Int32)), .val (.int (4 : Int32)), .val (.double y), .second, .val (.int (1 : Int32))] [(.int (0 : Int32)), (.int (1 : Int32))])) _
        refine XS.iloadN X36.here hx rfl (hb hby d1_6) rfl ?_
        show Steps p.tables e below (T36.setTop (mkF m 7 #[.val (.ref a), .val (.int (0 : Int32)), .val (.int (4 : Int32)), .val (.double y), .second, .val (.int (1 : Int32))] [(.int (4 : Int32)), (.int (0 : Int32)), (.int (1 : Int32))])) _
        refine XS.iadd X36.here hx rfl (hb hby d1_7) rfl ?_
        show Steps p.tables e below (T36.setTop (mkF m 8 #[.val (.ref a), .val (.int (0 : Int32)), .val (.int (4 : Int32)), .val (.double y), .second, .val (.int (1 : Int32))] [(.int (4 : Int32)), (.int (1 : Int32))])) _
        refine XS.icmpNo X36.here hx rfl (hb hby d1_8) rfl (tlt (by decide : ((1 : Int32) < (4 : Int32)))).2.1 ?_
        show Steps p.tables e below (T36.setTop (mkF m 11 #[.val (.ref a), .val (.int (0 : Int32)), .val (.int (4 : Int32)), .val (.double y), .second, .val (.int (1 : Int32))] [])) _
        refine XS.aloadN X36.here hx rfl (hb hby d1_11) rfl rfl ?_
        show Steps p.tables e below (T36.setTop (mkF m 12 #[.val (.ref a), .val (.int (0 : Int32)), .val (.int (4 : Int32)), .val (.double y), .second, .val (.int (1 : Int32))] [(.ref a)])) _
        refine XS.iload X36.here hx rfl (hb hby d1_12) rfl ?_
        exact kz
      obtain ⟨cl37, Ar37, -, S37, M37, H37, -⟩ := id Av_a
      have hin37 : ¬ ((1 : Int32) < 0 ∨ cl37.slots.size ≤ ((1 : Int32)).toNatClampNeg) := inb_of S37 ⟨by decide, by decide⟩
      have hat37 : cl37.slots[((1 : Int32)).toNatClampNeg]? = some (.double x1) := H37.at hin37 rfl
      refine own_go (A := T36.setTop (mkF m 15 #[.val (.ref a), .val (.int (0 : Int32)), .val (.int (4 : Int32)), .val (.double y), .second, .val (.int (1 : Int32))] [(.double x1)])) (fun _ kz => ?_) ?_
      · refine X36.daload hx (j := (1 : Int32)) (v := (.double x1)) (by rw [e36]; exact Ar37.1) (State.isArrayOf_alike hZ.alike Ar37.2.1) Ar37.2.2 hin37 hat37 (g := (mkF m 14 #[.val (.ref a), .val (.int (0 : Int32)), .val (.int (4 : Int32)), .val (.double y), .second, .val (.int (1 : Int32))] [(.int (1 : Int32)), (.ref a)])) rfl rfl (hb hby d1_14) _ ?_
        exact kz
      refine own_go (A := T36.setTop (mkF m 17 #[.val (.ref a), .val (.int (0 : Int32)), .val (.int (4 : Int32)), .val (.double y), .second, .val (.int (1 : Int32))] [(.int (cmpValue (FP.dcmp x1 y) .g))])) (fun _ kz => ?_) ?_
      · show Steps p.tables e below (T36.setTop (mkF m 15 #[.val (.ref a), .val (.int (0 : Int32)), .val (.int (4 : Int32)), .val (.double y), .second, .val (.int (1 : Int32))] [(.double x1)])) _
        refine XS.dloadN X36.here hx rfl (hb hby d1_15) rfl ?_
        show Steps p.tables e below (T36.setTop (mkF m 16 #[.val (.ref a), .val (.int (0 : Int32)), .val (.int (4 : Int32)), .val (.double y), .second, .val (.int (1 : Int32))] [(.double y), (.double x1)])) _
        refine XS.dcmpS X36.here hx rfl (hb hby d1_16) rfl rfl ?_
        exact kz
      by_cases hs38 : (cmpValue (FP.dcmp x1 y) .g) < (0 : Int32)
      · skip
        refine own_go (A := T36.setTop (mkF m 20 #[.val (.ref a), .val (.int (0 : Int32)), .val (.int (4 : Int32)), .val (.double y), .second, .val (.int (1 : Int32))] [])) (fun _ kz => ?_) ?_
        · show Steps p.tables e below (T36.setTop (mkF m 17 #[.val (.ref a), .val (.int (0 : Int32)), .val (.int (4 : Int32)), .val (.double y), .second, .val (.int (1 : Int32))] [(.int (cmpValue (FP.dcmp x1 y) .g))])) _
          refine XS.ifNo X36.here hx rfl (hb hby d1_17) rfl ((if0 _ _).trans (tlt hs38).2.1) ?_
          exact kz
        refine own_go (A := T36.setTop (mkF m 24 #[.val (.ref a), .val (.int (0 : Int32)), .val (.int (4 : Int32)), .val (.double y), .second, .val (.int (1 : Int32))] [(.double FP.dconst0), (.int (1 : Int32)), (.ref a)])) (fun _ kz => ?_) ?_
        · show Steps p.tables e below (T36.setTop (mkF m 20 #[.val (.ref a), .val (.int (0 : Int32)), .val (.int (4 : Int32)), .val (.double y), .second, .val (.int (1 : Int32))] [])) _
          refine XS.aloadN X36.here hx rfl (hb hby d1_20) rfl rfl ?_
          show Steps p.tables e below (T36.setTop (mkF m 21 #[.val (.ref a), .val (.int (0 : Int32)), .val (.int (4 : Int32)), .val (.double y), .second, .val (.int (1 : Int32))] [(.ref a)])) _
          refine XS.iload X36.here hx rfl (hb hby d1_21) rfl ?_
          show Steps p.tables e below (T36.setTop (mkF m 23 #[.val (.ref a), .val (.int (0 : Int32)), .val (.int (4 : Int32)), .val (.double y), .second, .val (.int (1 : Int32))] [(.int (1 : Int32)), (.ref a)])) _
          refine XS.dconst0 X36.here hx rfl (hb hby d1_23) rfl ?_
          exact kz
        obtain ⟨cl39, Ar39, q39, S39, M39, H39, G39⟩ := id Av_a
        have hin39 : ¬ ((1 : Int32) < 0 ∨ cl39.slots.size ≤ ((1 : Int32)).toNatClampNeg) := inb_of S39 ⟨by decide, by decide⟩
        obtain ⟨T39, h39, X39, e39, W39, st39⟩ := stD X36 hx hZ e36 Ar39 (j := (1 : Int32)) hin39 (g := (mkF m 24 #[.val (.ref a), .val (.int (0 : Int32)), .val (.int (4 : Int32)), .val (.double y), .second, .val (.int (1 : Int32))] [(.double FP.dconst0), (.int (1 : Int32)), (.ref a)])) rfl rfl (hb hby d1_24)
        have Aw39 := Arv.set Ar39 q39 S39 M39 H39 G39 rfl W39 1 rfl (Nat.le_of_ble_eq_true rfl)
        have Z39 : n0 ≤ h39.size := Nat.le_trans Z36 (Keep.of_wr W39).1
        have Kp39 : Keep h0 h39 [a] := Kp36.wr W39 (Or.inl (List.mem_of_getElem? (i := 0) rfl))
        have Av_a : Arv Z h39 a kc .double (4 : Int32) [(.double FP.dconst0), (.double FP.dconst0), (.double x2), (.double x3)] (.double (0 : UInt64)) := Aw39
        have N39 := Fr.snoc X39 N36 g_a
        refine own_go (A := T39.setTop (mkF m 25 #[.val (.ref a), .val (.int (0 : Int32)), .val (.int (4 : Int32)), .val (.double y), .second, .val (.int (1 : Int32))] [])) (fun _ kz => st39 _ kz) ?_
        refine own_go (A := T39.setTop (mkF m 14 #[.val (.ref a), .val (.int (0 : Int32)), .val (.int (4 : Int32)), .val (.double y), .second, .val (.int (2 : Int32))] [(.int (2 : Int32)), (.ref a)])) (fun _ kz => ?_) ?_
        · show Steps p.tables e below (T39.setTop (mkF m 25 #[.val (.ref a), .val (.int (0 : Int32)), .val (.int (4 : Int32)), .val (.double y), .second, .val (.int (1 : Int32))] [])) _
          refine XS.iinc X39.here hx rfl (hb hby d1_25) rfl (l' := #[.val (.ref a), .val (.int (0 : Int32)), .val (.int (4 : Int32)), .val (.double y), .second, .val (.int (2 : Int32))]) rfl ?_
          show Steps p.tables e below (T39.setTop (mkF m 28 #[.val (.ref a), .val (.int (0 : Int32)), .val (.int (4 : Int32)), .val (.double y), .second, .val (.int (2 : Int32))] [])) _
          refine XS.goto X39.here hx rfl (pc0 := 28) (pc' := 3) rfl (hb hby d1_28) (by decide) (by decide) ?_
          show Steps p.tables e below (T39.setTop (mkF m 3 #[.val (.ref a), .val (.int (0 : Int32)), .val (.int (4 : Int32)), .val (.double y), .second, .val (.int (2 : Int32))] [])) _
          refine XS.iload X39.here hx rfl (hb hby d1_3) rfl ?_
          show Steps p.tables e below (T39.setTop (mkF m 5 #[.val (.ref a), .val (.int (0 : Int32)), .val (.int (4 : Int32)), .val (.double y), .second, .val (.int (2 : Int32))] [(.int (2 : Int32))])) _
          refine XS.iloadN X39.here hx rfl (hb hby d1_5) rfl ?_
          show Steps p.tables e below (T39.setTop (mkF m 6 #[.val (.ref a), .val (.int (0 : Int32)), .val (.int (4 : Int32)), .val (.double y), .second, .val (.int (2 : Int32))] [(.int (0 : Int32)), (.int (2 : Int32))])) _
          refine XS.iloadN X39.here hx rfl (hb hby d1_6) rfl ?_
          show Steps p.tables e below (T39.setTop (mkF m 7 #[.val (.ref a), .val (.int (0 : Int32)), .val (.int (4 : Int32)), .val (.double y), .second, .val (.int (2 : Int32))] [(.int (4 : Int32)), (.int (0 : Int32)), (.int (2 : Int32))])) _
          refine XS.iadd X39.here hx rfl (hb hby d1_7) rfl ?_
          show Steps p.tables e below (T39.setTop (mkF m 8 #[.val (.ref a), .val (.int (0 : Int32)), .val (.int (4 : Int32)), .val (.double y), .second, .val (.int (2 : Int32))] [(.int (4 : Int32)), (.int (2 : Int32))])) _
          refine XS.icmpNo X39.here hx rfl (hb hby d1_8) rfl (tlt (by decide : ((2 : Int32) < (4 : Int32)))).2.1 ?_
          show Steps p.tables e below (T39.setTop (mkF m 11 #[.val (.ref a), .val (.int (0 : Int32)), .val (.int (4 : Int32)), .val (.double y), .second, .val (.int (2 : Int32))] [])) _
          refine XS.aloadN X39.here hx rfl (hb hby d1_11) rfl rfl ?_
          show Steps p.tables e below (T39.setTop (mkF m 12 #[.val (.ref a), .val (.int (0 : Int32)), .val (.int (4 : Int32)), .val (.double y), .second, .val (.int (2 : Int32))] [(.ref a)])) _
          refine XS.iload X39.here hx rfl (hb hby d1_12) rfl ?_
          exact kz
        obtain ⟨cl40, Ar40, -, S40, M40, H40, -⟩ := id Av_a
        have hin40 : ¬ ((2 : Int32) < 0 ∨ cl40.slots.size ≤ ((2 : Int32)).toNatClampNeg) := inb_of S40 ⟨by decide, by decide⟩
        have hat40 : cl40.slots[((2 : Int32)).toNatClampNeg]? = some (.double x2) := H40.at hin40 rfl
        refine own_go (A := T39.setTop (mkF m 15 #[.val (.ref a), .val (.int (0 : Int32)), .val (.int (4 : Int32)), .val (.double y), .second, .val (.int (2 : Int32))] [(.double x2)])) (fun _ kz => ?_) ?_
        · refine X39.daload hx (j := (2 : Int32)) (v := (.double x2)) (by rw [e39]; exact Ar40.1) (State.isArrayOf_alike hZ.alike Ar40.2.1) Ar40.2.2 hin40 hat40 (g := (mkF m 14 #[.val (.ref a), .val (.int (0 : Int32)), .val (.int (4 : Int32)), .val (.double y), .second, .val (.int (2 : Int32))] [(.int (2 : Int32)), (.ref a)])) rfl rfl (hb hby d1_14) _ ?_
          exact kz
        refine own_go (A := T39.setTop (mkF m 17 #[.val (.ref a), .val (.int (0 : Int32)), .val (.int (4 : Int32)), .val (.double y), .second, .val (.int (2 : Int32))] [(.int (cmpValue (FP.dcmp x2 y) .g))])) (fun _ kz => ?_) ?_
        · show Steps p.tables e below (T39.setTop (mkF m 15 #[.val (.ref a), .val (.int (0 : Int32)), .val (.int (4 : Int32)), .val (.double y), .second, .val (.int (2 : Int32))] [(.double x2)])) _
          refine XS.dloadN X39.here hx rfl (hb hby d1_15) rfl ?_
          show Steps p.tables e below (T39.setTop (mkF m 16 #[.val (.ref a), .val (.int (0 : Int32)), .val (.int (4 : Int32)), .val (.double y), .second, .val (.int (2 : Int32))] [(.double y), (.double x2)])) _
          refine XS.dcmpS X39.here hx rfl (hb hby d1_16) rfl rfl ?_
          exact kz
        by_cases hs41 : (cmpValue (FP.dcmp x2 y) .g) < (0 : Int32)
        · skip
          refine own_go (A := T39.setTop (mkF m 20 #[.val (.ref a), .val (.int (0 : Int32)), .val (.int (4 : Int32)), .val (.double y), .second, .val (.int (2 : Int32))] [])) (fun _ kz => ?_) ?_
          · show Steps p.tables e below (T39.setTop (mkF m 17 #[.val (.ref a), .val (.int (0 : Int32)), .val (.int (4 : Int32)), .val (.double y), .second, .val (.int (2 : Int32))] [(.int (cmpValue (FP.dcmp x2 y) .g))])) _
            refine XS.ifNo X39.here hx rfl (hb hby d1_17) rfl ((if0 _ _).trans (tlt hs41).2.1) ?_
            exact kz
          refine own_go (A := T39.setTop (mkF m 24 #[.val (.ref a), .val (.int (0 : Int32)), .val (.int (4 : Int32)), .val (.double y), .second, .val (.int (2 : Int32))] [(.double FP.dconst0), (.int (2 : Int32)), (.ref a)])) (fun _ kz => ?_) ?_
          · show Steps p.tables e below (T39.setTop (mkF m 20 #[.val (.ref a), .val (.int (0 : Int32)), .val (.int (4 : Int32)), .val (.double y), .second, .val (.int (2 : Int32))] [])) _
            refine XS.aloadN X39.here hx rfl (hb hby d1_20) rfl rfl ?_
            show Steps p.tables e below (T39.setTop (mkF m 21 #[.val (.ref a), .val (.int (0 : Int32)), .val (.int (4 : Int32)), .val (.double y), .second, .val (.int (2 : Int32))] [(.ref a)])) _
            refine XS.iload X39.here hx rfl (hb hby d1_21) rfl ?_
            show Steps p.tables e below (T39.setTop (mkF m 23 #[.val (.ref a), .val (.int (0 : Int32)), .val (.int (4 : Int32)), .val (.double y), .second, .val (.int (2 : Int32))] [(.int (2 : Int32)), (.ref a)])) _
            refine XS.dconst0 X39.here hx rfl (hb hby d1_23) rfl ?_
            exact kz
          obtain ⟨cl42, Ar42, q42, S42, M42, H42, G42⟩ := id Av_a
          have hin42 : ¬ ((2 : Int32) < 0 ∨ cl42.slots.size ≤ ((2 : Int32)).toNatClampNeg) := inb_of S42 ⟨by decide, by decide⟩
          obtain ⟨T42, h42, X42, e42, W42, st42⟩ := stD X39 hx hZ e39 Ar42 (j := (2 : Int32)) hin42 (g := (mkF m 24 #[.val (.ref a), .val (.int (0 : Int32)), .val (.int (4 : Int32)), .val (.double y), .second, .val (.int (2 : Int32))] [(.double FP.dconst0), (.int (2 : Int32)), (.ref a)])) rfl rfl (hb hby d1_24)
          have Aw42 := Arv.set Ar42 q42 S42 M42 H42 G42 rfl W42 2 rfl (Nat.le_of_ble_eq_true rfl)
          have Z42 : n0 ≤ h42.size := Nat.le_trans Z39 (Keep.of_wr W42).1
          have Kp42 : Keep h0 h42 [a] := Kp39.wr W42 (Or.inl (List.mem_of_getElem? (i := 0) rfl))
          have Av_a : Arv Z h42 a kc .double (4 : Int32) [(.double FP.dconst0), (.double FP.dconst0), (.double FP.dconst0), (.double x3)] (.double (0 : UInt64)) := Aw42
          have N42 := Fr.snoc X42 N39 g_a
          refine own_go (A := T42.setTop (mkF m 25 #[.val (.ref a), .val (.int (0 : Int32)), .val (.int (4 : Int32)), .val (.double y), .second, .val (.int (2 : Int32))] [])) (fun _ kz => st42 _ kz) ?_
          refine own_go (A := T42.setTop (mkF m 14 #[.val (.ref a), .val (.int (0 : Int32)), .val (.int (4 : Int32)), .val (.double y), .second, .val (.int (3 : Int32))] [(.int (3 : Int32)), (.ref a)])) (fun _ kz => ?_) ?_
          · show Steps p.tables e below (T42.setTop (mkF m 25 #[.val (.ref a), .val (.int (0 : Int32)), .val (.int (4 : Int32)), .val (.double y), .second, .val (.int (2 : Int32))] [])) _
            refine XS.iinc X42.here hx rfl (hb hby d1_25) rfl (l' := #[.val (.ref a), .val (.int (0 : Int32)), .val (.int (4 : Int32)), .val (.double y), .second, .val (.int (3 : Int32))]) rfl ?_
            show Steps p.tables e below (T42.setTop (mkF m 28 #[.val (.ref a), .val (.int (0 : Int32)), .val (.int (4 : Int32)), .val (.double y), .second, .val (.int (3 : Int32))] [])) _
            refine XS.goto X42.here hx rfl (pc0 := 28) (pc' := 3) rfl (hb hby d1_28) (by decide) (by decide) ?_
            show Steps p.tables e below (T42.setTop (mkF m 3 #[.val (.ref a), .val (.int (0 : Int32)), .val (.int (4 : Int32)), .val (.double y), .second, .val (.int (3 : Int32))] [])) _
            refine XS.iload X42.here hx rfl (hb hby d1_3) rfl ?_
            show Steps p.tables e below (T42.setTop (mkF m 5 #[.val (.ref a), .val (.int (0 : Int32)), .val (.int (4 : Int32)), .val (.double y), .second, .val (.int (3 : Int32))] [(.int (3 : Int32))])) _
            refine XS.iloadN X42.here hx rfl (hb hby d1_5) rfl ?_
            show Steps p.tables e below (T42.setTop (mkF m 6 #[.val (.ref a), .val (.int (0 : Int32)), .val (.int (4 : Int32)), .val (.double y), .second, .val (.int (3 : Int32))] [(.int (0 : Int32)), (.int (3 : Int32))])) _
            refine XS.iloadN X42.here hx rfl (hb hby d1_6) rfl ?_
            show Steps p.tables e below (T42.setTop (mkF m 7 #[.val (.ref a), .val (.int (0 : Int32)), .val (.int (4 : Int32)), .val (.double y), .second, .val (.int (3 : Int32))] [(.int (4 : Int32)), (.int (0 : Int32)), (.int (3 : Int32))])) _
            refine XS.iadd X42.here hx rfl (hb hby d1_7) rfl ?_
            show Steps p.tables e below (T42.setTop (mkF m 8 #[.val (.ref a), .val (.int (0 : Int32)), .val (.int (4 : Int32)), .val (.double y), .second, .val (.int (3 : Int32))] [(.int (4 : Int32)), (.int (3 : Int32))])) _
            refine XS.icmpNo X42.here hx rfl (hb hby d1_8) rfl (tlt (by decide : ((3 : Int32) < (4 : Int32)))).2.1 ?_
            show Steps p.tables e below (T42.setTop (mkF m 11 #[.val (.ref a), .val (.int (0 : Int32)), .val (.int (4 : Int32)), .val (.double y), .second, .val (.int (3 : Int32))] [])) _
            refine XS.aloadN X42.here hx rfl (hb hby d1_11) rfl rfl ?_
            show Steps p.tables e below (T42.setTop (mkF m 12 #[.val (.ref a), .val (.int (0 : Int32)), .val (.int (4 : Int32)), .val (.double y), .second, .val (.int (3 : Int32))] [(.ref a)])) _
            refine XS.iload X42.here hx rfl (hb hby d1_12) rfl ?_
            exact kz
          obtain ⟨cl43, Ar43, -, S43, M43, H43, -⟩ := id Av_a
          have hin43 : ¬ ((3 : Int32) < 0 ∨ cl43.slots.size ≤ ((3 : Int32)).toNatClampNeg) := inb_of S43 ⟨by decide, by decide⟩
          have hat43 : cl43.slots[((3 : Int32)).toNatClampNeg]? = some (.double x3) := H43.at hin43 rfl
          refine own_go (A := T42.setTop (mkF m 15 #[.val (.ref a), .val (.int (0 : Int32)), .val (.int (4 : Int32)), .val (.double y), .second, .val (.int (3 : Int32))] [(.double x3)])) (fun _ kz => ?_) ?_
          · refine X42.daload hx (j := (3 : Int32)) (v := (.double x3)) (by rw [e42]; exact Ar43.1) (State.isArrayOf_alike hZ.alike Ar43.2.1) Ar43.2.2 hin43 hat43 (g := (mkF m 14 #[.val (.ref a), .val (.int (0 : Int32)), .val (.int (4 : Int32)), .val (.double y), .second, .val (.int (3 : Int32))] [(.int (3 : Int32)), (.ref a)])) rfl rfl (hb hby d1_14) _ ?_
            exact kz
          refine own_go (A := T42.setTop (mkF m 17 #[.val (.ref a), .val (.int (0 : Int32)), .val (.int (4 : Int32)), .val (.double y), .second, .val (.int (3 : Int32))] [(.int (cmpValue (FP.dcmp x3 y) .g))])) (fun _ kz => ?_) ?_
          · show Steps p.tables e below (T42.setTop (mkF m 15 #[.val (.ref a), .val (.int (0 : Int32)), .val (.int (4 : Int32)), .val (.double y), .second, .val (.int (3 : Int32))] [(.double x3)])) _
            refine XS.dloadN X42.here hx rfl (hb hby d1_15) rfl ?_
            show Steps p.tables e below (T42.setTop (mkF m 16 #[.val (.ref a), .val (.int (0 : Int32)), .val (.int (4 : Int32)), .val (.double y), .second, .val (.int (3 : Int32))] [(.double y), (.double x3)])) _
            refine XS.dcmpS X42.here hx rfl (hb hby d1_16) rfl rfl ?_
            exact kz
          by_cases hs44 : (cmpValue (FP.dcmp x3 y) .g) < (0 : Int32)
          · skip
            refine own_go (A := T42.setTop (mkF m 20 #[.val (.ref a), .val (.int (0 : Int32)), .val (.int (4 : Int32)), .val (.double y), .second, .val (.int (3 : Int32))] [])) (fun _ kz => ?_) ?_
            · show Steps p.tables e below (T42.setTop (mkF m 17 #[.val (.ref a), .val (.int (0 : Int32)), .val (.int (4 : Int32)), .val (.double y), .second, .val (.int (3 : Int32))] [(.int (cmpValue (FP.dcmp x3 y) .g))])) _
              refine XS.ifNo X42.here hx rfl (hb hby d1_17) rfl ((if0 _ _).trans (tlt hs44).2.1) ?_
              exact kz
            refine own_go (A := T42.setTop (mkF m 24 #[.val (.ref a), .val (.int (0 : Int32)), .val (.int (4 : Int32)), .val (.double y), .second, .val (.int (3 : Int32))] [(.double FP.dconst0), (.int (3 : Int32)), (.ref a)])) (fun _ kz => ?_) ?_
            · show Steps p.tables e below (T42.setTop (mkF m 20 #[.val (.ref a), .val (.int (0 : Int32)), .val (.int (4 : Int32)), .val (.double y), .second, .val (.int (3 : Int32))] [])) _
              refine XS.aloadN X42.here hx rfl (hb hby d1_20) rfl rfl ?_
              show Steps p.tables e below (T42.setTop (mkF m 21 #[.val (.ref a), .val (.int (0 : Int32)), .val (.int (4 : Int32)), .val (.double y), .second, .val (.int (3 : Int32))] [(.ref a)])) _
              refine XS.iload X42.here hx rfl (hb hby d1_21) rfl ?_
              show Steps p.tables e below (T42.setTop (mkF m 23 #[.val (.ref a), .val (.int (0 : Int32)), .val (.int (4 : Int32)), .val (.double y), .second, .val (.int (3 : Int32))] [(.int (3 : Int32)), (.ref a)])) _
              refine XS.dconst0 X42.here hx rfl (hb hby d1_23) rfl ?_
              exact kz
            obtain ⟨cl45, Ar45, q45, S45, M45, H45, G45⟩ := id Av_a
            have hin45 : ¬ ((3 : Int32) < 0 ∨ cl45.slots.size ≤ ((3 : Int32)).toNatClampNeg) := inb_of S45 ⟨by decide, by decide⟩
            obtain ⟨T45, h45, X45, e45, W45, st45⟩ := stD X42 hx hZ e42 Ar45 (j := (3 : Int32)) hin45 (g := (mkF m 24 #[.val (.ref a), .val (.int (0 : Int32)), .val (.int (4 : Int32)), .val (.double y), .second, .val (.int (3 : Int32))] [(.double FP.dconst0), (.int (3 : Int32)), (.ref a)])) rfl rfl (hb hby d1_24)
            have Aw45 := Arv.set Ar45 q45 S45 M45 H45 G45 rfl W45 3 rfl (Nat.le_of_ble_eq_true rfl)
            have Z45 : n0 ≤ h45.size := Nat.le_trans Z42 (Keep.of_wr W45).1
            have Kp45 : Keep h0 h45 [a] := Kp42.wr W45 (Or.inl (List.mem_of_getElem? (i := 0) rfl))
            have Av_a : Arv Z h45 a kc .double (4 : Int32) [(.double FP.dconst0), (.double FP.dconst0), (.double FP.dconst0), (.double FP.dconst0)] (.double (0 : UInt64)) := Aw45
            have N45 := Fr.snoc X45 N42 g_a
            refine own_go (A := T45.setTop (mkF m 25 #[.val (.ref a), .val (.int (0 : Int32)), .val (.int (4 : Int32)), .val (.double y), .second, .val (.int (3 : Int32))] [])) (fun _ kz => st45 _ kz) ?_
            refine own_go (A := T45.setTop (mkF m 31 #[.val (.ref a), .val (.int (0 : Int32)), .val (.int (4 : Int32)), .val (.double y), .second, .val (.int (4 : Int32))] [])) (fun _ kz => ?_) ?_
            · show Steps p.tables e below (T45.setTop (mkF m 25 #[.val (.ref a), .val (.int (0 : Int32)), .val (.int (4 : Int32)), .val (.double y), .second, .val (.int (3 : Int32))] [])) _
              refine XS.iinc X45.here hx rfl (hb hby d1_25) rfl (l' := #[.val (.ref a), .val (.int (0 : Int32)), .val (.int (4 : Int32)), .val (.double y), .second, .val (.int (4 : Int32))]) rfl ?_
              show Steps p.tables e below (T45.setTop (mkF m 28 #[.val (.ref a), .val (.int (0 : Int32)), .val (.int (4 : Int32)), .val (.double y), .second, .val (.int (4 : Int32))] [])) _
              refine XS.goto X45.here hx rfl (pc0 := 28) (pc' := 3) rfl (hb hby d1_28) (by decide) (by decide) ?_
              show Steps p.tables e below (T45.setTop (mkF m 3 #[.val (.ref a), .val (.int (0 : Int32)), .val (.int (4 : Int32)), .val (.double y), .second, .val (.int (4 : Int32))] [])) _
              refine XS.iload X45.here hx rfl (hb hby d1_3) rfl ?_
              show Steps p.tables e below (T45.setTop (mkF m 5 #[.val (.ref a), .val (.int (0 : Int32)), .val (.int (4 : Int32)), .val (.double y), .second, .val (.int (4 : Int32))] [(.int (4 : Int32))])) _
              refine XS.iloadN X45.here hx rfl (hb hby d1_5) rfl ?_
              show Steps p.tables e below (T45.setTop (mkF m 6 #[.val (.ref a), .val (.int (0 : Int32)), .val (.int (4 : Int32)), .val (.double y), .second, .val (.int (4 : Int32))] [(.int (0 : Int32)), (.int (4 : Int32))])) _
              refine XS.iloadN X45.here hx rfl (hb hby d1_6) rfl ?_
              show Steps p.tables e below (T45.setTop (mkF m 7 #[.val (.ref a), .val (.int (0 : Int32)), .val (.int (4 : Int32)), .val (.double y), .second, .val (.int (4 : Int32))] [(.int (4 : Int32)), (.int (0 : Int32)), (.int (4 : Int32))])) _
              refine XS.iadd X45.here hx rfl (hb hby d1_7) rfl ?_
              show Steps p.tables e below (T45.setTop (mkF m 8 #[.val (.ref a), .val (.int (0 : Int32)), .val (.int (4 : Int32)), .val (.double y), .second, .val (.int (4 : Int32))] [(.int (4 : Int32)), (.int (4 : Int32))])) _
              refine XS.icmpYes X45.here hx rfl (pc0 := 8) (pc' := 31) rfl (hb hby d1_8) rfl (flt (by decide : ¬ ((4 : Int32) < (4 : Int32)))).2.1 (by decide) (by decide) ?_
              exact kz
            obtain ⟨fs, hrr, hrun, hended, hW, hsame⟩ := X45.leave (v := none) (fun _ => rfl)
            refine ⟨_, _, ?_, hrun, hended, _, _, rfl, ?_, ⟨_, rfl⟩, hW, hsame.mono (by decide) (by decide)⟩
            · show Steps p.tables e below (T45.setTop (mkF m 31 #[.val (.ref a), .val (.int (0 : Int32)), .val (.int (4 : Int32)), .val (.double y), .second, .val (.int (4 : Int32))] [])) _
              exact X45.returnOut hx Bd.returns (hb hby d1_31) hrr
            · show QrmFl Z a (0 : Int32) (4 : Int32) y kc x0 x1 x2 x3 h0 n0 _ T45.heap _
              rw [e45]
              exact ⟨rfl, N45, Kp45, by simpa [own_exp, hs35, hs38, hs41, hs44] using Av_a⟩
          · skip
            refine own_go (A := T42.setTop (mkF m 25 #[.val (.ref a), .val (.int (0 : Int32)), .val (.int (4 : Int32)), .val (.double y), .second, .val (.int (3 : Int32))] [])) (fun _ kz => ?_) ?_
            · show Steps p.tables e below (T42.setTop (mkF m 17 #[.val (.ref a), .val (.int (0 : Int32)), .val (.int (4 : Int32)), .val (.double y), .second, .val (.int (3 : Int32))] [(.int (cmpValue (FP.dcmp x3 y) .g))])) _
              refine XS.ifYes X42.here hx rfl (pc0 := 17) (pc' := 25) rfl (hb hby d1_17) rfl ((if0 _ _).trans (flt hs44).2.1) (by decide) (by decide) ?_
              exact kz
            refine own_go (A := T42.setTop (mkF m 31 #[.val (.ref a), .val (.int (0 : Int32)), .val (.int (4 : Int32)), .val (.double y), .second, .val (.int (4 : Int32))] [])) (fun _ kz => ?_) ?_
            · show Steps p.tables e below (T42.setTop (mkF m 25 #[.val (.ref a), .val (.int (0 : Int32)), .val (.int (4 : Int32)), .val (.double y), .second, .val (.int (3 : Int32))] [])) _
              refine XS.iinc X42.here hx rfl (hb hby d1_25) rfl (l' := #[.val (.ref a), .val (.int (0 : Int32)), .val (.int (4 : Int32)), .val (.double y), .second, .val (.int (4 : Int32))]) rfl ?_
              show Steps p.tables e below (T42.setTop (mkF m 28 #[.val (.ref a), .val (.int (0 : Int32)), .val (.int (4 : Int32)), .val (.double y), .second, .val (.int (4 : Int32))] [])) _
              refine XS.goto X42.here hx rfl (pc0 := 28) (pc' := 3) rfl (hb hby d1_28) (by decide) (by decide) ?_
              show Steps p.tables e below (T42.setTop (mkF m 3 #[.val (.ref a), .val (.int (0 : Int32)), .val (.int (4 : Int32)), .val (.double y), .second, .val (.int (4 : Int32))] [])) _
              refine XS.iload X42.here hx rfl (hb hby d1_3) rfl ?_
              show Steps p.tables e below (T42.setTop (mkF m 5 #[.val (.ref a), .val (.int (0 : Int32)), .val (.int (4 : Int32)), .val (.double y), .second, .val (.int (4 : Int32))] [(.int (4 : Int32))])) _
              refine XS.iloadN X42.here hx rfl (hb hby d1_5) rfl ?_
              show Steps p.tables e below (T42.setTop (mkF m 6 #[.val (.ref a), .val (.int (0 : Int32)), .val (.int (4 : Int32)), .val (.double y), .second, .val (.int (4 : Int32))] [(.int (0 : Int32)), (.int (4 : Int32))])) _
              refine XS.iloadN X42.here hx rfl (hb hby d1_6) rfl ?_
              show Steps p.tables e below (T42.setTop (mkF m 7 #[.val (.ref a), .val (.int (0 : Int32)), .val (.int (4 : Int32)), .val (.double y), .second, .val (.int (4 : Int32))] [(.int (4 : Int32)), (.int (0 : Int32)), (.int (4 : Int32))])) _
              refine XS.iadd X42.here hx rfl (hb hby d1_7) rfl ?_
              show Steps p.tables e below (T42.setTop (mkF m 8 #[.val (.ref a), .val (.int (0 : Int32)), .val (.int (4 : Int32)), .val (.double y), .second, .val (.int (4 : Int32))] [(.int (4 : Int32)), (.int (4 : Int32))])) _
              refine XS.icmpYes X42.here hx rfl (pc0 := 8) (pc' := 31) rfl (hb hby d1_8) rfl (flt (by decide : ¬ ((4 : Int32) < (4 : Int32)))).2.1 (by decide) (by decide) ?_
              exact kz
            obtain ⟨fs, hrr, hrun, hended, hW, hsame⟩ := X42.leave (v := none) (fun _ => rfl)
            refine ⟨_, _, ?_, hrun, hended, _, _, rfl, ?_, ⟨_, rfl⟩, hW, hsame.mono (by decide) (by decide)⟩
            · show Steps p.tables e below (T42.setTop (mkF m 31 #[.val (.ref a), .val (.int (0 : Int32)), .val (.int (4 : Int32)), .val (.double y), .second, .val (.int (4 : Int32))] [])) _
              exact X42.returnOut hx Bd.returns (hb hby d1_31) hrr
            · show QrmFl Z a (0 : Int32) (4 : Int32) y kc x0 x1 x2 x3 h0 n0 _ T42.heap _
              rw [e42]
              exact ⟨rfl, N42, Kp42, by simpa [own_exp, hs35, hs38, hs41, hs44] using Av_a⟩
        · skip
          refine own_go (A := T39.setTop (mkF m 25 #[.val (.ref a), .val (.int (0 : Int32)), .val (.int (4 : Int32)), .val (.double y), .second, .val (.int (2 : Int32))] [])) (fun _ kz => ?_) ?_
          · show Steps p.tables e below (T39.setTop (mkF m 17 #[.val (.ref a), .val (.int (0 : Int32)), .val (.int (4 : Int32)), .val (.double y), .second, .val (.int (2 : Int32))] [(.int (cmpValue (FP.dcmp x2 y) .g))])) _
            refine XS.ifYes X39.here hx rfl (pc0 := 17) (pc' := 25) rfl (hb hby d1_17) rfl ((if0 _ _).trans (flt hs41).2.1) (by decide) (by decide) ?_
            exact kz
          refine own_go (A := T39.setTop (mkF m 14 #[.val (.ref a), .val (.int (0 : Int32)), .val (.int (4 : Int32)), .val (.double y), .second, .val (.int (3 : Int32))] [(.int (3 : Int32)), (.ref a)])) (fun _ kz => ?_) ?_
          · show Steps p.tables e below (T39.setTop (mkF m 25 #[.val (.ref a), .val (.int (0 : Int32)), .val (.int (4 : Int32)), .val (.double y), .second, .val (.int (2 : Int32))] [])) _
            refine XS.iinc X39.here hx rfl (hb hby d1_25) rfl (l' := #[.val (.ref a), .val (.int (0 : Int32)), .val (.int (4 : Int32)), .val (.double y), .second, .val (.int (3 : Int32))]) rfl ?_
            show Steps p.tables e below (T39.setTop (mkF m 28 #[.val (.ref a), .val (.int (0 : Int32)), .val (.int (4 : Int32)), .val (.double y), .second, .val (.int (3 : Int32))] [])) _
            refine XS.goto X39.here hx rfl (pc0 := 28) (pc' := 3) rfl (hb hby d1_28) (by decide) (by decide) ?_
            show Steps p.tables e below (T39.setTop (mkF m 3 #[.val (.ref a), .val (.int (0 : Int32)), .val (.int (4 : Int32)), .val (.double y), .second, .val (.int (3 : Int32))] [])) _
            refine XS.iload X39.here hx rfl (hb hby d1_3) rfl ?_
            show Steps p.tables e below (T39.setTop (mkF m 5 #[.val (.ref a), .val (.int (0 : Int32)), .val (.int (4 : Int32)), .val (.double y), .second, .val (.int (3 : Int32))] [(.int (3 : Int32))])) _
            refine XS.iloadN X39.here hx rfl (hb hby d1_5) rfl ?_
            show Steps p.tables e below (T39.setTop (mkF m 6 #[.val (.ref a), .val (.int (0 : Int32)), .val (.int (4 : Int32)), .val (.double y), .second, .val (.int (3 : Int32))] [(.int (0 : Int32)), (.int (3 : Int32))])) _
            refine XS.iloadN X39.here hx rfl (hb hby d1_6) rfl ?_
            show Steps p.tables e below (T39.setTop (mkF m 7 #[.val (.ref a), .val (.int (0 : Int32)), .val (.int (4 : Int32)), .val (.double y), .second, .val (.int (3 : Int32))] [(.int (4 : Int32)), (.int (0 : Int32)), (.int (3 : Int32))])) _
            refine XS.iadd X39.here hx rfl (hb hby d1_7) rfl ?_
            show Steps p.tables e below (T39.setTop (mkF m 8 #[.val (.ref a), .val (.int (0 : Int32)), .val (.int (4 : Int32)), .val (.double y), .second, .val (.int (3 : Int32))] [(.int (4 : Int32)), (.int (3 : Int32))])) _
            refine XS.icmpNo X39.here hx rfl (hb hby d1_8) rfl (tlt (by decide : ((3 : Int32) < (4 : Int32)))).2.1 ?_
            show Steps p.tables e below (T39.setTop (mkF m 11 #[.val (.ref a), .val (.int (0 : Int32)), .val (.int (4 : Int32)), .val (.double y), .second, .val (.int (3 : Int32))] [])) _
            refine XS.aloadN X39.here hx rfl (hb hby d1_11) rfl rfl ?_
            show Steps p.tables e below (T39.setTop (mkF m 12 #[.val (.ref a), .val (.int (0 : Int32)), .val (.int (4 : Int32)), .val (.double y), .second, .val (.int (3 : Int32))] [(.ref a)])) _
            refine XS.iload X39.here hx rfl (hb hby d1_12) rfl ?_
            exact kz
          obtain ⟨cl46, Ar46, -, S46, M46, H46, -⟩ := id Av_a
          have hin46 : ¬ ((3 : Int32) < 0 ∨ cl46.slots.size ≤ ((3 : Int32)).toNatClampNeg) := inb_of S46 ⟨by decide, by decide⟩
          have hat46 : cl46.slots[((3 : Int32)).toNatClampNeg]? = some (.double x3) := H46.at hin46 rfl
          refine own_go (A := T39.setTop (mkF m 15 #[.val (.ref a), .val (.int (0 : Int32)), .val (.int (4 : Int32)), .val (.double y), .second, .val (.int (3 : Int32))] [(.double x3)])) (fun _ kz => ?_) ?_
          · refine X39.daload hx (j := (3 : Int32)) (v := (.double x3)) (by rw [e39]; exact Ar46.1) (State.isArrayOf_alike hZ.alike Ar46.2.1) Ar46.2.2 hin46 hat46 (g := (mkF m 14 #[.val (.ref a), .val (.int (0 : Int32)), .val (.int (4 : Int32)), .val (.double y), .second, .val (.int (3 : Int32))] [(.int (3 : Int32)), (.ref a)])) rfl rfl (hb hby d1_14) _ ?_
            exact kz
          refine own_go (A := T39.setTop (mkF m 17 #[.val (.ref a), .val (.int (0 : Int32)), .val (.int (4 : Int32)), .val (.double y), .second, .val (.int (3 : Int32))] [(.int (cmpValue (FP.dcmp x3 y) .g))])) (fun _ kz => ?_) ?_
          · show Steps p.tables e below (T39.setTop (mkF m 15 #[.val (.ref a), .val (.int (0 : Int32)), .val (.int (4 : Int32)), .val (.double y), .second, .val (.int (3 : Int32))] [(.double x3)])) _
            refine XS.dloadN X39.here hx rfl (hb hby d1_15) rfl ?_
            show Steps p.tables e below (T39.setTop (mkF m 16 #[.val (.ref a), .val (.int (0 : Int32)), .val (.int (4 : Int32)), .val (.double y), .second, .val (.int (3 : Int32))] [(.double y), (.double x3)])) _
            refine XS.dcmpS X39.here hx rfl (hb hby d1_16) rfl rfl ?_
            exact kz
          by_cases hs47 : (cmpValue (FP.dcmp x3 y) .g) < (0 : Int32)
          · skip
            refine own_go (A := T39.setTop (mkF m 20 #[.val (.ref a), .val (.int (0 : Int32)), .val (.int (4 : Int32)), .val (.double y), .second, .val (.int (3 : Int32))] [])) (fun _ kz => ?_) ?_
            · show Steps p.tables e below (T39.setTop (mkF m 17 #[.val (.ref a), .val (.int (0 : Int32)), .val (.int (4 : Int32)), .val (.double y), .second, .val (.int (3 : Int32))] [(.int (cmpValue (FP.dcmp x3 y) .g))])) _
              refine XS.ifNo X39.here hx rfl (hb hby d1_17) rfl ((if0 _ _).trans (tlt hs47).2.1) ?_
              exact kz
            refine own_go (A := T39.setTop (mkF m 24 #[.val (.ref a), .val (.int (0 : Int32)), .val (.int (4 : Int32)), .val (.double y), .second, .val (.int (3 : Int32))] [(.double FP.dconst0), (.int (3 : Int32)), (.ref a)])) (fun _ kz => ?_) ?_
            · show Steps p.tables e below (T39.setTop (mkF m 20 #[.val (.ref a), .val (.int (0 : Int32)), .val (.int (4 : Int32)), .val (.double y), .second, .val (.int (3 : Int32))] [])) _
              refine XS.aloadN X39.here hx rfl (hb hby d1_20) rfl rfl ?_
              show Steps p.tables e below (T39.setTop (mkF m 21 #[.val (.ref a), .val (.int (0 : Int32)), .val (.int (4 : Int32)), .val (.double y), .second, .val (.int (3 : Int32))] [(.ref a)])) _
              refine XS.iload X39.here hx rfl (hb hby d1_21) rfl ?_
              show Steps p.tables e below (T39.setTop (mkF m 23 #[.val (.ref a), .val (.int (0 : Int32)), .val (.int (4 : Int32)), .val (.double y), .second, .val (.int (3 : Int32))] [(.int (3 : Int32)), (.ref a)])) _
              refine XS.dconst0 X39.here hx rfl (hb hby d1_23) rfl ?_
              exact kz
            obtain ⟨cl48, Ar48, q48, S48, M48, H48, G48⟩ := id Av_a
            have hin48 : ¬ ((3 : Int32) < 0 ∨ cl48.slots.size ≤ ((3 : Int32)).toNatClampNeg) := inb_of S48 ⟨by decide, by decide⟩
            obtain ⟨T48, h48, X48, e48, W48, st48⟩ := stD X39 hx hZ e39 Ar48 (j := (3 : Int32)) hin48 (g := (mkF m 24 #[.val (.ref a), .val (.int (0 : Int32)), .val (.int (4 : Int32)), .val (.double y), .second, .val (.int (3 : Int32))] [(.double FP.dconst0), (.int (3 : Int32)), (.ref a)])) rfl rfl (hb hby d1_24)
            have Aw48 := Arv.set Ar48 q48 S48 M48 H48 G48 rfl W48 3 rfl (Nat.le_of_ble_eq_true rfl)
            have Z48 : n0 ≤ h48.size := Nat.le_trans Z39 (Keep.of_wr W48).1
            have Kp48 : Keep h0 h48 [a] := Kp39.wr W48 (Or.inl (List.mem_of_getElem? (i := 0) rfl))
            have Av_a : Arv Z h48 a kc .double (4 : Int32) [(.double FP.dconst0), (.double FP.dconst0), (.double x2), (.double FP.dconst0)] (.double (0 : UInt64)) := Aw48
            have N48 := Fr.snoc X48 N39 g_a
            refine own_go (A := T48.setTop (mkF m 25 #[.val (.ref a), .val (.int (0 : Int32)), .val (.int (4 : Int32)), .val (.double y), .second, .val (.int (3 : Int32))] [])) (fun _ kz => st48 _ kz) ?_
            refine own_go (A := T48.setTop (mkF m 31 #[.val (.ref a), .val (.int (0 : Int32)), .val (.int (4 : Int32)), .val (.double y), .second, .val (.int (4 : Int32))] [])) (fun _ kz => ?_) ?_
            · show Steps p.tables e below (T48.setTop (mkF m 25 #[.val (.ref a), .val (.int (0 : Int32)), .val (.int (4 : Int32)), .val (.double y), .second, .val (.int (3 : Int32))] [])) _
              refine XS.iinc X48.here hx rfl (hb hby d1_25) rfl (l' := #[.val (.ref a), .val (.int (0 : Int32)), .val (.int (4 : Int32)), .val (.double y), .second, .val (.int (4 : Int32))]) rfl ?_
              show Steps p.tables e below (T48.setTop (mkF m 28 #[.val (.ref a), .val (.int (0 : Int32)), .val (.int (4 : Int32)), .val (.double y), .second, .val (.int (4 : Int32))] [])) _
              refine XS.goto X48.here hx rfl (pc0 := 28) (pc' := 3) rfl (hb hby d1_28) (by decide) (by decide) ?_
              show Steps p.tables e below (T48.setTop (mkF m 3 #[.val (.ref a), .val (.int (0 : Int32)), .val (.int (4 : Int32)), .val (.double y), .second, .val (.int (4 : Int32))] [])) _
              refine XS.iload X48.here hx rfl (hb hby d1_3) rfl ?_
              show Steps p.tables e below (T48.setTop (mkF m 5 #[.val (.ref a), .val (.int (0 : Int32)), .val (.int (4 : Int32)), .val (.double y), .second, .val (.int (4 : Int32))] [(.int (4 : Int32))])) _
              refine XS.iloadN X48.here hx rfl (hb hby d1_5) rfl ?_
              show Steps p.tables e below (T48.setTop (mkF m 6 #[.val (.ref a), .val (.int (0 : Int32)), .val (.int (4 : Int32)), .val (.double y), .second, .val (.int (4 : Int32))] [(.int (0 : Int32)), (.int (4 : Int32))])) _
              refine XS.iloadN X48.here hx rfl (hb hby d1_6) rfl ?_
              show Steps p.tables e below (T48.setTop (mkF m 7 #[.val (.ref a), .val (.int (0 : Int32)), .val (.int (4 : Int32)), .val (.double y), .second, .val (.int (4 : Int32))] [(.int (4 : Int32)), (.int (0 : Int32)), (.int (4 : Int32))])) _
              refine XS.iadd X48.here hx rfl (hb hby d1_7) rfl ?_
              show Steps p.tables e below (T48.setTop (mkF m 8 #[.val (.ref a), .val (.int (0 : Int32)), .val (.int (4 : Int32)), .val (.double y), .second, .val (.int (4 : Int32))] [(.int (4 : Int32)), (.int (4 : Int32))])) _
              refine XS.icmpYes X48.here hx rfl (pc0 := 8) (pc' := 31) rfl (hb hby d1_8) rfl (flt (by decide : ¬ ((4 : Int32) < (4 : Int32)))).2.1 (by decide) (by decide) ?_
              exact kz
            obtain ⟨fs, hrr, hrun, hended, hW, hsame⟩ := X48.leave (v := none) (fun _ => rfl)
            refine ⟨_, _, ?_, hrun, hended, _, _, rfl, ?_, ⟨_, rfl⟩, hW, hsame.mono (by decide) (by decide)⟩
            · show Steps p.tables e below (T48.setTop (mkF m 31 #[.val (.ref a), .val (.int (0 : Int32)), .val (.int (4 : Int32)), .val (.double y), .second, .val (.int (4 : Int32))] [])) _
              exact X48.returnOut hx Bd.returns (hb hby d1_31) hrr
            · show QrmFl Z a (0 : Int32) (4 : Int32) y kc x0 x1 x2 x3 h0 n0 _ T48.heap _
              rw [e48]
              exact ⟨rfl, N48, Kp48, by simpa [own_exp, hs35, hs38, hs41, hs47] using Av_a⟩
          · skip
            refine own_go (A := T39.setTop (mkF m 25 #[.val (.ref a), .val (.int (0 : Int32)), .val (.int (4 : Int32)), .val (.double y), .second, .val (.int (3 : Int32))] [])) (fun _ kz => ?_) ?_
            · show Steps p.tables e below (T39.setTop (mkF m 17 #[.val (.ref a), .val (.int (0 : Int32)), .val (.int (4 : Int32)), .val (.double y), .second, .val (.int (3 : Int32))] [(.int (cmpValue (FP.dcmp x3 y) .g))])) _
              refine XS.ifYes X39.here hx rfl (pc0 := 17) (pc' := 25) rfl (hb hby d1_17) rfl ((if0 _ _).trans (flt hs47).2.1) (by decide) (by decide) ?_
              exact kz
            refine own_go (A := T39.setTop (mkF m 31 #[.val (.ref a), .val (.int (0 : Int32)), .val (.int (4 : Int32)), .val (.double y), .second, .val (.int (4 : Int32))] [])) (fun _ kz => ?_) ?_
            · show Steps p.tables e below (T39.setTop (mkF m 25 #[.val (.ref a), .val (.int (0 : Int32)), .val (.int (4 : Int32)), .val (.double y), .second, .val (.int (3 : Int32))] [])) _
              refine XS.iinc X39.here hx rfl (hb hby d1_25) rfl (l' := #[.val (.ref a), .val (.int (0 : Int32)), .val (.int (4 : Int32)), .val (.double y), .second, .val (.int (4 : Int32))]) rfl ?_
              show Steps p.tables e below (T39.setTop (mkF m 28 #[.val (.ref a), .val (.int (0 : Int32)), .val (.int (4 : Int32)), .val (.double y), .second, .val (.int (4 : Int32))] [])) _
              refine XS.goto X39.here hx rfl (pc0 := 28) (pc' := 3) rfl (hb hby d1_28) (by decide) (by decide) ?_
              show Steps p.tables e below (T39.setTop (mkF m 3 #[.val (.ref a), .val (.int (0 : Int32)), .val (.int (4 : Int32)), .val (.double y), .second, .val (.int (4 : Int32))] [])) _
              refine XS.iload X39.here hx rfl (hb hby d1_3) rfl ?_
              show Steps p.tables e below (T39.setTop (mkF m 5 #[.val (.ref a), .val (.int (0 : Int32)), .val (.int (4 : Int32)), .val (.double y), .second, .val (.int (4 : Int32))] [(.int (4 : Int32))])) _
              refine XS.iloadN X39.here hx rfl (hb hby d1_5) rfl ?_
              show Steps p.tables e below (T39.setTop (mkF m 6 #[.val (.ref a), .val (.int (0 : Int32)), .val (.int (4 : Int32)), .val (.double y), .second, .val (.int (4 : Int32))] [(.int (0 : Int32)), (.int (4 : Int32))])) _
              refine XS.iloadN X39.here hx rfl (hb hby d1_6) rfl ?_
              show Steps p.tables e below (T39.setTop (mkF m 7 #[.val (.ref a), .val (.int (0 : Int32)), .val (.int (4 : Int32)), .val (.double y), .second, .val (.int (4 : Int32))] [(.int (4 : Int32)), (.int (0 : Int32)), (.int (4 : Int32))])) _
              refine XS.iadd X39.here hx rfl (hb hby d1_7) rfl ?_
              show Steps p.tables e below (T39.setTop (mkF m 8 #[.val (.ref a), .val (.int (0 : Int32)), .val (.int (4 : Int32)), .val (.double y), .second, .val (.int (4 : Int32))] [(.int (4 : Int32)), (.int (4 : Int32))])) _
              refine XS.icmpYes X39.here hx rfl (pc0 := 8) (pc' := 31) rfl (hb hby d1_8) rfl (flt (by decide : ¬ ((4 : Int32) < (4 : Int32)))).2.1 (by decide) (by decide) ?_
              exact kz
            obtain ⟨fs, hrr, hrun, hended, hW, hsame⟩ := X39.leave (v := none) (fun _ => rfl)
            refine ⟨_, _, ?_, hrun, hended, _, _, rfl, ?_, ⟨_, rfl⟩, hW, hsame.mono (by decide) (by decide)⟩
            · show Steps p.tables e below (T39.setTop (mkF m 31 #[.val (.ref a), .val (.int (0 : Int32)), .val (.int (4 : Int32)), .val (.double y), .second, .val (.int (4 : Int32))] [])) _
              exact X39.returnOut hx Bd.returns (hb hby d1_31) hrr
            · show QrmFl Z a (0 : Int32) (4 : Int32) y kc x0 x1 x2 x3 h0 n0 _ T39.heap _
              rw [e39]
              exact ⟨rfl, N39, Kp39, by simpa [own_exp, hs35, hs38, hs41, hs47] using Av_a⟩
      · skip
        refine own_go (A := T36.setTop (mkF m 25 #[.val (.ref a), .val (.int (0 : Int32)), .val (.int (4 : Int32)), .val (.double y), .second, .val (.int (1 : Int32))] [])) (fun _ kz => ?_) ?_
        · show Steps p.tables e below (T36.setTop (mkF m 17 #[.val (.ref a), .val (.int (0 : Int32)), .val (.int (4 : Int32)), .val (.double y), .second, .val (.int (1 : Int32))] [(.int (cmpValue (FP.dcmp x1 y) .g))])) _
          refine XS.ifYes X36.here hx rfl (pc0 := 17) (pc' := 25) rfl (hb hby d1_17) rfl ((if0 _ _).trans (flt hs38).2.1) (by decide) (by decide) ?_
          exact kz
        refine own_go (A := T36.setTop (mkF m 14 #[.val (.ref a), .val (.int (0 : Int32)), .val (.int (4 : Int32)), .val (.double y), .second, .val (.int (2 : Int32))] [(.int (2 : Int32)), (.ref a)])) (fun _ kz => ?_) ?_
        · show Steps p.tables e below (T36.setTop (mkF m 25 #[.val (.ref a), .val (.int (0 : Int32)), .val (.int (4 : Int32)), .val (.double y), .second, .val (.int (1 : Int32))] [])) _
          refine XS.iinc X36.here hx rfl (hb hby d1_25) rfl (l' := #[.val (.ref a), .val (.int (0 : Int32)), .val (.int (4 : Int32)), .val (.double y), .second, .val (.int (2 : Int32))]) rfl ?_
          show Steps p.tables e below (T36.setTop (mkF m 28 #[.val (.ref a), .val (.int (0 : Int32)), .val (.int (4 : Int32)), .val (.double y), .second, .val (.int (2 : Int32))] [])) _
          refine XS.goto X36.here hx rfl (pc0 := 28) (pc' := 3) rfl (hb hby d1_28) (by decide) (by decide) ?_
          show Steps p.tables e below (T36.setTop (mkF m 3 #[.val (.ref a), .val (.int (0 : Int32)), .val (.int (4 : Int32)), .val (.double y), .second, .val (.int (2 : Int32))] [])) _
          refine XS.iload X36.here hx rfl (hb hby d1_3) rfl ?_
          show Steps p.tables e below (T36.setTop (mkF m 5 #[.val (.ref a), .val (.int (0 : Int32)), .val (.int (4 : Int32)), .val (.double y), .second, .val (.int (2 : Int32))] [(.int (2 : Int32))])) _
          refine XS.iloadN X36.here hx rfl (hb hby d1_5) rfl ?_
          show Steps p.tables e below (T36.setTop (mkF m 6 #[.val (.ref a), .val (.int (0 : Int32)), .val (.int (4 : Int32)), .val (.double y), .second, .val (.int (2 : Int32))] [(.int (0 : Int32)), (.int (2 : Int32))])) _
          refine XS.iloadN X36.here hx rfl (hb hby d1_6) rfl ?_
          show Steps p.tables e below (T36.setTop (mkF m 7 #[.val (.ref a), .val (.int (0 : Int32)), .val (.int (4 : Int32)), .val (.double y), .second, .val (.int (2 : Int32))] [(.int (4 : Int32)), (.int (0 : Int32)), (.int (2 : Int32))])) _
          refine XS.iadd X36.here hx rfl (hb hby d1_7) rfl ?_
          show Steps p.tables e below (T36.setTop (mkF m 8 #[.val (.ref a), .val (.int (0 : Int32)), .val (.int (4 : Int32)), .val (.double y), .second, .val (.int (2 : Int32))] [(.int (4 : Int32)), (.int (2 : Int32))])) _
          refine XS.icmpNo X36.here hx rfl (hb hby d1_8) rfl (tlt (by decide : ((2 : Int32) < (4 : Int32)))).2.1 ?_
          show Steps p.tables e below (T36.setTop (mkF m 11 #[.val (.ref a), .val (.int (0 : Int32)), .val (.int (4 : Int32)), .val (.double y), .second, .val (.int (2 : Int32))] [])) _
          refine XS.aloadN X36.here hx rfl (hb hby d1_11) rfl rfl ?_
          show Steps p.tables e below (T36.setTop (mkF m 12 #[.val (.ref a), .val (.int (0 : Int32)), .val (.int (4 : Int32)), .val (.double y), .second, .val (.int (2 : Int32))] [(.ref a)])) _
          refine XS.iload X36.here hx rfl (hb hby d1_12) rfl ?_
          exact kz
        obtain ⟨cl49, Ar49, -, S49, M49, H49, -⟩ := id Av_a
        have hin49 : ¬ ((2 : Int32) < 0 ∨ cl49.slots.size ≤ ((2 : Int32)).toNatClampNeg) := inb_of S49 ⟨by decide, by decide⟩
        have hat49 : cl49.slots[((2 : Int32)).toNatClampNeg]? = some (.double x2) := H49.at hin49 rfl
        refine own_go (A := T36.setTop (mkF m 15 #[.val (.ref a), .val (.int (0 : Int32)), .val (.int (4 : Int32)), .val (.double y), .second, .val (.int (2 : Int32))] [(.double x2)])) (fun _ kz => ?_) ?_
        · refine X36.daload hx (j := (2 : Int32)) (v := (.double x2)) (by rw [e36]; exact Ar49.1) (State.isArrayOf_alike hZ.alike Ar49.2.1) Ar49.2.2 hin49 hat49 (g := (mkF m 14 #[.val (.ref a), .val (.int (0 : Int32)), .val (.int (4 : Int32)), .val (.double y), .second, .val (.int (2 : Int32))] [(.int (2 : Int32)), (.ref a)])) rfl rfl (hb hby d1_14) _ ?_
          exact kz
        refine own_go (A := T36.setTop (mkF m 17 #[.val (.ref a), .val (.int (0 : Int32)), .val (.int (4 : Int32)), .val (.double y), .second, .val (.int (2 : Int32))] [(.int (cmpValue (FP.dcmp x2 y) .g))])) (fun _ kz => ?_) ?_
        · show Steps p.tables e below (T36.setTop (mkF m 15 #[.val (.ref a), .val (.int (0 : Int32)), .val (.int (4 : Int32)), .val (.double y), .second, .val (.int (2 : Int32))] [(.double x2)])) _
          refine XS.dloadN X36.here hx rfl (hb hby d1_15) rfl ?_
          show Steps p.tables e below (T36.setTop (mkF m 16 #[.val (.ref a), .val (.int (0 : Int32)), .val (.int (4 : Int32)), .val (.double y), .second, .val (.int (2 : Int32))] [(.double y), (.double x2)])) _
          refine XS.dcmpS X36.here hx rfl (hb hby d1_16) rfl rfl ?_
          exact kz
        by_cases hs50 : (cmpValue (FP.dcmp x2 y) .g) < (0 : Int32)
        · skip
          refine own_go (A := T36.setTop (mkF m 20 #[.val (.ref a), .val (.int (0 : Int32)), .val (.int (4 : Int32)), .val (.double y), .second, .val (.int (2 : Int32))] [])) (fun _ kz => ?_) ?_
          · show Steps p.tables e below (T36.setTop (mkF m 17 #[.val (.ref a), .val (.int (0 : Int32)), .val (.int (4 : Int32)), .val (.double y), .second, .val (.int (2 : Int32))] [(.int (cmpValue (FP.dcmp x2 y) .g))])) _
            refine XS.ifNo X36.here hx rfl (hb hby d1_17) rfl ((if0 _ _).trans (tlt hs50).2.1) ?_
            exact kz
          refine own_go (A := T36.setTop (mkF m 24 #[.val (.ref a), .val (.int (0 : Int32)), .val (.int (4 : Int32)), .val (.double y), .second, .val (.int (2 : Int32))] [(.double FP.dconst0), (.int (2 : Int32)), (.ref a)])) (fun _ kz => ?_) ?_
          · show Steps p.tables e below (T36.setTop (mkF m 20 #[.val (.ref a), .val (.int (0 : Int32)), .val (.int (4 : Int32)), .val (.double y), .second, .val (.int (2 : Int32))] [])) _
            refine XS.aloadN X36.here hx rfl (hb hby d1_20) rfl rfl ?_
            show Steps p.tables e below (T36.setTop (mkF m 21 #[.val (.ref a), .val (.int (0 : Int32)), .val (.int (4 : Int32)), .val (.double y), .second, .val (.int (2 : Int32))] [(.ref a)])) _
            refine XS.iload X36.here hx rfl (hb hby d1_21) rfl ?_
            show Steps p.tables e below (T36.setTop (mkF m 23 #[.val (.ref a), .val (.int (0 : Int32)), .val (.int (4 : Int32)), .val (.double y), .second, .val (.int (2 : Int32))] [(.int (2 : Int32)), (.ref a)])) _
            refine XS.dconst0 X36.here hx rfl (hb hby d1_23) rfl ?_
            exact kz
          obtain ⟨cl51, Ar51, q51, S51, M51, H51, G51⟩ := id Av_a
          have hin51 : ¬ ((2 : Int32) < 0 ∨ cl51.slots.size ≤ ((2 : Int32)).toNatClampNeg) := inb_of S51 ⟨by decide, by decide⟩
          obtain ⟨T51, h51, X51, e51, W51, st51⟩ := stD X36 hx hZ e36 Ar51 (j := (2 : Int32)) hin51 (g := (mkF m 24 #[.val (.ref a), .val (.int (0 : Int32)), .val (.int (4 : Int32)), .val (.double y), .second, .val (.int (2 : Int32))] [(.double FP.dconst0), (.int (2 : Int32)), (.ref a)])) rfl rfl (hb hby d1_24)
          have Aw51 := Arv.set Ar51 q51 S51 M51 H51 G51 rfl W51 2 rfl (Nat.le_of_ble_eq_true rfl)
          have Z51 : n0 ≤ h51.size := Nat.le_trans Z36 (Keep.of_wr W51).1
          have Kp51 : Keep h0 h51 [a] := Kp36.wr W51 (Or.inl (List.mem_of_getElem? (i := 0) rfl))
          have Av_a : Arv Z h51 a kc .double (4 : Int32) [(.double FP.dconst0), (.double x1), (.double FP.dconst0), (.double x3)] (.double (0 : UInt64)) := Aw51
          have N51 := Fr.snoc X51 N36 g_a
          refine own_go (A := T51.setTop (mkF m 25 #[.val (.ref a), .val (.int (0 : Int32)), .val (.int (4 : Int32)), .val (.double y), .second, .val (.int (2 : Int32))] [])) (fun _ kz => st51 _ kz) ?_
          refine own_go (A := T51.setTop (mkF m 14 #[.val (.ref a), .val (.int (0 : Int32)), .val (.int (4 : Int32)), .val (.double y), .second, .val (.int (3 : Int32))] [(.int (3 : Int32)), (.ref a)])) (fun _ kz => ?_) ?_
          · show Steps p.tables e below (T51.setTop (mkF m 25 #[.val (.ref a), .val (.int (0 : Int32)), .val (.int (4 : Int32)), .val (.double y), .second, .val (.int (2 : Int32))] [])) _
            refine XS.iinc X51.here hx rfl (hb hby d1_25) rfl (l' := #[.val (.ref a), .val (.int (0 : Int32)), .val (.int (4 : Int32)), .val (.double y), .second, .val (.int (3 : Int32))]) rfl ?_
            show Steps p.tables e below (T51.setTop (mkF m 28 #[.val (.ref a), .val (.int (0 : Int32)), .val (.int (4 : Int32)), .val (.double y), .second, .val (.int (3 : Int32))] [])) _
            refine XS.goto X51.here hx rfl (pc0 := 28) (pc' := 3) rfl (hb hby d1_28) (by decide) (by decide) ?_
            show Steps p.tables e below (T51.setTop (mkF m 3 #[.val (.ref a), .val (.int (0 : Int32)), .val (.int (4 : Int32)), .val (.double y), .second, .val (.int (3 : Int32))] [])) _
            refine XS.iload X51.here hx rfl (hb hby d1_3) rfl ?_
            show Steps p.tables e below (T51.setTop (mkF m 5 #[.val (.ref a), .val (.int (0 : Int32)), .val (.int (4 : Int32)), .val (.double y), .second, .val (.int (3 : Int32))] [(.int (3 : Int32))])) _
            refine XS.iloadN X51.here hx rfl (hb hby d1_5) rfl ?_
            show Steps p.tables e below (T51.setTop (mkF m 6 #[.val (.ref a), .val (.int (0 : Int32)), .val (.int (4 : Int32)), .val (.double y), .second, .val (.int (3 : Int32))] [(.int (0 : Int32)), (.int (3 : Int32))])) _
            refine XS.iloadN X51.here hx rfl (hb hby d1_6) rfl ?_
            show Steps p.tables e below (T51.setTop (mkF m 7 #[.val (.ref a), .val (.int (0 : Int32)), .val (.int (4 : Int32)), .val (.double y), .second, .val (.int (3 : Int32))] [(.int (4 : Int32)), (.int (0 : Int32)), (.int (3 : Int32))])) _
            refine XS.iadd X51.here hx rfl (hb hby d1_7) rfl ?_
            show Steps p.tables e below (T51.setTop (mkF m 8 #[.val (.ref a), .val (.int (0 : Int32)), .val (.int (4 : Int32)), .val (.double y), .second, .val (.int (3 : Int32))] [(.int (4 : Int32)), (.int (3 : Int32))])) _
            refine XS.icmpNo X51.here hx rfl (hb hby d1_8) rfl (tlt (by decide : ((3 : Int32) < (4 : Int32)))).2.1 ?_
            show Steps p.tables e below (T51.setTop (mkF m 11 #[.val (.ref a), .val (.int (0 : Int32)), .val (.int (4 : Int32)), .val (.double y), .second, .val (.int (3 : Int32))] [])) _
            refine XS.aloadN X51.here hx rfl (hb hby d1_11) rfl rfl ?_
            show Steps p.tables e below (T51.setTop (mkF m 12 #[.val (.ref a), .val (.int (0 : Int32)), .val (.int (4 : Int32)), .val (.double y), .second, .val (.int (3 : Int32))] [(.ref a)])) _
            refine XS.iload X51.here hx rfl (hb hby d1_12) rfl ?_
            exact kz
          obtain ⟨cl52, Ar52, -, S52, M52, H52, -⟩ := id Av_a
          have hin52 : ¬ ((3 : Int32) < 0 ∨ cl52.slots.size ≤ ((3 : Int32)).toNatClampNeg) := inb_of S52 ⟨by decide, by decide⟩
          have hat52 : cl52.slots[((3 : Int32)).toNatClampNeg]? = some (.double x3) := H52.at hin52 rfl
          refine own_go (A := T51.setTop (mkF m 15 #[.val (.ref a), .val (.int (0 : Int32)), .val (.int (4 : Int32)), .val (.double y), .second, .val (.int (3 : Int32))] [(.double x3)])) (fun _ kz => ?_) ?_
          · refine X51.daload hx (j := (3 : Int32)) (v := (.double x3)) (by rw [e51]; exact Ar52.1) (State.isArrayOf_alike hZ.alike Ar52.2.1) Ar52.2.2 hin52 hat52 (g := (mkF m 14 #[.val (.ref a), .val (.int (0 : Int32)), .val (.int (4 : Int32)), .val (.double y), .second, .val (.int (3 : Int32))] [(.int (3 : Int32)), (.ref a)])) rfl rfl (hb hby d1_14) _ ?_
            exact kz
          refine own_go (A := T51.setTop (mkF m 17 #[.val (.ref a), .val (.int (0 : Int32)), .val (.int (4 : Int32)), .val (.double y), .second, .val (.int (3 : Int32))] [(.int (cmpValue (FP.dcmp x3 y) .g))])) (fun _ kz => ?_) ?_
          · show Steps p.tables e below (T51.setTop (mkF m 15 #[.val (.ref a), .val (.int (0 : Int32)), .val (.int (4 : Int32)), .val (.double y), .second, .val (.int (3 : Int32))] [(.double x3)])) _
            refine XS.dloadN X51.here hx rfl (hb hby d1_15) rfl ?_
            show Steps p.tables e below (T51.setTop (mkF m 16 #[.val (.ref a), .val (.int (0 : Int32)), .val (.int (4 : Int32)), .val (.double y), .second, .val (.int (3 : Int32))] [(.double y), (.double x3)])) _
            refine XS.dcmpS X51.here hx rfl (hb hby d1_16) rfl rfl ?_
            exact kz
          by_cases hs53 : (cmpValue (FP.dcmp x3 y) .g) < (0 : Int32)
          · skip
            refine own_go (A := T51.setTop (mkF m 20 #[.val (.ref a), .val (.int (0 : Int32)), .val (.int (4 : Int32)), .val (.double y), .second, .val (.int (3 : Int32))] [])) (fun _ kz => ?_) ?_
            · show Steps p.tables e below (T51.setTop (mkF m 17 #[.val (.ref a), .val (.int (0 : Int32)), .val (.int (4 : Int32)), .val (.double y), .second, .val (.int (3 : Int32))] [(.int (cmpValue (FP.dcmp x3 y) .g))])) _
              refine XS.ifNo X51.here hx rfl (hb hby d1_17) rfl ((if0 _ _).trans (tlt hs53).2.1) ?_
              exact kz
            refine own_go (A := T51.setTop (mkF m 24 #[.val (.ref a), .val (.int (0 : Int32)), .val (.int (4 : Int32)), .val (.double y), .second, .val (.int (3 : Int32))] [(.double FP.dconst0), (.int (3 : Int32)), (.ref a)])) (fun _ kz => ?_) ?_
            · show Steps p.tables e below (T51.setTop (mkF m 20 #[.val (.ref a), .val (.int (0 : Int32)), .val (.int (4 : Int32)), .val (.double y), .second, .val (.int (3 : Int32))] [])) _
              refine XS.aloadN X51.here hx rfl (hb hby d1_20) rfl rfl ?_
              show Steps p.tables e below (T51.setTop (mkF m 21 #[.val (.ref a), .val (.int (0 : Int32)), .val (.int (4 : Int32)), .val (.double y), .second, .val (.int (3 : Int32))] [(.ref a)])) _
              refine XS.iload X51.here hx rfl (hb hby d1_21) rfl ?_
              show Steps p.tables e below (T51.setTop (mkF m 23 #[.val (.ref a), .val (.int (0 : Int32)), .val (.int (4 : Int32)), .val (.double y), .second, .val (.int (3 : Int32))] [(.int (3 : Int32)), (.ref a)])) _
              refine XS.dconst0 X51.here hx rfl (hb hby d1_23) rfl ?_
              exact kz
            obtain ⟨cl54, Ar54, q54, S54, M54, H54, G54⟩ := id Av_a
            have hin54 : ¬ ((3 : Int32) < 0 ∨ cl54.slots.size ≤ ((3 : Int32)).toNatClampNeg) := inb_of S54 ⟨by decide, by decide⟩
            obtain ⟨T54, h54, X54, e54, W54, st54⟩ := stD X51 hx hZ e51 Ar54 (j := (3 : Int32)) hin54 (g := (mkF m 24 #[.val (.ref a), .val (.int (0 : Int32)), .val (.int (4 : Int32)), .val (.double y), .second, .val (.int (3 : Int32))] [(.double FP.dconst0), (.int (3 : Int32)), (.ref a)])) rfl rfl (hb hby d1_24)
            have Aw54 := Arv.set Ar54 q54 S54 M54 H54 G54 rfl W54 3 rfl (Nat.le_of_ble_eq_true rfl)
            have Z54 : n0 ≤ h54.size := Nat.le_trans Z51 (Keep.of_wr W54).1
            have Kp54 : Keep h0 h54 [a] := Kp51.wr W54 (Or.inl (List.mem_of_getElem? (i := 0) rfl))
            have Av_a : Arv Z h54 a kc .double (4 : Int32) [(.double FP.dconst0), (.double x1), (.double FP.dconst0), (.double FP.dconst0)] (.double (0 : UInt64)) := Aw54
            have N54 := Fr.snoc X54 N51 g_a
            refine own_go (A := T54.setTop (mkF m 25 #[.val (.ref a), .val (.int (0 : Int32)), .val (.int (4 : Int32)), .val (.double y), .second, .val (.int (3 : Int32))] [])) (fun _ kz => st54 _ kz) ?_
            refine own_go (A := T54.setTop (mkF m 31 #[.val (.ref a), .val (.int (0 : Int32)), .val (.int (4 : Int32)), .val (.double y), .second, .val (.int (4 : Int32))] [])) (fun _ kz => ?_) ?_
            · show Steps p.tables e below (T54.setTop (mkF m 25 #[.val (.ref a), .val (.int (0 : Int32)), .val (.int (4 : Int32)), .val (.double y), .second, .val (.int (3 : Int32))] [])) _
              refine XS.iinc X54.here hx rfl (hb hby d1_25) rfl (l' := #[.val (.ref a), .val (.int (0 : Int32)), .val (.int (4 : Int32)), .val (.double y), .second, .val (.int (4 : Int32))]) rfl ?_
              show Steps p.tables e below (T54.setTop (mkF m 28 #[.val (.ref a), .val (.int (0 : Int32)), .val (.int (4 : Int32)), .val (.double y), .second, .val (.int (4 : Int32))] [])) _
              refine XS.goto X54.here hx rfl (pc0 := 28) (pc' := 3) rfl (hb hby d1_28) (by decide) (by decide) ?_
              show Steps p.tables e below (T54.setTop (mkF m 3 #[.val (.ref a), .val (.int (0 : Int32)), .val (.int (4 : Int32)), .val (.double y), .second, .val (.int (4 : Int32))] [])) _
              refine XS.iload X54.here hx rfl (hb hby d1_3) rfl ?_
              show Steps p.tables e below (T54.setTop (mkF m 5 #[.val (.ref a), .val (.int (0 : Int32)), .val (.int (4 : Int32)), .val (.double y), .second, .val (.int (4 : Int32))] [(.int (4 : Int32))])) _
              refine XS.iloadN X54.here hx rfl (hb hby d1_5) rfl ?_
              show Steps p.tables e below (T54.setTop (mkF m 6 #[.val (.ref a), .val (.int (0 : Int32)), .val (.int (4 : Int32)), .val (.double y), .second, .val (.int (4 : Int32))] [(.int (0 : Int32)), (.int (4 : Int32))])) _
              refine XS.iloadN X54.here hx rfl (hb hby d1_6) rfl ?_
              show Steps p.tables e below (T54.setTop (mkF m 7 #[.val (.ref a), .val (.int (0 : Int32)), .val (.int (4 : Int32)), .val (.double y), .second, .val (.int (4 : Int32))] [(.int (4 : Int32)), (.int (0 : Int32)), (.int (4 : Int32))])) _
              refine XS.iadd X54.here hx rfl (hb hby d1_7) rfl ?_
              show Steps p.tables e below (T54.setTop (mkF m 8 #[.val (.ref a), .val (.int (0 : Int32)), .val (.int (4 : Int32)), .val (.double y), .second, .val (.int (4 : Int32))] [(.int (4 : Int32)), (.int (4 : Int32))])) _
              refine XS.icmpYes X54.here hx rfl (pc0 := 8) (pc' := 31) rfl (hb hby d1_8) rfl (flt (by decide : ¬ ((4 : Int32) < (4 : Int32)))).2.1 (by decide) (by decide) ?_
              exact kz
            obtain ⟨fs, hrr, hrun, hended, hW, hsame⟩ := X54.leave (v := none) (fun _ => rfl)
            refine ⟨_, _, ?_, hrun, hended, _, _, rfl, ?_, ⟨_, rfl⟩, hW, hsame.mono (by decide) (by decide)⟩
            · show Steps p.tables e below (T54.setTop (mkF m 31 #[.val (.ref a), .val (.int (0 : Int32)), .val (.int (4 : Int32)), .val (.double y), .second, .val (.int (4 : Int32))] [])) _
              exact X54.returnOut hx Bd.returns (hb hby d1_31) hrr
            · show QrmFl Z a (0 : Int32) (4 : Int32) y kc x0 x1 x2 x3 h0 n0 _ T54.heap _
              rw [e54]
              exact ⟨rfl, N54, Kp54, by simpa [own_exp, hs35, hs38, hs50, hs53] using Av_a⟩
          · skip
            refine own_go (A := T51.setTop (mkF m 25 #[.val (.ref a), .val (.int (0 : Int32)), .val (.int (4 : Int32)), .val (.double y), .second, .val (.int (3 : Int32))] [])) (fun _ kz => ?_) ?_
            · show Steps p.tables e below (T51.setTop (mkF m 17 #[.val (.ref a), .val (.int (0 : Int32)), .val (.int (4 : Int32)), .val (.double y), .second, .val (.int (3 : Int32))] [(.int (cmpValue (FP.dcmp x3 y) .g))])) _
              refine XS.ifYes X51.here hx rfl (pc0 := 17) (pc' := 25) rfl (hb hby d1_17) rfl ((if0 _ _).trans (flt hs53).2.1) (by decide) (by decide) ?_
              exact kz
            refine own_go (A := T51.setTop (mkF m 31 #[.val (.ref a), .val (.int (0 : Int32)), .val (.int (4 : Int32)), .val (.double y), .second, .val (.int (4 : Int32))] [])) (fun _ kz => ?_) ?_
            · show Steps p.tables e below (T51.setTop (mkF m 25 #[.val (.ref a), .val (.int (0 : Int32)), .val (.int (4 : Int32)), .val (.double y), .second, .val (.int (3 : Int32))] [])) _
              refine XS.iinc X51.here hx rfl (hb hby d1_25) rfl (l' := #[.val (.ref a), .val (.int (0 : Int32)), .val (.int (4 : Int32)), .val (.double y), .second, .val (.int (4 : Int32))]) rfl ?_
              show Steps p.tables e below (T51.setTop (mkF m 28 #[.val (.ref a), .val (.int (0 : Int32)), .val (.int (4 : Int32)), .val (.double y), .second, .val (.int (4 : Int32))] [])) _
              refine XS.goto X51.here hx rfl (pc0 := 28) (pc' := 3) rfl (hb hby d1_28) (by decide) (by decide) ?_
              show Steps p.tables e below (T51.setTop (mkF m 3 #[.val (.ref a), .val (.int (0 : Int32)), .val (.int (4 : Int32)), .val (.double y), .second, .val (.int (4 : Int32))] [])) _
              refine XS.iload X51.here hx rfl (hb hby d1_3) rfl ?_
              show Steps p.tables e below (T51.setTop (mkF m 5 #[.val (.ref a), .val (.int (0 : Int32)), .val (.int (4 : Int32)), .val (.double y), .second, .val (.int (4 : Int32))] [(.int (4 : Int32))])) _
              refine XS.iloadN X51.here hx rfl (hb hby d1_5) rfl ?_
              show Steps p.tables e below (T51.setTop (mkF m 6 #[.val (.ref a), .val (.int (0 : Int32)), .val (.int (4 : Int32)), .val (.double y), .second, .val (.int (4 : Int32))] [(.int (0 : Int32)), (.int (4 : Int32))])) _
              refine XS.iloadN X51.here hx rfl (hb hby d1_6) rfl ?_
              show Steps p.tables e below (T51.setTop (mkF m 7 #[.val (.ref a), .val (.int (0 : Int32)), .val (.int (4 : Int32)), .val (.double y), .second, .val (.int (4 : Int32))] [(.int (4 : Int32)), (.int (0 : Int32)), (.int (4 : Int32))])) _
              refine XS.iadd X51.here hx rfl (hb hby d1_7) rfl ?_
              show Steps p.tables e below (T51.setTop (mkF m 8 #[.val (.ref a), .val (.int (0 : Int32)), .val (.int (4 : Int32)), .val (.double y), .second, .val (.int (4 : Int32))] [(.int (4 : Int32)), (.int (4 : Int32))])) _
              refine XS.icmpYes X51.here hx rfl (pc0 := 8) (pc' := 31) rfl (hb hby d1_8) rfl (flt (by decide : ¬ ((4 : Int32) < (4 : Int32)))).2.1 (by decide) (by decide) ?_
              exact kz
            obtain ⟨fs, hrr, hrun, hended, hW, hsame⟩ := X51.leave (v := none) (fun _ => rfl)
            refine ⟨_, _, ?_, hrun, hended, _, _, rfl, ?_, ⟨_, rfl⟩, hW, hsame.mono (by decide) (by decide)⟩
            · show Steps p.tables e below (T51.setTop (mkF m 31 #[.val (.ref a), .val (.int (0 : Int32)), .val (.int (4 : Int32)), .val (.double y), .second, .val (.int (4 : Int32))] [])) _
              exact X51.returnOut hx Bd.returns (hb hby d1_31) hrr
            · show QrmFl Z a (0 : Int32) (4 : Int32) y kc x0 x1 x2 x3 h0 n0 _ T51.heap _
              rw [e51]
              exact ⟨rfl, N51, Kp51, by simpa [own_exp, hs35, hs38, hs50, hs53] using Av_a⟩
        · skip
          refine own_go (A := T36.setTop (mkF m 25 #[.val (.ref a), .val (.int (0 : Int32)), .val (.int (4 : Int32)), .val (.double y), .second, .val (.int (2 : Int32))] [])) (fun _ kz => ?_) ?_
          · show Steps p.tables e below (T36.setTop (mkF m 17 #[.val (.ref a), .val (.int (0 : Int32)), .val (.int (4 : Int32)), .val (.double y), .second, .val (.int (2 : Int32))] [(.int (cmpValue (FP.dcmp x2 y) .g))])) _
            refine XS.ifYes X36.here hx rfl (pc0 := 17) (pc' := 25) rfl (hb hby d1_17) rfl ((if0 _ _).trans (flt hs50).2.1) (by decide) (by decide) ?_
            exact kz
          refine own_go (A := T36.setTop (mkF m 14 #[.val (.ref a), .val (.int (0 : Int32)), .val (.int (4 : Int32)), .val (.double y), .second, .val (.int (3 : Int32))] [(.int (3 : Int32)), (.ref a)])) (fun _ kz => ?_) ?_
          · show Steps p.tables e below (T36.setTop (mkF m 25 #[.val (.ref a), .val (.int (0 : Int32)), .val (.int (4 : Int32)), .val (.double y), .second, .val (.int (2 : Int32))] [])) _
            refine XS.iinc X36.here hx rfl (hb hby d1_25) rfl (l' := #[.val (.ref a), .val (.int (0 : Int32)), .val (.int (4 : Int32)), .val (.double y), .second, .val (.int (3 : Int32))]) rfl ?_
            show Steps p.tables e below (T36.setTop (mkF m 28 #[.val (.ref a), .val (.int (0 : Int32)), .val (.int (4 : Int32)), .val (.double y), .second, .val (.int (3 : Int32))] [])) _
            refine XS.goto X36.here hx rfl (pc0 := 28) (pc' := 3) rfl (hb hby d1_28) (by decide) (by decide) ?_
            show Steps p.tables e below (T36.setTop (mkF m 3 #[.val (.ref a), .val (.int (0 : Int32)), .val (.int (4 : Int32)), .val (.double y), .second, .val (.int (3 : Int32))] [])) _
            refine XS.iload X36.here hx rfl (hb hby d1_3) rfl ?_
            show Steps p.tables e below (T36.setTop (mkF m 5 #[.val (.ref a), .val (.int (0 : Int32)), .val (.int (4 : Int32)), .val (.double y), .second, .val (.int (3 : Int32))] [(.int (3 : Int32))])) _
            refine XS.iloadN X36.here hx rfl (hb hby d1_5) rfl ?_
            show Steps p.tables e below (T36.setTop (mkF m 6 #[.val (.ref a), .val (.int (0 : Int32)), .val (.int (4 : Int32)), .val (.double y), .second, .val (.int (3 : Int32))] [(.int (0 : Int32)), (.int (3 : Int32))])) _
            refine XS.iloadN X36.here hx rfl (hb hby d1_6) rfl ?_
            show Steps p.tables e below (T36.setTop (mkF m 7 #[.val (.ref a), .val (.int (0 : Int32)), .val (.int (4 : Int32)), .val (.double y), .second, .val (.int (3 : Int32))] [(.int (4 : Int32)), (.int (0 : Int32)), (.int (3 : Int32))])) _
            refine XS.iadd X36.here hx rfl (hb hby d1_7) rfl ?_
            show Steps p.tables e below (T36.setTop (mkF m 8 #[.val (.ref a), .val (.int (0 : Int32)), .val (.int (4 : Int32)), .val (.double y), .second, .val (.int (3 : Int32))] [(.int (4 : Int32)), (.int (3 : Int32))])) _
            refine XS.icmpNo X36.here hx rfl (hb hby d1_8) rfl (tlt (by decide : ((3 : Int32) < (4 : Int32)))).2.1 ?_
            show Steps p.tables e below (T36.setTop (mkF m 11 #[.val (.ref a), .val (.int (0 : Int32)), .val (.int (4 : Int32)), .val (.double y), .second, .val (.int (3 : Int32))] [])) _
            refine XS.aloadN X36.here hx rfl (hb hby d1_11) rfl rfl ?_
            show Steps p.tables e below (T36.setTop (mkF m 12 #[.val (.ref a), .val (.int (0 : Int32)), .val (.int (4 : Int32)), .val (.double y), .second, .val (.int (3 : Int32))] [(.ref a)])) _
            refine XS.iload X36.here hx rfl (hb hby d1_12) rfl ?_
            exact kz
          obtain ⟨cl55, Ar55, -, S55, M55, H55, -⟩ := id Av_a
          have hin55 : ¬ ((3 : Int32) < 0 ∨ cl55.slots.size ≤ ((3 : Int32)).toNatClampNeg) := inb_of S55 ⟨by decide, by decide⟩
          have hat55 : cl55.slots[((3 : Int32)).toNatClampNeg]? = some (.double x3) := H55.at hin55 rfl
          refine own_go (A := T36.setTop (mkF m 15 #[.val (.ref a), .val (.int (0 : Int32)), .val (.int (4 : Int32)), .val (.double y), .second, .val (.int (3 : Int32))] [(.double x3)])) (fun _ kz => ?_) ?_
          · refine X36.daload hx (j := (3 : Int32)) (v := (.double x3)) (by rw [e36]; exact Ar55.1) (State.isArrayOf_alike hZ.alike Ar55.2.1) Ar55.2.2 hin55 hat55 (g := (mkF m 14 #[.val (.ref a), .val (.int (0 : Int32)), .val (.int (4 : Int32)), .val (.double y), .second, .val (.int (3 : Int32))] [(.int (3 : Int32)), (.ref a)])) rfl rfl (hb hby d1_14) _ ?_
            exact kz
          refine own_go (A := T36.setTop (mkF m 17 #[.val (.ref a), .val (.int (0 : Int32)), .val (.int (4 : Int32)), .val (.double y), .second, .val (.int (3 : Int32))] [(.int (cmpValue (FP.dcmp x3 y) .g))])) (fun _ kz => ?_) ?_
          · show Steps p.tables e below (T36.setTop (mkF m 15 #[.val (.ref a), .val (.int (0 : Int32)), .val (.int (4 : Int32)), .val (.double y), .second, .val (.int (3 : Int32))] [(.double x3)])) _
            refine XS.dloadN X36.here hx rfl (hb hby d1_15) rfl ?_
            show Steps p.tables e below (T36.setTop (mkF m 16 #[.val (.ref a), .val (.int (0 : Int32)), .val (.int (4 : Int32)), .val (.double y), .second, .val (.int (3 : Int32))] [(.double y), (.double x3)])) _
            refine XS.dcmpS X36.here hx rfl (hb hby d1_16) rfl rfl ?_
            exact kz
          by_cases hs56 : (cmpValue (FP.dcmp x3 y) .g) < (0 : Int32)
          · skip
            refine own_go (A := T36.setTop (mkF m 20 #[.val (.ref a), .val (.int (0 : Int32)), .val (.int (4 : Int32)), .val (.double y), .second, .val (.int (3 : Int32))] [])) (fun _ kz => ?_) ?_
            · show Steps p.tables e below (T36.setTop (mkF m 17 #[.val (.ref a), .val (.int (0 : Int32)), .val (.int (4 : Int32)), .val (.double y), .second, .val (.int (3 : Int32))] [(.int (cmpValue (FP.dcmp x3 y) .g))])) _
              refine XS.ifNo X36.here hx rfl (hb hby d1_17) rfl ((if0 _ _).trans (tlt hs56).2.1) ?_
              exact kz
            refine own_go (A := T36.setTop (mkF m 24 #[.val (.ref a), .val (.int (0 : Int32)), .val (.int (4 : Int32)), .val (.double y), .second, .val (.int (3 : Int32))] [(.double FP.dconst0), (.int (3 : Int32)), (.ref a)])) (fun _ kz => ?_) ?_
            · show Steps p.tables e below (T36.setTop (mkF m 20 #[.val (.ref a), .val (.int (0 : Int32)), .val (.int (4 : Int32)), .val (.double y), .second, .val (.int (3 : Int32))] [])) _
              refine XS.aloadN X36.here hx rfl (hb hby d1_20) rfl rfl ?_
              show Steps p.tables e below (T36.setTop (mkF m 21 #[.val (.ref a), .val (.int (0 : Int32)), .val (.int (4 : Int32)), .val (.double y), .second, .val (.int (3 : Int32))] [(.ref a)])) _
              refine XS.iload X36.here hx rfl (hb hby d1_21) rfl ?_
              show Steps p.tables e below (T36.setTop (mkF m 23 #[.val (.ref a), .val (.int (0 : Int32)), .val (.int (4 : Int32)), .val (.double y), .second, .val (.int (3 : Int32))] [(.int (3 : Int32)), (.ref a)])) _
              refine XS.dconst0 X36.here hx rfl (hb hby d1_23) rfl ?_
              exact kz
            obtain ⟨cl57, Ar57, q57, S57, M57, H57, G57⟩ := id Av_a
            have hin57 : ¬ ((3 : Int32) < 0 ∨ cl57.slots.size ≤ ((3 : Int32)).toNatClampNeg) := inb_of S57 ⟨by decide, by decide⟩
            obtain ⟨T57, h57, X57, e57, W57, st57⟩ := stD X36 hx hZ e36 Ar57 (j := (3 : Int32)) hin57 (g := (mkF m 24 #[.val (.ref a), .val (.int (0 : Int32)), .val (.int (4 : Int32)), .val (.double y), .second, .val (.int (3 : Int32))] [(.double FP.dconst0), (.int (3 : Int32)), (.ref a)])) rfl rfl (hb hby d1_24)
            have Aw57 := Arv.set Ar57 q57 S57 M57 H57 G57 rfl W57 3 rfl (Nat.le_of_ble_eq_true rfl)
            have Z57 : n0 ≤ h57.size := Nat.le_trans Z36 (Keep.of_wr W57).1
            have Kp57 : Keep h0 h57 [a] := Kp36.wr W57 (Or.inl (List.mem_of_getElem? (i := 0) rfl))
            have Av_a : Arv Z h57 a kc .double (4 : Int32) [(.double FP.dconst0), (.double x1), (.double x2), (.double FP.dconst0)] (.double (0 : UInt64)) := Aw57
            have N57 := Fr.snoc X57 N36 g_a
            refine own_go (A := T57.setTop (mkF m 25 #[.val (.ref a), .val (.int (0 : Int32)), .val (.int (4 : Int32)), .val (.double y), .second, .val (.int (3 : Int32))] [])) (fun _ kz => st57 _ kz) ?_
            refine own_go (A := T57.setTop (mkF m 31 #[.val (.ref a), .val (.int (0 : Int32)), .val (.int (4 : Int32)), .val (.double y), .second, .val (.int (4 : Int32))] [])) (fun _ kz => ?_) ?_
            · show Steps p.tables e below (T57.setTop (mkF m 25 #[.val (.ref a), .val (.int (0 : Int32)), .val (.int (4 : Int32)), .val (.double y), .second, .val (.int (3 : Int32))] [])) _
              refine XS.iinc X57.here hx rfl (hb hby d1_25) rfl (l' := #[.val (.ref a), .val (.int (0 : Int32)), .val (.int (4 : Int32)), .val (.double y), .second, .val (.int (4 : Int32))]) rfl ?_
              show Steps p.tables e below (T57.setTop (mkF m 28 #[.val (.ref a), .val (.int (0 : Int32)), .val (.int (4 : Int32)), .val (.double y), .second, .val (.int (4 : Int32))] [])) _
              refine XS.goto X57.here hx rfl (pc0 := 28) (pc' := 3) rfl (hb hby d1_28) (by decide) (by decide) ?_
              show Steps p.tables e below (T57.setTop (mkF m 3 #[.val (.ref a), .val (.int (0 : Int32)), .val (.int (4 : Int32)), .val (.double y), .second, .val (.int (4 : Int32))] [])) _
              refine XS.iload X57.here hx rfl (hb hby d1_3) rfl ?_
              show Steps p.tables e below (T57.setTop (mkF m 5 #[.val (.ref a), .val (.int (0 : Int32)), .val (.int (4 : Int32)), .val (.double y), .second, .val (.int (4 : Int32))] [(.int (4 : Int32))])) _
              refine XS.iloadN X57.here hx rfl (hb hby d1_5) rfl ?_
              show Steps p.tables e below (T57.setTop (mkF m 6 #[.val (.ref a), .val (.int (0 : Int32)), .val (.int (4 : Int32)), .val (.double y), .second, .val (.int (4 : Int32))] [(.int (0 : Int32)), (.int (4 : Int32))])) _
              refine XS.iloadN X57.here hx rfl (hb hby d1_6) rfl ?_
              show Steps p.tables e below (T57.setTop (mkF m 7 #[.val (.ref a), .val (.int (0 : Int32)), .val (.int (4 : Int32)), .val (.double y), .second, .val (.int (4 : Int32))] [(.int (4 : Int32)), (.int (0 : Int32)), (.int (4 : Int32))])) _
              refine XS.iadd X57.here hx rfl (hb hby d1_7) rfl ?_
              show Steps p.tables e below (T57.setTop (mkF m 8 #[.val (.ref a), .val (.int (0 : Int32)), .val (.int (4 : Int32)), .val (.double y), .second, .val (.int (4 : Int32))] [(.int (4 : Int32)), (.int (4 : Int32))])) _
              refine XS.icmpYes X57.here hx rfl (pc0 := 8) (pc' := 31) rfl (hb hby d1_8) rfl (flt (by decide : ¬ ((4 : Int32) < (4 : Int32)))).2.1 (by decide) (by decide) ?_
              exact kz
            obtain ⟨fs, hrr, hrun, hended, hW, hsame⟩ := X57.leave (v := none) (fun _ => rfl)
            refine ⟨_, _, ?_, hrun, hended, _, _, rfl, ?_, ⟨_, rfl⟩, hW, hsame.mono (by decide) (by decide)⟩
            · show Steps p.tables e below (T57.setTop (mkF m 31 #[.val (.ref a), .val (.int (0 : Int32)), .val (.int (4 : Int32)), .val (.double y), .second, .val (.int (4 : Int32))] [])) _
              exact X57.returnOut hx Bd.returns (hb hby d1_31) hrr
            · show QrmFl Z a (0 : Int32) (4 : Int32) y kc x0 x1 x2 x3 h0 n0 _ T57.heap _
              rw [e57]
              exact ⟨rfl, N57, Kp57, by simpa [own_exp, hs35, hs38, hs50, hs56] using Av_a⟩
          · skip
            refine own_go (A := T36.setTop (mkF m 25 #[.val (.ref a), .val (.int (0 : Int32)), .val (.int (4 : Int32)), .val (.double y), .second, .val (.int (3 : Int32))] [])) (fun _ kz => ?_) ?_
            · show Steps p.tables e below (T36.setTop (mkF m 17 #[.val (.ref a), .val (.int (0 : Int32)), .val (.int (4 : Int32)), .val (.double y), .second, .val (.int (3 : Int32))] [(.int (cmpValue (FP.dcmp x3 y) .g))])) _
              refine XS.ifYes X36.here hx rfl (pc0 := 17) (pc' := 25) rfl (hb hby d1_17) rfl ((if0 _ _).trans (flt hs56).2.1) (by decide) (by decide) ?_
              exact kz
            refine own_go (A := T36.setTop (mkF m 31 #[.val (.ref a), .val (.int (0 : Int32)), .val (.int (4 : Int32)), .val (.double y), .second, .val (.int (4 : Int32))] [])) (fun _ kz => ?_) ?_
            · show Steps p.tables e below (T36.setTop (mkF m 25 #[.val (.ref a), .val (.int (0 : Int32)), .val (.int (4 : Int32)), .val (.double y), .second, .val (.int (3 : Int32))] [])) _
              refine XS.iinc X36.here hx rfl (hb hby d1_25) rfl (l' := #[.val (.ref a), .val (.int (0 : Int32)), .val (.int (4 : Int32)), .val (.double y), .second, .val (.int (4 : Int32))]) rfl ?_
              show Steps p.tables e below (T36.setTop (mkF m 28 #[.val (.ref a), .val (.int (0 : Int32)), .val (.int (4 : Int32)), .val (.double y), .second, .val (.int (4 : Int32))] [])) _
              refine XS.goto X36.here hx rfl (pc0 := 28) (pc' := 3) rfl (hb hby d1_28) (by decide) (by decide) ?_
              show Steps p.tables e below (T36.setTop (mkF m 3 #[.val (.ref a), .val (.int (0 : Int32)), .val (.int (4 : Int32)), .val (.double y), .second, .val (.int (4 : Int32))] [])) _
              refine XS.iload X36.here hx rfl (hb hby d1_3) rfl ?_
              show Steps p.tables e below (T36.setTop (mkF m 5 #[.val (.ref a), .val (.int (0 : Int32)), .val (.int (4 : Int32)), .val (.double y), .second, .val (.int (4 : Int32))] [(.int (4 : Int32))])) _
              refine XS.iloadN X36.here hx rfl (hb hby d1_5) rfl ?_
              show Steps p.tables e below (T36.setTop (mkF m 6 #[.val (.ref a), .val (.int (0 : Int32)), .val (.int (4 : Int32)), .val (.double y), .second, .val (.int (4 : Int32))] [(.int (0 : Int32)), (.int (4 : Int32))])) _
              refine XS.iloadN X36.here hx rfl (hb hby d1_6) rfl ?_
              show Steps p.tables e below (T36.setTop (mkF m 7 #[.val (.ref a), .val (.int (0 : Int32)), .val (.int (4 : Int32)), .val (.double y), .second, .val (.int (4 : Int32))] [(.int (4 : Int32)), (.int (0 : Int32)), (.int (4 : Int32))])) _
              refine XS.iadd X36.here hx rfl (hb hby d1_7) rfl ?_
              show Steps p.tables e below (T36.setTop (mkF m 8 #[.val (.ref a), .val (.int (0 : Int32)), .val (.int (4 : Int32)), .val (.double y), .second, .val (.int (4 : Int32))] [(.int (4 : Int32)), (.int (4 : Int32))])) _
              refine XS.icmpYes X36.here hx rfl (pc0 := 8) (pc' := 31) rfl (hb hby d1_8) rfl (flt (by decide : ¬ ((4 : Int32) < (4 : Int32)))).2.1 (by decide) (by decide) ?_
              exact kz
            obtain ⟨fs, hrr, hrun, hended, hW, hsame⟩ := X36.leave (v := none) (fun _ => rfl)
            refine ⟨_, _, ?_, hrun, hended, _, _, rfl, ?_, ⟨_, rfl⟩, hW, hsame.mono (by decide) (by decide)⟩
            · show Steps p.tables e below (T36.setTop (mkF m 31 #[.val (.ref a), .val (.int (0 : Int32)), .val (.int (4 : Int32)), .val (.double y), .second, .val (.int (4 : Int32))] [])) _
              exact X36.returnOut hx Bd.returns (hb hby d1_31) hrr
            · show QrmFl Z a (0 : Int32) (4 : Int32) y kc x0 x1 x2 x3 h0 n0 _ T36.heap _
              rw [e36]
              exact ⟨rfl, N36, Kp36, by simpa [own_exp, hs35, hs38, hs50, hs56] using Av_a⟩
    · skip
      refine own_go (A := s₁.setTop (mkF m 25 #[.val (.ref a), .val (.int (0 : Int32)), .val (.int (4 : Int32)), .val (.double y), .second, .val (.int (0 : Int32))] [])) (fun _ kz => ?_) ?_
      · show Steps p.tables e below (s₁.setTop (mkF m 17 #[.val (.ref a), .val (.int (0 : Int32)), .val (.int (4 : Int32)), .val (.double y), .second, .val (.int (0 : Int32))] [(.int (cmpValue (FP.dcmp x0 y) .g))])) _
        refine XS.ifYes X0.here hx rfl (pc0 := 17) (pc' := 25) rfl (hb hby d1_17) rfl ((if0 _ _).trans (flt hs35).2.1) (by decide) (by decide) ?_
        exact kz
      refine own_go (A := s₁.setTop (mkF m 14 #[.val (.ref a), .val (.int (0 : Int32)), .val (.int (4 : Int32)), .val (.double y), .second, .val (.int (1 : Int32))] [(.int (1 : Int32)), (.ref a)])) (fun _ kz => ?_) ?_
      · show Steps p.tables e below (s₁.setTop (mkF m 25 #[.val (.ref a), .val (.int (0 : Int32)), .val (.int (4 : Int32)), .val (.double y), .second, .val (.int (0 : Int32))] [])) _
        refine XS.iinc X0.here hx rfl (hb hby d1_25) rfl (l' := #[.val (.ref a), .val (.int (0 : Int32)), .val (.int (4 : Int32)), .val (.double y), .second, .val (.int (1 : Int32))]) rfl ?_
        show Steps p.tables e below (s₁.setTop (mkF m 28 #[.val (.ref a), .val (.int (0 : Int32)), .val (.int (4 : Int32)), .val (.double y), .second, .val (.int (1 : Int32))] [])) _
        refine XS.goto X0.here hx rfl (pc0 := 28) (pc' := 3) rfl (hb hby d1_28) (by decide) (by decide) ?_
        show Steps p.tables e below (s₁.setTop (mkF m 3 #[.val (.ref a), .val (.int (0 : Int32)), .val (.int (4 : Int32)), .val (.double y), .second, .val (.int (1 : Int32))] [])) _
        refine XS.iload X0.here hx rfl (hb hby d1_3) rfl ?_
        show Steps p.tables e below (s₁.setTop (mkF m 5 #[.val (.ref a), .val (.int (0 : Int32)), .val (.int (4 : Int32)), .val (.double y), .second, .val (.int (1 : Int32))] [(.int (1 : Int32))])) _
        refine XS.iloadN X0.here hx rfl (hb hby d1_5) rfl ?_
        show Steps p.tables e below (s₁.setTop (mkF m 6 #[.val (.ref a), .val (.int (0 : Int32)), .val (.int (4 : Int32)), .val (.double y), .second, .val (.int (1 : Int32))] [(.int (0 : Int32)), (.int (1 : Int32))])) _
        refine XS.iloadN X0.here hx rfl (hb hby d1_6) rfl ?_
        show Steps p.tables e below (s₁.setTop (mkF m 7 #[.val (.ref a), .val (.int (0 : Int32)), .val (.int (4 : Int32)), .val (.double y), .second, .val (.int (1 : Int32))] [(.int (4 : Int32)), (.int (0 : Int32)), (.int (1 : Int32))])) _
        refine XS.iadd X0.here hx rfl (hb hby d1_7) rfl ?_
        show Steps p.tables e below (s₁.setTop (mkF m 8 #[.val (.ref a), .val (.int (0 : Int32)), .val (.int (4 : Int32)), .val (.double y), .second, .val (.int (1 : Int32))] [(.int (4 : Int32)), (.int (1 : Int32))])) _
        refine XS.icmpNo X0.here hx rfl (hb hby d1_8) rfl (tlt (by decide : ((1 : Int32) < (4 : Int32)))).2.1 ?_
        show Steps p.tables e below (s₁.setTop (mkF m 11 #[.val (.ref a), .val (.int (0 : Int32)), .val (.int (4 : Int32)), .val (.double y), .second, .val (.int (1 : Int32))] [])) _
        refine XS.aloadN X0.here hx rfl (hb hby d1_11) rfl rfl ?_
        show Steps p.tables e below (s₁.setTop (mkF m 12 #[.val (.ref a), .val (.int (0 : Int32)), .val (.int (4 : Int32)), .val (.double y), .second, .val (.int (1 : Int32))] [(.ref a)])) _
        refine XS.iload X0.here hx rfl (hb hby d1_12) rfl ?_
        exact kz
      obtain ⟨cl58, Ar58, -, S58, M58, H58, -⟩ := id Av
      have hin58 : ¬ ((1 : Int32) < 0 ∨ cl58.slots.size ≤ ((1 : Int32)).toNatClampNeg) := inb_of S58 ⟨by decide, by decide⟩
      have hat58 : cl58.slots[((1 : Int32)).toNatClampNeg]? = some (.double x1) := H58.at hin58 rfl
      refine own_go (A := s₁.setTop (mkF m 15 #[.val (.ref a), .val (.int (0 : Int32)), .val (.int (4 : Int32)), .val (.double y), .second, .val (.int (1 : Int32))] [(.double x1)])) (fun _ kz => ?_) ?_
      · refine X0.daload hx (j := (1 : Int32)) (v := (.double x1)) (by rw [e0]; exact Ar58.1) (State.isArrayOf_alike hZ.alike Ar58.2.1) Ar58.2.2 hin58 hat58 (g := (mkF m 14 #[.val (.ref a), .val (.int (0 : Int32)), .val (.int (4 : Int32)), .val (.double y), .second, .val (.int (1 : Int32))] [(.int (1 : Int32)), (.ref a)])) rfl rfl (hb hby d1_14) _ ?_
        exact kz
      refine own_go (A := s₁.setTop (mkF m 17 #[.val (.ref a), .val (.int (0 : Int32)), .val (.int (4 : Int32)), .val (.double y), .second, .val (.int (1 : Int32))] [(.int (cmpValue (FP.dcmp x1 y) .g))])) (fun _ kz => ?_) ?_
      · show Steps p.tables e below (s₁.setTop (mkF m 15 #[.val (.ref a), .val (.int (0 : Int32)), .val (.int (4 : Int32)), .val (.double y), .second, .val (.int (1 : Int32))] [(.double x1)])) _
        refine XS.dloadN X0.here hx rfl (hb hby d1_15) rfl ?_
        show Steps p.tables e below (s₁.setTop (mkF m 16 #[.val (.ref a), .val (.int (0 : Int32)), .val (.int (4 : Int32)), .val (.double y), .second, .val (.int (1 : Int32))] [(.double y), (.double x1)])) _
        refine XS.dcmpS X0.here hx rfl (hb hby d1_16) rfl rfl ?_
        exact kz
      by_cases hs59 : (cmpValue (FP.dcmp x1 y) .g) < (0 : Int32)
      · skip
        refine own_go (A := s₁.setTop (mkF m 20 #[.val (.ref a), .val (.int (0 : Int32)), .val (.int (4 : Int32)), .val (.double y), .second, .val (.int (1 : Int32))] [])) (fun _ kz => ?_) ?_
        · show Steps p.tables e below (s₁.setTop (mkF m 17 #[.val (.ref a), .val (.int (0 : Int32)), .val (.int (4 : Int32)), .val (.double y), .second, .val (.int (1 : Int32))] [(.int (cmpValue (FP.dcmp x1 y) .g))])) _
          refine XS.ifNo X0.here hx rfl (hb hby d1_17) rfl ((if0 _ _).trans (tlt hs59).2.1) ?_
          exact kz
        refine own_go (A := s₁.setTop (mkF m 24 #[.val (.ref a), .val (.int (0 : Int32)), .val (.int (4 : Int32)), .val (.double y), .second, .val (.int (1 : Int32))] [(.double FP.dconst0), (.int (1 : Int32)), (.ref a)])) (fun _ kz => ?_) ?_
        · show Steps p.tables e below (s₁.setTop (mkF m 20 #[.val (.ref a), .val (.int (0 : Int32)), .val (.int (4 : Int32)), .val (.double y), .second, .val (.int (1 : Int32))] [])) _
          refine XS.aloadN X0.here hx rfl (hb hby d1_20) rfl rfl ?_
          show Steps p.tables e below (s₁.setTop (mkF m 21 #[.val (.ref a), .val (.int (0 : Int32)), .val (.int (4 : Int32)), .val (.double y), .second, .val (.int (1 : Int32))] [(.ref a)])) _
          refine XS.iload X0.here hx rfl (hb hby d1_21) rfl ?_
          show Steps p.tables e below (s₁.setTop (mkF m 23 #[.val (.ref a), .val (.int (0 : Int32)), .val (.int (4 : Int32)), .val (.double y), .second, .val (.int (1 : Int32))] [(.int (1 : Int32)), (.ref a)])) _
          refine XS.dconst0 X0.here hx rfl (hb hby d1_23) rfl ?_
          exact kz
        obtain ⟨cl60, Ar60, q60, S60, M60, H60, G60⟩ := id Av
        have hin60 : ¬ ((1 : Int32) < 0 ∨ cl60.slots.size ≤ ((1 : Int32)).toNatClampNeg) := inb_of S60 ⟨by decide, by decide⟩
        obtain ⟨T60, h60, X60, e60, W60, st60⟩ := stD X0 hx hZ e0 Ar60 (j := (1 : Int32)) hin60 (g := (mkF m 24 #[.val (.ref a), .val (.int (0 : Int32)), .val (.int (4 : Int32)), .val (.double y), .second, .val (.int (1 : Int32))] [(.double FP.dconst0), (.int (1 : Int32)), (.ref a)])) rfl rfl (hb hby d1_24)
        have Aw60 := Arv.set Ar60 q60 S60 M60 H60 G60 rfl W60 1 rfl (Nat.le_of_ble_eq_true rfl)
        have Z60 : n0 ≤ h60.size := Nat.le_trans Z0 (Keep.of_wr W60).1
        have Kp60 : Keep h0 h60 [a] := Kp0.wr W60 (Or.inl (List.mem_of_getElem? (i := 0) rfl))
        have Av_a : Arv Z h60 a kc .double (4 : Int32) [(.double x0), (.double FP.dconst0), (.double x2), (.double x3)] (.double (0 : UInt64)) := Aw60
        have N60 := Fr.snoc X60 N0 g_a
        refine own_go (A := T60.setTop (mkF m 25 #[.val (.ref a), .val (.int (0 : Int32)), .val (.int (4 : Int32)), .val (.double y), .second, .val (.int (1 : Int32))] [])) (fun _ kz => st60 _ kz) ?_
        refine own_go (A := T60.setTop (mkF m 14 #[.val (.ref a), .val (.int (0 : Int32)), .val (.int (4 : Int32)), .val (.double y), .second, .val (.int (2 : Int32))] [(.int (2 : Int32)), (.ref a)])) (fun _ kz => ?_) ?_
        · show Steps p.tables e below (T60.setTop (mkF m 25 #[.val (.ref a), .val (.int (0 : Int32)), .val (.int (4 : Int32)), .val (.double y), .second, .val (.int (1 : Int32))] [])) _
          refine XS.iinc X60.here hx rfl (hb hby d1_25) rfl (l' := #[.val (.ref a), .val (.int (0 : Int32)), .val (.int (4 : Int32)), .val (.double y), .second, .val (.int (2 : Int32))]) rfl ?_
          show Steps p.tables e below (T60.setTop (mkF m 28 #[.val (.ref a), .val (.int (0 : Int32)), .val (.int (4 : Int32)), .val (.double y), .second, .val (.int (2 : Int32))] [])) _
          refine XS.goto X60.here hx rfl (pc0 := 28) (pc' := 3) rfl (hb hby d1_28) (by decide) (by decide) ?_
          show Steps p.tables e below (T60.setTop (mkF m 3 #[.val (.ref a), .val (.int (0 : Int32)), .val (.int (4 : Int32)), .val (.double y), .second, .val (.int (2 : Int32))] [])) _
          refine XS.iload X60.here hx rfl (hb hby d1_3) rfl ?_
          show Steps p.tables e below (T60.setTop (mkF m 5 #[.val (.ref a), .val (.int (0 : Int32)), .val (.int (4 : Int32)), .val (.double y), .second, .val (.int (2 : Int32))] [(.int (2 : Int32))])) _
          refine XS.iloadN X60.here hx rfl (hb hby d1_5) rfl ?_
          show Steps p.tables e below (T60.setTop (mkF m 6 #[.val (.ref a), .val (.int (0 : Int32)), .val (.int (4 : Int32)), .val (.double y), .second, .val (.int (2 : Int32))] [(.int (0 : Int32)), (.int (2 : Int32))])) _
          refine XS.iloadN X60.here hx rfl (hb hby d1_6) rfl ?_
          show Steps p.tables e below (T60.setTop (mkF m 7 #[.val (.ref a), .val (.int (0 : Int32)), .val (.int (4 : Int32)), .val (.double y), .second, .val (.int (2 : Int32))] [(.int (4 : Int32)), (.int (0 : Int32)), (.int (2 : Int32))])) _
          refine XS.iadd X60.here hx rfl (hb hby d1_7) rfl ?_
          show Steps p.tables e below (T60.setTop (mkF m 8 #[.val (.ref a), .val (.int (0 : Int32)), .val (.int (4 : Int32)), .val (.double y), .second, .val (.int (2 : Int32))] [(.int (4 : Int32)), (.int (2 : Int32))])) _
          refine XS.icmpNo X60.here hx rfl (hb hby d1_8) rfl (tlt (by decide : ((2 : Int32) < (4 : Int32)))).2.1 ?_
          show Steps p.tables e below (T60.setTop (mkF m 11 #[.val (.ref a), .val (.int (0 : Int32)), .val (.int (4 : Int32)), .val (.double y), .second, .val (.int (2 : Int32))] [])) _
          refine XS.aloadN X60.here hx rfl (hb hby d1_11) rfl rfl ?_
          show Steps p.tables e below (T60.setTop (mkF m 12 #[.val (.ref a), .val (.int (0 : Int32)), .val (.int (4 : Int32)), .val (.double y), .second, .val (.int (2 : Int32))] [(.ref a)])) _
          refine XS.iload X60.here hx rfl (hb hby d1_12) rfl ?_
          exact kz
        obtain ⟨cl61, Ar61, -, S61, M61, H61, -⟩ := id Av_a
        have hin61 : ¬ ((2 : Int32) < 0 ∨ cl61.slots.size ≤ ((2 : Int32)).toNatClampNeg) := inb_of S61 ⟨by decide, by decide⟩
        have hat61 : cl61.slots[((2 : Int32)).toNatClampNeg]? = some (.double x2) := H61.at hin61 rfl
        refine own_go (A := T60.setTop (mkF m 15 #[.val (.ref a), .val (.int (0 : Int32)), .val (.int (4 : Int32)), .val (.double y), .second, .val (.int (2 : Int32))] [(.double x2)])) (fun _ kz => ?_) ?_
        · refine X60.daload hx (j := (2 : Int32)) (v := (.double x2)) (by rw [e60]; exact Ar61.1) (State.isArrayOf_alike hZ.alike Ar61.2.1) Ar61.2.2 hin61 hat61 (g := (mkF m 14 #[.val (.ref a), .val (.int (0 : Int32)), .val (.int (4 : Int32)), .val (.double y), .second, .val (.int (2 : Int32))] [(.int (2 : Int32)), (.ref a)])) rfl rfl (hb hby d1_14) _ ?_
          exact kz
        refine own_go (A := T60.setTop (mkF m 17 #[.val (.ref a), .val (.int (0 : Int32)), .val (.int (4 : Int32)), .val (.double y), .second, .val (.int (2 : Int32))] [(.int (cmpValue (FP.dcmp x2 y) .g))])) (fun _ kz => ?_) ?_
        · show Steps p.tables e below (T60.setTop (mkF m 15 #[.val (.ref a), .val (.int (0 : Int32)), .val (.int (4 : Int32)), .val (.double y), .second, .val (.int (2 : Int32))] [(.double x2)])) _
          refine XS.dloadN X60.here hx rfl (hb hby d1_15) rfl ?_
          show Steps p.tables e below (T60.setTop (mkF m 16 #[.val (.ref a), .val (.int (0 : Int32)), .val (.int (4 : Int32)), .val (.double y), .second, .val (.int (2 : Int32))] [(.double y), (.double x2)])) _
          refine XS.dcmpS X60.here hx rfl (hb hby d1_16) rfl rfl ?_
          exact kz
        by_cases hs62 : (cmpValue (FP.dcmp x2 y) .g) < (0 : Int32)
        · skip
          refine own_go (A := T60.setTop (mkF m 20 #[.val (.ref a), .val (.int (0 : Int32)), .val (.int (4 : Int32)), .val (.double y), .second, .val (.int (2 : Int32))] [])) (fun _ kz => ?_) ?_
          · show Steps p.tables e below (T60.setTop (mkF m 17 #[.val (.ref a), .val (.int (0 : Int32)), .val (.int (4 : Int32)), .val (.double y), .second, .val (.int (2 : Int32))] [(.int (cmpValue (FP.dcmp x2 y) .g))])) _
            refine XS.ifNo X60.here hx rfl (hb hby d1_17) rfl ((if0 _ _).trans (tlt hs62).2.1) ?_
            exact kz
          refine own_go (A := T60.setTop (mkF m 24 #[.val (.ref a), .val (.int (0 : Int32)), .val (.int (4 : Int32)), .val (.double y), .second, .val (.int (2 : Int32))] [(.double FP.dconst0), (.int (2 : Int32)), (.ref a)])) (fun _ kz => ?_) ?_
          · show Steps p.tables e below (T60.setTop (mkF m 20 #[.val (.ref a), .val (.int (0 : Int32)), .val (.int (4 : Int32)), .val (.double y), .second, .val (.int (2 : Int32))] [])) _
            refine XS.aloadN X60.here hx rfl (hb hby d1_20) rfl rfl ?_
            show Steps p.tables e below (T60.setTop (mkF m 21 #[.val (.ref a), .val (.int (0 : Int32)), .val (.int (4 : Int32)), .val (.double y), .second, .val (.int (2 : Int32))] [(.ref a)])) _
            refine XS.iload X60.here hx rfl (hb hby d1_21) rfl ?_
            show Steps p.tables e below (T60.setTop (mkF m 23 #[.val (.ref a), .val (.int (0 : Int32)), .val (.int (4 : Int32)), .val (.double y), .second, .val (.int (2 : Int32))] [(.int (2 : Int32)), (.ref a)])) _
            refine XS.dconst0 X60.here hx rfl (hb hby d1_23) rfl ?_
            exact kz
          obtain ⟨cl63, Ar63, q63, S63, M63, H63, G63⟩ := id Av_a
          have hin63 : ¬ ((2 : Int32) < 0 ∨ cl63.slots.size ≤ ((2 : Int32)).toNatClampNeg) := inb_of S63 ⟨by decide, by decide⟩
          obtain ⟨T63, h63, X63, e63, W63, st63⟩ := stD X60 hx hZ e60 Ar63 (j := (2 : Int32)) hin63 (g := (mkF m 24 #[.val (.ref a), .val (.int (0 : Int32)), .val (.int (4 : Int32)), .val (.double y), .second, .val (.int (2 : Int32))] [(.double FP.dconst0), (.int (2 : Int32)), (.ref a)])) rfl rfl (hb hby d1_24)
          have Aw63 := Arv.set Ar63 q63 S63 M63 H63 G63 rfl W63 2 rfl (Nat.le_of_ble_eq_true rfl)
          have Z63 : n0 ≤ h63.size := Nat.le_trans Z60 (Keep.of_wr W63).1
          have Kp63 : Keep h0 h63 [a] := Kp60.wr W63 (Or.inl (List.mem_of_getElem? (i := 0) rfl))
          have Av_a : Arv Z h63 a kc .double (4 : Int32) [(.double x0), (.double FP.dconst0), (.double FP.dconst0), (.double x3)] (.double (0 : UInt64)) := Aw63
          have N63 := Fr.snoc X63 N60 g_a
          refine own_go (A := T63.setTop (mkF m 25 #[.val (.ref a), .val (.int (0 : Int32)), .val (.int (4 : Int32)), .val (.double y), .second, .val (.int (2 : Int32))] [])) (fun _ kz => st63 _ kz) ?_
          refine own_go (A := T63.setTop (mkF m 14 #[.val (.ref a), .val (.int (0 : Int32)), .val (.int (4 : Int32)), .val (.double y), .second, .val (.int (3 : Int32))] [(.int (3 : Int32)), (.ref a)])) (fun _ kz => ?_) ?_
          · show Steps p.tables e below (T63.setTop (mkF m 25 #[.val (.ref a), .val (.int (0 : Int32)), .val (.int (4 : Int32)), .val (.double y), .second, .val (.int (2 : Int32))] [])) _
            refine XS.iinc X63.here hx rfl (hb hby d1_25) rfl (l' := #[.val (.ref a), .val (.int (0 : Int32)), .val (.int (4 : Int32)), .val (.double y), .second, .val (.int (3 : Int32))]) rfl ?_
            show Steps p.tables e below (T63.setTop (mkF m 28 #[.val (.ref a), .val (.int (0 : Int32)), .val (.int (4 : Int32)), .val (.double y), .second, .val (.int (3 : Int32))] [])) _
            refine XS.goto X63.here hx rfl (pc0 := 28) (pc' := 3) rfl (hb hby d1_28) (by decide) (by decide) ?_
            show Steps p.tables e below (T63.setTop (mkF m 3 #[.val (.ref a), .val (.int (0 : Int32)), .val (.int (4 : Int32)), .val (.double y), .second, .val (.int (3 : Int32))] [])) _
            refine XS.iload X63.here hx rfl (hb hby d1_3) rfl ?_
            show Steps p.tables e below (T63.setTop (mkF m 5 #[.val (.ref a), .val (.int (0 : Int32)), .val (.int (4 : Int32)), .val (.double y), .second, .val (.int (3 : Int32))] [(.int (3 : Int32))])) _
            refine XS.iloadN X63.here hx rfl (hb hby d1_5) rfl ?_
            show Steps p.tables e below (T63.setTop (mkF m 6 #[.val (.ref a), .val (.int (0 : Int32)), .val (.int (4 : Int32)), .val (.double y), .second, .val (.int (3 : Int32))] [(.int (0 : Int32)), (.int (3 : Int32))])) _
            refine XS.iloadN X63.here hx rfl (hb hby d1_6) rfl ?_
            show Steps p.tables e below (T63.setTop (mkF m 7 #[.val (.ref a), .val (.int (0 : Int32)), .val (.int (4 : Int32)), .val (.double y), .second, .val (.int (3 : Int32))] [(.int (4 : Int32)), (.int (0 : Int32)), (.int (3 : Int32))])) _
            refine XS.iadd X63.here hx rfl (hb hby d1_7) rfl ?_
            show Steps p.tables e below (T63.setTop (mkF m 8 #[.val (.ref a), .val (.int (0 : Int32)), .val (.int (4 : Int32)), .val (.double y), .second, .val (.int (3 : Int32))] [(.int (4 : Int32)), (.int (3 : Int32))])) _
            refine XS.icmpNo X63.here hx rfl (hb hby d1_8) rfl (tlt (by decide : ((3 : Int32) < (4 : Int32)))).2.1 ?_
            show Steps p.tables e below (T63.setTop (mkF m 11 #[.val (.ref a), .val (.int (0 : Int32)), .val (.int (4 : Int32)), .val (.double y), .second, .val (.int (3 : Int32))] [])) _
            refine XS.aloadN X63.here hx rfl (hb hby d1_11) rfl rfl ?_
            show Steps p.tables e below (T63.setTop (mkF m 12 #[.val (.ref a), .val (.int (0 : Int32)), .val (.int (4 : Int32)), .val (.double y), .second, .val (.int (3 : Int32))] [(.ref a)])) _
            refine XS.iload X63.here hx rfl (hb hby d1_12) rfl ?_
            exact kz
          obtain ⟨cl64, Ar64, -, S64, M64, H64, -⟩ := id Av_a
          have hin64 : ¬ ((3 : Int32) < 0 ∨ cl64.slots.size ≤ ((3 : Int32)).toNatClampNeg) := inb_of S64 ⟨by decide, by decide⟩
          have hat64 : cl64.slots[((3 : Int32)).toNatClampNeg]? = some (.double x3) := H64.at hin64 rfl
          refine own_go (A := T63.setTop (mkF m 15 #[.val (.ref a), .val (.int (0 : Int32)), .val (.int (4 : Int32)), .val (.double y), .second, .val (.int (3 : Int32))] [(.double x3)])) (fun _ kz => ?_) ?_
          · refine X63.daload hx (j := (3 : Int32)) (v := (.double x3)) (by rw [e63]; exact Ar64.1) (State.isArrayOf_alike hZ.alike Ar64.2.1) Ar64.2.2 hin64 hat64 (g := (mkF m 14 #[.val (.ref a), .val (.int (0 : Int32)), .val (.int (4 : Int32)), .val (.double y), .second, .val (.int (3 : Int32))] [(.int (3 : Int32)), (.ref a)])) rfl rfl (hb hby d1_14) _ ?_
            exact kz
          refine own_go (A := T63.setTop (mkF m 17 #[.val (.ref a), .val (.int (0 : Int32)), .val (.int (4 : Int32)), .val (.double y), .second, .val (.int (3 : Int32))] [(.int (cmpValue (FP.dcmp x3 y) .g))])) (fun _ kz => ?_) ?_
          · show Steps p.tables e below (T63.setTop (mkF m 15 #[.val (.ref a), .val (.int (0 : Int32)), .val (.int (4 : Int32)), .val (.double y), .second, .val (.int (3 : Int32))] [(.double x3)])) _
            refine XS.dloadN X63.here hx rfl (hb hby d1_15) rfl ?_
            show Steps p.tables e below (T63.setTop (mkF m 16 #[.val (.ref a), .val (.int (0 : Int32)), .val (.int (4 : Int32)), .val (.double y), .second, .val (.int (3 : Int32))] [(.double y), (.double x3)])) _
            refine XS.dcmpS X63.here hx rfl (hb hby d1_16) rfl rfl ?_
            exact kz
          by_cases hs65 : (cmpValue (FP.dcmp x3 y) .g) < (0 : Int32)
          · skip
            refine own_go (A := T63.setTop (mkF m 20 #[.val (.ref a), .val (.int (0 : Int32)), .val (.int (4 : Int32)), .val (.double y), .second, .val (.int (3 : Int32))] [])) (fun _ kz => ?_) ?_
            · show Steps p.tables e below (T63.setTop (mkF m 17 #[.val (.ref a), .val (.int (0 : Int32)), .val (.int (4 : Int32)), .val (.double y), .second, .val (.int (3 : Int32))] [(.int (cmpValue (FP.dcmp x3 y) .g))])) _
              refine XS.ifNo X63.here hx rfl (hb hby d1_17) rfl ((if0 _ _).trans (tlt hs65).2.1) ?_
              exact kz
            refine own_go (A := T63.setTop (mkF m 24 #[.val (.ref a), .val (.int (0 : Int32)), .val (.int (4 : Int32)), .val (.double y), .second, .val (.int (3 : Int32))] [(.double FP.dconst0), (.int (3 : Int32)), (.ref a)])) (fun _ kz => ?_) ?_
            · show Steps p.tables e below (T63.setTop (mkF m 20 #[.val (.ref a), .val (.int (0 : Int32)), .val (.int (4 : Int32)), .val (.double y), .second, .val (.int (3 : Int32))] [])) _
              refine XS.aloadN X63.here hx rfl (hb hby d1_20) rfl rfl ?_
              show Steps p.tables e below (T63.setTop (mkF m 21 #[.val (.ref a), .val (.int (0 : Int32)), .val (.int (4 : Int32)), .val (.double y), .second, .val (.int (3 : Int32))] [(.ref a)])) _
              refine XS.iload X63.here hx rfl (hb hby d1_21) rfl ?_
              show Steps p.tables e below (T63.setTop (mkF m 23 #[.val (.ref a), .val (.int (0 : Int32)), .val (.int (4 : Int32)), .val (.double y), .second, .val (.int (3 : Int32))] [(.int (3 : Int32)), (.ref a)])) _
              refine XS.dconst0 X63.here hx rfl (hb hby d1_23) rfl ?_
              exact kz
            obtain ⟨cl66, Ar66, q66, S66, M66, H66, G66⟩ := id Av_a
            have hin66 : ¬ ((3 : Int32) < 0 ∨ cl66.slots.size ≤ ((3 : Int32)).toNatClampNeg) := inb_of S66 ⟨by decide, by decide⟩
            obtain ⟨T66, h66, X66, e66, W66, st66⟩ := stD X63 hx hZ e63 Ar66 (j := (3 : Int32)) hin66 (g := (mkF m 24 #[.val (.ref a), .val (.int (0 : Int32)), .val (.int (4 : Int32)), .val (.double y), .second, .val (.int (3 : Int32))] [(.double FP.dconst0), (.int (3 : Int32)), (.ref a)])) rfl rfl (hb hby d1_24)
            have Aw66 := Arv.set Ar66 q66 S66 M66 H66 G66 rfl W66 3 rfl (Nat.le_of_ble_eq_true rfl)
            have Z66 : n0 ≤ h66.size := Nat.le_trans Z63 (Keep.of_wr W66).1
            have Kp66 : Keep h0 h66 [a] := Kp63.wr W66 (Or.inl (List.mem_of_getElem? (i := 0) rfl))
            have Av_a : Arv Z h66 a kc .double (4 : Int32) [(.double x0), (.double FP.dconst0), (.double FP.dconst0), (.double FP.dconst0)] (.double (0 : UInt64)) := Aw66
            have N66 := Fr.snoc X66 N63 g_a
            refine own_go (A := T66.setTop (mkF m 25 #[.val (.ref a), .val (.int (0 : Int32)), .val (.int (4 : Int32)), .val (.double y), .second, .val (.int (3 : Int32))] [])) (fun _ kz => st66 _ kz) ?_
            refine own_go (A := T66.setTop (mkF m 31 #[.val (.ref a), .val (.int (0 : Int32)), .val (.int (4 : Int32)), .val (.double y), .second, .val (.int (4 : Int32))] [])) (fun _ kz => ?_) ?_
            · show Steps p.tables e below (T66.setTop (mkF m 25 #[.val (.ref a), .val (.int (0 : Int32)), .val (.int (4 : Int32)), .val (.double y), .second, .val (.int (3 : Int32))] [])) _
              refine XS.iinc X66.here hx rfl (hb hby d1_25) rfl (l' := #[.val (.ref a), .val (.int (0 : Int32)), .val (.int (4 : Int32)), .val (.double y), .second, .val (.int (4 : Int32))]) rfl ?_
              show Steps p.tables e below (T66.setTop (mkF m 28 #[.val (.ref a), .val (.int (0 : Int32)), .val (.int (4 : Int32)), .val (.double y), .second, .val (.int (4 : Int32))] [])) _
              refine XS.goto X66.here hx rfl (pc0 := 28) (pc' := 3) rfl (hb hby d1_28) (by decide) (by decide) ?_
              show Steps p.tables e below (T66.setTop (mkF m 3 #[.val (.ref a), .val (.int (0 : Int32)), .val (.int (4 : Int32)), .val (.double y), .second, .val (.int (4 : Int32))] [])) _
              refine XS.iload X66.here hx rfl (hb hby d1_3) rfl ?_
              show Steps p.tables e below (T66.setTop (mkF m 5 #[.val (.ref a), .val (.int (0 : Int32)), .val (.int (4 : Int32)), .val (.double y), .second, .val (.int (4 : Int32))] [(.int (4 : Int32))])) _
              refine XS.iloadN X66.here hx rfl (hb hby d1_5) rfl ?_
              show Steps p.tables e below (T66.setTop (mkF m 6 #[.val (.ref a), .val (.int (0 : Int32)), .val (.int (4 : Int32)), .val (.double y), .second, .val (.int (4 : Int32))] [(.int (0 : Int32)), (.int (4 : Int32))])) _
              refine XS.iloadN X66.here hx rfl (hb hby d1_6) rfl ?_
              show Steps p.tables e below (T66.setTop (mkF m 7 #[.val (.ref a), .val (.int (0 : Int32)), .val (.int (4 : Int32)), .val (.double y), .second, .val (.int (4 : Int32))] [(.int (4 : Int32)), (.int (0 : Int32)), (.int (4 : Int32))])) _
              refine XS.iadd X66.here hx rfl (hb hby d1_7) rfl ?_
              show Steps p.tables e below (T66.setTop (mkF m 8 #[.val (.ref a), .val (.int (0 : Int32)), .val (.int (4 : Int32)), .val (.double y), .second, .val (.int (4 : Int32))] [(.int (4 : Int32)), (.int (4 : Int32))])) _
              refine XS.icmpYes X66.here hx rfl (pc0 := 8) (pc' := 31) rfl (hb hby d1_8) rfl (flt (by decide : ¬ ((4 : Int32) < (4 : Int32)))).2.1 (by decide) (by decide) ?_
              exact kz
            obtain ⟨fs, hrr, hrun, hended, hW, hsame⟩ := X66.leave (v := none) (fun _ => rfl)
            refine ⟨_, _, ?_, hrun, hended, _, _, rfl, ?_, ⟨_, rfl⟩, hW, hsame.mono (by decide) (by decide)⟩
            · show Steps p.tables e below (T66.setTop (mkF m 31 #[.val (.ref a), .val (.int (0 : Int32)), .val (.int (4 : Int32)), .val (.double y), .second, .val (.int (4 : Int32))] [])) _
              exact X66.returnOut hx Bd.returns (hb hby d1_31) hrr
            · show QrmFl Z a (0 : Int32) (4 : Int32) y kc x0 x1 x2 x3 h0 n0 _ T66.heap _
              rw [e66]
              exact ⟨rfl, N66, Kp66, by simpa [own_exp, hs35, hs59, hs62, hs65] using Av_a⟩
          · skip
            refine own_go (A := T63.setTop (mkF m 25 #[.val (.ref a), .val (.int (0 : Int32)), .val (.int (4 : Int32)), .val (.double y), .second, .val (.int (3 : Int32))] [])) (fun _ kz => ?_) ?_
            · show Steps p.tables e below (T63.setTop (mkF m 17 #[.val (.ref a), .val (.int (0 : Int32)), .val (.int (4 : Int32)), .val (.double y), .second, .val (.int (3 : Int32))] [(.int (cmpValue (FP.dcmp x3 y) .g))])) _
              refine XS.ifYes X63.here hx rfl (pc0 := 17) (pc' := 25) rfl (hb hby d1_17) rfl ((if0 _ _).trans (flt hs65).2.1) (by decide) (by decide) ?_
              exact kz
            refine own_go (A := T63.setTop (mkF m 31 #[.val (.ref a), .val (.int (0 : Int32)), .val (.int (4 : Int32)), .val (.double y), .second, .val (.int (4 : Int32))] [])) (fun _ kz => ?_) ?_
            · show Steps p.tables e below (T63.setTop (mkF m 25 #[.val (.ref a), .val (.int (0 : Int32)), .val (.int (4 : Int32)), .val (.double y), .second, .val (.int (3 : Int32))] [])) _
              refine XS.iinc X63.here hx rfl (hb hby d1_25) rfl (l' := #[.val (.ref a), .val (.int (0 : Int32)), .val (.int (4 : Int32)), .val (.double y), .second, .val (.int (4 : Int32))]) rfl ?_
              show Steps p.tables e below (T63.setTop (mkF m 28 #[.val (.ref a), .val (.int (0 : Int32)), .val (.int (4 : Int32)), .val (.double y), .second, .val (.int (4 : Int32))] [])) _
              refine XS.goto X63.here hx rfl (pc0 := 28) (pc' := 3) rfl (hb hby d1_28) (by decide) (by decide) ?_
              show Steps p.tables e below (T63.setTop (mkF m 3 #[.val (.ref a), .val (.int (0 : Int32)), .val (.int (4 : Int32)), .val (.double y), .second, .val (.int (4 : Int32))] [])) _
              refine XS.iload X63.here hx rfl (hb hby d1_3) rfl ?_
              show Steps p.tables e below (T63.setTop (mkF m 5 #[.val (.ref a), .val (.int (0 : Int32)), .val (.int (4 : Int32)), .val (.double y), .second, .val (.int (4 : Int32))] [(.int (4 : Int32))])) _
              refine XS.iloadN X63.here hx rfl (hb hby d1_5) rfl ?_
              show Steps p.tables e below (T63.setTop (mkF m 6 #[.val (.ref a), .val (.int (0 : Int32)), .val (.int (4 : Int32)), .val (.double y), .second, .val (.int (4 : Int32))] [(.int (0 : Int32)), (.int (4 : Int32))])) _
              refine XS.iloadN X63.here hx rfl (hb hby d1_6) rfl ?_
              show Steps p.tables e below (T63.setTop (mkF m 7 #[.val (.ref a), .val (.int (0 : Int32)), .val (.int (4 : Int32)), .val (.double y), .second, .val (.int (4 : Int32))] [(.int (4 : Int32)), (.int (0 : Int32)), (.int (4 : Int32))])) _
              refine XS.iadd X63.here hx rfl (hb hby d1_7) rfl ?_
              show Steps p.tables e below (T63.setTop (mkF m 8 #[.val (.ref a), .val (.int (0 : Int32)), .val (.int (4 : Int32)), .val (.double y), .second, .val (.int (4 : Int32))] [(.int (4 : Int32)), (.int (4 : Int32))])) _
              refine XS.icmpYes X63.here hx rfl (pc0 := 8) (pc' := 31) rfl (hb hby d1_8) rfl (flt (by decide : ¬ ((4 : Int32) < (4 : Int32)))).2.1 (by decide) (by decide) ?_
              exact kz
            obtain ⟨fs, hrr, hrun, hended, hW, hsame⟩ := X63.leave (v := none) (fun _ => rfl)
            refine ⟨_, _, ?_, hrun, hended, _, _, rfl, ?_, ⟨_, rfl⟩, hW, hsame.mono (by decide) (by decide)⟩
            · show Steps p.tables e below (T63.setTop (mkF m 31 #[.val (.ref a), .val (.int (0 : Int32)), .val (.int (4 : Int32)), .val (.double y), .second, .val (.int (4 : Int32))] [])) _
              exact X63.returnOut hx Bd.returns (hb hby d1_31) hrr
            · show QrmFl Z a (0 : Int32) (4 : Int32) y kc x0 x1 x2 x3 h0 n0 _ T63.heap _
              rw [e63]
              exact ⟨rfl, N63, Kp63, by simpa [own_exp, hs35, hs59, hs62, hs65] using Av_a⟩
        · skip
          refine own_go (A := T60.setTop (mkF m 25 #[.val (.ref a), .val (.int (0 : Int32)), .val (.int (4 : Int32)), .val (.double y), .second, .val (.int (2 : Int32))] [])) (fun _ kz => ?_) ?_
          · show Steps p.tables e below (T60.setTop (mkF m 17 #[.val (.ref a), .val (.int (0 : Int32)), .val (.int (4 : Int32)), .val (.double y), .second, .val (.int (2 : Int32))] [(.int (cmpValue (FP.dcmp x2 y) .g))])) _
            refine XS.ifYes X60.here hx rfl (pc0 := 17) (pc' := 25) rfl (hb hby d1_17) rfl ((if0 _ _).trans (flt hs62).2.1) (by decide) (by decide) ?_
            exact kz
          refine own_go (A := T60.setTop (mkF m 14 #[.val (.ref a), .val (.int (0 : Int32)), .val (.int (4 : Int32)), .val (.double y), .second, .val (.int (3 : Int32))] [(.int (3 : Int32)), (.ref a)])) (fun _ kz => ?_) ?_
          · show Steps p.tables e below (T60.setTop (mkF m 25 #[.val (.ref a), .val (.int (0 : Int32)), .val (.int (4 : Int32)), .val (.double y), .second, .val (.int (2 : Int32))] [])) _
            refine XS.iinc X60.here hx rfl (hb hby d1_25) rfl (l' := #[.val (.ref a), .val (.int (0 : Int32)), .val (.int (4 : Int32)), .val (.double y), .second, .val (.int (3 : Int32))]) rfl ?_
            show Steps p.tables e below (T60.setTop (mkF m 28 #[.val (.ref a), .val (.int (0 : Int32)), .val (.int (4 : Int32)), .val (.double y), .second, .val (.int (3 : Int32))] [])) _
            refine XS.goto X60.here hx rfl (pc0 := 28) (pc' := 3) rfl (hb hby d1_28) (by decide) (by decide) ?_
            show Steps p.tables e below (T60.setTop (mkF m 3 #[.val (.ref a), .val (.int (0 : Int32)), .val (.int (4 : Int32)), .val (.double y), .second, .val (.int (3 : Int32))] [])) _
            refine XS.iload X60.here hx rfl (hb hby d1_3) rfl ?_
            show Steps p.tables e below (T60.setTop (mkF m 5 #[.val (.ref a), .val (.int (0 : Int32)), .val (.int (4 : Int32)), .val (.double y), .second, .val (.int (3 : Int32))] [(.int (3 : Int32))])) _
            refine XS.iloadN X60.here hx rfl (hb hby d1_5) rfl ?_
            show Steps p.tables e below (T60.setTop (mkF m 6 #[.val (.ref a), .val (.int (0 : Int32)), .val (.int (4 : Int32)), .val (.double y), .second, .val (.int (3 : Int32))] [(.int (0 : Int32)), (.int (3 : Int32))])) _
            refine XS.iloadN X60.here hx rfl (hb hby d1_6) rfl ?_
            show Steps p.tables e below (T60.setTop (mkF m 7 #[.val (.ref a), .val (.int (0 : Int32)), .val (.int (4 : Int32)), .val (.double y), .second, .val (.int (3 : Int32))] [(.int (4 : Int32)), (.int (0 : Int32)), (.int (3 : Int32))])) _
            refine XS.iadd X60.here hx rfl (hb hby d1_7) rfl ?_
            show Steps p.tables e below (T60.setTop (mkF m 8 #[.val (.ref a), .val (.int (0 : Int32)), .val (.int (4 : Int32)), .val (.double y), .second, .val (.int (3 : Int32))] [(.int (4 : Int32)), (.int (3 : Int32))])) _
            refine XS.icmpNo X60.here hx rfl (hb hby d1_8) rfl (tlt (by decide : ((3 : Int32) < (4 : Int32)))).2.1 ?_
            show Steps p.tables e below (T60.setTop (mkF m 11 #[.val (.ref a), .val (.int (0 : Int32)), .val (.int (4 : Int32)), .val (.double y), .second, .val (.int (3 : Int32))] [])) _
            refine XS.aloadN X60.here hx rfl (hb hby d1_11) rfl rfl ?_
            show Steps p.tables e below (T60.setTop (mkF m 12 #[.val (.ref a), .val (.int (0 : Int32)), .val (.int (4 : Int32)), .val (.double y), .second, .val (.int (3 : Int32))] [(.ref a)])) _
            refine XS.iload X60.here hx rfl (hb hby d1_12) rfl ?_
            exact kz
          obtain ⟨cl67, Ar67, -, S67, M67, H67, -⟩ := id Av_a
          have hin67 : ¬ ((3 : Int32) < 0 ∨ cl67.slots.size ≤ ((3 : Int32)).toNatClampNeg) := inb_of S67 ⟨by decide, by decide⟩
          have hat67 : cl67.slots[((3 : Int32)).toNatClampNeg]? = some (.double x3) := H67.at hin67 rfl
          refine own_go (A := T60.setTop (mkF m 15 #[.val (.ref a), .val (.int (0 : Int32)), .val (.int (4 : Int32)), .val (.double y), .second, .val (.int (3 : Int32))] [(.double x3)])) (fun _ kz => ?_) ?_
          · refine X60.daload hx (j := (3 : Int32)) (v := (.double x3)) (by rw [e60]; exact Ar67.1) (State.isArrayOf_alike hZ.alike Ar67.2.1) Ar67.2.2 hin67 hat67 (g := (mkF m 14 #[.val (.ref a), .val (.int (0 : Int32)), .val (.int (4 : Int32)), .val (.double y), .second, .val (.int (3 : Int32))] [(.int (3 : Int32)), (.ref a)])) rfl rfl (hb hby d1_14) _ ?_
            exact kz
          refine own_go (A := T60.setTop (mkF m 17 #[.val (.ref a), .val (.int (0 : Int32)), .val (.int (4 : Int32)), .val (.double y), .second, .val (.int (3 : Int32))] [(.int (cmpValue (FP.dcmp x3 y) .g))])) (fun _ kz => ?_) ?_
          · show Steps p.tables e below (T60.setTop (mkF m 15 #[.val (.ref a), .val (.int (0 : Int32)), .val (.int (4 : Int32)), .val (.double y), .second, .val (.int (3 : Int32))] [(.double x3)])) _
            refine XS.dloadN X60.here hx rfl (hb hby d1_15) rfl ?_
            show Steps p.tables e below (T60.setTop (mkF m 16 #[.val (.ref a), .val (.int (0 : Int32)), .val (.int (4 : Int32)), .val (.double y), .second, .val (.int (3 : Int32))] [(.double y), (.double x3)])) _
            refine XS.dcmpS X60.here hx rfl (hb hby d1_16) rfl rfl ?_
            exact kz
          by_cases hs68 : (cmpValue (FP.dcmp x3 y) .g) < (0 : Int32)
          · skip
            refine own_go (A := T60.setTop (mkF m 20 #[.val (.ref a), .val (.int (0 : Int32)), .val (.int (4 : Int32)), .val (.double y), .second, .val (.int (3 : Int32))] [])) (fun _ kz => ?_) ?_
            · show Steps p.tables e below (T60.setTop (mkF m 17 #[.val (.ref a), .val (.int (0 : Int32)), .val (.int (4 : Int32)), .val (.double y), .second, .val (.int (3 : Int32))] [(.int (cmpValue (FP.dcmp x3 y) .g))])) _
              refine XS.ifNo X60.here hx rfl (hb hby d1_17) rfl ((if0 _ _).trans (tlt hs68).2.1) ?_
              exact kz
            refine own_go (A := T60.setTop (mkF m 24 #[.val (.ref a), .val (.int (0 : Int32)), .val (.int (4 : Int32)), .val (.double y), .second, .val (.int (3 : Int32))] [(.double FP.dconst0), (.int (3 : Int32)), (.ref a)])) (fun _ kz => ?_) ?_
            · show Steps p.tables e below (T60.setTop (mkF m 20 #[.val (.ref a), .val (.int (0 : Int32)), .val (.int (4 : Int32)), .val (.double y), .second, .val (.int (3 : Int32))] [])) _
              refine XS.aloadN X60.here hx rfl (hb hby d1_20) rfl rfl ?_
              show Steps p.tables e below (T60.setTop (mkF m 21 #[.val (.ref a), .val (.int (0 : Int32)), .val (.int (4 : Int32)), .val (.double y), .second, .val (.int (3 : Int32))] [(.ref a)])) _
              refine XS.iload X60.here hx rfl (hb hby d1_21) rfl ?_
              show Steps p.tables e below (T60.setTop (mkF m 23 #[.val (.ref a), .val (.int (0 : Int32)), .val (.int (4 : Int32)), .val (.double y), .second, .val (.int (3 : Int32))] [(.int (3 : Int32)), (.ref a)])) _
              refine XS.dconst0 X60.here hx rfl (hb hby d1_23) rfl ?_
              exact kz
            obtain ⟨cl69, Ar69, q69, S69, M69, H69, G69⟩ := id Av_a
            have hin69 : ¬ ((3 : Int32) < 0 ∨ cl69.slots.size ≤ ((3 : Int32)).toNatClampNeg) := inb_of S69 ⟨by decide, by decide⟩
            obtain ⟨T69, h69, X69, e69, W69, st69⟩ := stD X60 hx hZ e60 Ar69 (j := (3 : Int32)) hin69 (g := (mkF m 24 #[.val (.ref a), .val (.int (0 : Int32)), .val (.int (4 : Int32)), .val (.double y), .second, .val (.int (3 : Int32))] [(.double FP.dconst0), (.int (3 : Int32)), (.ref a)])) rfl rfl (hb hby d1_24)
            have Aw69 := Arv.set Ar69 q69 S69 M69 H69 G69 rfl W69 3 rfl (Nat.le_of_ble_eq_true rfl)
            have Z69 : n0 ≤ h69.size := Nat.le_trans Z60 (Keep.of_wr W69).1
            have Kp69 : Keep h0 h69 [a] := Kp60.wr W69 (Or.inl (List.mem_of_getElem? (i := 0) rfl))
            have Av_a : Arv Z h69 a kc .double (4 : Int32) [(.double x0), (.double FP.dconst0), (.double x2), (.double FP.dconst0)] (.double (0 : UInt64)) := Aw69
            have N69 := Fr.snoc X69 N60 g_a
            refine own_go (A := T69.setTop (mkF m 25 #[.val (.ref a), .val (.int (0 : Int32)), .val (.int (4 : Int32)), .val (.double y), .second, .val (.int (3 : Int32))] [])) (fun _ kz => st69 _ kz) ?_
            refine own_go (A := T69.setTop (mkF m 31 #[.val (.ref a), .val (.int (0 : Int32)), .val (.int (4 : Int32)), .val (.double y), .second, .val (.int (4 : Int32))] [])) (fun _ kz => ?_) ?_
            · show Steps p.tables e below (T69.setTop (mkF m 25 #[.val (.ref a), .val (.int (0 : Int32)), .val (.int (4 : Int32)), .val (.double y), .second, .val (.int (3 : Int32))] [])) _
              refine XS.iinc X69.here hx rfl (hb hby d1_25) rfl (l' := #[.val (.ref a), .val (.int (0 : Int32)), .val (.int (4 : Int32)), .val (.double y), .second, .val (.int (4 : Int32))]) rfl ?_
              show Steps p.tables e below (T69.setTop (mkF m 28 #[.val (.ref a), .val (.int (0 : Int32)), .val (.int (4 : Int32)), .val (.double y), .second, .val (.int (4 : Int32))] [])) _
              refine XS.goto X69.here hx rfl (pc0 := 28) (pc' := 3) rfl (hb hby d1_28) (by decide) (by decide) ?_
              show Steps p.tables e below (T69.setTop (mkF m 3 #[.val (.ref a), .val (.int (0 : Int32)), .val (.int (4 : Int32)), .val (.double y), .second, .val (.int (4 : Int32))] [])) _
              refine XS.iload X69.here hx rfl (hb hby d1_3) rfl ?_
              show Steps p.tables e below (T69.setTop (mkF m 5 #[.val (.ref a), .val (.int (0 : Int32)), .val (.int (4 : Int32)), .val (.double y), .second, .val (.int (4 : Int32))] [(.int (4 : Int32))])) _
              refine XS.iloadN X69.here hx rfl (hb hby d1_5) rfl ?_
              show Steps p.tables e below (T69.setTop (mkF m 6 #[.val (.ref a), .val (.int (0 : Int32)), .val (.int (4 : Int32)), .val (.double y), .second, .val (.int (4 : Int32))] [(.int (0 : Int32)), (.int (4 : Int32))])) _
              refine XS.iloadN X69.here hx rfl (hb hby d1_6) rfl ?_
              show Steps p.tables e below (T69.setTop (mkF m 7 #[.val (.ref a), .val (.int (0 : Int32)), .val (.int (4 : Int32)), .val (.double y), .second, .val (.int (4 : Int32))] [(.int (4 : Int32)), (.int (0 : Int32)), (.int (4 : Int32))])) _
              refine XS.iadd X69.here hx rfl (hb hby d1_7) rfl ?_
              show Steps p.tables e below (T69.setTop (mkF m 8 #[.val (.ref a), .val (.int (0 : Int32)), .val (.int (4 : Int32)), .val (.double y), .second, .val (.int (4 : Int32))] [(.int (4 : Int32)), (.int (4 : Int32))])) _
              refine XS.icmpYes X69.here hx rfl (pc0 := 8) (pc' := 31) rfl (hb hby d1_8) rfl (flt (by decide : ¬ ((4 : Int32) < (4 : Int32)))).2.1 (by decide) (by decide) ?_
              exact kz
            obtain ⟨fs, hrr, hrun, hended, hW, hsame⟩ := X69.leave (v := none) (fun _ => rfl)
            refine ⟨_, _, ?_, hrun, hended, _, _, rfl, ?_, ⟨_, rfl⟩, hW, hsame.mono (by decide) (by decide)⟩
            · show Steps p.tables e below (T69.setTop (mkF m 31 #[.val (.ref a), .val (.int (0 : Int32)), .val (.int (4 : Int32)), .val (.double y), .second, .val (.int (4 : Int32))] [])) _
              exact X69.returnOut hx Bd.returns (hb hby d1_31) hrr
            · show QrmFl Z a (0 : Int32) (4 : Int32) y kc x0 x1 x2 x3 h0 n0 _ T69.heap _
              rw [e69]
              exact ⟨rfl, N69, Kp69, by simpa [own_exp, hs35, hs59, hs62, hs68] using Av_a⟩
          · skip
            refine own_go (A := T60.setTop (mkF m 25 #[.val (.ref a), .val (.int (0 : Int32)), .val (.int (4 : Int32)), .val (.double y), .second, .val (.int (3 : Int32))] [])) (fun _ kz => ?_) ?_
            · show Steps p.tables e below (T60.setTop (mkF m 17 #[.val (.ref a), .val (.int (0 : Int32)), .val (.int (4 : Int32)), .val (.double y), .second, .val (.int (3 : Int32))] [(.int (cmpValue (FP.dcmp x3 y) .g))])) _
              refine XS.ifYes X60.here hx rfl (pc0 := 17) (pc' := 25) rfl (hb hby d1_17) rfl ((if0 _ _).trans (flt hs68).2.1) (by decide) (by decide) ?_
              exact kz
            refine own_go (A := T60.setTop (mkF m 31 #[.val (.ref a), .val (.int (0 : Int32)), .val (.int (4 : Int32)), .val (.double y), .second, .val (.int (4 : Int32))] [])) (fun _ kz => ?_) ?_
            · show Steps p.tables e below (T60.setTop (mkF m 25 #[.val (.ref a), .val (.int (0 : Int32)), .val (.int (4 : Int32)), .val (.double y), .second, .val (.int (3 : Int32))] [])) _
              refine XS.iinc X60.here hx rfl (hb hby d1_25) rfl (l' := #[.val (.ref a), .val (.int (0 : Int32)), .val (.int (4 : Int32)), .val (.double y), .second, .val (.int (4 : Int32))]) rfl ?_
              show Steps p.tables e below (T60.setTop (mkF m 28 #[.val (.ref a), .val (.int (0 : Int32)), .val (.int (4 : Int32)), .val (.double y), .second, .val (.int (4 : Int32))] [])) _
              refine XS.goto X60.here hx rfl (pc0 := 28) (pc' := 3) rfl (hb hby d1_28) (by decide) (by decide) ?_
              show Steps p.tables e below (T60.setTop (mkF m 3 #[.val (.ref a), .val (.int (0 : Int32)), .val (.int (4 : Int32)), .val (.double y), .second, .val (.int (4 : Int32))] [])) _
              refine XS.iload X60.here hx rfl (hb hby d1_3) rfl ?_
              show Steps p.tables e below (T60.setTop (mkF m 5 #[.val (.ref a), .val (.int (0 : Int32)), .val (.int (4 : Int32)), .val (.double y), .second, .val (.int (4 : Int32))] [(.int (4 : Int32))])) _
              refine XS.iloadN X60.here hx rfl (hb hby d1_5) rfl ?_
              show Steps p.tables e below (T60.setTop (mkF m 6 #[.val (.ref a), .val (.int (0 : Int32)), .val (.int (4 : Int32)), .val (.double y), .second, .val (.int (4 : Int32))] [(.int (0 : Int32)), (.int (4 : Int32))])) _
              refine XS.iloadN X60.here hx rfl (hb hby d1_6) rfl ?_
              show Steps p.tables e below (T60.setTop (mkF m 7 #[.val (.ref a), .val (.int (0 : Int32)), .val (.int (4 : Int32)), .val (.double y), .second, .val (.int (4 : Int32))] [(.int (4 : Int32)), (.int (0 : Int32)), (.int (4 : Int32))])) _
              refine XS.iadd X60.here hx rfl (hb hby d1_7) rfl ?_
              show Steps p.tables e below (T60.setTop (mkF m 8 #[.val (.ref a), .val (.int (0 : Int32)), .val (.int (4 : Int32)), .val (.double y), .second, .val (.int (4 : Int32))] [(.int (4 : Int32)), (.int (4 : Int32))])) _
              refine XS.icmpYes X60.here hx rfl (pc0 := 8) (pc' := 31) rfl (hb hby d1_8) rfl (flt (by decide : ¬ ((4 : Int32) < (4 : Int32)))).2.1 (by decide) (by decide) ?_
              exact kz
            obtain ⟨fs, hrr, hrun, hended, hW, hsame⟩ := X60.leave (v := none) (fun _ => rfl)
            refine ⟨_, _, ?_, hrun, hended, _, _, rfl, ?_, ⟨_, rfl⟩, hW, hsame.mono (by decide) (by decide)⟩
            · show Steps p.tables e below (T60.setTop (mkF m 31 #[.val (.ref a), .val (.int (0 : Int32)), .val (.int (4 : Int32)), .val (.double y), .second, .val (.int (4 : Int32))] [])) _
              exact X60.returnOut hx Bd.returns (hb hby d1_31) hrr
            · show QrmFl Z a (0 : Int32) (4 : Int32) y kc x0 x1 x2 x3 h0 n0 _ T60.heap _
              rw [e60]
              exact ⟨rfl, N60, Kp60, by simpa [own_exp, hs35, hs59, hs62, hs68] using Av_a⟩
      · skip
        refine own_go (A := s₁.setTop (mkF m 25 #[.val (.ref a), .val (.int (0 : Int32)), .val (.int (4 : Int32)), .val (.double y), .second, .val (.int (1 : Int32))] [])) (fun _ kz => ?_) ?_
        · show Steps p.tables e below (s₁.setTop (mkF m 17 #[.val (.ref a), .val (.int (0 : Int32)), .val (.int (4 : Int32)), .val (.double y), .second, .val (.int (1 : Int32))] [(.int (cmpValue (FP.dcmp x1 y) .g))])) _
          refine XS.ifYes X0.here hx rfl (pc0 := 17) (pc' := 25) rfl (hb hby d1_17) rfl ((if0 _ _).trans (flt hs59).2.1) (by decide) (by decide) ?_
          exact kz
        refine own_go (A := s₁.setTop (mkF m 14 #[.val (.ref a), .val (.int (0 : Int32)), .val (.int (4 : Int32)), .val (.double y), .second, .val (.int (2 : Int32))] [(.int (2 : Int32)), (.ref a)])) (fun _ kz => ?_) ?_
        · show Steps p.tables e below (s₁.setTop (mkF m 25 #[.val (.ref a), .val (.int (0 : Int32)), .val (.int (4 : Int32)), .val (.double y), .second, .val (.int (1 : Int32))] [])) _
          refine XS.iinc X0.here hx rfl (hb hby d1_25) rfl (l' := #[.val (.ref a), .val (.int (0 : Int32)), .val (.int (4 : Int32)), .val (.double y), .second, .val (.int (2 : Int32))]) rfl ?_
          show Steps p.tables e below (s₁.setTop (mkF m 28 #[.val (.ref a), .val (.int (0 : Int32)), .val (.int (4 : Int32)), .val (.double y), .second, .val (.int (2 : Int32))] [])) _
          refine XS.goto X0.here hx rfl (pc0 := 28) (pc' := 3) rfl (hb hby d1_28) (by decide) (by decide) ?_
          show Steps p.tables e below (s₁.setTop (mkF m 3 #[.val (.ref a), .val (.int (0 : Int32)), .val (.int (4 : Int32)), .val (.double y), .second, .val (.int (2 : Int32))] [])) _
          refine XS.iload X0.here hx rfl (hb hby d1_3) rfl ?_
          show Steps p.tables e below (s₁.setTop (mkF m 5 #[.val (.ref a), .val (.int (0 : Int32)), .val (.int (4 : Int32)), .val (.double y), .second, .val (.int (2 : Int32))] [(.int (2 : Int32))])) _
          refine XS.iloadN X0.here hx rfl (hb hby d1_5) rfl ?_
          show Steps p.tables e below (s₁.setTop (mkF m 6 #[.val (.ref a), .val (.int (0 : Int32)), .val (.int (4 : Int32)), .val (.double y), .second, .val (.int (2 : Int32))] [(.int (0 : Int32)), (.int (2 : Int32))])) _
          refine XS.iloadN X0.here hx rfl (hb hby d1_6) rfl ?_
          show Steps p.tables e below (s₁.setTop (mkF m 7 #[.val (.ref a), .val (.int (0 : Int32)), .val (.int (4 : Int32)), .val (.double y), .second, .val (.int (2 : Int32))] [(.int (4 : Int32)), (.int (0 : Int32)), (.int (2 : Int32))])) _
          refine XS.iadd X0.here hx rfl (hb hby d1_7) rfl ?_
          show Steps p.tables e below (s₁.setTop (mkF m 8 #[.val (.ref a), .val (.int (0 : Int32)), .val (.int (4 : Int32)), .val (.double y), .second, .val (.int (2 : Int32))] [(.int (4 : Int32)), (.int (2 : Int32))])) _
          refine XS.icmpNo X0.here hx rfl (hb hby d1_8) rfl (tlt (by decide : ((2 : Int32) < (4 : Int32)))).2.1 ?_
          show Steps p.tables e below (s₁.setTop (mkF m 11 #[.val (.ref a), .val (.int (0 : Int32)), .val (.int (4 : Int32)), .val (.double y), .second, .val (.int (2 : Int32))] [])) _
          refine XS.aloadN X0.here hx rfl (hb hby d1_11) rfl rfl ?_
          show Steps p.tables e below (s₁.setTop (mkF m 12 #[.val (.ref a), .val (.int (0 : Int32)), .val (.int (4 : Int32)), .val (.double y), .second, .val (.int (2 : Int32))] [(.ref a)])) _
          refine XS.iload X0.here hx rfl (hb hby d1_12) rfl ?_
          exact kz
        obtain ⟨cl70, Ar70, -, S70, M70, H70, -⟩ := id Av
        have hin70 : ¬ ((2 : Int32) < 0 ∨ cl70.slots.size ≤ ((2 : Int32)).toNatClampNeg) := inb_of S70 ⟨by decide, by decide⟩
        have hat70 : cl70.slots[((2 : Int32)).toNatClampNeg]? = some (.double x2) := H70.at hin70 rfl
        refine own_go (A := s₁.setTop (mkF m 15 #[.val (.ref a), .val (.int (0 : Int32)), .val (.int (4 : Int32)), .val (.double y), .second, .val (.int (2 : Int32))] [(.double x2)])) (fun _ kz => ?_) ?_
        · refine X0.daload hx (j := (2 : Int32)) (v := (.double x2)) (by rw [e0]; exact Ar70.1) (State.isArrayOf_alike hZ.alike Ar70.2.1) Ar70.2.2 hin70 hat70 (g := (mkF m 14 #[.val (.ref a), .val (.int (0 : Int32)), .val (.int (4 : Int32)), .val (.double y), .second, .val (.int (2 : Int32))] [(.int (2 : Int32)), (.ref a)])) rfl rfl (hb hby d1_14) _ ?_
          exact kz
        refine own_go (A := s₁.setTop (mkF m 17 #[.val (.ref a), .val (.int (0 : Int32)), .val (.int (4 : Int32)), .val (.double y), .second, .val (.int (2 : Int32))] [(.int (cmpValue (FP.dcmp x2 y) .g))])) (fun _ kz => ?_) ?_
        · show Steps p.tables e below (s₁.setTop (mkF m 15 #[.val (.ref a), .val (.int (0 : Int32)), .val (.int (4 : Int32)), .val (.double y), .second, .val (.int (2 : Int32))] [(.double x2)])) _
          refine XS.dloadN X0.here hx rfl (hb hby d1_15) rfl ?_
          show Steps p.tables e below (s₁.setTop (mkF m 16 #[.val (.ref a), .val (.int (0 : Int32)), .val (.int (4 : Int32)), .val (.double y), .second, .val (.int (2 : Int32))] [(.double y), (.double x2)])) _
          refine XS.dcmpS X0.here hx rfl (hb hby d1_16) rfl rfl ?_
          exact kz
        by_cases hs71 : (cmpValue (FP.dcmp x2 y) .g) < (0 : Int32)
        · skip
          refine own_go (A := s₁.setTop (mkF m 20 #[.val (.ref a), .val (.int (0 : Int32)), .val (.int (4 : Int32)), .val (.double y), .second, .val (.int (2 : Int32))] [])) (fun _ kz => ?_) ?_
          · show Steps p.tables e below (s₁.setTop (mkF m 17 #[.val (.ref a), .val (.int (0 : Int32)), .val (.int (4 : Int32)), .val (.double y), .second, .val (.int (2 : Int32))] [(.int (cmpValue (FP.dcmp x2 y) .g))])) _
            refine XS.ifNo X0.here hx rfl (hb hby d1_17) rfl ((if0 _ _).trans (tlt hs71).2.1) ?_
            exact kz
          refine own_go (A := s₁.setTop (mkF m 24 #[.val (.ref a), .val (.int (0 : Int32)), .val (.int (4 : Int32)), .val (.double y), .second, .val (.int (2 : Int32))] [(.double FP.dconst0), (.int (2 : Int32)), (.ref a)])) (fun _ kz => ?_) ?_
          · show Steps p.tables e below (s₁.setTop (mkF m 20 #[.val (.ref a), .val (.int (0 : Int32)), .val (.int (4 : Int32)), .val (.double y), .second, .val (.int (2 : Int32))] [])) _
            refine XS.aloadN X0.here hx rfl (hb hby d1_20) rfl rfl ?_
            show Steps p.tables e below (s₁.setTop (mkF m 21 #[.val (.ref a), .val (.int (0 : Int32)), .val (.int (4 : Int32)), .val (.double y), .second, .val (.int (2 : Int32))] [(.ref a)])) _
            refine XS.iload X0.here hx rfl (hb hby d1_21) rfl ?_
            show Steps p.tables e below (s₁.setTop (mkF m 23 #[.val (.ref a), .val (.int (0 : Int32)), .val (.int (4 : Int32)), .val (.double y), .second, .val (.int (2 : Int32))] [(.int (2 : Int32)), (.ref a)])) _
            refine XS.dconst0 X0.here hx rfl (hb hby d1_23) rfl ?_
            exact kz
          obtain ⟨cl72, Ar72, q72, S72, M72, H72, G72⟩ := id Av
          have hin72 : ¬ ((2 : Int32) < 0 ∨ cl72.slots.size ≤ ((2 : Int32)).toNatClampNeg) := inb_of S72 ⟨by decide, by decide⟩
          obtain ⟨T72, h72, X72, e72, W72, st72⟩ := stD X0 hx hZ e0 Ar72 (j := (2 : Int32)) hin72 (g := (mkF m 24 #[.val (.ref a), .val (.int (0 : Int32)), .val (.int (4 : Int32)), .val (.double y), .second, .val (.int (2 : Int32))] [(.double FP.dconst0), (.int (2 : Int32)), (.ref a)])) rfl rfl (hb hby d1_24)
          have Aw72 := Arv.set Ar72 q72 S72 M72 H72 G72 rfl W72 2 rfl (Nat.le_of_ble_eq_true rfl)
          have Z72 : n0 ≤ h72.size := Nat.le_trans Z0 (Keep.of_wr W72).1
          have Kp72 : Keep h0 h72 [a] := Kp0.wr W72 (Or.inl (List.mem_of_getElem? (i := 0) rfl))
          have Av_a : Arv Z h72 a kc .double (4 : Int32) [(.double x0), (.double x1), (.double FP.dconst0), (.double x3)] (.double (0 : UInt64)) := Aw72
          have N72 := Fr.snoc X72 N0 g_a
          refine own_go (A := T72.setTop (mkF m 25 #[.val (.ref a), .val (.int (0 : Int32)), .val (.int (4 : Int32)), .val (.double y), .second, .val (.int (2 : Int32))] [])) (fun _ kz => st72 _ kz) ?_
          refine own_go (A := T72.setTop (mkF m 14 #[.val (.ref a), .val (.int (0 : Int32)), .val (.int (4 : Int32)), .val (.double y), .second, .val (.int (3 : Int32))] [(.int (3 : Int32)), (.ref a)])) (fun _ kz => ?_) ?_
          · show Steps p.tables e below (T72.setTop (mkF m 25 #[.val (.ref a), .val (.int (0 : Int32)), .val (.int (4 : Int32)), .val (.double y), .second, .val (.int (2 : Int32))] [])) _
            refine XS.iinc X72.here hx rfl (hb hby d1_25) rfl (l' := #[.val (.ref a), .val (.int (0 : Int32)), .val (.int (4 : Int32)), .val (.double y), .second, .val (.int (3 : Int32))]) rfl ?_
            show Steps p.tables e below (T72.setTop (mkF m 28 #[.val (.ref a), .val (.int (0 : Int32)), .val (.int (4 : Int32)), .val (.double y), .second, .val (.int (3 : Int32))] [])) _
            refine XS.goto X72.here hx rfl (pc0 := 28) (pc' := 3) rfl (hb hby d1_28) (by decide) (by decide) ?_
            show Steps p.tables e below (T72.setTop (mkF m 3 #[.val (.ref a), .val (.int (0 : Int32)), .val (.int (4 : Int32)), .val (.double y), .second, .val (.int (3 : Int32))] [])) _
            refine XS.iload X72.here hx rfl (hb hby d1_3) rfl ?_
            show Steps p.tables e below (T72.setTop (mkF m 5 #[.val (.ref a), .val (.int (0 : Int32)), .val (.int (4 : Int32)), .val (.double y), .second, .val (.int (3 : Int32))] [(.int (3 : Int32))])) _
            refine XS.iloadN X72.here hx rfl (hb hby d1_5) rfl ?_
            show Steps p.tables e below (T72.setTop (mkF m 6 #[.val (.ref a), .val (.int (0 : Int32)), .val (.int (4 : Int32)), .val (.double y), .second, .val (.int (3 : Int32))] [(.int (0 : Int32)), (.int (3 : Int32))])) _
            refine XS.iloadN X72.here hx rfl (hb hby d1_6) rfl ?_
            show Steps p.tables e below (T72.setTop (mkF m 7 #[.val (.ref a), .val (.int (0 : Int32)), .val (.int (4 : Int32)), .val (.double y), .second, .val (.int (3 : Int32))] [(.int (4 : Int32)), (.int (0 : Int32)), (.int (3 : Int32))])) _
            refine XS.iadd X72.here hx rfl (hb hby d1_7) rfl ?_
            show Steps p.tables e below (T72.setTop (mkF m 8 #[.val (.ref a), .val (.int (0 : Int32)), .val (.int (4 : Int32)), .val (.double y), .second, .val (.int (3 : Int32))] [(.int (4 : Int32)), (.int (3 : Int32))])) _
            refine XS.icmpNo X72.here hx rfl (hb hby d1_8) rfl (tlt (by decide : ((3 : Int32) < (4 : Int32)))).2.1 ?_
            show Steps p.tables e below (T72.setTop (mkF m 11 #[.val (.ref a), .val (.int (0 : Int32)), .val (.int (4 : Int32)), .val (.double y), .second, .val (.int (3 : Int32))] [])) _
            refine XS.aloadN X72.here hx rfl (hb hby d1_11) rfl rfl ?_
            show Steps p.tables e below (T72.setTop (mkF m 12 #[.val (.ref a), .val (.int (0 : Int32)), .val (.int (4 : Int32)), .val (.double y), .second, .val (.int (3 : Int32))] [(.ref a)])) _
            refine XS.iload X72.here hx rfl (hb hby d1_12) rfl ?_
            exact kz
          obtain ⟨cl73, Ar73, -, S73, M73, H73, -⟩ := id Av_a
          have hin73 : ¬ ((3 : Int32) < 0 ∨ cl73.slots.size ≤ ((3 : Int32)).toNatClampNeg) := inb_of S73 ⟨by decide, by decide⟩
          have hat73 : cl73.slots[((3 : Int32)).toNatClampNeg]? = some (.double x3) := H73.at hin73 rfl
          refine own_go (A := T72.setTop (mkF m 15 #[.val (.ref a), .val (.int (0 : Int32)), .val (.int (4 : Int32)), .val (.double y), .second, .val (.int (3 : Int32))] [(.double x3)])) (fun _ kz => ?_) ?_
          · refine X72.daload hx (j := (3 : Int32)) (v := (.double x3)) (by rw [e72]; exact Ar73.1) (State.isArrayOf_alike hZ.alike Ar73.2.1) Ar73.2.2 hin73 hat73 (g := (mkF m 14 #[.val (.ref a), .val (.int (0 : Int32)), .val (.int (4 : Int32)), .val (.double y), .second, .val (.int (3 : Int32))] [(.int (3 : Int32)), (.ref a)])) rfl rfl (hb hby d1_14) _ ?_
            exact kz
          refine own_go (A := T72.setTop (mkF m 17 #[.val (.ref a), .val (.int (0 : Int32)), .val (.int (4 : Int32)), .val (.double y), .second, .val (.int (3 : Int32))] [(.int (cmpValue (FP.dcmp x3 y) .g))])) (fun _ kz => ?_) ?_
          · show Steps p.tables e below (T72.setTop (mkF m 15 #[.val (.ref a), .val (.int (0 : Int32)), .val (.int (4 : Int32)), .val (.double y), .second, .val (.int (3 : Int32))] [(.double x3)])) _
            refine XS.dloadN X72.here hx rfl (hb hby d1_15) rfl ?_
            show Steps p.tables e below (T72.setTop (mkF m 16 #[.val (.ref a), .val (.int (0 : Int32)), .val (.int (4 : Int32)), .val (.double y), .second, .val (.int (3 : Int32))] [(.double y), (.double x3)])) _
            refine XS.dcmpS X72.here hx rfl (hb hby d1_16) rfl rfl ?_
            exact kz
          by_cases hs74 : (cmpValue (FP.dcmp x3 y) .g) < (0 : Int32)
          · skip
            refine own_go (A := T72.setTop (mkF m 20 #[.val (.ref a), .val (.int (0 : Int32)), .val (.int (4 : Int32)), .val (.double y), .second, .val (.int (3 : Int32))] [])) (fun _ kz => ?_) ?_
            · show Steps p.tables e below (T72.setTop (mkF m 17 #[.val (.ref a), .val (.int (0 : Int32)), .val (.int (4 : Int32)), .val (.double y), .second, .val (.int (3 : Int32))] [(.int (cmpValue (FP.dcmp x3 y) .g))])) _
              refine XS.ifNo X72.here hx rfl (hb hby d1_17) rfl ((if0 _ _).trans (tlt hs74).2.1) ?_
              exact kz
            refine own_go (A := T72.setTop (mkF m 24 #[.val (.ref a), .val (.int (0 : Int32)), .val (.int (4 : Int32)), .val (.double y), .second, .val (.int (3 : Int32))] [(.double FP.dconst0), (.int (3 : Int32)), (.ref a)])) (fun _ kz => ?_) ?_
            · show Steps p.tables e below (T72.setTop (mkF m 20 #[.val (.ref a), .val (.int (0 : Int32)), .val (.int (4 : Int32)), .val (.double y), .second, .val (.int (3 : Int32))] [])) _
              refine XS.aloadN X72.here hx rfl (hb hby d1_20) rfl rfl ?_
              show Steps p.tables e below (T72.setTop (mkF m 21 #[.val (.ref a), .val (.int (0 : Int32)), .val (.int (4 : Int32)), .val (.double y), .second, .val (.int (3 : Int32))] [(.ref a)])) _
              refine XS.iload X72.here hx rfl (hb hby d1_21) rfl ?_
              show Steps p.tables e below (T72.setTop (mkF m 23 #[.val (.ref a), .val (.int (0 : Int32)), .val (.int (4 : Int32)), .val (.double y), .second, .val (.int (3 : Int32))] [(.int (3 : Int32)), (.ref a)])) _
              refine XS.dconst0 X72.here hx rfl (hb hby d1_23) rfl ?_
              exact kz
            obtain ⟨cl75, Ar75, q75, S75, M75, H75, G75⟩ := id Av_a
            have hin75 : ¬ ((3 : Int32) < 0 ∨ cl75.slots.size ≤ ((3 : Int32)).toNatClampNeg) := inb_of S75 ⟨by decide, by decide⟩
            obtain ⟨T75, h75, X75, e75, W75, st75⟩ := stD X72 hx hZ e72 Ar75 (j := (3 : Int32)) hin75 (g := (mkF m 24 #[.val (.ref a), .val (.int (0 : Int32)), .val (.int (4 : Int32)), .val (.double y), .second, .val (.int (3 : Int32))] [(.double FP.dconst0), (.int (3 : Int32)), (.ref a)])) rfl rfl (hb hby d1_24)
            have Aw75 := Arv.set Ar75 q75 S75 M75 H75 G75 rfl W75 3 rfl (Nat.le_of_ble_eq_true rfl)
            have Z75 : n0 ≤ h75.size := Nat.le_trans Z72 (Keep.of_wr W75).1
            have Kp75 : Keep h0 h75 [a] := Kp72.wr W75 (Or.inl (List.mem_of_getElem? (i := 0) rfl))
            have Av_a : Arv Z h75 a kc .double (4 : Int32) [(.double x0), (.double x1), (.double FP.dconst0), (.double FP.dconst0)] (.double (0 : UInt64)) := Aw75
            have N75 := Fr.snoc X75 N72 g_a
            refine own_go (A := T75.setTop (mkF m 25 #[.val (.ref a), .val (.int (0 : Int32)), .val (.int (4 : Int32)), .val (.double y), .second, .val (.int (3 : Int32))] [])) (fun _ kz => st75 _ kz) ?_
            refine own_go (A := T75.setTop (mkF m 31 #[.val (.ref a), .val (.int (0 : Int32)), .val (.int (4 : Int32)), .val (.double y), .second, .val (.int (4 : Int32))] [])) (fun _ kz => ?_) ?_
            · show Steps p.tables e below (T75.setTop (mkF m 25 #[.val (.ref a), .val (.int (0 : Int32)), .val (.int (4 : Int32)), .val (.double y), .second, .val (.int (3 : Int32))] [])) _
              refine XS.iinc X75.here hx rfl (hb hby d1_25) rfl (l' := #[.val (.ref a), .val (.int (0 : Int32)), .val (.int (4 : Int32)), .val (.double y), .second, .val (.int (4 : Int32))]) rfl ?_
              show Steps p.tables e below (T75.setTop (mkF m 28 #[.val (.ref a), .val (.int (0 : Int32)), .val (.int (4 : Int32)), .val (.double y), .second, .val (.int (4 : Int32))] [])) _
              refine XS.goto X75.here hx rfl (pc0 := 28) (pc' := 3) rfl (hb hby d1_28) (by decide) (by decide) ?_
              show Steps p.tables e below (T75.setTop (mkF m 3 #[.val (.ref a), .val (.int (0 : Int32)), .val (.int (4 : Int32)), .val (.double y), .second, .val (.int (4 : Int32))] [])) _
              refine XS.iload X75.here hx rfl (hb hby d1_3) rfl ?_
              show Steps p.tables e below (T75.setTop (mkF m 5 #[.val (.ref a), .val (.int (0 : Int32)), .val (.int (4 : Int32)), .val (.double y), .second, .val (.int (4 : Int32))] [(.int (4 : Int32))])) _
              refine XS.iloadN X75.here hx rfl (hb hby d1_5) rfl ?_
              show Steps p.tables e below (T75.setTop (mkF m 6 #[.val (.ref a), .val (.int (0 : Int32)), .val (.int (4 : Int32)), .val (.double y), .second, .val (.int (4 : Int32))] [(.int (0 : Int32)), (.int (4 : Int32))])) _
              refine XS.iloadN X75.here hx rfl (hb hby d1_6) rfl ?_
              show Steps p.tables e below (T75.setTop (mkF m 7 #[.val (.ref a), .val (.int (0 : Int32)), .val (.int (4 : Int32)), .val (.double y), .second, .val (.int (4 : Int32))] [(.int (4 : Int32)), (.int (0 : Int32)), (.int (4 : Int32))])) _
              refine XS.iadd X75.here hx rfl (hb hby d1_7) rfl ?_
              show Steps p.tables e below (T75.setTop (mkF m 8 #[.val (.ref a), .val (.int (0 : Int32)), .val (.int (4 : Int32)), .val (.double y), .second, .val (.int (4 : Int32))] [(.int (4 : Int32)), (.int (4 : Int32))])) _
              refine XS.icmpYes X75.here hx rfl (pc0 := 8) (pc' := 31) rfl (hb hby d1_8) rfl (flt (by decide : ¬ ((4 : Int32) < (4 : Int32)))).2.1 (by decide) (by decide) ?_
              exact kz
            obtain ⟨fs, hrr, hrun, hended, hW, hsame⟩ := X75.leave (v := none) (fun _ => rfl)
            refine ⟨_, _, ?_, hrun, hended, _, _, rfl, ?_, ⟨_, rfl⟩, hW, hsame.mono (by decide) (by decide)⟩
            · show Steps p.tables e below (T75.setTop (mkF m 31 #[.val (.ref a), .val (.int (0 : Int32)), .val (.int (4 : Int32)), .val (.double y), .second, .val (.int (4 : Int32))] [])) _
              exact X75.returnOut hx Bd.returns (hb hby d1_31) hrr
            · show QrmFl Z a (0 : Int32) (4 : Int32) y kc x0 x1 x2 x3 h0 n0 _ T75.heap _
              rw [e75]
              exact ⟨rfl, N75, Kp75, by simpa [own_exp, hs35, hs59, hs71, hs74] using Av_a⟩
          · skip
            refine own_go (A := T72.setTop (mkF m 25 #[.val (.ref a), .val (.int (0 : Int32)), .val (.int (4 : Int32)), .val (.double y), .second, .val (.int (3 : Int32))] [])) (fun _ kz => ?_) ?_
            · show Steps p.tables e below (T72.setTop (mkF m 17 #[.val (.ref a), .val (.int (0 : Int32)), .val (.int (4 : Int32)), .val (.double y), .second, .val (.int (3 : Int32))] [(.int (cmpValue (FP.dcmp x3 y) .g))])) _
              refine XS.ifYes X72.here hx rfl (pc0 := 17) (pc' := 25) rfl (hb hby d1_17) rfl ((if0 _ _).trans (flt hs74).2.1) (by decide) (by decide) ?_
              exact kz
            refine own_go (A := T72.setTop (mkF m 31 #[.val (.ref a), .val (.int (0 : Int32)), .val (.int (4 : Int32)), .val (.double y), .second, .val (.int (4 : Int32))] [])) (fun _ kz => ?_) ?_
            · show Steps p.tables e below (T72.setTop (mkF m 25 #[.val (.ref a), .val (.int (0 : Int32)), .val (.int (4 : Int32)), .val (.double y), .second, .val (.int (3 : Int32))] [])) _
              refine XS.iinc X72.here hx rfl (hb hby d1_25) rfl (l' := #[.val (.ref a), .val (.int (0 : Int32)), .val (.int (4 : Int32)), .val (.double y), .second, .val (.int (4 : Int32))]) rfl ?_
              show Steps p.tables e below (T72.setTop (mkF m 28 #[.val (.ref a), .val (.int (0 : Int32)), .val (.int (4 : Int32)), .val (.double y), .second, .val (.int (4 : Int32))] [])) _
              refine XS.goto X72.here hx rfl (pc0 := 28) (pc' := 3) rfl (hb hby d1_28) (by decide) (by decide) ?_
              show Steps p.tables e below (T72.setTop (mkF m 3 #[.val (.ref a), .val (.int (0 : Int32)), .val (.int (4 : Int32)), .val (.double y), .second, .val (.int (4 : Int32))] [])) _
              refine XS.iload X72.here hx rfl (hb hby d1_3) rfl ?_
              show Steps p.tables e below (T72.setTop (mkF m 5 #[.val (.ref a), .val (.int (0 : Int32)), .val (.int (4 : Int32)), .val (.double y), .second, .val (.int (4 : Int32))] [(.int (4 : Int32))])) _
              refine XS.iloadN X72.here hx rfl (hb hby d1_5) rfl ?_
              show Steps p.tables e below (T72.setTop (mkF m 6 #[.val (.ref a), .val (.int (0 : Int32)), .val (.int (4 : Int32)), .val (.double y), .second, .val (.int (4 : Int32))] [(.int (0 : Int32)), (.int (4 : Int32))])) _
              refine XS.iloadN X72.here hx rfl (hb hby d1_6) rfl ?_
              show Steps p.tables e below (T72.setTop (mkF m 7 #[.val (.ref a), .val (.int (0 : Int32)), .val (.int (4 : Int32)), .val (.double y), .second, .val (.int (4 : Int32))] [(.int (4 : Int32)), (.int (0 : Int32)), (.int (4 : Int32))])) _
              refine XS.iadd X72.here hx rfl (hb hby d1_7) rfl ?_
              show Steps p.tables e below (T72.setTop (mkF m 8 #[.val (.ref a), .val (.int (0 : Int32)), .val (.int (4 : Int32)), .val (.double y), .second, .val (.int (4 : Int32))] [(.int (4 : Int32)), (.int (4 : Int32))])) _
              refine XS.icmpYes X72.here hx rfl (pc0 := 8) (pc' := 31) rfl (hb hby d1_8) rfl (flt (by decide : ¬ ((4 : Int32) < (4 : Int32)))).2.1 (by decide) (by decide) ?_
              exact kz
            obtain ⟨fs, hrr, hrun, hended, hW, hsame⟩ := X72.leave (v := none) (fun _ => rfl)
            refine ⟨_, _, ?_, hrun, hended, _, _, rfl, ?_, ⟨_, rfl⟩, hW, hsame.mono (by decide) (by decide)⟩
            · show Steps p.tables e below (T72.setTop (mkF m 31 #[.val (.ref a), .val (.int (0 : Int32)), .val (.int (4 : Int32)), .val (.double y), .second, .val (.int (4 : Int32))] [])) _
              exact X72.returnOut hx Bd.returns (hb hby d1_31) hrr
            · show QrmFl Z a (0 : Int32) (4 : Int32) y kc x0 x1 x2 x3 h0 n0 _ T72.heap _
              rw [e72]
              exact ⟨rfl, N72, Kp72, by simpa [own_exp, hs35, hs59, hs71, hs74] using Av_a⟩
        · skip
          refine own_go (A := s₁.setTop (mkF m 25 #[.val (.ref a), .val (.int (0 : Int32)), .val (.int (4 : Int32)), .val (.double y), .second, .val (.int (2 : Int32))] [])) (fun _ kz => ?_) ?_
          · show Steps p.tables e below (s₁.setTop (mkF m 17 #[.val (.ref a), .val (.int (0 : Int32)), .val (.int (4 : Int32)), .val (.double y), .second, .val (.int (2 : Int32))] [(.int (cmpValue (FP.dcmp x2 y) .g))])) _
            refine XS.ifYes X0.here hx rfl (pc0 := 17) (pc' := 25) rfl (hb hby d1_17) rfl ((if0 _ _).trans (flt hs71).2.1) (by decide) (by decide) ?_
            exact kz
          refine own_go (A := s₁.setTop (mkF m 14 #[.val (.ref a), .val (.int (0 : Int32)), .val (.int (4 : Int32)), .val (.double y), .second, .val (.int (3 : Int32))] [(.int (3 : Int32)), (.ref a)])) (fun _ kz => ?_) ?_
          · show Steps p.tables e below (s₁.setTop (mkF m 25 #[.val (.ref a), .val (.int (0 : Int32)), .val (.int (4 : Int32)), .val (.double y), .second, .val (.int (2 : Int32))] [])) _
            refine XS.iinc X0.here hx rfl (hb hby d1_25) rfl (l' := #[.val (.ref a), .val (.int (0 : Int32)), .val (.int (4 : Int32)), .val (.double y), .second, .val (.int (3 : Int32))]) rfl ?_
            show Steps p.tables e below (s₁.setTop (mkF m 28 #[.val (.ref a), .val (.int (0 : Int32)), .val (.int (4 : Int32)), .val (.double y), .second, .val (.int (3 : Int32))] [])) _
            refine XS.goto X0.here hx rfl (pc0 := 28) (pc' := 3) rfl (hb hby d1_28) (by decide) (by decide) ?_
            show Steps p.tables e below (s₁.setTop (mkF m 3 #[.val (.ref a), .val (.int (0 : Int32)), .val (.int (4 : Int32)), .val (.double y), .second, .val (.int (3 : Int32))] [])) _
            refine XS.iload X0.here hx rfl (hb hby d1_3) rfl ?_
            show Steps p.tables e below (s₁.setTop (mkF m 5 #[.val (.ref a), .val (.int (0 : Int32)), .val (.int (4 : Int32)), .val (.double y), .second, .val (.int (3 : Int32))] [(.int (3 : Int32))])) _
            refine XS.iloadN X0.here hx rfl (hb hby d1_5) rfl ?_
            show Steps p.tables e below (s₁.setTop (mkF m 6 #[.val (.ref a), .val (.int (0 : Int32)), .val (.int (4 : Int32)), .val (.double y), .second, .val (.int (3 : Int32))] [(.int (0 : Int32)), (.int (3 : Int32))])) _
            refine XS.iloadN X0.here hx rfl (hb hby d1_6) rfl ?_
            show Steps p.tables e below (s₁.setTop (mkF m 7 #[.val (.ref a), .val (.int (0 : Int32)), .val (.int (4 : Int32)), .val (.double y), .second, .val (.int (3 : Int32))] [(.int (4 : Int32)), (.int (0 : Int32)), (.int (3 : Int32))])) _
            refine XS.iadd X0.here hx rfl (hb hby d1_7) rfl ?_
            show Steps p.tables e below (s₁.setTop (mkF m 8 #[.val (.ref a), .val (.int (0 : Int32)), .val (.int (4 : Int32)), .val (.double y), .second, .val (.int (3 : Int32))] [(.int (4 : Int32)), (.int (3 : Int32))])) _
            refine XS.icmpNo X0.here hx rfl (hb hby d1_8) rfl (tlt (by decide : ((3 : Int32) < (4 : Int32)))).2.1 ?_
            show Steps p.tables e below (s₁.setTop (mkF m 11 #[.val (.ref a), .val (.int (0 : Int32)), .val (.int (4 : Int32)), .val (.double y), .second, .val (.int (3 : Int32))] [])) _
            refine XS.aloadN X0.here hx rfl (hb hby d1_11) rfl rfl ?_
            show Steps p.tables e below (s₁.setTop (mkF m 12 #[.val (.ref a), .val (.int (0 : Int32)), .val (.int (4 : Int32)), .val (.double y), .second, .val (.int (3 : Int32))] [(.ref a)])) _
            refine XS.iload X0.here hx rfl (hb hby d1_12) rfl ?_
            exact kz
          obtain ⟨cl76, Ar76, -, S76, M76, H76, -⟩ := id Av
          have hin76 : ¬ ((3 : Int32) < 0 ∨ cl76.slots.size ≤ ((3 : Int32)).toNatClampNeg) := inb_of S76 ⟨by decide, by decide⟩
          have hat76 : cl76.slots[((3 : Int32)).toNatClampNeg]? = some (.double x3) := H76.at hin76 rfl
          refine own_go (A := s₁.setTop (mkF m 15 #[.val (.ref a), .val (.int (0 : Int32)), .val (.int (4 : Int32)), .val (.double y), .second, .val (.int (3 : Int32))] [(.double x3)])) (fun _ kz => ?_) ?_
          · refine X0.daload hx (j := (3 : Int32)) (v := (.double x3)) (by rw [e0]; exact Ar76.1) (State.isArrayOf_alike hZ.alike Ar76.2.1) Ar76.2.2 hin76 hat76 (g := (mkF m 14 #[.val (.ref a), .val (.int (0 : Int32)), .val (.int (4 : Int32)), .val (.double y), .second, .val (.int (3 : Int32))] [(.int (3 : Int32)), (.ref a)])) rfl rfl (hb hby d1_14) _ ?_
            exact kz
          refine own_go (A := s₁.setTop (mkF m 17 #[.val (.ref a), .val (.int (0 : Int32)), .val (.int (4 : Int32)), .val (.double y), .second, .val (.int (3 : Int32))] [(.int (cmpValue (FP.dcmp x3 y) .g))])) (fun _ kz => ?_) ?_
          · show Steps p.tables e below (s₁.setTop (mkF m 15 #[.val (.ref a), .val (.int (0 : Int32)), .val (.int (4 : Int32)), .val (.double y), .second, .val (.int (3 : Int32))] [(.double x3)])) _
            refine XS.dloadN X0.here hx rfl (hb hby d1_15) rfl ?_
            show Steps p.tables e below (s₁.setTop (mkF m 16 #[.val (.ref a), .val (.int (0 : Int32)), .val (.int (4 : Int32)), .val (.double y), .second, .val (.int (3 : Int32))] [(.double y), (.double x3)])) _
            refine XS.dcmpS X0.here hx rfl (hb hby d1_16) rfl rfl ?_
            exact kz
          by_cases hs77 : (cmpValue (FP.dcmp x3 y) .g) < (0 : Int32)
          · skip
            refine own_go (A := s₁.setTop (mkF m 20 #[.val (.ref a), .val (.int (0 : Int32)), .val (.int (4 : Int32)), .val (.double y), .second, .val (.int (3 : Int32))] [])) (fun _ kz => ?_) ?_
            · show Steps p.tables e below (s₁.setTop (mkF m 17 #[.val (.ref a), .val (.int (0 : Int32)), .val (.int (4 : Int32)), .val (.double y), .second, .val (.int (3 : Int32))] [(.int (cmpValue (FP.dcmp x3 y) .g))])) _
              refine XS.ifNo X0.here hx rfl (hb hby d1_17) rfl ((if0 _ _).trans (tlt hs77).2.1) ?_
              exact kz
            refine own_go (A := s₁.setTop (mkF m 24 #[.val (.ref a), .val (.int (0 : Int32)), .val (.int (4 : Int32)), .val (.double y), .second, .val (.int (3 : Int32))] [(.double FP.dconst0), (.int (3 : Int32)), (.ref a)])) (fun _ kz => ?_) ?_
            · show Steps p.tables e below (s₁.setTop (mkF m 20 #[.val (.ref a), .val (.int (0 : Int32)), .val (.int (4 : Int32)), .val (.double y), .second, .val (.int (3 : Int32))] [])) _
              refine XS.aloadN X0.here hx rfl (hb hby d1_20) rfl rfl ?_
              show Steps p.tables e below (s₁.setTop (mkF m 21 #[.val (.ref a), .val (.int (0 : Int32)), .val (.int (4 : Int32)), .val (.double y), .second, .val (.int (3 : Int32))] [(.ref a)])) _
              refine XS.iload X0.here hx rfl (hb hby d1_21) rfl ?_
              show Steps p.tables e below (s₁.setTop (mkF m 23 #[.val (.ref a), .val (.int (0 : Int32)), .val (.int (4 : Int32)), .val (.double y), .second, .val (.int (3 : Int32))] [(.int (3 : Int32)), (.ref a)])) _
              refine XS.dconst0 X0.here hx rfl (hb hby d1_23) rfl ?_
              exact kz
            obtain ⟨cl78, Ar78, q78, S78, M78, H78, G78⟩ := id Av
            have hin78 : ¬ ((3 : Int32) < 0 ∨ cl78.slots.size ≤ ((3 : Int32)).toNatClampNeg) := inb_of S78 ⟨by decide, by decide⟩
            obtain ⟨T78, h78, X78, e78, W78, st78⟩ := stD X0 hx hZ e0 Ar78 (j := (3 : Int32)) hin78 (g := (mkF m 24 #[.val (.ref a), .val (.int (0 : Int32)), .val (.int (4 : Int32)), .val (.double y), .second, .val (.int (3 : Int32))] [(.double FP.dconst0), (.int (3 : Int32)), (.ref a)])) rfl rfl (hb hby d1_24)
            have Aw78 := Arv.set Ar78 q78 S78 M78 H78 G78 rfl W78 3 rfl (Nat.le_of_ble_eq_true rfl)
            have Z78 : n0 ≤ h78.size := Nat.le_trans Z0 (Keep.of_wr W78).1
            have Kp78 : Keep h0 h78 [a] := Kp0.wr W78 (Or.inl (List.mem_of_getElem? (i := 0) rfl))
            have Av_a : Arv Z h78 a kc .double (4 : Int32) [(.double x0), (.double x1), (.double x2), (.double FP.dconst0)] (.double (0 : UInt64)) := Aw78
            have N78 := Fr.snoc X78 N0 g_a
            refine own_go (A := T78.setTop (mkF m 25 #[.val (.ref a), .val (.int (0 : Int32)), .val (.int (4 : Int32)), .val (.double y), .second, .val (.int (3 : Int32))] [])) (fun _ kz => st78 _ kz) ?_
            refine own_go (A := T78.setTop (mkF m 31 #[.val (.ref a), .val (.int (0 : Int32)), .val (.int (4 : Int32)), .val (.double y), .second, .val (.int (4 : Int32))] [])) (fun _ kz => ?_) ?_
            · show Steps p.tables e below (T78.setTop (mkF m 25 #[.val (.ref a), .val (.int (0 : Int32)), .val (.int (4 : Int32)), .val (.double y), .second, .val (.int (3 : Int32))] [])) _
              refine XS.iinc X78.here hx rfl (hb hby d1_25) rfl (l' := #[.val (.ref a), .val (.int (0 : Int32)), .val (.int (4 : Int32)), .val (.double y), .second, .val (.int (4 : Int32))]) rfl ?_
              show Steps p.tables e below (T78.setTop (mkF m 28 #[.val (.ref a), .val (.int (0 : Int32)), .val (.int (4 : Int32)), .val (.double y), .second, .val (.int (4 : Int32))] [])) _
              refine XS.goto X78.here hx rfl (pc0 := 28) (pc' := 3) rfl (hb hby d1_28) (by decide) (by decide) ?_
              show Steps p.tables e below (T78.setTop (mkF m 3 #[.val (.ref a), .val (.int (0 : Int32)), .val (.int (4 : Int32)), .val (.double y), .second, .val (.int (4 : Int32))] [])) _
              refine XS.iload X78.here hx rfl (hb hby d1_3) rfl ?_
              show Steps p.tables e below (T78.setTop (mkF m 5 #[.val (.ref a), .val (.int (0 : Int32)), .val (.int (4 : Int32)), .val (.double y), .second, .val (.int (4 : Int32))] [(.int (4 : Int32))])) _
              refine XS.iloadN X78.here hx rfl (hb hby d1_5) rfl ?_
              show Steps p.tables e below (T78.setTop (mkF m 6 #[.val (.ref a), .val (.int (0 : Int32)), .val (.int (4 : Int32)), .val (.double y), .second, .val (.int (4 : Int32))] [(.int (0 : Int32)), (.int (4 : Int32))])) _
              refine XS.iloadN X78.here hx rfl (hb hby d1_6) rfl ?_
              show Steps p.tables e below (T78.setTop (mkF m 7 #[.val (.ref a), .val (.int (0 : Int32)), .val (.int (4 : Int32)), .val (.double y), .second, .val (.int (4 : Int32))] [(.int (4 : Int32)), (.int (0 : Int32)), (.int (4 : Int32))])) _
              refine XS.iadd X78.here hx rfl (hb hby d1_7) rfl ?_
              show Steps p.tables e below (T78.setTop (mkF m 8 #[.val (.ref a), .val (.int (0 : Int32)), .val (.int (4 : Int32)), .val (.double y), .second, .val (.int (4 : Int32))] [(.int (4 : Int32)), (.int (4 : Int32))])) _
              refine XS.icmpYes X78.here hx rfl (pc0 := 8) (pc' := 31) rfl (hb hby d1_8) rfl (flt (by decide : ¬ ((4 : Int32) < (4 : Int32)))).2.1 (by decide) (by decide) ?_
              exact kz
            obtain ⟨fs, hrr, hrun, hended, hW, hsame⟩ := X78.leave (v := none) (fun _ => rfl)
            refine ⟨_, _, ?_, hrun, hended, _, _, rfl, ?_, ⟨_, rfl⟩, hW, hsame.mono (by decide) (by decide)⟩
            · show Steps p.tables e below (T78.setTop (mkF m 31 #[.val (.ref a), .val (.int (0 : Int32)), .val (.int (4 : Int32)), .val (.double y), .second, .val (.int (4 : Int32))] [])) _
              exact X78.returnOut hx Bd.returns (hb hby d1_31) hrr
            · show QrmFl Z a (0 : Int32) (4 : Int32) y kc x0 x1 x2 x3 h0 n0 _ T78.heap _
              rw [e78]
              exact ⟨rfl, N78, Kp78, by simpa [own_exp, hs35, hs59, hs71, hs77] using Av_a⟩
          · skip
            refine own_go (A := s₁.setTop (mkF m 25 #[.val (.ref a), .val (.int (0 : Int32)), .val (.int (4 : Int32)), .val (.double y), .second, .val (.int (3 : Int32))] [])) (fun _ kz => ?_) ?_
            · show Steps p.tables e below (s₁.setTop (mkF m 17 #[.val (.ref a), .val (.int (0 : Int32)), .val (.int (4 : Int32)), .val (.double y), .second, .val (.int (3 : Int32))] [(.int (cmpValue (FP.dcmp x3 y) .g))])) _
              refine XS.ifYes X0.here hx rfl (pc0 := 17) (pc' := 25) rfl (hb hby d1_17) rfl ((if0 _ _).trans (flt hs77).2.1) (by decide) (by decide) ?_
              exact kz
            refine own_go (A := s₁.setTop (mkF m 31 #[.val (.ref a), .val (.int (0 : Int32)), .val (.int (4 : Int32)), .val (.double y), .second, .val (.int (4 : Int32))] [])) (fun _ kz => ?_) ?_
            · show Steps p.tables e below (s₁.setTop (mkF m 25 #[.val (.ref a), .val (.int (0 : Int32)), .val (.int (4 : Int32)), .val (.double y), .second, .val (.int (3 : Int32))] [])) _
              refine XS.iinc X0.here hx rfl (hb hby d1_25) rfl (l' := #[.val (.ref a), .val (.int (0 : Int32)), .val (.int (4 : Int32)), .val (.double y), .second, .val (.int (4 : Int32))]) rfl ?_
              show Steps p.tables e below (s₁.setTop (mkF m 28 #[.val (.ref a), .val (.int (0 : Int32)), .val (.int (4 : Int32)), .val (.double y), .second, .val (.int (4 : Int32))] [])) _
              refine XS.goto X0.here hx rfl (pc0 := 28) (pc' := 3) rfl (hb hby d1_28) (by decide) (by decide) ?_
              show Steps p.tables e below (s₁.setTop (mkF m 3 #[.val (.ref a), .val (.int (0 : Int32)), .val (.int (4 : Int32)), .val (.double y), .second, .val (.int (4 : Int32))] [])) _
              refine XS.iload X0.here hx rfl (hb hby d1_3) rfl ?_
              show Steps p.tables e below (s₁.setTop (mkF m 5 #[.val (.ref a), .val (.int (0 : Int32)), .val (.int (4 : Int32)), .val (.double y), .second, .val (.int (4 : Int32))] [(.int (4 : Int32))])) _
              refine XS.iloadN X0.here hx rfl (hb hby d1_5) rfl ?_
              show Steps p.tables e below (s₁.setTop (mkF m 6 #[.val (.ref a), .val (.int (0 : Int32)), .val (.int (4 : Int32)), .val (.double y), .second, .val (.int (4 : Int32))] [(.int (0 : Int32)), (.int (4 : Int32))])) _
              refine XS.iloadN X0.here hx rfl (hb hby d1_6) rfl ?_
              show Steps p.tables e below (s₁.setTop (mkF m 7 #[.val (.ref a), .val (.int (0 : Int32)), .val (.int (4 : Int32)), .val (.double y), .second, .val (.int (4 : Int32))] [(.int (4 : Int32)), (.int (0 : Int32)), (.int (4 : Int32))])) _
              refine XS.iadd X0.here hx rfl (hb hby d1_7) rfl ?_
              show Steps p.tables e below (s₁.setTop (mkF m 8 #[.val (.ref a), .val (.int (0 : Int32)), .val (.int (4 : Int32)), .val (.double y), .second, .val (.int (4 : Int32))] [(.int (4 : Int32)), (.int (4 : Int32))])) _
              refine XS.icmpYes X0.here hx rfl (pc0 := 8) (pc' := 31) rfl (hb hby d1_8) rfl (flt (by decide : ¬ ((4 : Int32) < (4 : Int32)))).2.1 (by decide) (by decide) ?_
              exact kz
            obtain ⟨fs, hrr, hrun, hended, hW, hsame⟩ := X0.leave (v := none) (fun _ => rfl)
            refine ⟨_, _, ?_, hrun, hended, _, _, rfl, ?_, ⟨_, rfl⟩, hW, hsame.mono (by decide) (by decide)⟩
            · show Steps p.tables e below (s₁.setTop (mkF m 31 #[.val (.ref a), .val (.int (0 : Int32)), .val (.int (4 : Int32)), .val (.double y), .second, .val (.int (4 : Int32))] [])) _
              exact X0.returnOut hx Bd.returns (hb hby d1_31) hrr
            · show QrmFl Z a (0 : Int32) (4 : Int32) y kc x0 x1 x2 x3 h0 n0 _ s₁.heap _
              rw [e0]
              exact ⟨rfl, N0, Kp0, by simpa [own_exp, hs35, hs59, hs71, hs77] using Av⟩
  · skip
    refine own_go (A := s₁.setTop (mkF m 31 #[.val (.ref a), .val (.int (1 : Int32)), .val (.int (0 : Int32)), .val (.double y), .second, .val (.int (1 : Int32))] [])) (fun _ kz => ?_) ?_
    · show Steps p.tables e below (s₁.setTop (mkF m 0 #[.val (.ref a), .val (.int (1 : Int32)), .val (.int (0 : Int32)), .val (.double y), .second, .unset] [])) _
      refine XS.iloadN X0.here hx rfl (hb hby d1_0) rfl ?_
      show Steps p.tables e below (s₁.setTop (mkF m 1 #[.val (.ref a), .val (.int (1 : Int32)), .val (.int (0 : Int32)), .val (.double y), .second, .unset] [(.int (1 : Int32))])) _
      refine XS.istore X0.here hx rfl (hb hby d1_1) rfl (l' := #[.val (.ref a), .val (.int (1 : Int32)), .val (.int (0 : Int32)), .val (.double y), .second, .val (.int (1 : Int32))]) rfl ?_
      show Steps p.tables e below (s₁.setTop (mkF m 3 #[.val (.ref a), .val (.int (1 : Int32)), .val (.int (0 : Int32)), .val (.double y), .second, .val (.int (1 : Int32))] [])) _
      refine XS.iload X0.here hx rfl (hb hby d1_3) rfl ?_
      show Steps p.tables e below (s₁.setTop (mkF m 5 #[.val (.ref a), .val (.int (1 : Int32)), .val (.int (0 : Int32)), .val (.double y), .second, .val (.int (1 : Int32))] [(.int (1 : Int32))])) _
      refine XS.iloadN X0.here hx rfl (hb hby d1_5) rfl ?_
      show Steps p.tables e below (s₁.setTop (mkF m 6 #[.val (.ref a), .val (.int (1 : Int32)), .val (.int (0 : Int32)), .val (.double y), .second, .val (.int (1 : Int32))] [(.int (1 : Int32)), (.int (1 : Int32))])) _
      refine XS.iloadN X0.here hx rfl (hb hby d1_6) rfl ?_
      show Steps p.tables e below (s₁.setTop (mkF m 7 #[.val (.ref a), .val (.int (1 : Int32)), .val (.int (0 : Int32)), .val (.double y), .second, .val (.int (1 : Int32))] [(.int (0 : Int32)), (.int (1 : Int32)), (.int (1 : Int32))])) _
      refine XS.iadd X0.here hx rfl (hb hby d1_7) rfl ?_
      show Steps p.tables e below (s₁.setTop (mkF m 8 #[.val (.ref a), .val (.int (1 : Int32)), .val (.int (0 : Int32)), .val (.double y), .second, .val (.int (1 : Int32))] [(.int (1 : Int32)), (.int (1 : Int32))])) _
      refine XS.icmpYes X0.here hx rfl (pc0 := 8) (pc' := 31) rfl (hb hby d1_8) rfl (flt (by decide : ¬ ((1 : Int32) < (1 : Int32)))).2.1 (by decide) (by decide) ?_
      exact kz
    obtain ⟨fs, hrr, hrun, hended, hW, hsame⟩ := X0.leave (v := none) (fun _ => rfl)
    refine ⟨_, _, ?_, hrun, hended, _, _, rfl, ?_, ⟨_, rfl⟩, hW, hsame.mono (by decide) (by decide)⟩
    · show Steps p.tables e below (s₁.setTop (mkF m 31 #[.val (.ref a), .val (.int (1 : Int32)), .val (.int (0 : Int32)), .val (.double y), .second, .val (.int (1 : Int32))] [])) _
      exact X0.returnOut hx Bd.returns (hb hby d1_31) hrr
    · show QrmFl Z a (1 : Int32) (0 : Int32) y kc x0 x1 x2 x3 h0 n0 _ s₁.heap _
      rw [e0]
      exact ⟨rfl, N0, Kp0, by simpa [own_exp] using Av⟩
  · skip
    refine own_go (A := s₁.setTop (mkF m 14 #[.val (.ref a), .val (.int (1 : Int32)), .val (.int (1 : Int32)), .val (.double y), .second, .val (.int (1 : Int32))] [(.int (1 : Int32)), (.ref a)])) (fun _ kz => ?_) ?_
    · show Steps p.tables e below (s₁.setTop (mkF m 0 #[.val (.ref a), .val (.int (1 : Int32)), .val (.int (1 : Int32)), .val (.double y), .second, .unset] [])) _
      refine XS.iloadN X0.here hx rfl (hb hby d1_0) rfl ?_
      show Steps p.tables e below (s₁.setTop (mkF m 1 #[.val (.ref a), .val (.int (1 : Int32)), .val (.int (1 : Int32)), .val (.double y), .second, .unset] [(.int (1 : Int32))])) _
      refine XS.istore X0.here hx rfl (hb hby d1_1) rfl (l' := #[.val (.ref a), .val (.int (1 : Int32)), .val (.int (1 : Int32)), .val (.double y), .second, .val (.int (1 : Int32))]) rfl ?_
      show Steps p.tables e below (s₁.setTop (mkF m 3 #[.val (.ref a), .val (.int (1 : Int32)), .val (.int (1 : Int32)), .val (.double y), .second, .val (.int (1 : Int32))] [])) _
      refine XS.iload X0.here hx rfl (hb hby d1_3) rfl ?_
      show Steps p.tables e below (s₁.setTop (mkF m 5 #[.val (.ref a), .val (.int (1 : Int32)), .val (.int (1 : Int32)), .val (.double y), .second, .val (.int (1 : Int32))] [(.int (1 : Int32))])) _
      refine XS.iloadN X0.here hx rfl (hb hby d1_5) rfl ?_
      show Steps p.tables e below (s₁.setTop (mkF m 6 #[.val (.ref a), .val (.int (1 : Int32)), .val (.int (1 : Int32)), .val (.double y), .second, .val (.int (1 : Int32))] [(.int (1 : Int32)), (.int (1 : Int32))])) _
      refine XS.iloadN X0.here hx rfl (hb hby d1_6) rfl ?_
      show Steps p.tables e below (s₁.setTop (mkF m 7 #[.val (.ref a), .val (.int (1 : Int32)), .val (.int (1 : Int32)), .val (.double y), .second, .val (.int (1 : Int32))] [(.int (1 : Int32)), (.int (1 : Int32)), (.int (1 : Int32))])) _
      refine XS.iadd X0.here hx rfl (hb hby d1_7) rfl ?_
      show Steps p.tables e below (s₁.setTop (mkF m 8 #[.val (.ref a), .val (.int (1 : Int32)), .val (.int (1 : Int32)), .val (.double y), .second, .val (.int (1 : Int32))] [(.int (2 : Int32)), (.int (1 : Int32))])) _
      refine XS.icmpNo X0.here hx rfl (hb hby d1_8) rfl (tlt (by decide : ((1 : Int32) < (2 : Int32)))).2.1 ?_
      show Steps p.tables e below (s₁.setTop (mkF m 11 #[.val (.ref a), .val (.int (1 : Int32)), .val (.int (1 : Int32)), .val (.double y), .second, .val (.int (1 : Int32))] [])) _
      refine XS.aloadN X0.here hx rfl (hb hby d1_11) rfl rfl ?_
      show Steps p.tables e below (s₁.setTop (mkF m 12 #[.val (.ref a), .val (.int (1 : Int32)), .val (.int (1 : Int32)), .val (.double y), .second, .val (.int (1 : Int32))] [(.ref a)])) _
      refine XS.iload X0.here hx rfl (hb hby d1_12) rfl ?_
      exact kz
    obtain ⟨cl79, Ar79, -, S79, M79, H79, -⟩ := id Av
    have hin79 : ¬ ((1 : Int32) < 0 ∨ cl79.slots.size ≤ ((1 : Int32)).toNatClampNeg) := inb_of S79 ⟨by decide, by decide⟩
    have hat79 : cl79.slots[((1 : Int32)).toNatClampNeg]? = some (.double x1) := H79.at hin79 rfl
    refine own_go (A := s₁.setTop (mkF m 15 #[.val (.ref a), .val (.int (1 : Int32)), .val (.int (1 : Int32)), .val (.double y), .second, .val (.int (1 : Int32))] [(.double x1)])) (fun _ kz => ?_) ?_
    · refine X0.daload hx (j := (1 : Int32)) (v := (.double x1)) (by rw [e0]; exact Ar79.1) (State.isArrayOf_alike hZ.alike Ar79.2.1) Ar79.2.2 hin79 hat79 (g := (mkF m 14 #[.val (.ref a), .val (.int (1 : Int32)), .val (.int (1 : Int32)), .val (.double y), .second, .val (.int (1 : Int32))] [(.int (1 : Int32)), (.ref a)])) rfl rfl (hb hby d1_14) _ ?_
      exact kz
    refine own_go (A := s₁.setTop (mkF m 17 #[.val (.ref a), .val (.int (1 : Int32)), .val (.int (1 : Int32)), .val (.double y), .second, .val (.int (1 : Int32))] [(.int (cmpValue (FP.dcmp x1 y) .g))])) (fun _ kz => ?_) ?_
    · show Steps p.tables e below (s₁.setTop (mkF m 15 #[.val (.ref a), .val (.int (1 : Int32)), .val (.int (1 : Int32)), .val (.double y), .second, .val (.int (1 : Int32))] [(.double x1)])) _
      refine XS.dloadN X0.here hx rfl (hb hby d1_15) rfl ?_
      show Steps p.tables e below (s₁.setTop (mkF m 16 #[.val (.ref a), .val (.int (1 : Int32)), .val (.int (1 : Int32)), .val (.double y), .second, .val (.int (1 : Int32))] [(.double y), (.double x1)])) _
      refine XS.dcmpS X0.here hx rfl (hb hby d1_16) rfl rfl ?_
      exact kz
    by_cases hs80 : (cmpValue (FP.dcmp x1 y) .g) < (0 : Int32)
    · skip
      refine own_go (A := s₁.setTop (mkF m 20 #[.val (.ref a), .val (.int (1 : Int32)), .val (.int (1 : Int32)), .val (.double y), .second, .val (.int (1 : Int32))] [])) (fun _ kz => ?_) ?_
      · show Steps p.tables e below (s₁.setTop (mkF m 17 #[.val (.ref a), .val (.int (1 : Int32)), .val (.int (1 : Int32)), .val (.double y), .second, .val (.int (1 : Int32))] [(.int (cmpValue (FP.dcmp x1 y) .g))])) _
        refine XS.ifNo X0.here hx rfl (hb hby d1_17) rfl ((if0 _ _).trans (tlt hs80).2.1) ?_
        exact kz
      refine own_go (A := s₁.setTop (mkF m 24 #[.val (.ref a), .val (.int (1 : Int32)), .val (.int (1 : Int32)), .val (.double y), .second, .val (.int (1 : Int32))] [(.double FP.dconst0), (.int (1 : Int32)), (.ref a)])) (fun _ kz => ?_) ?_
      · show Steps p.tables e below (s₁.setTop (mkF m 20 #[.val (.ref a), .val (.int (1 : Int32)), .val (.int (1 : Int32)), .val (.double y), .second, .val (.int (1 : Int32))] [])) _
        refine XS.aloadN X0.here hx rfl (hb hby d1_20) rfl rfl ?_
        show Steps p.tables e below (s₁.setTop (mkF m 21 #[.val (.ref a), .val (.int (1 : Int32)), .val (.int (1 : Int32)), .val (.double y), .second, .val (.int (1 : Int32))] [(.ref a)])) _
        refine XS.iload X0.here hx rfl (hb hby d1_21) rfl ?_
        show Steps p.tables e below (s₁.setTop (mkF m 23 #[.val (.ref a), .val (.int (1 : Int32)), .val (.int (1 : Int32)), .val (.double y), .second, .val (.int (1 : Int32))] [(.int (1 : Int32)), (.ref a)])) _
        refine XS.dconst0 X0.here hx rfl (hb hby d1_23) rfl ?_
        exact kz
      obtain ⟨cl81, Ar81, q81, S81, M81, H81, G81⟩ := id Av
      have hin81 : ¬ ((1 : Int32) < 0 ∨ cl81.slots.size ≤ ((1 : Int32)).toNatClampNeg) := inb_of S81 ⟨by decide, by decide⟩
      obtain ⟨T81, h81, X81, e81, W81, st81⟩ := stD X0 hx hZ e0 Ar81 (j := (1 : Int32)) hin81 (g := (mkF m 24 #[.val (.ref a), .val (.int (1 : Int32)), .val (.int (1 : Int32)), .val (.double y), .second, .val (.int (1 : Int32))] [(.double FP.dconst0), (.int (1 : Int32)), (.ref a)])) rfl rfl (hb hby d1_24)
      have Aw81 := Arv.set Ar81 q81 S81 M81 H81 G81 rfl W81 1 rfl (Nat.le_of_ble_eq_true rfl)
      have Z81 : n0 ≤ h81.size := Nat.le_trans Z0 (Keep.of_wr W81).1
      have Kp81 : Keep h0 h81 [a] := Kp0.wr W81 (Or.inl (List.mem_of_getElem? (i := 0) rfl))
      have Av_a : Arv Z h81 a kc .double (4 : Int32) [(.double x0), (.double FP.dconst0), (.double x2), (.double x3)] (.double (0 : UInt64)) := Aw81
      have N81 := Fr.snoc X81 N0 g_a
      refine own_go (A := T81.setTop (mkF m 25 #[.val (.ref a), .val (.int (1 : Int32)), .val (.int (1 : Int32)), .val (.double y), .second, .val (.int (1 : Int32))] [])) (fun _ kz => st81 _ kz) ?_
      refine own_go (A := T81.setTop (mkF m 31 #[.val (.ref a), .val (.int (1 : Int32)), .val (.int (1 : Int32)), .val (.double y), .second, .val (.int (2 : Int32))] [])) (fun _ kz => ?_) ?_
      · show Steps p.tables e below (T81.setTop (mkF m 25 #[.val (.ref a), .val (.int (1 : Int32)), .val (.int (1 : Int32)), .val (.double y), .second, .val (.int (1 : Int32))] [])) _
        refine XS.iinc X81.here hx rfl (hb hby d1_25) rfl (l' := #[.val (.ref a), .val (.int (1 : Int32)), .val (.int (1 : Int32)), .val (.double y), .second, .val (.int (2 : Int32))]) rfl ?_
        show Steps p.tables e below (T81.setTop (mkF m 28 #[.val (.ref a), .val (.int (1 : Int32)), .val (.int (1 : Int32)), .val (.double y), .second, .val (.int (2 : Int32))] [])) _
        refine XS.goto X81.here hx rfl (pc0 := 28) (pc' := 3) rfl (hb hby d1_28) (by decide) (by decide) ?_
        show Steps p.tables e below (T81.setTop (mkF m 3 #[.val (.ref a), .val (.int (1 : Int32)), .val (.int (1 : Int32)), .val (.double y), .second, .val (.int (2 : Int32))] [])) _
        refine XS.iload X81.here hx rfl (hb hby d1_3) rfl ?_
        show Steps p.tables e below (T81.setTop (mkF m 5 #[.val (.ref a), .val (.int (1 : Int32)), .val (.int (1 : Int32)), .val (.double y), .second, .val (.int (2 : Int32))] [(.int (2 : Int32))])) _
        refine XS.iloadN X81.here hx rfl (hb hby d1_5) rfl ?_
        show Steps p.tables e below (T81.setTop (mkF m 6 #[.val (.ref a), .val (.int (1 : Int32)), .val (.int (1 : Int32)), .val (.double y), .second, .val (.int (2 : Int32))] [(.int (1 : Int32)), (.int (2 : Int32))])) _
        refine XS.iloadN X81.here hx rfl (hb hby d1_6) rfl ?_
        show Steps p.tables e below (T81.setTop (mkF m 7 #[.val (.ref a), .val (.int (1 : Int32)), .val (.int (1 : Int32)), .val (.double y), .second, .val (.int (2 : Int32))] [(.int (1 : Int32)), (.int (1 : Int32)), (.int (2 : Int32))])) _
        refine XS.iadd X81.here hx rfl (hb hby d1_7) rfl ?_
        show Steps p.tables e below (T81.setTop (mkF m 8 #[.val (.ref a), .val (.int (1 : Int32)), .val (.int (1 : Int32)), .val (.double y), .second, .val (.int (2 : Int32))] [(.int (2 : Int32)), (.int (2 : Int32))])) _
        refine XS.icmpYes X81.here hx rfl (pc0 := 8) (pc' := 31) rfl (hb hby d1_8) rfl (flt (by decide : ¬ ((2 : Int32) < (2 : Int32)))).2.1 (by decide) (by decide) ?_
        exact kz
      obtain ⟨fs, hrr, hrun, hended, hW, hsame⟩ := X81.leave (v := none) (fun _ => rfl)
      refine ⟨_, _, ?_, hrun, hended, _, _, rfl, ?_, ⟨_, rfl⟩, hW, hsame.mono (by decide) (by decide)⟩
      · show Steps p.tables e below (T81.setTop (mkF m 31 #[.val (.ref a), .val (.int (1 : Int32)), .val (.int (1 : Int32)), .val (.double y), .second, .val (.int (2 : Int32))] [])) _
        exact X81.returnOut hx Bd.returns (hb hby d1_31) hrr
      · show QrmFl Z a (1 : Int32) (1 : Int32) y kc x0 x1 x2 x3 h0 n0 _ T81.heap _
        rw [e81]
        exact ⟨rfl, N81, Kp81, by simpa [own_exp, hs80] using Av_a⟩
    · skip
      refine own_go (A := s₁.setTop (mkF m 25 #[.val (.ref a), .val (.int (1 : Int32)), .val (.int (1 : Int32)), .val (.double y), .second, .val (.int (1 : Int32))] [])) (fun _ kz => ?_) ?_
      · show Steps p.tables e below (s₁.setTop (mkF m 17 #[.val (.ref a), .val (.int (1 : Int32)), .val (.int (1 : Int32)), .val (.double y), .second, .val (.int (1 : Int32))] [(.int (cmpValue (FP.dcmp x1 y) .g))])) _
        refine XS.ifYes X0.here hx rfl (pc0 := 17) (pc' := 25) rfl (hb hby d1_17) rfl ((if0 _ _).trans (flt hs80).2.1) (by decide) (by decide) ?_
        exact kz
      refine own_go (A := s₁.setTop (mkF m 31 #[.val (.ref a), .val (.int (1 : Int32)), .val (.int (1 : Int32)), .val (.double y), .second, .val (.int (2 : Int32))] [])) (fun _ kz => ?_) ?_
      · show Steps p.tables e below (s₁.setTop (mkF m 25 #[.val (.ref a), .val (.int (1 : Int32)), .val (.int (1 : Int32)), .val (.double y), .second, .val (.int (1 : Int32))] [])) _
        refine XS.iinc X0.here hx rfl (hb hby d1_25) rfl (l' := #[.val (.ref a), .val (.int (1 : Int32)), .val (.int (1 : Int32)), .val (.double y), .second, .val (.int (2 : Int32))]) rfl ?_
        show Steps p.tables e below (s₁.setTop (mkF m 28 #[.val (.ref a), .val (.int (1 : Int32)), .val (.int (1 : Int32)), .val (.double y), .second, .val (.int (2 : Int32))] [])) _
        refine XS.goto X0.here hx rfl (pc0 := 28) (pc' := 3) rfl (hb hby d1_28) (by decide) (by decide) ?_
        show Steps p.tables e below (s₁.setTop (mkF m 3 #[.val (.ref a), .val (.int (1 : Int32)), .val (.int (1 : Int32)), .val (.double y), .second, .val (.int (2 : Int32))] [])) _
        refine XS.iload X0.here hx rfl (hb hby d1_3) rfl ?_
        show Steps p.tables e below (s₁.setTop (mkF m 5 #[.val (.ref a), .val (.int (1 : Int32)), .val (.int (1 : Int32)), .val (.double y), .second, .val (.int (2 : Int32))] [(.int (2 : Int32))])) _
        refine XS.iloadN X0.here hx rfl (hb hby d1_5) rfl ?_
        show Steps p.tables e below (s₁.setTop (mkF m 6 #[.val (.ref a), .val (.int (1 : Int32)), .val (.int (1 : Int32)), .val (.double y), .second, .val (.int (2 : Int32))] [(.int (1 : Int32)), (.int (2 : Int32))])) _
        refine XS.iloadN X0.here hx rfl (hb hby d1_6) rfl ?_
        show Steps p.tables e below (s₁.setTop (mkF m 7 #[.val (.ref a), .val (.int (1 : Int32)), .val (.int (1 : Int32)), .val (.double y), .second, .val (.int (2 : Int32))] [(.int (1 : Int32)), (.int (1 : Int32)), (.int (2 : Int32))])) _
        refine XS.iadd X0.here hx rfl (hb hby d1_7) rfl ?_
        show Steps p.tables e below (s₁.setTop (mkF m 8 #[.val (.ref a), .val (.int (1 : Int32)), .val (.int (1 : Int32)), .val (.double y), .second, .val (.int (2 : Int32))] [(.int (2 : Int32)), (.int (2 : Int32))])) _
        refine XS.icmpYes X0.here hx rfl (pc0 := 8) (pc' := 31) rfl (hb hby d1_8) rfl (flt (by decide : ¬ ((2 : Int32) < (2 : Int32)))).2.1 (by decide) (by decide) ?_
        exact kz
      obtain ⟨fs, hrr, hrun, hended, hW, hsame⟩ := X0.leave (v := none) (fun _ => rfl)
      refine ⟨_, _, ?_, hrun, hended, _, _, rfl, ?_, ⟨_, rfl⟩, hW, hsame.mono (by decide) (by decide)⟩
      · show Steps p.tables e below (s₁.setTop (mkF m 31 #[.val (.ref a), .val (.int (1 : Int32)), .val (.int (1 : Int32)), .val (.double y), .second, .val (.int (2 : Int32))] [])) _
        exact X0.returnOut hx Bd.returns (hb hby d1_31) hrr
      · show QrmFl Z a (1 : Int32) (1 : Int32) y kc x0 x1 x2 x3 h0 n0 _ s₁.heap _
        rw [e0]
        exact ⟨rfl, N0, Kp0, by simpa [own_exp, hs80] using Av⟩
  · skip
    refine own_go (A := s₁.setTop (mkF m 14 #[.val (.ref a), .val (.int (1 : Int32)), .val (.int (2 : Int32)), .val (.double y), .second, .val (.int (1 : Int32))] [(.int (1 : Int32)), (.ref a)])) (fun _ kz => ?_) ?_
    · show Steps p.tables e below (s₁.setTop (mkF m 0 #[.val (.ref a), .val (.int (1 : Int32)), .val (.int (2 : Int32)), .val (.double y), .second, .unset] [])) _
      refine XS.iloadN X0.here hx rfl (hb hby d1_0) rfl ?_
      show Steps p.tables e below (s₁.setTop (mkF m 1 #[.val (.ref a), .val (.int (1 : Int32)), .val (.int (2 : Int32)), .val (.double y), .second, .unset] [(.int (1 : Int32))])) _
      refine XS.istore X0.here hx rfl (hb hby d1_1) rfl (l' := #[.val (.ref a), .val (.int (1 : Int32)), .val (.int (2 : Int32)), .val (.double y), .second, .val (.int (1 : Int32))]) rfl ?_
      show Steps p.tables e below (s₁.setTop (mkF m 3 #[.val (.ref a), .val (.int (1 : Int32)), .val (.int (2 : Int32)), .val (.double y), .second, .val (.int (1 : Int32))] [])) _
      refine XS.iload X0.here hx rfl (hb hby d1_3) rfl ?_
      show Steps p.tables e below (s₁.setTop (mkF m 5 #[.val (.ref a), .val (.int (1 : Int32)), .val (.int (2 : Int32)), .val (.double y), .second, .val (.int (1 : Int32))] [(.int (1 : Int32))])) _
      refine XS.iloadN X0.here hx rfl (hb hby d1_5) rfl ?_
      show Steps p.tables e below (s₁.setTop (mkF m 6 #[.val (.ref a), .val (.int (1 : Int32)), .val (.int (2 : Int32)), .val (.double y), .second, .val (.int (1 : Int32))] [(.int (1 : Int32)), (.int (1 : Int32))])) _
      refine XS.iloadN X0.here hx rfl (hb hby d1_6) rfl ?_
      show Steps p.tables e below (s₁.setTop (mkF m 7 #[.val (.ref a), .val (.int (1 : Int32)), .val (.int (2 : Int32)), .val (.double y), .second, .val (.int (1 : Int32))] [(.int (2 : Int32)), (.int (1 : Int32)), (.int (1 : Int32))])) _
      refine XS.iadd X0.here hx rfl (hb hby d1_7) rfl ?_
      show Steps p.tables e below (s₁.setTop (mkF m 8 #[.val (.ref a), .val (.int (1 : Int32)), .val (.int (2 : Int32)), .val (.double y), .second, .val (.int (1 : Int32))] [(.int (3 : Int32)), (.int (1 : Int32))])) _
      refine XS.icmpNo X0.here hx rfl (hb hby d1_8) rfl (tlt (by decide : ((1 : Int32) < (3 : Int32)))).2.1 ?_
      show Steps p.tables e below (s₁.setTop (mkF m 11 #[.val (.ref a), .val (.int (1 : Int32)), .val (.int (2 : Int32)), .val (.double y), .second, .val (.int (1 : Int32))] [])) _
      refine XS.aloadN X0.here hx rfl (hb hby d1_11) rfl rfl ?_
      show Steps p.tables e below (s₁.setTop (mkF m 12 #[.val (.ref a), .val (.int (1 : Int32)), .val (.int (2 : Int32)), .val (.double y), .second, .val (.int (1 : Int32))] [(.ref a)])) _
      refine XS.iload X0.here hx rfl (hb hby d1_12) rfl ?_
      exact kz
    obtain ⟨cl82, Ar82, -, S82, M82, H82, -⟩ := id Av
    have hin82 : ¬ ((1 : Int32) < 0 ∨ cl82.slots.size ≤ ((1 : Int32)).toNatClampNeg) := inb_of S82 ⟨by decide, by decide⟩
    have hat82 : cl82.slots[((1 : Int32)).toNatClampNeg]? = some (.double x1) := H82.at hin82 rfl
    refine own_go (A := s₁.setTop (mkF m 15 #[.val (.ref a), .val (.int (1 : Int32)), .val (.int (2 : Int32)), .val (.double y), .second, .val (.int (1 : Int32))] [(.double x1)])) (fun _ kz => ?_) ?_
    · refine X0.daload hx (j := (1 : Int32)) (v := (.double x1)) (by rw [e0]; exact Ar82.1) (State.isArrayOf_alike hZ.alike Ar82.2.1) Ar82.2.2 hin82 hat82 (g := (mkF m 14 #[.val (.ref a), .val (.int (1 : Int32)), .val (.int (2 : Int32)), .val (.double y), .second, .val (.int (1 : Int32))] [(.int (1 : Int32)), (.ref a)])) rfl rfl (hb hby d1_14) _ ?_
      exact kz
    refine own_go (A := s₁.setTop (mkF m 17 #[.val (.ref a), .val (.int (1 : Int32)), .val (.int (2 : Int32)), .val (.double y), .second, .val (.int (1 : Int32))] [(.int (cmpValue (FP.dcmp x1 y) .g))])) (fun _ kz => ?_) ?_
    · show Steps p.tables e below (s₁.setTop (mkF m 15 #[.val (.ref a), .val (.int (1 : Int32)), .val (.int (2 : Int32)), .val (.double y), .second, .val (.int (1 : Int32))] [(.double x1)])) _
      refine XS.dloadN X0.here hx rfl (hb hby d1_15) rfl ?_
      show Steps p.tables e below (s₁.setTop (mkF m 16 #[.val (.ref a), .val (.int (1 : Int32)), .val (.int (2 : Int32)), .val (.double y), .second, .val (.int (1 : Int32))] [(.double y), (.double x1)])) _
      refine XS.dcmpS X0.here hx rfl (hb hby d1_16) rfl rfl ?_
      exact kz
    by_cases hs83 : (cmpValue (FP.dcmp x1 y) .g) < (0 : Int32)
    · skip
      refine own_go (A := s₁.setTop (mkF m 20 #[.val (.ref a), .val (.int (1 : Int32)), .val (.int (2 : Int32)), .val (.double y), .second, .val (.int (1 : Int32))] [])) (fun _ kz => ?_) ?_
      · show Steps p.tables e below (s₁.setTop (mkF m 17 #[.val (.ref a), .val (.int (1 : Int32)), .val (.int (2 : Int32)), .val (.double y), .second, .val (.int (1 : Int32))] [(.int (cmpValue (FP.dcmp x1 y) .g))])) _
        refine XS.ifNo X0.here hx rfl (hb hby d1_17) rfl ((if0 _ _).trans (tlt hs83).2.1) ?_
        exact kz
      refine own_go (A := s₁.setTop (mkF m 24 #[.val (.ref a), .val (.int (1 : Int32)), .val (.int (2 : Int32)), .val (.double y), .second, .val (.int (1 : Int32))] [(.double FP.dconst0), (.int (1 : Int32)), (.ref a)])) (fun _ kz => ?_) ?_
      · show Steps p.tables e below (s₁.setTop (mkF m 20 #[.val (.ref a), .val (.int (1 : Int32)), .val (.int (2 : Int32)), .val (.double y), .second, .val (.int (1 : Int32))] [])) _
        refine XS.aloadN X0.here hx rfl (hb hby d1_20) rfl rfl ?_
        show Steps p.tables e below (s₁.setTop (mkF m 21 #[.val (.ref a), .val (.int (1 : Int32)), .val (.int (2 : Int32)), .val (.double y), .second, .val (.int (1 : Int32))] [(.ref a)])) _
        refine XS.iload X0.here hx rfl (hb hby d1_21) rfl ?_
        show Steps p.tables e below (s₁.setTop (mkF m 23 #[.val (.ref a), .val (.int (1 : Int32)), .val (.int (2 : Int32)), .val (.double y), .second, .val (.int (1 : Int32))] [(.int (1 : Int32)), (.ref a)])) _
        refine XS.dconst0 X0.here hx rfl (hb hby d1_23) rfl ?_
        exact kz
      obtain ⟨cl84, Ar84, q84, S84, M84, H84, G84⟩ := id Av
      have hin84 : ¬ ((1 : Int32) < 0 ∨ cl84.slots.size ≤ ((1 : Int32)).toNatClampNeg) := inb_of S84 ⟨by decide, by decide⟩
      obtain ⟨T84, h84, X84, e84, W84, st84⟩ := stD X0 hx hZ e0 Ar84 (j := (1 : Int32)) hin84 (g := (mkF m 24 #[.val (.ref a), .val (.int (1 : Int32)), .val (.int (2 : Int32)), .val (.double y), .second, .val (.int (1 : Int32))] [(.double FP.dconst0), (.int (1 : Int32)), (.ref a)])) rfl rfl (hb hby d1_24)
      have Aw84 := Arv.set Ar84 q84 S84 M84 H84 G84 rfl W84 1 rfl (Nat.le_of_ble_eq_true rfl)
      have Z84 : n0 ≤ h84.size := Nat.le_trans Z0 (Keep.of_wr W84).1
      have Kp84 : Keep h0 h84 [a] := Kp0.wr W84 (Or.inl (List.mem_of_getElem? (i := 0) rfl))
      have Av_a : Arv Z h84 a kc .double (4 : Int32) [(.double x0), (.double FP.dconst0), (.double x2), (.double x3)] (.double (0 : UInt64)) := Aw84
      have N84 := Fr.snoc X84 N0 g_a
      refine own_go (A := T84.setTop (mkF m 25 #[.val (.ref a), .val (.int (1 : Int32)), .val (.int (2 : Int32)), .val (.double y), .second, .val (.int (1 : Int32))] [])) (fun _ kz => st84 _ kz) ?_
      refine own_go (A := T84.setTop (mkF m 14 #[.val (.ref a), .val (.int (1 : Int32)), .val (.int (2 : Int32)), .val (.double y), .second, .val (.int (2 : Int32))] [(.int (2 : Int32)), (.ref a)])) (fun _ kz => ?_) ?_
      · show Steps p.tables e below (T84.setTop (mkF m 25 #[.val (.ref a), .val (.int (1 : Int32)), .val (.int (2 : Int32)), .val (.double y), .second, .val (.int (1 : Int32))] [])) _
        refine XS.iinc X84.here hx rfl (hb hby d1_25) rfl (l' := #[.val (.ref a), .val (.int (1 : Int32)), .val (.int (2 : Int32)), .val (.double y), .second, .val (.int (2 : Int32))]) rfl ?_
        show Steps p.tables e below (T84.setTop (mkF m 28 #[.val (.ref a), .val (.int (1 : Int32)), .val (.int (2 : Int32)), .val (.double y), .second, .val (.int (2 : Int32))] [])) _
        refine XS.goto X84.here hx rfl (pc0 := 28) (pc' := 3) rfl (hb hby d1_28) (by decide) (by decide) ?_
        show Steps p.tables e below (T84.setTop (mkF m 3 #[.val (.ref a), .val (.int (1 : Int32)), .val (.int (2 : Int32)), .val (.double y), .second, .val (.int (2 : Int32))] [])) _
        refine XS.iload X84.here hx rfl (hb hby d1_3) rfl ?_
        show Steps p.tables e below (T84.setTop (mkF m 5 #[.val (.ref a), .val (.int (1 : Int32)), .val (.int (2 : Int32)), .val (.double y), .second, .val (.int (2 : Int32))] [(.int (2 : Int32))])) _
        refine XS.iloadN X84.here hx rfl (hb hby d1_5) rfl ?_
        show Steps p.tables e below (T84.setTop (mkF m 6 #[.val (.ref a), .val (.int (1 : Int32)), .val (.int (2 : Int32)), .val (.double y), .second, .val (.int (2 : Int32))] [(.int (1 : Int32)), (.int (2 : Int32))])) _
        refine XS.iloadN X84.here hx rfl (hb hby d1_6) rfl ?_
        show Steps p.tables e below (T84.setTop (mkF m 7 #[.val (.ref a), .val (.int (1 : Int32)), .val (.int (2 : Int32)), .val (.double y), .second, .val (.int (2 : Int32))] [(.int (2 : Int32)), (.int (1 : Int32)), (.int (2 : Int32))])) _
        refine XS.iadd X84.here hx rfl (hb hby d1_7) rfl ?_
        show Steps p.tables e below (T84.setTop (mkF m 8 #[.val (.ref a), .val (.int (1 : Int32)), .val (.int (2 : Int32)), .val (.double y), .second, .val (.int (2 : Int32))] [(.int (3 : Int32)), (.int (2 : Int32))])) _
        refine XS.icmpNo X84.here hx rfl (hb hby d1_8) rfl (tlt (by decide : ((2 : Int32) < (3 : Int32)))).2.1 ?_
        show Steps p.tables e below (T84.setTop (mkF m 11 #[.val (.ref a), .val (.int (1 : Int32)), .val (.int (2 : Int32)), .val (.double y), .second, .val (.int (2 : Int32))] [])) _
        refine XS.aloadN X84.here hx rfl (hb hby d1_11) rfl rfl ?_
        show Steps p.tables e below (T84.setTop (mkF m 12 #[.val (.ref a), .val (.int (1 : Int32)), .val (.int (2 : Int32)), .val (.double y), .second, .val (.int (2 : Int32))] [(.ref a)])) _
        refine XS.iload X84.here hx rfl (hb hby d1_12) rfl ?_
        exact kz
      obtain ⟨cl85, Ar85, -, S85, M85, H85, -⟩ := id Av_a
      have hin85 : ¬ ((2 : Int32) < 0 ∨ cl85.slots.size ≤ ((2 : Int32)).toNatClampNeg) := inb_of S85 ⟨by decide, by decide⟩
      have hat85 : cl85.slots[((2 : Int32)).toNatClampNeg]? = some (.double x2) := H85.at hin85 rfl
      refine own_go (A := T84.setTop (mkF m 15 #[.val (.ref a), .val (.int (1 : Int32)), .val (.int (2 : Int32)), .val (.double y), .second, .val (.int (2 : Int32))] [(.double x2)])) (fun _ kz => ?_) ?_
      · refine X84.daload hx (j := (2 : Int32)) (v := (.double x2)) (by rw [e84]; exact Ar85.1) (State.isArrayOf_alike hZ.alike Ar85.2.1) Ar85.2.2 hin85 hat85 (g := (mkF m 14 #[.val (.ref a), .val (.int (1 : Int32)), .val (.int (2 : Int32)), .val (.double y), .second, .val (.int (2 : Int32))] [(.int (2 : Int32)), (.ref a)])) rfl rfl (hb hby d1_14) _ ?_
        exact kz
      refine own_go (A := T84.setTop (mkF m 17 #[.val (.ref a), .val (.int (1 : Int32)), .val (.int (2 : Int32)), .val (.double y), .second, .val (.int (2 : Int32))] [(.int (cmpValue (FP.dcmp x2 y) .g))])) (fun _ kz => ?_) ?_
      · show Steps p.tables e below (T84.setTop (mkF m 15 #[.val (.ref a), .val (.int (1 : Int32)), .val (.int (2 : Int32)), .val (.double y), .second, .val (.int (2 : Int32))] [(.double x2)])) _
        refine XS.dloadN X84.here hx rfl (hb hby d1_15) rfl ?_
        show Steps p.tables e below (T84.setTop (mkF m 16 #[.val (.ref a), .val (.int (1 : Int32)), .val (.int (2 : Int32)), .val (.double y), .second, .val (.int (2 : Int32))] [(.double y), (.double x2)])) _
        refine XS.dcmpS X84.here hx rfl (hb hby d1_16) rfl rfl ?_
        exact kz
      by_cases hs86 : (cmpValue (FP.dcmp x2 y) .g) < (0 : Int32)
      · skip
        refine own_go (A := T84.setTop (mkF m 20 #[.val (.ref a), .val (.int (1 : Int32)), .val (.int (2 : Int32)), .val (.double y), .second, .val (.int (2 : Int32))] [])) (fun _ kz => ?_) ?_
        · show Steps p.tables e below (T84.setTop (mkF m 17 #[.val (.ref a), .val (.int (1 : Int32)), .val (.int (2 : Int32)), .val (.double y), .second, .val (.int (2 : Int32))] [(.int (cmpValue (FP.dcmp x2 y) .g))])) _
          refine XS.ifNo X84.here hx rfl (hb hby d1_17) rfl ((if0 _ _).trans (tlt hs86).2.1) ?_
          exact kz
        refine own_go (A := T84.setTop (mkF m 24 #[.val (.ref a), .val (.int (1 : Int32)), .val (.int (2 : Int32)), .val (.double y), .second, .val (.int (2 : Int32))] [(.double FP.dconst0), (.int (2 : Int32)), (.ref a)])) (fun _ kz => ?_) ?_
        · show Steps p.tables e below (T84.setTop (mkF m 20 #[.val (.ref a), .val (.int (1 : Int32)), .val (.int (2 : Int32)), .val (.double y), .second, .val (.int (2 : Int32))] [])) _
          refine XS.aloadN X84.here hx rfl (hb hby d1_20) rfl rfl ?_
          show Steps p.tables e below (T84.setTop (mkF m 21 #[.val (.ref a), .val (.int (1 : Int32)), .val (.int (2 : Int32)), .val (.double y), .second, .val (.int (2 : Int32))] [(.ref a)])) _
          refine XS.iload X84.here hx rfl (hb hby d1_21) rfl ?_
          show Steps p.tables e below (T84.setTop (mkF m 23 #[.val (.ref a), .val (.int (1 : Int32)), .val (.int (2 : Int32)), .val (.double y), .second, .val (.int (2 : Int32))] [(.int (2 : Int32)), (.ref a)])) _
          refine XS.dconst0 X84.here hx rfl (hb hby d1_23) rfl ?_
          exact kz
        obtain ⟨cl87, Ar87, q87, S87, M87, H87, G87⟩ := id Av_a
        have hin87 : ¬ ((2 : Int32) < 0 ∨ cl87.slots.size ≤ ((2 : Int32)).toNatClampNeg) := inb_of S87 ⟨by decide, by decide⟩
        obtain ⟨T87, h87, X87, e87, W87, st87⟩ := stD X84 hx hZ e84 Ar87 (j := (2 : Int32)) hin87 (g := (mkF m 24 #[.val (.ref a), .val (.int (1 : Int32)), .val (.int (2 : Int32)), .val (.double y), .second, .val (.int (2 : Int32))] [(.double FP.dconst0), (.int (2 : Int32)), (.ref a)])) rfl rfl (hb hby d1_24)
        have Aw87 := Arv.set Ar87 q87 S87 M87 H87 G87 rfl W87 2 rfl (Nat.le_of_ble_eq_true rfl)
        have Z87 : n0 ≤ h87.size := Nat.le_trans Z84 (Keep.of_wr W87).1
        have Kp87 : Keep h0 h87 [a] := Kp84.wr W87 (Or.inl (List.mem_of_getElem? (i := 0) rfl))
        have Av_a : Arv Z h87 a kc .double (4 : Int32) [(.double x0), (.double FP.dconst0), (.double FP.dconst0), (.double x3)] (.double (0 : UInt64)) := Aw87
        have N87 := Fr.snoc X87 N84 g_a
        refine own_go (A := T87.setTop (mkF m 25 #[.val (.ref a), .val (.int (1 : Int32)), .val (.int (2 : Int32)), .val (.double y), .second, .val (.int (2 : Int32))] [])) (fun _ kz => st87 _ kz) ?_
        refine own_go (A := T87.setTop (mkF m 31 #[.val (.ref a), .val (.int (1 : Int32)), .val (.int (2 : Int32)), .val (.double y), .second, .val (.int (3 : Int32))] [])) (fun _ kz => ?_) ?_
        · show Steps p.tables e below (T87.setTop (mkF m 25 #[.val (.ref a), .val (.int (1 : Int32)), .val (.int (2 : Int32)), .val (.double y), .second, .val (.int (2 : Int32))] [])) _
          refine XS.iinc X87.here hx rfl (hb hby d1_25) rfl (l' := #[.val (.ref a), .val (.int (1 : Int32)), .val (.int (2 : Int32)), .val (.double y), .second, .val (.int (3 : Int32))]) rfl ?_
          show Steps p.tables e below (T87.setTop (mkF m 28 #[.val (.ref a), .val (.int (1 : Int32)), .val (.int (2 : Int32)), .val (.double y), .second, .val (.int (3 : Int32))] [])) _
          refine XS.goto X87.here hx rfl (pc0 := 28) (pc' := 3) rfl (hb hby d1_28) (by decide) (by decide) ?_
          show Steps p.tables e below (T87.setTop (mkF m 3 #[.val (.ref a), .val (.int (1 : Int32)), .val (.int (2 : Int32)), .val (.double y), .second, .val (.int (3 : Int32))] [])) _
          refine XS.iload X87.here hx rfl (hb hby d1_3) rfl ?_
          show Steps p.tables e below (T87.setTop (mkF m 5 #[.val (.ref a), .val (.int (1 : Int32)), .val (.int (2 : Int32)), .val (.double y), .second, .val (.int (3 : Int32))] [(.int (3 : Int32))])) _
          refine XS.iloadN X87.here hx rfl (hb hby d1_5) rfl ?_
          show Steps p.tables e below (T87.setTop (mkF m 6 #[.val (.ref a), .val (.int (1 : Int32)), .val (.int (2 : Int32)), .val (.double y), .second, .val (.int (3 : Int32))] [(.int (1 : Int32)), (.int (3 : Int32))])) _
          refine XS.iloadN X87.here hx rfl (hb hby d1_6) rfl ?_
          show Steps p.tables e below (T87.setTop (mkF m 7 #[.val (.ref a), .val (.int (1 : Int32)), .val (.int (2 : Int32)), .val (.double y), .second, .val (.int (3 : Int32))] [(.int (2 : Int32)), (.int (1 : Int32)), (.int (3 : Int32))])) _
          refine XS.iadd X87.here hx rfl (hb hby d1_7) rfl ?_
          show Steps p.tables e below (T87.setTop (mkF m 8 #[.val (.ref a), .val (.int (1 : Int32)), .val (.int (2 : Int32)), .val (.double y), .second, .val (.int (3 : Int32))] [(.int (3 : Int32)), (.int (3 : Int32))])) _
          refine XS.icmpYes X87.here hx rfl (pc0 := 8) (pc' := 31) rfl (hb hby d1_8) rfl (flt (by decide : ¬ ((3 : Int32) < (3 : Int32)))).2.1 (by decide) (by decide) ?_
          exact kz
        obtain ⟨fs, hrr, hrun, hended, hW, hsame⟩ := X87.leave (v := none) (fun _ => rfl)
        refine ⟨_, _, ?_, hrun, hended, _, _, rfl, ?_, ⟨_, rfl⟩, hW, hsame.mono (by decide) (by decide)⟩
        · show Steps p.tables e below (T87.setTop (mkF m 31 #[.val (.ref a), .val (.int (1 : Int32)), .val (.int (2 : Int32)), .val (.double y), .second, .val (.int (3 : Int32))] [])) _
          exact X87.returnOut hx Bd.returns (hb hby d1_31) hrr
        · show QrmFl Z a (1 : Int32) (2 : Int32) y kc x0 x1 x2 x3 h0 n0 _ T87.heap _
          rw [e87]
          exact ⟨rfl, N87, Kp87, by simpa [own_exp, hs83, hs86] using Av_a⟩
      · skip
        refine own_go (A := T84.setTop (mkF m 25 #[.val (.ref a), .val (.int (1 : Int32)), .val (.int (2 : Int32)), .val (.double y), .second, .val (.int (2 : Int32))] [])) (fun _ kz => ?_) ?_
        · show Steps p.tables e below (T84.setTop (mkF m 17 #[.val (.ref a), .val (.int (1 : Int32)), .val (.int (2 : Int32)), .val (.double y), .second, .val (.int (2 : Int32))] [(.int (cmpValue (FP.dcmp x2 y) .g))])) _
          refine XS.ifYes X84.here hx rfl (pc0 := 17) (pc' := 25) rfl (hb hby d1_17) rfl ((if0 _ _).trans (flt hs86).2.1) (by decide) (by decide) ?_
          exact kz
        refine own_go (A := T84.setTop (mkF m 31 #[.val (.ref a), .val (.int (1 : Int32)), .val (.int (2 : Int32)), .val (.double y), .second, .val (.int (3 : Int32))] [])) (fun _ kz => ?_) ?_
        · show Steps p.tables e below (T84.setTop (mkF m 25 #[.val (.ref a), .val (.int (1 : Int32)), .val (.int (2 : Int32)), .val (.double y), .second, .val (.int (2 : Int32))] [])) _
          refine XS.iinc X84.here hx rfl (hb hby d1_25) rfl (l' := #[.val (.ref a), .val (.int (1 : Int32)), .val (.int (2 : Int32)), .val (.double y), .second, .val (.int (3 : Int32))]) rfl ?_
          show Steps p.tables e below (T84.setTop (mkF m 28 #[.val (.ref a), .val (.int (1 : Int32)), .val (.int (2 : Int32)), .val (.double y), .second, .val (.int (3 : Int32))] [])) _
          refine XS.goto X84.here hx rfl (pc0 := 28) (pc' := 3) rfl (hb hby d1_28) (by decide) (by decide) ?_
          show Steps p.tables e below (T84.setTop (mkF m 3 #[.val (.ref a), .val (.int (1 : Int32)), .val (.int (2 : Int32)), .val (.double y), .second, .val (.int (3 : Int32))] [])) _
          refine XS.iload X84.here hx rfl (hb hby d1_3) rfl ?_
          show Steps p.tables e below (T84.setTop (mkF m 5 #[.val (.ref a), .val (.int (1 : Int32)), .val (.int (2 : Int32)), .val (.double y), .second, .val (.int (3 : Int32))] [(.int (3 : Int32))])) _
          refine XS.iloadN X84.here hx rfl (hb hby d1_5) rfl ?_
          show Steps p.tables e below (T84.setTop (mkF m 6 #[.val (.ref a), .val (.int (1 : Int32)), .val (.int (2 : Int32)), .val (.double y), .second, .val (.int (3 : Int32))] [(.int (1 : Int32)), (.int (3 : Int32))])) _
          refine XS.iloadN X84.here hx rfl (hb hby d1_6) rfl ?_
          show Steps p.tables e below (T84.setTop (mkF m 7 #[.val (.ref a), .val (.int (1 : Int32)), .val (.int (2 : Int32)), .val (.double y), .second, .val (.int (3 : Int32))] [(.int (2 : Int32)), (.int (1 : Int32)), (.int (3 : Int32))])) _
          refine XS.iadd X84.here hx rfl (hb hby d1_7) rfl ?_
          show Steps p.tables e below (T84.setTop (mkF m 8 #[.val (.ref a), .val (.int (1 : Int32)), .val (.int (2 : Int32)), .val (.double y), .second, .val (.int (3 : Int32))] [(.int (3 : Int32)), (.int (3 : Int32))])) _
          refine XS.icmpYes X84.here hx rfl (pc0 := 8) (pc' := 31) rfl (hb hby d1_8) rfl (flt (by decide : ¬ ((3 : Int32) < (3 : Int32)))).2.1 (by decide) (by decide) ?_
          exact kz
        obtain ⟨fs, hrr, hrun, hended, hW, hsame⟩ := X84.leave (v := none) (fun _ => rfl)
        refine ⟨_, _, ?_, hrun, hended, _, _, rfl, ?_, ⟨_, rfl⟩, hW, hsame.mono (by decide) (by decide)⟩
        · show Steps p.tables e below (T84.setTop (mkF m 31 #[.val (.ref a), .val (.int (1 : Int32)), .val (.int (2 : Int32)), .val (.double y), .second, .val (.int (3 : Int32))] [])) _
          exact X84.returnOut hx Bd.returns (hb hby d1_31) hrr
        · show QrmFl Z a (1 : Int32) (2 : Int32) y kc x0 x1 x2 x3 h0 n0 _ T84.heap _
          rw [e84]
          exact ⟨rfl, N84, Kp84, by simpa [own_exp, hs83, hs86] using Av_a⟩
    · skip
      refine own_go (A := s₁.setTop (mkF m 25 #[.val (.ref a), .val (.int (1 : Int32)), .val (.int (2 : Int32)), .val (.double y), .second, .val (.int (1 : Int32))] [])) (fun _ kz => ?_) ?_
      · show Steps p.tables e below (s₁.setTop (mkF m 17 #[.val (.ref a), .val (.int (1 : Int32)), .val (.int (2 : Int32)), .val (.double y), .second, .val (.int (1 : Int32))] [(.int (cmpValue (FP.dcmp x1 y) .g))])) _
        refine XS.ifYes X0.here hx rfl (pc0 := 17) (pc' := 25) rfl (hb hby d1_17) rfl ((if0 _ _).trans (flt hs83).2.1) (by decide) (by decide) ?_
        exact kz
      refine own_go (A := s₁.setTop (mkF m 14 #[.val (.ref a), .val (.int (1 : Int32)), .val (.int (2 : Int32)), .val (.double y), .second, .val (.int (2 : Int32))] [(.int (2 : Int32)), (.ref a)])) (fun _ kz => ?_) ?_
      · show Steps p.tables e below (s₁.setTop (mkF m 25 #[.val (.ref a), .val (.int (1 : Int32)), .val (.int (2 : Int32)), .val (.double y), .second, .val (.int (1 : Int32))] [])) _
        refine XS.iinc X0.here hx rfl (hb hby d1_25) rfl (l' := #[.val (.ref a), .val (.int (1 : Int32)), .val (.int (2 : Int32)), .val (.double y), .second, .val (.int (2 : Int32))]) rfl ?_
        show Steps p.tables e below (s₁.setTop (mkF m 28 #[.val (.ref a), .val (.int (1 : Int32)), .val (.int (2 : Int32)), .val (.double y), .second, .val (.int (2 : Int32))] [])) _
        refine XS.goto X0.here hx rfl (pc0 := 28) (pc' := 3) rfl (hb hby d1_28) (by decide) (by decide) ?_
        show Steps p.tables e below (s₁.setTop (mkF m 3 #[.val (.ref a), .val (.int (1 : Int32)), .val (.int (2 : Int32)), .val (.double y), .second, .val (.int (2 : Int32))] [])) _
        refine XS.iload X0.here hx rfl (hb hby d1_3) rfl ?_
        show Steps p.tables e below (s₁.setTop (mkF m 5 #[.val (.ref a), .val (.int (1 : Int32)), .val (.int (2 : Int32)), .val (.double y), .second, .val (.int (2 : Int32))] [(.int (2 : Int32))])) _
        refine XS.iloadN X0.here hx rfl (hb hby d1_5) rfl ?_
        show Steps p.tables e below (s₁.setTop (mkF m 6 #[.val (.ref a), .val (.int (1 : Int32)), .val (.int (2 : Int32)), .val (.double y), .second, .val (.int (2 : Int32))] [(.int (1 : Int32)), (.int (2 : Int32))])) _
        refine XS.iloadN X0.here hx rfl (hb hby d1_6) rfl ?_
        show Steps p.tables e below (s₁.setTop (mkF m 7 #[.val (.ref a), .val (.int (1 : Int32)), .val (.int (2 : Int32)), .val (.double y), .second, .val (.int (2 : Int32))] [(.int (2 : Int32)), (.int (1 : Int32)), (.int (2 : Int32))])) _
        refine XS.iadd X0.here hx rfl (hb hby d1_7) rfl ?_
        show Steps p.tables e below (s₁.setTop (mkF m 8 #[.val (.ref a), .val (.int (1 : Int32)), .val (.int (2 : Int32)), .val (.double y), .second, .val (.int (2 : Int32))] [(.int (3 : Int32)), (.int (2 : Int32))])) _
        refine XS.icmpNo X0.here hx rfl (hb hby d1_8) rfl (tlt (by decide : ((2 : Int32) < (3 : Int32)))).2.1 ?_
        show Steps p.tables e below (s₁.setTop (mkF m 11 #[.val (.ref a), .val (.int (1 : Int32)), .val (.int (2 : Int32)), .val (.double y), .second, .val (.int (2 : Int32))] [])) _
        refine XS.aloadN X0.here hx rfl (hb hby d1_11) rfl rfl ?_
        show Steps p.tables e below (s₁.setTop (mkF m 12 #[.val (.ref a), .val (.int (1 : Int32)), .val (.int (2 : Int32)), .val (.double y), .second, .val (.int (2 : Int32))] [(.ref a)])) _
        refine XS.iload X0.here hx rfl (hb hby d1_12) rfl ?_
        exact kz
      obtain ⟨cl88, Ar88, -, S88, M88, H88, -⟩ := id Av
      have hin88 : ¬ ((2 : Int32) < 0 ∨ cl88.slots.size ≤ ((2 : Int32)).toNatClampNeg) := inb_of S88 ⟨by decide, by decide⟩
      have hat88 : cl88.slots[((2 : Int32)).toNatClampNeg]? = some (.double x2) := H88.at hin88 rfl
      refine own_go (A := s₁.setTop (mkF m 15 #[.val (.ref a), .val (.int (1 : Int32)), .val (.int (2 : Int32)), .val (.double y), .second, .val (.int (2 : Int32))] [(.double x2)])) (fun _ kz => ?_) ?_
      · refine X0.daload hx (j := (2 : Int32)) (v := (.double x2)) (by rw [e0]; exact Ar88.1) (State.isArrayOf_alike hZ.alike Ar88.2.1) Ar88.2.2 hin88 hat88 (g := (mkF m 14 #[.val (.ref a), .val (.int (1 : Int32)), .val (.int (2 : Int32)), .val (.double y), .second, .val (.int (2 : Int32))] [(.int (2 : Int32)), (.ref a)])) rfl rfl (hb hby d1_14) _ ?_
        exact kz
      refine own_go (A := s₁.setTop (mkF m 17 #[.val (.ref a), .val (.int (1 : Int32)), .val (.int (2 : Int32)), .val (.double y), .second, .val (.int (2 : Int32))] [(.int (cmpValue (FP.dcmp x2 y) .g))])) (fun _ kz => ?_) ?_
      · show Steps p.tables e below (s₁.setTop (mkF m 15 #[.val (.ref a), .val (.int (1 : Int32)), .val (.int (2 : Int32)), .val (.double y), .second, .val (.int (2 : Int32))] [(.double x2)])) _
        refine XS.dloadN X0.here hx rfl (hb hby d1_15) rfl ?_
        show Steps p.tables e below (s₁.setTop (mkF m 16 #[.val (.ref a), .val (.int (1 : Int32)), .val (.int (2 : Int32)), .val (.double y), .second, .val (.int (2 : Int32))] [(.double y), (.double x2)])) _
        refine XS.dcmpS X0.here hx rfl (hb hby d1_16) rfl rfl ?_
        exact kz
      by_cases hs89 : (cmpValue (FP.dcmp x2 y) .g) < (0 : Int32)
      · skip
        refine own_go (A := s₁.setTop (mkF m 20 #[.val (.ref a), .val (.int (1 : Int32)), .val (.int (2 : Int32)), .val (.double y), .second, .val (.int (2 : Int32))] [])) (fun _ kz => ?_) ?_
        · show Steps p.tables e below (s₁.setTop (mkF m 17 #[.val (.ref a), .val (.int (1 : Int32)), .val (.int (2 : Int32)), .val (.double y), .second, .val (.int (2 : Int32))] [(.int (cmpValue (FP.dcmp x2 y) .g))])) _
          refine XS.ifNo X0.here hx rfl (hb hby d1_17) rfl ((if0 _ _).trans (tlt hs89).2.1) ?_
          exact kz
        refine own_go (A := s₁.setTop (mkF m 24 #[.val (.ref a), .val (.int (1 : Int32)), .val (.int (2 : Int32)), .val (.double y), .second, .val (.int (2 : Int32))] [(.double FP.dconst0), (.int (2 : Int32)), (.ref a)])) (fun _ kz => ?_) ?_
        · show Steps p.tables e below (s₁.setTop (mkF m 20 #[.val (.ref a), .val (.int (1 : Int32)), .val (.int (2 : Int32)), .val (.double y), .second, .val (.int (2 : Int32))] [])) _
          refine XS.aloadN X0.here hx rfl (hb hby d1_20) rfl rfl ?_
          show Steps p.tables e below (s₁.setTop (mkF m 21 #[.val (.ref a), .val (.int (1 : Int32)), .val (.int (2 : Int32)), .val (.double y), .second, .val (.int (2 : Int32))] [(.ref a)])) _
          refine XS.iload X0.here hx rfl (hb hby d1_21) rfl ?_
          show Steps p.tables e below (s₁.setTop (mkF m 23 #[.val (.ref a), .val (.int (1 : Int32)), .val (.int (2 : Int32)), .val (.double y), .second, .val (.int (2 : Int32))] [(.int (2 : Int32)), (.ref a)])) _
          refine XS.dconst0 X0.here hx rfl (hb hby d1_23) rfl ?_
          exact kz
        obtain ⟨cl90, Ar90, q90, S90, M90, H90, G90⟩ := id Av
        have hin90 : ¬ ((2 : Int32) < 0 ∨ cl90.slots.size ≤ ((2 : Int32)).toNatClampNeg) := inb_of S90 ⟨by decide, by decide⟩
        obtain ⟨T90, h90, X90, e90, W90, st90⟩ := stD X0 hx hZ e0 Ar90 (j := (2 : Int32)) hin90 (g := (mkF m 24 #[.val (.ref a), .val (.int (1 : Int32)), .val (.int (2 : Int32)), .val (.double y), .second, .val (.int (2 : Int32))] [(.double FP.dconst0), (.int (2 : Int32)), (.ref a)])) rfl rfl (hb hby d1_24)
        have Aw90 := Arv.set Ar90 q90 S90 M90 H90 G90 rfl W90 2 rfl (Nat.le_of_ble_eq_true rfl)
        have Z90 : n0 ≤ h90.size := Nat.le_trans Z0 (Keep.of_wr W90).1
        have Kp90 : Keep h0 h90 [a] := Kp0.wr W90 (Or.inl (List.mem_of_getElem? (i := 0) rfl))
        have Av_a : Arv Z h90 a kc .double (4 : Int32) [(.double x0), (.double x1), (.double FP.dconst0), (.double x3)] (.double (0 : UInt64)) := Aw90
        have N90 := Fr.snoc X90 N0 g_a
        refine own_go (A := T90.setTop (mkF m 25 #[.val (.ref a), .val (.int (1 : Int32)), .val (.int (2 : Int32)), .val (.double y), .second, .val (.int (2 : Int32))] [])) (fun _ kz => st90 _ kz) ?_
        refine own_go (A := T90.setTop (mkF m 31 #[.val (.ref a), .val (.int (1 : Int32)), .val (.int (2 : Int32)), .val (.double y), .second, .val (.int (3 : Int32))] [])) (fun _ kz => ?_) ?_
        · show Steps p.tables e below (T90.setTop (mkF m 25 #[.val (.ref a), .val (.int (1 : Int32)), .val (.int (2 : Int32)), .val (.double y), .second, .val (.int (2 : Int32))] [])) _
          refine XS.iinc X90.here hx rfl (hb hby d1_25) rfl (l' := #[.val (.ref a), .val (.int (1 : Int32)), .val (.int (2 : Int32)), .val (.double y), .second, .val (.int (3 : Int32))]) rfl ?_
          show Steps p.tables e below (T90.setTop (mkF m 28 #[.val (.ref a), .val (.int (1 : Int32)), .val (.int (2 : Int32)), .val (.double y), .second, .val (.int (3 : Int32))] [])) _
          refine XS.goto X90.here hx rfl (pc0 := 28) (pc' := 3) rfl (hb hby d1_28) (by decide) (by decide) ?_
          show Steps p.tables e below (T90.setTop (mkF m 3 #[.val (.ref a), .val (.int (1 : Int32)), .val (.int (2 : Int32)), .val (.double y), .second, .val (.int (3 : Int32))] [])) _
          refine XS.iload X90.here hx rfl (hb hby d1_3) rfl ?_
          show Steps p.tables e below (T90.setTop (mkF m 5 #[.val (.ref a), .val (.int (1 : Int32)), .val (.int (2 : Int32)), .val (.double y), .second, .val (.int (3 : Int32))] [(.int (3 : Int32))])) _
          refine XS.iloadN X90.here hx rfl (hb hby d1_5) rfl ?_
          show Steps p.tables e below (T90.setTop (mkF m 6 #[.val (.ref a), .val (.int (1 : Int32)), .val (.int (2 : Int32)), .val (.double y), .second, .val (.int (3 : Int32))] [(.int (1 : Int32)), (.int (3 : Int32))])) _
          refine XS.iloadN X90.here hx rfl (hb hby d1_6) rfl ?_
          show Steps p.tables e below (T90.setTop (mkF m 7 #[.val (.ref a), .val (.int (1 : Int32)), .val (.int (2 : Int32)), .val (.double y), .second, .val (.int (3 : Int32))] [(.int (2 : Int32)), (.int (1 : Int32)), (.int (3 : Int32))])) _
          refine XS.iadd X90.here hx rfl (hb hby d1_7) rfl ?_
          show Steps p.tables e below (T90.setTop (mkF m 8 #[.val (.ref a), .val (.int (1 : Int32)), .val (.int (2 : Int32)), .val (.double y), .second, .val (.int (3 : Int32))] [(.int (3 : Int32)), (.int (3 : Int32))])) _
          refine XS.icmpYes X90.here hx rfl (pc0 := 8) (pc' := 31) rfl (hb hby d1_8) rfl (flt (by decide : ¬ ((3 : Int32) < (3 : Int32)))).2.1 (by decide) (by decide) ?_
          exact kz
        obtain ⟨fs, hrr, hrun, hended, hW, hsame⟩ := X90.leave (v := none) (fun _ => rfl)
        refine ⟨_, _, ?_, hrun, hended, _, _, rfl, ?_, ⟨_, rfl⟩, hW, hsame.mono (by decide) (by decide)⟩
        · show Steps p.tables e below (T90.setTop (mkF m 31 #[.val (.ref a), .val (.int (1 : Int32)), .val (.int (2 : Int32)), .val (.double y), .second, .val (.int (3 : Int32))] [])) _
          exact X90.returnOut hx Bd.returns (hb hby d1_31) hrr
        · show QrmFl Z a (1 : Int32) (2 : Int32) y kc x0 x1 x2 x3 h0 n0 _ T90.heap _
          rw [e90]
          exact ⟨rfl, N90, Kp90, by simpa [own_exp, hs83, hs89] using Av_a⟩
      · skip
        refine own_go (A := s₁.setTop (mkF m 25 #[.val (.ref a), .val (.int (1 : Int32)), .val (.int (2 : Int32)), .val (.double y), .second, .val (.int (2 : Int32))] [])) (fun _ kz => ?_) ?_
        · show Steps p.tables e below (s₁.setTop (mkF m 17 #[.val (.ref a), .val (.int (1 : Int32)), .val (.int (2 : Int32)), .val (.double y), .second, .val (.int (2 : Int32))] [(.int (cmpValue (FP.dcmp x2 y) .g))])) _
          refine XS.ifYes X0.here hx rfl (pc0 := 17) (pc' := 25) rfl (hb hby d1_17) rfl ((if0 _ _).trans (flt hs89).2.1) (by decide) (by decide) ?_
          exact kz
        refine own_go (A := s₁.setTop (mkF m 31 #[.val (.ref a), .val (.int (1 : Int32)), .val (.int (2 : Int32)), .val (.double y), .second, .val (.int (3 : Int32))] [])) (fun _ kz => ?_) ?_
        · show Steps p.tables e below (s₁.setTop (mkF m 25 #[.val (.ref a), .val (.int (1 : Int32)), .val (.int (2 : Int32)), .val (.double y), .second, .val (.int (2 : Int32))] [])) _
          refine XS.iinc X0.here hx rfl (hb hby d1_25) rfl (l' := #[.val (.ref a), .val (.int (1 : Int32)), .val (.int (2 : Int32)), .val (.double y), .second, .val (.int (3 : Int32))]) rfl ?_
          show Steps p.tables e below (s₁.setTop (mkF m 28 #[.val (.ref a), .val (.int (1 : Int32)), .val (.int (2 : Int32)), .val (.double y), .second, .val (.int (3 : Int32))] [])) _
          refine XS.goto X0.here hx rfl (pc0 := 28) (pc' := 3) rfl (hb hby d1_28) (by decide) (by decide) ?_
          show Steps p.tables e below (s₁.setTop (mkF m 3 #[.val (.ref a), .val (.int (1 : Int32)), .val (.int (2 : Int32)), .val (.double y), .second, .val (.int (3 : Int32))] [])) _
          refine XS.iload X0.here hx rfl (hb hby d1_3) rfl ?_
          show Steps p.tables e below (s₁.setTop (mkF m 5 #[.val (.ref a), .val (.int (1 : Int32)), .val (.int (2 : Int32)), .val (.double y), .second, .val (.int (3 : Int32))] [(.int (3 : Int32))])) _
          refine XS.iloadN X0.here hx rfl (hb hby d1_5) rfl ?_
          show Steps p.tables e below (s₁.setTop (mkF m 6 #[.val (.ref a), .val (.int (1 : Int32)), .val (.int (2 : Int32)), .val (.double y), .second, .val (.int (3 : Int32))] [(.int (1 : Int32)), (.int (3 : Int32))])) _
          refine XS.iloadN X0.here hx rfl (hb hby d1_6) rfl ?_
          show Steps p.tables e below (s₁.setTop (mkF m 7 #[.val (.ref a), .val (.int (1 : Int32)), .val (.int (2 : Int32)), .val (.double y), .second, .val (.int (3 : Int32))] [(.int (2 : Int32)), (.int (1 : Int32)), (.int (3 : Int32))])) _
          refine XS.iadd X0.here hx rfl (hb hby d1_7) rfl ?_
          show Steps p.tables e below (s₁.setTop (mkF m 8 #[.val (.ref a), .val (.int (1 : Int32)), .val (.int (2 : Int32)), .val (.double y), .second, .val (.int (3 : Int32))] [(.int (3 : Int32)), (.int (3 : Int32))])) _
          refine XS.icmpYes X0.here hx rfl (pc0 := 8) (pc' := 31) rfl (hb hby d1_8) rfl (flt (by decide : ¬ ((3 : Int32) < (3 : Int32)))).2.1 (by decide) (by decide) ?_
          exact kz
        obtain ⟨fs, hrr, hrun, hended, hW, hsame⟩ := X0.leave (v := none) (fun _ => rfl)
        refine ⟨_, _, ?_, hrun, hended, _, _, rfl, ?_, ⟨_, rfl⟩, hW, hsame.mono (by decide) (by decide)⟩
        · show Steps p.tables e below (s₁.setTop (mkF m 31 #[.val (.ref a), .val (.int (1 : Int32)), .val (.int (2 : Int32)), .val (.double y), .second, .val (.int (3 : Int32))] [])) _
          exact X0.returnOut hx Bd.returns (hb hby d1_31) hrr
        · show QrmFl Z a (1 : Int32) (2 : Int32) y kc x0 x1 x2 x3 h0 n0 _ s₁.heap _
          rw [e0]
          exact ⟨rfl, N0, Kp0, by simpa [own_exp, hs83, hs89] using Av⟩
  · skip
    refine own_go (A := s₁.setTop (mkF m 14 #[.val (.ref a), .val (.int (1 : Int32)), .val (.int (3 : Int32)), .val (.double y), .second, .val (.int (1 : Int32))] [(.int (1 : Int32)), (.ref a)])) (fun _ kz => ?_) ?_
    · show Steps p.tables e below (s₁.setTop (mkF m 0 #[.val (.ref a), .val (.int (1 : Int32)), .val (.int (3 : Int32)), .val (.double y), .second, .unset] [])) _
      refine XS.iloadN X0.here hx rfl (hb hby d1_0) rfl ?_
      show Steps p.tables e below (s₁.setTop (mkF m 1 #[.val (.ref a), .val (.int (1 : Int32)), .val (.int (3 : Int32)), .val (.double y), .second, .unset] [(.int (1 : Int32))])) _
      refine XS.istore X0.here hx rfl (hb hby d1_1) rfl (l' := #[.val (.ref a), .val (.int (1 : Int32)), .val (.int (3 : Int32)), .val (.double y), .second, .val (.int (1 : Int32))]) rfl ?_
      show Steps p.tables e below (s₁.setTop (mkF m 3 #[.val (.ref a), .val (.int (1 : Int32)), .val (.int (3 : Int32)), .val (.double y), .second, .val (.int (1 : Int32))] [])) _
      refine XS.iload X0.here hx rfl (hb hby d1_3) rfl ?_
      show Steps p.tables e below (s₁.setTop (mkF m 5 #[.val (.ref a), .val (.int (1 : Int32)), .val (.int (3 : Int32)), .val (.double y), .second, .val (.int (1 : Int32))] [(.int (1 : Int32))])) _
      refine XS.iloadN X0.here hx rfl (hb hby d1_5) rfl ?_
      show Steps p.tables e below (s₁.setTop (mkF m 6 #[.val (.ref a), .val (.int (1 : Int32)), .val (.int (3 : Int32)), .val (.double y), .second, .val (.int (1 : Int32))] [(.int (1 : Int32)), (.int (1 : Int32))])) _
      refine XS.iloadN X0.here hx rfl (hb hby d1_6) rfl ?_
      show Steps p.tables e below (s₁.setTop (mkF m 7 #[.val (.ref a), .val (.int (1 : Int32)), .val (.int (3 : Int32)), .val (.double y), .second, .val (.int (1 : Int32))] [(.int (3 : Int32)), (.int (1 : Int32)), (.int (1 : Int32))])) _
      refine XS.iadd X0.here hx rfl (hb hby d1_7) rfl ?_
      show Steps p.tables e below (s₁.setTop (mkF m 8 #[.val (.ref a), .val (.int (1 : Int32)), .val (.int (3 : Int32)), .val (.double y), .second, .val (.int (1 : Int32))] [(.int (4 : Int32)), (.int (1 : Int32))])) _
      refine XS.icmpNo X0.here hx rfl (hb hby d1_8) rfl (tlt (by decide : ((1 : Int32) < (4 : Int32)))).2.1 ?_
      show Steps p.tables e below (s₁.setTop (mkF m 11 #[.val (.ref a), .val (.int (1 : Int32)), .val (.int (3 : Int32)), .val (.double y), .second, .val (.int (1 : Int32))] [])) _
      refine XS.aloadN X0.here hx rfl (hb hby d1_11) rfl rfl ?_
      show Steps p.tables e below (s₁.setTop (mkF m 12 #[.val (.ref a), .val (.int (1 : Int32)), .val (.int (3 : Int32)), .val (.double y), .second, .val (.int (1 : Int32))] [(.ref a)])) _
      refine XS.iload X0.here hx rfl (hb hby d1_12) rfl ?_
      exact kz
    obtain ⟨cl91, Ar91, -, S91, M91, H91, -⟩ := id Av
    have hin91 : ¬ ((1 : Int32) < 0 ∨ cl91.slots.size ≤ ((1 : Int32)).toNatClampNeg) := inb_of S91 ⟨by decide, by decide⟩
    have hat91 : cl91.slots[((1 : Int32)).toNatClampNeg]? = some (.double x1) := H91.at hin91 rfl
    refine own_go (A := s₁.setTop (mkF m 15 #[.val (.ref a), .val (.int (1 : Int32)), .val (.int (3 : Int32)), .val (.double y), .second, .val (.int (1 : Int32))] [(.double x1)])) (fun _ kz => ?_) ?_
    · refine X0.daload hx (j := (1 : Int32)) (v := (.double x1)) (by rw [e0]; exact Ar91.1) (State.isArrayOf_alike hZ.alike Ar91.2.1) Ar91.2.2 hin91 hat91 (g := (mkF m 14 #[.val (.ref a), .val (.int (1 : Int32)), .val (.int (3 : Int32)), .val (.double y), .second, .val (.int (1 : Int32))] [(.int (1 : Int32)), (.ref a)])) rfl rfl (hb hby d1_14) _ ?_
      exact kz
    refine own_go (A := s₁.setTop (mkF m 17 #[.val (.ref a), .val (.int (1 : Int32)), .val (.int (3 : Int32)), .val (.double y), .second, .val (.int (1 : Int32))] [(.int (cmpValue (FP.dcmp x1 y) .g))])) (fun _ kz => ?_) ?_
    · show Steps p.tables e below (s₁.setTop (mkF m 15 #[.val (.ref a), .val (.int (1 : Int32)), .val (.int (3 : Int32)), .val (.double y), .second, .val (.int (1 : Int32))] [(.double x1)])) _
      refine XS.dloadN X0.here hx rfl (hb hby d1_15) rfl ?_
      show Steps p.tables e below (s₁.setTop (mkF m 16 #[.val (.ref a), .val (.int (1 : Int32)), .val (.int (3 : Int32)), .val (.double y), .second, .val (.int (1 : Int32))] [(.double y), (.double x1)])) _
      refine XS.dcmpS X0.here hx rfl (hb hby d1_16) rfl rfl ?_
      exact kz
    by_cases hs92 : (cmpValue (FP.dcmp x1 y) .g) < (0 : Int32)
    · skip
      refine own_go (A := s₁.setTop (mkF m 20 #[.val (.ref a), .val (.int (1 : Int32)), .val (.int (3 : Int32)), .val (.double y), .second, .val (.int (1 : Int32))] [])) (fun _ kz => ?_) ?_
      · show Steps p.tables e below (s₁.setTop (mkF m 17 #[.val (.ref a), .val (.int (1 : Int32)), .val (.int (3 : Int32)), .val (.double y), .second, .val (.int (1 : Int32))] [(.int (cmpValue (FP.dcmp x1 y) .g))])) _
        refine XS.ifNo X0.here hx rfl (hb hby d1_17) rfl ((if0 _ _).trans (tlt hs92).2.1) ?_
        exact kz
      refine own_go (A := s₁.setTop (mkF m 24 #[.val (.ref a), .val (.int (1 : Int32)), .val (.int (3 : Int32)), .val (.double y), .second, .val (.int (1 : Int32))] [(.double FP.dconst0), (.int (1 : Int32)), (.ref a)])) (fun _ kz => ?_) ?_
      · show Steps p.tables e below (s₁.setTop (mkF m 20 #[.val (.ref a), .val (.int (1 : Int32)), .val (.int (3 : Int32)), .val (.double y), .second, .val (.int (1 : Int32))] [])) _
        refine XS.aloadN X0.here hx rfl (hb hby d1_20) rfl rfl ?_
        show Steps p.tables e below (s₁.setTop (mkF m 21 #[.val (.ref a), .val (.int (1 : Int32)), .val (.int (3 : Int32)), .val (.double y), .second, .val (.int (1 : Int32))] [(.ref a)])) _
        refine XS.iload X0.here hx rfl (hb hby d1_21) rfl ?_
        show Steps p.tables e below (s₁.setTop (mkF m 23 #[.val (.ref a), .val (.int (1 : Int32)), .val (.int (3 : Int32)), .val (.double y), .second, .val (.int (1 : Int32))] [(.int (1 : Int32)), (.ref a)])) _
        refine XS.dconst0 X0.here hx rfl (hb hby d1_23) rfl ?_
        exact kz
      obtain ⟨cl93, Ar93, q93, S93, M93, H93, G93⟩ := id Av
      have hin93 : ¬ ((1 : Int32) < 0 ∨ cl93.slots.size ≤ ((1 : Int32)).toNatClampNeg) := inb_of S93 ⟨by decide, by decide⟩
      obtain ⟨T93, h93, X93, e93, W93, st93⟩ := stD X0 hx hZ e0 Ar93 (j := (1 : Int32)) hin93 (g := (mkF m 24 #[.val (.ref a), .val (.int (1 : Int32)), .val (.int (3 : Int32)), .val (.double y), .second, .val (.int (1 : Int32))] [(.double FP.dconst0), (.int (1 : Int32)), (.ref a)])) rfl rfl (hb hby d1_24)
      have Aw93 := Arv.set Ar93 q93 S93 M93 H93 G93 rfl W93 1 rfl (Nat.le_of_ble_eq_true rfl)
      have Z93 : n0 ≤ h93.size := Nat.le_trans Z0 (Keep.of_wr W93).1
      have Kp93 : Keep h0 h93 [a] := Kp0.wr W93 (Or.inl (List.mem_of_getElem? (i := 0) rfl))
      have Av_a : Arv Z h93 a kc .double (4 : Int32) [(.double x0), (.double FP.dconst0), (.double x2), (.double x3)] (.double (0 : UInt64)) := Aw93
      have N93 := Fr.snoc X93 N0 g_a
      refine own_go (A := T93.setTop (mkF m 25 #[.val (.ref a), .val (.int (1 : Int32)), .val (.int (3 : Int32)), .val (.double y), .second, .val (.int (1 : Int32))] [])) (fun _ kz => st93 _ kz) ?_
      refine own_go (A := T93.setTop (mkF m 14 #[.val (.ref a), .val (.int (1 : Int32)), .val (.int (3 : Int32)), .val (.double y), .second, .val (.int (2 : Int32))] [(.int (2 : Int32)), (.ref a)])) (fun _ kz => ?_) ?_
      · show Steps p.tables e below (T93.setTop (mkF m 25 #[.val (.ref a), .val (.int (1 : Int32)), .val (.int (3 : Int32)), .val (.double y), .second, .val (.int (1 : Int32))] [])) _
        refine XS.iinc X93.here hx rfl (hb hby d1_25) rfl (l' := #[.val (.ref a), .val (.int (1 : Int32)), .val (.int (3 : Int32)), .val (.double y), .second, .val (.int (2 : Int32))]) rfl ?_
        show Steps p.tables e below (T93.setTop (mkF m 28 #[.val (.ref a), .val (.int (1 : Int32)), .val (.int (3 : Int32)), .val (.double y), .second, .val (.int (2 : Int32))] [])) _
        refine XS.goto X93.here hx rfl (pc0 := 28) (pc' := 3) rfl (hb hby d1_28) (by decide) (by decide) ?_
        show Steps p.tables e below (T93.setTop (mkF m 3 #[.val (.ref a), .val (.int (1 : Int32)), .val (.int (3 : Int32)), .val (.double y), .second, .val (.int (2 : Int32))] [])) _
        refine XS.iload X93.here hx rfl (hb hby d1_3) rfl ?_
        show Steps p.tables e below (T93.setTop (mkF m 5 #[.val (.ref a), .val (.int (1 : Int32)), .val (.int (3 : Int32)), .val (.double y), .second, .val (.int (2 : Int32))] [(.int (2 : Int32))])) _
        refine XS.iloadN X93.here hx rfl (hb hby d1_5) rfl ?_
        show Steps p.tables e below (T93.setTop (mkF m 6 #[.val (.ref a), .val (.int (1 : Int32)), .val (.int (3 : Int32)), .val (.double y), .second, .val (.int (2 : Int32))] [(.int (1 : Int32)), (.int (2 : Int32))])) _
        refine XS.iloadN X93.here hx rfl (hb hby d1_6) rfl ?_
        show Steps p.tables e below (T93.setTop (mkF m 7 #[.val (.ref a), .val (.int (1 : Int32)), .val (.int (3 : Int32)), .val (.double y), .second, .val (.int (2 : Int32))] [(.int (3 : Int32)), (.int (1 : Int32)), (.int (2 : Int32))])) _
        refine XS.iadd X93.here hx rfl (hb hby d1_7) rfl ?_
        show Steps p.tables e below (T93.setTop (mkF m 8 #[.val (.ref a), .val (.int (1 : Int32)), .val (.int (3 : Int32)), .val (.double y), .second, .val (.int (2 : Int32))] [(.int (4 : Int32)), (.int (2 : Int32))])) _
        refine XS.icmpNo X93.here hx rfl (hb hby d1_8) rfl (tlt (by decide : ((2 : Int32) < (4 : Int32)))).2.1 ?_
        show Steps p.tables e below (T93.setTop (mkF m 11 #[.val (.ref a), .val (.int (1 : Int32)), .val (.int (3 : Int32)), .val (.double y), .second, .val (.int (2 : Int32))] [])) _
        refine XS.aloadN X93.here hx rfl (hb hby d1_11) rfl rfl ?_
        show Steps p.tables e below (T93.setTop (mkF m 12 #[.val (.ref a), .val (.int (1 : Int32)), .val (.int (3 : Int32)), .val (.double y), .second, .val (.int (2 : Int32))] [(.ref a)])) _
        refine XS.iload X93.here hx rfl (hb hby d1_12) rfl ?_
        exact kz
      obtain ⟨cl94, Ar94, -, S94, M94, H94, -⟩ := id Av_a
      have hin94 : ¬ ((2 : Int32) < 0 ∨ cl94.slots.size ≤ ((2 : Int32)).toNatClampNeg) := inb_of S94 ⟨by decide, by decide⟩
      have hat94 : cl94.slots[((2 : Int32)).toNatClampNeg]? = some (.double x2) := H94.at hin94 rfl
      refine own_go (A := T93.setTop (mkF m 15 #[.val (.ref a), .val (.int (1 : Int32)), .val (.int (3 : Int32)), .val (.double y), .second, .val (.int (2 : Int32))] [(.double x2)])) (fun _ kz => ?_) ?_
      · refine X93.daload hx (j := (2 : Int32)) (v := (.double x2)) (by rw [e93]; exact Ar94.1) (State.isArrayOf_alike hZ.alike Ar94.2.1) Ar94.2.2 hin94 hat94 (g := (mkF m 14 #[.val (.ref a), .val (.int (1 : Int32)), .val (.int (3 : Int32)), .val (.double y), .second, .val (.int (2 : Int32))] [(.int (2 : Int32)), (.ref a)])) rfl rfl (hb hby d1_14) _ ?_
        exact kz
      refine own_go (A := T93.setTop (mkF m 17 #[.val (.ref a), .val (.int (1 : Int32)), .val (.int (3 : Int32)), .val (.double y), .second, .val (.int (2 : Int32))] [(.int (cmpValue (FP.dcmp x2 y) .g))])) (fun _ kz => ?_) ?_
      · show Steps p.tables e below (T93.setTop (mkF m 15 #[.val (.ref a), .val (.int (1 : Int32)), .val (.int (3 : Int32)), .val (.double y), .second, .val (.int (2 : Int32))] [(.double x2)])) _
        refine XS.dloadN X93.here hx rfl (hb hby d1_15) rfl ?_
        show Steps p.tables e below (T93.setTop (mkF m 16 #[.val (.ref a), .val (.int (1 : Int32)), .val (.int (3 : Int32)), .val (.double y), .second, .val (.int (2 : Int32))] [(.double y), (.double x2)])) _
        refine XS.dcmpS X93.here hx rfl (hb hby d1_16) rfl rfl ?_
        exact kz
      by_cases hs95 : (cmpValue (FP.dcmp x2 y) .g) < (0 : Int32)
      · skip
        refine own_go (A := T93.setTop (mkF m 20 #[.val (.ref a), .val (.int (1 : Int32)), .val (.int (3 : Int32)), .val (.double y), .second, .val (.int (2 : Int32))] [])) (fun _ kz => ?_) ?_
        · show Steps p.tables e below (T93.setTop (mkF m 17 #[.val (.ref a), .val (.int (1 : Int32)), .val (.int (3 : Int32)), .val (.double y), .second, .val (.int (2 : Int32))] [(.int (cmpValue (FP.dcmp x2 y) .g))])) _
          refine XS.ifNo X93.here hx rfl (hb hby d1_17) rfl ((if0 _ _).trans (tlt hs95).2.1) ?_
          exact kz
        refine own_go (A := T93.setTop (mkF m 24 #[.val (.ref a), .val (.int (1 : Int32)), .val (.int (3 : Int32)), .val (.double y), .second, .val (.int (2 : Int32))] [(.double FP.dconst0), (.int (2 : Int32)), (.ref a)])) (fun _ kz => ?_) ?_
        · show Steps p.tables e below (T93.setTop (mkF m 20 #[.val (.ref a), .val (.int (1 : Int32)), .val (.int (3 : Int32)), .val (.double y), .second, .val (.int (2 : Int32))] [])) _
          refine XS.aloadN X93.here hx rfl (hb hby d1_20) rfl rfl ?_
          show Steps p.tables e below (T93.setTop (mkF m 21 #[.val (.ref a), .val (.int (1 : Int32)), .val (.int (3 : Int32)), .val (.double y), .second, .val (.int (2 : Int32))] [(.ref a)])) _
          refine XS.iload X93.here hx rfl (hb hby d1_21) rfl ?_
          show Steps p.tables e below (T93.setTop (mkF m 23 #[.val (.ref a), .val (.int (1 : Int32)), .val (.int (3 : Int32)), .val (.double y), .second, .val (.int (2 : Int32))] [(.int (2 : Int32)), (.ref a)])) _
          refine XS.dconst0 X93.here hx rfl (hb hby d1_23) rfl ?_
          exact kz
        obtain ⟨cl96, Ar96, q96, S96, M96, H96, G96⟩ := id Av_a
        have hin96 : ¬ ((2 : Int32) < 0 ∨ cl96.slots.size ≤ ((2 : Int32)).toNatClampNeg) := inb_of S96 ⟨by decide, by decide⟩
        obtain ⟨T96, h96, X96, e96, W96, st96⟩ := stD X93 hx hZ e93 Ar96 (j := (2 : Int32)) hin96 (g := (mkF m 24 #[.val (.ref a), .val (.int (1 : Int32)), .val (.int (3 : Int32)), .val (.double y), .second, .val (.int (2 : Int32))] [(.double FP.dconst0), (.int (2 : Int32)), (.ref a)])) rfl rfl (hb hby d1_24)
        have Aw96 := Arv.set Ar96 q96 S96 M96 H96 G96 rfl W96 2 rfl (Nat.le_of_ble_eq_true rfl)
        have Z96 : n0 ≤ h96.size := Nat.le_trans Z93 (Keep.of_wr W96).1
        have Kp96 : Keep h0 h96 [a] := Kp93.wr W96 (Or.inl (List.mem_of_getElem? (i := 0) rfl))
        have Av_a : Arv Z h96 a kc .double (4 : Int32) [(.double x0), (.double FP.dconst0), (.double FP.dconst0), (.double x3)] (.double (0 : UInt64)) := Aw96
        have N96 := Fr.snoc X96 N93 g_a
        refine own_go (A := T96.setTop (mkF m 25 #[.val (.ref a), .val (.int (1 : Int32)), .val (.int (3 : Int32)), .val (.double y), .second, .val (.int (2 : Int32))] [])) (fun _ kz => st96 _ kz) ?_
        refine own_go (A := T96.setTop (mkF m 14 #[.val (.ref a), .val (.int (1 : Int32)), .val (.int (3 : Int32)), .val (.double y), .second, .val (.int (3 : Int32))] [(.int (3 : Int32)), (.ref a)])) (fun _ kz => ?_) ?_
        · show Steps p.tables e below (T96.setTop (mkF m 25 #[.val (.ref a), .val (.int (1 : Int32)), .val (.int (3 : Int32)), .val (.double y), .second, .val (.int (2 : Int32))] [])) _
          refine XS.iinc X96.here hx rfl (hb hby d1_25) rfl (l' := #[.val (.ref a), .val (.int (1 : Int32)), .val (.int (3 : Int32)), .val (.double y), .second, .val (.int (3 : Int32))]) rfl ?_
          show Steps p.tables e below (T96.setTop (mkF m 28 #[.val (.ref a), .val (.int (1 : Int32)), .val (.int (3 : Int32)), .val (.double y), .second, .val (.int (3 : Int32))] [])) _
          refine XS.goto X96.here hx rfl (pc0 := 28) (pc' := 3) rfl (hb hby d1_28) (by decide) (by decide) ?_
          show Steps p.tables e below (T96.setTop (mkF m 3 #[.val (.ref a), .val (.int (1 : Int32)), .val (.int (3 : Int32)), .val (.double y), .second, .val (.int (3 : Int32))] [])) _
          refine XS.iload X96.here hx rfl (hb hby d1_3) rfl ?_
          show Steps p.tables e below (T96.setTop (mkF m 5 #[.val (.ref a), .val (.int (1 : Int32)), .val (.int (3 : Int32)), .val (.double y), .second, .val (.int (3 : Int32))] [(.int (3 : Int32))])) _
          refine XS.iloadN X96.here hx rfl (hb hby d1_5) rfl ?_
          show Steps p.tables e below (T96.setTop (mkF m 6 #[.val (.ref a), .val (.int (1 : Int32)), .val (.int (3 : Int32)), .val (.double y), .second, .val (.int (3 : Int32))] [(.int (1 : Int32)), (.int (3 : Int32))])) _
          refine XS.iloadN X96.here hx rfl (hb hby d1_6) rfl ?_
          show Steps p.tables e below (T96.setTop (mkF m 7 #[.val (.ref a), .val (.int (1 : Int32)), .val (.int (3 : Int32)), .val (.double y), .second, .val (.int (3 : Int32))] [(.int (3 : Int32)), (.int (1 : Int32)), (.int (3 : Int32))])) _
          refine XS.iadd X96.here hx rfl (hb hby d1_7) rfl ?_
          show Steps p.tables e below (T96.setTop (mkF m 8 #[.val (.ref a), .val (.int (1 : Int32)), .val (.int (3 : Int32)), .val (.double y), .second, .val (.int (3 : Int32))] [(.int (4 : Int32)), (.int (3 : Int32))])) _
          refine XS.icmpNo X96.here hx rfl (hb hby d1_8) rfl (tlt (by decide : ((3 : Int32) < (4 : Int32)))).2.1 ?_
          show Steps p.tables e below (T96.setTop (mkF m 11 #[.val (.ref a), .val (.int (1 : Int32)), .val (.int (3 : Int32)), .val (.double y), .second, .val (.int (3 : Int32))] [])) _
          refine XS.aloadN X96.here hx rfl (hb hby d1_11) rfl rfl ?_
          show Steps p.tables e below (T96.setTop (mkF m 12 #[.val (.ref a), .val (.int (1 : Int32)), .val (.int (3 : Int32)), .val (.double y), .second, .val (.int (3 : Int32))] [(.ref a)])) _
          refine XS.iload X96.here hx rfl (hb hby d1_12) rfl ?_
          exact kz
        obtain ⟨cl97, Ar97, -, S97, M97, H97, -⟩ := id Av_a
        have hin97 : ¬ ((3 : Int32) < 0 ∨ cl97.slots.size ≤ ((3 : Int32)).toNatClampNeg) := inb_of S97 ⟨by decide, by decide⟩
        have hat97 : cl97.slots[((3 : Int32)).toNatClampNeg]? = some (.double x3) := H97.at hin97 rfl
        refine own_go (A := T96.setTop (mkF m 15 #[.val (.ref a), .val (.int (1 : Int32)), .val (.int (3 : Int32)), .val (.double y), .second, .val (.int (3 : Int32))] [(.double x3)])) (fun _ kz => ?_) ?_
        · refine X96.daload hx (j := (3 : Int32)) (v := (.double x3)) (by rw [e96]; exact Ar97.1) (State.isArrayOf_alike hZ.alike Ar97.2.1) Ar97.2.2 hin97 hat97 (g := (mkF m 14 #[.val (.ref a), .val (.int (1 : Int32)), .val (.int (3 : Int32)), .val (.double y), .second, .val (.int (3 : Int32))] [(.int (3 : Int32)), (.ref a)])) rfl rfl (hb hby d1_14) _ ?_
          exact kz
        refine own_go (A := T96.setTop (mkF m 17 #[.val (.ref a), .val (.int (1 : Int32)), .val (.int (3 : Int32)), .val (.double y), .second, .val (.int (3 : Int32))] [(.int (cmpValue (FP.dcmp x3 y) .g))])) (fun _ kz => ?_) ?_
        · show Steps p.tables e below (T96.setTop (mkF m 15 #[.val (.ref a), .val (.int (1 : Int32)), .val (.int (3 : Int32)), .val (.double y), .second, .val (.int (3 : Int32))] [(.double x3)])) _
          refine XS.dloadN X96.here hx rfl (hb hby d1_15) rfl ?_
          show Steps p.tables e below (T96.setTop (mkF m 16 #[.val (.ref a), .val (.int (1 : Int32)), .val (.int (3 : Int32)), .val (.double y), .second, .val (.int (3 : Int32))] [(.double y), (.double x3)])) _
          refine XS.dcmpS X96.here hx rfl (hb hby d1_16) rfl rfl ?_
          exact kz
        by_cases hs98 : (cmpValue (FP.dcmp x3 y) .g) < (0 : Int32)
        · skip
          refine own_go (A := T96.setTop (mkF m 20 #[.val (.ref a), .val (.int (1 : Int32)), .val (.int (3 : Int32)), .val (.double y), .second, .val (.int (3 : Int32))] [])) (fun _ kz => ?_) ?_
          · show Steps p.tables e below (T96.setTop (mkF m 17 #[.val (.ref a), .val (.int (1 : Int32)), .val (.int (3 : Int32)), .val (.double y), .second, .val (.int (3 : Int32))] [(.int (cmpValue (FP.dcmp x3 y) .g))])) _
            refine XS.ifNo X96.here hx rfl (hb hby d1_17) rfl ((if0 _ _).trans (tlt hs98).2.1) ?_
            exact kz
          refine own_go (A := T96.setTop (mkF m 24 #[.val (.ref a), .val (.int (1 : Int32)), .val (.int (3 : Int32)), .val (.double y), .second, .val (.int (3 : Int32))] [(.double FP.dconst0), (.int (3 : Int32)), (.ref a)])) (fun _ kz => ?_) ?_
          · show Steps p.tables e below (T96.setTop (mkF m 20 #[.val (.ref a), .val (.int (1 : Int32)), .val (.int (3 : Int32)), .val (.double y), .second, .val (.int (3 : Int32))] [])) _
            refine XS.aloadN X96.here hx rfl (hb hby d1_20) rfl rfl ?_
            show Steps p.tables e below (T96.setTop (mkF m 21 #[.val (.ref a), .val (.int (1 : Int32)), .val (.int (3 : Int32)), .val (.double y), .second, .val (.int (3 : Int32))] [(.ref a)])) _
            refine XS.iload X96.here hx rfl (hb hby d1_21) rfl ?_
            show Steps p.tables e below (T96.setTop (mkF m 23 #[.val (.ref a), .val (.int (1 : Int32)), .val (.int (3 : Int32)), .val (.double y), .second, .val (.int (3 : Int32))] [(.int (3 : Int32)), (.ref a)])) _
            refine XS.dconst0 X96.here hx rfl (hb hby d1_23) rfl ?_
            exact kz
          obtain ⟨cl99, Ar99, q99, S99, M99, H99, G99⟩ := id Av_a
          have hin99 : ¬ ((3 : Int32) < 0 ∨ cl99.slots.size ≤ ((3 : Int32)).toNatClampNeg) := inb_of S99 ⟨by decide, by decide⟩
          obtain ⟨T99, h99, X99, e99, W99, st99⟩ := stD X96 hx hZ e96 Ar99 (j := (3 : Int32)) hin99 (g := (mkF m 24 #[.val (.ref a), .val (.int (1 : Int32)), .val (.int (3 : Int32)), .val (.double y), .second, .val (.int (3 : Int32))] [(.double FP.dconst0), (.int (3 : Int32)), (.ref a)])) rfl rfl (hb hby d1_24)
          have Aw99 := Arv.set Ar99 q99 S99 M99 H99 G99 rfl W99 3 rfl (Nat.le_of_ble_eq_true rfl)
          have Z99 : n0 ≤ h99.size := Nat.le_trans Z96 (Keep.of_wr W99).1
          have Kp99 : Keep h0 h99 [a] := Kp96.wr W99 (Or.inl (List.mem_of_getElem? (i := 0) rfl))
          have Av_a : Arv Z h99 a kc .double (4 : Int32) [(.double x0), (.double FP.dconst0), (.double FP.dconst0), (.double FP.dconst0)] (.double (0 : UInt64)) := Aw99
          have N99 := Fr.snoc X99 N96 g_a
          refine own_go (A := T99.setTop (mkF m 25 #[.val (.ref a), .val (.int (1 : Int32)), .val (.int (3 : Int32)), .val (.double y), .second, .val (.int (3 : Int32))] [])) (fun _ kz => st99 _ kz) ?_
          refine own_go (A := T99.setTop (mkF m 31 #[.val (.ref a), .val (.int (1 : Int32)), .val (.int (3 : Int32)), .val (.double y), .second, .val (.int (4 : Int32))] [])) (fun _ kz => ?_) ?_
          · show Steps p.tables e below (T99.setTop (mkF m 25 #[.val (.ref a), .val (.int (1 : Int32)), .val (.int (3 : Int32)), .val (.double y), .second, .val (.int (3 : Int32))] [])) _
            refine XS.iinc X99.here hx rfl (hb hby d1_25) rfl (l' := #[.val (.ref a), .val (.int (1 : Int32)), .val (.int (3 : Int32)), .val (.double y), .second, .val (.int (4 : Int32))]) rfl ?_
            show Steps p.tables e below (T99.setTop (mkF m 28 #[.val (.ref a), .val (.int (1 : Int32)), .val (.int (3 : Int32)), .val (.double y), .second, .val (.int (4 : Int32))] [])) _
            refine XS.goto X99.here hx rfl (pc0 := 28) (pc' := 3) rfl (hb hby d1_28) (by decide) (by decide) ?_
            show Steps p.tables e below (T99.setTop (mkF m 3 #[.val (.ref a), .val (.int (1 : Int32)), .val (.int (3 : Int32)), .val (.double y), .second, .val (.int (4 : Int32))] [])) _
            refine XS.iload X99.here hx rfl (hb hby d1_3) rfl ?_
            show Steps p.tables e below (T99.setTop (mkF m 5 #[.val (.ref a), .val (.int (1 : Int32)), .val (.int (3 : Int32)), .val (.double y), .second, .val (.int (4 : Int32))] [(.int (4 : Int32))])) _
            refine XS.iloadN X99.here hx rfl (hb hby d1_5) rfl ?_
            show Steps p.tables e below (T99.setTop (mkF m 6 #[.val (.ref a), .val (.int (1 : Int32)), .val (.int (3 : Int32)), .val (.double y), .second, .val (.int (4 : Int32))] [(.int (1 : Int32)), (.int (4 : Int32))])) _
            refine XS.iloadN X99.here hx rfl (hb hby d1_6) rfl ?_
            show Steps p.tables e below (T99.setTop (mkF m 7 #[.val (.ref a), .val (.int (1 : Int32)), .val (.int (3 : Int32)), .val (.double y), .second, .val (.int (4 : Int32))] [(.int (3 : Int32)), (.int (1 : Int32)), (.int (4 : Int32))])) _
            refine XS.iadd X99.here hx rfl (hb hby d1_7) rfl ?_
            show Steps p.tables e below (T99.setTop (mkF m 8 #[.val (.ref a), .val (.int (1 : Int32)), .val (.int (3 : Int32)), .val (.double y), .second, .val (.int (4 : Int32))] [(.int (4 : Int32)), (.int (4 : Int32))])) _
            refine XS.icmpYes X99.here hx rfl (pc0 := 8) (pc' := 31) rfl (hb hby d1_8) rfl (flt (by decide : ¬ ((4 : Int32) < (4 : Int32)))).2.1 (by decide) (by decide) ?_
            exact kz
          obtain ⟨fs, hrr, hrun, hended, hW, hsame⟩ := X99.leave (v := none) (fun _ => rfl)
          refine ⟨_, _, ?_, hrun, hended, _, _, rfl, ?_, ⟨_, rfl⟩, hW, hsame.mono (by decide) (by decide)⟩
          · show Steps p.tables e below (T99.setTop (mkF m 31 #[.val (.ref a), .val (.int (1 : Int32)), .val (.int (3 : Int32)), .val (.double y), .second, .val (.int (4 : Int32))] [])) _
            exact X99.returnOut hx Bd.returns (hb hby d1_31) hrr
          · show QrmFl Z a (1 : Int32) (3 : Int32) y kc x0 x1 x2 x3 h0 n0 _ T99.heap _
            rw [e99]
            exact ⟨rfl, N99, Kp99, by simpa [own_exp, hs92, hs95, hs98] using Av_a⟩
        · skip
          refine own_go (A := T96.setTop (mkF m 25 #[.val (.ref a), .val (.int (1 : Int32)), .val (.int (3 : Int32)), .val (.double y), .second, .val (.int (3 : Int32))] [])) (fun _ kz => ?_) ?_
          · show Steps p.tables e below (T96.setTop (mkF m 17 #[.val (.ref a), .val (.int (1 : Int32)), .val (.int (3 : Int32)), .val (.double y), .second, .val (.int (3 : Int32))] [(.int (cmpValue (FP.dcmp x3 y) .g))])) _
            refine XS.ifYes X96.here hx rfl (pc0 := 17) (pc' := 25) rfl (hb hby d1_17) rfl ((if0 _ _).trans (flt hs98).2.1) (by decide) (by decide) ?_
            exact kz
          refine own_go (A := T96.setTop (mkF m 31 #[.val (.ref a), .val (.int (1 : Int32)), .val (.int (3 : Int32)), .val (.double y), .second, .val (.int (4 : Int32))] [])) (fun _ kz => ?_) ?_
          · show Steps p.tables e below (T96.setTop (mkF m 25 #[.val (.ref a), .val (.int (1 : Int32)), .val (.int (3 : Int32)), .val (.double y), .second, .val (.int (3 : Int32))] [])) _
            refine XS.iinc X96.here hx rfl (hb hby d1_25) rfl (l' := #[.val (.ref a), .val (.int (1 : Int32)), .val (.int (3 : Int32)), .val (.double y), .second, .val (.int (4 : Int32))]) rfl ?_
            show Steps p.tables e below (T96.setTop (mkF m 28 #[.val (.ref a), .val (.int (1 : Int32)), .val (.int (3 : Int32)), .val (.double y), .second, .val (.int (4 : Int32))] [])) _
            refine XS.goto X96.here hx rfl (pc0 := 28) (pc' := 3) rfl (hb hby d1_28) (by decide) (by decide) ?_
            show Steps p.tables e below (T96.setTop (mkF m 3 #[.val (.ref a), .val (.int (1 : Int32)), .val (.int (3 : Int32)), .val (.double y), .second, .val (.int (4 : Int32))] [])) _
            refine XS.iload X96.here hx rfl (hb hby d1_3) rfl ?_
            show Steps p.tables e below (T96.setTop (mkF m 5 #[.val (.ref a), .val (.int (1 : Int32)), .val (.int (3 : Int32)), .val (.double y), .second, .val (.int (4 : Int32))] [(.int (4 : Int32))])) _
            refine XS.iloadN X96.here hx rfl (hb hby d1_5) rfl ?_
            show Steps p.tables e below (T96.setTop (mkF m 6 #[.val (.ref a), .val (.int (1 : Int32)), .val (.int (3 : Int32)), .val (.double y), .second, .val (.int (4 : Int32))] [(.int (1 : Int32)), (.int (4 : Int32))])) _
            refine XS.iloadN X96.here hx rfl (hb hby d1_6) rfl ?_
            show Steps p.tables e below (T96.setTop (mkF m 7 #[.val (.ref a), .val (.int (1 : Int32)), .val (.int (3 : Int32)), .val (.double y), .second, .val (.int (4 : Int32))] [(.int (3 : Int32)), (.int (1 : Int32)), (.int (4 : Int32))])) _
            refine XS.iadd X96.here hx rfl (hb hby d1_7) rfl ?_
            show Steps p.tables e below (T96.setTop (mkF m 8 #[.val (.ref a), .val (.int (1 : Int32)), .val (.int (3 : Int32)), .val (.double y), .second, .val (.int (4 : Int32))] [(.int (4 : Int32)), (.int (4 : Int32))])) _
            refine XS.icmpYes X96.here hx rfl (pc0 := 8) (pc' := 31) rfl (hb hby d1_8) rfl (flt (by decide : ¬ ((4 : Int32) < (4 : Int32)))).2.1 (by decide) (by decide) ?_
            exact kz
          obtain ⟨fs, hrr, hrun, hended, hW, hsame⟩ := X96.leave (v := none) (fun _ => rfl)
          refine ⟨_, _, ?_, hrun, hended, _, _, rfl, ?_, ⟨_, rfl⟩, hW, hsame.mono (by decide) (by decide)⟩
          · show Steps p.tables e below (T96.setTop (mkF m 31 #[.val (.ref a), .val (.int (1 : Int32)), .val (.int (3 : Int32)), .val (.double y), .second, .val (.int (4 : Int32))] [])) _
            exact X96.returnOut hx Bd.returns (hb hby d1_31) hrr
          · show QrmFl Z a (1 : Int32) (3 : Int32) y kc x0 x1 x2 x3 h0 n0 _ T96.heap _
            rw [e96]
            exact ⟨rfl, N96, Kp96, by simpa [own_exp, hs92, hs95, hs98] using Av_a⟩
      · skip
        refine own_go (A := T93.setTop (mkF m 25 #[.val (.ref a), .val (.int (1 : Int32)), .val (.int (3 : Int32)), .val (.double y), .second, .val (.int (2 : Int32))] [])) (fun _ kz => ?_) ?_
        · show Steps p.tables e below (T93.setTop (mkF m 17 #[.val (.ref a), .val (.int (1 : Int32)), .val (.int (3 : Int32)), .val (.double y), .second, .val (.int (2 : Int32))] [(.int (cmpValue (FP.dcmp x2 y) .g))])) _
          refine XS.ifYes X93.here hx rfl (pc0 := 17) (pc' := 25) rfl (hb hby d1_17) rfl ((if0 _ _).trans (flt hs95).2.1) (by decide) (by decide) ?_
          exact kz
        refine own_go (A := T93.setTop (mkF m 14 #[.val (.ref a), .val (.int (1 : Int32)), .val (.int (3 : Int32)), .val (.double y), .second, .val (.int (3 : Int32))] [(.int (3 : Int32)), (.ref a)])) (fun _ kz => ?_) ?_
        · show Steps p.tables e below (T93.setTop (mkF m 25 #[.val (.ref a), .val (.int (1 : Int32)), .val (.int (3 : Int32)), .val (.double y), .second, .val (.int (2 : Int32))] [])) _
          refine XS.iinc X93.here hx rfl (hb hby d1_25) rfl (l' := #[.val (.ref a), .val (.int (1 : Int32)), .val (.int (3 : Int32)), .val (.double y), .second, .val (.int (3 : Int32))]) rfl ?_
          show Steps p.tables e below (T93.setTop (mkF m 28 #[.val (.ref a), .val (.int (1 : Int32)), .val (.int (3 : Int32)), .val (.double y), .second, .val (.int (3 : Int32))] [])) _
          refine XS.goto X93.here hx rfl (pc0 := 28) (pc' := 3) rfl (hb hby d1_28) (by decide) (by decide) ?_
          show Steps p.tables e below (T93.setTop (mkF m 3 #[.val (.ref a), .val (.int (1 : Int32)), .val (.int (3 : Int32)), .val (.double y), .second, .val (.int (3 : Int32))] [])) _
          refine XS.iload X93.here hx rfl (hb hby d1_3) rfl ?_
          show Steps p.tables e below (T93.setTop (mkF m 5 #[.val (.ref a), .val (.int (1 : Int32)), .val (.int (3 : Int32)), .val (.double y), .second, .val (.int (3 : Int32))] [(.int (3 : Int32))])) _
          refine XS.iloadN X93.here hx rfl (hb hby d1_5) rfl ?_
          show Steps p.tables e below (T93.setTop (mkF m 6 #[.val (.ref a), .val (.int (1 : Int32)), .val (.int (3 : Int32)), .val (.double y), .second, .val (.int (3 : Int32))] [(.int (1 : Int32)), (.int (3 : Int32))])) _
          refine XS.iloadN X93.here hx rfl (hb hby d1_6) rfl ?_
          show Steps p.tables e below (T93.setTop (mkF m 7 #[.val (.ref a), .val (.int (1 : Int32)), .val (.int (3 : Int32)), .val (.double y), .second, .val (.int (3 : Int32))] [(.int (3 : Int32)), (.int (1 : Int32)), (.int (3 : Int32))])) _
          refine XS.iadd X93.here hx rfl (hb hby d1_7) rfl ?_
          show Steps p.tables e below (T93.setTop (mkF m 8 #[.val (.ref a), .val (.int (1 : Int32)), .val (.int (3 : Int32)), .val (.double y), .second, .val (.int (3 : Int32))] [(.int (4 : Int32)), (.int (3 : Int32))])) _
          refine XS.icmpNo X93.here hx rfl (hb hby d1_8) rfl (tlt (by decide : ((3 : Int32) < (4 : Int32)))).2.1 ?_
          show Steps p.tables e below (T93.setTop (mkF m 11 #[.val (.ref a), .val (.int (1 : Int32)), .val (.int (3 : Int32)), .val (.double y), .second, .val (.int (3 : Int32))] [])) _
          refine XS.aloadN X93.here hx rfl (hb hby d1_11) rfl rfl ?_
          show Steps p.tables e below (T93.setTop (mkF m 12 #[.val (.ref a), .val (.int (1 : Int32)), .val (.int (3 : Int32)), .val (.double y), .second, .val (.int (3 : Int32))] [(.ref a)])) _
          refine XS.iload X93.here hx rfl (hb hby d1_12) rfl ?_
          exact kz
        obtain ⟨cl100, Ar100, -, S100, M100, H100, -⟩ := id Av_a
        have hin100 : ¬ ((3 : Int32) < 0 ∨ cl100.slots.size ≤ ((3 : Int32)).toNatClampNeg) := inb_of S100 ⟨by decide, by decide⟩
        have hat100 : cl100.slots[((3 : Int32)).toNatClampNeg]? = some (.double x3) := H100.at hin100 rfl
        refine own_go (A := T93.setTop (mkF m 15 #[.val (.ref a), .val (.int (1 : Int32)), .val (.int (3 : Int32)), .val (.double y), .second, .val (.int (3 : Int32))] [(.double x3)])) (fun _ kz => ?_) ?_
        · refine X93.daload hx (j := (3 : Int32)) (v := (.double x3)) (by rw [e93]; exact Ar100.1) (State.isArrayOf_alike hZ.alike Ar100.2.1) Ar100.2.2 hin100 hat100 (g := (mkF m 14 #[.val (.ref a), .val (.int (1 : Int32)), .val (.int (3 : Int32)), .val (.double y), .second, .val (.int (3 : Int32))] [(.int (3 : Int32)), (.ref a)])) rfl rfl (hb hby d1_14) _ ?_
          exact kz
        refine own_go (A := T93.setTop (mkF m 17 #[.val (.ref a), .val (.int (1 : Int32)), .val (.int (3 : Int32)), .val (.double y), .second, .val (.int (3 : Int32))] [(.int (cmpValue (FP.dcmp x3 y) .g))])) (fun _ kz => ?_) ?_
        · show Steps p.tables e below (T93.setTop (mkF m 15 #[.val (.ref a), .val (.int (1 : Int32)), .val (.int (3 : Int32)), .val (.double y), .second, .val (.int (3 : Int32))] [(.double x3)])) _
          refine XS.dloadN X93.here hx rfl (hb hby d1_15) rfl ?_
          show Steps p.tables e below (T93.setTop (mkF m 16 #[.val (.ref a), .val (.int (1 : Int32)), .val (.int (3 : Int32)), .val (.double y), .second, .val (.int (3 : Int32))] [(.double y), (.double x3)])) _
          refine XS.dcmpS X93.here hx rfl (hb hby d1_16) rfl rfl ?_
          exact kz
        by_cases hs101 : (cmpValue (FP.dcmp x3 y) .g) < (0 : Int32)
        · skip
          refine own_go (A := T93.setTop (mkF m 20 #[.val (.ref a), .val (.int (1 : Int32)), .val (.int (3 : Int32)), .val (.double y), .second, .val (.int (3 : Int32))] [])) (fun _ kz => ?_) ?_
          · show Steps p.tables e below (T93.setTop (mkF m 17 #[.val (.ref a), .val (.int (1 : Int32)), .val (.int (3 : Int32)), .val (.double y), .second, .val (.int (3 : Int32))] [(.int (cmpValue (FP.dcmp x3 y) .g))])) _
            refine XS.ifNo X93.here hx rfl (hb hby d1_17) rfl ((if0 _ _).trans (tlt hs101).2.1) ?_
            exact kz
          refine own_go (A := T93.setTop (mkF m 24 #[.val (.ref a), .val (.int (1 : Int32)), .val (.int (3 : Int32)), .val (.double y), .second, .val (.int (3 : Int32))] [(.double FP.dconst0), (.int (3 : Int32)), (.ref a)])) (fun _ kz => ?_) ?_
          · show Steps p.tables e below (T93.setTop (mkF m 20 #[.val (.ref a), .val (.int (1 : Int32)), .val (.int (3 : Int32)), .val (.double y), .second, .val (.int (3 : Int32))] [])) _
            refine XS.aloadN X93.here hx rfl (hb hby d1_20) rfl rfl ?_
            show Steps p.tables e below (T93.setTop (mkF m 21 #[.val (.ref a), .val (.int (1 : Int32)), .val (.int (3 : Int32)), .val (.double y), .second, .val (.int (3 : Int32))] [(.ref a)])) _
            refine XS.iload X93.here hx rfl (hb hby d1_21) rfl ?_
            show Steps p.tables e below (T93.setTop (mkF m 23 #[.val (.ref a), .val (.int (1 : Int32)), .val (.int (3 : Int32)), .val (.double y), .second, .val (.int (3 : Int32))] [(.int (3 : Int32)), (.ref a)])) _
            refine XS.dconst0 X93.here hx rfl (hb hby d1_23) rfl ?_
            exact kz
          obtain ⟨cl102, Ar102, q102, S102, M102, H102, G102⟩ := id Av_a
          have hin102 : ¬ ((3 : Int32) < 0 ∨ cl102.slots.size ≤ ((3 : Int32)).toNatClampNeg) := inb_of S102 ⟨by decide, by decide⟩
          obtain ⟨T102, h102, X102, e102, W102, st102⟩ := stD X93 hx hZ e93 Ar102 (j := (3 : Int32)) hin102 (g := (mkF m 24 #[.val (.ref a), .val (.int (1 : Int32)), .val (.int (3 : Int32)), .val (.double y), .second, .val (.int (3 : Int32))] [(.double FP.dconst0), (.int (3 : Int32)), (.ref a)])) rfl rfl (hb hby d1_24)
          have Aw102 := Arv.set Ar102 q102 S102 M102 H102 G102 rfl W102 3 rfl (Nat.le_of_ble_eq_true rfl)
          have Z102 : n0 ≤ h102.size := Nat.le_trans Z93 (Keep.of_wr W102).1
          have Kp102 : Keep h0 h102 [a] := Kp93.wr W102 (Or.inl (List.mem_of_getElem? (i := 0) rfl))
          have Av_a : Arv Z h102 a kc .double (4 : Int32) [(.double x0), (.double FP.dconst0), (.double x2), (.double FP.dconst0)] (.double (0 : UInt64)) := Aw102
          have N102 := Fr.snoc X102 N93 g_a
          refine own_go (A := T102.setTop (mkF m 25 #[.val (.ref a), .val (.int (1 : Int32)), .val (.int (3 : Int32)), .val (.double y), .second, .val (.int (3 : Int32))] [])) (fun _ kz => st102 _ kz) ?_
          refine own_go (A := T102.setTop (mkF m 31 #[.val (.ref a), .val (.int (1 : Int32)), .val (.int (3 : Int32)), .val (.double y), .second, .val (.int (4 : Int32))] [])) (fun _ kz => ?_) ?_
          · show Steps p.tables e below (T102.setTop (mkF m 25 #[.val (.ref a), .val (.int (1 : Int32)), .val (.int (3 : Int32)), .val (.double y), .second, .val (.int (3 : Int32))] [])) _
            refine XS.iinc X102.here hx rfl (hb hby d1_25) rfl (l' := #[.val (.ref a), .val (.int (1 : Int32)), .val (.int (3 : Int32)), .val (.double y), .second, .val (.int (4 : Int32))]) rfl ?_
            show Steps p.tables e below (T102.setTop (mkF m 28 #[.val (.ref a), .val (.int (1 : Int32)), .val (.int (3 : Int32)), .val (.double y), .second, .val (.int (4 : Int32))] [])) _
            refine XS.goto X102.here hx rfl (pc0 := 28) (pc' := 3) rfl (hb hby d1_28) (by decide) (by decide) ?_
            show Steps p.tables e below (T102.setTop (mkF m 3 #[.val (.ref a), .val (.int (1 : Int32)), .val (.int (3 : Int32)), .val (.double y), .second, .val (.int (4 : Int32))] [])) _
            refine XS.iload X102.here hx rfl (hb hby d1_3) rfl ?_
            show Steps p.tables e below (T102.setTop (mkF m 5 #[.val (.ref a), .val (.int (1 : Int32)), .val (.int (3 : Int32)), .val (.double y), .second, .val (.int (4 : Int32))] [(.int (4 : Int32))])) _
            refine XS.iloadN X102.here hx rfl (hb hby d1_5) rfl ?_
            show Steps p.tables e below (T102.setTop (mkF m 6 #[.val (.ref a), .val (.int (1 : Int32)), .val (.int (3 : Int32)), .val (.double y), .second, .val (.int (4 : Int32))] [(.int (1 : Int32)), (.int (4 : Int32))])) _
            refine XS.iloadN X102.here hx rfl (hb hby d1_6) rfl ?_
            show Steps p.tables e below (T102.setTop (mkF m 7 #[.val (.ref a), .val (.int (1 : Int32)), .val (.int (3 : Int32)), .val (.double y), .second, .val (.int (4 : Int32))] [(.int (3 : Int32)), (.int (1 : Int32)), (.int (4 : Int32))])) _
            refine XS.iadd X102.here hx rfl (hb hby d1_7) rfl ?_
            show Steps p.tables e below (T102.setTop (mkF m 8 #[.val (.ref a), .val (.int (1 : Int32)), .val (.int (3 : Int32)), .val (.double y), .second, .val (.int (4 : Int32))] [(.int (4 : Int32)), (.int (4 : Int32))])) _
            refine XS.icmpYes X102.here hx rfl (pc0 := 8) (pc' := 31) rfl (hb hby d1_8) rfl (flt (by decide : ¬ ((4 : Int32) < (4 : Int32)))).2.1 (by decide) (by decide) ?_
            exact kz
          obtain ⟨fs, hrr, hrun, hended, hW, hsame⟩ := X102.leave (v := none) (fun _ => rfl)
          refine ⟨_, _, ?_, hrun, hended, _, _, rfl, ?_, ⟨_, rfl⟩, hW, hsame.mono (by decide) (by decide)⟩
          · show Steps p.tables e below (T102.setTop (mkF m 31 #[.val (.ref a), .val (.int (1 : Int32)), .val (.int (3 : Int32)), .val (.double y), .second, .val (.int (4 : Int32))] [])) _
            exact X102.returnOut hx Bd.returns (hb hby d1_31) hrr
          · show QrmFl Z a (1 : Int32) (3 : Int32) y kc x0 x1 x2 x3 h0 n0 _ T102.heap _
            rw [e102]
            exact ⟨rfl, N102, Kp102, by simpa [own_exp, hs92, hs95, hs101] using Av_a⟩
        · skip
          refine own_go (A := T93.setTop (mkF m 25 #[.val (.ref a), .val (.int (1 : Int32)), .val (.int (3 : Int32)), .val (.double y), .second, .val (.int (3 : Int32))] [])) (fun _ kz => ?_) ?_
          · show Steps p.tables e below (T93.setTop (mkF m 17 #[.val (.ref a), .val (.int (1 : Int32)), .val (.int (3 : Int32)), .val (.double y), .second, .val (.int (3 : Int32))] [(.int (cmpValue (FP.dcmp x3 y) .g))])) _
            refine XS.ifYes X93.here hx rfl (pc0 := 17) (pc' := 25) rfl (hb hby d1_17) rfl ((if0 _ _).trans (flt hs101).2.1) (by decide) (by decide) ?_
            exact kz
          refine own_go (A := T93.setTop (mkF m 31 #[.val (.ref a), .val (.int (1 : Int32)), .val (.int (3 : Int32)), .val (.double y), .second, .val (.int (4 : Int32))] [])) (fun _ kz => ?_) ?_
          · show Steps p.tables e below (T93.setTop (mkF m 25 #[.val (.ref a), .val (.int (1 : Int32)), .val (.int (3 : Int32)), .val (.double y), .second, .val (.int (3 : Int32))] [])) _
            refine XS.iinc X93.here hx rfl (hb hby d1_25) rfl (l' := #[.val (.ref a), .val (.int (1 : Int32)), .val (.int (3 : Int32)), .val (.double y), .second, .val (.int (4 : Int32))]) rfl ?_
            show Steps p.tables e below (T93.setTop (mkF m 28 #[.val (.ref a), .val (.int (1 : Int32)), .val (.int (3 : Int32)), .val (.double y), .second, .val (.int (4 : Int32))] [])) _
            refine XS.goto X93.here hx rfl (pc0 := 28) (pc' := 3) rfl (hb hby d1_28) (by decide) (by decide) ?_
            show Steps p.tables e below (T93.setTop (mkF m 3 #[.val (.ref a), .val (.int (1 : Int32)), .val (.int (3 : Int32)), .val (.double y), .second, .val (.int (4 : Int32))] [])) _
            refine XS.iload X93.here hx rfl (hb hby d1_3) rfl ?_
            show Steps p.tables e below (T93.setTop (mkF m 5 #[.val (.ref a), .val (.int (1 : Int32)), .val (.int (3 : Int32)), .val (.double y), .second, .val (.int (4 : Int32))] [(.int (4 : Int32))])) _
            refine XS.iloadN X93.here hx rfl (hb hby d1_5) rfl ?_
            show Steps p.tables e below (T93.setTop (mkF m 6 #[.val (.ref a), .val (.int (1 : Int32)), .val (.int (3 : Int32)), .val (.double y), .second, .val (.int (4 : Int32))] [(.int (1 : Int32)), (.int (4 : Int32))])) _
            refine XS.iloadN X93.here hx rfl (hb hby d1_6) rfl ?_
            show Steps p.tables e below (T93.setTop (mkF m 7 #[.val (.ref a), .val (.int (1 : Int32)), .val (.int (3 : Int32)), .val (.double y), .second, .val (.int (4 : Int32))] [(.int (3 : Int32)), (.int (1 : Int32)), (.int (4 : Int32))])) _
            refine XS.iadd X93.here hx rfl (hb hby d1_7) rfl ?_
            show Steps p.tables e below (T93.setTop (mkF m 8 #[.val (.ref a), .val (.int (1 : Int32)), .val (.int (3 : Int32)), .val (.double y), .second, .val (.int (4 : Int32))] [(.int (4 : Int32)), (.int (4 : Int32))])) _
            refine XS.icmpYes X93.here hx rfl (pc0 := 8) (pc' := 31) rfl (hb hby d1_8) rfl (flt (by decide : ¬ ((4 : Int32) < (4 : Int32)))).2.1 (by decide) (by decide) ?_
            exact kz
          obtain ⟨fs, hrr, hrun, hended, hW, hsame⟩ := X93.leave (v := none) (fun _ => rfl)
          refine ⟨_, _, ?_, hrun, hended, _, _, rfl, ?_, ⟨_, rfl⟩, hW, hsame.mono (by decide) (by decide)⟩
          · show Steps p.tables e below (T93.setTop (mkF m 31 #[.val (.ref a), .val (.int (1 : Int32)), .val (.int (3 : Int32)), .val (.double y), .second, .val (.int (4 : Int32))] [])) _
            exact X93.returnOut hx Bd.returns (hb hby d1_31) hrr
          · show QrmFl Z a (1 : Int32) (3 : Int32) y kc x0 x1 x2 x3 h0 n0 _ T93.heap _
            rw [e93]
            exact ⟨rfl, N93, Kp93, by simpa [own_exp, hs92, hs95, hs101] using Av_a⟩
    · skip
      refine own_go (A := s₁.setTop (mkF m 25 #[.val (.ref a), .val (.int (1 : Int32)), .val (.int (3 : Int32)), .val (.double y), .second, .val (.int (1 : Int32))] [])) (fun _ kz => ?_) ?_
      · show Steps p.tables e below (s₁.setTop (mkF m 17 #[.val (.ref a), .val (.int (1 : Int32)), .val (.int (3 : Int32)), .val (.double y), .second, .val (.int (1 : Int32))] [(.int (cmpValue (FP.dcmp x1 y) .g))])) _
        refine XS.ifYes X0.here hx rfl (pc0 := 17) (pc' := 25) rfl (hb hby d1_17) rfl ((if0 _ _).trans (flt hs92).2.1) (by decide) (by decide) ?_
        exact kz
      refine own_go (A := s₁.setTop (mkF m 14 #[.val (.ref a), .val (.int (1 : Int32)), .val (.int (3 : Int32)), .val (.double y), .second, .val (.int (2 : Int32))] [(.int (2 : Int32)), (.ref a)])) (fun _ kz => ?_) ?_
      · show Steps p.tables e below (s₁.setTop (mkF m 25 #[.val (.ref a), .val (.int (1 : Int32)), .val (.int (3 : Int32)), .val (.double y), .second, .val (.int (1 : Int32))] [])) _
        refine XS.iinc X0.here hx rfl (hb hby d1_25) rfl (l' := #[.val (.ref a), .val (.int (1 : Int32)), .val (.int (3 : Int32)), .val (.double y), .second, .val (.int (2 : Int32))]) rfl ?_
        show Steps p.tables e below (s₁.setTop (mkF m 28 #[.val (.ref a), .val (.int (1 : Int32)), .val (.int (3 : Int32)), .val (.double y), .second, .val (.int (2 : Int32))] [])) _
        refine XS.goto X0.here hx rfl (pc0 := 28) (pc' := 3) rfl (hb hby d1_28) (by decide) (by decide) ?_
        show Steps p.tables e below (s₁.setTop (mkF m 3 #[.val (.ref a), .val (.int (1 : Int32)), .val (.int (3 : Int32)), .val (.double y), .second, .val (.int (2 : Int32))] [])) _
        refine XS.iload X0.here hx rfl (hb hby d1_3) rfl ?_
        show Steps p.tables e below (s₁.setTop (mkF m 5 #[.val (.ref a), .val (.int (1 : Int32)), .val (.int (3 : Int32)), .val (.double y), .second, .val (.int (2 : Int32))] [(.int (2 : Int32))])) _
        refine XS.iloadN X0.here hx rfl (hb hby d1_5) rfl ?_
        show Steps p.tables e below (s₁.setTop (mkF m 6 #[.val (.ref a), .val (.int (1 : Int32)), .val (.int (3 : Int32)), .val (.double y), .second, .val (.int (2 : Int32))] [(.int (1 : Int32)), (.int (2 : Int32))])) _
        refine XS.iloadN X0.here hx rfl (hb hby d1_6) rfl ?_
        show Steps p.tables e below (s₁.setTop (mkF m 7 #[.val (.ref a), .val (.int (1 : Int32)), .val (.int (3 : Int32)), .val (.double y), .second, .val (.int (2 : Int32))] [(.int (3 : Int32)), (.int (1 : Int32)), (.int (2 : Int32))])) _
        refine XS.iadd X0.here hx rfl (hb hby d1_7) rfl ?_
        show Steps p.tables e below (s₁.setTop (mkF m 8 #[.val (.ref a), .val (.int (1 : Int32)), .val (.int (3 : Int32)), .val (.double y), .second, .val (.int (2 : Int32))] [(.int (4 : Int32)), (.int (2 : Int32))])) _
        refine XS.icmpNo X0.here hx rfl (hb hby d1_8) rfl (tlt (by decide : ((2 : Int32) < (4 : Int32)))).2.1 ?_
        show Steps p.tables e below (s₁.setTop (mkF m 11 #[.val (.ref a), .val (.int (1 : Int32)), .val (.int (3 : Int32)), .val (.double y), .second, .val (.int (2 : Int32))] [])) _
        refine XS.aloadN X0.here hx rfl (hb hby d1_11) rfl rfl ?_
        show Steps p.tables e below (s₁.setTop (mkF m 12 #[.val (.ref a), .val (.int (1 : Int32)), .val (.int (3 : Int32)), .val (.double y), .second, .val (.int (2 : Int32))] [(.ref a)])) _
        refine XS.iload X0.here hx rfl (hb hby d1_12) rfl ?_
        exact kz
      obtain ⟨cl103, Ar103, -, S103, M103, H103, -⟩ := id Av
      have hin103 : ¬ ((2 : Int32) < 0 ∨ cl103.slots.size ≤ ((2 : Int32)).toNatClampNeg) := inb_of S103 ⟨by decide, by decide⟩
      have hat103 : cl103.slots[((2 : Int32)).toNatClampNeg]? = some (.double x2) := H103.at hin103 rfl
      refine own_go (A := s₁.setTop (mkF m 15 #[.val (.ref a), .val (.int (1 : Int32)), .val (.int (3 : Int32)), .val (.double y), .second, .val (.int (2 : Int32))] [(.double x2)])) (fun _ kz => ?_) ?_
      · refine X0.daload hx (j := (2 : Int32)) (v := (.double x2)) (by rw [e0]; exact Ar103.1) (State.isArrayOf_alike hZ.alike Ar103.2.1) Ar103.2.2 hin103 hat103 (g := (mkF m 14 #[.val (.ref a), .val (.int (1 : Int32)), .val (.int (3 : Int32)), .val (.double y), .second, .val (.int (2 : Int32))] [(.int (2 : Int32)), (.ref a)])) rfl rfl (hb hby d1_14) _ ?_
        exact kz
      refine own_go (A := s₁.setTop (mkF m 17 #[.val (.ref a), .val (.int (1 : Int32)), .val (.int (3 : Int32)), .val (.double y), .second, .val (.int (2 : Int32))] [(.int (cmpValue (FP.dcmp x2 y) .g))])) (fun _ kz => ?_) ?_
      · show Steps p.tables e below (s₁.setTop (mkF m 15 #[.val (.ref a), .val (.int (1 : Int32)), .val (.int (3 : Int32)), .val (.double y), .second, .val (.int (2 : Int32))] [(.double x2)])) _
        refine XS.dloadN X0.here hx rfl (hb hby d1_15) rfl ?_
        show Steps p.tables e below (s₁.setTop (mkF m 16 #[.val (.ref a), .val (.int (1 : Int32)), .val (.int (3 : Int32)), .val (.double y), .second, .val (.int (2 : Int32))] [(.double y), (.double x2)])) _
        refine XS.dcmpS X0.here hx rfl (hb hby d1_16) rfl rfl ?_
        exact kz
      by_cases hs104 : (cmpValue (FP.dcmp x2 y) .g) < (0 : Int32)
      · skip
        refine own_go (A := s₁.setTop (mkF m 20 #[.val (.ref a), .val (.int (1 : Int32)), .val (.int (3 : Int32)), .val (.double y), .second, .val (.int (2 : Int32))] [])) (fun _ kz => ?_) ?_
        · show Steps p.tables e below (s₁.setTop (mkF m 17 #[.val (.ref a), .val (.int (1 : Int32)), .val (.int (3 : Int32)), .val (.double y), .second, .val (.int (2 : Int32))] [(.int (cmpValue (FP.dcmp x2 y) .g))])) _
          refine XS.ifNo X0.here hx rfl (hb hby d1_17) rfl ((if0 _ _).trans (tlt hs104).2.1) ?_
          exact kz
        refine own_go (A := s₁.setTop (mkF m 24 #[.val (.ref a), .val (.int (1 : Int32)), .val (.int (3 : Int32)), .val (.double y), .second, .val (.int (2 : Int32))] [(.double FP.dconst0), (.int (2 : Int32)), (.ref a)])) (fun _ kz => ?_) ?_
        · show Steps p.tables e below (s₁.setTop (mkF m 20 #[.val (.ref a), .val (.int (1 : Int32)), .val (.int (3 : Int32)), .val (.double y), .second, .val (.int (2 : Int32))] [])) _
          refine XS.aloadN X0.here hx rfl (hb hby d1_20) rfl rfl ?_
          show Steps p.tables e below (s₁.setTop (mkF m 21 #[.val (.ref a), .val (.int (1 : Int32)), .val (.int (3 : Int32)), .val (.double y), .second, .val (.int (2 : Int32))] [(.ref a)])) _
          refine XS.iload X0.here hx rfl (hb hby d1_21) rfl ?_
          show Steps p.tables e below (s₁.setTop (mkF m 23 #[.val (.ref a), .val (.int (1 : Int32)), .val (.int (3 : Int32)), .val (.double y), .second, .val (.int (2 : Int32))] [(.int (2 : Int32)), (.ref a)])) _
          refine XS.dconst0 X0.here hx rfl (hb hby d1_23) rfl ?_
          exact kz
        obtain ⟨cl105, Ar105, q105, S105, M105, H105, G105⟩ := id Av
        have hin105 : ¬ ((2 : Int32) < 0 ∨ cl105.slots.size ≤ ((2 : Int32)).toNatClampNeg) := inb_of S105 ⟨by decide, by decide⟩
        obtain ⟨T105, h105, X105, e105, W105, st105⟩ := stD X0 hx hZ e0 Ar105 (j := (2 : Int32)) hin105 (g := (mkF m 24 #[.val (.ref a), .val (.int (1 : Int32)), .val (.int (3 : Int32)), .val (.double y), .second, .val (.int (2 : Int32))] [(.double FP.dconst0), (.int (2 : Int32)), (.ref a)])) rfl rfl (hb hby d1_24)
        have Aw105 := Arv.set Ar105 q105 S105 M105 H105 G105 rfl W105 2 rfl (Nat.le_of_ble_eq_true rfl)
        have Z105 : n0 ≤ h105.size := Nat.le_trans Z0 (Keep.of_wr W105).1
        have Kp105 : Keep h0 h105 [a] := Kp0.wr W105 (Or.inl (List.mem_of_getElem? (i := 0) rfl))
        have Av_a : Arv Z h105 a kc .double (4 : Int32) [(.double x0), (.double x1), (.double FP.dconst0), (.double x3)] (.double (0 : UInt64)) := Aw105
        have N105 := Fr.snoc X105 N0 g_a
        refine own_go (A := T105.setTop (mkF m 25 #[.val (.ref a), .val (.int (1 : Int32)), .val (.int (3 : Int32)), .val (.double y), .second, .val (.int (2 : Int32))] [])) (fun _ kz => st105 _ kz) ?_
        refine own_go (A := T105.setTop (mkF m 14 #[.val (.ref a), .val (.int (1 : Int32)), .val (.int (3 : Int32)), .val (.double y), .second, .val (.int (3 : Int32))] [(.int (3 : Int32)), (.ref a)])) (fun _ kz => ?_) ?_
        · show Steps p.tables e below (T105.setTop (mkF m 25 #[.val (.ref a), .val (.int (1 : Int32)), .val (.int (3 : Int32)), .val (.double y), .second, .val (.int (2 : Int32))] [])) _
          refine XS.iinc X105.here hx rfl (hb hby d1_25) rfl (l' := #[.val (.ref a), .val (.int (1 : Int32)), .val (.int (3 : Int32)), .val (.double y), .second, .val (.int (3 : Int32))]) rfl ?_
          show Steps p.tables e below (T105.setTop (mkF m 28 #[.val (.ref a), .val (.int (1 : Int32)), .val (.int (3 : Int32)), .val (.double y), .second, .val (.int (3 : Int32))] [])) _
          refine XS.goto X105.here hx rfl (pc0 := 28) (pc' := 3) rfl (hb hby d1_28) (by decide) (by decide) ?_
          show Steps p.tables e below (T105.setTop (mkF m 3 #[.val (.ref a), .val (.int (1 : Int32)), .val (.int (3 : Int32)), .val (.double y), .second, .val (.int (3 : Int32))] [])) _
          refine XS.iload X105.here hx rfl (hb hby d1_3) rfl ?_
          show Steps p.tables e below (T105.setTop (mkF m 5 #[.val (.ref a), .val (.int (1 : Int32)), .val (.int (3 : Int32)), .val (.double y), .second, .val (.int (3 : Int32))] [(.int (3 : Int32))])) _
          refine XS.iloadN X105.here hx rfl (hb hby d1_5) rfl ?_
          show Steps p.tables e below (T105.setTop (mkF m 6 #[.val (.ref a), .val (.int (1 : Int32)), .val (.int (3 : Int32)), .val (.double y), .second, .val (.int (3 : Int32))] [(.int (1 : Int32)), (.int (3 : Int32))])) _
          refine XS.iloadN X105.here hx rfl (hb hby d1_6) rfl ?_
          show Steps p.tables e below (T105.setTop (mkF m 7 #[.val (.ref a), .val (.int (1 : Int32)), .val (.int (3 : Int32)), .val (.double y), .second, .val (.int (3 : Int32))] [(.int (3 : Int32)), (.int (1 : Int32)), (.int (3 : Int32))])) _
          refine XS.iadd X105.here hx rfl (hb hby d1_7) rfl ?_
          show Steps p.tables e below (T105.setTop (mkF m 8 #[.val (.ref a), .val (.int (1 : Int32)), .val (.int (3 : Int32)), .val (.double y), .second, .val (.int (3 : Int32))] [(.int (4 : Int32)), (.int (3 : Int32))])) _
          refine XS.icmpNo X105.here hx rfl (hb hby d1_8) rfl (tlt (by decide : ((3 : Int32) < (4 : Int32)))).2.1 ?_
          show Steps p.tables e below (T105.setTop (mkF m 11 #[.val (.ref a), .val (.int (1 : Int32)), .val (.int (3 : Int32)), .val (.double y), .second, .val (.int (3 : Int32))] [])) _
          refine XS.aloadN X105.here hx rfl (hb hby d1_11) rfl rfl ?_
          show Steps p.tables e below (T105.setTop (mkF m 12 #[.val (.ref a), .val (.int (1 : Int32)), .val (.int (3 : Int32)), .val (.double y), .second, .val (.int (3 : Int32))] [(.ref a)])) _
          refine XS.iload X105.here hx rfl (hb hby d1_12) rfl ?_
          exact kz
        obtain ⟨cl106, Ar106, -, S106, M106, H106, -⟩ := id Av_a
        have hin106 : ¬ ((3 : Int32) < 0 ∨ cl106.slots.size ≤ ((3 : Int32)).toNatClampNeg) := inb_of S106 ⟨by decide, by decide⟩
        have hat106 : cl106.slots[((3 : Int32)).toNatClampNeg]? = some (.double x3) := H106.at hin106 rfl
        refine own_go (A := T105.setTop (mkF m 15 #[.val (.ref a), .val (.int (1 : Int32)), .val (.int (3 : Int32)), .val (.double y), .second, .val (.int (3 : Int32))] [(.double x3)])) (fun _ kz => ?_) ?_
        · refine X105.daload hx (j := (3 : Int32)) (v := (.double x3)) (by rw [e105]; exact Ar106.1) (State.isArrayOf_alike hZ.alike Ar106.2.1) Ar106.2.2 hin106 hat106 (g := (mkF m 14 #[.val (.ref a), .val (.int (1 : Int32)), .val (.int (3 : Int32)), .val (.double y), .second, .val (.int (3 : Int32))] [(.int (3 : Int32)), (.ref a)])) rfl rfl (hb hby d1_14) _ ?_
          exact kz
        refine own_go (A := T105.setTop (mkF m 17 #[.val (.ref a), .val (.int (1 : Int32)), .val (.int (3 : Int32)), .val (.double y), .second, .val (.int (3 : Int32))] [(.int (cmpValue (FP.dcmp x3 y) .g))])) (fun _ kz => ?_) ?_
        · show Steps p.tables e below (T105.setTop (mkF m 15 #[.val (.ref a), .val (.int (1 : Int32)), .val (.int (3 : Int32)), .val (.double y), .second, .val (.int (3 : Int32))] [(.double x3)])) _
          refine XS.dloadN X105.here hx rfl (hb hby d1_15) rfl ?_
          show Steps p.tables e below (T105.setTop (mkF m 16 #[.val (.ref a), .val (.int (1 : Int32)), .val (.int (3 : Int32)), .val (.double y), .second, .val (.int (3 : Int32))] [(.double y), (.double x3)])) _
          refine XS.dcmpS X105.here hx rfl (hb hby d1_16) rfl rfl ?_
          exact kz
        by_cases hs107 : (cmpValue (FP.dcmp x3 y) .g) < (0 : Int32)
        · skip
          refine own_go (A := T105.setTop (mkF m 20 #[.val (.ref a), .val (.int (1 : Int32)), .val (.int (3 : Int32)), .val (.double y), .second, .val (.int (3 : Int32))] [])) (fun _ kz => ?_) ?_
          · show Steps p.tables e below (T105.setTop (mkF m 17 #[.val (.ref a), .val (.int (1 : Int32)), .val (.int (3 : Int32)), .val (.double y), .second, .val (.int (3 : Int32))] [(.int (cmpValue (FP.dcmp x3 y) .g))])) _
            refine XS.ifNo X105.here hx rfl (hb hby d1_17) rfl ((if0 _ _).trans (tlt hs107).2.1) ?_
            exact kz
          refine own_go (A := T105.setTop (mkF m 24 #[.val (.ref a), .val (.int (1 : Int32)), .val (.int (3 : Int32)), .val (.double y), .second, .val (.int (3 : Int32))] [(.double FP.dconst0), (.int (3 : Int32)), (.ref a)])) (fun _ kz => ?_) ?_
          · show Steps p.tables e below (T105.setTop (mkF m 20 #[.val (.ref a), .val (.int (1 : Int32)), .val (.int (3 : Int32)), .val (.double y), .second, .val (.int (3 : Int32))] [])) _
            refine XS.aloadN X105.here hx rfl (hb hby d1_20) rfl rfl ?_
            show Steps p.tables e below (T105.setTop (mkF m 21 #[.val (.ref a), .val (.int (1 : Int32)), .val (.int (3 : Int32)), .val (.double y), .second, .val (.int (3 : Int32))] [(.ref a)])) _
            refine XS.iload X105.here hx rfl (hb hby d1_21) rfl ?_
            show Steps p.tables e below (T105.setTop (mkF m 23 #[.val (.ref a), .val (.int (1 : Int32)), .val (.int (3 : Int32)), .val (.double y), .second, .val (.int (3 : Int32))] [(.int (3 : Int32)), (.ref a)])) _
            refine XS.dconst0 X105.here hx rfl (hb hby d1_23) rfl ?_
            exact kz
          obtain ⟨cl108, Ar108, q108, S108, M108, H108, G108⟩ := id Av_a
          have hin108 : ¬ ((3 : Int32) < 0 ∨ cl108.slots.size ≤ ((3 : Int32)).toNatClampNeg) := inb_of S108 ⟨by decide, by decide⟩
          obtain ⟨T108, h108, X108, e108, W108, st108⟩ := stD X105 hx hZ e105 Ar108 (j := (3 : Int32)) hin108 (g := (mkF m 24 #[.val (.ref a), .val (.int (1 : Int32)), .val (.int (3 : Int32)), .val (.double y), .second, .val (.int (3 : Int32))] [(.double FP.dconst0), (.int (3 : Int32)), (.ref a)])) rfl rfl (hb hby d1_24)
          have Aw108 := Arv.set Ar108 q108 S108 M108 H108 G108 rfl W108 3 rfl (Nat.le_of_ble_eq_true rfl)
          have Z108 : n0 ≤ h108.size := Nat.le_trans Z105 (Keep.of_wr W108).1
          have Kp108 : Keep h0 h108 [a] := Kp105.wr W108 (Or.inl (List.mem_of_getElem? (i := 0) rfl))
          have Av_a : Arv Z h108 a kc .double (4 : Int32) [(.double x0), (.double x1), (.double FP.dconst0), (.double FP.dconst0)] (.double (0 : UInt64)) := Aw108
          have N108 := Fr.snoc X108 N105 g_a
          refine own_go (A := T108.setTop (mkF m 25 #[.val (.ref a), .val (.int (1 : Int32)), .val (.int (3 : Int32)), .val (.double y), .second, .val (.int (3 : Int32))] [])) (fun _ kz => st108 _ kz) ?_
          refine own_go (A := T108.setTop (mkF m 31 #[.val (.ref a), .val (.int (1 : Int32)), .val (.int (3 : Int32)), .val (.double y), .second, .val (.int (4 : Int32))] [])) (fun _ kz => ?_) ?_
          · show Steps p.tables e below (T108.setTop (mkF m 25 #[.val (.ref a), .val (.int (1 : Int32)), .val (.int (3 : Int32)), .val (.double y), .second, .val (.int (3 : Int32))] [])) _
            refine XS.iinc X108.here hx rfl (hb hby d1_25) rfl (l' := #[.val (.ref a), .val (.int (1 : Int32)), .val (.int (3 : Int32)), .val (.double y), .second, .val (.int (4 : Int32))]) rfl ?_
            show Steps p.tables e below (T108.setTop (mkF m 28 #[.val (.ref a), .val (.int (1 : Int32)), .val (.int (3 : Int32)), .val (.double y), .second, .val (.int (4 : Int32))] [])) _
            refine XS.goto X108.here hx rfl (pc0 := 28) (pc' := 3) rfl (hb hby d1_28) (by decide) (by decide) ?_
            show Steps p.tables e below (T108.setTop (mkF m 3 #[.val (.ref a), .val (.int (1 : Int32)), .val (.int (3 : Int32)), .val (.double y), .second, .val (.int (4 : Int32))] [])) _
            refine XS.iload X108.here hx rfl (hb hby d1_3) rfl ?_
            show Steps p.tables e below (T108.setTop (mkF m 5 #[.val (.ref a), .val (.int (1 : Int32)), .val (.int (3 : Int32)), .val (.double y), .second, .val (.int (4 : Int32))] [(.int (4 : Int32))])) _
            refine XS.iloadN X108.here hx rfl (hb hby d1_5) rfl ?_
            show Steps p.tables e below (T108.setTop (mkF m 6 #[.val (.ref a), .val (.int (1 : Int32)), .val (.int (3 : Int32)), .val (.double y), .second, .val (.int (4 : Int32))] [(.int (1 : Int32)), (.int (4 : Int32))])) _
            refine XS.iloadN X108.here hx rfl (hb hby d1_6) rfl ?_
            show Steps p.tables e below (T108.setTop (mkF m 7 #[.val (.ref a), .val (.int (1 : Int32)), .val (.int (3 : Int32)), .val (.double y), .second, .val (.int (4 : Int32))] [(.int (3 : Int32)), (.int (1 : Int32)), (.int (4 : Int32))])) _
            refine XS.iadd X108.here hx rfl (hb hby d1_7) rfl ?_
            show Steps p.tables e below (T108.setTop (mkF m 8 #[.val (.ref a), .val (.int (1 : Int32)), .val (.int (3 : Int32)), .val (.double y), .second, .val (.int (4 : Int32))] [(.int (4 : Int32)), (.int (4 : Int32))])) _
            refine XS.icmpYes X108.here hx rfl (pc0 := 8) (pc' := 31) rfl (hb hby d1_8) rfl (flt (by decide : ¬ ((4 : Int32) < (4 : Int32)))).2.1 (by decide) (by decide) ?_
            exact kz
          obtain ⟨fs, hrr, hrun, hended, hW, hsame⟩ := X108.leave (v := none) (fun _ => rfl)
          refine ⟨_, _, ?_, hrun, hended, _, _, rfl, ?_, ⟨_, rfl⟩, hW, hsame.mono (by decide) (by decide)⟩
          · show Steps p.tables e below (T108.setTop (mkF m 31 #[.val (.ref a), .val (.int (1 : Int32)), .val (.int (3 : Int32)), .val (.double y), .second, .val (.int (4 : Int32))] [])) _
            exact X108.returnOut hx Bd.returns (hb hby d1_31) hrr
          · show QrmFl Z a (1 : Int32) (3 : Int32) y kc x0 x1 x2 x3 h0 n0 _ T108.heap _
            rw [e108]
            exact ⟨rfl, N108, Kp108, by simpa [own_exp, hs92, hs104, hs107] using Av_a⟩
        · skip
          refine own_go (A := T105.setTop (mkF m 25 #[.val (.ref a), .val (.int (1 : Int32)), .val (.int (3 : Int32)), .val (.double y), .second, .val (.int (3 : Int32))] [])) (fun _ kz => ?_) ?_
          · show Steps p.tables e below (T105.setTop (mkF m 17 #[.val (.ref a), .val (.int (1 : Int32)), .val (.int (3 : Int32)), .val (.double y), .second, .val (.int (3 : Int32))] [(.int (cmpValue (FP.dcmp x3 y) .g))])) _
            refine XS.ifYes X105.here hx rfl (pc0 := 17) (pc' := 25) rfl (hb hby d1_17) rfl ((if0 _ _).trans (flt hs107).2.1) (by decide) (by decide) ?_
            exact kz
          refine own_go (A := T105.setTop (mkF m 31 #[.val (.ref a), .val (.int (1 : Int32)), .val (.int (3 : Int32)), .val (.double y), .second, .val (.int (4 : Int32))] [])) (fun _ kz => ?_) ?_
          · show Steps p.tables e below (T105.setTop (mkF m 25 #[.val (.ref a), .val (.int (1 : Int32)), .val (.int (3 : Int32)), .val (.double y), .second, .val (.int (3 : Int32))] [])) _
            refine XS.iinc X105.here hx rfl (hb hby d1_25) rfl (l' := #[.val (.ref a), .val (.int (1 : Int32)), .val (.int (3 : Int32)), .val (.double y), .second, .val (.int (4 : Int32))]) rfl ?_
            show Steps p.tables e below (T105.setTop (mkF m 28 #[.val (.ref a), .val (.int (1 : Int32)), .val (.int (3 : Int32)), .val (.double y), .second, .val (.int (4 : Int32))] [])) _
            refine XS.goto X105.here hx rfl (pc0 := 28) (pc' := 3) rfl (hb hby d1_28) (by decide) (by decide) ?_
            show Steps p.tables e below (T105.setTop (mkF m 3 #[.val (.ref a), .val (.int (1 : Int32)), .val (.int (3 : Int32)), .val (.double y), .second, .val (.int (4 : Int32))] [])) _
            refine XS.iload X105.here hx rfl (hb hby d1_3) rfl ?_
            show Steps p.tables e below (T105.setTop (mkF m 5 #[.val (.ref a), .val (.int (1 : Int32)), .val (.int (3 : Int32)), .val (.double y), .second, .val (.int (4 : Int32))] [(.int (4 : Int32))])) _
            refine XS.iloadN X105.here hx rfl (hb hby d1_5) rfl ?_
            show Steps p.tables e below (T105.setTop (mkF m 6 #[.val (.ref a), .val (.int (1 : Int32)), .val (.int (3 : Int32)), .val (.double y), .second, .val (.int (4 : Int32))] [(.int (1 : Int32)), (.int (4 : Int32))])) _
            refine XS.iloadN X105.here hx rfl (hb hby d1_6) rfl ?_
            show Steps p.tables e below (T105.setTop (mkF m 7 #[.val (.ref a), .val (.int (1 : Int32)), .val (.int (3 : Int32)), .val (.double y), .second, .val (.int (4 : Int32))] [(.int (3 : Int32)), (.int (1 : Int32)), (.int (4 : Int32))])) _
            refine XS.iadd X105.here hx rfl (hb hby d1_7) rfl ?_
            show Steps p.tables e below (T105.setTop (mkF m 8 #[.val (.ref a), .val (.int (1 : Int32)), .val (.int (3 : Int32)), .val (.double y), .second, .val (.int (4 : Int32))] [(.int (4 : Int32)), (.int (4 : Int32))])) _
            refine XS.icmpYes X105.here hx rfl (pc0 := 8) (pc' := 31) rfl (hb hby d1_8) rfl (flt (by decide : ¬ ((4 : Int32) < (4 : Int32)))).2.1 (by decide) (by decide) ?_
            exact kz
          obtain ⟨fs, hrr, hrun, hended, hW, hsame⟩ := X105.leave (v := none) (fun _ => rfl)
          refine ⟨_, _, ?_, hrun, hended, _, _, rfl, ?_, ⟨_, rfl⟩, hW, hsame.mono (by decide) (by decide)⟩
          · show Steps p.tables e below (T105.setTop (mkF m 31 #[.val (.ref a), .val (.int (1 : Int32)), .val (.int (3 : Int32)), .val (.double y), .second, .val (.int (4 : Int32))] [])) _
            exact X105.returnOut hx Bd.returns (hb hby d1_31) hrr
          · show QrmFl Z a (1 : Int32) (3 : Int32) y kc x0 x1 x2 x3 h0 n0 _ T105.heap _
            rw [e105]
            exact ⟨rfl, N105, Kp105, by simpa [own_exp, hs92, hs104, hs107] using Av_a⟩
      · skip
        refine own_go (A := s₁.setTop (mkF m 25 #[.val (.ref a), .val (.int (1 : Int32)), .val (.int (3 : Int32)), .val (.double y), .second, .val (.int (2 : Int32))] [])) (fun _ kz => ?_) ?_
        · show Steps p.tables e below (s₁.setTop (mkF m 17 #[.val (.ref a), .val (.int (1 : Int32)), .val (.int (3 : Int32)), .val (.double y), .second, .val (.int (2 : Int32))] [(.int (cmpValue (FP.dcmp x2 y) .g))])) _
          refine XS.ifYes X0.here hx rfl (pc0 := 17) (pc' := 25) rfl (hb hby d1_17) rfl ((if0 _ _).trans (flt hs104).2.1) (by decide) (by decide) ?_
          exact kz
        refine own_go (A := s₁.setTop (mkF m 14 #[.val (.ref a), .val (.int (1 : Int32)), .val (.int (3 : Int32)), .val (.double y), .second, .val (.int (3 : Int32))] [(.int (3 : Int32)), (.ref a)])) (fun _ kz => ?_) ?_
        · show Steps p.tables e below (s₁.setTop (mkF m 25 #[.val (.ref a), .val (.int (1 : Int32)), .val (.int (3 : Int32)), .val (.double y), .second, .val (.int (2 : Int32))] [])) _
          refine XS.iinc X0.here hx rfl (hb hby d1_25) rfl (l' := #[.val (.ref a), .val (.int (1 : Int32)), .val (.int (3 : Int32)), .val (.double y), .second, .val (.int (3 : Int32))]) rfl ?_
          show Steps p.tables e below (s₁.setTop (mkF m 28 #[.val (.ref a), .val (.int (1 : Int32)), .val (.int (3 : Int32)), .val (.double y), .second, .val (.int (3 : Int32))] [])) _
          refine XS.goto X0.here hx rfl (pc0 := 28) (pc' := 3) rfl (hb hby d1_28) (by decide) (by decide) ?_
          show Steps p.tables e below (s₁.setTop (mkF m 3 #[.val (.ref a), .val (.int (1 : Int32)), .val (.int (3 : Int32)), .val (.double y), .second, .val (.int (3 : Int32))] [])) _
          refine XS.iload X0.here hx rfl (hb hby d1_3) rfl ?_
          show Steps p.tables e below (s₁.setTop (mkF m 5 #[.val (.ref a), .val (.int (1 : Int32)), .val (.int (3 : Int32)), .val (.double y), .second, .val (.int (3 : Int32))] [(.int (3 : Int32))])) _
          refine XS.iloadN X0.here hx rfl (hb hby d1_5) rfl ?_
          show Steps p.tables e below (s₁.setTop (mkF m 6 #[.val (.ref a), .val (.int (1 : Int32)), .val (.int (3 : Int32)), .val (.double y), .second, .val (.int (3 : Int32))] [(.int (1 : Int32)), (.int (3 : Int32))])) _
          refine XS.iloadN X0.here hx rfl (hb hby d1_6) rfl ?_
          show Steps p.tables e below (s₁.setTop (mkF m 7 #[.val (.ref a), .val (.int (1 : Int32)), .val (.int (3 : Int32)), .val (.double y), .second, .val (.int (3 : Int32))] [(.int (3 : Int32)), (.int (1 : Int32)), (.int (3 : Int32))])) _
          refine XS.iadd X0.here hx rfl (hb hby d1_7) rfl ?_
          show Steps p.tables e below (s₁.setTop (mkF m 8 #[.val (.ref a), .val (.int (1 : Int32)), .val (.int (3 : Int32)), .val (.double y), .second, .val (.int (3 : Int32))] [(.int (4 : Int32)), (.int (3 : Int32))])) _
          refine XS.icmpNo X0.here hx rfl (hb hby d1_8) rfl (tlt (by decide : ((3 : Int32) < (4 : Int32)))).2.1 ?_
          show Steps p.tables e below (s₁.setTop (mkF m 11 #[.val (.ref a), .val (.int (1 : Int32)), .val (.int (3 : Int32)), .val (.double y), .second, .val (.int (3 : Int32))] [])) _
          refine XS.aloadN X0.here hx rfl (hb hby d1_11) rfl rfl ?_
          show Steps p.tables e below (s₁.setTop (mkF m 12 #[.val (.ref a), .val (.int (1 : Int32)), .val (.int (3 : Int32)), .val (.double y), .second, .val (.int (3 : Int32))] [(.ref a)])) _
          refine XS.iload X0.here hx rfl (hb hby d1_12) rfl ?_
          exact kz
        obtain ⟨cl109, Ar109, -, S109, M109, H109, -⟩ := id Av
        have hin109 : ¬ ((3 : Int32) < 0 ∨ cl109.slots.size ≤ ((3 : Int32)).toNatClampNeg) := inb_of S109 ⟨by decide, by decide⟩
        have hat109 : cl109.slots[((3 : Int32)).toNatClampNeg]? = some (.double x3) := H109.at hin109 rfl
        refine own_go (A := s₁.setTop (mkF m 15 #[.val (.ref a), .val (.int (1 : Int32)), .val (.int (3 : Int32)), .val (.double y), .second, .val (.int (3 : Int32))] [(.double x3)])) (fun _ kz => ?_) ?_
        · refine X0.daload hx (j := (3 : Int32)) (v := (.double x3)) (by rw [e0]; exact Ar109.1) (State.isArrayOf_alike hZ.alike Ar109.2.1) Ar109.2.2 hin109 hat109 (g := (mkF m 14 #[.val (.ref a), .val (.int (1 : Int32)), .val (.int (3 : Int32)), .val (.double y), .second, .val (.int (3 : Int32))] [(.int (3 : Int32)), (.ref a)])) rfl rfl (hb hby d1_14) _ ?_
          exact kz
        refine own_go (A := s₁.setTop (mkF m 17 #[.val (.ref a), .val (.int (1 : Int32)), .val (.int (3 : Int32)), .val (.double y), .second, .val (.int (3 : Int32))] [(.int (cmpValue (FP.dcmp x3 y) .g))])) (fun _ kz => ?_) ?_
        · show Steps p.tables e below (s₁.setTop (mkF m 15 #[.val (.ref a), .val (.int (1 : Int32)), .val (.int (3 : Int32)), .val (.double y), .second, .val (.int (3 : Int32))] [(.double x3)])) _
          refine XS.dloadN X0.here hx rfl (hb hby d1_15) rfl ?_
          show Steps p.tables e below (s₁.setTop (mkF m 16 #[.val (.ref a), .val (.int (1 : Int32)), .val (.int (3 : Int32)), .val (.double y), .second, .val (.int (3 : Int32))] [(.double y), (.double x3)])) _
          refine XS.dcmpS X0.here hx rfl (hb hby d1_16) rfl rfl ?_
          exact kz
        by_cases hs110 : (cmpValue (FP.dcmp x3 y) .g) < (0 : Int32)
        · skip
          refine own_go (A := s₁.setTop (mkF m 20 #[.val (.ref a), .val (.int (1 : Int32)), .val (.int (3 : Int32)), .val (.double y), .second, .val (.int (3 : Int32))] [])) (fun _ kz => ?_) ?_
          · show Steps p.tables e below (s₁.setTop (mkF m 17 #[.val (.ref a), .val (.int (1 : Int32)), .val (.int (3 : Int32)), .val (.double y), .second, .val (.int (3 : Int32))] [(.int (cmpValue (FP.dcmp x3 y) .g))])) _
            refine XS.ifNo X0.here hx rfl (hb hby d1_17) rfl ((if0 _ _).trans (tlt hs110).2.1) ?_
            exact kz
          refine own_go (A := s₁.setTop (mkF m 24 #[.val (.ref a), .val (.int (1 : Int32)), .val (.int (3 : Int32)), .val (.double y), .second, .val (.int (3 : Int32))] [(.double FP.dconst0), (.int (3 : Int32)), (.ref a)])) (fun _ kz => ?_) ?_
          · show Steps p.tables e below (s₁.setTop (mkF m 20 #[.val (.ref a), .val (.int (1 : Int32)), .val (.int (3 : Int32)), .val (.double y), .second, .val (.int (3 : Int32))] [])) _
            refine XS.aloadN X0.here hx rfl (hb hby d1_20) rfl rfl ?_
            show Steps p.tables e below (s₁.setTop (mkF m 21 #[.val (.ref a), .val (.int (1 : Int32)), .val (.int (3 : Int32)), .val (.double y), .second, .val (.int (3 : Int32))] [(.ref a)])) _
            refine XS.iload X0.here hx rfl (hb hby d1_21) rfl ?_
            show Steps p.tables e below (s₁.setTop (mkF m 23 #[.val (.ref a), .val (.int (1 : Int32)), .val (.int (3 : Int32)), .val (.double y), .second, .val (.int (3 : Int32))] [(.int (3 : Int32)), (.ref a)])) _
            refine XS.dconst0 X0.here hx rfl (hb hby d1_23) rfl ?_
            exact kz
          obtain ⟨cl111, Ar111, q111, S111, M111, H111, G111⟩ := id Av
          have hin111 : ¬ ((3 : Int32) < 0 ∨ cl111.slots.size ≤ ((3 : Int32)).toNatClampNeg) := inb_of S111 ⟨by decide, by decide⟩
          obtain ⟨T111, h111, X111, e111, W111, st111⟩ := stD X0 hx hZ e0 Ar111 (j := (3 : Int32)) hin111 (g := (mkF m 24 #[.val (.ref a), .val (.int (1 : Int32)), .val (.int (3 : Int32)), .val (.double y), .second, .val (.int (3 : Int32))] [(.double FP.dconst0), (.int (3 : Int32)), (.ref a)])) rfl rfl (hb hby d1_24)
          have Aw111 := Arv.set Ar111 q111 S111 M111 H111 G111 rfl W111 3 rfl (Nat.le_of_ble_eq_true rfl)
          have Z111 : n0 ≤ h111.size := Nat.le_trans Z0 (Keep.of_wr W111).1
          have Kp111 : Keep h0 h111 [a] := Kp0.wr W111 (Or.inl (List.mem_of_getElem? (i := 0) rfl))
          have Av_a : Arv Z h111 a kc .double (4 : Int32) [(.double x0), (.double x1), (.double x2), (.double FP.dconst0)] (.double (0 : UInt64)) := Aw111
          have N111 := Fr.snoc X111 N0 g_a
          refine own_go (A := T111.setTop (mkF m 25 #[.val (.ref a), .val (.int (1 : Int32)), .val (.int (3 : Int32)), .val (.double y), .second, .val (.int (3 : Int32))] [])) (fun _ kz => st111 _ kz) ?_
          refine own_go (A := T111.setTop (mkF m 31 #[.val (.ref a), .val (.int (1 : Int32)), .val (.int (3 : Int32)), .val (.double y), .second, .val (.int (4 : Int32))] [])) (fun _ kz => ?_) ?_
          · show Steps p.tables e below (T111.setTop (mkF m 25 #[.val (.ref a), .val (.int (1 : Int32)), .val (.int (3 : Int32)), .val (.double y), .second, .val (.int (3 : Int32))] [])) _
            refine XS.iinc X111.here hx rfl (hb hby d1_25) rfl (l' := #[.val (.ref a), .val (.int (1 : Int32)), .val (.int (3 : Int32)), .val (.double y), .second, .val (.int (4 : Int32))]) rfl ?_
            show Steps p.tables e below (T111.setTop (mkF m 28 #[.val (.ref a), .val (.int (1 : Int32)), .val (.int (3 : Int32)), .val (.double y), .second, .val (.int (4 : Int32))] [])) _
            refine XS.goto X111.here hx rfl (pc0 := 28) (pc' := 3) rfl (hb hby d1_28) (by decide) (by decide) ?_
            show Steps p.tables e below (T111.setTop (mkF m 3 #[.val (.ref a), .val (.int (1 : Int32)), .val (.int (3 : Int32)), .val (.double y), .second, .val (.int (4 : Int32))] [])) _
            refine XS.iload X111.here hx rfl (hb hby d1_3) rfl ?_
            show Steps p.tables e below (T111.setTop (mkF m 5 #[.val (.ref a), .val (.int (1 : Int32)), .val (.int (3 : Int32)), .val (.double y), .second, .val (.int (4 : Int32))] [(.int (4 : Int32))])) _
            refine XS.iloadN X111.here hx rfl (hb hby d1_5) rfl ?_
            show Steps p.tables e below (T111.setTop (mkF m 6 #[.val (.ref a), .val (.int (1 : Int32)), .val (.int (3 : Int32)), .val (.double y), .second, .val (.int (4 : Int32))] [(.int (1 : Int32)), (.int (4 : Int32))])) _
            refine XS.iloadN X111.here hx rfl (hb hby d1_6) rfl ?_
            show Steps p.tables e below (T111.setTop (mkF m 7 #[.val (.ref a), .val (.int (1 : Int32)), .val (.int (3 : Int32)), .val (.double y), .second, .val (.int (4 : Int32))] [(.int (3 : Int32)), (.int (1 : Int32)), (.int (4 : Int32))])) _
            refine XS.iadd X111.here hx rfl (hb hby d1_7) rfl ?_
            show Steps p.tables e below (T111.setTop (mkF m 8 #[.val (.ref a), .val (.int (1 : Int32)), .val (.int (3 : Int32)), .val (.double y), .second, .val (.int (4 : Int32))] [(.int (4 : Int32)), (.int (4 : Int32))])) _
            refine XS.icmpYes X111.here hx rfl (pc0 := 8) (pc' := 31) rfl (hb hby d1_8) rfl (flt (by decide : ¬ ((4 : Int32) < (4 : Int32)))).2.1 (by decide) (by decide) ?_
            exact kz
          obtain ⟨fs, hrr, hrun, hended, hW, hsame⟩ := X111.leave (v := none) (fun _ => rfl)
          refine ⟨_, _, ?_, hrun, hended, _, _, rfl, ?_, ⟨_, rfl⟩, hW, hsame.mono (by decide) (by decide)⟩
          · show Steps p.tables e below (T111.setTop (mkF m 31 #[.val (.ref a), .val (.int (1 : Int32)), .val (.int (3 : Int32)), .val (.double y), .second, .val (.int (4 : Int32))] [])) _
            exact X111.returnOut hx Bd.returns (hb hby d1_31) hrr
          · show QrmFl Z a (1 : Int32) (3 : Int32) y kc x0 x1 x2 x3 h0 n0 _ T111.heap _
            rw [e111]
            exact ⟨rfl, N111, Kp111, by simpa [own_exp, hs92, hs104, hs110] using Av_a⟩
        · skip
          refine own_go (A := s₁.setTop (mkF m 25 #[.val (.ref a), .val (.int (1 : Int32)), .val (.int (3 : Int32)), .val (.double y), .second, .val (.int (3 : Int32))] [])) (fun _ kz => ?_) ?_
          · show Steps p.tables e below (s₁.setTop (mkF m 17 #[.val (.ref a), .val (.int (1 : Int32)), .val (.int (3 : Int32)), .val (.double y), .second, .val (.int (3 : Int32))] [(.int (cmpValue (FP.dcmp x3 y) .g))])) _
            refine XS.ifYes X0.here hx rfl (pc0 := 17) (pc' := 25) rfl (hb hby d1_17) rfl ((if0 _ _).trans (flt hs110).2.1) (by decide) (by decide) ?_
            exact kz
          refine own_go (A := s₁.setTop (mkF m 31 #[.val (.ref a), .val (.int (1 : Int32)), .val (.int (3 : Int32)), .val (.double y), .second, .val (.int (4 : Int32))] [])) (fun _ kz => ?_) ?_
          · show Steps p.tables e below (s₁.setTop (mkF m 25 #[.val (.ref a), .val (.int (1 : Int32)), .val (.int (3 : Int32)), .val (.double y), .second, .val (.int (3 : Int32))] [])) _
            refine XS.iinc X0.here hx rfl (hb hby d1_25) rfl (l' := #[.val (.ref a), .val (.int (1 : Int32)), .val (.int (3 : Int32)), .val (.double y), .second, .val (.int (4 : Int32))]) rfl ?_
            show Steps p.tables e below (s₁.setTop (mkF m 28 #[.val (.ref a), .val (.int (1 : Int32)), .val (.int (3 : Int32)), .val (.double y), .second, .val (.int (4 : Int32))] [])) _
            refine XS.goto X0.here hx rfl (pc0 := 28) (pc' := 3) rfl (hb hby d1_28) (by decide) (by decide) ?_
            show Steps p.tables e below (s₁.setTop (mkF m 3 #[.val (.ref a), .val (.int (1 : Int32)), .val (.int (3 : Int32)), .val (.double y), .second, .val (.int (4 : Int32))] [])) _
            refine XS.iload X0.here hx rfl (hb hby d1_3) rfl ?_
            show Steps p.tables e below (s₁.setTop (mkF m 5 #[.val (.ref a), .val (.int (1 : Int32)), .val (.int (3 : Int32)), .val (.double y), .second, .val (.int (4 : Int32))] [(.int (4 : Int32))])) _
            refine XS.iloadN X0.here hx rfl (hb hby d1_5) rfl ?_
            show Steps p.tables e below (s₁.setTop (mkF m 6 #[.val (.ref a), .val (.int (1 : Int32)), .val (.int (3 : Int32)), .val (.double y), .second, .val (.int (4 : Int32))] [(.int (1 : Int32)), (.int (4 : Int32))])) _
            refine XS.iloadN X0.here hx rfl (hb hby d1_6) rfl ?_
            show Steps p.tables e below (s₁.setTop (mkF m 7 #[.val (.ref a), .val (.int (1 : Int32)), .val (.int (3 : Int32)), .val (.double y), .second, .val (.int (4 : Int32))] [(.int (3 : Int32)), (.int (1 : Int32)), (.int (4 : Int32))])) _
            refine XS.iadd X0.here hx rfl (hb hby d1_7) rfl ?_
            show Steps p.tables e below (s₁.setTop (mkF m 8 #[.val (.ref a), .val (.int (1 : Int32)), .val (.int (3 : Int32)), .val (.double y), .second, .val (.int (4 : Int32))] [(.int (4 : Int32)), (.int (4 : Int32))])) _
            refine XS.icmpYes X0.here hx rfl (pc0 := 8) (pc' := 31) rfl (hb hby d1_8) rfl (flt (by decide : ¬ ((4 : Int32) < (4 : Int32)))).2.1 (by decide) (by decide) ?_
            exact kz
          obtain ⟨fs, hrr, hrun, hended, hW, hsame⟩ := X0.leave (v := none) (fun _ => rfl)
          refine ⟨_, _, ?_, hrun, hended, _, _, rfl, ?_, ⟨_, rfl⟩, hW, hsame.mono (by decide) (by decide)⟩
          · show Steps p.tables e below (s₁.setTop (mkF m 31 #[.val (.ref a), .val (.int (1 : Int32)), .val (.int (3 : Int32)), .val (.double y), .second, .val (.int (4 : Int32))] [])) _
            exact X0.returnOut hx Bd.returns (hb hby d1_31) hrr
          · show QrmFl Z a (1 : Int32) (3 : Int32) y kc x0 x1 x2 x3 h0 n0 _ s₁.heap _
            rw [e0]
            exact ⟨rfl, N0, Kp0, by simpa [own_exp, hs92, hs104, hs110] using Av⟩
  · skip
    refine own_go (A := s₁.setTop (mkF m 31 #[.val (.ref a), .val (.int (2 : Int32)), .val (.int (0 : Int32)), .val (.double y), .second, .val (.int (2 : Int32))] [])) (fun _ kz => ?_) ?_
    · show Steps p.tables e below (s₁.setTop (mkF m 0 #[.val (.ref a), .val (.int (2 : Int32)), .val (.int (0 : Int32)), .val (.double y), .second, .unset] [])) _
      refine XS.iloadN X0.here hx rfl (hb hby d1_0) rfl ?_
      show Steps p.tables e below (s₁.setTop (mkF m 1 #[.val (.ref a), .val (.int (2 : Int32)), .val (.int (0 : Int32)), .val (.double y), .second, .unset] [(.int (2 : Int32))])) _
      refine XS.istore X0.here hx rfl (hb hby d1_1) rfl (l' := #[.val (.ref a), .val (.int (2 : Int32)), .val (.int (0 : Int32)), .val (.double y), .second, .val (.int (2 : Int32))]) rfl ?_
      show Steps p.tables e below (s₁.setTop (mkF m 3 #[.val (.ref a), .val (.int (2 : Int32)), .val (.int (0 : Int32)), .val (.double y), .second, .val (.int (2 : Int32))] [])) _
      refine XS.iload X0.here hx rfl (hb hby d1_3) rfl ?_
      show Steps p.tables e below (s₁.setTop (mkF m 5 #[.val (.ref a), .val (.int (2 : Int32)), .val (.int (0 : Int32)), .val (.double y), .second, .val (.int (2 : Int32))] [(.int (2 : Int32))])) _
      refine XS.iloadN X0.here hx rfl (hb hby d1_5) rfl ?_
      show Steps p.tables e below (s₁.setTop (mkF m 6 #[.val (.ref a), .val (.int (2 : Int32)), .val (.int (0 : Int32)), .val (.double y), .second, .val (.int (2 : Int32))] [(.int (2 : Int32)), (.int (2 : Int32))])) _
      refine XS.iloadN X0.here hx rfl (hb hby d1_6) rfl ?_
      show Steps p.tables e below (s₁.setTop (mkF m 7 #[.val (.ref a), .val (.int (2 : Int32)), .val (.int (0 : Int32)), .val (.double y), .second, .val (.int (2 : Int32))] [(.int (0 : Int32)), (.int (2 : Int32)), (.int (2 : Int32))])) _
      refine XS.iadd X0.here hx rfl (hb hby d1_7) rfl ?_
      show Steps p.tables e below (s₁.setTop (mkF m 8 #[.val (.ref a), .val (.int (2 : Int32)), .val (.int (0 : Int32)), .val (.double y), .second, .val (.int (2 : Int32))] [(.int (2 : Int32)), (.int (2 : Int32))])) _
      refine XS.icmpYes X0.here hx rfl (pc0 := 8) (pc' := 31) rfl (hb hby d1_8) rfl (flt (by decide : ¬ ((2 : Int32) < (2 : Int32)))).2.1 (by decide) (by decide) ?_
      exact kz
    obtain ⟨fs, hrr, hrun, hended, hW, hsame⟩ := X0.leave (v := none) (fun _ => rfl)
    refine ⟨_, _, ?_, hrun, hended, _, _, rfl, ?_, ⟨_, rfl⟩, hW, hsame.mono (by decide) (by decide)⟩
    · show Steps p.tables e below (s₁.setTop (mkF m 31 #[.val (.ref a), .val (.int (2 : Int32)), .val (.int (0 : Int32)), .val (.double y), .second, .val (.int (2 : Int32))] [])) _
      exact X0.returnOut hx Bd.returns (hb hby d1_31) hrr
    · show QrmFl Z a (2 : Int32) (0 : Int32) y kc x0 x1 x2 x3 h0 n0 _ s₁.heap _
      rw [e0]
      exact ⟨rfl, N0, Kp0, by simpa [own_exp] using Av⟩
  · skip
    refine own_go (A := s₁.setTop (mkF m 14 #[.val (.ref a), .val (.int (2 : Int32)), .val (.int (1 : Int32)), .val (.double y), .second, .val (.int (2 : Int32))] [(.int (2 : Int32)), (.ref a)])) (fun _ kz => ?_) ?_
    · show Steps p.tables e below (s₁.setTop (mkF m 0 #[.val (.ref a), .val (.int (2 : Int32)), .val (.int (1 : Int32)), .val (.double y), .second, .unset] [])) _
      refine XS.iloadN X0.here hx rfl (hb hby d1_0) rfl ?_
      show Steps p.tables e below (s₁.setTop (mkF m 1 #[.val (.ref a), .val (.int (2 : Int32)), .val (.int (1 : Int32)), .val (.double y), .second, .unset] [(.int (2 : Int32))])) _
      refine XS.istore X0.here hx rfl (hb hby d1_1) rfl (l' := #[.val (.ref a), .val (.int (2 : Int32)), .val (.int (1 : Int32)), .val (.double y), .second, .val (.int (2 : Int32))]) rfl ?_
      show Steps p.tables e below (s₁.setTop (mkF m 3 #[.val (.ref a), .val (.int (2 : Int32)), .val (.int (1 : Int32)), .val (.double y), .second, .val (.int (2 : Int32))] [])) _
      refine XS.iload X0.here hx rfl (hb hby d1_3) rfl ?_
      show Steps p.tables e below (s₁.setTop (mkF m 5 #[.val (.ref a), .val (.int (2 : Int32)), .val (.int (1 : Int32)), .val (.double y), .second, .val (.int (2 : Int32))] [(.int (2 : Int32))])) _
      refine XS.iloadN X0.here hx rfl (hb hby d1_5) rfl ?_
      show Steps p.tables e below (s₁.setTop (mkF m 6 #[.val (.ref a), .val (.int (2 : Int32)), .val (.int (1 : Int32)), .val (.double y), .second, .val (.int (2 : Int32))] [(.int (2 : Int32)), (.int (2 : Int32))])) _
      refine XS.iloadN X0.here hx rfl (hb hby d1_6) rfl ?_
      show Steps p.tables e below (s₁.setTop (mkF m 7 #[.val (.ref a), .val (.int (2 : Int32)), .val (.int (1 : Int32)), .val (.double y), .second, .val (.int (2 : Int32))] [(.int (1 : Int32)), (.int (2 : Int32)), (.int (2 : Int32))])) _
      refine XS.iadd X0.here hx rfl (hb hby d1_7) rfl ?_
      show Steps p.tables e below (s₁.setTop (mkF m 8 #[.val (.ref a), .val (.int (2 : Int32)), .val (.int (1 : Int32)), .val (.double y), .second, .val (.int (2 : Int32))] [(.int (3 : Int32)), (.int (2 : Int32))])) _
      refine XS.icmpNo X0.here hx rfl (hb hby d1_8) rfl (tlt (by decide : ((2 : Int32) < (3 : Int32)))).2.1 ?_
      show Steps p.tables e below (s₁.setTop (mkF m 11 #[.val (.ref a), .val (.int (2 : Int32)), .val (.int (1 : Int32)), .val (.double y), .second, .val (.int (2 : Int32))] [])) _
      refine XS.aloadN X0.here hx rfl (hb hby d1_11) rfl rfl ?_
      show Steps p.tables e below (s₁.setTop (mkF m 12 #[.val (.ref a), .val (.int (2 : Int32)), .val (.int (1 : Int32)), .val (.double y), .second, .val (.int (2 : Int32))] [(.ref a)])) _
      refine XS.iload X0.here hx rfl (hb hby d1_12) rfl ?_
      exact kz
    obtain ⟨cl112, Ar112, -, S112, M112, H112, -⟩ := id Av
    have hin112 : ¬ ((2 : Int32) < 0 ∨ cl112.slots.size ≤ ((2 : Int32)).toNatClampNeg) := inb_of S112 ⟨by decide, by decide⟩
    have hat112 : cl112.slots[((2 : Int32)).toNatClampNeg]? = some (.double x2) := H112.at hin112 rfl
    refine own_go (A := s₁.setTop (mkF m 15 #[.val (.ref a), .val (.int (2 : Int32)), .val (.int (1 : Int32)), .val (.double y), .second, .val (.int (2 : Int32))] [(.double x2)])) (fun _ kz => ?_) ?_
    · refine X0.daload hx (j := (2 : Int32)) (v := (.double x2)) (by rw [e0]; exact Ar112.1) (State.isArrayOf_alike hZ.alike Ar112.2.1) Ar112.2.2 hin112 hat112 (g := (mkF m 14 #[.val (.ref a), .val (.int (2 : Int32)), .val (.int (1 : Int32)), .val (.double y), .second, .val (.int (2 : Int32))] [(.int (2 : Int32)), (.ref a)])) rfl rfl (hb hby d1_14) _ ?_
      exact kz
    refine own_go (A := s₁.setTop (mkF m 17 #[.val (.ref a), .val (.int (2 : Int32)), .val (.int (1 : Int32)), .val (.double y), .second, .val (.int (2 : Int32))] [(.int (cmpValue (FP.dcmp x2 y) .g))])) (fun _ kz => ?_) ?_
    · show Steps p.tables e below (s₁.setTop (mkF m 15 #[.val (.ref a), .val (.int (2 : Int32)), .val (.int (1 : Int32)), .val (.double y), .second, .val (.int (2 : Int32))] [(.double x2)])) _
      refine XS.dloadN X0.here hx rfl (hb hby d1_15) rfl ?_
      show Steps p.tables e below (s₁.setTop (mkF m 16 #[.val (.ref a), .val (.int (2 : Int32)), .val (.int (1 : Int32)), .val (.double y), .second, .val (.int (2 : Int32))] [(.double y), (.double x2)])) _
      refine XS.dcmpS X0.here hx rfl (hb hby d1_16) rfl rfl ?_
      exact kz
    by_cases hs113 : (cmpValue (FP.dcmp x2 y) .g) < (0 : Int32)
    · skip
      refine own_go (A := s₁.setTop (mkF m 20 #[.val (.ref a), .val (.int (2 : Int32)), .val (.int (1 : Int32)), .val (.double y), .second, .val (.int (2 : Int32))] [])) (fun _ kz => ?_) ?_
      · show Steps p.tables e below (s₁.setTop (mkF m 17 #[.val (.ref a), .val (.int (2 : Int32)), .val (.int (1 : Int32)), .val (.double y), .second, .val (.int (2 : Int32))] [(.int (cmpValue (FP.dcmp x2 y) .g))])) _
        refine XS.ifNo X0.here hx rfl (hb hby d1_17) rfl ((if0 _ _).trans (tlt hs113).2.1) ?_
        exact kz
      refine own_go (A := s₁.setTop (mkF m 24 #[.val (.ref a), .val (.int (2 : Int32)), .val (.int (1 : Int32)), .val (.double y), .second, .val (.int (2 : Int32))] [(.double FP.dconst0), (.int (2 : Int32)), (.ref a)])) (fun _ kz => ?_) ?_
      · show Steps p.tables e below (s₁.setTop (mkF m 20 #[.val (.ref a), .val (.int (2 : Int32)), .val (.int (1 : Int32)), .val (.double y), .second, .val (.int (2 : Int32))] [])) _
        refine XS.aloadN X0.here hx rfl (hb hby d1_20) rfl rfl ?_
        show Steps p.tables e below (s₁.setTop (mkF m 21 #[.val (.ref a), .val (.int (2 : Int32)), .val (.int (1 : Int32)), .val (.double y), .second, .val (.int (2 : Int32))] [(.ref a)])) _
        refine XS.iload X0.here hx rfl (hb hby d1_21) rfl ?_
        show Steps p.tables e below (s₁.setTop (mkF m 23 #[.val (.ref a), .val (.int (2 : Int32)), .val (.int (1 : Int32)), .val (.double y), .second, .val (.int (2 : Int32))] [(.int (2 : Int32)), (.ref a)])) _
        refine XS.dconst0 X0.here hx rfl (hb hby d1_23) rfl ?_
        exact kz
      obtain ⟨cl114, Ar114, q114, S114, M114, H114, G114⟩ := id Av
      have hin114 : ¬ ((2 : Int32) < 0 ∨ cl114.slots.size ≤ ((2 : Int32)).toNatClampNeg) := inb_of S114 ⟨by decide, by decide⟩
      obtain ⟨T114, h114, X114, e114, W114, st114⟩ := stD X0 hx hZ e0 Ar114 (j := (2 : Int32)) hin114 (g := (mkF m 24 #[.val (.ref a), .val (.int (2 : Int32)), .val (.int (1 : Int32)), .val (.double y), .second, .val (.int (2 : Int32))] [(.double FP.dconst0), (.int (2 : Int32)), (.ref a)])) rfl rfl (hb hby d1_24)
      have Aw114 := Arv.set Ar114 q114 S114 M114 H114 G114 rfl W114 2 rfl (Nat.le_of_ble_eq_true rfl)
      have Z114 : n0 ≤ h114.size := Nat.le_trans Z0 (Keep.of_wr W114).1
      have Kp114 : Keep h0 h114 [a] := Kp0.wr W114 (Or.inl (List.mem_of_getElem? (i := 0) rfl))
      have Av_a : Arv Z h114 a kc .double (4 : Int32) [(.double x0), (.double x1), (.double FP.dconst0), (.double x3)] (.double (0 : UInt64)) := Aw114
      have N114 := Fr.snoc X114 N0 g_a
      refine own_go (A := T114.setTop (mkF m 25 #[.val (.ref a), .val (.int (2 : Int32)), .val (.int (1 : Int32)), .val (.double y), .second, .val (.int (2 : Int32))] [])) (fun _ kz => st114 _ kz) ?_
      refine own_go (A := T114.setTop (mkF m 31 #[.val (.ref a), .val (.int (2 : Int32)), .val (.int (1 : Int32)), .val (.double y), .second, .val (.int (3 : Int32))] [])) (fun _ kz => ?_) ?_
      · show Steps p.tables e below (T114.setTop (mkF m 25 #[.val (.ref a), .val (.int (2 : Int32)), .val (.int (1 : Int32)), .val (.double y), .second, .val (.int (2 : Int32))] [])) _
        refine XS.iinc X114.here hx rfl (hb hby d1_25) rfl (l' := #[.val (.ref a), .val (.int (2 : Int32)), .val (.int (1 : Int32)), .val (.double y), .second, .val (.int (3 : Int32))]) rfl ?_
        show Steps p.tables e below (T114.setTop (mkF m 28 #[.val (.ref a), .val (.int (2 : Int32)), .val (.int (1 : Int32)), .val (.double y), .second, .val (.int (3 : Int32))] [])) _
        refine XS.goto X114.here hx rfl (pc0 := 28) (pc' := 3) rfl (hb hby d1_28) (by decide) (by decide) ?_
        show Steps p.tables e below (T114.setTop (mkF m 3 #[.val (.ref a), .val (.int (2 : Int32)), .val (.int (1 : Int32)), .val (.double y), .second, .val (.int (3 : Int32))] [])) _
        refine XS.iload X114.here hx rfl (hb hby d1_3) rfl ?_
        show Steps p.tables e below (T114.setTop (mkF m 5 #[.val (.ref a), .val (.int (2 : Int32)), .val (.int (1 : Int32)), .val (.double y), .second, .val (.int (3 : Int32))] [(.int (3 : Int32))])) _
        refine XS.iloadN X114.here hx rfl (hb hby d1_5) rfl ?_
        show Steps p.tables e below (T114.setTop (mkF m 6 #[.val (.ref a), .val (.int (2 : Int32)), .val (.int (1 : Int32)), .val (.double y), .second, .val (.int (3 : Int32))] [(.int (2 : Int32)), (.int (3 : Int32))])) _
        refine XS.iloadN X114.here hx rfl (hb hby d1_6) rfl ?_
        show Steps p.tables e below (T114.setTop (mkF m 7 #[.val (.ref a), .val (.int (2 : Int32)), .val (.int (1 : Int32)), .val (.double y), .second, .val (.int (3 : Int32))] [(.int (1 : Int32)), (.int (2 : Int32)), (.int (3 : Int32))])) _
        refine XS.iadd X114.here hx rfl (hb hby d1_7) rfl ?_
        show Steps p.tables e below (T114.setTop (mkF m 8 #[.val (.ref a), .val (.int (2 : Int32)), .val (.int (1 : Int32)), .val (.double y), .second, .val (.int (3 : Int32))] [(.int (3 : Int32)), (.int (3 : Int32))])) _
        refine XS.icmpYes X114.here hx rfl (pc0 := 8) (pc' := 31) rfl (hb hby d1_8) rfl (flt (by decide : ¬ ((3 : Int32) < (3 : Int32)))).2.1 (by decide) (by decide) ?_
        exact kz
      obtain ⟨fs, hrr, hrun, hended, hW, hsame⟩ := X114.leave (v := none) (fun _ => rfl)
      refine ⟨_, _, ?_, hrun, hended, _, _, rfl, ?_, ⟨_, rfl⟩, hW, hsame.mono (by decide) (by decide)⟩
      · show Steps p.tables e below (T114.setTop (mkF m 31 #[.val (.ref a), .val (.int (2 : Int32)), .val (.int (1 : Int32)), .val (.double y), .second, .val (.int (3 : Int32))] [])) _
        exact X114.returnOut hx Bd.returns (hb hby d1_31) hrr
      · show QrmFl Z a (2 : Int32) (1 : Int32) y kc x0 x1 x2 x3 h0 n0 _ T114.heap _
        rw [e114]
        exact ⟨rfl, N114, Kp114, by simpa [own_exp, hs113] using Av_a⟩
    · skip
      refine own_go (A := s₁.setTop (mkF m 25 #[.val (.ref a), .val (.int (2 : Int32)), .val (.int (1 : Int32)), .val (.double y), .second, .val (.int (2 : Int32))] [])) (fun _ kz => ?_) ?_
      · show Steps p.tables e below (s₁.setTop (mkF m 17 #[.val (.ref a), .val (.int (2 : Int32)), .val (.int (1 : Int32)), .val (.double y), .second, .val (.int (2 : Int32))] [(.int (cmpValue (FP.dcmp x2 y) .g))])) _
        refine XS.ifYes X0.here hx rfl (pc0 := 17) (pc' := 25) rfl (hb hby d1_17) rfl ((if0 _ _).trans (flt hs113).2.1) (by decide) (by decide) ?_
        exact kz
      refine own_go (A := s₁.setTop (mkF m 31 #[.val (.ref a), .val (.int (2 : Int32)), .val (.int (1 : Int32)), .val (.double y), .second, .val (.int (3 : Int32))] [])) (fun _ kz => ?_) ?_
      · show Steps p.tables e below (s₁.setTop (mkF m 25 #[.val (.ref a), .val (.int (2 : Int32)), .val (.int (1 : Int32)), .val (.double y), .second, .val (.int (2 : Int32))] [])) _
        refine XS.iinc X0.here hx rfl (hb hby d1_25) rfl (l' := #[.val (.ref a), .val (.int (2 : Int32)), .val (.int (1 : Int32)), .val (.double y), .second, .val (.int (3 : Int32))]) rfl ?_
        show Steps p.tables e below (s₁.setTop (mkF m 28 #[.val (.ref a), .val (.int (2 : Int32)), .val (.int (1 : Int32)), .val (.double y), .second, .val (.int (3 : Int32))] [])) _
        refine XS.goto X0.here hx rfl (pc0 := 28) (pc' := 3) rfl (hb hby d1_28) (by decide) (by decide) ?_
        show Steps p.tables e below (s₁.setTop (mkF m 3 #[.val (.ref a), .val (.int (2 : Int32)), .val (.int (1 : Int32)), .val (.double y), .second, .val (.int (3 : Int32))] [])) _
        refine XS.iload X0.here hx rfl (hb hby d1_3) rfl ?_
        show Steps p.tables e below (s₁.setTop (mkF m 5 #[.val (.ref a), .val (.int (2 : Int32)), .val (.int (1 : Int32)), .val (.double y), .second, .val (.int (3 : Int32))] [(.int (3 : Int32))])) _
        refine XS.iloadN X0.here hx rfl (hb hby d1_5) rfl ?_
        show Steps p.tables e below (s₁.setTop (mkF m 6 #[.val (.ref a), .val (.int (2 : Int32)), .val (.int (1 : Int32)), .val (.double y), .second, .val (.int (3 : Int32))] [(.int (2 : Int32)), (.int (3 : Int32))])) _
        refine XS.iloadN X0.here hx rfl (hb hby d1_6) rfl ?_
        show Steps p.tables e below (s₁.setTop (mkF m 7 #[.val (.ref a), .val (.int (2 : Int32)), .val (.int (1 : Int32)), .val (.double y), .second, .val (.int (3 : Int32))] [(.int (1 : Int32)), (.int (2 : Int32)), (.int (3 : Int32))])) _
        refine XS.iadd X0.here hx rfl (hb hby d1_7) rfl ?_
        show Steps p.tables e below (s₁.setTop (mkF m 8 #[.val (.ref a), .val (.int (2 : Int32)), .val (.int (1 : Int32)), .val (.double y), .second, .val (.int (3 : Int32))] [(.int (3 : Int32)), (.int (3 : Int32))])) _
        refine XS.icmpYes X0.here hx rfl (pc0 := 8) (pc' := 31) rfl (hb hby d1_8) rfl (flt (by decide : ¬ ((3 : Int32) < (3 : Int32)))).2.1 (by decide) (by decide) ?_
        exact kz
      obtain ⟨fs, hrr, hrun, hended, hW, hsame⟩ := X0.leave (v := none) (fun _ => rfl)
      refine ⟨_, _, ?_, hrun, hended, _, _, rfl, ?_, ⟨_, rfl⟩, hW, hsame.mono (by decide) (by decide)⟩
      · show Steps p.tables e below (s₁.setTop (mkF m 31 #[.val (.ref a), .val (.int (2 : Int32)), .val (.int (1 : Int32)), .val (.double y), .second, .val (.int (3 : Int32))] [])) _
        exact X0.returnOut hx Bd.returns (hb hby d1_31) hrr
      · show QrmFl Z a (2 : Int32) (1 : Int32) y kc x0 x1 x2 x3 h0 n0 _ s₁.heap _
        rw [e0]
        exact ⟨rfl, N0, Kp0, by simpa [own_exp, hs113] using Av⟩
  · skip
    refine own_go (A := s₁.setTop (mkF m 14 #[.val (.ref a), .val (.int (2 : Int32)), .val (.int (2 : Int32)), .val (.double y), .second, .val (.int (2 : Int32))] [(.int (2 : Int32)), (.ref a)])) (fun _ kz => ?_) ?_
    · show Steps p.tables e below (s₁.setTop (mkF m 0 #[.val (.ref a), .val (.int (2 : Int32)), .val (.int (2 : Int32)), .val (.double y), .second, .unset] [])) _
      refine XS.iloadN X0.here hx rfl (hb hby d1_0) rfl ?_
      show Steps p.tables e below (s₁.setTop (mkF m 1 #[.val (.ref a), .val (.int (2 : Int32)), .val (.int (2 : Int32)), .val (.double y), .second, .unset] [(.int (2 : Int32))])) _
      refine XS.istore X0.here hx rfl (hb hby d1_1) rfl (l' := #[.val (.ref a), .val (.int (2 : Int32)), .val (.int (2 : Int32)), .val (.double y), .second, .val (.int (2 : Int32))]) rfl ?_
      show Steps p.tables e below (s₁.setTop (mkF m 3 #[.val (.ref a), .val (.int (2 : Int32)), .val (.int (2 : Int32)), .val (.double y), .second, .val (.int (2 : Int32))] [])) _
      refine XS.iload X0.here hx rfl (hb hby d1_3) rfl ?_
      show Steps p.tables e below (s₁.setTop (mkF m 5 #[.val (.ref a), .val (.int (2 : Int32)), .val (.int (2 : Int32)), .val (.double y), .second, .val (.int (2 : Int32))] [(.int (2 : Int32))])) _
      refine XS.iloadN X0.here hx rfl (hb hby d1_5) rfl ?_
      show Steps p.tables e below (s₁.setTop (mkF m 6 #[.val (.ref a), .val (.int (2 : Int32)), .val (.int (2 : Int32)), .val (.double y), .second, .val (.int (2 : Int32))] [(.int (2 : Int32)), (.int (2 : Int32))])) _
      refine XS.iloadN X0.here hx rfl (hb hby d1_6) rfl ?_
      show Steps p.tables e below (s₁.setTop (mkF m 7 #[.val (.ref a), .val (.int (2 : Int32)), .val (.int (2 : Int32)), .val (.double y), .second, .val (.int (2 : Int32))] [(.int (2 : Int32)), (.int (2 : Int32)), (.int (2 : Int32))])) _
      refine XS.iadd X0.here hx rfl (hb hby d1_7) rfl ?_
      show Steps p.tables e below (s₁.setTop (mkF m 8 #[.val (.ref a), .val (.int (2 : Int32)), .val (.int (2 : Int32)), .val (.double y), .second, .val (.int (2 : Int32))] [(.int (4 : Int32)), (.int (2 : Int32))])) _
      refine XS.icmpNo X0.here hx rfl (hb hby d1_8) rfl (tlt (by decide : ((2 : Int32) < (4 : Int32)))).2.1 ?_
      show Steps p.tables e below (s₁.setTop (mkF m 11 #[.val (.ref a), .val (.int (2 : Int32)), .val (.int (2 : Int32)), .val (.double y), .second, .val (.int (2 : Int32))] [])) _
      refine XS.aloadN X0.here hx rfl (hb hby d1_11) rfl rfl ?_
      show Steps p.tables e below (s₁.setTop (mkF m 12 #[.val (.ref a), .val (.int (2 : Int32)), .val (.int (2 : Int32)), .val (.double y), .second, .val (.int (2 : Int32))] [(.ref a)])) _
      refine XS.iload X0.here hx rfl (hb hby d1_12) rfl ?_
      exact kz
    obtain ⟨cl115, Ar115, -, S115, M115, H115, -⟩ := id Av
    have hin115 : ¬ ((2 : Int32) < 0 ∨ cl115.slots.size ≤ ((2 : Int32)).toNatClampNeg) := inb_of S115 ⟨by decide, by decide⟩
    have hat115 : cl115.slots[((2 : Int32)).toNatClampNeg]? = some (.double x2) := H115.at hin115 rfl
    refine own_go (A := s₁.setTop (mkF m 15 #[.val (.ref a), .val (.int (2 : Int32)), .val (.int (2 : Int32)), .val (.double y), .second, .val (.int (2 : Int32))] [(.double x2)])) (fun _ kz => ?_) ?_
    · refine X0.daload hx (j := (2 : Int32)) (v := (.double x2)) (by rw [e0]; exact Ar115.1) (State.isArrayOf_alike hZ.alike Ar115.2.1) Ar115.2.2 hin115 hat115 (g := (mkF m 14 #[.val (.ref a), .val (.int (2 : Int32)), .val (.int (2 : Int32)), .val (.double y), .second, .val (.int (2 : Int32))] [(.int (2 : Int32)), (.ref a)])) rfl rfl (hb hby d1_14) _ ?_
      exact kz
    refine own_go (A := s₁.setTop (mkF m 17 #[.val (.ref a), .val (.int (2 : Int32)), .val (.int (2 : Int32)), .val (.double y), .second, .val (.int (2 : Int32))] [(.int (cmpValue (FP.dcmp x2 y) .g))])) (fun _ kz => ?_) ?_
    · show Steps p.tables e below (s₁.setTop (mkF m 15 #[.val (.ref a), .val (.int (2 : Int32)), .val (.int (2 : Int32)), .val (.double y), .second, .val (.int (2 : Int32))] [(.double x2)])) _
      refine XS.dloadN X0.here hx rfl (hb hby d1_15) rfl ?_
      show Steps p.tables e below (s₁.setTop (mkF m 16 #[.val (.ref a), .val (.int (2 : Int32)), .val (.int (2 : Int32)), .val (.double y), .second, .val (.int (2 : Int32))] [(.double y), (.double x2)])) _
      refine XS.dcmpS X0.here hx rfl (hb hby d1_16) rfl rfl ?_
      exact kz
    by_cases hs116 : (cmpValue (FP.dcmp x2 y) .g) < (0 : Int32)
    · skip
      refine own_go (A := s₁.setTop (mkF m 20 #[.val (.ref a), .val (.int (2 : Int32)), .val (.int (2 : Int32)), .val (.double y), .second, .val (.int (2 : Int32))] [])) (fun _ kz => ?_) ?_
      · show Steps p.tables e below (s₁.setTop (mkF m 17 #[.val (.ref a), .val (.int (2 : Int32)), .val (.int (2 : Int32)), .val (.double y), .second, .val (.int (2 : Int32))] [(.int (cmpValue (FP.dcmp x2 y) .g))])) _
        refine XS.ifNo X0.here hx rfl (hb hby d1_17) rfl ((if0 _ _).trans (tlt hs116).2.1) ?_
        exact kz
      refine own_go (A := s₁.setTop (mkF m 24 #[.val (.ref a), .val (.int (2 : Int32)), .val (.int (2 : Int32)), .val (.double y), .second, .val (.int (2 : Int32))] [(.double FP.dconst0), (.int (2 : Int32)), (.ref a)])) (fun _ kz => ?_) ?_
      · show Steps p.tables e below (s₁.setTop (mkF m 20 #[.val (.ref a), .val (.int (2 : Int32)), .val (.int (2 : Int32)), .val (.double y), .second, .val (.int (2 : Int32))] [])) _
        refine XS.aloadN X0.here hx rfl (hb hby d1_20) rfl rfl ?_
        show Steps p.tables e below (s₁.setTop (mkF m 21 #[.val (.ref a), .val (.int (2 : Int32)), .val (.int (2 : Int32)), .val (.double y), .second, .val (.int (2 : Int32))] [(.ref a)])) _
        refine XS.iload X0.here hx rfl (hb hby d1_21) rfl ?_
        show Steps p.tables e below (s₁.setTop (mkF m 23 #[.val (.ref a), .val (.int (2 : Int32)), .val (.int (2 : Int32)), .val (.double y), .second, .val (.int (2 : Int32))] [(.int (2 : Int32)), (.ref a)])) _
        refine XS.dconst0 X0.here hx rfl (hb hby d1_23) rfl ?_
        exact kz
      obtain ⟨cl117, Ar117, q117, S117, M117, H117, G117⟩ := id Av
      have hin117 : ¬ ((2 : Int32) < 0 ∨ cl117.slots.size ≤ ((2 : Int32)).toNatClampNeg) := inb_of S117 ⟨by decide, by decide⟩
      obtain ⟨T117, h117, X117, e117, W117, st117⟩ := stD X0 hx hZ e0 Ar117 (j := (2 : Int32)) hin117 (g := (mkF m 24 #[.val (.ref a), .val (.int (2 : Int32)), .val (.int (2 : Int32)), .val (.double y), .second, .val (.int (2 : Int32))] [(.double FP.dconst0), (.int (2 : Int32)), (.ref a)])) rfl rfl (hb hby d1_24)
      have Aw117 := Arv.set Ar117 q117 S117 M117 H117 G117 rfl W117 2 rfl (Nat.le_of_ble_eq_true rfl)
      have Z117 : n0 ≤ h117.size := Nat.le_trans Z0 (Keep.of_wr W117).1
      have Kp117 : Keep h0 h117 [a] := Kp0.wr W117 (Or.inl (List.mem_of_getElem? (i := 0) rfl))
      have Av_a : Arv Z h117 a kc .double (4 : Int32) [(.double x0), (.double x1), (.double FP.dconst0), (.double x3)] (.double (0 : UInt64)) := Aw117
      have N117 := Fr.snoc X117 N0 g_a
      refine own_go (A := T117.setTop (mkF m 25 #[.val (.ref a), .val (.int (2 : Int32)), .val (.int (2 : Int32)), .val (.double y), .second, .val (.int (2 : Int32))] [])) (fun _ kz => st117 _ kz) ?_
      refine own_go (A := T117.setTop (mkF m 14 #[.val (.ref a), .val (.int (2 : Int32)), .val (.int (2 : Int32)), .val (.double y), .second, .val (.int (3 : Int32))] [(.int (3 : Int32)), (.ref a)])) (fun _ kz => ?_) ?_
      · show Steps p.tables e below (T117.setTop (mkF m 25 #[.val (.ref a), .val (.int (2 : Int32)), .val (.int (2 : Int32)), .val (.double y), .second, .val (.int (2 : Int32))] [])) _
        refine XS.iinc X117.here hx rfl (hb hby d1_25) rfl (l' := #[.val (.ref a), .val (.int (2 : Int32)), .val (.int (2 : Int32)), .val (.double y), .second, .val (.int (3 : Int32))]) rfl ?_
        show Steps p.tables e below (T117.setTop (mkF m 28 #[.val (.ref a), .val (.int (2 : Int32)), .val (.int (2 : Int32)), .val (.double y), .second, .val (.int (3 : Int32))] [])) _
        refine XS.goto X117.here hx rfl (pc0 := 28) (pc' := 3) rfl (hb hby d1_28) (by decide) (by decide) ?_
        show Steps p.tables e below (T117.setTop (mkF m 3 #[.val (.ref a), .val (.int (2 : Int32)), .val (.int (2 : Int32)), .val (.double y), .second, .val (.int (3 : Int32))] [])) _
        refine XS.iload X117.here hx rfl (hb hby d1_3) rfl ?_
        show Steps p.tables e below (T117.setTop (mkF m 5 #[.val (.ref a), .val (.int (2 : Int32)), .val (.int (2 : Int32)), .val (.double y), .second, .val (.int (3 : Int32))] [(.int (3 : Int32))])) _
        refine XS.iloadN X117.here hx rfl (hb hby d1_5) rfl ?_
        show Steps p.tables e below (T117.setTop (mkF m 6 #[.val (.ref a), .val (.int (2 : Int32)), .val (.int (2 : Int32)), .val (.double y), .second, .val (.int (3 : Int32))] [(.int (2 : Int32)), (.int (3 : Int32))])) _
        refine XS.iloadN X117.here hx rfl (hb hby d1_6) rfl ?_
        show Steps p.tables e below (T117.setTop (mkF m 7 #[.val (.ref a), .val (.int (2 : Int32)), .val (.int (2 : Int32)), .val (.double y), .second, .val (.int (3 : Int32))] [(.int (2 : Int32)), (.int (2 : Int32)), (.int (3 : Int32))])) _
        refine XS.iadd X117.here hx rfl (hb hby d1_7) rfl ?_
        show Steps p.tables e below (T117.setTop (mkF m 8 #[.val (.ref a), .val (.int (2 : Int32)), .val (.int (2 : Int32)), .val (.double y), .second, .val (.int (3 : Int32))] [(.int (4 : Int32)), (.int (3 : Int32))])) _
        refine XS.icmpNo X117.here hx rfl (hb hby d1_8) rfl (tlt (by decide : ((3 : Int32) < (4 : Int32)))).2.1 ?_
        show Steps p.tables e below (T117.setTop (mkF m 11 #[.val (.ref a), .val (.int (2 : Int32)), .val (.int (2 : Int32)), .val (.double y), .second, .val (.int (3 : Int32))] [])) _
        refine XS.aloadN X117.here hx rfl (hb hby d1_11) rfl rfl ?_
        show Steps p.tables e below (T117.setTop (mkF m 12 #[.val (.ref a), .val (.int (2 : Int32)), .val (.int (2 : Int32)), .val (.double y), .second, .val (.int (3 : Int32))] [(.ref a)])) _
        refine XS.iload X117.here hx rfl (hb hby d1_12) rfl ?_
        exact kz
      obtain ⟨cl118, Ar118, -, S118, M118, H118, -⟩ := id Av_a
      have hin118 : ¬ ((3 : Int32) < 0 ∨ cl118.slots.size ≤ ((3 : Int32)).toNatClampNeg) := inb_of S118 ⟨by decide, by decide⟩
      have hat118 : cl118.slots[((3 : Int32)).toNatClampNeg]? = some (.double x3) := H118.at hin118 rfl
      refine own_go (A := T117.setTop (mkF m 15 #[.val (.ref a), .val (.int (2 : Int32)), .val (.int (2 : Int32)), .val (.double y), .second, .val (.int (3 : Int32))] [(.double x3)])) (fun _ kz => ?_) ?_
      · refine X117.daload hx (j := (3 : Int32)) (v := (.double x3)) (by rw [e117]; exact Ar118.1) (State.isArrayOf_alike hZ.alike Ar118.2.1) Ar118.2.2 hin118 hat118 (g := (mkF m 14 #[.val (.ref a), .val (.int (2 : Int32)), .val (.int (2 : Int32)), .val (.double y), .second, .val (.int (3 : Int32))] [(.int (3 : Int32)), (.ref a)])) rfl rfl (hb hby d1_14) _ ?_
        exact kz
      refine own_go (A := T117.setTop (mkF m 17 #[.val (.ref a), .val (.int (2 : Int32)), .val (.int (2 : Int32)), .val (.double y), .second, .val (.int (3 : Int32))] [(.int (cmpValue (FP.dcmp x3 y) .g))])) (fun _ kz => ?_) ?_
      · show Steps p.tables e below (T117.setTop (mkF m 15 #[.val (.ref a), .val (.int (2 : Int32)), .val (.int (2 : Int32)), .val (.double y), .second, .val (.int (3 : Int32))] [(.double x3)])) _
        refine XS.dloadN X117.here hx rfl (hb hby d1_15) rfl ?_
        show Steps p.tables e below (T117.setTop (mkF m 16 #[.val (.ref a), .val (.int (2 : Int32)), .val (.int (2 : Int32)), .val (.double y), .second, .val (.int (3 : Int32))] [(.double y), (.double x3)])) _
        refine XS.dcmpS X117.here hx rfl (hb hby d1_16) rfl rfl ?_
        exact kz
      by_cases hs119 : (cmpValue (FP.dcmp x3 y) .g) < (0 : Int32)
      · skip
        refine own_go (A := T117.setTop (mkF m 20 #[.val (.ref a), .val (.int (2 : Int32)), .val (.int (2 : Int32)), .val (.double y), .second, .val (.int (3 : Int32))] [])) (fun _ kz => ?_) ?_
        · show Steps p.tables e below (T117.setTop (mkF m 17 #[.val (.ref a), .val (.int (2 : Int32)), .val (.int (2 : Int32)), .val (.double y), .second, .val (.int (3 : Int32))] [(.int (cmpValue (FP.dcmp x3 y) .g))])) _
          refine XS.ifNo X117.here hx rfl (hb hby d1_17) rfl ((if0 _ _).trans (tlt hs119).2.1) ?_
          exact kz
        refine own_go (A := T117.setTop (mkF m 24 #[.val (.ref a), .val (.int (2 : Int32)), .val (.int (2 : Int32)), .val (.double y), .second, .val (.int (3 : Int32))] [(.double FP.dconst0), (.int (3 : Int32)), (.ref a)])) (fun _ kz => ?_) ?_
        · show Steps p.tables e below (T117.setTop (mkF m 20 #[.val (.ref a), .val (.int (2 : Int32)), .val (.int (2 : Int32)), .val (.double y), .second, .val (.int (3 : Int32))] [])) _
          refine XS.aloadN X117.here hx rfl (hb hby d1_20) rfl rfl ?_
          show Steps p.tables e below (T117.setTop (mkF m 21 #[.val (.ref a), .val (.int (2 : Int32)), .val (.int (2 : Int32)), .val (.double y), .second, .val (.int (3 : Int32))] [(.ref a)])) _
          refine XS.iload X117.here hx rfl (hb hby d1_21) rfl ?_
          show Steps p.tables e below (T117.setTop (mkF m 23 #[.val (.ref a), .val (.int (2 : Int32)), .val (.int (2 : Int32)), .val (.double y), .second, .val (.int (3 : Int32))] [(.int (3 : Int32)), (.ref a)])) _
          refine XS.dconst0 X117.here hx rfl (hb hby d1_23) rfl ?_
          exact kz
        obtain ⟨cl120, Ar120, q120, S120, M120, H120, G120⟩ := id Av_a
        have hin120 : ¬ ((3 : Int32) < 0 ∨ cl120.slots.size ≤ ((3 : Int32)).toNatClampNeg) := inb_of S120 ⟨by decide, by decide⟩
        obtain ⟨T120, h120, X120, e120, W120, st120⟩ := stD X117 hx hZ e117 Ar120 (j := (3 : Int32)) hin120 (g := (mkF m 24 #[.val (.ref a), .val (.int (2 : Int32)), .val (.int (2 : Int32)), .val (.double y), .second, .val (.int (3 : Int32))] [(.double FP.dconst0), (.int (3 : Int32)), (.ref a)])) rfl rfl (hb hby d1_24)
        have Aw120 := Arv.set Ar120 q120 S120 M120 H120 G120 rfl W120 3 rfl (Nat.le_of_ble_eq_true rfl)
        have Z120 : n0 ≤ h120.size := Nat.le_trans Z117 (Keep.of_wr W120).1
        have Kp120 : Keep h0 h120 [a] := Kp117.wr W120 (Or.inl (List.mem_of_getElem? (i := 0) rfl))
        have Av_a : Arv Z h120 a kc .double (4 : Int32) [(.double x0), (.double x1), (.double FP.dconst0), (.double FP.dconst0)] (.double (0 : UInt64)) := Aw120
        have N120 := Fr.snoc X120 N117 g_a
        refine own_go (A := T120.setTop (mkF m 25 #[.val (.ref a), .val (.int (2 : Int32)), .val (.int (2 : Int32)), .val (.double y), .second, .val (.int (3 : Int32))] [])) (fun _ kz => st120 _ kz) ?_
        refine own_go (A := T120.setTop (mkF m 31 #[.val (.ref a), .val (.int (2 : Int32)), .val (.int (2 : Int32)), .val (.double y), .second, .val (.int (4 : Int32))] [])) (fun _ kz => ?_) ?_
        · show Steps p.tables e below (T120.setTop (mkF m 25 #[.val (.ref a), .val (.int (2 : Int32)), .val (.int (2 : Int32)), .val (.double y), .second, .val (.int (3 : Int32))] [])) _
          refine XS.iinc X120.here hx rfl (hb hby d1_25) rfl (l' := #[.val (.ref a), .val (.int (2 : Int32)), .val (.int (2 : Int32)), .val (.double y), .second, .val (.int (4 : Int32))]) rfl ?_
          show Steps p.tables e below (T120.setTop (mkF m 28 #[.val (.ref a), .val (.int (2 : Int32)), .val (.int (2 : Int32)), .val (.double y), .second, .val (.int (4 : Int32))] [])) _
          refine XS.goto X120.here hx rfl (pc0 := 28) (pc' := 3) rfl (hb hby d1_28) (by decide) (by decide) ?_
          show Steps p.tables e below (T120.setTop (mkF m 3 #[.val (.ref a), .val (.int (2 : Int32)), .val (.int (2 : Int32)), .val (.double y), .second, .val (.int (4 : Int32))] [])) _
          refine XS.iload X120.here hx rfl (hb hby d1_3) rfl ?_
          show Steps p.tables e below (T120.setTop (mkF m 5 #[.val (.ref a), .val (.int (2 : Int32)), .val (.int (2 : Int32)), .val (.double y), .second, .val (.int (4 : Int32))] [(.int (4 : Int32))])) _
          refine XS.iloadN X120.here hx rfl (hb hby d1_5) rfl ?_
          show Steps p.tables e below (T120.setTop (mkF m 6 #[.val (.ref a), .val (.int (2 : Int32)), .val (.int (2 : Int32)), .val (.double y), .second, .val (.int (4 : Int32))] [(.int (2 : Int32)), (.int (4 : Int32))])) _
          refine XS.iloadN X120.here hx rfl (hb hby d1_6) rfl ?_
          show Steps p.tables e below (T120.setTop (mkF m 7 #[.val (.ref a), .val (.int (2 : Int32)), .val (.int (2 : Int32)), .val (.double y), .second, .val (.int (4 : Int32))] [(.int (2 : Int32)), (.int (2 : Int32)), (.int (4 : Int32))])) _
          refine XS.iadd X120.here hx rfl (hb hby d1_7) rfl ?_
          show Steps p.tables e below (T120.setTop (mkF m 8 #[.val (.ref a), .val (.int (2 : Int32)), .val (.int (2 : Int32)), .val (.double y), .second, .val (.int (4 : Int32))] [(.int (4 : Int32)), (.int (4 : Int32))])) _
          refine XS.icmpYes X120.here hx rfl (pc0 := 8) (pc' := 31) rfl (hb hby d1_8) rfl (flt (by decide : ¬ ((4 : Int32) < (4 : Int32)))).2.1 (by decide) (by decide) ?_
          exact kz
        obtain ⟨fs, hrr, hrun, hended, hW, hsame⟩ := X120.leave (v := none) (fun _ => rfl)
        refine ⟨_, _, ?_, hrun, hended, _, _, rfl, ?_, ⟨_, rfl⟩, hW, hsame.mono (by decide) (by decide)⟩
        · show Steps p.tables e below (T120.setTop (mkF m 31 #[.val (.ref a), .val (.int (2 : Int32)), .val (.int (2 : Int32)), .val (.double y), .second, .val (.int (4 : Int32))] [])) _
          exact X120.returnOut hx Bd.returns (hb hby d1_31) hrr
        · show QrmFl Z a (2 : Int32) (2 : Int32) y kc x0 x1 x2 x3 h0 n0 _ T120.heap _
          rw [e120]
          exact ⟨rfl, N120, Kp120, by simpa [own_exp, hs116, hs119] using Av_a⟩
      · skip
        refine own_go (A := T117.setTop (mkF m 25 #[.val (.ref a), .val (.int (2 : Int32)), .val (.int (2 : Int32)), .val (.double y), .second, .val (.int (3 : Int32))] [])) (fun _ kz => ?_) ?_
        · show Steps p.tables e below (T117.setTop (mkF m 17 #[.val (.ref a), .val (.int (2 : Int32)), .val (.int (2 : Int32)), .val (.double y), .second, .val (.int (3 : Int32))] [(.int (cmpValue (FP.dcmp x3 y) .g))])) _
          refine XS.ifYes X117.here hx rfl (pc0 := 17) (pc' := 25) rfl (hb hby d1_17) rfl ((if0 _ _).trans (flt hs119).2.1) (by decide) (by decide) ?_
          exact kz
        refine own_go (A := T117.setTop (mkF m 31 #[.val (.ref a), .val (.int (2 : Int32)), .val (.int (2 : Int32)), .val (.double y), .second, .val (.int (4 : Int32))] [])) (fun _ kz => ?_) ?_
        · show Steps p.tables e below (T117.setTop (mkF m 25 #[.val (.ref a), .val (.int (2 : Int32)), .val (.int (2 : Int32)), .val (.double y), .second, .val (.int (3 : Int32))] [])) _
          refine XS.iinc X117.here hx rfl (hb hby d1_25) rfl (l' := #[.val (.ref a), .val (.int (2 : Int32)), .val (.int (2 : Int32)), .val (.double y), .second, .val (.int (4 : Int32))]) rfl ?_
          show Steps p.tables e below (T117.setTop (mkF m 28 #[.val (.ref a), .val (.int (2 : Int32)), .val (.int (2 : Int32)), .val (.double y), .second, .val (.int (4 : Int32))] [])) _
          refine XS.goto X117.here hx rfl (pc0 := 28) (pc' := 3) rfl (hb hby d1_28) (by decide) (by decide) ?_
          show Steps p.tables e below (T117.setTop (mkF m 3 #[.val (.ref a), .val (.int (2 : Int32)), .val (.int (2 : Int32)), .val (.double y), .second, .val (.int (4 : Int32))] [])) _
          refine XS.iload X117.here hx rfl (hb hby d1_3) rfl ?_
          show Steps p.tables e below (T117.setTop (mkF m 5 #[.val (.ref a), .val (.int (2 : Int32)), .val (.int (2 : Int32)), .val (.double y), .second, .val (.int (4 : Int32))] [(.int (4 : Int32))])) _
          refine XS.iloadN X117.here hx rfl (hb hby d1_5) rfl ?_
          show Steps p.tables e below (T117.setTop (mkF m 6 #[.val (.ref a), .val (.int (2 : Int32)), .val (.int (2 : Int32)), .val (.double y), .second, .val (.int (4 : Int32))] [(.int (2 : Int32)), (.int (4 : Int32))])) _
          refine XS.iloadN X117.here hx rfl (hb hby d1_6) rfl ?_
          show Steps p.tables e below (T117.setTop (mkF m 7 #[.val (.ref a), .val (.int (2 : Int32)), .val (.int (2 : Int32)), .val (.double y), .second, .val (.int (4 : Int32))] [(.int (2 : Int32)), (.int (2 : Int32)), (.int (4 : Int32))])) _
          refine XS.iadd X117.here hx rfl (hb hby d1_7) rfl ?_
          show Steps p.tables e below (T117.setTop (mkF m 8 #[.val (.ref a), .val (.int (2 : Int32)), .val (.int (2 : Int32)), .val (.double y), .second, .val (.int (4 : Int32))] [(.int (4 : Int32)), (.int (4 : Int32))])) _
          refine XS.icmpYes X117.here hx rfl (pc0 := 8) (pc' := 31) rfl (hb hby d1_8) rfl (flt (by decide : ¬ ((4 : Int32) < (4 : Int32)))).2.1 (by decide) (by decide) ?_
          exact kz
        obtain ⟨fs, hrr, hrun, hended, hW, hsame⟩ := X117.leave (v := none) (fun _ => rfl)
        refine ⟨_, _, ?_, hrun, hended, _, _, rfl, ?_, ⟨_, rfl⟩, hW, hsame.mono (by decide) (by decide)⟩
        · show Steps p.tables e below (T117.setTop (mkF m 31 #[.val (.ref a), .val (.int (2 : Int32)), .val (.int (2 : Int32)), .val (.double y), .second, .val (.int (4 : Int32))] [])) _
          exact X117.returnOut hx Bd.returns (hb hby d1_31) hrr
        · show QrmFl Z a (2 : Int32) (2 : Int32) y kc x0 x1 x2 x3 h0 n0 _ T117.heap _
          rw [e117]
          exact ⟨rfl, N117, Kp117, by simpa [own_exp, hs116, hs119] using Av_a⟩
    · skip
      refine own_go (A := s₁.setTop (mkF m 25 #[.val (.ref a), .val (.int (2 : Int32)), .val (.int (2 : Int32)), .val (.double y), .second, .val (.int (2 : Int32))] [])) (fun _ kz => ?_) ?_
      · show Steps p.tables e below (s₁.setTop (mkF m 17 #[.val (.ref a), .val (.int (2 : Int32)), .val (.int (2 : Int32)), .val (.double y), .second, .val (.int (2 : Int32))] [(.int (cmpValue (FP.dcmp x2 y) .g))])) _
        refine XS.ifYes X0.here hx rfl (pc0 := 17) (pc' := 25) rfl (hb hby d1_17) rfl ((if0 _ _).trans (flt hs116).2.1) (by decide) (by decide) ?_
        exact kz
      refine own_go (A := s₁.setTop (mkF m 14 #[.val (.ref a), .val (.int (2 : Int32)), .val (.int (2 : Int32)), .val (.double y), .second, .val (.int (3 : Int32))] [(.int (3 : Int32)), (.ref a)])) (fun _ kz => ?_) ?_
      · show Steps p.tables e below (s₁.setTop (mkF m 25 #[.val (.ref a), .val (.int (2 : Int32)), .val (.int (2 : Int32)), .val (.double y), .second, .val (.int (2 : Int32))] [])) _
        refine XS.iinc X0.here hx rfl (hb hby d1_25) rfl (l' := #[.val (.ref a), .val (.int (2 : Int32)), .val (.int (2 : Int32)), .val (.double y), .second, .val (.int (3 : Int32))]) rfl ?_
        show Steps p.tables e below (s₁.setTop (mkF m 28 #[.val (.ref a), .val (.int (2 : Int32)), .val (.int (2 : Int32)), .val (.double y), .second, .val (.int (3 : Int32))] [])) _
        refine XS.goto X0.here hx rfl (pc0 := 28) (pc' := 3) rfl (hb hby d1_28) (by decide) (by decide) ?_
        show Steps p.tables e below (s₁.setTop (mkF m 3 #[.val (.ref a), .val (.int (2 : Int32)), .val (.int (2 : Int32)), .val (.double y), .second, .val (.int (3 : Int32))] [])) _
        refine XS.iload X0.here hx rfl (hb hby d1_3) rfl ?_
        show Steps p.tables e below (s₁.setTop (mkF m 5 #[.val (.ref a), .val (.int (2 : Int32)), .val (.int (2 : Int32)), .val (.double y), .second, .val (.int (3 : Int32))] [(.int (3 : Int32))])) _
        refine XS.iloadN X0.here hx rfl (hb hby d1_5) rfl ?_
        show Steps p.tables e below (s₁.setTop (mkF m 6 #[.val (.ref a), .val (.int (2 : Int32)), .val (.int (2 : Int32)), .val (.double y), .second, .val (.int (3 : Int32))] [(.int (2 : Int32)), (.int (3 : Int32))])) _
        refine XS.iloadN X0.here hx rfl (hb hby d1_6) rfl ?_
        show Steps p.tables e below (s₁.setTop (mkF m 7 #[.val (.ref a), .val (.int (2 : Int32)), .val (.int (2 : Int32)), .val (.double y), .second, .val (.int (3 : Int32))] [(.int (2 : Int32)), (.int (2 : Int32)), (.int (3 : Int32))])) _
        refine XS.iadd X0.here hx rfl (hb hby d1_7) rfl ?_
        show Steps p.tables e below (s₁.setTop (mkF m 8 #[.val (.ref a), .val (.int (2 : Int32)), .val (.int (2 : Int32)), .val (.double y), .second, .val (.int (3 : Int32))] [(.int (4 : Int32)), (.int (3 : Int32))])) _
        refine XS.icmpNo X0.here hx rfl (hb hby d1_8) rfl (tlt (by decide : ((3 : Int32) < (4 : Int32)))).2.1 ?_
        show Steps p.tables e below (s₁.setTop (mkF m 11 #[.val (.ref a), .val (.int (2 : Int32)), .val (.int (2 : Int32)), .val (.double y), .second, .val (.int (3 : Int32))] [])) _
        refine XS.aloadN X0.here hx rfl (hb hby d1_11) rfl rfl ?_
        show Steps p.tables e below (s₁.setTop (mkF m 12 #[.val (.ref a), .val (.int (2 : Int32)), .val (.int (2 : Int32)), .val (.double y), .second, .val (.int (3 : Int32))] [(.ref a)])) _
        refine XS.iload X0.here hx rfl (hb hby d1_12) rfl ?_
        exact kz
      obtain ⟨cl121, Ar121, -, S121, M121, H121, -⟩ := id Av
      have hin121 : ¬ ((3 : Int32) < 0 ∨ cl121.slots.size ≤ ((3 : Int32)).toNatClampNeg) := inb_of S121 ⟨by decide, by decide⟩
      have hat121 : cl121.slots[((3 : Int32)).toNatClampNeg]? = some (.double x3) := H121.at hin121 rfl
      refine own_go (A := s₁.setTop (mkF m 15 #[.val (.ref a), .val (.int (2 : Int32)), .val (.int (2 : Int32)), .val (.double y), .second, .val (.int (3 : Int32))] [(.double x3)])) (fun _ kz => ?_) ?_
      · refine X0.daload hx (j := (3 : Int32)) (v := (.double x3)) (by rw [e0]; exact Ar121.1) (State.isArrayOf_alike hZ.alike Ar121.2.1) Ar121.2.2 hin121 hat121 (g := (mkF m 14 #[.val (.ref a), .val (.int (2 : Int32)), .val (.int (2 : Int32)), .val (.double y), .second, .val (.int (3 : Int32))] [(.int (3 : Int32)), (.ref a)])) rfl rfl (hb hby d1_14) _ ?_
        exact kz
      refine own_go (A := s₁.setTop (mkF m 17 #[.val (.ref a), .val (.int (2 : Int32)), .val (.int (2 : Int32)), .val (.double y), .second, .val (.int (3 : Int32))] [(.int (cmpValue (FP.dcmp x3 y) .g))])) (fun _ kz => ?_) ?_
      · show Steps p.tables e below (s₁.setTop (mkF m 15 #[.val (.ref a), .val (.int (2 : Int32)), .val (.int (2 : Int32)), .val (.double y), .second, .val (.int (3 : Int32))] [(.double x3)])) _
        refine XS.dloadN X0.here hx rfl (hb hby d1_15) rfl ?_
        show Steps p.tables e below (s₁.setTop (mkF m 16 #[.val (.ref a), .val (.int (2 : Int32)), .val (.int (2 : Int32)), .val (.double y), .second, .val (.int (3 : Int32))] [(.double y), (.double x3)])) _
        refine XS.dcmpS X0.here hx rfl (hb hby d1_16) rfl rfl ?_
        exact kz
      by_cases hs122 : (cmpValue (FP.dcmp x3 y) .g) < (0 : Int32)
      · skip
        refine own_go (A := s₁.setTop (mkF m 20 #[.val (.ref a), .val (.int (2 : Int32)), .val (.int (2 : Int32)), .val (.double y), .second, .val (.int (3 : Int32))] [])) (fun _ kz => ?_) ?_
        · show Steps p.tables e below (s₁.setTop (mkF m 17 #[.val (.ref a), .val (.int (2 : Int32)), .val (.int (2 : Int32)), .val (.double y), .second, .val (.int (3 : Int32))] [(.int (cmpValue (FP.dcmp x3 y) .g))])) _
          refine XS.ifNo X0.here hx rfl (hb hby d1_17) rfl ((if0 _ _).trans (tlt hs122).2.1) ?_
          exact kz
        refine own_go (A := s₁.setTop (mkF m 24 #[.val (.ref a), .val (.int (2 : Int32)), .val (.int (2 : Int32)), .val (.double y), .second, .val (.int (3 : Int32))] [(.double FP.dconst0), (.int (3 : Int32)), (.ref a)])) (fun _ kz => ?_) ?_
        · show Steps p.tables e below (s₁.setTop (mkF m 20 #[.val (.ref a), .val (.int (2 : Int32)), .val (.int (2 : Int32)), .val (.double y), .second, .val (.int (3 : Int32))] [])) _
          refine XS.aloadN X0.here hx rfl (hb hby d1_20) rfl rfl ?_
          show Steps p.tables e below (s₁.setTop (mkF m 21 #[.val (.ref a), .val (.int (2 : Int32)), .val (.int (2 : Int32)), .val (.double y), .second, .val (.int (3 : Int32))] [(.ref a)])) _
          refine XS.iload X0.here hx rfl (hb hby d1_21) rfl ?_
          show Steps p.tables e below (s₁.setTop (mkF m 23 #[.val (.ref a), .val (.int (2 : Int32)), .val (.int (2 : Int32)), .val (.double y), .second, .val (.int (3 : Int32))] [(.int (3 : Int32)), (.ref a)])) _
          refine XS.dconst0 X0.here hx rfl (hb hby d1_23) rfl ?_
          exact kz
        obtain ⟨cl123, Ar123, q123, S123, M123, H123, G123⟩ := id Av
        have hin123 : ¬ ((3 : Int32) < 0 ∨ cl123.slots.size ≤ ((3 : Int32)).toNatClampNeg) := inb_of S123 ⟨by decide, by decide⟩
        obtain ⟨T123, h123, X123, e123, W123, st123⟩ := stD X0 hx hZ e0 Ar123 (j := (3 : Int32)) hin123 (g := (mkF m 24 #[.val (.ref a), .val (.int (2 : Int32)), .val (.int (2 : Int32)), .val (.double y), .second, .val (.int (3 : Int32))] [(.double FP.dconst0), (.int (3 : Int32)), (.ref a)])) rfl rfl (hb hby d1_24)
        have Aw123 := Arv.set Ar123 q123 S123 M123 H123 G123 rfl W123 3 rfl (Nat.le_of_ble_eq_true rfl)
        have Z123 : n0 ≤ h123.size := Nat.le_trans Z0 (Keep.of_wr W123).1
        have Kp123 : Keep h0 h123 [a] := Kp0.wr W123 (Or.inl (List.mem_of_getElem? (i := 0) rfl))
        have Av_a : Arv Z h123 a kc .double (4 : Int32) [(.double x0), (.double x1), (.double x2), (.double FP.dconst0)] (.double (0 : UInt64)) := Aw123
        have N123 := Fr.snoc X123 N0 g_a
        refine own_go (A := T123.setTop (mkF m 25 #[.val (.ref a), .val (.int (2 : Int32)), .val (.int (2 : Int32)), .val (.double y), .second, .val (.int (3 : Int32))] [])) (fun _ kz => st123 _ kz) ?_
        refine own_go (A := T123.setTop (mkF m 31 #[.val (.ref a), .val (.int (2 : Int32)), .val (.int (2 : Int32)), .val (.double y), .second, .val (.int (4 : Int32))] [])) (fun _ kz => ?_) ?_
        · show Steps p.tables e below (T123.setTop (mkF m 25 #[.val (.ref a), .val (.int (2 : Int32)), .val (.int (2 : Int32)), .val (.double y), .second, .val (.int (3 : Int32))] [])) _
          refine XS.iinc X123.here hx rfl (hb hby d1_25) rfl (l' := #[.val (.ref a), .val (.int (2 : Int32)), .val (.int (2 : Int32)), .val (.double y), .second, .val (.int (4 : Int32))]) rfl ?_
          show Steps p.tables e below (T123.setTop (mkF m 28 #[.val (.ref a), .val (.int (2 : Int32)), .val (.int (2 : Int32)), .val (.double y), .second, .val (.int (4 : Int32))] [])) _
          refine XS.goto X123.here hx rfl (pc0 := 28) (pc' := 3) rfl (hb hby d1_28) (by decide) (by decide) ?_
          show Steps p.tables e below (T123.setTop (mkF m 3 #[.val (.ref a), .val (.int (2 : Int32)), .val (.int (2 : Int32)), .val (.double y), .second, .val (.int (4 : Int32))] [])) _
          refine XS.iload X123.here hx rfl (hb hby d1_3) rfl ?_
          show Steps p.tables e below (T123.setTop (mkF m 5 #[.val (.ref a), .val (.int (2 : Int32)), .val (.int (2 : Int32)), .val (.double y), .second, .val (.int (4 : Int32))] [(.int (4 : Int32))])) _
          refine XS.iloadN X123.here hx rfl (hb hby d1_5) rfl ?_
          show Steps p.tables e below (T123.setTop (mkF m 6 #[.val (.ref a), .val (.int (2 : Int32)), .val (.int (2 : Int32)), .val (.double y), .second, .val (.int (4 : Int32))] [(.int (2 : Int32)), (.int (4 : Int32))])) _
          refine XS.iloadN X123.here hx rfl (hb hby d1_6) rfl ?_
          show Steps p.tables e below (T123.setTop (mkF m 7 #[.val (.ref a), .val (.int (2 : Int32)), .val (.int (2 : Int32)), .val (.double y), .second, .val (.int (4 : Int32))] [(.int (2 : Int32)), (.int (2 : Int32)), (.int (4 : Int32))])) _
          refine XS.iadd X123.here hx rfl (hb hby d1_7) rfl ?_
          show Steps p.tables e below (T123.setTop (mkF m 8 #[.val (.ref a), .val (.int (2 : Int32)), .val (.int (2 : Int32)), .val (.double y), .second, .val (.int (4 : Int32))] [(.int (4 : Int32)), (.int (4 : Int32))])) _
          refine XS.icmpYes X123.here hx rfl (pc0 := 8) (pc' := 31) rfl (hb hby d1_8) rfl (flt (by decide : ¬ ((4 : Int32) < (4 : Int32)))).2.1 (by decide) (by decide) ?_
          exact kz
        obtain ⟨fs, hrr, hrun, hended, hW, hsame⟩ := X123.leave (v := none) (fun _ => rfl)
        refine ⟨_, _, ?_, hrun, hended, _, _, rfl, ?_, ⟨_, rfl⟩, hW, hsame.mono (by decide) (by decide)⟩
        · show Steps p.tables e below (T123.setTop (mkF m 31 #[.val (.ref a), .val (.int (2 : Int32)), .val (.int (2 : Int32)), .val (.double y), .second, .val (.int (4 : Int32))] [])) _
          exact X123.returnOut hx Bd.returns (hb hby d1_31) hrr
        · show QrmFl Z a (2 : Int32) (2 : Int32) y kc x0 x1 x2 x3 h0 n0 _ T123.heap _
          rw [e123]
          exact ⟨rfl, N123, Kp123, by simpa [own_exp, hs116, hs122] using Av_a⟩
      · skip
        refine own_go (A := s₁.setTop (mkF m 25 #[.val (.ref a), .val (.int (2 : Int32)), .val (.int (2 : Int32)), .val (.double y), .second, .val (.int (3 : Int32))] [])) (fun _ kz => ?_) ?_
        · show Steps p.tables e below (s₁.setTop (mkF m 17 #[.val (.ref a), .val (.int (2 : Int32)), .val (.int (2 : Int32)), .val (.double y), .second, .val (.int (3 : Int32))] [(.int (cmpValue (FP.dcmp x3 y) .g))])) _
          refine XS.ifYes X0.here hx rfl (pc0 := 17) (pc' := 25) rfl (hb hby d1_17) rfl ((if0 _ _).trans (flt hs122).2.1) (by decide) (by decide) ?_
          exact kz
        refine own_go (A := s₁.setTop (mkF m 31 #[.val (.ref a), .val (.int (2 : Int32)), .val (.int (2 : Int32)), .val (.double y), .second, .val (.int (4 : Int32))] [])) (fun _ kz => ?_) ?_
        · show Steps p.tables e below (s₁.setTop (mkF m 25 #[.val (.ref a), .val (.int (2 : Int32)), .val (.int (2 : Int32)), .val (.double y), .second, .val (.int (3 : Int32))] [])) _
          refine XS.iinc X0.here hx rfl (hb hby d1_25) rfl (l' := #[.val (.ref a), .val (.int (2 : Int32)), .val (.int (2 : Int32)), .val (.double y), .second, .val (.int (4 : Int32))]) rfl ?_
          show Steps p.tables e below (s₁.setTop (mkF m 28 #[.val (.ref a), .val (.int (2 : Int32)), .val (.int (2 : Int32)), .val (.double y), .second, .val (.int (4 : Int32))] [])) _
          refine XS.goto X0.here hx rfl (pc0 := 28) (pc' := 3) rfl (hb hby d1_28) (by decide) (by decide) ?_
          show Steps p.tables e below (s₁.setTop (mkF m 3 #[.val (.ref a), .val (.int (2 : Int32)), .val (.int (2 : Int32)), .val (.double y), .second, .val (.int (4 : Int32))] [])) _
          refine XS.iload X0.here hx rfl (hb hby d1_3) rfl ?_
          show Steps p.tables e below (s₁.setTop (mkF m 5 #[.val (.ref a), .val (.int (2 : Int32)), .val (.int (2 : Int32)), .val (.double y), .second, .val (.int (4 : Int32))] [(.int (4 : Int32))])) _
          refine XS.iloadN X0.here hx rfl (hb hby d1_5) rfl ?_
          show Steps p.tables e below (s₁.setTop (mkF m 6 #[.val (.ref a), .val (.int (2 : Int32)), .val (.int (2 : Int32)), .val (.double y), .second, .val (.int (4 : Int32))] [(.int (2 : Int32)), (.int (4 : Int32))])) _
          refine XS.iloadN X0.here hx rfl (hb hby d1_6) rfl ?_
          show Steps p.tables e below (s₁.setTop (mkF m 7 #[.val (.ref a), .val (.int (2 : Int32)), .val (.int (2 : Int32)), .val (.double y), .second, .val (.int (4 : Int32))] [(.int (2 : Int32)), (.int (2 : Int32)), (.int (4 : Int32))])) _
          refine XS.iadd X0.here hx rfl (hb hby d1_7) rfl ?_
          show Steps p.tables e below (s₁.setTop (mkF m 8 #[.val (.ref a), .val (.int (2 : Int32)), .val (.int (2 : Int32)), .val (.double y), .second, .val (.int (4 : Int32))] [(.int (4 : Int32)), (.int (4 : Int32))])) _
          refine XS.icmpYes X0.here hx rfl (pc0 := 8) (pc' := 31) rfl (hb hby d1_8) rfl (flt (by decide : ¬ ((4 : Int32) < (4 : Int32)))).2.1 (by decide) (by decide) ?_
          exact kz
        obtain ⟨fs, hrr, hrun, hended, hW, hsame⟩ := X0.leave (v := none) (fun _ => rfl)
        refine ⟨_, _, ?_, hrun, hended, _, _, rfl, ?_, ⟨_, rfl⟩, hW, hsame.mono (by decide) (by decide)⟩
        · show Steps p.tables e below (s₁.setTop (mkF m 31 #[.val (.ref a), .val (.int (2 : Int32)), .val (.int (2 : Int32)), .val (.double y), .second, .val (.int (4 : Int32))] [])) _
          exact X0.returnOut hx Bd.returns (hb hby d1_31) hrr
        · show QrmFl Z a (2 : Int32) (2 : Int32) y kc x0 x1 x2 x3 h0 n0 _ s₁.heap _
          rw [e0]
          exact ⟨rfl, N0, Kp0, by simpa [own_exp, hs116, hs122] using Av⟩
  · skip
    refine own_go (A := s₁.setTop (mkF m 31 #[.val (.ref a), .val (.int (3 : Int32)), .val (.int (0 : Int32)), .val (.double y), .second, .val (.int (3 : Int32))] [])) (fun _ kz => ?_) ?_
    · show Steps p.tables e below (s₁.setTop (mkF m 0 #[.val (.ref a), .val (.int (3 : Int32)), .val (.int (0 : Int32)), .val (.double y), .second, .unset] [])) _
      refine XS.iloadN X0.here hx rfl (hb hby d1_0) rfl ?_
      show Steps p.tables e below (s₁.setTop (mkF m 1 #[.val (.ref a), .val (.int (3 : Int32)), .val (.int (0 : Int32)), .val (.double y), .second, .unset] [(.int (3 : Int32))])) _
      refine XS.istore X0.here hx rfl (hb hby d1_1) rfl (l' := #[.val (.ref a), .val (.int (3 : Int32)), .val (.int (0 : Int32)), .val (.double y), .second, .val (.int (3 : Int32))]) rfl ?_
      show Steps p.tables e below (s₁.setTop (mkF m 3 #[.val (.ref a), .val (.int (3 : Int32)), .val (.int (0 : Int32)), .val (.double y), .second, .val (.int (3 : Int32))] [])) _
      refine XS.iload X0.here hx rfl (hb hby d1_3) rfl ?_
      show Steps p.tables e below (s₁.setTop (mkF m 5 #[.val (.ref a), .val (.int (3 : Int32)), .val (.int (0 : Int32)), .val (.double y), .second, .val (.int (3 : Int32))] [(.int (3 : Int32))])) _
      refine XS.iloadN X0.here hx rfl (hb hby d1_5) rfl ?_
      show Steps p.tables e below (s₁.setTop (mkF m 6 #[.val (.ref a), .val (.int (3 : Int32)), .val (.int (0 : Int32)), .val (.double y), .second, .val (.int (3 : Int32))] [(.int (3 : Int32)), (.int (3 : Int32))])) _
      refine XS.iloadN X0.here hx rfl (hb hby d1_6) rfl ?_
      show Steps p.tables e below (s₁.setTop (mkF m 7 #[.val (.ref a), .val (.int (3 : Int32)), .val (.int (0 : Int32)), .val (.double y), .second, .val (.int (3 : Int32))] [(.int (0 : Int32)), (.int (3 : Int32)), (.int (3 : Int32))])) _
      refine XS.iadd X0.here hx rfl (hb hby d1_7) rfl ?_
      show Steps p.tables e below (s₁.setTop (mkF m 8 #[.val (.ref a), .val (.int (3 : Int32)), .val (.int (0 : Int32)), .val (.double y), .second, .val (.int (3 : Int32))] [(.int (3 : Int32)), (.int (3 : Int32))])) _
      refine XS.icmpYes X0.here hx rfl (pc0 := 8) (pc' := 31) rfl (hb hby d1_8) rfl (flt (by decide : ¬ ((3 : Int32) < (3 : Int32)))).2.1 (by decide) (by decide) ?_
      exact kz
    obtain ⟨fs, hrr, hrun, hended, hW, hsame⟩ := X0.leave (v := none) (fun _ => rfl)
    refine ⟨_, _, ?_, hrun, hended, _, _, rfl, ?_, ⟨_, rfl⟩, hW, hsame.mono (by decide) (by decide)⟩
    · show Steps p.tables e below (s₁.setTop (mkF m 31 #[.val (.ref a), .val (.int (3 : Int32)), .val (.int (0 : Int32)), .val (.double y), .second, .val (.int (3 : Int32))] [])) _
      exact X0.returnOut hx Bd.returns (hb hby d1_31) hrr
    · show QrmFl Z a (3 : Int32) (0 : Int32) y kc x0 x1 x2 x3 h0 n0 _ s₁.heap _
      rw [e0]
      exact ⟨rfl, N0, Kp0, by simpa [own_exp] using Av⟩
  · skip
    refine own_go (A := s₁.setTop (mkF m 14 #[.val (.ref a), .val (.int (3 : Int32)), .val (.int (1 : Int32)), .val (.double y), .second, .val (.int (3 : Int32))] [(.int (3 : Int32)), (.ref a)])) (fun _ kz => ?_) ?_
    · show Steps p.tables e below (s₁.setTop (mkF m 0 #[.val (.ref a), .val (.int (3 : Int32)), .val (.int (1 : Int32)), .val (.double y), .second, .unset] [])) _
      refine XS.iloadN X0.here hx rfl (hb hby d1_0) rfl ?_
      show Steps p.tables e below (s₁.setTop (mkF m 1 #[.val (.ref a), .val (.int (3 : Int32)), .val (.int (1 : Int32)), .val (.double y), .second, .unset] [(.int (3 : Int32))])) _
      refine XS.istore X0.here hx rfl (hb hby d1_1) rfl (l' := #[.val (.ref a), .val (.int (3 : Int32)), .val (.int (1 : Int32)), .val (.double y), .second, .val (.int (3 : Int32))]) rfl ?_
      show Steps p.tables e below (s₁.setTop (mkF m 3 #[.val (.ref a), .val (.int (3 : Int32)), .val (.int (1 : Int32)), .val (.double y), .second, .val (.int (3 : Int32))] [])) _
      refine XS.iload X0.here hx rfl (hb hby d1_3) rfl ?_
      show Steps p.tables e below (s₁.setTop (mkF m 5 #[.val (.ref a), .val (.int (3 : Int32)), .val (.int (1 : Int32)), .val (.double y), .second, .val (.int (3 : Int32))] [(.int (3 : Int32))])) _
      refine XS.iloadN X0.here hx rfl (hb hby d1_5) rfl ?_
      show Steps p.tables e below (s₁.setTop (mkF m 6 #[.val (.ref a), .val (.int (3 : Int32)), .val (.int (1 : Int32)), .val (.double y), .second, .val (.int (3 : Int32))] [(.int (3 : Int32)), (.int (3 : Int32))])) _
      refine XS.iloadN X0.here hx rfl (hb hby d1_6) rfl ?_
      show Steps p.tables e below (s₁.setTop (mkF m 7 #[.val (.ref a), .val (.int (3 : Int32)), .val (.int (1 : Int32)), .val (.double y), .second, .val (.int (3 : Int32))] [(.int (1 : Int32)), (.int (3 : Int32)), (.int (3 : Int32))])) _
      refine XS.iadd X0.here hx rfl (hb hby d1_7) rfl ?_
      show Steps p.tables e below (s₁.setTop (mkF m 8 #[.val (.ref a), .val (.int (3 : Int32)), .val (.int (1 : Int32)), .val (.double y), .second, .val (.int (3 : Int32))] [(.int (4 : Int32)), (.int (3 : Int32))])) _
      refine XS.icmpNo X0.here hx rfl (hb hby d1_8) rfl (tlt (by decide : ((3 : Int32) < (4 : Int32)))).2.1 ?_
      show Steps p.tables e below (s₁.setTop (mkF m 11 #[.val (.ref a), .val (.int (3 : Int32)), .val (.int (1 : Int32)), .val (.double y), .second, .val (.int (3 : Int32))] [])) _
      refine XS.aloadN X0.here hx rfl (hb hby d1_11) rfl rfl ?_
      show Steps p.tables e below (s₁.setTop (mkF m 12 #[.val (.ref a), .val (.int (3 : Int32)), .val (.int (1 : Int32)), .val (.double y), .second, .val (.int (3 : Int32))] [(.ref a)])) _
      refine XS.iload X0.here hx rfl (hb hby d1_12) rfl ?_
      exact kz
    obtain ⟨cl124, Ar124, -, S124, M124, H124, -⟩ := id Av
    have hin124 : ¬ ((3 : Int32) < 0 ∨ cl124.slots.size ≤ ((3 : Int32)).toNatClampNeg) := inb_of S124 ⟨by decide, by decide⟩
    have hat124 : cl124.slots[((3 : Int32)).toNatClampNeg]? = some (.double x3) := H124.at hin124 rfl
    refine own_go (A := s₁.setTop (mkF m 15 #[.val (.ref a), .val (.int (3 : Int32)), .val (.int (1 : Int32)), .val (.double y), .second, .val (.int (3 : Int32))] [(.double x3)])) (fun _ kz => ?_) ?_
    · refine X0.daload hx (j := (3 : Int32)) (v := (.double x3)) (by rw [e0]; exact Ar124.1) (State.isArrayOf_alike hZ.alike Ar124.2.1) Ar124.2.2 hin124 hat124 (g := (mkF m 14 #[.val (.ref a), .val (.int (3 : Int32)), .val (.int (1 : Int32)), .val (.double y), .second, .val (.int (3 : Int32))] [(.int (3 : Int32)), (.ref a)])) rfl rfl (hb hby d1_14) _ ?_
      exact kz
    refine own_go (A := s₁.setTop (mkF m 17 #[.val (.ref a), .val (.int (3 : Int32)), .val (.int (1 : Int32)), .val (.double y), .second, .val (.int (3 : Int32))] [(.int (cmpValue (FP.dcmp x3 y) .g))])) (fun _ kz => ?_) ?_
    · show Steps p.tables e below (s₁.setTop (mkF m 15 #[.val (.ref a), .val (.int (3 : Int32)), .val (.int (1 : Int32)), .val (.double y), .second, .val (.int (3 : Int32))] [(.double x3)])) _
      refine XS.dloadN X0.here hx rfl (hb hby d1_15) rfl ?_
      show Steps p.tables e below (s₁.setTop (mkF m 16 #[.val (.ref a), .val (.int (3 : Int32)), .val (.int (1 : Int32)), .val (.double y), .second, .val (.int (3 : Int32))] [(.double y), (.double x3)])) _
      refine XS.dcmpS X0.here hx rfl (hb hby d1_16) rfl rfl ?_
      exact kz
    by_cases hs125 : (cmpValue (FP.dcmp x3 y) .g) < (0 : Int32)
    · skip
      refine own_go (A := s₁.setTop (mkF m 20 #[.val (.ref a), .val (.int (3 : Int32)), .val (.int (1 : Int32)), .val (.double y), .second, .val (.int (3 : Int32))] [])) (fun _ kz => ?_) ?_
      · show Steps p.tables e below (s₁.setTop (mkF m 17 #[.val (.ref a), .val (.int (3 : Int32)), .val (.int (1 : Int32)), .val (.double y), .second, .val (.int (3 : Int32))] [(.int (cmpValue (FP.dcmp x3 y) .g))])) _
        refine XS.ifNo X0.here hx rfl (hb hby d1_17) rfl ((if0 _ _).trans (tlt hs125).2.1) ?_
        exact kz
      refine own_go (A := s₁.setTop (mkF m 24 #[.val (.ref a), .val (.int (3 : Int32)), .val (.int (1 : Int32)), .val (.double y), .second, .val (.int (3 : Int32))] [(.double FP.dconst0), (.int (3 : Int32)), (.ref a)])) (fun _ kz => ?_) ?_
      · show Steps p.tables e below (s₁.setTop (mkF m 20 #[.val (.ref a), .val (.int (3 : Int32)), .val (.int (1 : Int32)), .val (.double y), .second, .val (.int (3 : Int32))] [])) _
        refine XS.aloadN X0.here hx rfl (hb hby d1_20) rfl rfl ?_
        show Steps p.tables e below (s₁.setTop (mkF m 21 #[.val (.ref a), .val (.int (3 : Int32)), .val (.int (1 : Int32)), .val (.double y), .second, .val (.int (3 : Int32))] [(.ref a)])) _
        refine XS.iload X0.here hx rfl (hb hby d1_21) rfl ?_
        show Steps p.tables e below (s₁.setTop (mkF m 23 #[.val (.ref a), .val (.int (3 : Int32)), .val (.int (1 : Int32)), .val (.double y), .second, .val (.int (3 : Int32))] [(.int (3 : Int32)), (.ref a)])) _
        refine XS.dconst0 X0.here hx rfl (hb hby d1_23) rfl ?_
        exact kz
      obtain ⟨cl126, Ar126, q126, S126, M126, H126, G126⟩ := id Av
      have hin126 : ¬ ((3 : Int32) < 0 ∨ cl126.slots.size ≤ ((3 : Int32)).toNatClampNeg) := inb_of S126 ⟨by decide, by decide⟩
      obtain ⟨T126, h126, X126, e126, W126, st126⟩ := stD X0 hx hZ e0 Ar126 (j := (3 : Int32)) hin126 (g := (mkF m 24 #[.val (.ref a), .val (.int (3 : Int32)), .val (.int (1 : Int32)), .val (.double y), .second, .val (.int (3 : Int32))] [(.double FP.dconst0), (.int (3 : Int32)), (.ref a)])) rfl rfl (hb hby d1_24)
      have Aw126 := Arv.set Ar126 q126 S126 M126 H126 G126 rfl W126 3 rfl (Nat.le_of_ble_eq_true rfl)
      have Z126 : n0 ≤ h126.size := Nat.le_trans Z0 (Keep.of_wr W126).1
      have Kp126 : Keep h0 h126 [a] := Kp0.wr W126 (Or.inl (List.mem_of_getElem? (i := 0) rfl))
      have Av_a : Arv Z h126 a kc .double (4 : Int32) [(.double x0), (.double x1), (.double x2), (.double FP.dconst0)] (.double (0 : UInt64)) := Aw126
      have N126 := Fr.snoc X126 N0 g_a
      refine own_go (A := T126.setTop (mkF m 25 #[.val (.ref a), .val (.int (3 : Int32)), .val (.int (1 : Int32)), .val (.double y), .second, .val (.int (3 : Int32))] [])) (fun _ kz => st126 _ kz) ?_
      refine own_go (A := T126.setTop (mkF m 31 #[.val (.ref a), .val (.int (3 : Int32)), .val (.int (1 : Int32)), .val (.double y), .second, .val (.int (4 : Int32))] [])) (fun _ kz => ?_) ?_
      · show Steps p.tables e below (T126.setTop (mkF m 25 #[.val (.ref a), .val (.int (3 : Int32)), .val (.int (1 : Int32)), .val (.double y), .second, .val (.int (3 : Int32))] [])) _
        refine XS.iinc X126.here hx rfl (hb hby d1_25) rfl (l' := #[.val (.ref a), .val (.int (3 : Int32)), .val (.int (1 : Int32)), .val (.double y), .second, .val (.int (4 : Int32))]) rfl ?_
        show Steps p.tables e below (T126.setTop (mkF m 28 #[.val (.ref a), .val (.int (3 : Int32)), .val (.int (1 : Int32)), .val (.double y), .second, .val (.int (4 : Int32))] [])) _
        refine XS.goto X126.here hx rfl (pc0 := 28) (pc' := 3) rfl (hb hby d1_28) (by decide) (by decide) ?_
        show Steps p.tables e below (T126.setTop (mkF m 3 #[.val (.ref a), .val (.int (3 : Int32)), .val (.int (1 : Int32)), .val (.double y), .second, .val (.int (4 : Int32))] [])) _
        refine XS.iload X126.here hx rfl (hb hby d1_3) rfl ?_
        show Steps p.tables e below (T126.setTop (mkF m 5 #[.val (.ref a), .val (.int (3 : Int32)), .val (.int (1 : Int32)), .val (.double y), .second, .val (.int (4 : Int32))] [(.int (4 : Int32))])) _
        refine XS.iloadN X126.here hx rfl (hb hby d1_5) rfl ?_
        show Steps p.tables e below (T126.setTop (mkF m 6 #[.val (.ref a), .val (.int (3 : Int32)), .val (.int (1 : Int32)), .val (.double y), .second, .val (.int (4 : Int32))] [(.int (3 : Int32)), (.int (4 : Int32))])) _
        refine XS.iloadN X126.here hx rfl (hb hby d1_6) rfl ?_
        show Steps p.tables e below (T126.setTop (mkF m 7 #[.val (.ref a), .val (.int (3 : Int32)), .val (.int (1 : Int32)), .val (.double y), .second, .val (.int (4 : Int32))] [(.int (1 : Int32)), (.int (3 : Int32)), (.int (4 : Int32))])) _
        refine XS.iadd X126.here hx rfl (hb hby d1_7) rfl ?_
        show Steps p.tables e below (T126.setTop (mkF m 8 #[.val (.ref a), .val (.int (3 : Int32)), .val (.int (1 : Int32)), .val (.double y), .second, .val (.int (4 : Int32))] [(.int (4 : Int32)), (.int (4 : Int32))])) _
        refine XS.icmpYes X126.here hx rfl (pc0 := 8) (pc' := 31) rfl (hb hby d1_8) rfl (flt (by decide : ¬ ((4 : Int32) < (4 : Int32)))).2.1 (by decide) (by decide) ?_
        exact kz
      obtain ⟨fs, hrr, hrun, hended, hW, hsame⟩ := X126.leave (v := none) (fun _ => rfl)
      refine ⟨_, _, ?_, hrun, hended, _, _, rfl, ?_, ⟨_, rfl⟩, hW, hsame.mono (by decide) (by decide)⟩
      · show Steps p.tables e below (T126.setTop (mkF m 31 #[.val (.ref a), .val (.int (3 : Int32)), .val (.int (1 : Int32)), .val (.double y), .second, .val (.int (4 : Int32))] [])) _
        exact X126.returnOut hx Bd.returns (hb hby d1_31) hrr
      · show QrmFl Z a (3 : Int32) (1 : Int32) y kc x0 x1 x2 x3 h0 n0 _ T126.heap _
        rw [e126]
        exact ⟨rfl, N126, Kp126, by simpa [own_exp, hs125] using Av_a⟩
    · skip
      refine own_go (A := s₁.setTop (mkF m 25 #[.val (.ref a), .val (.int (3 : Int32)), .val (.int (1 : Int32)), .val (.double y), .second, .val (.int (3 : Int32))] [])) (fun _ kz => ?_) ?_
      · show Steps p.tables e below (s₁.setTop (mkF m 17 #[.val (.ref a), .val (.int (3 : Int32)), .val (.int (1 : Int32)), .val (.double y), .second, .val (.int (3 : Int32))] [(.int (cmpValue (FP.dcmp x3 y) .g))])) _
        refine XS.ifYes X0.here hx rfl (pc0 := 17) (pc' := 25) rfl (hb hby d1_17) rfl ((if0 _ _).trans (flt hs125).2.1) (by decide) (by decide) ?_
        exact kz
      refine own_go (A := s₁.setTop (mkF m 31 #[.val (.ref a), .val (.int (3 : Int32)), .val (.int (1 : Int32)), .val (.double y), .second, .val (.int (4 : Int32))] [])) (fun _ kz => ?_) ?_
      · show Steps p.tables e below (s₁.setTop (mkF m 25 #[.val (.ref a), .val (.int (3 : Int32)), .val (.int (1 : Int32)), .val (.double y), .second, .val (.int (3 : Int32))] [])) _
        refine XS.iinc X0.here hx rfl (hb hby d1_25) rfl (l' := #[.val (.ref a), .val (.int (3 : Int32)), .val (.int (1 : Int32)), .val (.double y), .second, .val (.int (4 : Int32))]) rfl ?_
        show Steps p.tables e below (s₁.setTop (mkF m 28 #[.val (.ref a), .val (.int (3 : Int32)), .val (.int (1 : Int32)), .val (.double y), .second, .val (.int (4 : Int32))] [])) _
        refine XS.goto X0.here hx rfl (pc0 := 28) (pc' := 3) rfl (hb hby d1_28) (by decide) (by decide) ?_
        show Steps p.tables e below (s₁.setTop (mkF m 3 #[.val (.ref a), .val (.int (3 : Int32)), .val (.int (1 : Int32)), .val (.double y), .second, .val (.int (4 : Int32))] [])) _
        refine XS.iload X0.here hx rfl (hb hby d1_3) rfl ?_
        show Steps p.tables e below (s₁.setTop (mkF m 5 #[.val (.ref a), .val (.int (3 : Int32)), .val (.int (1 : Int32)), .val (.double y), .second, .val (.int (4 : Int32))] [(.int (4 : Int32))])) _
        refine XS.iloadN X0.here hx rfl (hb hby d1_5) rfl ?_
        show Steps p.tables e below (s₁.setTop (mkF m 6 #[.val (.ref a), .val (.int (3 : Int32)), .val (.int (1 : Int32)), .val (.double y), .second, .val (.int (4 : Int32))] [(.int (3 : Int32)), (.int (4 : Int32))])) _
        refine XS.iloadN X0.here hx rfl (hb hby d1_6) rfl ?_
        show Steps p.tables e below (s₁.setTop (mkF m 7 #[.val (.ref a), .val (.int (3 : Int32)), .val (.int (1 : Int32)), .val (.double y), .second, .val (.int (4 : Int32))] [(.int (1 : Int32)), (.int (3 : Int32)), (.int (4 : Int32))])) _
        refine XS.iadd X0.here hx rfl (hb hby d1_7) rfl ?_
        show Steps p.tables e below (s₁.setTop (mkF m 8 #[.val (.ref a), .val (.int (3 : Int32)), .val (.int (1 : Int32)), .val (.double y), .second, .val (.int (4 : Int32))] [(.int (4 : Int32)), (.int (4 : Int32))])) _
        refine XS.icmpYes X0.here hx rfl (pc0 := 8) (pc' := 31) rfl (hb hby d1_8) rfl (flt (by decide : ¬ ((4 : Int32) < (4 : Int32)))).2.1 (by decide) (by decide) ?_
        exact kz
      obtain ⟨fs, hrr, hrun, hended, hW, hsame⟩ := X0.leave (v := none) (fun _ => rfl)
      refine ⟨_, _, ?_, hrun, hended, _, _, rfl, ?_, ⟨_, rfl⟩, hW, hsame.mono (by decide) (by decide)⟩
      · show Steps p.tables e below (s₁.setTop (mkF m 31 #[.val (.ref a), .val (.int (3 : Int32)), .val (.int (1 : Int32)), .val (.double y), .second, .val (.int (4 : Int32))] [])) _
        exact X0.returnOut hx Bd.returns (hb hby d1_31) hrr
      · show QrmFl Z a (3 : Int32) (1 : Int32) y kc x0 x1 x2 x3 h0 n0 _ s₁.heap _
        rw [e0]
        exact ⟨rfl, N0, Kp0, by simpa [own_exp, hs125] using Av⟩
theorem own_pn0 : plainName "com/example/quorumweight/quorumweight/risk/FailureCountFlushPinLaw" = true := by first | (simp [plainName, overriddenIn]; done) | decide +kernel
theorem own_ef0 (m : MethodId) (x0 : Int32) (x1 : Int32) (x2 : Int32) (x3 : Int32) (x4 : Int32) (x5 : Int32) : entryFrame m #[(.int x0), (.int x1), (.int x2), (.int x3), (.int x4), (.int x5)] maxLocals = mkF m 0 #[.val (.int x0), .val (.int x1), .val (.int x2), .val (.int x3), .val (.int x4), .val (.int x5), .unset, .unset, .unset, .unset, .unset] [] := by first | (simp [entryFrame, mkF, argsToLocals, Value.category, maxLocals]; done) | rfl
def Qrm0 (Z : State) (p1 p2 p3 p4 p5 p6 : Int32) (h0 : Heap) (n0 : Nat) (v : Option Value) (h : Heap) (L : List Loc) : Prop := v = some (.int 1) ∧ Fr n0 L
set_option maxRecDepth 65536 in
set_option maxHeartbeats 40000000 in
theorem rm0 (l : Launch) (Z : State) (a0 : Array Value) (hw : ∀ d ∈ tables_1, d.before a0 Z = true) (ws : List Jvm.Cond) (p1 p2 p3 p4 p5 p6 : Int32) (h0 : Heap) (n0 : Nat) (Z0 : n0 ≤ h0.size)  :
    MetFree l x (head1 (Jvm.Cond.code x code maxLocals ret :: ws) room_1) (fun ar_ U_ => ar_ = #[(.int p1), (.int p2), (.int p3), (.int p4), (.int p5), (.int p6)] ∧ Z.Warmed39 U_.vm ∧ U_.heap = h0) (fun _ _ _ _ _ => True) (fun _ U_ ou_ V_ => ∃ v_ L_, ou_ = .returned v_ ∧ Qrm0 Z p1 p2 p3 p4 p5 p6 h0 n0 v_ V_.heap L_ ∧ FrameEnd U_ ou_ V_ L_ room_1.cells room_1.slots) := by
  refine MetFree.of_bodySF (plainFor_of_name own_pn0) hisR ?_
  intro p e s m args below meth c s₁ Bd hml0 hP hK
  obtain ⟨rfl, hZ, hh⟩ := hP
  have hx := Bd.exec
  have hby := Bd.bytes
  have hml : c.maxLocals = 11 := hml0
  have hown : s.vm.findClass "com/example/quorumweight/quorumweight/risk/FailureCountFlushPinLaw" = some m.cls := findClass_of_methodNamed Bd.named
  have hnm := (name_of_methodNamed Bd.named Bd.method).1
  have X0 : Stand p l e room_1 s m #[(.int p1), (.int p2), (.int p3), (.int p4), (.int p5), (.int p6)] below meth c s₁ [] 0 0 := Stand.of_body Bd
  have e0 : s₁.heap = h0 := by rw [← hh, Bd.state]; rfl
  have N0 := Fr.nil n0
  refine own_go (A := s₁.setTop (mkF m 0 #[.val (.int p1), .val (.int p2), .val (.int p3), .val (.int p4), .val (.int p5), .val (.int p6), .unset, .unset, .unset, .unset, .unset] [])) (fun t kz => castTop (own_ef0 m p1 p2 p3 p4 p5 p6) kz) ?_
  refine own_go (A := s₁.setTop (mkF m 1 #[.val (.int p1), .val (.int p2), .val (.int p3), .val (.int p4), .val (.int p5), .val (.int p6), .unset, .unset, .unset, .unset, .unset] [(.int (4 : Int32))])) (fun _ kz => ?_) ?_
  · show Steps p.tables e below (s₁.setTop (mkF m 0 #[.val (.int p1), .val (.int p2), .val (.int p3), .val (.int p4), .val (.int p5), .val (.int p6), .unset, .unset, .unset, .unset, .unset] [])) _
    refine XS.iconst X0.here hx rfl (hb hby at_0) ?_
    exact kz
  obtain ⟨T1, h1, k1, X1, e1, E1, A1, st1⟩ := newP X0 hx hZ (hw _ (List.mem_of_getElem? (i := 0) rfl)) e0 (g := (mkF m 1 #[.val (.int p1), .val (.int p2), .val (.int p3), .val (.int p4), .val (.int p5), .val (.int p6), .unset, .unset, .unset, .unset, .unset] [(.int (4 : Int32))])) rfl (hb hby at_1) rfl (by decide) (cap := 4) (by decide) (by decide) (by decide) (by decide)
  obtain ⟨b1, gq1⟩ : ∃ z, z = h0.size := ⟨_, rfl⟩
  rw [← gq1] at A1 st1
  have g_b1 : n0 ≤ b1 := Nat.le_trans Z0 (Nat.le_of_eq gq1.symm)
  have Z1 : n0 ≤ h1.size := Nat.le_trans Z0 E1.1
  have Av_b1 : Arv Z h1 b1 k1 .double (4 : Int32) [(.double (0 : UInt64)), (.double (0 : UInt64)), (.double (0 : UInt64)), (.double (0 : UInt64))] (.double (0 : UInt64)) := (Arv.new A1 (by decide)).pad (pad_rep [] (.double (0 : UInt64)) 4)
  refine own_go (A := T1.setTop (mkF m 3 #[.val (.int p1), .val (.int p2), .val (.int p3), .val (.int p4), .val (.int p5), .val (.int p6), .unset, .unset, .unset, .unset, .unset] [(.ref b1)])) (fun _ kz => st1 _ kz) ?_
  refine own_go (A := T1.setTop (mkF m 10 #[.val (.int p1), .val (.int p2), .val (.int p3), .val (.int p4), .val (.int p5), .val (.int p6), .val (.ref b1), .unset, .unset, .unset, .unset] [(.double (FP.i2d p1)), (.int (0 : Int32)), (.ref b1)])) (fun _ kz => ?_) ?_
  · show Steps p.tables e below (T1.setTop (mkF m 3 #[.val (.int p1), .val (.int p2), .val (.int p3), .val (.int p4), .val (.int p5), .val (.int p6), .unset, .unset, .unset, .unset, .unset] [(.ref b1)])) _
    refine XS.astore X1.here hx rfl (hb hby at_3) rfl rfl (l' := #[.val (.int p1), .val (.int p2), .val (.int p3), .val (.int p4), .val (.int p5), .val (.int p6), .val (.ref b1), .unset, .unset, .unset, .unset]) rfl ?_
    show Steps p.tables e below (T1.setTop (mkF m 5 #[.val (.int p1), .val (.int p2), .val (.int p3), .val (.int p4), .val (.int p5), .val (.int p6), .val (.ref b1), .unset, .unset, .unset, .unset] [])) _
    refine XS.aload X1.here hx rfl (hb hby at_5) rfl rfl ?_
    show Steps p.tables e below (T1.setTop (mkF m 7 #[.val (.int p1), .val (.int p2), .val (.int p3), .val (.int p4), .val (.int p5), .val (.int p6), .val (.ref b1), .unset, .unset, .unset, .unset] [(.ref b1)])) _
    refine XS.iconst X1.here hx rfl (hb hby at_7) ?_
    show Steps p.tables e below (T1.setTop (mkF m 8 #[.val (.int p1), .val (.int p2), .val (.int p3), .val (.int p4), .val (.int p5), .val (.int p6), .val (.ref b1), .unset, .unset, .unset, .unset] [(.int (0 : Int32)), (.ref b1)])) _
    refine XS.iloadN X1.here hx rfl (hb hby at_8) rfl ?_
    show Steps p.tables e below (T1.setTop (mkF m 9 #[.val (.int p1), .val (.int p2), .val (.int p3), .val (.int p4), .val (.int p5), .val (.int p6), .val (.ref b1), .unset, .unset, .unset, .unset] [(.int p1), (.int (0 : Int32)), (.ref b1)])) _
    refine XS.i2dS X1.here hx rfl (hb hby at_9) rfl rfl ?_
    exact kz
  obtain ⟨cl2, Ar2, q2, S2, M2, H2, G2⟩ := id Av_b1
  have hin2 : ¬ ((0 : Int32) < 0 ∨ cl2.slots.size ≤ ((0 : Int32)).toNatClampNeg) := inb_of S2 ⟨by decide, by decide⟩
  obtain ⟨T2, h2, X2, e2, W2, st2⟩ := stD X1 hx hZ e1 Ar2 (j := (0 : Int32)) hin2 (g := (mkF m 10 #[.val (.int p1), .val (.int p2), .val (.int p3), .val (.int p4), .val (.int p5), .val (.int p6), .val (.ref b1), .unset, .unset, .unset, .unset] [(.double (FP.i2d p1)), (.int (0 : Int32)), (.ref b1)])) rfl rfl (hb hby at_10)
  have Aw2 := Arv.set Ar2 q2 S2 M2 H2 G2 rfl W2 0 rfl (Nat.le_of_ble_eq_true rfl)
  have Z2 : n0 ≤ h2.size := Nat.le_trans Z1 (Keep.of_wr W2).1
  have Av_b1 : Arv Z h2 b1 k1 .double (4 : Int32) [(.double (FP.i2d p1)), (.double (0 : UInt64)), (.double (0 : UInt64)), (.double (0 : UInt64))] (.double (0 : UInt64)) := Aw2
  have N2 := Fr.snoc X2 N0 g_b1
  refine own_go (A := T2.setTop (mkF m 11 #[.val (.int p1), .val (.int p2), .val (.int p3), .val (.int p4), .val (.int p5), .val (.int p6), .val (.ref b1), .unset, .unset, .unset, .unset] [])) (fun _ kz => st2 _ kz) ?_
  refine own_go (A := T2.setTop (mkF m 16 #[.val (.int p1), .val (.int p2), .val (.int p3), .val (.int p4), .val (.int p5), .val (.int p6), .val (.ref b1), .unset, .unset, .unset, .unset] [(.double (FP.i2d p2)), (.int (1 : Int32)), (.ref b1)])) (fun _ kz => ?_) ?_
  · show Steps p.tables e below (T2.setTop (mkF m 11 #[.val (.int p1), .val (.int p2), .val (.int p3), .val (.int p4), .val (.int p5), .val (.int p6), .val (.ref b1), .unset, .unset, .unset, .unset] [])) _
    refine XS.aload X2.here hx rfl (hb hby at_11) rfl rfl ?_
    show Steps p.tables e below (T2.setTop (mkF m 13 #[.val (.int p1), .val (.int p2), .val (.int p3), .val (.int p4), .val (.int p5), .val (.int p6), .val (.ref b1), .unset, .unset, .unset, .unset] [(.ref b1)])) _
    refine XS.iconst X2.here hx rfl (hb hby at_13) ?_
    show Steps p.tables e below (T2.setTop (mkF m 14 #[.val (.int p1), .val (.int p2), .val (.int p3), .val (.int p4), .val (.int p5), .val (.int p6), .val (.ref b1), .unset, .unset, .unset, .unset] [(.int (1 : Int32)), (.ref b1)])) _
    refine XS.iloadN X2.here hx rfl (hb hby at_14) rfl ?_
    show Steps p.tables e below (T2.setTop (mkF m 15 #[.val (.int p1), .val (.int p2), .val (.int p3), .val (.int p4), .val (.int p5), .val (.int p6), .val (.ref b1), .unset, .unset, .unset, .unset] [(.int p2), (.int (1 : Int32)), (.ref b1)])) _
    refine XS.i2dS X2.here hx rfl (hb hby at_15) rfl rfl ?_
    exact kz
  obtain ⟨cl3, Ar3, q3, S3, M3, H3, G3⟩ := id Av_b1
  have hin3 : ¬ ((1 : Int32) < 0 ∨ cl3.slots.size ≤ ((1 : Int32)).toNatClampNeg) := inb_of S3 ⟨by decide, by decide⟩
  obtain ⟨T3, h3, X3, e3, W3, st3⟩ := stD X2 hx hZ e2 Ar3 (j := (1 : Int32)) hin3 (g := (mkF m 16 #[.val (.int p1), .val (.int p2), .val (.int p3), .val (.int p4), .val (.int p5), .val (.int p6), .val (.ref b1), .unset, .unset, .unset, .unset] [(.double (FP.i2d p2)), (.int (1 : Int32)), (.ref b1)])) rfl rfl (hb hby at_16)
  have Aw3 := Arv.set Ar3 q3 S3 M3 H3 G3 rfl W3 1 rfl (Nat.le_of_ble_eq_true rfl)
  have Z3 : n0 ≤ h3.size := Nat.le_trans Z2 (Keep.of_wr W3).1
  have Av_b1 : Arv Z h3 b1 k1 .double (4 : Int32) [(.double (FP.i2d p1)), (.double (FP.i2d p2)), (.double (0 : UInt64)), (.double (0 : UInt64))] (.double (0 : UInt64)) := Aw3
  have N3 := Fr.snoc X3 N2 g_b1
  refine own_go (A := T3.setTop (mkF m 17 #[.val (.int p1), .val (.int p2), .val (.int p3), .val (.int p4), .val (.int p5), .val (.int p6), .val (.ref b1), .unset, .unset, .unset, .unset] [])) (fun _ kz => st3 _ kz) ?_
  refine own_go (A := T3.setTop (mkF m 22 #[.val (.int p1), .val (.int p2), .val (.int p3), .val (.int p4), .val (.int p5), .val (.int p6), .val (.ref b1), .unset, .unset, .unset, .unset] [(.double (FP.i2d p3)), (.int (2 : Int32)), (.ref b1)])) (fun _ kz => ?_) ?_
  · show Steps p.tables e below (T3.setTop (mkF m 17 #[.val (.int p1), .val (.int p2), .val (.int p3), .val (.int p4), .val (.int p5), .val (.int p6), .val (.ref b1), .unset, .unset, .unset, .unset] [])) _
    refine XS.aload X3.here hx rfl (hb hby at_17) rfl rfl ?_
    show Steps p.tables e below (T3.setTop (mkF m 19 #[.val (.int p1), .val (.int p2), .val (.int p3), .val (.int p4), .val (.int p5), .val (.int p6), .val (.ref b1), .unset, .unset, .unset, .unset] [(.ref b1)])) _
    refine XS.iconst X3.here hx rfl (hb hby at_19) ?_
    show Steps p.tables e below (T3.setTop (mkF m 20 #[.val (.int p1), .val (.int p2), .val (.int p3), .val (.int p4), .val (.int p5), .val (.int p6), .val (.ref b1), .unset, .unset, .unset, .unset] [(.int (2 : Int32)), (.ref b1)])) _
    refine XS.iloadN X3.here hx rfl (hb hby at_20) rfl ?_
    show Steps p.tables e below (T3.setTop (mkF m 21 #[.val (.int p1), .val (.int p2), .val (.int p3), .val (.int p4), .val (.int p5), .val (.int p6), .val (.ref b1), .unset, .unset, .unset, .unset] [(.int p3), (.int (2 : Int32)), (.ref b1)])) _
    refine XS.i2dS X3.here hx rfl (hb hby at_21) rfl rfl ?_
    exact kz
  obtain ⟨cl4, Ar4, q4, S4, M4, H4, G4⟩ := id Av_b1
  have hin4 : ¬ ((2 : Int32) < 0 ∨ cl4.slots.size ≤ ((2 : Int32)).toNatClampNeg) := inb_of S4 ⟨by decide, by decide⟩
  obtain ⟨T4, h4, X4, e4, W4, st4⟩ := stD X3 hx hZ e3 Ar4 (j := (2 : Int32)) hin4 (g := (mkF m 22 #[.val (.int p1), .val (.int p2), .val (.int p3), .val (.int p4), .val (.int p5), .val (.int p6), .val (.ref b1), .unset, .unset, .unset, .unset] [(.double (FP.i2d p3)), (.int (2 : Int32)), (.ref b1)])) rfl rfl (hb hby at_22)
  have Aw4 := Arv.set Ar4 q4 S4 M4 H4 G4 rfl W4 2 rfl (Nat.le_of_ble_eq_true rfl)
  have Z4 : n0 ≤ h4.size := Nat.le_trans Z3 (Keep.of_wr W4).1
  have Av_b1 : Arv Z h4 b1 k1 .double (4 : Int32) [(.double (FP.i2d p1)), (.double (FP.i2d p2)), (.double (FP.i2d p3)), (.double (0 : UInt64))] (.double (0 : UInt64)) := Aw4
  have N4 := Fr.snoc X4 N3 g_b1
  refine own_go (A := T4.setTop (mkF m 23 #[.val (.int p1), .val (.int p2), .val (.int p3), .val (.int p4), .val (.int p5), .val (.int p6), .val (.ref b1), .unset, .unset, .unset, .unset] [])) (fun _ kz => st4 _ kz) ?_
  refine own_go (A := T4.setTop (mkF m 28 #[.val (.int p1), .val (.int p2), .val (.int p3), .val (.int p4), .val (.int p5), .val (.int p6), .val (.ref b1), .unset, .unset, .unset, .unset] [(.double (FP.i2d p4)), (.int (3 : Int32)), (.ref b1)])) (fun _ kz => ?_) ?_
  · show Steps p.tables e below (T4.setTop (mkF m 23 #[.val (.int p1), .val (.int p2), .val (.int p3), .val (.int p4), .val (.int p5), .val (.int p6), .val (.ref b1), .unset, .unset, .unset, .unset] [])) _
    refine XS.aload X4.here hx rfl (hb hby at_23) rfl rfl ?_
    show Steps p.tables e below (T4.setTop (mkF m 25 #[.val (.int p1), .val (.int p2), .val (.int p3), .val (.int p4), .val (.int p5), .val (.int p6), .val (.ref b1), .unset, .unset, .unset, .unset] [(.ref b1)])) _
    refine XS.iconst X4.here hx rfl (hb hby at_25) ?_
    show Steps p.tables e below (T4.setTop (mkF m 26 #[.val (.int p1), .val (.int p2), .val (.int p3), .val (.int p4), .val (.int p5), .val (.int p6), .val (.ref b1), .unset, .unset, .unset, .unset] [(.int (3 : Int32)), (.ref b1)])) _
    refine XS.iloadN X4.here hx rfl (hb hby at_26) rfl ?_
    show Steps p.tables e below (T4.setTop (mkF m 27 #[.val (.int p1), .val (.int p2), .val (.int p3), .val (.int p4), .val (.int p5), .val (.int p6), .val (.ref b1), .unset, .unset, .unset, .unset] [(.int p4), (.int (3 : Int32)), (.ref b1)])) _
    refine XS.i2dS X4.here hx rfl (hb hby at_27) rfl rfl ?_
    exact kz
  obtain ⟨cl5, Ar5, q5, S5, M5, H5, G5⟩ := id Av_b1
  have hin5 : ¬ ((3 : Int32) < 0 ∨ cl5.slots.size ≤ ((3 : Int32)).toNatClampNeg) := inb_of S5 ⟨by decide, by decide⟩
  obtain ⟨T5, h5, X5, e5, W5, st5⟩ := stD X4 hx hZ e4 Ar5 (j := (3 : Int32)) hin5 (g := (mkF m 28 #[.val (.int p1), .val (.int p2), .val (.int p3), .val (.int p4), .val (.int p5), .val (.int p6), .val (.ref b1), .unset, .unset, .unset, .unset] [(.double (FP.i2d p4)), (.int (3 : Int32)), (.ref b1)])) rfl rfl (hb hby at_28)
  have Aw5 := Arv.set Ar5 q5 S5 M5 H5 G5 rfl W5 3 rfl (Nat.le_of_ble_eq_true rfl)
  have Z5 : n0 ≤ h5.size := Nat.le_trans Z4 (Keep.of_wr W5).1
  have Av_b1 : Arv Z h5 b1 k1 .double (4 : Int32) [(.double (FP.i2d p1)), (.double (FP.i2d p2)), (.double (FP.i2d p3)), (.double (FP.i2d p4))] (.double (0 : UInt64)) := Aw5
  have N5 := Fr.snoc X5 N4 g_b1
  refine own_go (A := T5.setTop (mkF m 29 #[.val (.int p1), .val (.int p2), .val (.int p3), .val (.int p4), .val (.int p5), .val (.int p6), .val (.ref b1), .unset, .unset, .unset, .unset] [])) (fun _ kz => st5 _ kz) ?_
  refine own_go (A := T5.setTop (mkF m 40 #[.val (.int p1), .val (.int p2), .val (.int p3), .val (.int p4), .val (.int p5), .val (.int p6), .val (.ref b1), .val (.double (FP.i2d p5)), .second, .val (.int (p6 &&& (3 : Int32))), .unset] [])) (fun _ kz => ?_) ?_
  · show Steps p.tables e below (T5.setTop (mkF m 29 #[.val (.int p1), .val (.int p2), .val (.int p3), .val (.int p4), .val (.int p5), .val (.int p6), .val (.ref b1), .unset, .unset, .unset, .unset] [])) _
    refine XS.iload X5.here hx rfl (hb hby at_29) rfl ?_
    show Steps p.tables e below (T5.setTop (mkF m 31 #[.val (.int p1), .val (.int p2), .val (.int p3), .val (.int p4), .val (.int p5), .val (.int p6), .val (.ref b1), .unset, .unset, .unset, .unset] [(.int p5)])) _
    refine XS.i2dS X5.here hx rfl (hb hby at_31) rfl rfl ?_
    show Steps p.tables e below (T5.setTop (mkF m 32 #[.val (.int p1), .val (.int p2), .val (.int p3), .val (.int p4), .val (.int p5), .val (.int p6), .val (.ref b1), .unset, .unset, .unset, .unset] [(.double (FP.i2d p5))])) _
    refine XS.dstore X5.here hx rfl (hb hby at_32) rfl (l' := #[.val (.int p1), .val (.int p2), .val (.int p3), .val (.int p4), .val (.int p5), .val (.int p6), .val (.ref b1), .val (.double (FP.i2d p5)), .second, .unset, .unset]) rfl ?_
    show Steps p.tables e below (T5.setTop (mkF m 34 #[.val (.int p1), .val (.int p2), .val (.int p3), .val (.int p4), .val (.int p5), .val (.int p6), .val (.ref b1), .val (.double (FP.i2d p5)), .second, .unset, .unset] [])) _
    refine XS.iload X5.here hx rfl (hb hby at_34) rfl ?_
    show Steps p.tables e below (T5.setTop (mkF m 36 #[.val (.int p1), .val (.int p2), .val (.int p3), .val (.int p4), .val (.int p5), .val (.int p6), .val (.ref b1), .val (.double (FP.i2d p5)), .second, .unset, .unset] [(.int p6)])) _
    refine XS.iconst X5.here hx rfl (hb hby at_36) ?_
    show Steps p.tables e below (T5.setTop (mkF m 37 #[.val (.int p1), .val (.int p2), .val (.int p3), .val (.int p4), .val (.int p5), .val (.int p6), .val (.ref b1), .val (.double (FP.i2d p5)), .second, .unset, .unset] [(.int (3 : Int32)), (.int p6)])) _
    refine XS.iand X5.here hx rfl (hb hby at_37) rfl ?_
    show Steps p.tables e below (T5.setTop (mkF m 38 #[.val (.int p1), .val (.int p2), .val (.int p3), .val (.int p4), .val (.int p5), .val (.int p6), .val (.ref b1), .val (.double (FP.i2d p5)), .second, .unset, .unset] [(.int (p6 &&& (3 : Int32)))])) _
    refine XS.istore X5.here hx rfl (hb hby at_38) rfl (l' := #[.val (.int p1), .val (.int p2), .val (.int p3), .val (.int p4), .val (.int p5), .val (.int p6), .val (.ref b1), .val (.double (FP.i2d p5)), .second, .val (.int (p6 &&& (3 : Int32))), .unset]) rfl ?_
    exact kz
  obtain ⟨o, ho⟩ : ∃ z, z = (p6 &&& (3 : Int32)) := ⟨_, rfl⟩
  refine own_go (A := T5.setTop (mkF m 40 #[.val (.int p1), .val (.int p2), .val (.int p3), .val (.int p4), .val (.int p5), .val (.int p6), .val (.ref b1), .val (.double (FP.i2d p5)), .second, .val (.int o), .unset] [])) (fun _ kz => by rw [ho] at kz; exact kz) ?_
  refine own_go (A := T5.setTop (mkF m 54 #[.val (.int p1), .val (.int p2), .val (.int p3), .val (.int p4), .val (.int p5), .val (.int p6), .val (.ref b1), .val (.double (FP.i2d p5)), .second, .val (.int o), .val (.int ((((p6.toUInt32 >>> ((2 : Int32) &&& 31).toUInt32).toInt32) &&& (7 : Int32)) % ((5 : Int32) - o)))] [])) (fun _ kz => ?_) ?_
  · show Steps p.tables e below (T5.setTop (mkF m 40 #[.val (.int p1), .val (.int p2), .val (.int p3), .val (.int p4), .val (.int p5), .val (.int p6), .val (.ref b1), .val (.double (FP.i2d p5)), .second, .val (.int o), .unset] [])) _
    refine XS.iload X5.here hx rfl (hb hby at_40) rfl ?_
    show Steps p.tables e below (T5.setTop (mkF m 42 #[.val (.int p1), .val (.int p2), .val (.int p3), .val (.int p4), .val (.int p5), .val (.int p6), .val (.ref b1), .val (.double (FP.i2d p5)), .second, .val (.int o), .unset] [(.int p6)])) _
    refine XS.iconst X5.here hx rfl (hb hby at_42) ?_
    show Steps p.tables e below (T5.setTop (mkF m 43 #[.val (.int p1), .val (.int p2), .val (.int p3), .val (.int p4), .val (.int p5), .val (.int p6), .val (.ref b1), .val (.double (FP.i2d p5)), .second, .val (.int o), .unset] [(.int (2 : Int32)), (.int p6)])) _
    refine XS.iushr X5.here hx rfl (hb hby at_43) rfl ?_
    show Steps p.tables e below (T5.setTop (mkF m 44 #[.val (.int p1), .val (.int p2), .val (.int p3), .val (.int p4), .val (.int p5), .val (.int p6), .val (.ref b1), .val (.double (FP.i2d p5)), .second, .val (.int o), .unset] [(.int ((p6.toUInt32 >>> ((2 : Int32) &&& 31).toUInt32).toInt32))])) _
    refine XS.bipush X5.here hx rfl (hb hby at_44) ?_
    show Steps p.tables e below (T5.setTop (mkF m 46 #[.val (.int p1), .val (.int p2), .val (.int p3), .val (.int p4), .val (.int p5), .val (.int p6), .val (.ref b1), .val (.double (FP.i2d p5)), .second, .val (.int o), .unset] [(.int (7 : Int32)), (.int ((p6.toUInt32 >>> ((2 : Int32) &&& 31).toUInt32).toInt32))])) _
    refine XS.iand X5.here hx rfl (hb hby at_46) rfl ?_
    show Steps p.tables e below (T5.setTop (mkF m 47 #[.val (.int p1), .val (.int p2), .val (.int p3), .val (.int p4), .val (.int p5), .val (.int p6), .val (.ref b1), .val (.double (FP.i2d p5)), .second, .val (.int o), .unset] [(.int (((p6.toUInt32 >>> ((2 : Int32) &&& 31).toUInt32).toInt32) &&& (7 : Int32)))])) _
    refine XS.iconst X5.here hx rfl (hb hby at_47) ?_
    show Steps p.tables e below (T5.setTop (mkF m 48 #[.val (.int p1), .val (.int p2), .val (.int p3), .val (.int p4), .val (.int p5), .val (.int p6), .val (.ref b1), .val (.double (FP.i2d p5)), .second, .val (.int o), .unset] [(.int (5 : Int32)), (.int (((p6.toUInt32 >>> ((2 : Int32) &&& 31).toUInt32).toInt32) &&& (7 : Int32)))])) _
    refine XS.iload X5.here hx rfl (hb hby at_48) rfl ?_
    show Steps p.tables e below (T5.setTop (mkF m 50 #[.val (.int p1), .val (.int p2), .val (.int p3), .val (.int p4), .val (.int p5), .val (.int p6), .val (.ref b1), .val (.double (FP.i2d p5)), .second, .val (.int o), .unset] [(.int o), (.int (5 : Int32)), (.int (((p6.toUInt32 >>> ((2 : Int32) &&& 31).toUInt32).toInt32) &&& (7 : Int32)))])) _
    refine XS.isub X5.here hx rfl (hb hby at_50) rfl ?_
    show Steps p.tables e below (T5.setTop (mkF m 51 #[.val (.int p1), .val (.int p2), .val (.int p3), .val (.int p4), .val (.int p5), .val (.int p6), .val (.ref b1), .val (.double (FP.i2d p5)), .second, .val (.int o), .unset] [(.int ((5 : Int32) - o)), (.int (((p6.toUInt32 >>> ((2 : Int32) &&& 31).toUInt32).toInt32) &&& (7 : Int32)))])) _
    refine iremM X5 hx rfl (hb hby at_51) rfl (own_nz _ ho) ?_
    show Steps p.tables e below (T5.setTop (mkF m 52 #[.val (.int p1), .val (.int p2), .val (.int p3), .val (.int p4), .val (.int p5), .val (.int p6), .val (.ref b1), .val (.double (FP.i2d p5)), .second, .val (.int o), .unset] [(.int ((((p6.toUInt32 >>> ((2 : Int32) &&& 31).toUInt32).toInt32) &&& (7 : Int32)) % ((5 : Int32) - o)))])) _
    refine XS.istore X5.here hx rfl (hb hby at_52) rfl (l' := #[.val (.int p1), .val (.int p2), .val (.int p3), .val (.int p4), .val (.int p5), .val (.int p6), .val (.ref b1), .val (.double (FP.i2d p5)), .second, .val (.int o), .val (.int ((((p6.toUInt32 >>> ((2 : Int32) &&& 31).toUInt32).toInt32) &&& (7 : Int32)) % ((5 : Int32) - o)))]) rfl ?_
    exact kz
  obtain ⟨ln, hln⟩ : ∃ z, z = ((((p6.toUInt32 >>> ((2 : Int32) &&& 31).toUInt32).toInt32) &&& (7 : Int32)) % ((5 : Int32) - o)) := ⟨_, rfl⟩
  refine own_go (A := T5.setTop (mkF m 54 #[.val (.int p1), .val (.int p2), .val (.int p3), .val (.int p4), .val (.int p5), .val (.int p6), .val (.ref b1), .val (.double (FP.i2d p5)), .second, .val (.int o), .val (.int ln)] [])) (fun _ kz => by rw [hln] at kz; exact kz) ?_
  refine own_go (A := T5.setTop (mkF m 62 #[.val (.int p1), .val (.int p2), .val (.int p3), .val (.int p4), .val (.int p5), .val (.int p6), .val (.ref b1), .val (.double (FP.i2d p5)), .second, .val (.int o), .val (.int ln)] [(.double (FP.i2d p5)), (.int ln), (.int o), (.ref b1)])) (fun _ kz => ?_) ?_
  · show Steps p.tables e below (T5.setTop (mkF m 54 #[.val (.int p1), .val (.int p2), .val (.int p3), .val (.int p4), .val (.int p5), .val (.int p6), .val (.ref b1), .val (.double (FP.i2d p5)), .second, .val (.int o), .val (.int ln)] [])) _
    refine XS.aload X5.here hx rfl (hb hby at_54) rfl rfl ?_
    show Steps p.tables e below (T5.setTop (mkF m 56 #[.val (.int p1), .val (.int p2), .val (.int p3), .val (.int p4), .val (.int p5), .val (.int p6), .val (.ref b1), .val (.double (FP.i2d p5)), .second, .val (.int o), .val (.int ln)] [(.ref b1)])) _
    refine XS.iload X5.here hx rfl (hb hby at_56) rfl ?_
    show Steps p.tables e below (T5.setTop (mkF m 58 #[.val (.int p1), .val (.int p2), .val (.int p3), .val (.int p4), .val (.int p5), .val (.int p6), .val (.ref b1), .val (.double (FP.i2d p5)), .second, .val (.int o), .val (.int ln)] [(.int o), (.ref b1)])) _
    refine XS.iload X5.here hx rfl (hb hby at_58) rfl ?_
    show Steps p.tables e below (T5.setTop (mkF m 60 #[.val (.int p1), .val (.int p2), .val (.int p3), .val (.int p4), .val (.int p5), .val (.int p6), .val (.ref b1), .val (.double (FP.i2d p5)), .second, .val (.int o), .val (.int ln)] [(.int ln), (.int o), (.ref b1)])) _
    refine XS.dload X5.here hx rfl (hb hby at_60) rfl ?_
    exact kz
  obtain ⟨_, _, ⟨T6, L6, k6, n6⟩, -, X6, ⟨Lc6, hQ6, l6, y6, z6⟩, st6⟩ := Jvm.LawKit.callS X5 hx (y := (⟨"com/example/quorumweight/quorumweight/risk/FailureCount", "flush", "([DIID)V"⟩ : MethodName)) hown (mvT hZ (hw _ (List.mem_of_getElem? (i := 1) rfl))) (mvT hZ (hw _ (List.mem_of_getElem? (i := 2) rfl))) (mvT hZ (hw _ (List.mem_of_getElem? (i := 3) rfl))) (mvT hZ (hw _ (List.mem_of_getElem? (i := 4) rfl))) (by decide) (backOf (W := 0) (rmFl l Z a0 hw [] b1 o ln (FP.i2d p5) k1 (FP.i2d p1) (FP.i2d p2) (FP.i2d p3) (FP.i2d p4) h5 n0 Z5 (own_ol _ _ ho hln) g_b1 Av_b1) hZ (hw _ (List.mem_of_getElem? (i := 4) rfl)) (hw _ (List.mem_of_getElem? (i := 3) rfl)) (by decide) (by decide)) (g := (mkF m 62 #[.val (.int p1), .val (.int p2), .val (.int p3), .val (.int p4), .val (.int p5), .val (.int p6), .val (.ref b1), .val (.double (FP.i2d p5)), .second, .val (.int o), .val (.int ln)] [(.double (FP.i2d p5)), (.int ln), (.int o), (.ref b1)])) rfl (by rw [hml]; rfl) (argsL := [(.ref b1), (.int o), (.int ln), (.double (FP.i2d p5))]) (rest := []) (lenOf own_pd0 rfl) rfl (by show 2 * 0 + _ ≤ _; exact Nat.le_of_eq rfl) (hb hby at_62) (fun _ _ => ⟨rfl, e5, (by decide : 1 + 0 ≤ _), (by decide : 4 + 0 ≤ _)⟩)
  dsimp only [Pt.U, Pt.locs, Pt.cells, Pt.slots] at X6 l6 y6 z6 st6 hQ6
  subst l6 y6 z6
  obtain ⟨rfl, N6q, K6q, Aq6⟩ := hQ6
  have N6 := Fr.app N5 N6q
  have Z6 : n0 ≤ T6.heap.size := Nat.le_trans Z5 K6q.1
  refine own_go (A := T6.setTop (mkF m 65 #[.val (.int p1), .val (.int p2), .val (.int p3), .val (.int p4), .val (.int p5), .val (.int p6), .val (.ref b1), .val (.double (FP.i2d p5)), .second, .val (.int o), .val (.int ln)] [])) (fun _ kz => st6 _ kz) ?_
  refine own_go (A := T6.setTop (mkF m 68 #[.val (.int p1), .val (.int p2), .val (.int p3), .val (.int p4), .val (.int p5), .val (.int p6), .val (.ref b1), .val (.double (FP.i2d p5)), .second, .val (.int o), .val (.int ln)] [(.int (0 : Int32)), (.ref b1)])) (fun _ kz => ?_) ?_
  · show Steps p.tables e below (T6.setTop (mkF m 65 #[.val (.int p1), .val (.int p2), .val (.int p3), .val (.int p4), .val (.int p5), .val (.int p6), .val (.ref b1), .val (.double (FP.i2d p5)), .second, .val (.int o), .val (.int ln)] [])) _
    refine XS.aload X6.here hx rfl (hb hby at_65) rfl rfl ?_
    show Steps p.tables e below (T6.setTop (mkF m 67 #[.val (.int p1), .val (.int p2), .val (.int p3), .val (.int p4), .val (.int p5), .val (.int p6), .val (.ref b1), .val (.double (FP.i2d p5)), .second, .val (.int o), .val (.int ln)] [(.ref b1)])) _
    refine XS.iconst X6.here hx rfl (hb hby at_67) ?_
    exact kz
  obtain ⟨cl7, Ar7, -, S7, M7, H7, -⟩ := id Aq6
  have hin7 : ¬ ((0 : Int32) < 0 ∨ cl7.slots.size ≤ ((0 : Int32)).toNatClampNeg) := inb_of S7 ⟨by decide, by decide⟩
  have hat7 : cl7.slots[((0 : Int32)).toNatClampNeg]? = some (.double (own_exp (FP.i2d p1) (0 : Int32) o ln (FP.i2d p5))) := H7.at hin7 rfl
  refine own_go (A := T6.setTop (mkF m 69 #[.val (.int p1), .val (.int p2), .val (.int p3), .val (.int p4), .val (.int p5), .val (.int p6), .val (.ref b1), .val (.double (FP.i2d p5)), .second, .val (.int o), .val (.int ln)] [(.double (own_exp (FP.i2d p1) (0 : Int32) o ln (FP.i2d p5)))])) (fun _ kz => ?_) ?_
  · refine X6.daload hx (j := (0 : Int32)) (v := (.double (own_exp (FP.i2d p1) (0 : Int32) o ln (FP.i2d p5)))) Ar7.1 (State.isArrayOf_alike hZ.alike Ar7.2.1) Ar7.2.2 hin7 hat7 (g := (mkF m 68 #[.val (.int p1), .val (.int p2), .val (.int p3), .val (.int p4), .val (.int p5), .val (.int p6), .val (.ref b1), .val (.double (FP.i2d p5)), .second, .val (.int o), .val (.int ln)] [(.int (0 : Int32)), (.ref b1)])) rfl rfl (hb hby at_68) _ ?_
    exact kz
  refine own_go (A := T6.setTop (mkF m 78 #[.val (.int p1), .val (.int p2), .val (.int p3), .val (.int p4), .val (.int p5), .val (.int p6), .val (.ref b1), .val (.double (FP.i2d p5)), .second, .val (.int o), .val (.int ln)] [(.double (FP.i2d p5)), (.int ln), (.int o), (.int (0 : Int32)), (.double (FP.i2d p1)), (.double (own_exp (FP.i2d p1) (0 : Int32) o ln (FP.i2d p5)))])) (fun _ kz => ?_) ?_
  · show Steps p.tables e below (T6.setTop (mkF m 69 #[.val (.int p1), .val (.int p2), .val (.int p3), .val (.int p4), .val (.int p5), .val (.int p6), .val (.ref b1), .val (.double (FP.i2d p5)), .second, .val (.int o), .val (.int ln)] [(.double (own_exp (FP.i2d p1) (0 : Int32) o ln (FP.i2d p5)))])) _
    refine XS.iloadN X6.here hx rfl (hb hby at_69) rfl ?_
    show Steps p.tables e below (T6.setTop (mkF m 70 #[.val (.int p1), .val (.int p2), .val (.int p3), .val (.int p4), .val (.int p5), .val (.int p6), .val (.ref b1), .val (.double (FP.i2d p5)), .second, .val (.int o), .val (.int ln)] [(.int p1), (.double (own_exp (FP.i2d p1) (0 : Int32) o ln (FP.i2d p5)))])) _
    refine XS.i2dS X6.here hx rfl (hb hby at_70) rfl rfl ?_
    show Steps p.tables e below (T6.setTop (mkF m 71 #[.val (.int p1), .val (.int p2), .val (.int p3), .val (.int p4), .val (.int p5), .val (.int p6), .val (.ref b1), .val (.double (FP.i2d p5)), .second, .val (.int o), .val (.int ln)] [(.double (FP.i2d p1)), (.double (own_exp (FP.i2d p1) (0 : Int32) o ln (FP.i2d p5)))])) _
    refine XS.iconst X6.here hx rfl (hb hby at_71) ?_
    show Steps p.tables e below (T6.setTop (mkF m 72 #[.val (.int p1), .val (.int p2), .val (.int p3), .val (.int p4), .val (.int p5), .val (.int p6), .val (.ref b1), .val (.double (FP.i2d p5)), .second, .val (.int o), .val (.int ln)] [(.int (0 : Int32)), (.double (FP.i2d p1)), (.double (own_exp (FP.i2d p1) (0 : Int32) o ln (FP.i2d p5)))])) _
    refine XS.iload X6.here hx rfl (hb hby at_72) rfl ?_
    show Steps p.tables e below (T6.setTop (mkF m 74 #[.val (.int p1), .val (.int p2), .val (.int p3), .val (.int p4), .val (.int p5), .val (.int p6), .val (.ref b1), .val (.double (FP.i2d p5)), .second, .val (.int o), .val (.int ln)] [(.int o), (.int (0 : Int32)), (.double (FP.i2d p1)), (.double (own_exp (FP.i2d p1) (0 : Int32) o ln (FP.i2d p5)))])) _
    refine XS.iload X6.here hx rfl (hb hby at_74) rfl ?_
    show Steps p.tables e below (T6.setTop (mkF m 76 #[.val (.int p1), .val (.int p2), .val (.int p3), .val (.int p4), .val (.int p5), .val (.int p6), .val (.ref b1), .val (.double (FP.i2d p5)), .second, .val (.int o), .val (.int ln)] [(.int ln), (.int o), (.int (0 : Int32)), (.double (FP.i2d p1)), (.double (own_exp (FP.i2d p1) (0 : Int32) o ln (FP.i2d p5)))])) _
    refine XS.dload X6.here hx rfl (hb hby at_76) rfl ?_
    exact kz
  obtain ⟨_, _, ⟨T8, L8, k8, n8⟩, -, X8, ⟨Lc8, hQ8, l8, y8, z8⟩, st8⟩ := Jvm.LawKit.callS X6 hx (y := (⟨"com/example/quorumweight/quorumweight/risk/FailureCountFlushPinLaw", "expected", "(DIIID)D"⟩ : MethodName)) hown (mvT hZ (hw _ (List.mem_of_getElem? (i := 5) rfl))) (mvT hZ (hw _ (List.mem_of_getElem? (i := 6) rfl))) (mvT hZ (hw _ (List.mem_of_getElem? (i := 7) rfl))) (mvT hZ (hw _ (List.mem_of_getElem? (i := 8) rfl))) (by decide) (backOf (W := 2) (rmExp l Z a0 hw [] (FP.i2d p1) (0 : Int32) o ln (FP.i2d p5) T6.heap n0 Z6) hZ (hw _ (List.mem_of_getElem? (i := 8) rfl)) (hw _ (List.mem_of_getElem? (i := 7) rfl)) (by decide) (by decide)) (g := (mkF m 78 #[.val (.int p1), .val (.int p2), .val (.int p3), .val (.int p4), .val (.int p5), .val (.int p6), .val (.ref b1), .val (.double (FP.i2d p5)), .second, .val (.int o), .val (.int ln)] [(.double (FP.i2d p5)), (.int ln), (.int o), (.int (0 : Int32)), (.double (FP.i2d p1)), (.double (own_exp (FP.i2d p1) (0 : Int32) o ln (FP.i2d p5)))])) rfl (by rw [hml]; rfl) (argsL := [(.double (FP.i2d p1)), (.int (0 : Int32)), (.int o), (.int ln), (.double (FP.i2d p5))]) (rest := [(.double (own_exp (FP.i2d p1) (0 : Int32) o ln (FP.i2d p5)))]) (lenOf own_pd1 rfl) rfl (by show 2 * 0 + _ ≤ _; exact Nat.le_of_eq rfl) (hb hby at_78) (fun _ _ => ⟨rfl, rfl, (by decide : 1 + 0 ≤ _), (by decide : 4 + 0 ≤ _)⟩)
  dsimp only [Pt.U, Pt.locs, Pt.cells, Pt.slots] at X8 l8 y8 z8 st8 hQ8
  subst l8 y8 z8
  obtain ⟨rfl, N8q, e8⟩ := hQ8
  have N8 := Fr.app N6 N8q
  refine own_go (A := T8.setTop (mkF m 81 #[.val (.int p1), .val (.int p2), .val (.int p3), .val (.int p4), .val (.int p5), .val (.int p6), .val (.ref b1), .val (.double (FP.i2d p5)), .second, .val (.int o), .val (.int ln)] [(.double (own_exp (FP.i2d p1) (0 : Int32) o ln (FP.i2d p5))), (.double (own_exp (FP.i2d p1) (0 : Int32) o ln (FP.i2d p5)))])) (fun _ kz => st8 _ kz) ?_
  refine own_go (A := T8.setTop (mkF m 88 #[.val (.int p1), .val (.int p2), .val (.int p3), .val (.int p4), .val (.int p5), .val (.int p6), .val (.ref b1), .val (.double (FP.i2d p5)), .second, .val (.int o), .val (.int ln)] [(.int (1 : Int32)), (.ref b1)])) (fun _ kz => ?_) ?_
  · show Steps p.tables e below (T8.setTop (mkF m 81 #[.val (.int p1), .val (.int p2), .val (.int p3), .val (.int p4), .val (.int p5), .val (.int p6), .val (.ref b1), .val (.double (FP.i2d p5)), .second, .val (.int o), .val (.int ln)] [(.double (own_exp (FP.i2d p1) (0 : Int32) o ln (FP.i2d p5))), (.double (own_exp (FP.i2d p1) (0 : Int32) o ln (FP.i2d p5)))])) _
    refine XS.dcmpS X8.here hx rfl (hb hby at_81) rfl rfl ?_
    show Steps p.tables e below (T8.setTop (mkF m 82 #[.val (.int p1), .val (.int p2), .val (.int p3), .val (.int p4), .val (.int p5), .val (.int p6), .val (.ref b1), .val (.double (FP.i2d p5)), .second, .val (.int o), .val (.int ln)] [(.int (cmpValue (FP.dcmp (own_exp (FP.i2d p1) (0 : Int32) o ln (FP.i2d p5)) (own_exp (FP.i2d p1) (0 : Int32) o ln (FP.i2d p5))) .l))])) _
    refine XS.ifNo X8.here hx rfl (hb hby at_82) rfl ((if0 _ _).trans (teq (dcmpV_self (own_noNaN _ _ _ _ _) _)).2) ?_
    show Steps p.tables e below (T8.setTop (mkF m 85 #[.val (.int p1), .val (.int p2), .val (.int p3), .val (.int p4), .val (.int p5), .val (.int p6), .val (.ref b1), .val (.double (FP.i2d p5)), .second, .val (.int o), .val (.int ln)] [])) _
    refine XS.aload X8.here hx rfl (hb hby at_85) rfl rfl ?_
    show Steps p.tables e below (T8.setTop (mkF m 87 #[.val (.int p1), .val (.int p2), .val (.int p3), .val (.int p4), .val (.int p5), .val (.int p6), .val (.ref b1), .val (.double (FP.i2d p5)), .second, .val (.int o), .val (.int ln)] [(.ref b1)])) _
    refine XS.iconst X8.here hx rfl (hb hby at_87) ?_
    exact kz
  obtain ⟨cl9, Ar9, -, S9, M9, H9, -⟩ := id Aq6
  have hin9 : ¬ ((1 : Int32) < 0 ∨ cl9.slots.size ≤ ((1 : Int32)).toNatClampNeg) := inb_of S9 ⟨by decide, by decide⟩
  have hat9 : cl9.slots[((1 : Int32)).toNatClampNeg]? = some (.double (own_exp (FP.i2d p2) (1 : Int32) o ln (FP.i2d p5))) := H9.at hin9 rfl
  refine own_go (A := T8.setTop (mkF m 89 #[.val (.int p1), .val (.int p2), .val (.int p3), .val (.int p4), .val (.int p5), .val (.int p6), .val (.ref b1), .val (.double (FP.i2d p5)), .second, .val (.int o), .val (.int ln)] [(.double (own_exp (FP.i2d p2) (1 : Int32) o ln (FP.i2d p5)))])) (fun _ kz => ?_) ?_
  · refine X8.daload hx (j := (1 : Int32)) (v := (.double (own_exp (FP.i2d p2) (1 : Int32) o ln (FP.i2d p5)))) (by rw [e8]; exact Ar9.1) (State.isArrayOf_alike hZ.alike Ar9.2.1) Ar9.2.2 hin9 hat9 (g := (mkF m 88 #[.val (.int p1), .val (.int p2), .val (.int p3), .val (.int p4), .val (.int p5), .val (.int p6), .val (.ref b1), .val (.double (FP.i2d p5)), .second, .val (.int o), .val (.int ln)] [(.int (1 : Int32)), (.ref b1)])) rfl rfl (hb hby at_88) _ ?_
    exact kz
  refine own_go (A := T8.setTop (mkF m 98 #[.val (.int p1), .val (.int p2), .val (.int p3), .val (.int p4), .val (.int p5), .val (.int p6), .val (.ref b1), .val (.double (FP.i2d p5)), .second, .val (.int o), .val (.int ln)] [(.double (FP.i2d p5)), (.int ln), (.int o), (.int (1 : Int32)), (.double (FP.i2d p2)), (.double (own_exp (FP.i2d p2) (1 : Int32) o ln (FP.i2d p5)))])) (fun _ kz => ?_) ?_
  · show Steps p.tables e below (T8.setTop (mkF m 89 #[.val (.int p1), .val (.int p2), .val (.int p3), .val (.int p4), .val (.int p5), .val (.int p6), .val (.ref b1), .val (.double (FP.i2d p5)), .second, .val (.int o), .val (.int ln)] [(.double (own_exp (FP.i2d p2) (1 : Int32) o ln (FP.i2d p5)))])) _
    refine XS.iloadN X8.here hx rfl (hb hby at_89) rfl ?_
    show Steps p.tables e below (T8.setTop (mkF m 90 #[.val (.int p1), .val (.int p2), .val (.int p3), .val (.int p4), .val (.int p5), .val (.int p6), .val (.ref b1), .val (.double (FP.i2d p5)), .second, .val (.int o), .val (.int ln)] [(.int p2), (.double (own_exp (FP.i2d p2) (1 : Int32) o ln (FP.i2d p5)))])) _
    refine XS.i2dS X8.here hx rfl (hb hby at_90) rfl rfl ?_
    show Steps p.tables e below (T8.setTop (mkF m 91 #[.val (.int p1), .val (.int p2), .val (.int p3), .val (.int p4), .val (.int p5), .val (.int p6), .val (.ref b1), .val (.double (FP.i2d p5)), .second, .val (.int o), .val (.int ln)] [(.double (FP.i2d p2)), (.double (own_exp (FP.i2d p2) (1 : Int32) o ln (FP.i2d p5)))])) _
    refine XS.iconst X8.here hx rfl (hb hby at_91) ?_
    show Steps p.tables e below (T8.setTop (mkF m 92 #[.val (.int p1), .val (.int p2), .val (.int p3), .val (.int p4), .val (.int p5), .val (.int p6), .val (.ref b1), .val (.double (FP.i2d p5)), .second, .val (.int o), .val (.int ln)] [(.int (1 : Int32)), (.double (FP.i2d p2)), (.double (own_exp (FP.i2d p2) (1 : Int32) o ln (FP.i2d p5)))])) _
    refine XS.iload X8.here hx rfl (hb hby at_92) rfl ?_
    show Steps p.tables e below (T8.setTop (mkF m 94 #[.val (.int p1), .val (.int p2), .val (.int p3), .val (.int p4), .val (.int p5), .val (.int p6), .val (.ref b1), .val (.double (FP.i2d p5)), .second, .val (.int o), .val (.int ln)] [(.int o), (.int (1 : Int32)), (.double (FP.i2d p2)), (.double (own_exp (FP.i2d p2) (1 : Int32) o ln (FP.i2d p5)))])) _
    refine XS.iload X8.here hx rfl (hb hby at_94) rfl ?_
    show Steps p.tables e below (T8.setTop (mkF m 96 #[.val (.int p1), .val (.int p2), .val (.int p3), .val (.int p4), .val (.int p5), .val (.int p6), .val (.ref b1), .val (.double (FP.i2d p5)), .second, .val (.int o), .val (.int ln)] [(.int ln), (.int o), (.int (1 : Int32)), (.double (FP.i2d p2)), (.double (own_exp (FP.i2d p2) (1 : Int32) o ln (FP.i2d p5)))])) _
    refine XS.dload X8.here hx rfl (hb hby at_96) rfl ?_
    exact kz
  obtain ⟨_, _, ⟨T10, L10, k10, n10⟩, -, X10, ⟨Lc10, hQ10, l10, y10, z10⟩, st10⟩ := Jvm.LawKit.callS X8 hx (y := (⟨"com/example/quorumweight/quorumweight/risk/FailureCountFlushPinLaw", "expected", "(DIIID)D"⟩ : MethodName)) hown (mvT hZ (hw _ (List.mem_of_getElem? (i := 5) rfl))) (mvT hZ (hw _ (List.mem_of_getElem? (i := 6) rfl))) (mvT hZ (hw _ (List.mem_of_getElem? (i := 7) rfl))) (mvT hZ (hw _ (List.mem_of_getElem? (i := 8) rfl))) (by decide) (backOf (W := 2) (rmExp l Z a0 hw [] (FP.i2d p2) (1 : Int32) o ln (FP.i2d p5) T6.heap n0 Z6) hZ (hw _ (List.mem_of_getElem? (i := 8) rfl)) (hw _ (List.mem_of_getElem? (i := 7) rfl)) (by decide) (by decide)) (g := (mkF m 98 #[.val (.int p1), .val (.int p2), .val (.int p3), .val (.int p4), .val (.int p5), .val (.int p6), .val (.ref b1), .val (.double (FP.i2d p5)), .second, .val (.int o), .val (.int ln)] [(.double (FP.i2d p5)), (.int ln), (.int o), (.int (1 : Int32)), (.double (FP.i2d p2)), (.double (own_exp (FP.i2d p2) (1 : Int32) o ln (FP.i2d p5)))])) rfl (by rw [hml]; rfl) (argsL := [(.double (FP.i2d p2)), (.int (1 : Int32)), (.int o), (.int ln), (.double (FP.i2d p5))]) (rest := [(.double (own_exp (FP.i2d p2) (1 : Int32) o ln (FP.i2d p5)))]) (lenOf own_pd1 rfl) rfl (by show 2 * 0 + _ ≤ _; exact Nat.le_of_eq rfl) (hb hby at_98) (fun _ _ => ⟨rfl, e8, (by decide : 1 + 0 ≤ _), (by decide : 4 + 0 ≤ _)⟩)
  dsimp only [Pt.U, Pt.locs, Pt.cells, Pt.slots] at X10 l10 y10 z10 st10 hQ10
  subst l10 y10 z10
  obtain ⟨rfl, N10q, e10⟩ := hQ10
  have N10 := Fr.app N8 N10q
  refine own_go (A := T10.setTop (mkF m 101 #[.val (.int p1), .val (.int p2), .val (.int p3), .val (.int p4), .val (.int p5), .val (.int p6), .val (.ref b1), .val (.double (FP.i2d p5)), .second, .val (.int o), .val (.int ln)] [(.double (own_exp (FP.i2d p2) (1 : Int32) o ln (FP.i2d p5))), (.double (own_exp (FP.i2d p2) (1 : Int32) o ln (FP.i2d p5)))])) (fun _ kz => st10 _ kz) ?_
  refine own_go (A := T10.setTop (mkF m 108 #[.val (.int p1), .val (.int p2), .val (.int p3), .val (.int p4), .val (.int p5), .val (.int p6), .val (.ref b1), .val (.double (FP.i2d p5)), .second, .val (.int o), .val (.int ln)] [(.int (2 : Int32)), (.ref b1)])) (fun _ kz => ?_) ?_
  · show Steps p.tables e below (T10.setTop (mkF m 101 #[.val (.int p1), .val (.int p2), .val (.int p3), .val (.int p4), .val (.int p5), .val (.int p6), .val (.ref b1), .val (.double (FP.i2d p5)), .second, .val (.int o), .val (.int ln)] [(.double (own_exp (FP.i2d p2) (1 : Int32) o ln (FP.i2d p5))), (.double (own_exp (FP.i2d p2) (1 : Int32) o ln (FP.i2d p5)))])) _
    refine XS.dcmpS X10.here hx rfl (hb hby at_101) rfl rfl ?_
    show Steps p.tables e below (T10.setTop (mkF m 102 #[.val (.int p1), .val (.int p2), .val (.int p3), .val (.int p4), .val (.int p5), .val (.int p6), .val (.ref b1), .val (.double (FP.i2d p5)), .second, .val (.int o), .val (.int ln)] [(.int (cmpValue (FP.dcmp (own_exp (FP.i2d p2) (1 : Int32) o ln (FP.i2d p5)) (own_exp (FP.i2d p2) (1 : Int32) o ln (FP.i2d p5))) .l))])) _
    refine XS.ifNo X10.here hx rfl (hb hby at_102) rfl ((if0 _ _).trans (teq (dcmpV_self (own_noNaN _ _ _ _ _) _)).2) ?_
    show Steps p.tables e below (T10.setTop (mkF m 105 #[.val (.int p1), .val (.int p2), .val (.int p3), .val (.int p4), .val (.int p5), .val (.int p6), .val (.ref b1), .val (.double (FP.i2d p5)), .second, .val (.int o), .val (.int ln)] [])) _
    refine XS.aload X10.here hx rfl (hb hby at_105) rfl rfl ?_
    show Steps p.tables e below (T10.setTop (mkF m 107 #[.val (.int p1), .val (.int p2), .val (.int p3), .val (.int p4), .val (.int p5), .val (.int p6), .val (.ref b1), .val (.double (FP.i2d p5)), .second, .val (.int o), .val (.int ln)] [(.ref b1)])) _
    refine XS.iconst X10.here hx rfl (hb hby at_107) ?_
    exact kz
  obtain ⟨cl11, Ar11, -, S11, M11, H11, -⟩ := id Aq6
  have hin11 : ¬ ((2 : Int32) < 0 ∨ cl11.slots.size ≤ ((2 : Int32)).toNatClampNeg) := inb_of S11 ⟨by decide, by decide⟩
  have hat11 : cl11.slots[((2 : Int32)).toNatClampNeg]? = some (.double (own_exp (FP.i2d p3) (2 : Int32) o ln (FP.i2d p5))) := H11.at hin11 rfl
  refine own_go (A := T10.setTop (mkF m 109 #[.val (.int p1), .val (.int p2), .val (.int p3), .val (.int p4), .val (.int p5), .val (.int p6), .val (.ref b1), .val (.double (FP.i2d p5)), .second, .val (.int o), .val (.int ln)] [(.double (own_exp (FP.i2d p3) (2 : Int32) o ln (FP.i2d p5)))])) (fun _ kz => ?_) ?_
  · refine X10.daload hx (j := (2 : Int32)) (v := (.double (own_exp (FP.i2d p3) (2 : Int32) o ln (FP.i2d p5)))) (by rw [e10]; exact Ar11.1) (State.isArrayOf_alike hZ.alike Ar11.2.1) Ar11.2.2 hin11 hat11 (g := (mkF m 108 #[.val (.int p1), .val (.int p2), .val (.int p3), .val (.int p4), .val (.int p5), .val (.int p6), .val (.ref b1), .val (.double (FP.i2d p5)), .second, .val (.int o), .val (.int ln)] [(.int (2 : Int32)), (.ref b1)])) rfl rfl (hb hby at_108) _ ?_
    exact kz
  refine own_go (A := T10.setTop (mkF m 118 #[.val (.int p1), .val (.int p2), .val (.int p3), .val (.int p4), .val (.int p5), .val (.int p6), .val (.ref b1), .val (.double (FP.i2d p5)), .second, .val (.int o), .val (.int ln)] [(.double (FP.i2d p5)), (.int ln), (.int o), (.int (2 : Int32)), (.double (FP.i2d p3)), (.double (own_exp (FP.i2d p3) (2 : Int32) o ln (FP.i2d p5)))])) (fun _ kz => ?_) ?_
  · show Steps p.tables e below (T10.setTop (mkF m 109 #[.val (.int p1), .val (.int p2), .val (.int p3), .val (.int p4), .val (.int p5), .val (.int p6), .val (.ref b1), .val (.double (FP.i2d p5)), .second, .val (.int o), .val (.int ln)] [(.double (own_exp (FP.i2d p3) (2 : Int32) o ln (FP.i2d p5)))])) _
    refine XS.iloadN X10.here hx rfl (hb hby at_109) rfl ?_
    show Steps p.tables e below (T10.setTop (mkF m 110 #[.val (.int p1), .val (.int p2), .val (.int p3), .val (.int p4), .val (.int p5), .val (.int p6), .val (.ref b1), .val (.double (FP.i2d p5)), .second, .val (.int o), .val (.int ln)] [(.int p3), (.double (own_exp (FP.i2d p3) (2 : Int32) o ln (FP.i2d p5)))])) _
    refine XS.i2dS X10.here hx rfl (hb hby at_110) rfl rfl ?_
    show Steps p.tables e below (T10.setTop (mkF m 111 #[.val (.int p1), .val (.int p2), .val (.int p3), .val (.int p4), .val (.int p5), .val (.int p6), .val (.ref b1), .val (.double (FP.i2d p5)), .second, .val (.int o), .val (.int ln)] [(.double (FP.i2d p3)), (.double (own_exp (FP.i2d p3) (2 : Int32) o ln (FP.i2d p5)))])) _
    refine XS.iconst X10.here hx rfl (hb hby at_111) ?_
    show Steps p.tables e below (T10.setTop (mkF m 112 #[.val (.int p1), .val (.int p2), .val (.int p3), .val (.int p4), .val (.int p5), .val (.int p6), .val (.ref b1), .val (.double (FP.i2d p5)), .second, .val (.int o), .val (.int ln)] [(.int (2 : Int32)), (.double (FP.i2d p3)), (.double (own_exp (FP.i2d p3) (2 : Int32) o ln (FP.i2d p5)))])) _
    refine XS.iload X10.here hx rfl (hb hby at_112) rfl ?_
    show Steps p.tables e below (T10.setTop (mkF m 114 #[.val (.int p1), .val (.int p2), .val (.int p3), .val (.int p4), .val (.int p5), .val (.int p6), .val (.ref b1), .val (.double (FP.i2d p5)), .second, .val (.int o), .val (.int ln)] [(.int o), (.int (2 : Int32)), (.double (FP.i2d p3)), (.double (own_exp (FP.i2d p3) (2 : Int32) o ln (FP.i2d p5)))])) _
    refine XS.iload X10.here hx rfl (hb hby at_114) rfl ?_
    show Steps p.tables e below (T10.setTop (mkF m 116 #[.val (.int p1), .val (.int p2), .val (.int p3), .val (.int p4), .val (.int p5), .val (.int p6), .val (.ref b1), .val (.double (FP.i2d p5)), .second, .val (.int o), .val (.int ln)] [(.int ln), (.int o), (.int (2 : Int32)), (.double (FP.i2d p3)), (.double (own_exp (FP.i2d p3) (2 : Int32) o ln (FP.i2d p5)))])) _
    refine XS.dload X10.here hx rfl (hb hby at_116) rfl ?_
    exact kz
  obtain ⟨_, _, ⟨T12, L12, k12, n12⟩, -, X12, ⟨Lc12, hQ12, l12, y12, z12⟩, st12⟩ := Jvm.LawKit.callS X10 hx (y := (⟨"com/example/quorumweight/quorumweight/risk/FailureCountFlushPinLaw", "expected", "(DIIID)D"⟩ : MethodName)) hown (mvT hZ (hw _ (List.mem_of_getElem? (i := 5) rfl))) (mvT hZ (hw _ (List.mem_of_getElem? (i := 6) rfl))) (mvT hZ (hw _ (List.mem_of_getElem? (i := 7) rfl))) (mvT hZ (hw _ (List.mem_of_getElem? (i := 8) rfl))) (by decide) (backOf (W := 2) (rmExp l Z a0 hw [] (FP.i2d p3) (2 : Int32) o ln (FP.i2d p5) T6.heap n0 Z6) hZ (hw _ (List.mem_of_getElem? (i := 8) rfl)) (hw _ (List.mem_of_getElem? (i := 7) rfl)) (by decide) (by decide)) (g := (mkF m 118 #[.val (.int p1), .val (.int p2), .val (.int p3), .val (.int p4), .val (.int p5), .val (.int p6), .val (.ref b1), .val (.double (FP.i2d p5)), .second, .val (.int o), .val (.int ln)] [(.double (FP.i2d p5)), (.int ln), (.int o), (.int (2 : Int32)), (.double (FP.i2d p3)), (.double (own_exp (FP.i2d p3) (2 : Int32) o ln (FP.i2d p5)))])) rfl (by rw [hml]; rfl) (argsL := [(.double (FP.i2d p3)), (.int (2 : Int32)), (.int o), (.int ln), (.double (FP.i2d p5))]) (rest := [(.double (own_exp (FP.i2d p3) (2 : Int32) o ln (FP.i2d p5)))]) (lenOf own_pd1 rfl) rfl (by show 2 * 0 + _ ≤ _; exact Nat.le_of_eq rfl) (hb hby at_118) (fun _ _ => ⟨rfl, e10, (by decide : 1 + 0 ≤ _), (by decide : 4 + 0 ≤ _)⟩)
  dsimp only [Pt.U, Pt.locs, Pt.cells, Pt.slots] at X12 l12 y12 z12 st12 hQ12
  subst l12 y12 z12
  obtain ⟨rfl, N12q, e12⟩ := hQ12
  have N12 := Fr.app N10 N12q
  refine own_go (A := T12.setTop (mkF m 121 #[.val (.int p1), .val (.int p2), .val (.int p3), .val (.int p4), .val (.int p5), .val (.int p6), .val (.ref b1), .val (.double (FP.i2d p5)), .second, .val (.int o), .val (.int ln)] [(.double (own_exp (FP.i2d p3) (2 : Int32) o ln (FP.i2d p5))), (.double (own_exp (FP.i2d p3) (2 : Int32) o ln (FP.i2d p5)))])) (fun _ kz => st12 _ kz) ?_
  refine own_go (A := T12.setTop (mkF m 128 #[.val (.int p1), .val (.int p2), .val (.int p3), .val (.int p4), .val (.int p5), .val (.int p6), .val (.ref b1), .val (.double (FP.i2d p5)), .second, .val (.int o), .val (.int ln)] [(.int (3 : Int32)), (.ref b1)])) (fun _ kz => ?_) ?_
  · show Steps p.tables e below (T12.setTop (mkF m 121 #[.val (.int p1), .val (.int p2), .val (.int p3), .val (.int p4), .val (.int p5), .val (.int p6), .val (.ref b1), .val (.double (FP.i2d p5)), .second, .val (.int o), .val (.int ln)] [(.double (own_exp (FP.i2d p3) (2 : Int32) o ln (FP.i2d p5))), (.double (own_exp (FP.i2d p3) (2 : Int32) o ln (FP.i2d p5)))])) _
    refine XS.dcmpS X12.here hx rfl (hb hby at_121) rfl rfl ?_
    show Steps p.tables e below (T12.setTop (mkF m 122 #[.val (.int p1), .val (.int p2), .val (.int p3), .val (.int p4), .val (.int p5), .val (.int p6), .val (.ref b1), .val (.double (FP.i2d p5)), .second, .val (.int o), .val (.int ln)] [(.int (cmpValue (FP.dcmp (own_exp (FP.i2d p3) (2 : Int32) o ln (FP.i2d p5)) (own_exp (FP.i2d p3) (2 : Int32) o ln (FP.i2d p5))) .l))])) _
    refine XS.ifNo X12.here hx rfl (hb hby at_122) rfl ((if0 _ _).trans (teq (dcmpV_self (own_noNaN _ _ _ _ _) _)).2) ?_
    show Steps p.tables e below (T12.setTop (mkF m 125 #[.val (.int p1), .val (.int p2), .val (.int p3), .val (.int p4), .val (.int p5), .val (.int p6), .val (.ref b1), .val (.double (FP.i2d p5)), .second, .val (.int o), .val (.int ln)] [])) _
    refine XS.aload X12.here hx rfl (hb hby at_125) rfl rfl ?_
    show Steps p.tables e below (T12.setTop (mkF m 127 #[.val (.int p1), .val (.int p2), .val (.int p3), .val (.int p4), .val (.int p5), .val (.int p6), .val (.ref b1), .val (.double (FP.i2d p5)), .second, .val (.int o), .val (.int ln)] [(.ref b1)])) _
    refine XS.iconst X12.here hx rfl (hb hby at_127) ?_
    exact kz
  obtain ⟨cl13, Ar13, -, S13, M13, H13, -⟩ := id Aq6
  have hin13 : ¬ ((3 : Int32) < 0 ∨ cl13.slots.size ≤ ((3 : Int32)).toNatClampNeg) := inb_of S13 ⟨by decide, by decide⟩
  have hat13 : cl13.slots[((3 : Int32)).toNatClampNeg]? = some (.double (own_exp (FP.i2d p4) (3 : Int32) o ln (FP.i2d p5))) := H13.at hin13 rfl
  refine own_go (A := T12.setTop (mkF m 129 #[.val (.int p1), .val (.int p2), .val (.int p3), .val (.int p4), .val (.int p5), .val (.int p6), .val (.ref b1), .val (.double (FP.i2d p5)), .second, .val (.int o), .val (.int ln)] [(.double (own_exp (FP.i2d p4) (3 : Int32) o ln (FP.i2d p5)))])) (fun _ kz => ?_) ?_
  · refine X12.daload hx (j := (3 : Int32)) (v := (.double (own_exp (FP.i2d p4) (3 : Int32) o ln (FP.i2d p5)))) (by rw [e12]; exact Ar13.1) (State.isArrayOf_alike hZ.alike Ar13.2.1) Ar13.2.2 hin13 hat13 (g := (mkF m 128 #[.val (.int p1), .val (.int p2), .val (.int p3), .val (.int p4), .val (.int p5), .val (.int p6), .val (.ref b1), .val (.double (FP.i2d p5)), .second, .val (.int o), .val (.int ln)] [(.int (3 : Int32)), (.ref b1)])) rfl rfl (hb hby at_128) _ ?_
    exact kz
  refine own_go (A := T12.setTop (mkF m 138 #[.val (.int p1), .val (.int p2), .val (.int p3), .val (.int p4), .val (.int p5), .val (.int p6), .val (.ref b1), .val (.double (FP.i2d p5)), .second, .val (.int o), .val (.int ln)] [(.double (FP.i2d p5)), (.int ln), (.int o), (.int (3 : Int32)), (.double (FP.i2d p4)), (.double (own_exp (FP.i2d p4) (3 : Int32) o ln (FP.i2d p5)))])) (fun _ kz => ?_) ?_
  · show Steps p.tables e below (T12.setTop (mkF m 129 #[.val (.int p1), .val (.int p2), .val (.int p3), .val (.int p4), .val (.int p5), .val (.int p6), .val (.ref b1), .val (.double (FP.i2d p5)), .second, .val (.int o), .val (.int ln)] [(.double (own_exp (FP.i2d p4) (3 : Int32) o ln (FP.i2d p5)))])) _
    refine XS.iloadN X12.here hx rfl (hb hby at_129) rfl ?_
    show Steps p.tables e below (T12.setTop (mkF m 130 #[.val (.int p1), .val (.int p2), .val (.int p3), .val (.int p4), .val (.int p5), .val (.int p6), .val (.ref b1), .val (.double (FP.i2d p5)), .second, .val (.int o), .val (.int ln)] [(.int p4), (.double (own_exp (FP.i2d p4) (3 : Int32) o ln (FP.i2d p5)))])) _
    refine XS.i2dS X12.here hx rfl (hb hby at_130) rfl rfl ?_
    show Steps p.tables e below (T12.setTop (mkF m 131 #[.val (.int p1), .val (.int p2), .val (.int p3), .val (.int p4), .val (.int p5), .val (.int p6), .val (.ref b1), .val (.double (FP.i2d p5)), .second, .val (.int o), .val (.int ln)] [(.double (FP.i2d p4)), (.double (own_exp (FP.i2d p4) (3 : Int32) o ln (FP.i2d p5)))])) _
    refine XS.iconst X12.here hx rfl (hb hby at_131) ?_
    show Steps p.tables e below (T12.setTop (mkF m 132 #[.val (.int p1), .val (.int p2), .val (.int p3), .val (.int p4), .val (.int p5), .val (.int p6), .val (.ref b1), .val (.double (FP.i2d p5)), .second, .val (.int o), .val (.int ln)] [(.int (3 : Int32)), (.double (FP.i2d p4)), (.double (own_exp (FP.i2d p4) (3 : Int32) o ln (FP.i2d p5)))])) _
    refine XS.iload X12.here hx rfl (hb hby at_132) rfl ?_
    show Steps p.tables e below (T12.setTop (mkF m 134 #[.val (.int p1), .val (.int p2), .val (.int p3), .val (.int p4), .val (.int p5), .val (.int p6), .val (.ref b1), .val (.double (FP.i2d p5)), .second, .val (.int o), .val (.int ln)] [(.int o), (.int (3 : Int32)), (.double (FP.i2d p4)), (.double (own_exp (FP.i2d p4) (3 : Int32) o ln (FP.i2d p5)))])) _
    refine XS.iload X12.here hx rfl (hb hby at_134) rfl ?_
    show Steps p.tables e below (T12.setTop (mkF m 136 #[.val (.int p1), .val (.int p2), .val (.int p3), .val (.int p4), .val (.int p5), .val (.int p6), .val (.ref b1), .val (.double (FP.i2d p5)), .second, .val (.int o), .val (.int ln)] [(.int ln), (.int o), (.int (3 : Int32)), (.double (FP.i2d p4)), (.double (own_exp (FP.i2d p4) (3 : Int32) o ln (FP.i2d p5)))])) _
    refine XS.dload X12.here hx rfl (hb hby at_136) rfl ?_
    exact kz
  obtain ⟨_, _, ⟨T14, L14, k14, n14⟩, -, X14, ⟨Lc14, hQ14, l14, y14, z14⟩, st14⟩ := Jvm.LawKit.callS X12 hx (y := (⟨"com/example/quorumweight/quorumweight/risk/FailureCountFlushPinLaw", "expected", "(DIIID)D"⟩ : MethodName)) hown (mvT hZ (hw _ (List.mem_of_getElem? (i := 5) rfl))) (mvT hZ (hw _ (List.mem_of_getElem? (i := 6) rfl))) (mvT hZ (hw _ (List.mem_of_getElem? (i := 7) rfl))) (mvT hZ (hw _ (List.mem_of_getElem? (i := 8) rfl))) (by decide) (backOf (W := 2) (rmExp l Z a0 hw [] (FP.i2d p4) (3 : Int32) o ln (FP.i2d p5) T6.heap n0 Z6) hZ (hw _ (List.mem_of_getElem? (i := 8) rfl)) (hw _ (List.mem_of_getElem? (i := 7) rfl)) (by decide) (by decide)) (g := (mkF m 138 #[.val (.int p1), .val (.int p2), .val (.int p3), .val (.int p4), .val (.int p5), .val (.int p6), .val (.ref b1), .val (.double (FP.i2d p5)), .second, .val (.int o), .val (.int ln)] [(.double (FP.i2d p5)), (.int ln), (.int o), (.int (3 : Int32)), (.double (FP.i2d p4)), (.double (own_exp (FP.i2d p4) (3 : Int32) o ln (FP.i2d p5)))])) rfl (by rw [hml]; rfl) (argsL := [(.double (FP.i2d p4)), (.int (3 : Int32)), (.int o), (.int ln), (.double (FP.i2d p5))]) (rest := [(.double (own_exp (FP.i2d p4) (3 : Int32) o ln (FP.i2d p5)))]) (lenOf own_pd1 rfl) rfl (by show 2 * 0 + _ ≤ _; exact Nat.le_of_eq rfl) (hb hby at_138) (fun _ _ => ⟨rfl, e12, (by decide : 1 + 0 ≤ _), (by decide : 4 + 0 ≤ _)⟩)
  dsimp only [Pt.U, Pt.locs, Pt.cells, Pt.slots] at X14 l14 y14 z14 st14 hQ14
  subst l14 y14 z14
  obtain ⟨rfl, N14q, e14⟩ := hQ14
  have N14 := Fr.app N12 N14q
  refine own_go (A := T14.setTop (mkF m 141 #[.val (.int p1), .val (.int p2), .val (.int p3), .val (.int p4), .val (.int p5), .val (.int p6), .val (.ref b1), .val (.double (FP.i2d p5)), .second, .val (.int o), .val (.int ln)] [(.double (own_exp (FP.i2d p4) (3 : Int32) o ln (FP.i2d p5))), (.double (own_exp (FP.i2d p4) (3 : Int32) o ln (FP.i2d p5)))])) (fun _ kz => st14 _ kz) ?_
  refine own_go (A := T14.setTop (mkF m 150 #[.val (.int p1), .val (.int p2), .val (.int p3), .val (.int p4), .val (.int p5), .val (.int p6), .val (.ref b1), .val (.double (FP.i2d p5)), .second, .val (.int o), .val (.int ln)] [(.int (1 : Int32))])) (fun _ kz => ?_) ?_
  · show Steps p.tables e below (T14.setTop (mkF m 141 #[.val (.int p1), .val (.int p2), .val (.int p3), .val (.int p4), .val (.int p5), .val (.int p6), .val (.ref b1), .val (.double (FP.i2d p5)), .second, .val (.int o), .val (.int ln)] [(.double (own_exp (FP.i2d p4) (3 : Int32) o ln (FP.i2d p5))), (.double (own_exp (FP.i2d p4) (3 : Int32) o ln (FP.i2d p5)))])) _
    refine XS.dcmpS X14.here hx rfl (hb hby at_141) rfl rfl ?_
    show Steps p.tables e below (T14.setTop (mkF m 142 #[.val (.int p1), .val (.int p2), .val (.int p3), .val (.int p4), .val (.int p5), .val (.int p6), .val (.ref b1), .val (.double (FP.i2d p5)), .second, .val (.int o), .val (.int ln)] [(.int (cmpValue (FP.dcmp (own_exp (FP.i2d p4) (3 : Int32) o ln (FP.i2d p5)) (own_exp (FP.i2d p4) (3 : Int32) o ln (FP.i2d p5))) .l))])) _
    refine XS.ifNo X14.here hx rfl (hb hby at_142) rfl ((if0 _ _).trans (teq (dcmpV_self (own_noNaN _ _ _ _ _) _)).2) ?_
    show Steps p.tables e below (T14.setTop (mkF m 145 #[.val (.int p1), .val (.int p2), .val (.int p3), .val (.int p4), .val (.int p5), .val (.int p6), .val (.ref b1), .val (.double (FP.i2d p5)), .second, .val (.int o), .val (.int ln)] [])) _
    refine XS.iconst X14.here hx rfl (hb hby at_145) ?_
    show Steps p.tables e below (T14.setTop (mkF m 146 #[.val (.int p1), .val (.int p2), .val (.int p3), .val (.int p4), .val (.int p5), .val (.int p6), .val (.ref b1), .val (.double (FP.i2d p5)), .second, .val (.int o), .val (.int ln)] [(.int (1 : Int32))])) _
    refine XS.goto X14.here hx rfl (pc0 := 146) (pc' := 150) rfl (hb hby at_146) (by decide) (by decide) ?_
    exact kz
  obtain ⟨fs, hrr, hrun, hended, hW, hsame⟩ := X14.leave (v := some (.int (1 : Int32))) (fun h => by rw [Bd.returns] at h; cases h)
  refine ⟨_, _, ?_, hrun, hended, _, _, rfl, ?_, ⟨_, rfl⟩, hW, hsame.mono (by decide) (by decide)⟩
  · show Steps p.tables e below (T14.setTop (mkF m 150 #[.val (.int p1), .val (.int p2), .val (.int p3), .val (.int p4), .val (.int p5), .val (.int p6), .val (.ref b1), .val (.double (FP.i2d p5)), .second, .val (.int o), .val (.int ln)] [(.int (1 : Int32))])) _
    exact retN X14 hx (t := .boolean) Bd.returns (by simp) (hb hby at_150) hrr
  · show Qrm0 Z p1 p2 p3 p4 p5 p6 h0 n0 _ T14.heap _
    rw [e14]
    exact ⟨rfl, N14⟩
set_option maxRecDepth 65536 in
set_option maxHeartbeats 40000000 in
theorem comes_1 {Post : Tables → Env → Array Value → State → Outcome → State → Prop} (hpost : ∀ tb e args s v u, (limb_1_1.after args s (.returned v) u = true ∧ limb_1_2.after args s (.returned v) u = true ∧ True) → FrameEnd s (.returned v) u (Jvm.fieldLocs frame_1_writes args s ++ Jvm.arrayLocs frame_1_arrays args s ++ Jvm.staticLocs frame_1_statics s) 16 128 → Post tb e args s (.returned v) u) :
    ArmFor flags0 classFile x code maxLocals ret World_1 tables_1 room_1 Calls_1 rest_1 Pre_1 Post := by
  intro l hfl _ _ p e ha hc hk s m args below hf hA hF happ hP
  obtain ⟨hcalls, hrest, hpre⟩ := hP
  obtain ⟨-, -, -, hnamed, -, -, -, hat⟩ := (Spec.applies_iff hf).mp happ
  obtain ⟨hg, hn⟩ := and_e (Cond.before_iff.mp (show (Jvm.Cond.and given_1 narrow_1).before args s = true from hpre))
  obtain ⟨hcnt, hg1⟩ := and_e hg
  obtain ⟨ha0, hg2⟩ := and_e hg1
  obtain ⟨ha1, hg3⟩ := and_e hg2
  obtain ⟨ha2, hg4⟩ := and_e hg3
  obtain ⟨ha3, hg5⟩ := and_e hg4
  obtain ⟨ha4, hg6⟩ := and_e hg5
  obtain ⟨w0, w1, w2, w3, w4, w5, rfl⟩ : ∃ w0 w1 w2 w3 w4 w5 : Value, args = #[w0, w1, w2, w3, w4, w5] := by
    have hs : args.size = 6 := by simpa [Cond.value, given_1] using hcnt
    obtain ⟨L⟩ := args
    match L, hs with
    | [w0, w1, w2, w3, w4, w5], _ => exact ⟨w0, w1, w2, w3, w4, w5, rfl⟩
  have hw := fun d (hd : d ∈ tables_1) => atoms_spec (ws := Jvm.Cond.code x code maxLocals ret :: tables_1) hat d (List.mem_cons_of_mem _ hd)
  have hfit : Fit s := fun {y c} hc i hi => by
    obtain ⟨ha, rfl⟩ := Array.getElem?_eq_some_iff.mp hc
    have q := List.all_eq_true.mp ((Array.all_eq_true_iff_forall_mem.mp hF) _ (Array.getElem_mem ha)) i (List.mem_range.mpr hi)
    simpa [Array.getElem?_eq_getElem hi] using q
  obtain ⟨i0, ei0⟩ := is_v ha0
  obtain rfl : w0 = (.int i0) := Option.some.inj ei0
  obtain ⟨i1, ei1⟩ := is_v ha1
  obtain rfl : w1 = (.int i1) := Option.some.inj ei1
  obtain ⟨i2, ei2⟩ := is_v ha2
  obtain rfl : w2 = (.int i2) := Option.some.inj ei2
  obtain ⟨i3, ei3⟩ := is_v ha3
  obtain rfl : w3 = (.int i3) := Option.some.inj ei3
  obtain ⟨i4, ei4⟩ := is_v ha4
  obtain rfl : w4 = (.int i4) := Option.some.inj ei4
  obtain ⟨i5, ei5⟩ := is_v hg6
  obtain rfl : w5 = (.int i5) := Option.some.inj ei5
  obtain ⟨n, o, h1, h2, h3, _, L, rfl, ⟨rfl, N⟩, hq⟩ := rm0 l s _ hw tables_1 i0 i1 i2 i3 i4 i5  s.heap s.heap.size (Nat.le_refl _)  p e ha hc hk s m _ below hf ((Spec.applies_iff_loose hf).mp happ).1 ⟨rfl, State.Warmed39.refl s, rfl⟩ trivial
  refine ⟨n, _, h1, h2, h3, hpost _ _ _ _ _ _ ⟨Cond.after_iff.mpr rfl, Cond.after_iff.mpr (eq_i res_at (Term.int_eval (1)) rfl), trivial⟩ ⟨hq.1, hq.2.1, (hq.2.2.sift fun y hy => Or.inr (N y hy)).mono (by decide) (by decide)⟩⟩
theorem main_1_1 : Claimed_1_1 := comes_1 fun _ _ _ _ _ _ h hF => ⟨h.1, hF⟩
theorem main_1_2 : Claimed_1_2 := comes_1 fun _ _ _ _ _ _ h hF => ⟨h.2.1, hF⟩
end Jvm.Pilot.@@N@@
namespace Jvm.Pilot.@@N@@
open Jvm Jvm.ClassFile Sem Op Lib Jvm.Free Jvm.Stand Jvm.Pilot.@@N@@.Jvm.D
/-! MADE BY PROGRAM (witnessworld.py) out of the Statement's table words and the real class files: 11 classes; the members and pool entries that the words name. The judged class is class 1, her method 1. -/
namespace start1
open Jvm.ClassFile
def u (s : String) : CpInfo := .utf8 (stringToUtf16 s)
/-- a pool by its gaps: so many unusable entries, then the entry; so many at the end -/
def gap : Nat → List CpInfo → List CpInfo
  | 0, r => r
  | n + 1, r => .unusable :: gap n r
def poolList (es : List (Nat × CpInfo)) (last : Nat) : List CpInfo := es.foldr (fun e r => gap e.1 (e.2 :: r)) (gap last [])
def pool (es : List (Nat × CpInfo)) (last : Nat) : Array CpInfo := ⟨poolList es last⟩
def fileOf (pool : Array CpInfo) (this : Nat) (attrs : Array Attribute := #[]) (ms : Array MethodInfo := #[]) (fl : Nat := 33) (sup : Nat := 0) (ifs : Array Nat := #[]) (fds : Array FieldInfo := #[]) : ClassFile where
  minorVersion := 0
  majorVersion := 65
  constantPool := pool
  accessFlags := fl
  thisClass := this
  superClass := sup
  interfaces := ifs
  fields := fds
  methods := ms
  attributes := attrs
def plain (name : String) (sup : Option ClassId) : Class where
  name := name
  kind := .ordinary
  loader := none
  accessFlags := 33
  super := sup
  interfaces := #[]
  cf := none
  fields := #[]
  methods := #[]
  instanceTypes := #[]
  staticTypes := #[]
  resolved := #[]
  callSites := []
  init := .initialized
  statics := none
  mirror := none

def pool0 : Array CpInfo := pool [(5, u "<init>"), (0, u "()V"), (1, .class_ 10), (1, u "java/lang/Object")] 113

def k0m0 : Method := { name := "<init>", desc := "()V", sig := { parameters := [], returnType := none }, accessFlags := 1, code := none }
/-- java/lang/Object -/
def k0 : Class := { plain "java/lang/Object" none with
  accessFlags := 33
  interfaces := #[]
  cf := some (fileOf pool0 8 #[] #[{ accessFlags := 1, nameIndex := 5, descriptorIndex := 6, attributes := #[] }] 33 0 #[] #[])
  fields := #[]
  methods := #[k0m0]
  instanceTypes := #[]
  staticTypes := #[]
  resolved := Array.replicate 124 none
  statics := none }

def pool1 : Array CpInfo := pool [(2, .class_ 4), (1, u "java/lang/Object"), (0, u "<init>"), (0, u "()V"), (0, .methodref 8 9), (0, .class_ 10), (0, .nameAndType 11 12), (0, u "com/example/quorumweight/quorumweight/risk/FailureCount"), (0, u "flush"), (0, u "([DIID)V"), (0, .methodref 14 15), (0, .class_ 16), (0, .nameAndType 17 18), (0, u "com/example/quorumweight/quorumweight/risk/FailureCountFlushPinLaw"), (0, u "expected"), (0, u "(DIIID)D"), (2, u "law"), (0, u "(IIIIII)Z")] 5

def k1m0 : Method := { name := "<init>", desc := "()V", sig := { parameters := [], returnType := none }, accessFlags := 1, code := none }
def k1c1 : Code := { maxStack := 9, maxLocals := 11, code := code, exceptionTable := #[], attributes := #[] }
def k1m1 : Method := { name := "law", desc := "(IIIIII)Z", sig := { parameters := [.int, .int, .int, .int, .int, .int], returnType := some .boolean }, accessFlags := 9, code := some k1c1 }
def k1c2 : Code := { maxStack := 4, maxLocals := 7, code := method_3_code, exceptionTable := #[], attributes := #[] }
def k1m2 : Method := { name := "expected", desc := "(DIIID)D", sig := { parameters := [.double, .int, .int, .int, .double], returnType := some .double }, accessFlags := 10, code := some k1c2 }
/-- com/example/quorumweight/quorumweight/risk/FailureCountFlushPinLaw -/
def k1 : Class := { plain "com/example/quorumweight/quorumweight/risk/FailureCountFlushPinLaw" (some 0) with
  accessFlags := 49
  interfaces := #[]
  cf := some (fileOf pool1 14 #[] #[{ accessFlags := 1, nameIndex := 5, descriptorIndex := 6, attributes := #[] }, { accessFlags := 9, nameIndex := 21, descriptorIndex := 22, attributes := #[] }, { accessFlags := 10, nameIndex := 17, descriptorIndex := 18, attributes := #[] }] 49 2 #[] #[])
  fields := #[]
  methods := #[k1m0, k1m1, k1m2]
  instanceTypes := #[]
  staticTypes := #[]
  resolved := Array.replicate 28 none
  statics := none }

def pool2 : Array CpInfo := pool [(2, .class_ 4), (1, u "java/lang/Object"), (3, .class_ 10), (1, u "com/example/quorumweight/quorumweight/risk/FailureCount"), (0, u "lowest"), (0, u "I"), (2, u "probabilities"), (0, u "[D"), (2, u "logHeld"), (0, u "D"), (46, .class_ 68), (0, u "com/example/quorumweight/quorumweight/risk/FailureCount$Span"), (25, u "HALF_LOG_TWO_PI"), (19, u "flush"), (0, u "([DIID)V"), (0, u "SERIES_FROM")] 24

def k2c0 : Code := { maxStack := 4, maxLocals := 6, code := prog_92_method_17_code, exceptionTable := #[], attributes := #[] }
def k2m0 : Method := { name := "flush", desc := "([DIID)V", sig := { parameters := [(.array .double), .int, .int, .double], returnType := none }, accessFlags := 8, code := some k2c0 }
/-- com/example/quorumweight/quorumweight/risk/FailureCount -/
def k2 : Class := { plain "com/example/quorumweight/quorumweight/risk/FailureCount" (some 0) with
  accessFlags := 48
  interfaces := #[]
  cf := some (fileOf pool2 8 #[.nestMembers #[67]] #[{ accessFlags := 8, nameIndex := 114, descriptorIndex := 115, attributes := #[] }] 48 2 #[] #[{ accessFlags := 26, nameIndex := 116, descriptorIndex := 12, attributes := #[] }, { accessFlags := 26, nameIndex := 94, descriptorIndex := 20, attributes := #[] }, { accessFlags := 18, nameIndex := 11, descriptorIndex := 12, attributes := #[] }, { accessFlags := 18, nameIndex := 15, descriptorIndex := 16, attributes := #[] }, { accessFlags := 18, nameIndex := 19, descriptorIndex := 20, attributes := #[] }])
  fields := #[{ name := "SERIES_FROM", type := .int, accessFlags := 26, slot := 0, constantValue := 0 }, { name := "HALF_LOG_TWO_PI", type := .double, accessFlags := 26, slot := 1, constantValue := 0 }, { name := "lowest", type := .int, accessFlags := 18, slot := 0, constantValue := 0 }, { name := "probabilities", type := (.array .double), accessFlags := 18, slot := 1, constantValue := 0 }, { name := "logHeld", type := .double, accessFlags := 18, slot := 2, constantValue := 0 }]
  methods := #[k2m0]
  instanceTypes := #[.int, (.array .double), .double]
  staticTypes := #[.int, .double]
  resolved := Array.replicate 141 none
  statics := none }

def pool3 : Array CpInfo := pool [(1, u "java/lang/Cloneable"), (0, .class_ 1), (0, u "java/lang/Object"), (0, .class_ 3)] 3

/-- java/lang/Cloneable -/
def k3 : Class := { plain "java/lang/Cloneable" (some 0) with
  accessFlags := 1537
  interfaces := #[]
  cf := some (fileOf pool3 2 #[] #[] 1537 4 #[] #[])
  fields := #[]
  methods := #[]
  instanceTypes := #[]
  staticTypes := #[]
  resolved := Array.replicate 8 none
  statics := none }

def pool4 : Array CpInfo := pool [(1, u "java/io/Serializable"), (0, .class_ 1), (0, u "java/lang/Object"), (0, .class_ 3)] 3

/-- java/io/Serializable -/
def k4 : Class := { plain "java/io/Serializable" (some 0) with
  accessFlags := 1537
  interfaces := #[]
  cf := some (fileOf pool4 2 #[] #[] 1537 4 #[] #[])
  fields := #[]
  methods := #[]
  instanceTypes := #[]
  staticTypes := #[]
  resolved := Array.replicate 8 none
  statics := none }

/-- the primitive byte -/
def k5 : Class := { plain "byte" none with kind := .primitive 'B', accessFlags := 0x411 }
/-- [B -/
def k6 : Class := { plain "[B" (some 0) with kind := .array 5 .byte, interfaces := #[3, 4], accessFlags := 1041 }

/-- the primitive double -/
def k7 : Class := { plain "double" none with kind := .primitive 'D', accessFlags := 0x411 }
/-- [D -/
def k8 : Class := { plain "[D" (some 0) with kind := .array 7 .double, interfaces := #[3, 4], accessFlags := 1041 }

/-- the primitive int -/
def k9 : Class := { plain "int" none with kind := .primitive 'I', accessFlags := 0x411 }
/-- [I -/
def k10 : Class := { plain "[I" (some 0) with kind := .array 9 .int, interfaces := #[3, 4], accessFlags := 1041 }

def heap : Heap := #[]
def classes : Array Class := #[k0, k1, k2, k3, k4, k5, k6, k7, k8, k9, k10]
def interned : List (Array UInt16 × Addr) := []
def slotsUsed : Nat := 0
def theMethod : MethodId := ⟨1, 1⟩
def args0 : Array Value := #[.int 5, .int 5, .int 5, .int 5, .int 5, .int 5]
def aboutOver (below : List Frame) : State where
  vm := { classes := classes, interned := interned.toArray }
  heap := heap
  slotsUsed := slotsUsed
  threads := #[{ frames := .invoking theMethod args0 :: below }]
def below0 : List Frame := [.native { method := ⟨0, 0⟩, args := #[] }]
def about1 : State := aboutOver below0
def p0 : Program := .bare "" "" ""
def e0 : Env := launch0.env 0 0 0
theorem w_frames : about1.frames = Frame.invoking theMethod args0 :: below0 := rfl
set_option maxRecDepth 65536 in
theorem w_args : argsFit about1.vm theMethod args0 = true := by decide +kernel
set_option maxRecDepth 65536 in
theorem w_heap : heapFits about1 = true := by decide +kernel
set_option maxRecDepth 65536 in
theorem w_runnable : about1.curStatus? = some .runnable := by decide +kernel
set_option maxRecDepth 65536 in
theorem w_alone : about1.alone = true := by decide +kernel
set_option maxRecDepth 65536 in
theorem w_named : about1.methodNamed? x = some theMethod := by decide +kernel
set_option maxRecDepth 65536 in
theorem w_hears : about1.hears theMethod below0 = true := by decide +kernel
set_option maxRecDepth 65536 in
theorem w_ripe : about1.ripe theMethod args0 below0 = true := by decide +kernel
theorem w_running : about1.status = .running := rfl
set_option maxRecDepth 65536 in
theorem w_room : about1.hasRoom e0.platform room_1 = true :=
  launch0.hasRoom_least _ room_1 (by decide +kernel) (by decide +kernel) (by decide +kernel) (by decide +kernel) (by decide +kernel) (by decide +kernel)
theorem allAtoms_all (ts : List Jvm.Cond) (a : Array Jvm.Value) (st : Jvm.State) : (allAtoms ts).before a st = ts.all (fun c => c.before a st) := by
  induction ts with
  | nil => rfl
  | cons c t ih =>
    show (Jvm.Cond.and c (allAtoms t)).before a st = _
    rw [Jvm.Cond.before_and, ih, List.all_cons]
def words1 : List Jvm.Cond := Jvm.Cond.code x code maxLocals ret :: tables_1
/-- a 'code' word, met by the world's own term for the bytes: nothing is compared byte by byte -/
theorem code_word {y : MethodName} {bytes : ByteArray} {mx : Nat} {rt : Option FieldType} {a : Array Value} {s : State} {m : MethodId} {meth : Method} {c : Code} (h1 : s.methodNamed? y = some m) (h2 : s.vm.method? m = some meth) (h3 : meth.code = some c) (h4 : c.code = bytes)
    (h5 : (c.maxLocals == mx && c.exceptionTable.isEmpty && decide (c.maxStack ≤ mostOperands) && decide (meth.sig.returnType = rt) && !meth.locks && decide (parseMethodDescriptor y.desc = some meth.sig)) = true) : (Jvm.Cond.code y bytes mx rt).before a s = true := by
  simp only [Bool.and_eq_true, beq_iff_eq, Bool.not_eq_true', decide_eq_true_eq] at h5
  obtain ⟨⟨⟨⟨⟨g1, g2⟩, g3⟩, g4⟩, g5⟩, g6⟩ := h5
  simp [Cond.before, Cond.holds, Cond.value, h1, h2, h3, h4, g1, g2, g3, g4, g5, g6]
def isCode : Jvm.Cond → Bool
  | .code _ _ _ _ => true
  | _ => false
theorem all_split {L : List Jvm.Cond} {P : Jvm.Cond → Bool} (h1 : L.all (fun c => isCode c || P c) = true) (h2 : ∀ c ∈ L.filter isCode, P c = true) : L.all P = true := by
  refine List.all_eq_true.mpr fun c hc => ?_
  have h := List.all_eq_true.mp h1 c hc
  rcases Bool.eq_false_or_eq_true (isCode c) with hi | hi
  · exact h2 c (List.mem_filter.mpr ⟨hc, hi⟩)
  · simpa [hi] using h
set_option maxRecDepth 65536 in
theorem w_c0 : (Jvm.Cond.code x code maxLocals ret).before args0 about1 = true := code_word (m := ⟨1, 1⟩) (meth := k1m1) (c := k1c1) (by decide +kernel) rfl rfl rfl (by decide +kernel)
set_option maxRecDepth 65536 in
theorem w_c1 : (Jvm.Cond.code ({ cls := "com/example/quorumweight/quorumweight/risk/FailureCount", name := "flush", desc := "([DIID)V" } : Jvm.MethodName) prog_92_method_17_code (6 : Nat) (Option.none : Option Jvm.ClassFile.FieldType)).before args0 about1 = true := code_word (m := ⟨2, 0⟩) (meth := k2m0) (c := k2c0) (by decide +kernel) rfl rfl rfl (by decide +kernel)
set_option maxRecDepth 65536 in
theorem w_c2 : (Jvm.Cond.code ({ cls := "com/example/quorumweight/quorumweight/risk/FailureCountFlushPinLaw", name := "expected", desc := "(DIIID)D" } : Jvm.MethodName) method_3_code (7 : Nat) (Option.some Jvm.ClassFile.FieldType.double)).before args0 about1 = true := code_word (m := ⟨1, 2⟩) (meth := k1m2) (c := k1c2) (by decide +kernel) rfl rfl rfl (by decide +kernel)
def codes1 : List Jvm.Cond := [Jvm.Cond.code x code maxLocals ret, Jvm.Cond.code ({ cls := "com/example/quorumweight/quorumweight/risk/FailureCount", name := "flush", desc := "([DIID)V" } : Jvm.MethodName) prog_92_method_17_code (6 : Nat) (Option.none : Option Jvm.ClassFile.FieldType), Jvm.Cond.code ({ cls := "com/example/quorumweight/quorumweight/risk/FailureCountFlushPinLaw", name := "expected", desc := "(DIIID)D" } : Jvm.MethodName) method_3_code (7 : Nat) (Option.some Jvm.ClassFile.FieldType.double)]
set_option maxRecDepth 65536 in
theorem codes_eq : words1.filter isCode = codes1 := rfl
theorem w_codes : ∀ c ∈ words1.filter isCode, c.before args0 about1 = true := by
  rw [codes_eq]
  intro c hc
  simp only [codes1, List.mem_cons, List.not_mem_nil, or_false] at hc
  rcases hc with rfl | rfl | rfl
  · exact w_c0
  · exact w_c1
  · exact w_c2
set_option maxRecDepth 65536 in
theorem w_t1 : words1.all (fun c => isCode c || c.before args0 about1) = true := by decide +kernel
theorem w_tables : (allAtoms (Jvm.Cond.code x code maxLocals ret :: tables_1)).before args0 about1 = true := by
  rw [allAtoms_all]
  show words1.all (fun c => c.before args0 about1) = true
  refine all_split ?_ w_codes
  rw [w_t1]
set_option maxRecDepth 65536 in
theorem w_case : (Jvm.Cond.and given_1 narrow_1).before args0 about1 = true := by decide +kernel
theorem w_applies : (headSpec (Jvm.Cond.code x code maxLocals ret :: tables_1) room_1).applies x e0.platform about1 = true :=
  (Spec.applies_iff w_frames).mpr ⟨w_running, w_runnable, w_alone, w_named, w_hears, w_ripe, w_room, w_tables⟩
theorem atStart : AtStart classFile x code maxLocals ret World_1 tables_1 room_1 Calls_1 rest_1 Pre_1 launch0 p0 e0 about1 theMethod args0 below0 :=
  ⟨lists_1, trivial, launch0.admits_env _ _ _, launch0.least_env, fairChoices_fair.cas, fairChoices_fair.clock, w_frames, w_args, w_heap, w_applies, trivial, trivial, w_case⟩
end start1
theorem witness_1 : WitnessClaimed_1 := ⟨start1.p0, start1.e0, start1.about1, start1.theMethod, start1.args0, start1.below0, start1.atStart⟩
end Jvm.Pilot.@@N@@
