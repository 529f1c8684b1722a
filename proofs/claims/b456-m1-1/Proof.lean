import JvmDerived
import JvmDerived.Pilot.@@N@@Statement
import JvmDerived.Pilot.@@N@@Code
set_option linter.unusedVariables false
set_option linter.unusedSimpArgs false
namespace Jvm.RoadKit
open Sem ClassFile Op Lib Jvm.Stand Jvm.Free Jvm.LawKit
section New
variable {p : Program} {l : Launch} {e : Env} {R : Room} {s : State} {m : MethodId} {args : Array Value} {below : List Frame} {meth : Method} {c : Code} {T : State} {locs : List Loc} {cells slots : Nat}
theorem retI (X : Stand p l e R s m args below meth c T locs cells slots) (hx : p.tables.exec = Jvm.exec) {pc : Nat} {Ls : Array Slot} {z : Int32} {rest : List Value} (hret : meth.sig.returnType = some .int) (hd : decode c.code pc = .ok (.ireturn, 1)) {fs : List Frame}
    (hl : ∀ (f : JFrame) (acts : List Action), f.method = m → f.locked = none → f.entered = [] → (doReturn e (T.setTop f) acts (some (.int z))).1 = T.setFrames fs) : Steps p.tables e below (T.setTop (mkF m pc Ls (.int z :: rest))) (T.setFrames fs) := by
  have hm' : T.vm.method? m = some meth := X.method'
  have hn : narrow .int (.int z) = .int z := rfl
  show Steps p.tables e below (T.setTop { method := m, pc := pc, locals := Ls, stack := _ :: rest, locked := none }) _
  jvm_step X.here [X.here.top, hx, hd, hm', hret, hn]
  first | (intro acts; rw [hl _ acts rfl rfl rfl]) | rw [hl _ _ rfl rfl rfl]
  exact Steps.refl _
end New
end Jvm.RoadKit
namespace Jvm.Pilot.@@N@@
open Jvm Jvm.ClassFile Sem Op Lib Jvm.Free Jvm.Stand Jvm.LawKit Jvm.RoadKit Bundle Jvm.Pilot.@@N@@.Jvm.D
/-- the same for a part of a walk that comes to the frame F -/
theorem own_via {α : Type} {tb : Tables} {e : Env} {below : List Frame} {A B : State} {P : State → α → Prop} {F : α → JFrame} (h : ∀ t, Steps tb e below A t → Steps tb e below B t) (k : ∃ (T : State) (x : α), P T x ∧ ∀ t, Steps tb e below (T.setTop (F x)) t → Steps tb e below A t) : ∃ (T : State) (x : α), P T x ∧ ∀ t, Steps tb e below (T.setTop (F x)) t → Steps tb e below B t := by
  obtain ⟨T, x, k1, k2⟩ := k
  exact ⟨T, x, k1, fun t q => h t (k2 t q)⟩
theorem own_ns {Z : State} {h : Heap} {a : Addr} {C : String} (F : Exa Z h a C) : ∀ c : Cell, h[a]? = some c → c.vm.isStatics = false := fun c hc => by
  obtain ⟨c1, k, h1, -, -, h4, -⟩ := F
  cases hc.symm.trans h1
  exact h4
theorem own_nsA {Z : State} {h : Heap} {a : Addr} {k : ClassId} {ty : FieldType} {z : Int32} {vs : List Value} {dv : Value} (F : Arv Z h a k ty z vs dv) : ∀ c : Cell, h[a]? = some c → c.vm.isStatics = false := fun c hc => by
  obtain ⟨c1, A, -⟩ := F
  cases hc.symm.trans A.1
  exact A.plain
theorem own_nsF {Z : State} {h : Heap} {a : Addr} {C n d : String} {v : Value} (F : Fld Z h a C n d v) : ∀ c : Cell, h[a]? = some c → c.vm.isStatics = false := fun c hc => by
  obtain ⟨c1, _, _, _, _, h1, _, _, _, h5, _⟩ := F
  cases hc.symm.trans h1
  exact h5
theorem own_neA {Z : State} {a0 : Array Value} {h : Heap} {a b : Addr} {C : String} {n : Nat} {k : ClassId} {ty : FieldType} {z : Int32} {vs : List Value} {dv : Value} (F : Exa Z h a C) (wi : (Cond.instantiable C n).before a0 Z = true) (G : Arv Z h b k ty z vs dv) : a ≠ b := by
  obtain ⟨c1, A, -⟩ := G
  exact ne_arr F wi A
theorem own_staKeep {Z : State} {h h' : Heap} {C n d : String} {v : Value} {ws : List Addr} (F : Sta Z h C n d v) (K : Keep h h' ws) (q : ∀ x ∈ ws, ∀ c : Cell, h[x]? = some c → c.vm.isStatics = false) : Sta Z h' C n d v := by
  obtain ⟨cf, i, k, f, st, cell, h1, h2, h3, h4, h5, h6, h7⟩ := F
  exact ⟨cf, i, k, f, st, cell, h1, h2, h3, h4, K.2.1 st cell h5 (fun hm => by rw [q st hm cell h5] at h6; cases h6), h6, h7⟩
/-- a byte made a byte again -/
theorem own_nb (y : Int32) : y.toInt8.toInt32.toInt8.toInt32 = y.toInt8.toInt32 := by 
  have h1 := c_i2b y
  have h2 := c_i2b (y.toInt8.toInt32)
  apply Int32.toInt_inj.mp
  omega
theorem own_nbn (y : Int32) : nar .byte (y.toInt8.toInt32) = y.toInt8.toInt32 := own_nb y
/-- the walk goes on from A where it comes from B to A -/
theorem own_go {tb : Tables} {e : Env} {below : List Frame} {A B : State} {P : State → Outcome → Prop} (h : ∀ t, Steps tb e below A t → Steps tb e below B t) (k : ∃ t o, Steps tb e below A t ∧ P t o) : ∃ t o, Steps tb e below B t ∧ P t o := by
  obtain ⟨t, o, k1, k2⟩ := k
  exact ⟨t, o, h t k1, k2⟩
theorem own_pd0 : parseMethodDescriptor "()Z" = some ⟨[], some .boolean⟩ := by decide +kernel
theorem own_pd1 : parseMethodDescriptor "()Ljava/lang/String;" = some ⟨[], some (.object "java/lang/String")⟩ := by decide +kernel
theorem own_pd2 : parseMethodDescriptor "([B[B)Z" = some ⟨[(.array .byte), (.array .byte)], some .boolean⟩ := by decide +kernel
theorem own_pd3 : parseMethodDescriptor "(Ljava/lang/Object;)Z" = some ⟨[(.object "java/lang/Object")], some .boolean⟩ := by decide +kernel
theorem own_eqInt {s : State} {args : Array Value} {t : Term} {k : Int32} (h : (Cond.eq t (.int k)).value args s none s [] = some true) : t.eval args s none [] s = some (.int k) := by
  cases he : t.eval args s none [] s with
  | none => simp [Cond.value, he] at h
  | some v => cases v <;> simp_all [Cond.value, Term.eval]
/-- a constant of an enum as the case's words pin it: the static, the object's class, its ordinal -/
theorem own_enum {s : State} {args : Array Value} {C n d : String} {k : Int32} (hx : (Cond.exactly (.static C n d) C).value args s none s [] = some true) (ho : (Cond.eq (.field (.static C n d) "java/lang/Enum" "ordinal" "I") (.int k)).value args s none s [] = some true) (hi : (Cond.initialized C).before args s = true) (hl : (Cond.laysStatic C n d).before args s = true) :
    ∃ a, Sta s s.heap C n d (.ref a) ∧ Exa s s.heap a C ∧ Fld s s.heap a "java/lang/Enum" "ordinal" "I" (.int k) := by
  obtain ⟨a, ea⟩ := exa_v hx
  refine ⟨a, Sta.start ea (Or.inr ⟨hi, hl⟩), Exa.start ea hx, Fld.start ?_⟩
  have h := own_eqInt ho
  rwa [fld_at ea] at h
theorem own_str {s : State} {args : Array Value} {t : Term} {a : Addr} {K n : String} {k0 k1 k2 k3 k4 k5 : Int32} (hf : Fit s) (ea : t.eval args s none [] s = some (.ref a))
    (hx : (Cond.exactly (.field t K n "Ljava/lang/String;") "java/lang/String").value args s none s [] = some true) (hc : (Cond.eq (.field (.field t K n "Ljava/lang/String;") "java/lang/String" "coder" "B") (.int 0)).value args s none s [] = some true)
    (ha : (Cond.arrayOf (.field (.field t K n "Ljava/lang/String;") "java/lang/String" "value" "[B") .byte).value args s none s [] = some true) (hl : (Cond.eq (.length (.field (.field t K n "Ljava/lang/String;") "java/lang/String" "value" "[B")) (.int 6)).value args s none s [] = some true)
    (h0 : (Cond.eq (.elem (.field (.field t K n "Ljava/lang/String;") "java/lang/String" "value" "[B") (.int 0)) (.int k0)).value args s none s [] = some true)
    (h1 : (Cond.eq (.elem (.field (.field t K n "Ljava/lang/String;") "java/lang/String" "value" "[B") (.int 1)) (.int k1)).value args s none s [] = some true)
    (h2 : (Cond.eq (.elem (.field (.field t K n "Ljava/lang/String;") "java/lang/String" "value" "[B") (.int 2)) (.int k2)).value args s none s [] = some true)
    (h3 : (Cond.eq (.elem (.field (.field t K n "Ljava/lang/String;") "java/lang/String" "value" "[B") (.int 3)) (.int k3)).value args s none s [] = some true)
    (h4 : (Cond.eq (.elem (.field (.field t K n "Ljava/lang/String;") "java/lang/String" "value" "[B") (.int 4)) (.int k4)).value args s none s [] = some true)
    (h5 : (Cond.eq (.elem (.field (.field t K n "Ljava/lang/String;") "java/lang/String" "value" "[B") (.int 5)) (.int k5)).value args s none s [] = some true) :
    ∃ (c b : Addr) (k : ClassId), Fld s s.heap a K n "Ljava/lang/String;" (.ref c) ∧ Exa s s.heap c "java/lang/String" ∧ Fld s s.heap c "java/lang/String" "coder" "B" (.int 0) ∧ Fld s s.heap c "java/lang/String" "value" "[B" (.ref b) ∧ Arv s s.heap b k .byte (6 : Int32) [.int k0, .int k1, .int k2, .int k3, .int k4, .int k5] (.int 0) := by
  obtain ⟨c, ec⟩ := exa_v hx
  obtain ⟨b, eb⟩ := arr_v ha
  have hcd := own_eqInt hc
  have hlen := own_eqInt hl
  obtain ⟨b', SA, hev, harr, -⟩ := Term.length_spec hlen
  cases eb.symm.trans hev
  have h31 := Jvm.Free.SBG.length_lt hev harr hlen
  obtain ⟨cl, A⟩ := Arr.start eb ha
  have hcell : s.heap[b]? = some SA := by
    have q := harr
    simp only [State.arrayAt?, Option.bind_eq_bind] at q
    cases q1 : s.heap[b]? with
    | none => simp [q1] at q
    | some x => simp only [q1, Option.bind_some] at q; grind
  cases A.1.symm.trans hcell
  have e6 : Int32.ofNat SA.slots.size = 6 := by
    have e : (Term.length (.field (.field t K n "Ljava/lang/String;") "java/lang/String" "value" "[B")).eval args s none [] s = some (.int (Int32.ofNat SA.slots.size)) := by rw [Term.eval, hev]; simp [harr, h31]
    simpa using Option.some.inj (e.symm.trans hlen)
  have hsz : SA.slots.size = 6 := by
    have := congrArg Int32.toInt e6
    rw [Int32.toInt_ofNat_small h31] at this
    have e : (6 : Int32).toInt = 6 := by decide
    omega
  have w0 := own_eqInt h0
  rw [Jvm.Free.SBG.elem_at (ix := .int 0) (i := 0) hev harr (by omega) h31 rfl] at w0
  have w1 := own_eqInt h1
  rw [Jvm.Free.SBG.elem_at (ix := .int 1) (i := 1) hev harr (by omega) h31 rfl] at w1
  have w2 := own_eqInt h2
  rw [Jvm.Free.SBG.elem_at (ix := .int 2) (i := 2) hev harr (by omega) h31 rfl] at w2
  have w3 := own_eqInt h3
  rw [Jvm.Free.SBG.elem_at (ix := .int 3) (i := 3) hev harr (by omega) h31 rfl] at w3
  have w4 := own_eqInt h4
  rw [Jvm.Free.SBG.elem_at (ix := .int 4) (i := 4) hev harr (by omega) h31 rfl] at w4
  have w5 := own_eqInt h5
  rw [Jvm.Free.SBG.elem_at (ix := .int 5) (i := 5) hev harr (by omega) h31 rfl] at w5
  refine ⟨c, b, _, Fld.start (by rw [← fld_at ea]; exact ec), Exa.start ec hx, Fld.start (by rw [← fld_at ec]; exact hcd), Fld.start (by rw [← fld_at ec]; exact eb), Arv.start hf A h31 e6 (by decide) rfl ⟨w0, w1, w2, w3, w4, w5, trivial⟩⟩
theorem d1_0 : decode prog_91_method_6_code 0 = .ok (.aload_n 0, 1) := by decide +kernel
theorem d1_1 : decode prog_91_method_6_code 1 = .ok (.getstatic 7, 3) := by decide +kernel
theorem d1_4 : decode prog_91_method_6_code 4 = .ok (.if_acmp .eq 10, 3) := by decide +kernel
theorem d1_7 : decode prog_91_method_6_code 7 = .ok (.aload_n 0, 1) := by decide +kernel
theorem d1_8 : decode prog_91_method_6_code 8 = .ok (.getstatic 10, 3) := by decide +kernel
theorem d1_11 : decode prog_91_method_6_code 11 = .ok (.if_acmp .ne 7, 3) := by decide +kernel
theorem d1_14 : decode prog_91_method_6_code 14 = .ok (.iconst 1, 1) := by decide +kernel
theorem d1_15 : decode prog_91_method_6_code 15 = .ok (.goto 4, 3) := by decide +kernel
theorem d1_18 : decode prog_91_method_6_code 18 = .ok (.iconst 0, 1) := by decide +kernel
theorem d1_19 : decode prog_91_method_6_code 19 = .ok (.ireturn, 1) := by decide +kernel
theorem own_pn1 : plainName "com/example/querybind/querybind/mapping/MappedStatement$Kind" = true := by first | (simp [plainName, overriddenIn]; done) | decide +kernel
theorem own_ef1 (m : MethodId) (x0 : Addr) : entryFrame m #[(.ref x0)] 1 = mkF m 0 #[.val (.ref x0)] [] := by first | (simp [entryFrame, mkF, argsToLocals, Value.category]; done) | rfl
def QrmTK (Z : State) (r : Int32) (h0 : Heap) (n0 : Nat) (v : Option Value) (h : Heap) (L : List Loc) : Prop := v = some (.int r) ∧ Fr n0 L ∧ h = h0
set_option maxRecDepth 65536 in
set_option maxHeartbeats 40000000 in
theorem rmTK (l : Launch) (Z : State) (a0 : Array Value) (hw : ∀ d ∈ tables_1, d.before a0 Z = true) (ws : List Jvm.Cond) (a kI kU : Addr) (r : Int32) (h0 : Heap) (n0 : Nat) (Z0 : n0 ≤ h0.size) (S_I : Sta Z h0 "com/example/querybind/querybind/mapping/MappedStatement$Kind" "INSERT" "Lcom/example/querybind/querybind/mapping/MappedStatement$Kind;" (.ref kI)) (S_U : Sta Z h0 "com/example/querybind/querybind/mapping/MappedStatement$Kind" "UPDATE" "Lcom/example/querybind/querybind/mapping/MappedStatement$Kind;" (.ref kU)) (hr : (if a = kI then (1 : Int32) else if a = kU then (1 : Int32) else (0 : Int32)) = r) :
    MetFree l (⟨"com/example/querybind/querybind/mapping/MappedStatement$Kind", "takesKeys", "()Z"⟩ : MethodName) (head1 (Jvm.Cond.code (⟨"com/example/querybind/querybind/mapping/MappedStatement$Kind", "takesKeys", "()Z"⟩ : MethodName) prog_91_method_6_code 1 (some .boolean) :: ws) ({ frames := 0, cells := 0, slots := 0, locals := 0 } : Room)) (fun ar_ U_ => ar_ = #[(.ref a)] ∧ Z.Warmed39 U_.vm ∧ U_.heap = h0) (fun _ _ _ _ _ => True) (fun _ U_ ou_ V_ => ∃ v_ L_, ou_ = .returned v_ ∧ QrmTK Z r h0 n0 v_ V_.heap L_ ∧ FrameEnd U_ ou_ V_ L_ ({ frames := 0, cells := 0, slots := 0, locals := 0 } : Room).cells ({ frames := 0, cells := 0, slots := 0, locals := 0 } : Room).slots) := by
  refine MetFree.of_bodySF (plainFor_of_name own_pn1) hisR ?_
  intro p e s m args below meth c s₁ Bd hml0 hP hK
  obtain ⟨rfl, hZ, hh⟩ := hP
  have hx := Bd.exec
  have hby := Bd.bytes
  have hml : c.maxLocals = 1 := hml0
  have hown : s.vm.findClass "com/example/querybind/querybind/mapping/MappedStatement$Kind" = some m.cls := findClass_of_methodNamed Bd.named
  have hnm := (name_of_methodNamed Bd.named Bd.method).1
  have X0 : Stand p l e ({ frames := 0, cells := 0, slots := 0, locals := 0 } : Room) s m #[(.ref a)] below meth c s₁ [] 0 0 := Stand.of_body Bd
  have e0 : s₁.heap = h0 := by rw [← hh, Bd.state]; rfl
  have N0 := Fr.nil n0
  refine own_go (A := s₁.setTop (mkF m 0 #[.val (.ref a)] [])) (fun t kz => castTop (own_ef1 m a) kz) ?_
  refine own_go (A := s₁.setTop (mkF m 1 #[.val (.ref a)] [(.ref a)])) (fun _ kz => ?_) ?_
  · show Steps p.tables e below (s₁.setTop (mkF m 0 #[.val (.ref a)] [])) _
    refine XS.aloadN X0.here hx rfl (hb hby d1_0) rfl rfl ?_
    exact kz
  obtain ⟨T1, X1, e1, st1⟩ := getS2 X0 hx hZ hown (host := "") (Or.inl (hw _ (List.mem_of_getElem? (i := 8) rfl))) Via.refl e0 S_I (g := (mkF m 1 #[.val (.ref a)] [(.ref a)])) rfl (hb hby d1_1)
  refine own_go (A := T1.setTop (mkF m 4 #[.val (.ref a)] [(.ref kI), (.ref a)])) (fun _ kz => st1 _ kz) ?_
  by_cases hs2 : a = kI
  · skip
    refine own_go (A := T1.setTop (mkF m 14 #[.val (.ref a)] [])) (fun _ kz => ?_) ?_
    · refine Jvm.RoadKit.acmp (g := (mkF m 4 #[.val (.ref a)] [(.ref kI), (.ref a)])) X1 hx rfl rfl rfl (pc0 := 4) (pc' := 14) (same := true) rfl (hb hby d1_4) rfl (decide_eq_true (congrArg Value.ref hs2)) (by decide) (by decide) ?_
      exact kz
    refine own_go (A := T1.setTop (mkF m 19 #[.val (.ref a)] [(.int (1 : Int32))])) (fun _ kz => ?_) ?_
    · show Steps p.tables e below (T1.setTop (mkF m 14 #[.val (.ref a)] [])) _
      refine XS.iconst X1.here hx rfl (hb hby d1_14) ?_
      show Steps p.tables e below (T1.setTop (mkF m 15 #[.val (.ref a)] [(.int (1 : Int32))])) _
      refine XS.goto X1.here hx rfl (pc0 := 15) (pc' := 19) rfl (hb hby d1_15) (by decide) (by decide) ?_
      exact kz
    obtain ⟨fs, hrr, hrun, hended, hW, hsame⟩ := X1.leave (v := some (.int (1 : Int32))) (fun h => by rw [Bd.returns] at h; cases h)
    refine ⟨_, _, ?_, hrun, hended, _, _, rfl, ?_, ⟨_, rfl⟩, hW, hsame.mono (by decide) (by decide)⟩
    · show Steps p.tables e below (T1.setTop (mkF m 19 #[.val (.ref a)] [(.int (1 : Int32))])) _
      exact retN X1 hx (t := .boolean) Bd.returns (by simp) (hb hby d1_19) hrr
    · show QrmTK Z r h0 n0 _ T1.heap _
      rw [e1]
      exact ⟨by rw [← hr, if_pos hs2], N0, rfl⟩
  · skip
    refine own_go (A := T1.setTop (mkF m 7 #[.val (.ref a)] [])) (fun _ kz => ?_) ?_
    · refine Jvm.RoadKit.acmp (g := (mkF m 4 #[.val (.ref a)] [(.ref kI), (.ref a)])) X1 hx rfl rfl rfl (pc0 := 4) (pc' := 7) (same := false) rfl (hb hby d1_4) rfl (decide_eq_false fun q => hs2 (Value.ref.inj q)) (by decide) (by decide) ?_
      exact kz
    refine own_go (A := T1.setTop (mkF m 8 #[.val (.ref a)] [(.ref a)])) (fun _ kz => ?_) ?_
    · show Steps p.tables e below (T1.setTop (mkF m 7 #[.val (.ref a)] [])) _
      refine XS.aloadN X1.here hx rfl (hb hby d1_7) rfl rfl ?_
      exact kz
    obtain ⟨T3, X3, e3, st3⟩ := getS2 X1 hx hZ hown (host := "") (Or.inl (hw _ (List.mem_of_getElem? (i := 10) rfl))) Via.refl e1 S_U (g := (mkF m 8 #[.val (.ref a)] [(.ref a)])) rfl (hb hby d1_8)
    refine own_go (A := T3.setTop (mkF m 11 #[.val (.ref a)] [(.ref kU), (.ref a)])) (fun _ kz => st3 _ kz) ?_
    by_cases hs4 : a = kU
    · skip
      refine own_go (A := T3.setTop (mkF m 14 #[.val (.ref a)] [])) (fun _ kz => ?_) ?_
      · refine Jvm.RoadKit.acmp (g := (mkF m 11 #[.val (.ref a)] [(.ref kU), (.ref a)])) X3 hx rfl rfl rfl (pc0 := 11) (pc' := 14) (same := true) rfl (hb hby d1_11) rfl (decide_eq_true (congrArg Value.ref hs4)) (by decide) (by decide) ?_
        exact kz
      refine own_go (A := T3.setTop (mkF m 19 #[.val (.ref a)] [(.int (1 : Int32))])) (fun _ kz => ?_) ?_
      · show Steps p.tables e below (T3.setTop (mkF m 14 #[.val (.ref a)] [])) _
        refine XS.iconst X3.here hx rfl (hb hby d1_14) ?_
        show Steps p.tables e below (T3.setTop (mkF m 15 #[.val (.ref a)] [(.int (1 : Int32))])) _
        refine XS.goto X3.here hx rfl (pc0 := 15) (pc' := 19) rfl (hb hby d1_15) (by decide) (by decide) ?_
        exact kz
      obtain ⟨fs, hrr, hrun, hended, hW, hsame⟩ := X3.leave (v := some (.int (1 : Int32))) (fun h => by rw [Bd.returns] at h; cases h)
      refine ⟨_, _, ?_, hrun, hended, _, _, rfl, ?_, ⟨_, rfl⟩, hW, hsame.mono (by decide) (by decide)⟩
      · show Steps p.tables e below (T3.setTop (mkF m 19 #[.val (.ref a)] [(.int (1 : Int32))])) _
        exact retN X3 hx (t := .boolean) Bd.returns (by simp) (hb hby d1_19) hrr
      · show QrmTK Z r h0 n0 _ T3.heap _
        rw [e3]
        exact ⟨by rw [← hr, if_neg hs2, if_pos hs4], N0, rfl⟩
    · skip
      refine own_go (A := T3.setTop (mkF m 18 #[.val (.ref a)] [])) (fun _ kz => ?_) ?_
      · refine Jvm.RoadKit.acmp (g := (mkF m 11 #[.val (.ref a)] [(.ref kU), (.ref a)])) X3 hx rfl rfl rfl (pc0 := 11) (pc' := 18) (same := false) rfl (hb hby d1_11) rfl (decide_eq_false fun q => hs4 (Value.ref.inj q)) (by decide) (by decide) ?_
        exact kz
      refine own_go (A := T3.setTop (mkF m 19 #[.val (.ref a)] [(.int (0 : Int32))])) (fun _ kz => ?_) ?_
      · show Steps p.tables e below (T3.setTop (mkF m 18 #[.val (.ref a)] [])) _
        refine XS.iconst X3.here hx rfl (hb hby d1_18) ?_
        exact kz
      obtain ⟨fs, hrr, hrun, hended, hW, hsame⟩ := X3.leave (v := some (.int (0 : Int32))) (fun h => by rw [Bd.returns] at h; cases h)
      refine ⟨_, _, ?_, hrun, hended, _, _, rfl, ?_, ⟨_, rfl⟩, hW, hsame.mono (by decide) (by decide)⟩
      · show Steps p.tables e below (T3.setTop (mkF m 19 #[.val (.ref a)] [(.int (0 : Int32))])) _
        exact retN X3 hx (t := .boolean) Bd.returns (by simp) (hb hby d1_19) hrr
      · show QrmTK Z r h0 n0 _ T3.heap _
        rw [e3]
        exact ⟨by rw [← hr, if_neg hs2, if_neg hs4], N0, rfl⟩
theorem d2_0 : decode prog_91_method_5_code 0 = .ok (.aload_n 0, 1) := by decide +kernel
theorem d2_1 : decode prog_91_method_5_code 1 = .ok (.getfield 35, 3) := by decide +kernel
theorem d2_4 : decode prog_91_method_5_code 4 = .ok (.areturn, 1) := by decide +kernel
theorem own_pn2 : plainName "com/example/querybind/querybind/mapping/MappedStatement$Kind" = true := by first | (simp [plainName, overriddenIn]; done) | decide +kernel
theorem own_ef2 (m : MethodId) (x0 : Addr) : entryFrame m #[(.ref x0)] 1 = mkF m 0 #[.val (.ref x0)] [] := by first | (simp [entryFrame, mkF, argsToLocals, Value.category]; done) | rfl
def QrmEl (Z : State) (t : Addr) (h0 : Heap) (n0 : Nat) (v : Option Value) (h : Heap) (L : List Loc) : Prop := v = some (.ref t) ∧ Fr n0 L ∧ h = h0
set_option maxRecDepth 65536 in
set_option maxHeartbeats 40000000 in
theorem rmEl (l : Launch) (Z : State) (a0 : Array Value) (hw : ∀ d ∈ tables_1, d.before a0 Z = true) (ws : List Jvm.Cond) (a t : Addr) (h0 : Heap) (n0 : Nat) (Z0 : n0 ≤ h0.size) (Fe : Fld Z h0 a "com/example/querybind/querybind/mapping/MappedStatement$Kind" "element" "Ljava/lang/String;" (.ref t)) :
    MetFree l (⟨"com/example/querybind/querybind/mapping/MappedStatement$Kind", "element", "()Ljava/lang/String;"⟩ : MethodName) (head1 (Jvm.Cond.code (⟨"com/example/querybind/querybind/mapping/MappedStatement$Kind", "element", "()Ljava/lang/String;"⟩ : MethodName) prog_91_method_5_code 1 (some (.object "java/lang/String")) :: ws) ({ frames := 0, cells := 0, slots := 0, locals := 0 } : Room)) (fun ar_ U_ => ar_ = #[(.ref a)] ∧ Z.Warmed39 U_.vm ∧ U_.heap = h0) (fun _ _ _ _ _ => True) (fun _ U_ ou_ V_ => ∃ v_ L_, ou_ = .returned v_ ∧ QrmEl Z t h0 n0 v_ V_.heap L_ ∧ FrameEnd U_ ou_ V_ L_ ({ frames := 0, cells := 0, slots := 0, locals := 0 } : Room).cells ({ frames := 0, cells := 0, slots := 0, locals := 0 } : Room).slots) := by
  refine MetFree.of_bodySF (plainFor_of_name own_pn2) hisR ?_
  intro p e s m args below meth c s₁ Bd hml0 hP hK
  obtain ⟨rfl, hZ, hh⟩ := hP
  have hx := Bd.exec
  have hby := Bd.bytes
  have hml : c.maxLocals = 1 := hml0
  have hown : s.vm.findClass "com/example/querybind/querybind/mapping/MappedStatement$Kind" = some m.cls := findClass_of_methodNamed Bd.named
  have hnm := (name_of_methodNamed Bd.named Bd.method).1
  have X0 : Stand p l e ({ frames := 0, cells := 0, slots := 0, locals := 0 } : Room) s m #[(.ref a)] below meth c s₁ [] 0 0 := Stand.of_body Bd
  have e0 : s₁.heap = h0 := by rw [← hh, Bd.state]; rfl
  have N0 := Fr.nil n0
  refine own_go (A := s₁.setTop (mkF m 0 #[.val (.ref a)] [])) (fun t kz => castTop (own_ef2 m a) kz) ?_
  refine own_go (A := s₁.setTop (mkF m 1 #[.val (.ref a)] [(.ref a)])) (fun _ kz => ?_) ?_
  · show Steps p.tables e below (s₁.setTop (mkF m 0 #[.val (.ref a)] [])) _
    refine XS.aloadN X0.here hx rfl (hb hby d2_0) rfl rfl ?_
    exact kz
  obtain ⟨T1, X1, e1, st1⟩ := getF X0 hx hZ hown (host := "") (Or.inl (hw _ (List.mem_of_getElem? (i := 17) rfl))) Via.refl e0 Fe (g := (mkF m 1 #[.val (.ref a)] [(.ref a)])) rfl rfl (hb hby d2_1)
  refine own_go (A := T1.setTop (mkF m 4 #[.val (.ref a)] [(.ref t)])) (fun _ kz => st1 _ kz) ?_
  obtain ⟨fs, hrr, hrun, hended, hW, hsame⟩ := X1.leave (v := some (.ref t)) (fun h => by rw [Bd.returns] at h; cases h)
  refine ⟨_, _, ?_, hrun, hended, _, _, rfl, ?_, ⟨_, rfl⟩, hW, hsame.mono (by decide) (by decide)⟩
  · show Steps p.tables e below (T1.setTop (mkF m 4 #[.val (.ref a)] [(.ref t)])) _
    exact retOut X1 hx (t := (.object "java/lang/String")) Bd.returns rfl (Or.inr (Or.inr (Or.inr (Or.inr ⟨rfl, rfl, rfl⟩)))) (hb hby d2_4) hrr
  · show QrmEl Z t h0 n0 _ T1.heap _
    rw [e1]
    exact ⟨rfl, N0, rfl⟩
theorem d4_0 : decode jdk_43_method_13_code 0 = .ok (.aload_n 0, 1) := by decide +kernel
theorem d4_1 : decode jdk_43_method_13_code 1 = .ok (.arraylength, 1) := by decide +kernel
theorem d4_2 : decode jdk_43_method_13_code 2 = .ok (.aload_n 1, 1) := by decide +kernel
theorem d4_3 : decode jdk_43_method_13_code 3 = .ok (.arraylength, 1) := by decide +kernel
theorem d4_4 : decode jdk_43_method_13_code 4 = .ok (.if_icmp .ne 30, 3) := by decide +kernel
theorem d4_7 : decode jdk_43_method_13_code 7 = .ok (.iconst 0, 1) := by decide +kernel
theorem d4_8 : decode jdk_43_method_13_code 8 = .ok (.istore_n 2, 1) := by decide +kernel
theorem d4_9 : decode jdk_43_method_13_code 9 = .ok (.iload_n 2, 1) := by decide +kernel
theorem d4_10 : decode jdk_43_method_13_code 10 = .ok (.aload_n 0, 1) := by decide +kernel
theorem d4_11 : decode jdk_43_method_13_code 11 = .ok (.arraylength, 1) := by decide +kernel
theorem d4_12 : decode jdk_43_method_13_code 12 = .ok (.if_icmp .ge 20, 3) := by decide +kernel
theorem d4_15 : decode jdk_43_method_13_code 15 = .ok (.aload_n 0, 1) := by decide +kernel
theorem d4_16 : decode jdk_43_method_13_code 16 = .ok (.iload_n 2, 1) := by decide +kernel
theorem d4_17 : decode jdk_43_method_13_code 17 = .ok (.baload, 1) := by decide +kernel
theorem d4_18 : decode jdk_43_method_13_code 18 = .ok (.aload_n 1, 1) := by decide +kernel
theorem d4_19 : decode jdk_43_method_13_code 19 = .ok (.iload_n 2, 1) := by decide +kernel
theorem d4_20 : decode jdk_43_method_13_code 20 = .ok (.baload, 1) := by decide +kernel
theorem d4_21 : decode jdk_43_method_13_code 21 = .ok (.if_icmp .eq 5, 3) := by decide +kernel
theorem d4_24 : decode jdk_43_method_13_code 24 = .ok (.iconst 0, 1) := by decide +kernel
theorem d4_25 : decode jdk_43_method_13_code 25 = .ok (.ireturn, 1) := by decide +kernel
theorem own_pn4 : plainName "java/lang/StringLatin1" = true := by first | (simp [plainName, overriddenIn]; done) | decide +kernel
theorem own_ef4 (m : MethodId) (x0 : Addr) (x1 : Addr) : entryFrame m #[(.ref x0), (.ref x1)] 3 = mkF m 0 #[.val (.ref x0), .val (.ref x1), .unset] [] := by first | (simp [entryFrame, mkF, argsToLocals, Value.category]; done) | rfl
def QrmLe0 (Z : State)  (h0 : Heap) (n0 : Nat) (v : Option Value) (h : Heap) (L : List Loc) : Prop := v = some (.int (0 : Int32)) ∧ Fr n0 L ∧ h = h0
set_option maxRecDepth 65536 in
set_option maxHeartbeats 40000000 in
theorem rmLe0 (l : Launch) (Z : State) (a0 : Array Value) (hw : ∀ d ∈ tables_1, d.before a0 Z = true) (ws : List Jvm.Cond) (u1 u2 : Addr) (k1 k2 : ClassId) (h0 : Heap) (n0 : Nat) (Z0 : n0 ≤ h0.size) (A1 : Arv Z h0 u1 k1 .byte (6 : Int32) [(.int (115 : Int32)), (.int (101 : Int32)), (.int (108 : Int32)), (.int (101 : Int32)), (.int (99 : Int32)), (.int (116 : Int32))] (.int (0 : Int32))) (A2 : Arv Z h0 u2 k2 .byte (6 : Int32) [(.int (105 : Int32)), (.int (110 : Int32)), (.int (115 : Int32)), (.int (101 : Int32)), (.int (114 : Int32)), (.int (116 : Int32))] (.int (0 : Int32))) :
    MetFree l (⟨"java/lang/StringLatin1", "equals", "([B[B)Z"⟩ : MethodName) (head1 (Jvm.Cond.code (⟨"java/lang/StringLatin1", "equals", "([B[B)Z"⟩ : MethodName) jdk_43_method_13_code 3 (some .boolean) :: ws) ({ frames := 0, cells := 0, slots := 0, locals := 0 } : Room)) (fun ar_ U_ => ar_ = #[(.ref u1), (.ref u2)] ∧ Z.Warmed39 U_.vm ∧ U_.heap = h0) (fun _ _ _ _ _ => True) (fun _ U_ ou_ V_ => ∃ v_ L_, ou_ = .returned v_ ∧ QrmLe0 Z  h0 n0 v_ V_.heap L_ ∧ FrameEnd U_ ou_ V_ L_ ({ frames := 0, cells := 0, slots := 0, locals := 0 } : Room).cells ({ frames := 0, cells := 0, slots := 0, locals := 0 } : Room).slots) := by
  refine MetFree.of_bodySF (plainFor_of_name own_pn4) hisR ?_
  intro p e s m args below meth c s₁ Bd hml0 hP hK
  obtain ⟨rfl, hZ, hh⟩ := hP
  have hx := Bd.exec
  have hby := Bd.bytes
  have hml : c.maxLocals = 3 := hml0
  have hown : s.vm.findClass "java/lang/StringLatin1" = some m.cls := findClass_of_methodNamed Bd.named
  have hnm := (name_of_methodNamed Bd.named Bd.method).1
  have X0 : Stand p l e ({ frames := 0, cells := 0, slots := 0, locals := 0 } : Room) s m #[(.ref u1), (.ref u2)] below meth c s₁ [] 0 0 := Stand.of_body Bd
  have e0 : s₁.heap = h0 := by rw [← hh, Bd.state]; rfl
  have N0 := Fr.nil n0
  refine own_go (A := s₁.setTop (mkF m 0 #[.val (.ref u1), .val (.ref u2), .unset] [])) (fun t kz => castTop (own_ef4 m u1 u2) kz) ?_
  refine own_go (A := s₁.setTop (mkF m 1 #[.val (.ref u1), .val (.ref u2), .unset] [(.ref u1)])) (fun _ kz => ?_) ?_
  · show Steps p.tables e below (s₁.setTop (mkF m 0 #[.val (.ref u1), .val (.ref u2), .unset] [])) _
    refine XS.aloadN X0.here hx rfl (hb hby d4_0) rfl rfl ?_
    exact kz
  obtain ⟨cl1, Ar1, -, S1, M1, -, -⟩ := id A1
  refine own_go (A := s₁.setTop (mkF m 2 #[.val (.ref u1), .val (.ref u2), .unset] [(.int (6 : Int32))])) (fun _ kz => ?_) ?_
  · refine X0.arraylength hx (by rw [e0]; exact Ar1.1) (State.isArrayOf_alike hZ.alike Ar1.2.1) (g := (mkF m 1 #[.val (.ref u1), .val (.ref u2), .unset] [(.ref u1)])) rfl rfl (hb hby d4_1) _ ?_
    rw [len_of S1 M1]
    exact kz
  refine own_go (A := s₁.setTop (mkF m 3 #[.val (.ref u1), .val (.ref u2), .unset] [(.ref u2), (.int (6 : Int32))])) (fun _ kz => ?_) ?_
  · show Steps p.tables e below (s₁.setTop (mkF m 2 #[.val (.ref u1), .val (.ref u2), .unset] [(.int (6 : Int32))])) _
    refine XS.aloadN X0.here hx rfl (hb hby d4_2) rfl rfl ?_
    exact kz
  obtain ⟨cl2, Ar2, -, S2, M2, -, -⟩ := id A2
  refine own_go (A := s₁.setTop (mkF m 4 #[.val (.ref u1), .val (.ref u2), .unset] [(.int (6 : Int32)), (.int (6 : Int32))])) (fun _ kz => ?_) ?_
  · refine X0.arraylength hx (by rw [e0]; exact Ar2.1) (State.isArrayOf_alike hZ.alike Ar2.2.1) (g := (mkF m 3 #[.val (.ref u1), .val (.ref u2), .unset] [(.ref u2), (.int (6 : Int32))])) rfl rfl (hb hby d4_3) _ ?_
    rw [len_of S2 M2]
    exact kz
  refine own_go (A := s₁.setTop (mkF m 11 #[.val (.ref u1), .val (.ref u2), .val (.int (0 : Int32))] [(.ref u1), (.int (0 : Int32))])) (fun _ kz => ?_) ?_
  · show Steps p.tables e below (s₁.setTop (mkF m 4 #[.val (.ref u1), .val (.ref u2), .unset] [(.int (6 : Int32)), (.int (6 : Int32))])) _
    refine XS.icmpNo X0.here hx rfl (hb hby d4_4) rfl (teq (by decide : ((6 : Int32) = (6 : Int32)))).2 ?_
    show Steps p.tables e below (s₁.setTop (mkF m 7 #[.val (.ref u1), .val (.ref u2), .unset] [])) _
    refine XS.iconst X0.here hx rfl (hb hby d4_7) ?_
    show Steps p.tables e below (s₁.setTop (mkF m 8 #[.val (.ref u1), .val (.ref u2), .unset] [(.int (0 : Int32))])) _
    refine XS.istoreN X0.here hx rfl (hb hby d4_8) rfl (l' := #[.val (.ref u1), .val (.ref u2), .val (.int (0 : Int32))]) rfl ?_
    show Steps p.tables e below (s₁.setTop (mkF m 9 #[.val (.ref u1), .val (.ref u2), .val (.int (0 : Int32))] [])) _
    refine XS.iloadN X0.here hx rfl (hb hby d4_9) rfl ?_
    show Steps p.tables e below (s₁.setTop (mkF m 10 #[.val (.ref u1), .val (.ref u2), .val (.int (0 : Int32))] [(.int (0 : Int32))])) _
    refine XS.aloadN X0.here hx rfl (hb hby d4_10) rfl rfl ?_
    exact kz
  obtain ⟨cl3, Ar3, -, S3, M3, -, -⟩ := id A1
  refine own_go (A := s₁.setTop (mkF m 12 #[.val (.ref u1), .val (.ref u2), .val (.int (0 : Int32))] [(.int (6 : Int32)), (.int (0 : Int32))])) (fun _ kz => ?_) ?_
  · refine X0.arraylength hx (by rw [e0]; exact Ar3.1) (State.isArrayOf_alike hZ.alike Ar3.2.1) (g := (mkF m 11 #[.val (.ref u1), .val (.ref u2), .val (.int (0 : Int32))] [(.ref u1), (.int (0 : Int32))])) rfl rfl (hb hby d4_11) _ ?_
    rw [len_of S3 M3]
    exact kz
  refine own_go (A := s₁.setTop (mkF m 17 #[.val (.ref u1), .val (.ref u2), .val (.int (0 : Int32))] [(.int (0 : Int32)), (.ref u1)])) (fun _ kz => ?_) ?_
  · show Steps p.tables e below (s₁.setTop (mkF m 12 #[.val (.ref u1), .val (.ref u2), .val (.int (0 : Int32))] [(.int (6 : Int32)), (.int (0 : Int32))])) _
    refine XS.icmpNo X0.here hx rfl (hb hby d4_12) rfl (tlt (by decide : ((0 : Int32) < (6 : Int32)))).2.1 ?_
    show Steps p.tables e below (s₁.setTop (mkF m 15 #[.val (.ref u1), .val (.ref u2), .val (.int (0 : Int32))] [])) _
    refine XS.aloadN X0.here hx rfl (hb hby d4_15) rfl rfl ?_
    show Steps p.tables e below (s₁.setTop (mkF m 16 #[.val (.ref u1), .val (.ref u2), .val (.int (0 : Int32))] [(.ref u1)])) _
    refine XS.iloadN X0.here hx rfl (hb hby d4_16) rfl ?_
    exact kz
  obtain ⟨cl4, Ar4, -, S4, M4, H4, -⟩ := id A1
  have hin4 : ¬ ((0 : Int32) < 0 ∨ cl4.slots.size ≤ ((0 : Int32)).toNatClampNeg) := inb_of S4 ⟨by decide, by decide⟩
  have hat4 : cl4.slots[((0 : Int32)).toNatClampNeg]? = some (.int (115 : Int32)) := H4.at hin4 rfl
  refine own_go (A := s₁.setTop (mkF m 18 #[.val (.ref u1), .val (.ref u2), .val (.int (0 : Int32))] [(.int (115 : Int32))])) (fun _ kz => ?_) ?_
  · refine X0.baloadBytes hx (j := (0 : Int32)) (v := (.int (115 : Int32))) (by rw [e0]; exact Ar4.1) (State.isArrayOf_alike hZ.alike Ar4.2.1) Ar4.2.2 hin4 hat4 (g := (mkF m 17 #[.val (.ref u1), .val (.ref u2), .val (.int (0 : Int32))] [(.int (0 : Int32)), (.ref u1)])) rfl rfl (hb hby d4_17) _ ?_
    exact kz
  refine own_go (A := s₁.setTop (mkF m 20 #[.val (.ref u1), .val (.ref u2), .val (.int (0 : Int32))] [(.int (0 : Int32)), (.ref u2), (.int (115 : Int32))])) (fun _ kz => ?_) ?_
  · show Steps p.tables e below (s₁.setTop (mkF m 18 #[.val (.ref u1), .val (.ref u2), .val (.int (0 : Int32))] [(.int (115 : Int32))])) _
    refine XS.aloadN X0.here hx rfl (hb hby d4_18) rfl rfl ?_
    show Steps p.tables e below (s₁.setTop (mkF m 19 #[.val (.ref u1), .val (.ref u2), .val (.int (0 : Int32))] [(.ref u2), (.int (115 : Int32))])) _
    refine XS.iloadN X0.here hx rfl (hb hby d4_19) rfl ?_
    exact kz
  obtain ⟨cl5, Ar5, -, S5, M5, H5, -⟩ := id A2
  have hin5 : ¬ ((0 : Int32) < 0 ∨ cl5.slots.size ≤ ((0 : Int32)).toNatClampNeg) := inb_of S5 ⟨by decide, by decide⟩
  have hat5 : cl5.slots[((0 : Int32)).toNatClampNeg]? = some (.int (105 : Int32)) := H5.at hin5 rfl
  refine own_go (A := s₁.setTop (mkF m 21 #[.val (.ref u1), .val (.ref u2), .val (.int (0 : Int32))] [(.int (105 : Int32)), (.int (115 : Int32))])) (fun _ kz => ?_) ?_
  · refine X0.baloadBytes hx (j := (0 : Int32)) (v := (.int (105 : Int32))) (by rw [e0]; exact Ar5.1) (State.isArrayOf_alike hZ.alike Ar5.2.1) Ar5.2.2 hin5 hat5 (g := (mkF m 20 #[.val (.ref u1), .val (.ref u2), .val (.int (0 : Int32))] [(.int (0 : Int32)), (.ref u2), (.int (115 : Int32))])) rfl rfl (hb hby d4_20) _ ?_
    exact kz
  refine own_go (A := s₁.setTop (mkF m 25 #[.val (.ref u1), .val (.ref u2), .val (.int (0 : Int32))] [(.int (0 : Int32))])) (fun _ kz => ?_) ?_
  · show Steps p.tables e below (s₁.setTop (mkF m 21 #[.val (.ref u1), .val (.ref u2), .val (.int (0 : Int32))] [(.int (105 : Int32)), (.int (115 : Int32))])) _
    refine XS.icmpNo X0.here hx rfl (hb hby d4_21) rfl (feq (by decide : ¬ ((115 : Int32) = (105 : Int32)))).1 ?_
    show Steps p.tables e below (s₁.setTop (mkF m 24 #[.val (.ref u1), .val (.ref u2), .val (.int (0 : Int32))] [])) _
    refine XS.iconst X0.here hx rfl (hb hby d4_24) ?_
    exact kz
  obtain ⟨fs, hrr, hrun, hended, hW, hsame⟩ := X0.leave (v := some (.int (0 : Int32))) (fun h => by rw [Bd.returns] at h; cases h)
  refine ⟨_, _, ?_, hrun, hended, _, _, rfl, ?_, ⟨_, rfl⟩, hW, hsame.mono (by decide) (by decide)⟩
  · show Steps p.tables e below (s₁.setTop (mkF m 25 #[.val (.ref u1), .val (.ref u2), .val (.int (0 : Int32))] [(.int (0 : Int32))])) _
    exact retN X0 hx (t := .boolean) Bd.returns (by simp) (hb hby d4_25) hrr
  · show QrmLe0 Z  h0 n0 _ s₁.heap _
    rw [e0]
    exact ⟨rfl, N0, rfl⟩
theorem d3_0 : decode jdk_42_method_66_code 0 = .ok (.aload_n 0, 1) := by decide +kernel
theorem d3_1 : decode jdk_42_method_66_code 1 = .ok (.aload_n 1, 1) := by decide +kernel
theorem d3_2 : decode jdk_42_method_66_code 2 = .ok (.if_acmp .ne 5, 3) := by decide +kernel
theorem d3_7 : decode jdk_42_method_66_code 7 = .ok (.aload_n 1, 1) := by decide +kernel
theorem d3_8 : decode jdk_42_method_66_code 8 = .ok (.instanceof 10, 3) := by decide +kernel
theorem d3_11 : decode jdk_42_method_66_code 11 = .ok (.ifCond .eq 43, 3) := by decide +kernel
theorem d3_14 : decode jdk_42_method_66_code 14 = .ok (.aload_n 1, 1) := by decide +kernel
theorem d3_15 : decode jdk_42_method_66_code 15 = .ok (.checkcast 10, 3) := by decide +kernel
theorem d3_18 : decode jdk_42_method_66_code 18 = .ok (.astore_n 2, 1) := by decide +kernel
theorem d3_19 : decode jdk_42_method_66_code 19 = .ok (.getstatic 38, 3) := by decide +kernel
theorem d3_22 : decode jdk_42_method_66_code 22 = .ok (.ifCond .eq 14, 3) := by decide +kernel
theorem d3_25 : decode jdk_42_method_66_code 25 = .ok (.aload_n 0, 1) := by decide +kernel
theorem d3_26 : decode jdk_42_method_66_code 26 = .ok (.getfield 15, 3) := by decide +kernel
theorem d3_29 : decode jdk_42_method_66_code 29 = .ok (.aload_n 2, 1) := by decide +kernel
theorem d3_30 : decode jdk_42_method_66_code 30 = .ok (.getfield 15, 3) := by decide +kernel
theorem d3_33 : decode jdk_42_method_66_code 33 = .ok (.if_icmp .ne 21, 3) := by decide +kernel
theorem d3_36 : decode jdk_42_method_66_code 36 = .ok (.aload_n 0, 1) := by decide +kernel
theorem d3_37 : decode jdk_42_method_66_code 37 = .ok (.getfield 9, 3) := by decide +kernel
theorem d3_40 : decode jdk_42_method_66_code 40 = .ok (.aload_n 2, 1) := by decide +kernel
theorem d3_41 : decode jdk_42_method_66_code 41 = .ok (.getfield 9, 3) := by decide +kernel
theorem d3_44 : decode jdk_42_method_66_code 44 = .ok (.invokestatic 541, 3) := by decide +kernel
theorem d3_47 : decode jdk_42_method_66_code 47 = .ok (.ifCond .eq 7, 3) := by decide +kernel
theorem d3_54 : decode jdk_42_method_66_code 54 = .ok (.iconst 0, 1) := by decide +kernel
theorem d3_55 : decode jdk_42_method_66_code 55 = .ok (.ireturn, 1) := by decide +kernel
theorem own_pn3 : plainName "java/lang/String" = true := by first | (simp [plainName, overriddenIn]; done) | decide +kernel
theorem own_ef3 (m : MethodId) (x0 : Addr) (x1 : Addr) : entryFrame m #[(.ref x0), (.ref x1)] 3 = mkF m 0 #[.val (.ref x0), .val (.ref x1), .unset] [] := by first | (simp [entryFrame, mkF, argsToLocals, Value.category]; done) | rfl
def QrmSe0 (Z : State)  (h0 : Heap) (n0 : Nat) (v : Option Value) (h : Heap) (L : List Loc) : Prop := v = some (.int (0 : Int32)) ∧ Fr n0 L ∧ h = h0
set_option maxRecDepth 65536 in
set_option maxHeartbeats 40000000 in
theorem rmSe0 (l : Launch) (Z : State) (a0 : Array Value) (hw : ∀ d ∈ tables_1, d.before a0 Z = true) (ws : List Jvm.Cond) (x1 x2 u1 u2 : Addr) (k1 k2 : ClassId) (cs : Int32) (h0 : Heap) (n0 : Nat) (Z0 : n0 ≤ h0.size) (E1 : Exa Z h0 x1 "java/lang/String") (E2 : Exa Z h0 x2 "java/lang/String") (C1 : Fld Z h0 x1 "java/lang/String" "coder" "B" (.int (0 : Int32))) (C2 : Fld Z h0 x2 "java/lang/String" "coder" "B" (.int (0 : Int32))) (V1 : Fld Z h0 x1 "java/lang/String" "value" "[B" (.ref u1)) (V2 : Fld Z h0 x2 "java/lang/String" "value" "[B" (.ref u2)) (A1 : Arv Z h0 u1 k1 .byte (6 : Int32) [(.int (115 : Int32)), (.int (101 : Int32)), (.int (108 : Int32)), (.int (101 : Int32)), (.int (99 : Int32)), (.int (116 : Int32))] (.int (0 : Int32))) (A2 : Arv Z h0 u2 k2 .byte (6 : Int32) [(.int (105 : Int32)), (.int (110 : Int32)), (.int (115 : Int32)), (.int (101 : Int32)), (.int (114 : Int32)), (.int (116 : Int32))] (.int (0 : Int32))) (hcs : ¬ (cs = (0 : Int32))) (S_cs : Sta Z h0 "java/lang/String" "COMPACT_STRINGS" "Z" (.int cs)) :
    MetFree l (⟨"java/lang/String", "equals", "(Ljava/lang/Object;)Z"⟩ : MethodName) (head1 (Jvm.Cond.code (⟨"java/lang/String", "equals", "(Ljava/lang/Object;)Z"⟩ : MethodName) jdk_42_method_66_code 3 (some .boolean) :: ws) ({ frames := 1, cells := 0, slots := 0, locals := 14 } : Room)) (fun ar_ U_ => ar_ = #[(.ref x1), (.ref x2)] ∧ Z.Warmed39 U_.vm ∧ U_.heap = h0) (fun _ _ _ _ _ => True) (fun _ U_ ou_ V_ => ∃ v_ L_, ou_ = .returned v_ ∧ QrmSe0 Z  h0 n0 v_ V_.heap L_ ∧ FrameEnd U_ ou_ V_ L_ ({ frames := 1, cells := 0, slots := 0, locals := 14 } : Room).cells ({ frames := 1, cells := 0, slots := 0, locals := 14 } : Room).slots) := by
  refine MetFree.of_bodySF (plainFor_of_name own_pn3) hisR ?_
  intro p e s m args below meth c s₁ Bd hml0 hP hK
  obtain ⟨rfl, hZ, hh⟩ := hP
  have hx := Bd.exec
  have hby := Bd.bytes
  have hml : c.maxLocals = 3 := hml0
  have hown : s.vm.findClass "java/lang/String" = some m.cls := findClass_of_methodNamed Bd.named
  have hnm := (name_of_methodNamed Bd.named Bd.method).1
  have X0 : Stand p l e ({ frames := 1, cells := 0, slots := 0, locals := 14 } : Room) s m #[(.ref x1), (.ref x2)] below meth c s₁ [] 0 0 := Stand.of_body Bd
  have e0 : s₁.heap = h0 := by rw [← hh, Bd.state]; rfl
  have N0 := Fr.nil n0
  have ne_u : u1 ≠ u2 := arv_ne A1 A2 (Or.inr ⟨0, by decide, by decide⟩)
  have ne_x : x1 ≠ x2 := Fld.ne V1 V2 (fun q => ne_u (Value.ref.inj q))
  refine own_go (A := s₁.setTop (mkF m 0 #[.val (.ref x1), .val (.ref x2), .unset] [])) (fun t kz => castTop (own_ef3 m x1 x2) kz) ?_
  refine own_go (A := s₁.setTop (mkF m 8 #[.val (.ref x1), .val (.ref x2), .unset] [(.ref x2)])) (fun _ kz => ?_) ?_
  · show Steps p.tables e below (s₁.setTop (mkF m 0 #[.val (.ref x1), .val (.ref x2), .unset] [])) _
    refine XS.aloadN X0.here hx rfl (hb hby d3_0) rfl rfl ?_
    show Steps p.tables e below (s₁.setTop (mkF m 1 #[.val (.ref x1), .val (.ref x2), .unset] [(.ref x1)])) _
    refine XS.aloadN X0.here hx rfl (hb hby d3_1) rfl rfl ?_
    show Steps p.tables e below (s₁.setTop (mkF m 2 #[.val (.ref x1), .val (.ref x2), .unset] [(.ref x2), (.ref x1)])) _
    refine Jvm.RoadKit.acmp (g := (mkF m 2 #[.val (.ref x1), .val (.ref x2), .unset] [(.ref x2), (.ref x1)])) X0 hx rfl rfl rfl (pc0 := 2) (pc' := 7) (same := false) rfl (hb hby d3_2) rfl (decide_eq_false fun q => ne_x (Value.ref.inj q)) (by decide) (by decide) ?_
    show Steps p.tables e below (s₁.setTop (mkF m 7 #[.val (.ref x1), .val (.ref x2), .unset] [])) _
    refine XS.aloadN X0.here hx rfl (hb hby d3_7) rfl rfl ?_
    exact kz
  obtain ⟨T1, X1, e1, st1⟩ := instY X0 hx hZ hown (hw _ (List.mem_of_getElem? (i := 32) rfl)) e0 (Ins.of_exa E2 (hw _ (List.mem_of_getElem? (i := 33) rfl))) (g := (mkF m 8 #[.val (.ref x1), .val (.ref x2), .unset] [(.ref x2)])) rfl rfl (hb hby d3_8)
  refine own_go (A := T1.setTop (mkF m 11 #[.val (.ref x1), .val (.ref x2), .unset] [(.int (1 : Int32))])) (fun _ kz => st1 _ kz) ?_
  refine own_go (A := T1.setTop (mkF m 15 #[.val (.ref x1), .val (.ref x2), .unset] [(.ref x2)])) (fun _ kz => ?_) ?_
  · show Steps p.tables e below (T1.setTop (mkF m 11 #[.val (.ref x1), .val (.ref x2), .unset] [(.int (1 : Int32))])) _
    refine XS.ifNo X1.here hx rfl (hb hby d3_11) rfl ((if0 _ _).trans (feq (by decide : ¬ ((1 : Int32) = (0 : Int32)))).1) ?_
    show Steps p.tables e below (T1.setTop (mkF m 14 #[.val (.ref x1), .val (.ref x2), .unset] [])) _
    refine XS.aloadN X1.here hx rfl (hb hby d3_14) rfl rfl ?_
    exact kz
  obtain ⟨T2, X2, e2, st2⟩ := castY X1 hx hZ hown (hw _ (List.mem_of_getElem? (i := 32) rfl)) e1 (Ins.of_exa E2 (hw _ (List.mem_of_getElem? (i := 33) rfl))) (g := (mkF m 15 #[.val (.ref x1), .val (.ref x2), .unset] [(.ref x2)])) rfl rfl (hb hby d3_15)
  refine own_go (A := T2.setTop (mkF m 18 #[.val (.ref x1), .val (.ref x2), .unset] [(.ref x2)])) (fun _ kz => st2 _ kz) ?_
  refine own_go (A := T2.setTop (mkF m 19 #[.val (.ref x1), .val (.ref x2), .val (.ref x2)] [])) (fun _ kz => ?_) ?_
  · show Steps p.tables e below (T2.setTop (mkF m 18 #[.val (.ref x1), .val (.ref x2), .unset] [(.ref x2)])) _
    refine XS.astoreN X2.here hx rfl (hb hby d3_18) rfl rfl (l' := #[.val (.ref x1), .val (.ref x2), .val (.ref x2)]) rfl ?_
    exact kz
  obtain ⟨T3, X3, e3, st3⟩ := getS2 X2 hx hZ hown (host := "") (Or.inl (hw _ (List.mem_of_getElem? (i := 34) rfl))) Via.refl e2 S_cs (g := (mkF m 19 #[.val (.ref x1), .val (.ref x2), .val (.ref x2)] [])) rfl (hb hby d3_19)
  refine own_go (A := T3.setTop (mkF m 22 #[.val (.ref x1), .val (.ref x2), .val (.ref x2)] [(.int cs)])) (fun _ kz => st3 _ kz) ?_
  refine own_go (A := T3.setTop (mkF m 26 #[.val (.ref x1), .val (.ref x2), .val (.ref x2)] [(.ref x1)])) (fun _ kz => ?_) ?_
  · show Steps p.tables e below (T3.setTop (mkF m 22 #[.val (.ref x1), .val (.ref x2), .val (.ref x2)] [(.int cs)])) _
    refine XS.ifNo X3.here hx rfl (hb hby d3_22) rfl ((if0 _ _).trans (feq hcs).1) ?_
    show Steps p.tables e below (T3.setTop (mkF m 25 #[.val (.ref x1), .val (.ref x2), .val (.ref x2)] [])) _
    refine XS.aloadN X3.here hx rfl (hb hby d3_25) rfl rfl ?_
    exact kz
  obtain ⟨T4, X4, e4, st4⟩ := getF X3 hx hZ hown (host := "") (Or.inl (hw _ (List.mem_of_getElem? (i := 35) rfl))) Via.refl e3 C1 (g := (mkF m 26 #[.val (.ref x1), .val (.ref x2), .val (.ref x2)] [(.ref x1)])) rfl rfl (hb hby d3_26)
  refine own_go (A := T4.setTop (mkF m 29 #[.val (.ref x1), .val (.ref x2), .val (.ref x2)] [(.int (0 : Int32))])) (fun _ kz => st4 _ kz) ?_
  refine own_go (A := T4.setTop (mkF m 30 #[.val (.ref x1), .val (.ref x2), .val (.ref x2)] [(.ref x2), (.int (0 : Int32))])) (fun _ kz => ?_) ?_
  · show Steps p.tables e below (T4.setTop (mkF m 29 #[.val (.ref x1), .val (.ref x2), .val (.ref x2)] [(.int (0 : Int32))])) _
    refine XS.aloadN X4.here hx rfl (hb hby d3_29) rfl rfl ?_
    exact kz
  obtain ⟨T5, X5, e5, st5⟩ := getF X4 hx hZ hown (host := "") (Or.inl (hw _ (List.mem_of_getElem? (i := 35) rfl))) Via.refl e4 C2 (g := (mkF m 30 #[.val (.ref x1), .val (.ref x2), .val (.ref x2)] [(.ref x2), (.int (0 : Int32))])) rfl rfl (hb hby d3_30)
  refine own_go (A := T5.setTop (mkF m 33 #[.val (.ref x1), .val (.ref x2), .val (.ref x2)] [(.int (0 : Int32)), (.int (0 : Int32))])) (fun _ kz => st5 _ kz) ?_
  refine own_go (A := T5.setTop (mkF m 37 #[.val (.ref x1), .val (.ref x2), .val (.ref x2)] [(.ref x1)])) (fun _ kz => ?_) ?_
  · show Steps p.tables e below (T5.setTop (mkF m 33 #[.val (.ref x1), .val (.ref x2), .val (.ref x2)] [(.int (0 : Int32)), (.int (0 : Int32))])) _
    refine XS.icmpNo X5.here hx rfl (hb hby d3_33) rfl (teq (by decide : ((0 : Int32) = (0 : Int32)))).2 ?_
    show Steps p.tables e below (T5.setTop (mkF m 36 #[.val (.ref x1), .val (.ref x2), .val (.ref x2)] [])) _
    refine XS.aloadN X5.here hx rfl (hb hby d3_36) rfl rfl ?_
    exact kz
  obtain ⟨T6, X6, e6, st6⟩ := getF X5 hx hZ hown (host := "") (Or.inl (hw _ (List.mem_of_getElem? (i := 36) rfl))) Via.refl e5 V1 (g := (mkF m 37 #[.val (.ref x1), .val (.ref x2), .val (.ref x2)] [(.ref x1)])) rfl rfl (hb hby d3_37)
  refine own_go (A := T6.setTop (mkF m 40 #[.val (.ref x1), .val (.ref x2), .val (.ref x2)] [(.ref u1)])) (fun _ kz => st6 _ kz) ?_
  refine own_go (A := T6.setTop (mkF m 41 #[.val (.ref x1), .val (.ref x2), .val (.ref x2)] [(.ref x2), (.ref u1)])) (fun _ kz => ?_) ?_
  · show Steps p.tables e below (T6.setTop (mkF m 40 #[.val (.ref x1), .val (.ref x2), .val (.ref x2)] [(.ref u1)])) _
    refine XS.aloadN X6.here hx rfl (hb hby d3_40) rfl rfl ?_
    exact kz
  obtain ⟨T7, X7, e7, st7⟩ := getF X6 hx hZ hown (host := "") (Or.inl (hw _ (List.mem_of_getElem? (i := 36) rfl))) Via.refl e6 V2 (g := (mkF m 41 #[.val (.ref x1), .val (.ref x2), .val (.ref x2)] [(.ref x2), (.ref u1)])) rfl rfl (hb hby d3_41)
  refine own_go (A := T7.setTop (mkF m 44 #[.val (.ref x1), .val (.ref x2), .val (.ref x2)] [(.ref u2), (.ref u1)])) (fun _ kz => st7 _ kz) ?_
  obtain ⟨_, _, ⟨T8, L8, k8, n8⟩, -, X8, ⟨Lc8, hQ8, l8, y8, z8⟩, st8⟩ := Jvm.LawKit.callS X7 hx (y := (⟨"java/lang/StringLatin1", "equals", "([B[B)Z"⟩ : MethodName)) hown (mvT hZ (hw _ (List.mem_of_getElem? (i := 37) rfl))) (mvT hZ (hw _ (List.mem_of_getElem? (i := 38) rfl))) (mvT hZ (hw _ (List.mem_of_getElem? (i := 39) rfl))) (mvT hZ (hw _ (List.mem_of_getElem? (i := 40) rfl))) (by decide) (backOf (W := 0) (rmLe0 l Z a0 hw [] u1 u2 k1 k2 h0 n0 Z0 A1 A2) hZ (hw _ (List.mem_of_getElem? (i := 40) rfl)) (hw _ (List.mem_of_getElem? (i := 39) rfl)) (by decide) (by decide)) (g := (mkF m 44 #[.val (.ref x1), .val (.ref x2), .val (.ref x2)] [(.ref u2), (.ref u1)])) rfl (by rw [hml]; rfl) (argsL := [(.ref u1), (.ref u2)]) (rest := []) (lenOf own_pd2 rfl) rfl (by show 2 * 0 + _ ≤ _; exact Nat.le_of_eq rfl) (hb hby d3_44) (fun _ _ => ⟨rfl, e7, (by decide : 0 + 0 ≤ _), (by decide : 0 + 0 ≤ _)⟩)
  dsimp only [Pt.U, Pt.locs, Pt.cells, Pt.slots] at X8 l8 y8 z8 st8 hQ8
  subst l8 y8 z8
  obtain ⟨rfl, N8q, e8⟩ := hQ8
  have N8 := Fr.app N0 N8q
  refine own_go (A := T8.setTop (mkF m 47 #[.val (.ref x1), .val (.ref x2), .val (.ref x2)] [(.int (0 : Int32))])) (fun _ kz => st8 _ kz) ?_
  refine own_go (A := T8.setTop (mkF m 55 #[.val (.ref x1), .val (.ref x2), .val (.ref x2)] [(.int (0 : Int32))])) (fun _ kz => ?_) ?_
  · show Steps p.tables e below (T8.setTop (mkF m 47 #[.val (.ref x1), .val (.ref x2), .val (.ref x2)] [(.int (0 : Int32))])) _
    refine XS.ifYes X8.here hx rfl (pc0 := 47) (pc' := 54) rfl (hb hby d3_47) rfl ((if0 _ _).trans (teq (by decide : ((0 : Int32) = (0 : Int32)))).1) (by decide) (by decide) ?_
    show Steps p.tables e below (T8.setTop (mkF m 54 #[.val (.ref x1), .val (.ref x2), .val (.ref x2)] [])) _
    refine XS.iconst X8.here hx rfl (hb hby d3_54) ?_
    exact kz
  obtain ⟨fs, hrr, hrun, hended, hW, hsame⟩ := X8.leave (v := some (.int (0 : Int32))) (fun h => by rw [Bd.returns] at h; cases h)
  refine ⟨_, _, ?_, hrun, hended, _, _, rfl, ?_, ⟨_, rfl⟩, hW, hsame.mono (by decide) (by decide)⟩
  · show Steps p.tables e below (T8.setTop (mkF m 55 #[.val (.ref x1), .val (.ref x2), .val (.ref x2)] [(.int (0 : Int32))])) _
    exact retN X8 hx (t := .boolean) Bd.returns (by simp) (hb hby d3_55) hrr
  · show QrmSe0 Z  h0 n0 _ T8.heap _
    rw [e8]
    exact ⟨rfl, N8, rfl⟩
def QrmLe1 (Z : State)  (h0 : Heap) (n0 : Nat) (v : Option Value) (h : Heap) (L : List Loc) : Prop := v = some (.int (0 : Int32)) ∧ Fr n0 L ∧ h = h0
set_option maxRecDepth 65536 in
set_option maxHeartbeats 40000000 in
theorem rmLe1 (l : Launch) (Z : State) (a0 : Array Value) (hw : ∀ d ∈ tables_1, d.before a0 Z = true) (ws : List Jvm.Cond) (u1 u2 : Addr) (k1 k2 : ClassId) (h0 : Heap) (n0 : Nat) (Z0 : n0 ≤ h0.size) (A1 : Arv Z h0 u1 k1 .byte (6 : Int32) [(.int (115 : Int32)), (.int (101 : Int32)), (.int (108 : Int32)), (.int (101 : Int32)), (.int (99 : Int32)), (.int (116 : Int32))] (.int (0 : Int32))) (A2 : Arv Z h0 u2 k2 .byte (6 : Int32) [(.int (117 : Int32)), (.int (112 : Int32)), (.int (100 : Int32)), (.int (97 : Int32)), (.int (116 : Int32)), (.int (101 : Int32))] (.int (0 : Int32))) :
    MetFree l (⟨"java/lang/StringLatin1", "equals", "([B[B)Z"⟩ : MethodName) (head1 (Jvm.Cond.code (⟨"java/lang/StringLatin1", "equals", "([B[B)Z"⟩ : MethodName) jdk_43_method_13_code 3 (some .boolean) :: ws) ({ frames := 0, cells := 0, slots := 0, locals := 0 } : Room)) (fun ar_ U_ => ar_ = #[(.ref u1), (.ref u2)] ∧ Z.Warmed39 U_.vm ∧ U_.heap = h0) (fun _ _ _ _ _ => True) (fun _ U_ ou_ V_ => ∃ v_ L_, ou_ = .returned v_ ∧ QrmLe1 Z  h0 n0 v_ V_.heap L_ ∧ FrameEnd U_ ou_ V_ L_ ({ frames := 0, cells := 0, slots := 0, locals := 0 } : Room).cells ({ frames := 0, cells := 0, slots := 0, locals := 0 } : Room).slots) := by
  refine MetFree.of_bodySF (plainFor_of_name own_pn4) hisR ?_
  intro p e s m args below meth c s₁ Bd hml0 hP hK
  obtain ⟨rfl, hZ, hh⟩ := hP
  have hx := Bd.exec
  have hby := Bd.bytes
  have hml : c.maxLocals = 3 := hml0
  have hown : s.vm.findClass "java/lang/StringLatin1" = some m.cls := findClass_of_methodNamed Bd.named
  have hnm := (name_of_methodNamed Bd.named Bd.method).1
  have X0 : Stand p l e ({ frames := 0, cells := 0, slots := 0, locals := 0 } : Room) s m #[(.ref u1), (.ref u2)] below meth c s₁ [] 0 0 := Stand.of_body Bd
  have e0 : s₁.heap = h0 := by rw [← hh, Bd.state]; rfl
  have N0 := Fr.nil n0
  refine own_go (A := s₁.setTop (mkF m 0 #[.val (.ref u1), .val (.ref u2), .unset] [])) (fun t kz => castTop (own_ef4 m u1 u2) kz) ?_
  refine own_go (A := s₁.setTop (mkF m 1 #[.val (.ref u1), .val (.ref u2), .unset] [(.ref u1)])) (fun _ kz => ?_) ?_
  · show Steps p.tables e below (s₁.setTop (mkF m 0 #[.val (.ref u1), .val (.ref u2), .unset] [])) _
    refine XS.aloadN X0.here hx rfl (hb hby d4_0) rfl rfl ?_
    exact kz
  obtain ⟨cl1, Ar1, -, S1, M1, -, -⟩ := id A1
  refine own_go (A := s₁.setTop (mkF m 2 #[.val (.ref u1), .val (.ref u2), .unset] [(.int (6 : Int32))])) (fun _ kz => ?_) ?_
  · refine X0.arraylength hx (by rw [e0]; exact Ar1.1) (State.isArrayOf_alike hZ.alike Ar1.2.1) (g := (mkF m 1 #[.val (.ref u1), .val (.ref u2), .unset] [(.ref u1)])) rfl rfl (hb hby d4_1) _ ?_
    rw [len_of S1 M1]
    exact kz
  refine own_go (A := s₁.setTop (mkF m 3 #[.val (.ref u1), .val (.ref u2), .unset] [(.ref u2), (.int (6 : Int32))])) (fun _ kz => ?_) ?_
  · show Steps p.tables e below (s₁.setTop (mkF m 2 #[.val (.ref u1), .val (.ref u2), .unset] [(.int (6 : Int32))])) _
    refine XS.aloadN X0.here hx rfl (hb hby d4_2) rfl rfl ?_
    exact kz
  obtain ⟨cl2, Ar2, -, S2, M2, -, -⟩ := id A2
  refine own_go (A := s₁.setTop (mkF m 4 #[.val (.ref u1), .val (.ref u2), .unset] [(.int (6 : Int32)), (.int (6 : Int32))])) (fun _ kz => ?_) ?_
  · refine X0.arraylength hx (by rw [e0]; exact Ar2.1) (State.isArrayOf_alike hZ.alike Ar2.2.1) (g := (mkF m 3 #[.val (.ref u1), .val (.ref u2), .unset] [(.ref u2), (.int (6 : Int32))])) rfl rfl (hb hby d4_3) _ ?_
    rw [len_of S2 M2]
    exact kz
  refine own_go (A := s₁.setTop (mkF m 11 #[.val (.ref u1), .val (.ref u2), .val (.int (0 : Int32))] [(.ref u1), (.int (0 : Int32))])) (fun _ kz => ?_) ?_
  · show Steps p.tables e below (s₁.setTop (mkF m 4 #[.val (.ref u1), .val (.ref u2), .unset] [(.int (6 : Int32)), (.int (6 : Int32))])) _
    refine XS.icmpNo X0.here hx rfl (hb hby d4_4) rfl (teq (by decide : ((6 : Int32) = (6 : Int32)))).2 ?_
    show Steps p.tables e below (s₁.setTop (mkF m 7 #[.val (.ref u1), .val (.ref u2), .unset] [])) _
    refine XS.iconst X0.here hx rfl (hb hby d4_7) ?_
    show Steps p.tables e below (s₁.setTop (mkF m 8 #[.val (.ref u1), .val (.ref u2), .unset] [(.int (0 : Int32))])) _
    refine XS.istoreN X0.here hx rfl (hb hby d4_8) rfl (l' := #[.val (.ref u1), .val (.ref u2), .val (.int (0 : Int32))]) rfl ?_
    show Steps p.tables e below (s₁.setTop (mkF m 9 #[.val (.ref u1), .val (.ref u2), .val (.int (0 : Int32))] [])) _
    refine XS.iloadN X0.here hx rfl (hb hby d4_9) rfl ?_
    show Steps p.tables e below (s₁.setTop (mkF m 10 #[.val (.ref u1), .val (.ref u2), .val (.int (0 : Int32))] [(.int (0 : Int32))])) _
    refine XS.aloadN X0.here hx rfl (hb hby d4_10) rfl rfl ?_
    exact kz
  obtain ⟨cl3, Ar3, -, S3, M3, -, -⟩ := id A1
  refine own_go (A := s₁.setTop (mkF m 12 #[.val (.ref u1), .val (.ref u2), .val (.int (0 : Int32))] [(.int (6 : Int32)), (.int (0 : Int32))])) (fun _ kz => ?_) ?_
  · refine X0.arraylength hx (by rw [e0]; exact Ar3.1) (State.isArrayOf_alike hZ.alike Ar3.2.1) (g := (mkF m 11 #[.val (.ref u1), .val (.ref u2), .val (.int (0 : Int32))] [(.ref u1), (.int (0 : Int32))])) rfl rfl (hb hby d4_11) _ ?_
    rw [len_of S3 M3]
    exact kz
  refine own_go (A := s₁.setTop (mkF m 17 #[.val (.ref u1), .val (.ref u2), .val (.int (0 : Int32))] [(.int (0 : Int32)), (.ref u1)])) (fun _ kz => ?_) ?_
  · show Steps p.tables e below (s₁.setTop (mkF m 12 #[.val (.ref u1), .val (.ref u2), .val (.int (0 : Int32))] [(.int (6 : Int32)), (.int (0 : Int32))])) _
    refine XS.icmpNo X0.here hx rfl (hb hby d4_12) rfl (tlt (by decide : ((0 : Int32) < (6 : Int32)))).2.1 ?_
    show Steps p.tables e below (s₁.setTop (mkF m 15 #[.val (.ref u1), .val (.ref u2), .val (.int (0 : Int32))] [])) _
    refine XS.aloadN X0.here hx rfl (hb hby d4_15) rfl rfl ?_
    show Steps p.tables e below (s₁.setTop (mkF m 16 #[.val (.ref u1), .val (.ref u2), .val (.int (0 : Int32))] [(.ref u1)])) _
    refine XS.iloadN X0.here hx rfl (hb hby d4_16) rfl ?_
    exact kz
  obtain ⟨cl4, Ar4, -, S4, M4, H4, -⟩ := id A1
  have hin4 : ¬ ((0 : Int32) < 0 ∨ cl4.slots.size ≤ ((0 : Int32)).toNatClampNeg) := inb_of S4 ⟨by decide, by decide⟩
  have hat4 : cl4.slots[((0 : Int32)).toNatClampNeg]? = some (.int (115 : Int32)) := H4.at hin4 rfl
  refine own_go (A := s₁.setTop (mkF m 18 #[.val (.ref u1), .val (.ref u2), .val (.int (0 : Int32))] [(.int (115 : Int32))])) (fun _ kz => ?_) ?_
  · refine X0.baloadBytes hx (j := (0 : Int32)) (v := (.int (115 : Int32))) (by rw [e0]; exact Ar4.1) (State.isArrayOf_alike hZ.alike Ar4.2.1) Ar4.2.2 hin4 hat4 (g := (mkF m 17 #[.val (.ref u1), .val (.ref u2), .val (.int (0 : Int32))] [(.int (0 : Int32)), (.ref u1)])) rfl rfl (hb hby d4_17) _ ?_
    exact kz
  refine own_go (A := s₁.setTop (mkF m 20 #[.val (.ref u1), .val (.ref u2), .val (.int (0 : Int32))] [(.int (0 : Int32)), (.ref u2), (.int (115 : Int32))])) (fun _ kz => ?_) ?_
  · show Steps p.tables e below (s₁.setTop (mkF m 18 #[.val (.ref u1), .val (.ref u2), .val (.int (0 : Int32))] [(.int (115 : Int32))])) _
    refine XS.aloadN X0.here hx rfl (hb hby d4_18) rfl rfl ?_
    show Steps p.tables e below (s₁.setTop (mkF m 19 #[.val (.ref u1), .val (.ref u2), .val (.int (0 : Int32))] [(.ref u2), (.int (115 : Int32))])) _
    refine XS.iloadN X0.here hx rfl (hb hby d4_19) rfl ?_
    exact kz
  obtain ⟨cl5, Ar5, -, S5, M5, H5, -⟩ := id A2
  have hin5 : ¬ ((0 : Int32) < 0 ∨ cl5.slots.size ≤ ((0 : Int32)).toNatClampNeg) := inb_of S5 ⟨by decide, by decide⟩
  have hat5 : cl5.slots[((0 : Int32)).toNatClampNeg]? = some (.int (117 : Int32)) := H5.at hin5 rfl
  refine own_go (A := s₁.setTop (mkF m 21 #[.val (.ref u1), .val (.ref u2), .val (.int (0 : Int32))] [(.int (117 : Int32)), (.int (115 : Int32))])) (fun _ kz => ?_) ?_
  · refine X0.baloadBytes hx (j := (0 : Int32)) (v := (.int (117 : Int32))) (by rw [e0]; exact Ar5.1) (State.isArrayOf_alike hZ.alike Ar5.2.1) Ar5.2.2 hin5 hat5 (g := (mkF m 20 #[.val (.ref u1), .val (.ref u2), .val (.int (0 : Int32))] [(.int (0 : Int32)), (.ref u2), (.int (115 : Int32))])) rfl rfl (hb hby d4_20) _ ?_
    exact kz
  refine own_go (A := s₁.setTop (mkF m 25 #[.val (.ref u1), .val (.ref u2), .val (.int (0 : Int32))] [(.int (0 : Int32))])) (fun _ kz => ?_) ?_
  · show Steps p.tables e below (s₁.setTop (mkF m 21 #[.val (.ref u1), .val (.ref u2), .val (.int (0 : Int32))] [(.int (117 : Int32)), (.int (115 : Int32))])) _
    refine XS.icmpNo X0.here hx rfl (hb hby d4_21) rfl (feq (by decide : ¬ ((115 : Int32) = (117 : Int32)))).1 ?_
    show Steps p.tables e below (s₁.setTop (mkF m 24 #[.val (.ref u1), .val (.ref u2), .val (.int (0 : Int32))] [])) _
    refine XS.iconst X0.here hx rfl (hb hby d4_24) ?_
    exact kz
  obtain ⟨fs, hrr, hrun, hended, hW, hsame⟩ := X0.leave (v := some (.int (0 : Int32))) (fun h => by rw [Bd.returns] at h; cases h)
  refine ⟨_, _, ?_, hrun, hended, _, _, rfl, ?_, ⟨_, rfl⟩, hW, hsame.mono (by decide) (by decide)⟩
  · show Steps p.tables e below (s₁.setTop (mkF m 25 #[.val (.ref u1), .val (.ref u2), .val (.int (0 : Int32))] [(.int (0 : Int32))])) _
    exact retN X0 hx (t := .boolean) Bd.returns (by simp) (hb hby d4_25) hrr
  · show QrmLe1 Z  h0 n0 _ s₁.heap _
    rw [e0]
    exact ⟨rfl, N0, rfl⟩
def QrmSe1 (Z : State)  (h0 : Heap) (n0 : Nat) (v : Option Value) (h : Heap) (L : List Loc) : Prop := v = some (.int (0 : Int32)) ∧ Fr n0 L ∧ h = h0
set_option maxRecDepth 65536 in
set_option maxHeartbeats 40000000 in
theorem rmSe1 (l : Launch) (Z : State) (a0 : Array Value) (hw : ∀ d ∈ tables_1, d.before a0 Z = true) (ws : List Jvm.Cond) (x1 x2 u1 u2 : Addr) (k1 k2 : ClassId) (cs : Int32) (h0 : Heap) (n0 : Nat) (Z0 : n0 ≤ h0.size) (E1 : Exa Z h0 x1 "java/lang/String") (E2 : Exa Z h0 x2 "java/lang/String") (C1 : Fld Z h0 x1 "java/lang/String" "coder" "B" (.int (0 : Int32))) (C2 : Fld Z h0 x2 "java/lang/String" "coder" "B" (.int (0 : Int32))) (V1 : Fld Z h0 x1 "java/lang/String" "value" "[B" (.ref u1)) (V2 : Fld Z h0 x2 "java/lang/String" "value" "[B" (.ref u2)) (A1 : Arv Z h0 u1 k1 .byte (6 : Int32) [(.int (115 : Int32)), (.int (101 : Int32)), (.int (108 : Int32)), (.int (101 : Int32)), (.int (99 : Int32)), (.int (116 : Int32))] (.int (0 : Int32))) (A2 : Arv Z h0 u2 k2 .byte (6 : Int32) [(.int (117 : Int32)), (.int (112 : Int32)), (.int (100 : Int32)), (.int (97 : Int32)), (.int (116 : Int32)), (.int (101 : Int32))] (.int (0 : Int32))) (hcs : ¬ (cs = (0 : Int32))) (S_cs : Sta Z h0 "java/lang/String" "COMPACT_STRINGS" "Z" (.int cs)) :
    MetFree l (⟨"java/lang/String", "equals", "(Ljava/lang/Object;)Z"⟩ : MethodName) (head1 (Jvm.Cond.code (⟨"java/lang/String", "equals", "(Ljava/lang/Object;)Z"⟩ : MethodName) jdk_42_method_66_code 3 (some .boolean) :: ws) ({ frames := 1, cells := 0, slots := 0, locals := 14 } : Room)) (fun ar_ U_ => ar_ = #[(.ref x1), (.ref x2)] ∧ Z.Warmed39 U_.vm ∧ U_.heap = h0) (fun _ _ _ _ _ => True) (fun _ U_ ou_ V_ => ∃ v_ L_, ou_ = .returned v_ ∧ QrmSe1 Z  h0 n0 v_ V_.heap L_ ∧ FrameEnd U_ ou_ V_ L_ ({ frames := 1, cells := 0, slots := 0, locals := 14 } : Room).cells ({ frames := 1, cells := 0, slots := 0, locals := 14 } : Room).slots) := by
  refine MetFree.of_bodySF (plainFor_of_name own_pn3) hisR ?_
  intro p e s m args below meth c s₁ Bd hml0 hP hK
  obtain ⟨rfl, hZ, hh⟩ := hP
  have hx := Bd.exec
  have hby := Bd.bytes
  have hml : c.maxLocals = 3 := hml0
  have hown : s.vm.findClass "java/lang/String" = some m.cls := findClass_of_methodNamed Bd.named
  have hnm := (name_of_methodNamed Bd.named Bd.method).1
  have X0 : Stand p l e ({ frames := 1, cells := 0, slots := 0, locals := 14 } : Room) s m #[(.ref x1), (.ref x2)] below meth c s₁ [] 0 0 := Stand.of_body Bd
  have e0 : s₁.heap = h0 := by rw [← hh, Bd.state]; rfl
  have N0 := Fr.nil n0
  have ne_u : u1 ≠ u2 := arv_ne A1 A2 (Or.inr ⟨0, by decide, by decide⟩)
  have ne_x : x1 ≠ x2 := Fld.ne V1 V2 (fun q => ne_u (Value.ref.inj q))
  refine own_go (A := s₁.setTop (mkF m 0 #[.val (.ref x1), .val (.ref x2), .unset] [])) (fun t kz => castTop (own_ef3 m x1 x2) kz) ?_
  refine own_go (A := s₁.setTop (mkF m 8 #[.val (.ref x1), .val (.ref x2), .unset] [(.ref x2)])) (fun _ kz => ?_) ?_
  · show Steps p.tables e below (s₁.setTop (mkF m 0 #[.val (.ref x1), .val (.ref x2), .unset] [])) _
    refine XS.aloadN X0.here hx rfl (hb hby d3_0) rfl rfl ?_
    show Steps p.tables e below (s₁.setTop (mkF m 1 #[.val (.ref x1), .val (.ref x2), .unset] [(.ref x1)])) _
    refine XS.aloadN X0.here hx rfl (hb hby d3_1) rfl rfl ?_
    show Steps p.tables e below (s₁.setTop (mkF m 2 #[.val (.ref x1), .val (.ref x2), .unset] [(.ref x2), (.ref x1)])) _
    refine Jvm.RoadKit.acmp (g := (mkF m 2 #[.val (.ref x1), .val (.ref x2), .unset] [(.ref x2), (.ref x1)])) X0 hx rfl rfl rfl (pc0 := 2) (pc' := 7) (same := false) rfl (hb hby d3_2) rfl (decide_eq_false fun q => ne_x (Value.ref.inj q)) (by decide) (by decide) ?_
    show Steps p.tables e below (s₁.setTop (mkF m 7 #[.val (.ref x1), .val (.ref x2), .unset] [])) _
    refine XS.aloadN X0.here hx rfl (hb hby d3_7) rfl rfl ?_
    exact kz
  obtain ⟨T1, X1, e1, st1⟩ := instY X0 hx hZ hown (hw _ (List.mem_of_getElem? (i := 32) rfl)) e0 (Ins.of_exa E2 (hw _ (List.mem_of_getElem? (i := 33) rfl))) (g := (mkF m 8 #[.val (.ref x1), .val (.ref x2), .unset] [(.ref x2)])) rfl rfl (hb hby d3_8)
  refine own_go (A := T1.setTop (mkF m 11 #[.val (.ref x1), .val (.ref x2), .unset] [(.int (1 : Int32))])) (fun _ kz => st1 _ kz) ?_
  refine own_go (A := T1.setTop (mkF m 15 #[.val (.ref x1), .val (.ref x2), .unset] [(.ref x2)])) (fun _ kz => ?_) ?_
  · show Steps p.tables e below (T1.setTop (mkF m 11 #[.val (.ref x1), .val (.ref x2), .unset] [(.int (1 : Int32))])) _
    refine XS.ifNo X1.here hx rfl (hb hby d3_11) rfl ((if0 _ _).trans (feq (by decide : ¬ ((1 : Int32) = (0 : Int32)))).1) ?_
    show Steps p.tables e below (T1.setTop (mkF m 14 #[.val (.ref x1), .val (.ref x2), .unset] [])) _
    refine XS.aloadN X1.here hx rfl (hb hby d3_14) rfl rfl ?_
    exact kz
  obtain ⟨T2, X2, e2, st2⟩ := castY X1 hx hZ hown (hw _ (List.mem_of_getElem? (i := 32) rfl)) e1 (Ins.of_exa E2 (hw _ (List.mem_of_getElem? (i := 33) rfl))) (g := (mkF m 15 #[.val (.ref x1), .val (.ref x2), .unset] [(.ref x2)])) rfl rfl (hb hby d3_15)
  refine own_go (A := T2.setTop (mkF m 18 #[.val (.ref x1), .val (.ref x2), .unset] [(.ref x2)])) (fun _ kz => st2 _ kz) ?_
  refine own_go (A := T2.setTop (mkF m 19 #[.val (.ref x1), .val (.ref x2), .val (.ref x2)] [])) (fun _ kz => ?_) ?_
  · show Steps p.tables e below (T2.setTop (mkF m 18 #[.val (.ref x1), .val (.ref x2), .unset] [(.ref x2)])) _
    refine XS.astoreN X2.here hx rfl (hb hby d3_18) rfl rfl (l' := #[.val (.ref x1), .val (.ref x2), .val (.ref x2)]) rfl ?_
    exact kz
  obtain ⟨T3, X3, e3, st3⟩ := getS2 X2 hx hZ hown (host := "") (Or.inl (hw _ (List.mem_of_getElem? (i := 34) rfl))) Via.refl e2 S_cs (g := (mkF m 19 #[.val (.ref x1), .val (.ref x2), .val (.ref x2)] [])) rfl (hb hby d3_19)
  refine own_go (A := T3.setTop (mkF m 22 #[.val (.ref x1), .val (.ref x2), .val (.ref x2)] [(.int cs)])) (fun _ kz => st3 _ kz) ?_
  refine own_go (A := T3.setTop (mkF m 26 #[.val (.ref x1), .val (.ref x2), .val (.ref x2)] [(.ref x1)])) (fun _ kz => ?_) ?_
  · show Steps p.tables e below (T3.setTop (mkF m 22 #[.val (.ref x1), .val (.ref x2), .val (.ref x2)] [(.int cs)])) _
    refine XS.ifNo X3.here hx rfl (hb hby d3_22) rfl ((if0 _ _).trans (feq hcs).1) ?_
    show Steps p.tables e below (T3.setTop (mkF m 25 #[.val (.ref x1), .val (.ref x2), .val (.ref x2)] [])) _
    refine XS.aloadN X3.here hx rfl (hb hby d3_25) rfl rfl ?_
    exact kz
  obtain ⟨T4, X4, e4, st4⟩ := getF X3 hx hZ hown (host := "") (Or.inl (hw _ (List.mem_of_getElem? (i := 35) rfl))) Via.refl e3 C1 (g := (mkF m 26 #[.val (.ref x1), .val (.ref x2), .val (.ref x2)] [(.ref x1)])) rfl rfl (hb hby d3_26)
  refine own_go (A := T4.setTop (mkF m 29 #[.val (.ref x1), .val (.ref x2), .val (.ref x2)] [(.int (0 : Int32))])) (fun _ kz => st4 _ kz) ?_
  refine own_go (A := T4.setTop (mkF m 30 #[.val (.ref x1), .val (.ref x2), .val (.ref x2)] [(.ref x2), (.int (0 : Int32))])) (fun _ kz => ?_) ?_
  · show Steps p.tables e below (T4.setTop (mkF m 29 #[.val (.ref x1), .val (.ref x2), .val (.ref x2)] [(.int (0 : Int32))])) _
    refine XS.aloadN X4.here hx rfl (hb hby d3_29) rfl rfl ?_
    exact kz
  obtain ⟨T5, X5, e5, st5⟩ := getF X4 hx hZ hown (host := "") (Or.inl (hw _ (List.mem_of_getElem? (i := 35) rfl))) Via.refl e4 C2 (g := (mkF m 30 #[.val (.ref x1), .val (.ref x2), .val (.ref x2)] [(.ref x2), (.int (0 : Int32))])) rfl rfl (hb hby d3_30)
  refine own_go (A := T5.setTop (mkF m 33 #[.val (.ref x1), .val (.ref x2), .val (.ref x2)] [(.int (0 : Int32)), (.int (0 : Int32))])) (fun _ kz => st5 _ kz) ?_
  refine own_go (A := T5.setTop (mkF m 37 #[.val (.ref x1), .val (.ref x2), .val (.ref x2)] [(.ref x1)])) (fun _ kz => ?_) ?_
  · show Steps p.tables e below (T5.setTop (mkF m 33 #[.val (.ref x1), .val (.ref x2), .val (.ref x2)] [(.int (0 : Int32)), (.int (0 : Int32))])) _
    refine XS.icmpNo X5.here hx rfl (hb hby d3_33) rfl (teq (by decide : ((0 : Int32) = (0 : Int32)))).2 ?_
    show Steps p.tables e below (T5.setTop (mkF m 36 #[.val (.ref x1), .val (.ref x2), .val (.ref x2)] [])) _
    refine XS.aloadN X5.here hx rfl (hb hby d3_36) rfl rfl ?_
    exact kz
  obtain ⟨T6, X6, e6, st6⟩ := getF X5 hx hZ hown (host := "") (Or.inl (hw _ (List.mem_of_getElem? (i := 36) rfl))) Via.refl e5 V1 (g := (mkF m 37 #[.val (.ref x1), .val (.ref x2), .val (.ref x2)] [(.ref x1)])) rfl rfl (hb hby d3_37)
  refine own_go (A := T6.setTop (mkF m 40 #[.val (.ref x1), .val (.ref x2), .val (.ref x2)] [(.ref u1)])) (fun _ kz => st6 _ kz) ?_
  refine own_go (A := T6.setTop (mkF m 41 #[.val (.ref x1), .val (.ref x2), .val (.ref x2)] [(.ref x2), (.ref u1)])) (fun _ kz => ?_) ?_
  · show Steps p.tables e below (T6.setTop (mkF m 40 #[.val (.ref x1), .val (.ref x2), .val (.ref x2)] [(.ref u1)])) _
    refine XS.aloadN X6.here hx rfl (hb hby d3_40) rfl rfl ?_
    exact kz
  obtain ⟨T7, X7, e7, st7⟩ := getF X6 hx hZ hown (host := "") (Or.inl (hw _ (List.mem_of_getElem? (i := 36) rfl))) Via.refl e6 V2 (g := (mkF m 41 #[.val (.ref x1), .val (.ref x2), .val (.ref x2)] [(.ref x2), (.ref u1)])) rfl rfl (hb hby d3_41)
  refine own_go (A := T7.setTop (mkF m 44 #[.val (.ref x1), .val (.ref x2), .val (.ref x2)] [(.ref u2), (.ref u1)])) (fun _ kz => st7 _ kz) ?_
  obtain ⟨_, _, ⟨T8, L8, k8, n8⟩, -, X8, ⟨Lc8, hQ8, l8, y8, z8⟩, st8⟩ := Jvm.LawKit.callS X7 hx (y := (⟨"java/lang/StringLatin1", "equals", "([B[B)Z"⟩ : MethodName)) hown (mvT hZ (hw _ (List.mem_of_getElem? (i := 37) rfl))) (mvT hZ (hw _ (List.mem_of_getElem? (i := 38) rfl))) (mvT hZ (hw _ (List.mem_of_getElem? (i := 39) rfl))) (mvT hZ (hw _ (List.mem_of_getElem? (i := 40) rfl))) (by decide) (backOf (W := 0) (rmLe1 l Z a0 hw [] u1 u2 k1 k2 h0 n0 Z0 A1 A2) hZ (hw _ (List.mem_of_getElem? (i := 40) rfl)) (hw _ (List.mem_of_getElem? (i := 39) rfl)) (by decide) (by decide)) (g := (mkF m 44 #[.val (.ref x1), .val (.ref x2), .val (.ref x2)] [(.ref u2), (.ref u1)])) rfl (by rw [hml]; rfl) (argsL := [(.ref u1), (.ref u2)]) (rest := []) (lenOf own_pd2 rfl) rfl (by show 2 * 0 + _ ≤ _; exact Nat.le_of_eq rfl) (hb hby d3_44) (fun _ _ => ⟨rfl, e7, (by decide : 0 + 0 ≤ _), (by decide : 0 + 0 ≤ _)⟩)
  dsimp only [Pt.U, Pt.locs, Pt.cells, Pt.slots] at X8 l8 y8 z8 st8 hQ8
  subst l8 y8 z8
  obtain ⟨rfl, N8q, e8⟩ := hQ8
  have N8 := Fr.app N0 N8q
  refine own_go (A := T8.setTop (mkF m 47 #[.val (.ref x1), .val (.ref x2), .val (.ref x2)] [(.int (0 : Int32))])) (fun _ kz => st8 _ kz) ?_
  refine own_go (A := T8.setTop (mkF m 55 #[.val (.ref x1), .val (.ref x2), .val (.ref x2)] [(.int (0 : Int32))])) (fun _ kz => ?_) ?_
  · show Steps p.tables e below (T8.setTop (mkF m 47 #[.val (.ref x1), .val (.ref x2), .val (.ref x2)] [(.int (0 : Int32))])) _
    refine XS.ifYes X8.here hx rfl (pc0 := 47) (pc' := 54) rfl (hb hby d3_47) rfl ((if0 _ _).trans (teq (by decide : ((0 : Int32) = (0 : Int32)))).1) (by decide) (by decide) ?_
    show Steps p.tables e below (T8.setTop (mkF m 54 #[.val (.ref x1), .val (.ref x2), .val (.ref x2)] [])) _
    refine XS.iconst X8.here hx rfl (hb hby d3_54) ?_
    exact kz
  obtain ⟨fs, hrr, hrun, hended, hW, hsame⟩ := X8.leave (v := some (.int (0 : Int32))) (fun h => by rw [Bd.returns] at h; cases h)
  refine ⟨_, _, ?_, hrun, hended, _, _, rfl, ?_, ⟨_, rfl⟩, hW, hsame.mono (by decide) (by decide)⟩
  · show Steps p.tables e below (T8.setTop (mkF m 55 #[.val (.ref x1), .val (.ref x2), .val (.ref x2)] [(.int (0 : Int32))])) _
    exact retN X8 hx (t := .boolean) Bd.returns (by simp) (hb hby d3_55) hrr
  · show QrmSe1 Z  h0 n0 _ T8.heap _
    rw [e8]
    exact ⟨rfl, N8, rfl⟩
theorem d4_26 : decode jdk_43_method_13_code 26 = .ok (.iinc 2 1, 3) := by decide +kernel
theorem d4_29 : decode jdk_43_method_13_code 29 = .ok (.goto (-20), 3) := by decide +kernel
theorem d4_32 : decode jdk_43_method_13_code 32 = .ok (.iconst 1, 1) := by decide +kernel
theorem d4_33 : decode jdk_43_method_13_code 33 = .ok (.ireturn, 1) := by decide +kernel
def QrmLe2 (Z : State)  (h0 : Heap) (n0 : Nat) (v : Option Value) (h : Heap) (L : List Loc) : Prop := v = some (.int (1 : Int32)) ∧ Fr n0 L ∧ h = h0
set_option maxRecDepth 65536 in
set_option maxHeartbeats 40000000 in
theorem rmLe2 (l : Launch) (Z : State) (a0 : Array Value) (hw : ∀ d ∈ tables_1, d.before a0 Z = true) (ws : List Jvm.Cond) (u1 u2 : Addr) (k1 k2 : ClassId) (h0 : Heap) (n0 : Nat) (Z0 : n0 ≤ h0.size) (A1 : Arv Z h0 u1 k1 .byte (6 : Int32) [(.int (105 : Int32)), (.int (110 : Int32)), (.int (115 : Int32)), (.int (101 : Int32)), (.int (114 : Int32)), (.int (116 : Int32))] (.int (0 : Int32))) (A2 : Arv Z h0 u2 k2 .byte (6 : Int32) [(.int (105 : Int32)), (.int (110 : Int32)), (.int (115 : Int32)), (.int (101 : Int32)), (.int (114 : Int32)), (.int (116 : Int32))] (.int (0 : Int32))) :
    MetFree l (⟨"java/lang/StringLatin1", "equals", "([B[B)Z"⟩ : MethodName) (head1 (Jvm.Cond.code (⟨"java/lang/StringLatin1", "equals", "([B[B)Z"⟩ : MethodName) jdk_43_method_13_code 3 (some .boolean) :: ws) ({ frames := 0, cells := 0, slots := 0, locals := 0 } : Room)) (fun ar_ U_ => ar_ = #[(.ref u1), (.ref u2)] ∧ Z.Warmed39 U_.vm ∧ U_.heap = h0) (fun _ _ _ _ _ => True) (fun _ U_ ou_ V_ => ∃ v_ L_, ou_ = .returned v_ ∧ QrmLe2 Z  h0 n0 v_ V_.heap L_ ∧ FrameEnd U_ ou_ V_ L_ ({ frames := 0, cells := 0, slots := 0, locals := 0 } : Room).cells ({ frames := 0, cells := 0, slots := 0, locals := 0 } : Room).slots) := by
  refine MetFree.of_bodySF (plainFor_of_name own_pn4) hisR ?_
  intro p e s m args below meth c s₁ Bd hml0 hP hK
  obtain ⟨rfl, hZ, hh⟩ := hP
  have hx := Bd.exec
  have hby := Bd.bytes
  have hml : c.maxLocals = 3 := hml0
  have hown : s.vm.findClass "java/lang/StringLatin1" = some m.cls := findClass_of_methodNamed Bd.named
  have hnm := (name_of_methodNamed Bd.named Bd.method).1
  have X0 : Stand p l e ({ frames := 0, cells := 0, slots := 0, locals := 0 } : Room) s m #[(.ref u1), (.ref u2)] below meth c s₁ [] 0 0 := Stand.of_body Bd
  have e0 : s₁.heap = h0 := by rw [← hh, Bd.state]; rfl
  have N0 := Fr.nil n0
  refine own_go (A := s₁.setTop (mkF m 0 #[.val (.ref u1), .val (.ref u2), .unset] [])) (fun t kz => castTop (own_ef4 m u1 u2) kz) ?_
  refine own_go (A := s₁.setTop (mkF m 1 #[.val (.ref u1), .val (.ref u2), .unset] [(.ref u1)])) (fun _ kz => ?_) ?_
  · show Steps p.tables e below (s₁.setTop (mkF m 0 #[.val (.ref u1), .val (.ref u2), .unset] [])) _
    refine XS.aloadN X0.here hx rfl (hb hby d4_0) rfl rfl ?_
    exact kz
  obtain ⟨cl1, Ar1, -, S1, M1, -, -⟩ := id A1
  refine own_go (A := s₁.setTop (mkF m 2 #[.val (.ref u1), .val (.ref u2), .unset] [(.int (6 : Int32))])) (fun _ kz => ?_) ?_
  · refine X0.arraylength hx (by rw [e0]; exact Ar1.1) (State.isArrayOf_alike hZ.alike Ar1.2.1) (g := (mkF m 1 #[.val (.ref u1), .val (.ref u2), .unset] [(.ref u1)])) rfl rfl (hb hby d4_1) _ ?_
    rw [len_of S1 M1]
    exact kz
  refine own_go (A := s₁.setTop (mkF m 3 #[.val (.ref u1), .val (.ref u2), .unset] [(.ref u2), (.int (6 : Int32))])) (fun _ kz => ?_) ?_
  · show Steps p.tables e below (s₁.setTop (mkF m 2 #[.val (.ref u1), .val (.ref u2), .unset] [(.int (6 : Int32))])) _
    refine XS.aloadN X0.here hx rfl (hb hby d4_2) rfl rfl ?_
    exact kz
  obtain ⟨cl2, Ar2, -, S2, M2, -, -⟩ := id A2
  refine own_go (A := s₁.setTop (mkF m 4 #[.val (.ref u1), .val (.ref u2), .unset] [(.int (6 : Int32)), (.int (6 : Int32))])) (fun _ kz => ?_) ?_
  · refine X0.arraylength hx (by rw [e0]; exact Ar2.1) (State.isArrayOf_alike hZ.alike Ar2.2.1) (g := (mkF m 3 #[.val (.ref u1), .val (.ref u2), .unset] [(.ref u2), (.int (6 : Int32))])) rfl rfl (hb hby d4_3) _ ?_
    rw [len_of S2 M2]
    exact kz
  refine own_go (A := s₁.setTop (mkF m 11 #[.val (.ref u1), .val (.ref u2), .val (.int (0 : Int32))] [(.ref u1), (.int (0 : Int32))])) (fun _ kz => ?_) ?_
  · show Steps p.tables e below (s₁.setTop (mkF m 4 #[.val (.ref u1), .val (.ref u2), .unset] [(.int (6 : Int32)), (.int (6 : Int32))])) _
    refine XS.icmpNo X0.here hx rfl (hb hby d4_4) rfl (teq (by decide : ((6 : Int32) = (6 : Int32)))).2 ?_
    show Steps p.tables e below (s₁.setTop (mkF m 7 #[.val (.ref u1), .val (.ref u2), .unset] [])) _
    refine XS.iconst X0.here hx rfl (hb hby d4_7) ?_
    show Steps p.tables e below (s₁.setTop (mkF m 8 #[.val (.ref u1), .val (.ref u2), .unset] [(.int (0 : Int32))])) _
    refine XS.istoreN X0.here hx rfl (hb hby d4_8) rfl (l' := #[.val (.ref u1), .val (.ref u2), .val (.int (0 : Int32))]) rfl ?_
    show Steps p.tables e below (s₁.setTop (mkF m 9 #[.val (.ref u1), .val (.ref u2), .val (.int (0 : Int32))] [])) _
    refine XS.iloadN X0.here hx rfl (hb hby d4_9) rfl ?_
    show Steps p.tables e below (s₁.setTop (mkF m 10 #[.val (.ref u1), .val (.ref u2), .val (.int (0 : Int32))] [(.int (0 : Int32))])) _
    refine XS.aloadN X0.here hx rfl (hb hby d4_10) rfl rfl ?_
    exact kz
  obtain ⟨cl3, Ar3, -, S3, M3, -, -⟩ := id A1
  refine own_go (A := s₁.setTop (mkF m 12 #[.val (.ref u1), .val (.ref u2), .val (.int (0 : Int32))] [(.int (6 : Int32)), (.int (0 : Int32))])) (fun _ kz => ?_) ?_
  · refine X0.arraylength hx (by rw [e0]; exact Ar3.1) (State.isArrayOf_alike hZ.alike Ar3.2.1) (g := (mkF m 11 #[.val (.ref u1), .val (.ref u2), .val (.int (0 : Int32))] [(.ref u1), (.int (0 : Int32))])) rfl rfl (hb hby d4_11) _ ?_
    rw [len_of S3 M3]
    exact kz
  refine own_go (A := s₁.setTop (mkF m 17 #[.val (.ref u1), .val (.ref u2), .val (.int (0 : Int32))] [(.int (0 : Int32)), (.ref u1)])) (fun _ kz => ?_) ?_
  · show Steps p.tables e below (s₁.setTop (mkF m 12 #[.val (.ref u1), .val (.ref u2), .val (.int (0 : Int32))] [(.int (6 : Int32)), (.int (0 : Int32))])) _
    refine XS.icmpNo X0.here hx rfl (hb hby d4_12) rfl (tlt (by decide : ((0 : Int32) < (6 : Int32)))).2.1 ?_
    show Steps p.tables e below (s₁.setTop (mkF m 15 #[.val (.ref u1), .val (.ref u2), .val (.int (0 : Int32))] [])) _
    refine XS.aloadN X0.here hx rfl (hb hby d4_15) rfl rfl ?_
    show Steps p.tables e below (s₁.setTop (mkF m 16 #[.val (.ref u1), .val (.ref u2), .val (.int (0 : Int32))] [(.ref u1)])) _
    refine XS.iloadN X0.here hx rfl (hb hby d4_16) rfl ?_
    exact kz
  obtain ⟨cl4, Ar4, -, S4, M4, H4, -⟩ := id A1
  have hin4 : ¬ ((0 : Int32) < 0 ∨ cl4.slots.size ≤ ((0 : Int32)).toNatClampNeg) := inb_of S4 ⟨by decide, by decide⟩
  have hat4 : cl4.slots[((0 : Int32)).toNatClampNeg]? = some (.int (105 : Int32)) := H4.at hin4 rfl
  refine own_go (A := s₁.setTop (mkF m 18 #[.val (.ref u1), .val (.ref u2), .val (.int (0 : Int32))] [(.int (105 : Int32))])) (fun _ kz => ?_) ?_
  · refine X0.baloadBytes hx (j := (0 : Int32)) (v := (.int (105 : Int32))) (by rw [e0]; exact Ar4.1) (State.isArrayOf_alike hZ.alike Ar4.2.1) Ar4.2.2 hin4 hat4 (g := (mkF m 17 #[.val (.ref u1), .val (.ref u2), .val (.int (0 : Int32))] [(.int (0 : Int32)), (.ref u1)])) rfl rfl (hb hby d4_17) _ ?_
    exact kz
  refine own_go (A := s₁.setTop (mkF m 20 #[.val (.ref u1), .val (.ref u2), .val (.int (0 : Int32))] [(.int (0 : Int32)), (.ref u2), (.int (105 : Int32))])) (fun _ kz => ?_) ?_
  · show Steps p.tables e below (s₁.setTop (mkF m 18 #[.val (.ref u1), .val (.ref u2), .val (.int (0 : Int32))] [(.int (105 : Int32))])) _
    refine XS.aloadN X0.here hx rfl (hb hby d4_18) rfl rfl ?_
    show Steps p.tables e below (s₁.setTop (mkF m 19 #[.val (.ref u1), .val (.ref u2), .val (.int (0 : Int32))] [(.ref u2), (.int (105 : Int32))])) _
    refine XS.iloadN X0.here hx rfl (hb hby d4_19) rfl ?_
    exact kz
  obtain ⟨cl5, Ar5, -, S5, M5, H5, -⟩ := id A2
  have hin5 : ¬ ((0 : Int32) < 0 ∨ cl5.slots.size ≤ ((0 : Int32)).toNatClampNeg) := inb_of S5 ⟨by decide, by decide⟩
  have hat5 : cl5.slots[((0 : Int32)).toNatClampNeg]? = some (.int (105 : Int32)) := H5.at hin5 rfl
  refine own_go (A := s₁.setTop (mkF m 21 #[.val (.ref u1), .val (.ref u2), .val (.int (0 : Int32))] [(.int (105 : Int32)), (.int (105 : Int32))])) (fun _ kz => ?_) ?_
  · refine X0.baloadBytes hx (j := (0 : Int32)) (v := (.int (105 : Int32))) (by rw [e0]; exact Ar5.1) (State.isArrayOf_alike hZ.alike Ar5.2.1) Ar5.2.2 hin5 hat5 (g := (mkF m 20 #[.val (.ref u1), .val (.ref u2), .val (.int (0 : Int32))] [(.int (0 : Int32)), (.ref u2), (.int (105 : Int32))])) rfl rfl (hb hby d4_20) _ ?_
    exact kz
  refine own_go (A := s₁.setTop (mkF m 11 #[.val (.ref u1), .val (.ref u2), .val (.int (1 : Int32))] [(.ref u1), (.int (1 : Int32))])) (fun _ kz => ?_) ?_
  · show Steps p.tables e below (s₁.setTop (mkF m 21 #[.val (.ref u1), .val (.ref u2), .val (.int (0 : Int32))] [(.int (105 : Int32)), (.int (105 : Int32))])) _
    refine XS.icmpYes X0.here hx rfl (pc0 := 21) (pc' := 26) rfl (hb hby d4_21) rfl (teq (by decide : ((105 : Int32) = (105 : Int32)))).1 (by decide) (by decide) ?_
    show Steps p.tables e below (s₁.setTop (mkF m 26 #[.val (.ref u1), .val (.ref u2), .val (.int (0 : Int32))] [])) _
    refine XS.iinc X0.here hx rfl (hb hby d4_26) rfl (l' := #[.val (.ref u1), .val (.ref u2), .val (.int (1 : Int32))]) rfl ?_
    show Steps p.tables e below (s₁.setTop (mkF m 29 #[.val (.ref u1), .val (.ref u2), .val (.int (1 : Int32))] [])) _
    refine XS.goto X0.here hx rfl (pc0 := 29) (pc' := 9) rfl (hb hby d4_29) (by decide) (by decide) ?_
    show Steps p.tables e below (s₁.setTop (mkF m 9 #[.val (.ref u1), .val (.ref u2), .val (.int (1 : Int32))] [])) _
    refine XS.iloadN X0.here hx rfl (hb hby d4_9) rfl ?_
    show Steps p.tables e below (s₁.setTop (mkF m 10 #[.val (.ref u1), .val (.ref u2), .val (.int (1 : Int32))] [(.int (1 : Int32))])) _
    refine XS.aloadN X0.here hx rfl (hb hby d4_10) rfl rfl ?_
    exact kz
  obtain ⟨cl6, Ar6, -, S6, M6, -, -⟩ := id A1
  refine own_go (A := s₁.setTop (mkF m 12 #[.val (.ref u1), .val (.ref u2), .val (.int (1 : Int32))] [(.int (6 : Int32)), (.int (1 : Int32))])) (fun _ kz => ?_) ?_
  · refine X0.arraylength hx (by rw [e0]; exact Ar6.1) (State.isArrayOf_alike hZ.alike Ar6.2.1) (g := (mkF m 11 #[.val (.ref u1), .val (.ref u2), .val (.int (1 : Int32))] [(.ref u1), (.int (1 : Int32))])) rfl rfl (hb hby d4_11) _ ?_
    rw [len_of S6 M6]
    exact kz
  refine own_go (A := s₁.setTop (mkF m 17 #[.val (.ref u1), .val (.ref u2), .val (.int (1 : Int32))] [(.int (1 : Int32)), (.ref u1)])) (fun _ kz => ?_) ?_
  · show Steps p.tables e below (s₁.setTop (mkF m 12 #[.val (.ref u1), .val (.ref u2), .val (.int (1 : Int32))] [(.int (6 : Int32)), (.int (1 : Int32))])) _
    refine XS.icmpNo X0.here hx rfl (hb hby d4_12) rfl (tlt (by decide : ((1 : Int32) < (6 : Int32)))).2.1 ?_
    show Steps p.tables e below (s₁.setTop (mkF m 15 #[.val (.ref u1), .val (.ref u2), .val (.int (1 : Int32))] [])) _
    refine XS.aloadN X0.here hx rfl (hb hby d4_15) rfl rfl ?_
    show Steps p.tables e below (s₁.setTop (mkF m 16 #[.val (.ref u1), .val (.ref u2), .val (.int (1 : Int32))] [(.ref u1)])) _
    refine XS.iloadN X0.here hx rfl (hb hby d4_16) rfl ?_
    exact kz
  obtain ⟨cl7, Ar7, -, S7, M7, H7, -⟩ := id A1
  have hin7 : ¬ ((1 : Int32) < 0 ∨ cl7.slots.size ≤ ((1 : Int32)).toNatClampNeg) := inb_of S7 ⟨by decide, by decide⟩
  have hat7 : cl7.slots[((1 : Int32)).toNatClampNeg]? = some (.int (110 : Int32)) := H7.at hin7 rfl
  refine own_go (A := s₁.setTop (mkF m 18 #[.val (.ref u1), .val (.ref u2), .val (.int (1 : Int32))] [(.int (110 : Int32))])) (fun _ kz => ?_) ?_
  · refine X0.baloadBytes hx (j := (1 : Int32)) (v := (.int (110 : Int32))) (by rw [e0]; exact Ar7.1) (State.isArrayOf_alike hZ.alike Ar7.2.1) Ar7.2.2 hin7 hat7 (g := (mkF m 17 #[.val (.ref u1), .val (.ref u2), .val (.int (1 : Int32))] [(.int (1 : Int32)), (.ref u1)])) rfl rfl (hb hby d4_17) _ ?_
    exact kz
  refine own_go (A := s₁.setTop (mkF m 20 #[.val (.ref u1), .val (.ref u2), .val (.int (1 : Int32))] [(.int (1 : Int32)), (.ref u2), (.int (110 : Int32))])) (fun _ kz => ?_) ?_
  · show Steps p.tables e below (s₁.setTop (mkF m 18 #[.val (.ref u1), .val (.ref u2), .val (.int (1 : Int32))] [(.int (110 : Int32))])) _
    refine XS.aloadN X0.here hx rfl (hb hby d4_18) rfl rfl ?_
    show Steps p.tables e below (s₁.setTop (mkF m 19 #[.val (.ref u1), .val (.ref u2), .val (.int (1 : Int32))] [(.ref u2), (.int (110 : Int32))])) _
    refine XS.iloadN X0.here hx rfl (hb hby d4_19) rfl ?_
    exact kz
  obtain ⟨cl8, Ar8, -, S8, M8, H8, -⟩ := id A2
  have hin8 : ¬ ((1 : Int32) < 0 ∨ cl8.slots.size ≤ ((1 : Int32)).toNatClampNeg) := inb_of S8 ⟨by decide, by decide⟩
  have hat8 : cl8.slots[((1 : Int32)).toNatClampNeg]? = some (.int (110 : Int32)) := H8.at hin8 rfl
  refine own_go (A := s₁.setTop (mkF m 21 #[.val (.ref u1), .val (.ref u2), .val (.int (1 : Int32))] [(.int (110 : Int32)), (.int (110 : Int32))])) (fun _ kz => ?_) ?_
  · refine X0.baloadBytes hx (j := (1 : Int32)) (v := (.int (110 : Int32))) (by rw [e0]; exact Ar8.1) (State.isArrayOf_alike hZ.alike Ar8.2.1) Ar8.2.2 hin8 hat8 (g := (mkF m 20 #[.val (.ref u1), .val (.ref u2), .val (.int (1 : Int32))] [(.int (1 : Int32)), (.ref u2), (.int (110 : Int32))])) rfl rfl (hb hby d4_20) _ ?_
    exact kz
  refine own_go (A := s₁.setTop (mkF m 11 #[.val (.ref u1), .val (.ref u2), .val (.int (2 : Int32))] [(.ref u1), (.int (2 : Int32))])) (fun _ kz => ?_) ?_
  · show Steps p.tables e below (s₁.setTop (mkF m 21 #[.val (.ref u1), .val (.ref u2), .val (.int (1 : Int32))] [(.int (110 : Int32)), (.int (110 : Int32))])) _
    refine XS.icmpYes X0.here hx rfl (pc0 := 21) (pc' := 26) rfl (hb hby d4_21) rfl (teq (by decide : ((110 : Int32) = (110 : Int32)))).1 (by decide) (by decide) ?_
    show Steps p.tables e below (s₁.setTop (mkF m 26 #[.val (.ref u1), .val (.ref u2), .val (.int (1 : Int32))] [])) _
    refine XS.iinc X0.here hx rfl (hb hby d4_26) rfl (l' := #[.val (.ref u1), .val (.ref u2), .val (.int (2 : Int32))]) rfl ?_
    show Steps p.tables e below (s₁.setTop (mkF m 29 #[.val (.ref u1), .val (.ref u2), .val (.int (2 : Int32))] [])) _
    refine XS.goto X0.here hx rfl (pc0 := 29) (pc' := 9) rfl (hb hby d4_29) (by decide) (by decide) ?_
    show Steps p.tables e below (s₁.setTop (mkF m 9 #[.val (.ref u1), .val (.ref u2), .val (.int (2 : Int32))] [])) _
    refine XS.iloadN X0.here hx rfl (hb hby d4_9) rfl ?_
    show Steps p.tables e below (s₁.setTop (mkF m 10 #[.val (.ref u1), .val (.ref u2), .val (.int (2 : Int32))] [(.int (2 : Int32))])) _
    refine XS.aloadN X0.here hx rfl (hb hby d4_10) rfl rfl ?_
    exact kz
  obtain ⟨cl9, Ar9, -, S9, M9, -, -⟩ := id A1
  refine own_go (A := s₁.setTop (mkF m 12 #[.val (.ref u1), .val (.ref u2), .val (.int (2 : Int32))] [(.int (6 : Int32)), (.int (2 : Int32))])) (fun _ kz => ?_) ?_
  · refine X0.arraylength hx (by rw [e0]; exact Ar9.1) (State.isArrayOf_alike hZ.alike Ar9.2.1) (g := (mkF m 11 #[.val (.ref u1), .val (.ref u2), .val (.int (2 : Int32))] [(.ref u1), (.int (2 : Int32))])) rfl rfl (hb hby d4_11) _ ?_
    rw [len_of S9 M9]
    exact kz
  refine own_go (A := s₁.setTop (mkF m 17 #[.val (.ref u1), .val (.ref u2), .val (.int (2 : Int32))] [(.int (2 : Int32)), (.ref u1)])) (fun _ kz => ?_) ?_
  · show Steps p.tables e below (s₁.setTop (mkF m 12 #[.val (.ref u1), .val (.ref u2), .val (.int (2 : Int32))] [(.int (6 : Int32)), (.int (2 : Int32))])) _
    refine XS.icmpNo X0.here hx rfl (hb hby d4_12) rfl (tlt (by decide : ((2 : Int32) < (6 : Int32)))).2.1 ?_
    show Steps p.tables e below (s₁.setTop (mkF m 15 #[.val (.ref u1), .val (.ref u2), .val (.int (2 : Int32))] [])) _
    refine XS.aloadN X0.here hx rfl (hb hby d4_15) rfl rfl ?_
    show Steps p.tables e below (s₁.setTop (mkF m 16 #[.val (.ref u1), .val (.ref u2), .val (.int (2 : Int32))] [(.ref u1)])) _
    refine XS.iloadN X0.here hx rfl (hb hby d4_16) rfl ?_
    exact kz
  obtain ⟨cl10, Ar10, -, S10, M10, H10, -⟩ := id A1
  have hin10 : ¬ ((2 : Int32) < 0 ∨ cl10.slots.size ≤ ((2 : Int32)).toNatClampNeg) := inb_of S10 ⟨by decide, by decide⟩
  have hat10 : cl10.slots[((2 : Int32)).toNatClampNeg]? = some (.int (115 : Int32)) := H10.at hin10 rfl
  refine own_go (A := s₁.setTop (mkF m 18 #[.val (.ref u1), .val (.ref u2), .val (.int (2 : Int32))] [(.int (115 : Int32))])) (fun _ kz => ?_) ?_
  · refine X0.baloadBytes hx (j := (2 : Int32)) (v := (.int (115 : Int32))) (by rw [e0]; exact Ar10.1) (State.isArrayOf_alike hZ.alike Ar10.2.1) Ar10.2.2 hin10 hat10 (g := (mkF m 17 #[.val (.ref u1), .val (.ref u2), .val (.int (2 : Int32))] [(.int (2 : Int32)), (.ref u1)])) rfl rfl (hb hby d4_17) _ ?_
    exact kz
  refine own_go (A := s₁.setTop (mkF m 20 #[.val (.ref u1), .val (.ref u2), .val (.int (2 : Int32))] [(.int (2 : Int32)), (.ref u2), (.int (115 : Int32))])) (fun _ kz => ?_) ?_
  · show Steps p.tables e below (s₁.setTop (mkF m 18 #[.val (.ref u1), .val (.ref u2), .val (.int (2 : Int32))] [(.int (115 : Int32))])) _
    refine XS.aloadN X0.here hx rfl (hb hby d4_18) rfl rfl ?_
    show Steps p.tables e below (s₁.setTop (mkF m 19 #[.val (.ref u1), .val (.ref u2), .val (.int (2 : Int32))] [(.ref u2), (.int (115 : Int32))])) _
    refine XS.iloadN X0.here hx rfl (hb hby d4_19) rfl ?_
    exact kz
  obtain ⟨cl11, Ar11, -, S11, M11, H11, -⟩ := id A2
  have hin11 : ¬ ((2 : Int32) < 0 ∨ cl11.slots.size ≤ ((2 : Int32)).toNatClampNeg) := inb_of S11 ⟨by decide, by decide⟩
  have hat11 : cl11.slots[((2 : Int32)).toNatClampNeg]? = some (.int (115 : Int32)) := H11.at hin11 rfl
  refine own_go (A := s₁.setTop (mkF m 21 #[.val (.ref u1), .val (.ref u2), .val (.int (2 : Int32))] [(.int (115 : Int32)), (.int (115 : Int32))])) (fun _ kz => ?_) ?_
  · refine X0.baloadBytes hx (j := (2 : Int32)) (v := (.int (115 : Int32))) (by rw [e0]; exact Ar11.1) (State.isArrayOf_alike hZ.alike Ar11.2.1) Ar11.2.2 hin11 hat11 (g := (mkF m 20 #[.val (.ref u1), .val (.ref u2), .val (.int (2 : Int32))] [(.int (2 : Int32)), (.ref u2), (.int (115 : Int32))])) rfl rfl (hb hby d4_20) _ ?_
    exact kz
  refine own_go (A := s₁.setTop (mkF m 11 #[.val (.ref u1), .val (.ref u2), .val (.int (3 : Int32))] [(.ref u1), (.int (3 : Int32))])) (fun _ kz => ?_) ?_
  · show Steps p.tables e below (s₁.setTop (mkF m 21 #[.val (.ref u1), .val (.ref u2), .val (.int (2 : Int32))] [(.int (115 : Int32)), (.int (115 : Int32))])) _
    refine XS.icmpYes X0.here hx rfl (pc0 := 21) (pc' := 26) rfl (hb hby d4_21) rfl (teq (by decide : ((115 : Int32) = (115 : Int32)))).1 (by decide) (by decide) ?_
    show Steps p.tables e below (s₁.setTop (mkF m 26 #[.val (.ref u1), .val (.ref u2), .val (.int (2 : Int32))] [])) _
    refine XS.iinc X0.here hx rfl (hb hby d4_26) rfl (l' := #[.val (.ref u1), .val (.ref u2), .val (.int (3 : Int32))]) rfl ?_
    show Steps p.tables e below (s₁.setTop (mkF m 29 #[.val (.ref u1), .val (.ref u2), .val (.int (3 : Int32))] [])) _
    refine XS.goto X0.here hx rfl (pc0 := 29) (pc' := 9) rfl (hb hby d4_29) (by decide) (by decide) ?_
    show Steps p.tables e below (s₁.setTop (mkF m 9 #[.val (.ref u1), .val (.ref u2), .val (.int (3 : Int32))] [])) _
    refine XS.iloadN X0.here hx rfl (hb hby d4_9) rfl ?_
    show Steps p.tables e below (s₁.setTop (mkF m 10 #[.val (.ref u1), .val (.ref u2), .val (.int (3 : Int32))] [(.int (3 : Int32))])) _
    refine XS.aloadN X0.here hx rfl (hb hby d4_10) rfl rfl ?_
    exact kz
  obtain ⟨cl12, Ar12, -, S12, M12, -, -⟩ := id A1
  refine own_go (A := s₁.setTop (mkF m 12 #[.val (.ref u1), .val (.ref u2), .val (.int (3 : Int32))] [(.int (6 : Int32)), (.int (3 : Int32))])) (fun _ kz => ?_) ?_
  · refine X0.arraylength hx (by rw [e0]; exact Ar12.1) (State.isArrayOf_alike hZ.alike Ar12.2.1) (g := (mkF m 11 #[.val (.ref u1), .val (.ref u2), .val (.int (3 : Int32))] [(.ref u1), (.int (3 : Int32))])) rfl rfl (hb hby d4_11) _ ?_
    rw [len_of S12 M12]
    exact kz
  refine own_go (A := s₁.setTop (mkF m 17 #[.val (.ref u1), .val (.ref u2), .val (.int (3 : Int32))] [(.int (3 : Int32)), (.ref u1)])) (fun _ kz => ?_) ?_
  · show Steps p.tables e below (s₁.setTop (mkF m 12 #[.val (.ref u1), .val (.ref u2), .val (.int (3 : Int32))] [(.int (6 : Int32)), (.int (3 : Int32))])) _
    refine XS.icmpNo X0.here hx rfl (hb hby d4_12) rfl (tlt (by decide : ((3 : Int32) < (6 : Int32)))).2.1 ?_
    show Steps p.tables e below (s₁.setTop (mkF m 15 #[.val (.ref u1), .val (.ref u2), .val (.int (3 : Int32))] [])) _
    refine XS.aloadN X0.here hx rfl (hb hby d4_15) rfl rfl ?_
    show Steps p.tables e below (s₁.setTop (mkF m 16 #[.val (.ref u1), .val (.ref u2), .val (.int (3 : Int32))] [(.ref u1)])) _
    refine XS.iloadN X0.here hx rfl (hb hby d4_16) rfl ?_
    exact kz
  obtain ⟨cl13, Ar13, -, S13, M13, H13, -⟩ := id A1
  have hin13 : ¬ ((3 : Int32) < 0 ∨ cl13.slots.size ≤ ((3 : Int32)).toNatClampNeg) := inb_of S13 ⟨by decide, by decide⟩
  have hat13 : cl13.slots[((3 : Int32)).toNatClampNeg]? = some (.int (101 : Int32)) := H13.at hin13 rfl
  refine own_go (A := s₁.setTop (mkF m 18 #[.val (.ref u1), .val (.ref u2), .val (.int (3 : Int32))] [(.int (101 : Int32))])) (fun _ kz => ?_) ?_
  · refine X0.baloadBytes hx (j := (3 : Int32)) (v := (.int (101 : Int32))) (by rw [e0]; exact Ar13.1) (State.isArrayOf_alike hZ.alike Ar13.2.1) Ar13.2.2 hin13 hat13 (g := (mkF m 17 #[.val (.ref u1), .val (.ref u2), .val (.int (3 : Int32))] [(.int (3 : Int32)), (.ref u1)])) rfl rfl (hb hby d4_17) _ ?_
    exact kz
  refine own_go (A := s₁.setTop (mkF m 20 #[.val (.ref u1), .val (.ref u2), .val (.int (3 : Int32))] [(.int (3 : Int32)), (.ref u2), (.int (101 : Int32))])) (fun _ kz => ?_) ?_
  · show Steps p.tables e below (s₁.setTop (mkF m 18 #[.val (.ref u1), .val (.ref u2), .val (.int (3 : Int32))] [(.int (101 : Int32))])) _
    refine XS.aloadN X0.here hx rfl (hb hby d4_18) rfl rfl ?_
    show Steps p.tables e below (s₁.setTop (mkF m 19 #[.val (.ref u1), .val (.ref u2), .val (.int (3 : Int32))] [(.ref u2), (.int (101 : Int32))])) _
    refine XS.iloadN X0.here hx rfl (hb hby d4_19) rfl ?_
    exact kz
  obtain ⟨cl14, Ar14, -, S14, M14, H14, -⟩ := id A2
  have hin14 : ¬ ((3 : Int32) < 0 ∨ cl14.slots.size ≤ ((3 : Int32)).toNatClampNeg) := inb_of S14 ⟨by decide, by decide⟩
  have hat14 : cl14.slots[((3 : Int32)).toNatClampNeg]? = some (.int (101 : Int32)) := H14.at hin14 rfl
  refine own_go (A := s₁.setTop (mkF m 21 #[.val (.ref u1), .val (.ref u2), .val (.int (3 : Int32))] [(.int (101 : Int32)), (.int (101 : Int32))])) (fun _ kz => ?_) ?_
  · refine X0.baloadBytes hx (j := (3 : Int32)) (v := (.int (101 : Int32))) (by rw [e0]; exact Ar14.1) (State.isArrayOf_alike hZ.alike Ar14.2.1) Ar14.2.2 hin14 hat14 (g := (mkF m 20 #[.val (.ref u1), .val (.ref u2), .val (.int (3 : Int32))] [(.int (3 : Int32)), (.ref u2), (.int (101 : Int32))])) rfl rfl (hb hby d4_20) _ ?_
    exact kz
  refine own_go (A := s₁.setTop (mkF m 11 #[.val (.ref u1), .val (.ref u2), .val (.int (4 : Int32))] [(.ref u1), (.int (4 : Int32))])) (fun _ kz => ?_) ?_
  · show Steps p.tables e below (s₁.setTop (mkF m 21 #[.val (.ref u1), .val (.ref u2), .val (.int (3 : Int32))] [(.int (101 : Int32)), (.int (101 : Int32))])) _
    refine XS.icmpYes X0.here hx rfl (pc0 := 21) (pc' := 26) rfl (hb hby d4_21) rfl (teq (by decide : ((101 : Int32) = (101 : Int32)))).1 (by decide) (by decide) ?_
    show Steps p.tables e below (s₁.setTop (mkF m 26 #[.val (.ref u1), .val (.ref u2), .val (.int (3 : Int32))] [])) _
    refine XS.iinc X0.here hx rfl (hb hby d4_26) rfl (l' := #[.val (.ref u1), .val (.ref u2), .val (.int (4 : Int32))]) rfl ?_
    show Steps p.tables e below (s₁.setTop (mkF m 29 #[.val (.ref u1), .val (.ref u2), .val (.int (4 : Int32))] [])) _
    refine XS.goto X0.here hx rfl (pc0 := 29) (pc' := 9) rfl (hb hby d4_29) (by decide) (by decide) ?_
    show Steps p.tables e below (s₁.setTop (mkF m 9 #[.val (.ref u1), .val (.ref u2), .val (.int (4 : Int32))] [])) _
    refine XS.iloadN X0.here hx rfl (hb hby d4_9) rfl ?_
    show Steps p.tables e below (s₁.setTop (mkF m 10 #[.val (.ref u1), .val (.ref u2), .val (.int (4 : Int32))] [(.int (4 : Int32))])) _
    refine XS.aloadN X0.here hx rfl (hb hby d4_10) rfl rfl ?_
    exact kz
  obtain ⟨cl15, Ar15, -, S15, M15, -, -⟩ := id A1
  refine own_go (A := s₁.setTop (mkF m 12 #[.val (.ref u1), .val (.ref u2), .val (.int (4 : Int32))] [(.int (6 : Int32)), (.int (4 : Int32))])) (fun _ kz => ?_) ?_
  · refine X0.arraylength hx (by rw [e0]; exact Ar15.1) (State.isArrayOf_alike hZ.alike Ar15.2.1) (g := (mkF m 11 #[.val (.ref u1), .val (.ref u2), .val (.int (4 : Int32))] [(.ref u1), (.int (4 : Int32))])) rfl rfl (hb hby d4_11) _ ?_
    rw [len_of S15 M15]
    exact kz
  refine own_go (A := s₁.setTop (mkF m 17 #[.val (.ref u1), .val (.ref u2), .val (.int (4 : Int32))] [(.int (4 : Int32)), (.ref u1)])) (fun _ kz => ?_) ?_
  · show Steps p.tables e below (s₁.setTop (mkF m 12 #[.val (.ref u1), .val (.ref u2), .val (.int (4 : Int32))] [(.int (6 : Int32)), (.int (4 : Int32))])) _
    refine XS.icmpNo X0.here hx rfl (hb hby d4_12) rfl (tlt (by decide : ((4 : Int32) < (6 : Int32)))).2.1 ?_
    show Steps p.tables e below (s₁.setTop (mkF m 15 #[.val (.ref u1), .val (.ref u2), .val (.int (4 : Int32))] [])) _
    refine XS.aloadN X0.here hx rfl (hb hby d4_15) rfl rfl ?_
    show Steps p.tables e below (s₁.setTop (mkF m 16 #[.val (.ref u1), .val (.ref u2), .val (.int (4 : Int32))] [(.ref u1)])) _
    refine XS.iloadN X0.here hx rfl (hb hby d4_16) rfl ?_
    exact kz
  obtain ⟨cl16, Ar16, -, S16, M16, H16, -⟩ := id A1
  have hin16 : ¬ ((4 : Int32) < 0 ∨ cl16.slots.size ≤ ((4 : Int32)).toNatClampNeg) := inb_of S16 ⟨by decide, by decide⟩
  have hat16 : cl16.slots[((4 : Int32)).toNatClampNeg]? = some (.int (114 : Int32)) := H16.at hin16 rfl
  refine own_go (A := s₁.setTop (mkF m 18 #[.val (.ref u1), .val (.ref u2), .val (.int (4 : Int32))] [(.int (114 : Int32))])) (fun _ kz => ?_) ?_
  · refine X0.baloadBytes hx (j := (4 : Int32)) (v := (.int (114 : Int32))) (by rw [e0]; exact Ar16.1) (State.isArrayOf_alike hZ.alike Ar16.2.1) Ar16.2.2 hin16 hat16 (g := (mkF m 17 #[.val (.ref u1), .val (.ref u2), .val (.int (4 : Int32))] [(.int (4 : Int32)), (.ref u1)])) rfl rfl (hb hby d4_17) _ ?_
    exact kz
  refine own_go (A := s₁.setTop (mkF m 20 #[.val (.ref u1), .val (.ref u2), .val (.int (4 : Int32))] [(.int (4 : Int32)), (.ref u2), (.int (114 : Int32))])) (fun _ kz => ?_) ?_
  · show Steps p.tables e below (s₁.setTop (mkF m 18 #[.val (.ref u1), .val (.ref u2), .val (.int (4 : Int32))] [(.int (114 : Int32))])) _
    refine XS.aloadN X0.here hx rfl (hb hby d4_18) rfl rfl ?_
    show Steps p.tables e below (s₁.setTop (mkF m 19 #[.val (.ref u1), .val (.ref u2), .val (.int (4 : Int32))] [(.ref u2), (.int (114 : Int32))])) _
    refine XS.iloadN X0.here hx rfl (hb hby d4_19) rfl ?_
    exact kz
  obtain ⟨cl17, Ar17, -, S17, M17, H17, -⟩ := id A2
  have hin17 : ¬ ((4 : Int32) < 0 ∨ cl17.slots.size ≤ ((4 : Int32)).toNatClampNeg) := inb_of S17 ⟨by decide, by decide⟩
  have hat17 : cl17.slots[((4 : Int32)).toNatClampNeg]? = some (.int (114 : Int32)) := H17.at hin17 rfl
  refine own_go (A := s₁.setTop (mkF m 21 #[.val (.ref u1), .val (.ref u2), .val (.int (4 : Int32))] [(.int (114 : Int32)), (.int (114 : Int32))])) (fun _ kz => ?_) ?_
  · refine X0.baloadBytes hx (j := (4 : Int32)) (v := (.int (114 : Int32))) (by rw [e0]; exact Ar17.1) (State.isArrayOf_alike hZ.alike Ar17.2.1) Ar17.2.2 hin17 hat17 (g := (mkF m 20 #[.val (.ref u1), .val (.ref u2), .val (.int (4 : Int32))] [(.int (4 : Int32)), (.ref u2), (.int (114 : Int32))])) rfl rfl (hb hby d4_20) _ ?_
    exact kz
  refine own_go (A := s₁.setTop (mkF m 11 #[.val (.ref u1), .val (.ref u2), .val (.int (5 : Int32))] [(.ref u1), (.int (5 : Int32))])) (fun _ kz => ?_) ?_
  · show Steps p.tables e below (s₁.setTop (mkF m 21 #[.val (.ref u1), .val (.ref u2), .val (.int (4 : Int32))] [(.int (114 : Int32)), (.int (114 : Int32))])) _
    refine XS.icmpYes X0.here hx rfl (pc0 := 21) (pc' := 26) rfl (hb hby d4_21) rfl (teq (by decide : ((114 : Int32) = (114 : Int32)))).1 (by decide) (by decide) ?_
    show Steps p.tables e below (s₁.setTop (mkF m 26 #[.val (.ref u1), .val (.ref u2), .val (.int (4 : Int32))] [])) _
    refine XS.iinc X0.here hx rfl (hb hby d4_26) rfl (l' := #[.val (.ref u1), .val (.ref u2), .val (.int (5 : Int32))]) rfl ?_
    show Steps p.tables e below (s₁.setTop (mkF m 29 #[.val (.ref u1), .val (.ref u2), .val (.int (5 : Int32))] [])) _
    refine XS.goto X0.here hx rfl (pc0 := 29) (pc' := 9) rfl (hb hby d4_29) (by decide) (by decide) ?_
    show Steps p.tables e below (s₁.setTop (mkF m 9 #[.val (.ref u1), .val (.ref u2), .val (.int (5 : Int32))] [])) _
    refine XS.iloadN X0.here hx rfl (hb hby d4_9) rfl ?_
    show Steps p.tables e below (s₁.setTop (mkF m 10 #[.val (.ref u1), .val (.ref u2), .val (.int (5 : Int32))] [(.int (5 : Int32))])) _
    refine XS.aloadN X0.here hx rfl (hb hby d4_10) rfl rfl ?_
    exact kz
  obtain ⟨cl18, Ar18, -, S18, M18, -, -⟩ := id A1
  refine own_go (A := s₁.setTop (mkF m 12 #[.val (.ref u1), .val (.ref u2), .val (.int (5 : Int32))] [(.int (6 : Int32)), (.int (5 : Int32))])) (fun _ kz => ?_) ?_
  · refine X0.arraylength hx (by rw [e0]; exact Ar18.1) (State.isArrayOf_alike hZ.alike Ar18.2.1) (g := (mkF m 11 #[.val (.ref u1), .val (.ref u2), .val (.int (5 : Int32))] [(.ref u1), (.int (5 : Int32))])) rfl rfl (hb hby d4_11) _ ?_
    rw [len_of S18 M18]
    exact kz
  refine own_go (A := s₁.setTop (mkF m 17 #[.val (.ref u1), .val (.ref u2), .val (.int (5 : Int32))] [(.int (5 : Int32)), (.ref u1)])) (fun _ kz => ?_) ?_
  · show Steps p.tables e below (s₁.setTop (mkF m 12 #[.val (.ref u1), .val (.ref u2), .val (.int (5 : Int32))] [(.int (6 : Int32)), (.int (5 : Int32))])) _
    refine XS.icmpNo X0.here hx rfl (hb hby d4_12) rfl (tlt (by decide : ((5 : Int32) < (6 : Int32)))).2.1 ?_
    show Steps p.tables e below (s₁.setTop (mkF m 15 #[.val (.ref u1), .val (.ref u2), .val (.int (5 : Int32))] [])) _
    refine XS.aloadN X0.here hx rfl (hb hby d4_15) rfl rfl ?_
    show Steps p.tables e below (s₁.setTop (mkF m 16 #[.val (.ref u1), .val (.ref u2), .val (.int (5 : Int32))] [(.ref u1)])) _
    refine XS.iloadN X0.here hx rfl (hb hby d4_16) rfl ?_
    exact kz
  obtain ⟨cl19, Ar19, -, S19, M19, H19, -⟩ := id A1
  have hin19 : ¬ ((5 : Int32) < 0 ∨ cl19.slots.size ≤ ((5 : Int32)).toNatClampNeg) := inb_of S19 ⟨by decide, by decide⟩
  have hat19 : cl19.slots[((5 : Int32)).toNatClampNeg]? = some (.int (116 : Int32)) := H19.at hin19 rfl
  refine own_go (A := s₁.setTop (mkF m 18 #[.val (.ref u1), .val (.ref u2), .val (.int (5 : Int32))] [(.int (116 : Int32))])) (fun _ kz => ?_) ?_
  · refine X0.baloadBytes hx (j := (5 : Int32)) (v := (.int (116 : Int32))) (by rw [e0]; exact Ar19.1) (State.isArrayOf_alike hZ.alike Ar19.2.1) Ar19.2.2 hin19 hat19 (g := (mkF m 17 #[.val (.ref u1), .val (.ref u2), .val (.int (5 : Int32))] [(.int (5 : Int32)), (.ref u1)])) rfl rfl (hb hby d4_17) _ ?_
    exact kz
  refine own_go (A := s₁.setTop (mkF m 20 #[.val (.ref u1), .val (.ref u2), .val (.int (5 : Int32))] [(.int (5 : Int32)), (.ref u2), (.int (116 : Int32))])) (fun _ kz => ?_) ?_
  · show Steps p.tables e below (s₁.setTop (mkF m 18 #[.val (.ref u1), .val (.ref u2), .val (.int (5 : Int32))] [(.int (116 : Int32))])) _
    refine XS.aloadN X0.here hx rfl (hb hby d4_18) rfl rfl ?_
    show Steps p.tables e below (s₁.setTop (mkF m 19 #[.val (.ref u1), .val (.ref u2), .val (.int (5 : Int32))] [(.ref u2), (.int (116 : Int32))])) _
    refine XS.iloadN X0.here hx rfl (hb hby d4_19) rfl ?_
    exact kz
  obtain ⟨cl20, Ar20, -, S20, M20, H20, -⟩ := id A2
  have hin20 : ¬ ((5 : Int32) < 0 ∨ cl20.slots.size ≤ ((5 : Int32)).toNatClampNeg) := inb_of S20 ⟨by decide, by decide⟩
  have hat20 : cl20.slots[((5 : Int32)).toNatClampNeg]? = some (.int (116 : Int32)) := H20.at hin20 rfl
  refine own_go (A := s₁.setTop (mkF m 21 #[.val (.ref u1), .val (.ref u2), .val (.int (5 : Int32))] [(.int (116 : Int32)), (.int (116 : Int32))])) (fun _ kz => ?_) ?_
  · refine X0.baloadBytes hx (j := (5 : Int32)) (v := (.int (116 : Int32))) (by rw [e0]; exact Ar20.1) (State.isArrayOf_alike hZ.alike Ar20.2.1) Ar20.2.2 hin20 hat20 (g := (mkF m 20 #[.val (.ref u1), .val (.ref u2), .val (.int (5 : Int32))] [(.int (5 : Int32)), (.ref u2), (.int (116 : Int32))])) rfl rfl (hb hby d4_20) _ ?_
    exact kz
  refine own_go (A := s₁.setTop (mkF m 11 #[.val (.ref u1), .val (.ref u2), .val (.int (6 : Int32))] [(.ref u1), (.int (6 : Int32))])) (fun _ kz => ?_) ?_
  · show Steps p.tables e below (s₁.setTop (mkF m 21 #[.val (.ref u1), .val (.ref u2), .val (.int (5 : Int32))] [(.int (116 : Int32)), (.int (116 : Int32))])) _
    refine XS.icmpYes X0.here hx rfl (pc0 := 21) (pc' := 26) rfl (hb hby d4_21) rfl (teq (by decide : ((116 : Int32) = (116 : Int32)))).1 (by decide) (by decide) ?_
    show Steps p.tables e below (s₁.setTop (mkF m 26 #[.val (.ref u1), .val (.ref u2), .val (.int (5 : Int32))] [])) _
    refine XS.iinc X0.here hx rfl (hb hby d4_26) rfl (l' := #[.val (.ref u1), .val (.ref u2), .val (.int (6 : Int32))]) rfl ?_
    show Steps p.tables e below (s₁.setTop (mkF m 29 #[.val (.ref u1), .val (.ref u2), .val (.int (6 : Int32))] [])) _
    refine XS.goto X0.here hx rfl (pc0 := 29) (pc' := 9) rfl (hb hby d4_29) (by decide) (by decide) ?_
    show Steps p.tables e below (s₁.setTop (mkF m 9 #[.val (.ref u1), .val (.ref u2), .val (.int (6 : Int32))] [])) _
    refine XS.iloadN X0.here hx rfl (hb hby d4_9) rfl ?_
    show Steps p.tables e below (s₁.setTop (mkF m 10 #[.val (.ref u1), .val (.ref u2), .val (.int (6 : Int32))] [(.int (6 : Int32))])) _
    refine XS.aloadN X0.here hx rfl (hb hby d4_10) rfl rfl ?_
    exact kz
  obtain ⟨cl21, Ar21, -, S21, M21, -, -⟩ := id A1
  refine own_go (A := s₁.setTop (mkF m 12 #[.val (.ref u1), .val (.ref u2), .val (.int (6 : Int32))] [(.int (6 : Int32)), (.int (6 : Int32))])) (fun _ kz => ?_) ?_
  · refine X0.arraylength hx (by rw [e0]; exact Ar21.1) (State.isArrayOf_alike hZ.alike Ar21.2.1) (g := (mkF m 11 #[.val (.ref u1), .val (.ref u2), .val (.int (6 : Int32))] [(.ref u1), (.int (6 : Int32))])) rfl rfl (hb hby d4_11) _ ?_
    rw [len_of S21 M21]
    exact kz
  refine own_go (A := s₁.setTop (mkF m 33 #[.val (.ref u1), .val (.ref u2), .val (.int (6 : Int32))] [(.int (1 : Int32))])) (fun _ kz => ?_) ?_
  · show Steps p.tables e below (s₁.setTop (mkF m 12 #[.val (.ref u1), .val (.ref u2), .val (.int (6 : Int32))] [(.int (6 : Int32)), (.int (6 : Int32))])) _
    refine XS.icmpYes X0.here hx rfl (pc0 := 12) (pc' := 32) rfl (hb hby d4_12) rfl (flt (by decide : ¬ ((6 : Int32) < (6 : Int32)))).2.1 (by decide) (by decide) ?_
    show Steps p.tables e below (s₁.setTop (mkF m 32 #[.val (.ref u1), .val (.ref u2), .val (.int (6 : Int32))] [])) _
    refine XS.iconst X0.here hx rfl (hb hby d4_32) ?_
    exact kz
  obtain ⟨fs, hrr, hrun, hended, hW, hsame⟩ := X0.leave (v := some (.int (1 : Int32))) (fun h => by rw [Bd.returns] at h; cases h)
  refine ⟨_, _, ?_, hrun, hended, _, _, rfl, ?_, ⟨_, rfl⟩, hW, hsame.mono (by decide) (by decide)⟩
  · show Steps p.tables e below (s₁.setTop (mkF m 33 #[.val (.ref u1), .val (.ref u2), .val (.int (6 : Int32))] [(.int (1 : Int32))])) _
    exact retN X0 hx (t := .boolean) Bd.returns (by simp) (hb hby d4_33) hrr
  · show QrmLe2 Z  h0 n0 _ s₁.heap _
    rw [e0]
    exact ⟨rfl, N0, rfl⟩
theorem d3_5 : decode jdk_42_method_66_code 5 = .ok (.iconst 1, 1) := by decide +kernel
theorem d3_6 : decode jdk_42_method_66_code 6 = .ok (.ireturn, 1) := by decide +kernel
theorem d3_50 : decode jdk_42_method_66_code 50 = .ok (.iconst 1, 1) := by decide +kernel
theorem d3_51 : decode jdk_42_method_66_code 51 = .ok (.goto 4, 3) := by decide +kernel
def QrmSe2 (Z : State)  (h0 : Heap) (n0 : Nat) (v : Option Value) (h : Heap) (L : List Loc) : Prop := v = some (.int (1 : Int32)) ∧ Fr n0 L ∧ h = h0
set_option maxRecDepth 65536 in
set_option maxHeartbeats 40000000 in
theorem rmSe2 (l : Launch) (Z : State) (a0 : Array Value) (hw : ∀ d ∈ tables_1, d.before a0 Z = true) (ws : List Jvm.Cond) (x1 x2 u1 u2 : Addr) (k1 k2 : ClassId) (cs : Int32) (h0 : Heap) (n0 : Nat) (Z0 : n0 ≤ h0.size) (E1 : Exa Z h0 x1 "java/lang/String") (E2 : Exa Z h0 x2 "java/lang/String") (C1 : Fld Z h0 x1 "java/lang/String" "coder" "B" (.int (0 : Int32))) (C2 : Fld Z h0 x2 "java/lang/String" "coder" "B" (.int (0 : Int32))) (V1 : Fld Z h0 x1 "java/lang/String" "value" "[B" (.ref u1)) (V2 : Fld Z h0 x2 "java/lang/String" "value" "[B" (.ref u2)) (A1 : Arv Z h0 u1 k1 .byte (6 : Int32) [(.int (105 : Int32)), (.int (110 : Int32)), (.int (115 : Int32)), (.int (101 : Int32)), (.int (114 : Int32)), (.int (116 : Int32))] (.int (0 : Int32))) (A2 : Arv Z h0 u2 k2 .byte (6 : Int32) [(.int (105 : Int32)), (.int (110 : Int32)), (.int (115 : Int32)), (.int (101 : Int32)), (.int (114 : Int32)), (.int (116 : Int32))] (.int (0 : Int32))) (hcs : ¬ (cs = (0 : Int32))) (S_cs : Sta Z h0 "java/lang/String" "COMPACT_STRINGS" "Z" (.int cs)) :
    MetFree l (⟨"java/lang/String", "equals", "(Ljava/lang/Object;)Z"⟩ : MethodName) (head1 (Jvm.Cond.code (⟨"java/lang/String", "equals", "(Ljava/lang/Object;)Z"⟩ : MethodName) jdk_42_method_66_code 3 (some .boolean) :: ws) ({ frames := 1, cells := 0, slots := 0, locals := 14 } : Room)) (fun ar_ U_ => ar_ = #[(.ref x1), (.ref x2)] ∧ Z.Warmed39 U_.vm ∧ U_.heap = h0) (fun _ _ _ _ _ => True) (fun _ U_ ou_ V_ => ∃ v_ L_, ou_ = .returned v_ ∧ QrmSe2 Z  h0 n0 v_ V_.heap L_ ∧ FrameEnd U_ ou_ V_ L_ ({ frames := 1, cells := 0, slots := 0, locals := 14 } : Room).cells ({ frames := 1, cells := 0, slots := 0, locals := 14 } : Room).slots) := by
  refine MetFree.of_bodySF (plainFor_of_name own_pn3) hisR ?_
  intro p e s m args below meth c s₁ Bd hml0 hP hK
  obtain ⟨rfl, hZ, hh⟩ := hP
  have hx := Bd.exec
  have hby := Bd.bytes
  have hml : c.maxLocals = 3 := hml0
  have hown : s.vm.findClass "java/lang/String" = some m.cls := findClass_of_methodNamed Bd.named
  have hnm := (name_of_methodNamed Bd.named Bd.method).1
  have X0 : Stand p l e ({ frames := 1, cells := 0, slots := 0, locals := 14 } : Room) s m #[(.ref x1), (.ref x2)] below meth c s₁ [] 0 0 := Stand.of_body Bd
  have e0 : s₁.heap = h0 := by rw [← hh, Bd.state]; rfl
  have N0 := Fr.nil n0
  refine own_go (A := s₁.setTop (mkF m 0 #[.val (.ref x1), .val (.ref x2), .unset] [])) (fun t kz => castTop (own_ef3 m x1 x2) kz) ?_
  refine own_go (A := s₁.setTop (mkF m 2 #[.val (.ref x1), .val (.ref x2), .unset] [(.ref x2), (.ref x1)])) (fun _ kz => ?_) ?_
  · show Steps p.tables e below (s₁.setTop (mkF m 0 #[.val (.ref x1), .val (.ref x2), .unset] [])) _
    refine XS.aloadN X0.here hx rfl (hb hby d3_0) rfl rfl ?_
    show Steps p.tables e below (s₁.setTop (mkF m 1 #[.val (.ref x1), .val (.ref x2), .unset] [(.ref x1)])) _
    refine XS.aloadN X0.here hx rfl (hb hby d3_1) rfl rfl ?_
    exact kz
  by_cases hs1 : x1 = x2
  · skip
    refine own_go (A := s₁.setTop (mkF m 5 #[.val (.ref x1), .val (.ref x2), .unset] [])) (fun _ kz => ?_) ?_
    · refine Jvm.RoadKit.acmp (g := (mkF m 2 #[.val (.ref x1), .val (.ref x2), .unset] [(.ref x2), (.ref x1)])) X0 hx rfl rfl rfl (pc0 := 2) (pc' := 5) (same := true) rfl (hb hby d3_2) rfl (decide_eq_true (congrArg Value.ref hs1)) (by decide) (by decide) ?_
      exact kz
    refine own_go (A := s₁.setTop (mkF m 6 #[.val (.ref x1), .val (.ref x2), .unset] [(.int (1 : Int32))])) (fun _ kz => ?_) ?_
    · show Steps p.tables e below (s₁.setTop (mkF m 5 #[.val (.ref x1), .val (.ref x2), .unset] [])) _
      refine XS.iconst X0.here hx rfl (hb hby d3_5) ?_
      exact kz
    obtain ⟨fs, hrr, hrun, hended, hW, hsame⟩ := X0.leave (v := some (.int (1 : Int32))) (fun h => by rw [Bd.returns] at h; cases h)
    refine ⟨_, _, ?_, hrun, hended, _, _, rfl, ?_, ⟨_, rfl⟩, hW, hsame.mono (by decide) (by decide)⟩
    · show Steps p.tables e below (s₁.setTop (mkF m 6 #[.val (.ref x1), .val (.ref x2), .unset] [(.int (1 : Int32))])) _
      exact retN X0 hx (t := .boolean) Bd.returns (by simp) (hb hby d3_6) hrr
    · show QrmSe2 Z  h0 n0 _ s₁.heap _
      rw [e0]
      exact ⟨rfl, N0, rfl⟩
  · skip
    refine own_go (A := s₁.setTop (mkF m 7 #[.val (.ref x1), .val (.ref x2), .unset] [])) (fun _ kz => ?_) ?_
    · refine Jvm.RoadKit.acmp (g := (mkF m 2 #[.val (.ref x1), .val (.ref x2), .unset] [(.ref x2), (.ref x1)])) X0 hx rfl rfl rfl (pc0 := 2) (pc' := 7) (same := false) rfl (hb hby d3_2) rfl (decide_eq_false fun q => hs1 (Value.ref.inj q)) (by decide) (by decide) ?_
      exact kz
    refine own_go (A := s₁.setTop (mkF m 8 #[.val (.ref x1), .val (.ref x2), .unset] [(.ref x2)])) (fun _ kz => ?_) ?_
    · show Steps p.tables e below (s₁.setTop (mkF m 7 #[.val (.ref x1), .val (.ref x2), .unset] [])) _
      refine XS.aloadN X0.here hx rfl (hb hby d3_7) rfl rfl ?_
      exact kz
    obtain ⟨T2, X2, e2, st2⟩ := instY X0 hx hZ hown (hw _ (List.mem_of_getElem? (i := 32) rfl)) e0 (Ins.of_exa E2 (hw _ (List.mem_of_getElem? (i := 33) rfl))) (g := (mkF m 8 #[.val (.ref x1), .val (.ref x2), .unset] [(.ref x2)])) rfl rfl (hb hby d3_8)
    refine own_go (A := T2.setTop (mkF m 11 #[.val (.ref x1), .val (.ref x2), .unset] [(.int (1 : Int32))])) (fun _ kz => st2 _ kz) ?_
    refine own_go (A := T2.setTop (mkF m 15 #[.val (.ref x1), .val (.ref x2), .unset] [(.ref x2)])) (fun _ kz => ?_) ?_
    · show Steps p.tables e below (T2.setTop (mkF m 11 #[.val (.ref x1), .val (.ref x2), .unset] [(.int (1 : Int32))])) _
      refine XS.ifNo X2.here hx rfl (hb hby d3_11) rfl ((if0 _ _).trans (feq (by decide : ¬ ((1 : Int32) = (0 : Int32)))).1) ?_
      show Steps p.tables e below (T2.setTop (mkF m 14 #[.val (.ref x1), .val (.ref x2), .unset] [])) _
      refine XS.aloadN X2.here hx rfl (hb hby d3_14) rfl rfl ?_
      exact kz
    obtain ⟨T3, X3, e3, st3⟩ := castY X2 hx hZ hown (hw _ (List.mem_of_getElem? (i := 32) rfl)) e2 (Ins.of_exa E2 (hw _ (List.mem_of_getElem? (i := 33) rfl))) (g := (mkF m 15 #[.val (.ref x1), .val (.ref x2), .unset] [(.ref x2)])) rfl rfl (hb hby d3_15)
    refine own_go (A := T3.setTop (mkF m 18 #[.val (.ref x1), .val (.ref x2), .unset] [(.ref x2)])) (fun _ kz => st3 _ kz) ?_
    refine own_go (A := T3.setTop (mkF m 19 #[.val (.ref x1), .val (.ref x2), .val (.ref x2)] [])) (fun _ kz => ?_) ?_
    · show Steps p.tables e below (T3.setTop (mkF m 18 #[.val (.ref x1), .val (.ref x2), .unset] [(.ref x2)])) _
      refine XS.astoreN X3.here hx rfl (hb hby d3_18) rfl rfl (l' := #[.val (.ref x1), .val (.ref x2), .val (.ref x2)]) rfl ?_
      exact kz
    obtain ⟨T4, X4, e4, st4⟩ := getS2 X3 hx hZ hown (host := "") (Or.inl (hw _ (List.mem_of_getElem? (i := 34) rfl))) Via.refl e3 S_cs (g := (mkF m 19 #[.val (.ref x1), .val (.ref x2), .val (.ref x2)] [])) rfl (hb hby d3_19)
    refine own_go (A := T4.setTop (mkF m 22 #[.val (.ref x1), .val (.ref x2), .val (.ref x2)] [(.int cs)])) (fun _ kz => st4 _ kz) ?_
    refine own_go (A := T4.setTop (mkF m 26 #[.val (.ref x1), .val (.ref x2), .val (.ref x2)] [(.ref x1)])) (fun _ kz => ?_) ?_
    · show Steps p.tables e below (T4.setTop (mkF m 22 #[.val (.ref x1), .val (.ref x2), .val (.ref x2)] [(.int cs)])) _
      refine XS.ifNo X4.here hx rfl (hb hby d3_22) rfl ((if0 _ _).trans (feq hcs).1) ?_
      show Steps p.tables e below (T4.setTop (mkF m 25 #[.val (.ref x1), .val (.ref x2), .val (.ref x2)] [])) _
      refine XS.aloadN X4.here hx rfl (hb hby d3_25) rfl rfl ?_
      exact kz
    obtain ⟨T5, X5, e5, st5⟩ := getF X4 hx hZ hown (host := "") (Or.inl (hw _ (List.mem_of_getElem? (i := 35) rfl))) Via.refl e4 C1 (g := (mkF m 26 #[.val (.ref x1), .val (.ref x2), .val (.ref x2)] [(.ref x1)])) rfl rfl (hb hby d3_26)
    refine own_go (A := T5.setTop (mkF m 29 #[.val (.ref x1), .val (.ref x2), .val (.ref x2)] [(.int (0 : Int32))])) (fun _ kz => st5 _ kz) ?_
    refine own_go (A := T5.setTop (mkF m 30 #[.val (.ref x1), .val (.ref x2), .val (.ref x2)] [(.ref x2), (.int (0 : Int32))])) (fun _ kz => ?_) ?_
    · show Steps p.tables e below (T5.setTop (mkF m 29 #[.val (.ref x1), .val (.ref x2), .val (.ref x2)] [(.int (0 : Int32))])) _
      refine XS.aloadN X5.here hx rfl (hb hby d3_29) rfl rfl ?_
      exact kz
    obtain ⟨T6, X6, e6, st6⟩ := getF X5 hx hZ hown (host := "") (Or.inl (hw _ (List.mem_of_getElem? (i := 35) rfl))) Via.refl e5 C2 (g := (mkF m 30 #[.val (.ref x1), .val (.ref x2), .val (.ref x2)] [(.ref x2), (.int (0 : Int32))])) rfl rfl (hb hby d3_30)
    refine own_go (A := T6.setTop (mkF m 33 #[.val (.ref x1), .val (.ref x2), .val (.ref x2)] [(.int (0 : Int32)), (.int (0 : Int32))])) (fun _ kz => st6 _ kz) ?_
    refine own_go (A := T6.setTop (mkF m 37 #[.val (.ref x1), .val (.ref x2), .val (.ref x2)] [(.ref x1)])) (fun _ kz => ?_) ?_
    · show Steps p.tables e below (T6.setTop (mkF m 33 #[.val (.ref x1), .val (.ref x2), .val (.ref x2)] [(.int (0 : Int32)), (.int (0 : Int32))])) _
      refine XS.icmpNo X6.here hx rfl (hb hby d3_33) rfl (teq (by decide : ((0 : Int32) = (0 : Int32)))).2 ?_
      show Steps p.tables e below (T6.setTop (mkF m 36 #[.val (.ref x1), .val (.ref x2), .val (.ref x2)] [])) _
      refine XS.aloadN X6.here hx rfl (hb hby d3_36) rfl rfl ?_
      exact kz
    obtain ⟨T7, X7, e7, st7⟩ := getF X6 hx hZ hown (host := "") (Or.inl (hw _ (List.mem_of_getElem? (i := 36) rfl))) Via.refl e6 V1 (g := (mkF m 37 #[.val (.ref x1), .val (.ref x2), .val (.ref x2)] [(.ref x1)])) rfl rfl (hb hby d3_37)
    refine own_go (A := T7.setTop (mkF m 40 #[.val (.ref x1), .val (.ref x2), .val (.ref x2)] [(.ref u1)])) (fun _ kz => st7 _ kz) ?_
    refine own_go (A := T7.setTop (mkF m 41 #[.val (.ref x1), .val (.ref x2), .val (.ref x2)] [(.ref x2), (.ref u1)])) (fun _ kz => ?_) ?_
    · show Steps p.tables e below (T7.setTop (mkF m 40 #[.val (.ref x1), .val (.ref x2), .val (.ref x2)] [(.ref u1)])) _
      refine XS.aloadN X7.here hx rfl (hb hby d3_40) rfl rfl ?_
      exact kz
    obtain ⟨T8, X8, e8, st8⟩ := getF X7 hx hZ hown (host := "") (Or.inl (hw _ (List.mem_of_getElem? (i := 36) rfl))) Via.refl e7 V2 (g := (mkF m 41 #[.val (.ref x1), .val (.ref x2), .val (.ref x2)] [(.ref x2), (.ref u1)])) rfl rfl (hb hby d3_41)
    refine own_go (A := T8.setTop (mkF m 44 #[.val (.ref x1), .val (.ref x2), .val (.ref x2)] [(.ref u2), (.ref u1)])) (fun _ kz => st8 _ kz) ?_
    obtain ⟨_, _, ⟨T9, L9, k9, n9⟩, -, X9, ⟨Lc9, hQ9, l9, y9, z9⟩, st9⟩ := Jvm.LawKit.callS X8 hx (y := (⟨"java/lang/StringLatin1", "equals", "([B[B)Z"⟩ : MethodName)) hown (mvT hZ (hw _ (List.mem_of_getElem? (i := 37) rfl))) (mvT hZ (hw _ (List.mem_of_getElem? (i := 38) rfl))) (mvT hZ (hw _ (List.mem_of_getElem? (i := 39) rfl))) (mvT hZ (hw _ (List.mem_of_getElem? (i := 40) rfl))) (by decide) (backOf (W := 0) (rmLe2 l Z a0 hw [] u1 u2 k1 k2 h0 n0 Z0 A1 A2) hZ (hw _ (List.mem_of_getElem? (i := 40) rfl)) (hw _ (List.mem_of_getElem? (i := 39) rfl)) (by decide) (by decide)) (g := (mkF m 44 #[.val (.ref x1), .val (.ref x2), .val (.ref x2)] [(.ref u2), (.ref u1)])) rfl (by rw [hml]; rfl) (argsL := [(.ref u1), (.ref u2)]) (rest := []) (lenOf own_pd2 rfl) rfl (by show 2 * 0 + _ ≤ _; exact Nat.le_of_eq rfl) (hb hby d3_44) (fun _ _ => ⟨rfl, e8, (by decide : 0 + 0 ≤ _), (by decide : 0 + 0 ≤ _)⟩)
    dsimp only [Pt.U, Pt.locs, Pt.cells, Pt.slots] at X9 l9 y9 z9 st9 hQ9
    subst l9 y9 z9
    obtain ⟨rfl, N9q, e9⟩ := hQ9
    have N9 := Fr.app N0 N9q
    refine own_go (A := T9.setTop (mkF m 47 #[.val (.ref x1), .val (.ref x2), .val (.ref x2)] [(.int (1 : Int32))])) (fun _ kz => st9 _ kz) ?_
    refine own_go (A := T9.setTop (mkF m 55 #[.val (.ref x1), .val (.ref x2), .val (.ref x2)] [(.int (1 : Int32))])) (fun _ kz => ?_) ?_
    · show Steps p.tables e below (T9.setTop (mkF m 47 #[.val (.ref x1), .val (.ref x2), .val (.ref x2)] [(.int (1 : Int32))])) _
      refine XS.ifNo X9.here hx rfl (hb hby d3_47) rfl ((if0 _ _).trans (feq (by decide : ¬ ((1 : Int32) = (0 : Int32)))).1) ?_
      show Steps p.tables e below (T9.setTop (mkF m 50 #[.val (.ref x1), .val (.ref x2), .val (.ref x2)] [])) _
      refine XS.iconst X9.here hx rfl (hb hby d3_50) ?_
      show Steps p.tables e below (T9.setTop (mkF m 51 #[.val (.ref x1), .val (.ref x2), .val (.ref x2)] [(.int (1 : Int32))])) _
      refine XS.goto X9.here hx rfl (pc0 := 51) (pc' := 55) rfl (hb hby d3_51) (by decide) (by decide) ?_
      exact kz
    obtain ⟨fs, hrr, hrun, hended, hW, hsame⟩ := X9.leave (v := some (.int (1 : Int32))) (fun h => by rw [Bd.returns] at h; cases h)
    refine ⟨_, _, ?_, hrun, hended, _, _, rfl, ?_, ⟨_, rfl⟩, hW, hsame.mono (by decide) (by decide)⟩
    · show Steps p.tables e below (T9.setTop (mkF m 55 #[.val (.ref x1), .val (.ref x2), .val (.ref x2)] [(.int (1 : Int32))])) _
      exact retN X9 hx (t := .boolean) Bd.returns (by simp) (hb hby d3_55) hrr
    · show QrmSe2 Z  h0 n0 _ T9.heap _
      rw [e9]
      exact ⟨rfl, N9, rfl⟩
def QrmLe3 (Z : State)  (h0 : Heap) (n0 : Nat) (v : Option Value) (h : Heap) (L : List Loc) : Prop := v = some (.int (0 : Int32)) ∧ Fr n0 L ∧ h = h0
set_option maxRecDepth 65536 in
set_option maxHeartbeats 40000000 in
theorem rmLe3 (l : Launch) (Z : State) (a0 : Array Value) (hw : ∀ d ∈ tables_1, d.before a0 Z = true) (ws : List Jvm.Cond) (u1 u2 : Addr) (k1 k2 : ClassId) (h0 : Heap) (n0 : Nat) (Z0 : n0 ≤ h0.size) (A1 : Arv Z h0 u1 k1 .byte (6 : Int32) [(.int (117 : Int32)), (.int (112 : Int32)), (.int (100 : Int32)), (.int (97 : Int32)), (.int (116 : Int32)), (.int (101 : Int32))] (.int (0 : Int32))) (A2 : Arv Z h0 u2 k2 .byte (6 : Int32) [(.int (105 : Int32)), (.int (110 : Int32)), (.int (115 : Int32)), (.int (101 : Int32)), (.int (114 : Int32)), (.int (116 : Int32))] (.int (0 : Int32))) :
    MetFree l (⟨"java/lang/StringLatin1", "equals", "([B[B)Z"⟩ : MethodName) (head1 (Jvm.Cond.code (⟨"java/lang/StringLatin1", "equals", "([B[B)Z"⟩ : MethodName) jdk_43_method_13_code 3 (some .boolean) :: ws) ({ frames := 0, cells := 0, slots := 0, locals := 0 } : Room)) (fun ar_ U_ => ar_ = #[(.ref u1), (.ref u2)] ∧ Z.Warmed39 U_.vm ∧ U_.heap = h0) (fun _ _ _ _ _ => True) (fun _ U_ ou_ V_ => ∃ v_ L_, ou_ = .returned v_ ∧ QrmLe3 Z  h0 n0 v_ V_.heap L_ ∧ FrameEnd U_ ou_ V_ L_ ({ frames := 0, cells := 0, slots := 0, locals := 0 } : Room).cells ({ frames := 0, cells := 0, slots := 0, locals := 0 } : Room).slots) := by
  refine MetFree.of_bodySF (plainFor_of_name own_pn4) hisR ?_
  intro p e s m args below meth c s₁ Bd hml0 hP hK
  obtain ⟨rfl, hZ, hh⟩ := hP
  have hx := Bd.exec
  have hby := Bd.bytes
  have hml : c.maxLocals = 3 := hml0
  have hown : s.vm.findClass "java/lang/StringLatin1" = some m.cls := findClass_of_methodNamed Bd.named
  have hnm := (name_of_methodNamed Bd.named Bd.method).1
  have X0 : Stand p l e ({ frames := 0, cells := 0, slots := 0, locals := 0 } : Room) s m #[(.ref u1), (.ref u2)] below meth c s₁ [] 0 0 := Stand.of_body Bd
  have e0 : s₁.heap = h0 := by rw [← hh, Bd.state]; rfl
  have N0 := Fr.nil n0
  refine own_go (A := s₁.setTop (mkF m 0 #[.val (.ref u1), .val (.ref u2), .unset] [])) (fun t kz => castTop (own_ef4 m u1 u2) kz) ?_
  refine own_go (A := s₁.setTop (mkF m 1 #[.val (.ref u1), .val (.ref u2), .unset] [(.ref u1)])) (fun _ kz => ?_) ?_
  · show Steps p.tables e below (s₁.setTop (mkF m 0 #[.val (.ref u1), .val (.ref u2), .unset] [])) _
    refine XS.aloadN X0.here hx rfl (hb hby d4_0) rfl rfl ?_
    exact kz
  obtain ⟨cl1, Ar1, -, S1, M1, -, -⟩ := id A1
  refine own_go (A := s₁.setTop (mkF m 2 #[.val (.ref u1), .val (.ref u2), .unset] [(.int (6 : Int32))])) (fun _ kz => ?_) ?_
  · refine X0.arraylength hx (by rw [e0]; exact Ar1.1) (State.isArrayOf_alike hZ.alike Ar1.2.1) (g := (mkF m 1 #[.val (.ref u1), .val (.ref u2), .unset] [(.ref u1)])) rfl rfl (hb hby d4_1) _ ?_
    rw [len_of S1 M1]
    exact kz
  refine own_go (A := s₁.setTop (mkF m 3 #[.val (.ref u1), .val (.ref u2), .unset] [(.ref u2), (.int (6 : Int32))])) (fun _ kz => ?_) ?_
  · show Steps p.tables e below (s₁.setTop (mkF m 2 #[.val (.ref u1), .val (.ref u2), .unset] [(.int (6 : Int32))])) _
    refine XS.aloadN X0.here hx rfl (hb hby d4_2) rfl rfl ?_
    exact kz
  obtain ⟨cl2, Ar2, -, S2, M2, -, -⟩ := id A2
  refine own_go (A := s₁.setTop (mkF m 4 #[.val (.ref u1), .val (.ref u2), .unset] [(.int (6 : Int32)), (.int (6 : Int32))])) (fun _ kz => ?_) ?_
  · refine X0.arraylength hx (by rw [e0]; exact Ar2.1) (State.isArrayOf_alike hZ.alike Ar2.2.1) (g := (mkF m 3 #[.val (.ref u1), .val (.ref u2), .unset] [(.ref u2), (.int (6 : Int32))])) rfl rfl (hb hby d4_3) _ ?_
    rw [len_of S2 M2]
    exact kz
  refine own_go (A := s₁.setTop (mkF m 11 #[.val (.ref u1), .val (.ref u2), .val (.int (0 : Int32))] [(.ref u1), (.int (0 : Int32))])) (fun _ kz => ?_) ?_
  · show Steps p.tables e below (s₁.setTop (mkF m 4 #[.val (.ref u1), .val (.ref u2), .unset] [(.int (6 : Int32)), (.int (6 : Int32))])) _
    refine XS.icmpNo X0.here hx rfl (hb hby d4_4) rfl (teq (by decide : ((6 : Int32) = (6 : Int32)))).2 ?_
    show Steps p.tables e below (s₁.setTop (mkF m 7 #[.val (.ref u1), .val (.ref u2), .unset] [])) _
    refine XS.iconst X0.here hx rfl (hb hby d4_7) ?_
    show Steps p.tables e below (s₁.setTop (mkF m 8 #[.val (.ref u1), .val (.ref u2), .unset] [(.int (0 : Int32))])) _
    refine XS.istoreN X0.here hx rfl (hb hby d4_8) rfl (l' := #[.val (.ref u1), .val (.ref u2), .val (.int (0 : Int32))]) rfl ?_
    show Steps p.tables e below (s₁.setTop (mkF m 9 #[.val (.ref u1), .val (.ref u2), .val (.int (0 : Int32))] [])) _
    refine XS.iloadN X0.here hx rfl (hb hby d4_9) rfl ?_
    show Steps p.tables e below (s₁.setTop (mkF m 10 #[.val (.ref u1), .val (.ref u2), .val (.int (0 : Int32))] [(.int (0 : Int32))])) _
    refine XS.aloadN X0.here hx rfl (hb hby d4_10) rfl rfl ?_
    exact kz
  obtain ⟨cl3, Ar3, -, S3, M3, -, -⟩ := id A1
  refine own_go (A := s₁.setTop (mkF m 12 #[.val (.ref u1), .val (.ref u2), .val (.int (0 : Int32))] [(.int (6 : Int32)), (.int (0 : Int32))])) (fun _ kz => ?_) ?_
  · refine X0.arraylength hx (by rw [e0]; exact Ar3.1) (State.isArrayOf_alike hZ.alike Ar3.2.1) (g := (mkF m 11 #[.val (.ref u1), .val (.ref u2), .val (.int (0 : Int32))] [(.ref u1), (.int (0 : Int32))])) rfl rfl (hb hby d4_11) _ ?_
    rw [len_of S3 M3]
    exact kz
  refine own_go (A := s₁.setTop (mkF m 17 #[.val (.ref u1), .val (.ref u2), .val (.int (0 : Int32))] [(.int (0 : Int32)), (.ref u1)])) (fun _ kz => ?_) ?_
  · show Steps p.tables e below (s₁.setTop (mkF m 12 #[.val (.ref u1), .val (.ref u2), .val (.int (0 : Int32))] [(.int (6 : Int32)), (.int (0 : Int32))])) _
    refine XS.icmpNo X0.here hx rfl (hb hby d4_12) rfl (tlt (by decide : ((0 : Int32) < (6 : Int32)))).2.1 ?_
    show Steps p.tables e below (s₁.setTop (mkF m 15 #[.val (.ref u1), .val (.ref u2), .val (.int (0 : Int32))] [])) _
    refine XS.aloadN X0.here hx rfl (hb hby d4_15) rfl rfl ?_
    show Steps p.tables e below (s₁.setTop (mkF m 16 #[.val (.ref u1), .val (.ref u2), .val (.int (0 : Int32))] [(.ref u1)])) _
    refine XS.iloadN X0.here hx rfl (hb hby d4_16) rfl ?_
    exact kz
  obtain ⟨cl4, Ar4, -, S4, M4, H4, -⟩ := id A1
  have hin4 : ¬ ((0 : Int32) < 0 ∨ cl4.slots.size ≤ ((0 : Int32)).toNatClampNeg) := inb_of S4 ⟨by decide, by decide⟩
  have hat4 : cl4.slots[((0 : Int32)).toNatClampNeg]? = some (.int (117 : Int32)) := H4.at hin4 rfl
  refine own_go (A := s₁.setTop (mkF m 18 #[.val (.ref u1), .val (.ref u2), .val (.int (0 : Int32))] [(.int (117 : Int32))])) (fun _ kz => ?_) ?_
  · refine X0.baloadBytes hx (j := (0 : Int32)) (v := (.int (117 : Int32))) (by rw [e0]; exact Ar4.1) (State.isArrayOf_alike hZ.alike Ar4.2.1) Ar4.2.2 hin4 hat4 (g := (mkF m 17 #[.val (.ref u1), .val (.ref u2), .val (.int (0 : Int32))] [(.int (0 : Int32)), (.ref u1)])) rfl rfl (hb hby d4_17) _ ?_
    exact kz
  refine own_go (A := s₁.setTop (mkF m 20 #[.val (.ref u1), .val (.ref u2), .val (.int (0 : Int32))] [(.int (0 : Int32)), (.ref u2), (.int (117 : Int32))])) (fun _ kz => ?_) ?_
  · show Steps p.tables e below (s₁.setTop (mkF m 18 #[.val (.ref u1), .val (.ref u2), .val (.int (0 : Int32))] [(.int (117 : Int32))])) _
    refine XS.aloadN X0.here hx rfl (hb hby d4_18) rfl rfl ?_
    show Steps p.tables e below (s₁.setTop (mkF m 19 #[.val (.ref u1), .val (.ref u2), .val (.int (0 : Int32))] [(.ref u2), (.int (117 : Int32))])) _
    refine XS.iloadN X0.here hx rfl (hb hby d4_19) rfl ?_
    exact kz
  obtain ⟨cl5, Ar5, -, S5, M5, H5, -⟩ := id A2
  have hin5 : ¬ ((0 : Int32) < 0 ∨ cl5.slots.size ≤ ((0 : Int32)).toNatClampNeg) := inb_of S5 ⟨by decide, by decide⟩
  have hat5 : cl5.slots[((0 : Int32)).toNatClampNeg]? = some (.int (105 : Int32)) := H5.at hin5 rfl
  refine own_go (A := s₁.setTop (mkF m 21 #[.val (.ref u1), .val (.ref u2), .val (.int (0 : Int32))] [(.int (105 : Int32)), (.int (117 : Int32))])) (fun _ kz => ?_) ?_
  · refine X0.baloadBytes hx (j := (0 : Int32)) (v := (.int (105 : Int32))) (by rw [e0]; exact Ar5.1) (State.isArrayOf_alike hZ.alike Ar5.2.1) Ar5.2.2 hin5 hat5 (g := (mkF m 20 #[.val (.ref u1), .val (.ref u2), .val (.int (0 : Int32))] [(.int (0 : Int32)), (.ref u2), (.int (117 : Int32))])) rfl rfl (hb hby d4_20) _ ?_
    exact kz
  refine own_go (A := s₁.setTop (mkF m 25 #[.val (.ref u1), .val (.ref u2), .val (.int (0 : Int32))] [(.int (0 : Int32))])) (fun _ kz => ?_) ?_
  · show Steps p.tables e below (s₁.setTop (mkF m 21 #[.val (.ref u1), .val (.ref u2), .val (.int (0 : Int32))] [(.int (105 : Int32)), (.int (117 : Int32))])) _
    refine XS.icmpNo X0.here hx rfl (hb hby d4_21) rfl (feq (by decide : ¬ ((117 : Int32) = (105 : Int32)))).1 ?_
    show Steps p.tables e below (s₁.setTop (mkF m 24 #[.val (.ref u1), .val (.ref u2), .val (.int (0 : Int32))] [])) _
    refine XS.iconst X0.here hx rfl (hb hby d4_24) ?_
    exact kz
  obtain ⟨fs, hrr, hrun, hended, hW, hsame⟩ := X0.leave (v := some (.int (0 : Int32))) (fun h => by rw [Bd.returns] at h; cases h)
  refine ⟨_, _, ?_, hrun, hended, _, _, rfl, ?_, ⟨_, rfl⟩, hW, hsame.mono (by decide) (by decide)⟩
  · show Steps p.tables e below (s₁.setTop (mkF m 25 #[.val (.ref u1), .val (.ref u2), .val (.int (0 : Int32))] [(.int (0 : Int32))])) _
    exact retN X0 hx (t := .boolean) Bd.returns (by simp) (hb hby d4_25) hrr
  · show QrmLe3 Z  h0 n0 _ s₁.heap _
    rw [e0]
    exact ⟨rfl, N0, rfl⟩
def QrmSe3 (Z : State)  (h0 : Heap) (n0 : Nat) (v : Option Value) (h : Heap) (L : List Loc) : Prop := v = some (.int (0 : Int32)) ∧ Fr n0 L ∧ h = h0
set_option maxRecDepth 65536 in
set_option maxHeartbeats 40000000 in
theorem rmSe3 (l : Launch) (Z : State) (a0 : Array Value) (hw : ∀ d ∈ tables_1, d.before a0 Z = true) (ws : List Jvm.Cond) (x1 x2 u1 u2 : Addr) (k1 k2 : ClassId) (cs : Int32) (h0 : Heap) (n0 : Nat) (Z0 : n0 ≤ h0.size) (E1 : Exa Z h0 x1 "java/lang/String") (E2 : Exa Z h0 x2 "java/lang/String") (C1 : Fld Z h0 x1 "java/lang/String" "coder" "B" (.int (0 : Int32))) (C2 : Fld Z h0 x2 "java/lang/String" "coder" "B" (.int (0 : Int32))) (V1 : Fld Z h0 x1 "java/lang/String" "value" "[B" (.ref u1)) (V2 : Fld Z h0 x2 "java/lang/String" "value" "[B" (.ref u2)) (A1 : Arv Z h0 u1 k1 .byte (6 : Int32) [(.int (117 : Int32)), (.int (112 : Int32)), (.int (100 : Int32)), (.int (97 : Int32)), (.int (116 : Int32)), (.int (101 : Int32))] (.int (0 : Int32))) (A2 : Arv Z h0 u2 k2 .byte (6 : Int32) [(.int (105 : Int32)), (.int (110 : Int32)), (.int (115 : Int32)), (.int (101 : Int32)), (.int (114 : Int32)), (.int (116 : Int32))] (.int (0 : Int32))) (hcs : ¬ (cs = (0 : Int32))) (S_cs : Sta Z h0 "java/lang/String" "COMPACT_STRINGS" "Z" (.int cs)) :
    MetFree l (⟨"java/lang/String", "equals", "(Ljava/lang/Object;)Z"⟩ : MethodName) (head1 (Jvm.Cond.code (⟨"java/lang/String", "equals", "(Ljava/lang/Object;)Z"⟩ : MethodName) jdk_42_method_66_code 3 (some .boolean) :: ws) ({ frames := 1, cells := 0, slots := 0, locals := 14 } : Room)) (fun ar_ U_ => ar_ = #[(.ref x1), (.ref x2)] ∧ Z.Warmed39 U_.vm ∧ U_.heap = h0) (fun _ _ _ _ _ => True) (fun _ U_ ou_ V_ => ∃ v_ L_, ou_ = .returned v_ ∧ QrmSe3 Z  h0 n0 v_ V_.heap L_ ∧ FrameEnd U_ ou_ V_ L_ ({ frames := 1, cells := 0, slots := 0, locals := 14 } : Room).cells ({ frames := 1, cells := 0, slots := 0, locals := 14 } : Room).slots) := by
  refine MetFree.of_bodySF (plainFor_of_name own_pn3) hisR ?_
  intro p e s m args below meth c s₁ Bd hml0 hP hK
  obtain ⟨rfl, hZ, hh⟩ := hP
  have hx := Bd.exec
  have hby := Bd.bytes
  have hml : c.maxLocals = 3 := hml0
  have hown : s.vm.findClass "java/lang/String" = some m.cls := findClass_of_methodNamed Bd.named
  have hnm := (name_of_methodNamed Bd.named Bd.method).1
  have X0 : Stand p l e ({ frames := 1, cells := 0, slots := 0, locals := 14 } : Room) s m #[(.ref x1), (.ref x2)] below meth c s₁ [] 0 0 := Stand.of_body Bd
  have e0 : s₁.heap = h0 := by rw [← hh, Bd.state]; rfl
  have N0 := Fr.nil n0
  have ne_u : u1 ≠ u2 := arv_ne A1 A2 (Or.inr ⟨0, by decide, by decide⟩)
  have ne_x : x1 ≠ x2 := Fld.ne V1 V2 (fun q => ne_u (Value.ref.inj q))
  refine own_go (A := s₁.setTop (mkF m 0 #[.val (.ref x1), .val (.ref x2), .unset] [])) (fun t kz => castTop (own_ef3 m x1 x2) kz) ?_
  refine own_go (A := s₁.setTop (mkF m 8 #[.val (.ref x1), .val (.ref x2), .unset] [(.ref x2)])) (fun _ kz => ?_) ?_
  · show Steps p.tables e below (s₁.setTop (mkF m 0 #[.val (.ref x1), .val (.ref x2), .unset] [])) _
    refine XS.aloadN X0.here hx rfl (hb hby d3_0) rfl rfl ?_
    show Steps p.tables e below (s₁.setTop (mkF m 1 #[.val (.ref x1), .val (.ref x2), .unset] [(.ref x1)])) _
    refine XS.aloadN X0.here hx rfl (hb hby d3_1) rfl rfl ?_
    show Steps p.tables e below (s₁.setTop (mkF m 2 #[.val (.ref x1), .val (.ref x2), .unset] [(.ref x2), (.ref x1)])) _
    refine Jvm.RoadKit.acmp (g := (mkF m 2 #[.val (.ref x1), .val (.ref x2), .unset] [(.ref x2), (.ref x1)])) X0 hx rfl rfl rfl (pc0 := 2) (pc' := 7) (same := false) rfl (hb hby d3_2) rfl (decide_eq_false fun q => ne_x (Value.ref.inj q)) (by decide) (by decide) ?_
    show Steps p.tables e below (s₁.setTop (mkF m 7 #[.val (.ref x1), .val (.ref x2), .unset] [])) _
    refine XS.aloadN X0.here hx rfl (hb hby d3_7) rfl rfl ?_
    exact kz
  obtain ⟨T1, X1, e1, st1⟩ := instY X0 hx hZ hown (hw _ (List.mem_of_getElem? (i := 32) rfl)) e0 (Ins.of_exa E2 (hw _ (List.mem_of_getElem? (i := 33) rfl))) (g := (mkF m 8 #[.val (.ref x1), .val (.ref x2), .unset] [(.ref x2)])) rfl rfl (hb hby d3_8)
  refine own_go (A := T1.setTop (mkF m 11 #[.val (.ref x1), .val (.ref x2), .unset] [(.int (1 : Int32))])) (fun _ kz => st1 _ kz) ?_
  refine own_go (A := T1.setTop (mkF m 15 #[.val (.ref x1), .val (.ref x2), .unset] [(.ref x2)])) (fun _ kz => ?_) ?_
  · show Steps p.tables e below (T1.setTop (mkF m 11 #[.val (.ref x1), .val (.ref x2), .unset] [(.int (1 : Int32))])) _
    refine XS.ifNo X1.here hx rfl (hb hby d3_11) rfl ((if0 _ _).trans (feq (by decide : ¬ ((1 : Int32) = (0 : Int32)))).1) ?_
    show Steps p.tables e below (T1.setTop (mkF m 14 #[.val (.ref x1), .val (.ref x2), .unset] [])) _
    refine XS.aloadN X1.here hx rfl (hb hby d3_14) rfl rfl ?_
    exact kz
  obtain ⟨T2, X2, e2, st2⟩ := castY X1 hx hZ hown (hw _ (List.mem_of_getElem? (i := 32) rfl)) e1 (Ins.of_exa E2 (hw _ (List.mem_of_getElem? (i := 33) rfl))) (g := (mkF m 15 #[.val (.ref x1), .val (.ref x2), .unset] [(.ref x2)])) rfl rfl (hb hby d3_15)
  refine own_go (A := T2.setTop (mkF m 18 #[.val (.ref x1), .val (.ref x2), .unset] [(.ref x2)])) (fun _ kz => st2 _ kz) ?_
  refine own_go (A := T2.setTop (mkF m 19 #[.val (.ref x1), .val (.ref x2), .val (.ref x2)] [])) (fun _ kz => ?_) ?_
  · show Steps p.tables e below (T2.setTop (mkF m 18 #[.val (.ref x1), .val (.ref x2), .unset] [(.ref x2)])) _
    refine XS.astoreN X2.here hx rfl (hb hby d3_18) rfl rfl (l' := #[.val (.ref x1), .val (.ref x2), .val (.ref x2)]) rfl ?_
    exact kz
  obtain ⟨T3, X3, e3, st3⟩ := getS2 X2 hx hZ hown (host := "") (Or.inl (hw _ (List.mem_of_getElem? (i := 34) rfl))) Via.refl e2 S_cs (g := (mkF m 19 #[.val (.ref x1), .val (.ref x2), .val (.ref x2)] [])) rfl (hb hby d3_19)
  refine own_go (A := T3.setTop (mkF m 22 #[.val (.ref x1), .val (.ref x2), .val (.ref x2)] [(.int cs)])) (fun _ kz => st3 _ kz) ?_
  refine own_go (A := T3.setTop (mkF m 26 #[.val (.ref x1), .val (.ref x2), .val (.ref x2)] [(.ref x1)])) (fun _ kz => ?_) ?_
  · show Steps p.tables e below (T3.setTop (mkF m 22 #[.val (.ref x1), .val (.ref x2), .val (.ref x2)] [(.int cs)])) _
    refine XS.ifNo X3.here hx rfl (hb hby d3_22) rfl ((if0 _ _).trans (feq hcs).1) ?_
    show Steps p.tables e below (T3.setTop (mkF m 25 #[.val (.ref x1), .val (.ref x2), .val (.ref x2)] [])) _
    refine XS.aloadN X3.here hx rfl (hb hby d3_25) rfl rfl ?_
    exact kz
  obtain ⟨T4, X4, e4, st4⟩ := getF X3 hx hZ hown (host := "") (Or.inl (hw _ (List.mem_of_getElem? (i := 35) rfl))) Via.refl e3 C1 (g := (mkF m 26 #[.val (.ref x1), .val (.ref x2), .val (.ref x2)] [(.ref x1)])) rfl rfl (hb hby d3_26)
  refine own_go (A := T4.setTop (mkF m 29 #[.val (.ref x1), .val (.ref x2), .val (.ref x2)] [(.int (0 : Int32))])) (fun _ kz => st4 _ kz) ?_
  refine own_go (A := T4.setTop (mkF m 30 #[.val (.ref x1), .val (.ref x2), .val (.ref x2)] [(.ref x2), (.int (0 : Int32))])) (fun _ kz => ?_) ?_
  · show Steps p.tables e below (T4.setTop (mkF m 29 #[.val (.ref x1), .val (.ref x2), .val (.ref x2)] [(.int (0 : Int32))])) _
    refine XS.aloadN X4.here hx rfl (hb hby d3_29) rfl rfl ?_
    exact kz
  obtain ⟨T5, X5, e5, st5⟩ := getF X4 hx hZ hown (host := "") (Or.inl (hw _ (List.mem_of_getElem? (i := 35) rfl))) Via.refl e4 C2 (g := (mkF m 30 #[.val (.ref x1), .val (.ref x2), .val (.ref x2)] [(.ref x2), (.int (0 : Int32))])) rfl rfl (hb hby d3_30)
  refine own_go (A := T5.setTop (mkF m 33 #[.val (.ref x1), .val (.ref x2), .val (.ref x2)] [(.int (0 : Int32)), (.int (0 : Int32))])) (fun _ kz => st5 _ kz) ?_
  refine own_go (A := T5.setTop (mkF m 37 #[.val (.ref x1), .val (.ref x2), .val (.ref x2)] [(.ref x1)])) (fun _ kz => ?_) ?_
  · show Steps p.tables e below (T5.setTop (mkF m 33 #[.val (.ref x1), .val (.ref x2), .val (.ref x2)] [(.int (0 : Int32)), (.int (0 : Int32))])) _
    refine XS.icmpNo X5.here hx rfl (hb hby d3_33) rfl (teq (by decide : ((0 : Int32) = (0 : Int32)))).2 ?_
    show Steps p.tables e below (T5.setTop (mkF m 36 #[.val (.ref x1), .val (.ref x2), .val (.ref x2)] [])) _
    refine XS.aloadN X5.here hx rfl (hb hby d3_36) rfl rfl ?_
    exact kz
  obtain ⟨T6, X6, e6, st6⟩ := getF X5 hx hZ hown (host := "") (Or.inl (hw _ (List.mem_of_getElem? (i := 36) rfl))) Via.refl e5 V1 (g := (mkF m 37 #[.val (.ref x1), .val (.ref x2), .val (.ref x2)] [(.ref x1)])) rfl rfl (hb hby d3_37)
  refine own_go (A := T6.setTop (mkF m 40 #[.val (.ref x1), .val (.ref x2), .val (.ref x2)] [(.ref u1)])) (fun _ kz => st6 _ kz) ?_
  refine own_go (A := T6.setTop (mkF m 41 #[.val (.ref x1), .val (.ref x2), .val (.ref x2)] [(.ref x2), (.ref u1)])) (fun _ kz => ?_) ?_
  · show Steps p.tables e below (T6.setTop (mkF m 40 #[.val (.ref x1), .val (.ref x2), .val (.ref x2)] [(.ref u1)])) _
    refine XS.aloadN X6.here hx rfl (hb hby d3_40) rfl rfl ?_
    exact kz
  obtain ⟨T7, X7, e7, st7⟩ := getF X6 hx hZ hown (host := "") (Or.inl (hw _ (List.mem_of_getElem? (i := 36) rfl))) Via.refl e6 V2 (g := (mkF m 41 #[.val (.ref x1), .val (.ref x2), .val (.ref x2)] [(.ref x2), (.ref u1)])) rfl rfl (hb hby d3_41)
  refine own_go (A := T7.setTop (mkF m 44 #[.val (.ref x1), .val (.ref x2), .val (.ref x2)] [(.ref u2), (.ref u1)])) (fun _ kz => st7 _ kz) ?_
  obtain ⟨_, _, ⟨T8, L8, k8, n8⟩, -, X8, ⟨Lc8, hQ8, l8, y8, z8⟩, st8⟩ := Jvm.LawKit.callS X7 hx (y := (⟨"java/lang/StringLatin1", "equals", "([B[B)Z"⟩ : MethodName)) hown (mvT hZ (hw _ (List.mem_of_getElem? (i := 37) rfl))) (mvT hZ (hw _ (List.mem_of_getElem? (i := 38) rfl))) (mvT hZ (hw _ (List.mem_of_getElem? (i := 39) rfl))) (mvT hZ (hw _ (List.mem_of_getElem? (i := 40) rfl))) (by decide) (backOf (W := 0) (rmLe3 l Z a0 hw [] u1 u2 k1 k2 h0 n0 Z0 A1 A2) hZ (hw _ (List.mem_of_getElem? (i := 40) rfl)) (hw _ (List.mem_of_getElem? (i := 39) rfl)) (by decide) (by decide)) (g := (mkF m 44 #[.val (.ref x1), .val (.ref x2), .val (.ref x2)] [(.ref u2), (.ref u1)])) rfl (by rw [hml]; rfl) (argsL := [(.ref u1), (.ref u2)]) (rest := []) (lenOf own_pd2 rfl) rfl (by show 2 * 0 + _ ≤ _; exact Nat.le_of_eq rfl) (hb hby d3_44) (fun _ _ => ⟨rfl, e7, (by decide : 0 + 0 ≤ _), (by decide : 0 + 0 ≤ _)⟩)
  dsimp only [Pt.U, Pt.locs, Pt.cells, Pt.slots] at X8 l8 y8 z8 st8 hQ8
  subst l8 y8 z8
  obtain ⟨rfl, N8q, e8⟩ := hQ8
  have N8 := Fr.app N0 N8q
  refine own_go (A := T8.setTop (mkF m 47 #[.val (.ref x1), .val (.ref x2), .val (.ref x2)] [(.int (0 : Int32))])) (fun _ kz => st8 _ kz) ?_
  refine own_go (A := T8.setTop (mkF m 55 #[.val (.ref x1), .val (.ref x2), .val (.ref x2)] [(.int (0 : Int32))])) (fun _ kz => ?_) ?_
  · show Steps p.tables e below (T8.setTop (mkF m 47 #[.val (.ref x1), .val (.ref x2), .val (.ref x2)] [(.int (0 : Int32))])) _
    refine XS.ifYes X8.here hx rfl (pc0 := 47) (pc' := 54) rfl (hb hby d3_47) rfl ((if0 _ _).trans (teq (by decide : ((0 : Int32) = (0 : Int32)))).1) (by decide) (by decide) ?_
    show Steps p.tables e below (T8.setTop (mkF m 54 #[.val (.ref x1), .val (.ref x2), .val (.ref x2)] [])) _
    refine XS.iconst X8.here hx rfl (hb hby d3_54) ?_
    exact kz
  obtain ⟨fs, hrr, hrun, hended, hW, hsame⟩ := X8.leave (v := some (.int (0 : Int32))) (fun h => by rw [Bd.returns] at h; cases h)
  refine ⟨_, _, ?_, hrun, hended, _, _, rfl, ?_, ⟨_, rfl⟩, hW, hsame.mono (by decide) (by decide)⟩
  · show Steps p.tables e below (T8.setTop (mkF m 55 #[.val (.ref x1), .val (.ref x2), .val (.ref x2)] [(.int (0 : Int32))])) _
    exact retN X8 hx (t := .boolean) Bd.returns (by simp) (hb hby d3_55) hrr
  · show QrmSe3 Z  h0 n0 _ T8.heap _
    rw [e8]
    exact ⟨rfl, N8, rfl⟩
def QrmLe4 (Z : State)  (h0 : Heap) (n0 : Nat) (v : Option Value) (h : Heap) (L : List Loc) : Prop := v = some (.int (1 : Int32)) ∧ Fr n0 L ∧ h = h0
set_option maxRecDepth 65536 in
set_option maxHeartbeats 40000000 in
theorem rmLe4 (l : Launch) (Z : State) (a0 : Array Value) (hw : ∀ d ∈ tables_1, d.before a0 Z = true) (ws : List Jvm.Cond) (u1 u2 : Addr) (k1 k2 : ClassId) (h0 : Heap) (n0 : Nat) (Z0 : n0 ≤ h0.size) (A1 : Arv Z h0 u1 k1 .byte (6 : Int32) [(.int (117 : Int32)), (.int (112 : Int32)), (.int (100 : Int32)), (.int (97 : Int32)), (.int (116 : Int32)), (.int (101 : Int32))] (.int (0 : Int32))) (A2 : Arv Z h0 u2 k2 .byte (6 : Int32) [(.int (117 : Int32)), (.int (112 : Int32)), (.int (100 : Int32)), (.int (97 : Int32)), (.int (116 : Int32)), (.int (101 : Int32))] (.int (0 : Int32))) :
    MetFree l (⟨"java/lang/StringLatin1", "equals", "([B[B)Z"⟩ : MethodName) (head1 (Jvm.Cond.code (⟨"java/lang/StringLatin1", "equals", "([B[B)Z"⟩ : MethodName) jdk_43_method_13_code 3 (some .boolean) :: ws) ({ frames := 0, cells := 0, slots := 0, locals := 0 } : Room)) (fun ar_ U_ => ar_ = #[(.ref u1), (.ref u2)] ∧ Z.Warmed39 U_.vm ∧ U_.heap = h0) (fun _ _ _ _ _ => True) (fun _ U_ ou_ V_ => ∃ v_ L_, ou_ = .returned v_ ∧ QrmLe4 Z  h0 n0 v_ V_.heap L_ ∧ FrameEnd U_ ou_ V_ L_ ({ frames := 0, cells := 0, slots := 0, locals := 0 } : Room).cells ({ frames := 0, cells := 0, slots := 0, locals := 0 } : Room).slots) := by
  refine MetFree.of_bodySF (plainFor_of_name own_pn4) hisR ?_
  intro p e s m args below meth c s₁ Bd hml0 hP hK
  obtain ⟨rfl, hZ, hh⟩ := hP
  have hx := Bd.exec
  have hby := Bd.bytes
  have hml : c.maxLocals = 3 := hml0
  have hown : s.vm.findClass "java/lang/StringLatin1" = some m.cls := findClass_of_methodNamed Bd.named
  have hnm := (name_of_methodNamed Bd.named Bd.method).1
  have X0 : Stand p l e ({ frames := 0, cells := 0, slots := 0, locals := 0 } : Room) s m #[(.ref u1), (.ref u2)] below meth c s₁ [] 0 0 := Stand.of_body Bd
  have e0 : s₁.heap = h0 := by rw [← hh, Bd.state]; rfl
  have N0 := Fr.nil n0
  refine own_go (A := s₁.setTop (mkF m 0 #[.val (.ref u1), .val (.ref u2), .unset] [])) (fun t kz => castTop (own_ef4 m u1 u2) kz) ?_
  refine own_go (A := s₁.setTop (mkF m 1 #[.val (.ref u1), .val (.ref u2), .unset] [(.ref u1)])) (fun _ kz => ?_) ?_
  · show Steps p.tables e below (s₁.setTop (mkF m 0 #[.val (.ref u1), .val (.ref u2), .unset] [])) _
    refine XS.aloadN X0.here hx rfl (hb hby d4_0) rfl rfl ?_
    exact kz
  obtain ⟨cl1, Ar1, -, S1, M1, -, -⟩ := id A1
  refine own_go (A := s₁.setTop (mkF m 2 #[.val (.ref u1), .val (.ref u2), .unset] [(.int (6 : Int32))])) (fun _ kz => ?_) ?_
  · refine X0.arraylength hx (by rw [e0]; exact Ar1.1) (State.isArrayOf_alike hZ.alike Ar1.2.1) (g := (mkF m 1 #[.val (.ref u1), .val (.ref u2), .unset] [(.ref u1)])) rfl rfl (hb hby d4_1) _ ?_
    rw [len_of S1 M1]
    exact kz
  refine own_go (A := s₁.setTop (mkF m 3 #[.val (.ref u1), .val (.ref u2), .unset] [(.ref u2), (.int (6 : Int32))])) (fun _ kz => ?_) ?_
  · show Steps p.tables e below (s₁.setTop (mkF m 2 #[.val (.ref u1), .val (.ref u2), .unset] [(.int (6 : Int32))])) _
    refine XS.aloadN X0.here hx rfl (hb hby d4_2) rfl rfl ?_
    exact kz
  obtain ⟨cl2, Ar2, -, S2, M2, -, -⟩ := id A2
  refine own_go (A := s₁.setTop (mkF m 4 #[.val (.ref u1), .val (.ref u2), .unset] [(.int (6 : Int32)), (.int (6 : Int32))])) (fun _ kz => ?_) ?_
  · refine X0.arraylength hx (by rw [e0]; exact Ar2.1) (State.isArrayOf_alike hZ.alike Ar2.2.1) (g := (mkF m 3 #[.val (.ref u1), .val (.ref u2), .unset] [(.ref u2), (.int (6 : Int32))])) rfl rfl (hb hby d4_3) _ ?_
    rw [len_of S2 M2]
    exact kz
  refine own_go (A := s₁.setTop (mkF m 11 #[.val (.ref u1), .val (.ref u2), .val (.int (0 : Int32))] [(.ref u1), (.int (0 : Int32))])) (fun _ kz => ?_) ?_
  · show Steps p.tables e below (s₁.setTop (mkF m 4 #[.val (.ref u1), .val (.ref u2), .unset] [(.int (6 : Int32)), (.int (6 : Int32))])) _
    refine XS.icmpNo X0.here hx rfl (hb hby d4_4) rfl (teq (by decide : ((6 : Int32) = (6 : Int32)))).2 ?_
    show Steps p.tables e below (s₁.setTop (mkF m 7 #[.val (.ref u1), .val (.ref u2), .unset] [])) _
    refine XS.iconst X0.here hx rfl (hb hby d4_7) ?_
    show Steps p.tables e below (s₁.setTop (mkF m 8 #[.val (.ref u1), .val (.ref u2), .unset] [(.int (0 : Int32))])) _
    refine XS.istoreN X0.here hx rfl (hb hby d4_8) rfl (l' := #[.val (.ref u1), .val (.ref u2), .val (.int (0 : Int32))]) rfl ?_
    show Steps p.tables e below (s₁.setTop (mkF m 9 #[.val (.ref u1), .val (.ref u2), .val (.int (0 : Int32))] [])) _
    refine XS.iloadN X0.here hx rfl (hb hby d4_9) rfl ?_
    show Steps p.tables e below (s₁.setTop (mkF m 10 #[.val (.ref u1), .val (.ref u2), .val (.int (0 : Int32))] [(.int (0 : Int32))])) _
    refine XS.aloadN X0.here hx rfl (hb hby d4_10) rfl rfl ?_
    exact kz
  obtain ⟨cl3, Ar3, -, S3, M3, -, -⟩ := id A1
  refine own_go (A := s₁.setTop (mkF m 12 #[.val (.ref u1), .val (.ref u2), .val (.int (0 : Int32))] [(.int (6 : Int32)), (.int (0 : Int32))])) (fun _ kz => ?_) ?_
  · refine X0.arraylength hx (by rw [e0]; exact Ar3.1) (State.isArrayOf_alike hZ.alike Ar3.2.1) (g := (mkF m 11 #[.val (.ref u1), .val (.ref u2), .val (.int (0 : Int32))] [(.ref u1), (.int (0 : Int32))])) rfl rfl (hb hby d4_11) _ ?_
    rw [len_of S3 M3]
    exact kz
  refine own_go (A := s₁.setTop (mkF m 17 #[.val (.ref u1), .val (.ref u2), .val (.int (0 : Int32))] [(.int (0 : Int32)), (.ref u1)])) (fun _ kz => ?_) ?_
  · show Steps p.tables e below (s₁.setTop (mkF m 12 #[.val (.ref u1), .val (.ref u2), .val (.int (0 : Int32))] [(.int (6 : Int32)), (.int (0 : Int32))])) _
    refine XS.icmpNo X0.here hx rfl (hb hby d4_12) rfl (tlt (by decide : ((0 : Int32) < (6 : Int32)))).2.1 ?_
    show Steps p.tables e below (s₁.setTop (mkF m 15 #[.val (.ref u1), .val (.ref u2), .val (.int (0 : Int32))] [])) _
    refine XS.aloadN X0.here hx rfl (hb hby d4_15) rfl rfl ?_
    show Steps p.tables e below (s₁.setTop (mkF m 16 #[.val (.ref u1), .val (.ref u2), .val (.int (0 : Int32))] [(.ref u1)])) _
    refine XS.iloadN X0.here hx rfl (hb hby d4_16) rfl ?_
    exact kz
  obtain ⟨cl4, Ar4, -, S4, M4, H4, -⟩ := id A1
  have hin4 : ¬ ((0 : Int32) < 0 ∨ cl4.slots.size ≤ ((0 : Int32)).toNatClampNeg) := inb_of S4 ⟨by decide, by decide⟩
  have hat4 : cl4.slots[((0 : Int32)).toNatClampNeg]? = some (.int (117 : Int32)) := H4.at hin4 rfl
  refine own_go (A := s₁.setTop (mkF m 18 #[.val (.ref u1), .val (.ref u2), .val (.int (0 : Int32))] [(.int (117 : Int32))])) (fun _ kz => ?_) ?_
  · refine X0.baloadBytes hx (j := (0 : Int32)) (v := (.int (117 : Int32))) (by rw [e0]; exact Ar4.1) (State.isArrayOf_alike hZ.alike Ar4.2.1) Ar4.2.2 hin4 hat4 (g := (mkF m 17 #[.val (.ref u1), .val (.ref u2), .val (.int (0 : Int32))] [(.int (0 : Int32)), (.ref u1)])) rfl rfl (hb hby d4_17) _ ?_
    exact kz
  refine own_go (A := s₁.setTop (mkF m 20 #[.val (.ref u1), .val (.ref u2), .val (.int (0 : Int32))] [(.int (0 : Int32)), (.ref u2), (.int (117 : Int32))])) (fun _ kz => ?_) ?_
  · show Steps p.tables e below (s₁.setTop (mkF m 18 #[.val (.ref u1), .val (.ref u2), .val (.int (0 : Int32))] [(.int (117 : Int32))])) _
    refine XS.aloadN X0.here hx rfl (hb hby d4_18) rfl rfl ?_
    show Steps p.tables e below (s₁.setTop (mkF m 19 #[.val (.ref u1), .val (.ref u2), .val (.int (0 : Int32))] [(.ref u2), (.int (117 : Int32))])) _
    refine XS.iloadN X0.here hx rfl (hb hby d4_19) rfl ?_
    exact kz
  obtain ⟨cl5, Ar5, -, S5, M5, H5, -⟩ := id A2
  have hin5 : ¬ ((0 : Int32) < 0 ∨ cl5.slots.size ≤ ((0 : Int32)).toNatClampNeg) := inb_of S5 ⟨by decide, by decide⟩
  have hat5 : cl5.slots[((0 : Int32)).toNatClampNeg]? = some (.int (117 : Int32)) := H5.at hin5 rfl
  refine own_go (A := s₁.setTop (mkF m 21 #[.val (.ref u1), .val (.ref u2), .val (.int (0 : Int32))] [(.int (117 : Int32)), (.int (117 : Int32))])) (fun _ kz => ?_) ?_
  · refine X0.baloadBytes hx (j := (0 : Int32)) (v := (.int (117 : Int32))) (by rw [e0]; exact Ar5.1) (State.isArrayOf_alike hZ.alike Ar5.2.1) Ar5.2.2 hin5 hat5 (g := (mkF m 20 #[.val (.ref u1), .val (.ref u2), .val (.int (0 : Int32))] [(.int (0 : Int32)), (.ref u2), (.int (117 : Int32))])) rfl rfl (hb hby d4_20) _ ?_
    exact kz
  refine own_go (A := s₁.setTop (mkF m 11 #[.val (.ref u1), .val (.ref u2), .val (.int (1 : Int32))] [(.ref u1), (.int (1 : Int32))])) (fun _ kz => ?_) ?_
  · show Steps p.tables e below (s₁.setTop (mkF m 21 #[.val (.ref u1), .val (.ref u2), .val (.int (0 : Int32))] [(.int (117 : Int32)), (.int (117 : Int32))])) _
    refine XS.icmpYes X0.here hx rfl (pc0 := 21) (pc' := 26) rfl (hb hby d4_21) rfl (teq (by decide : ((117 : Int32) = (117 : Int32)))).1 (by decide) (by decide) ?_
    show Steps p.tables e below (s₁.setTop (mkF m 26 #[.val (.ref u1), .val (.ref u2), .val (.int (0 : Int32))] [])) _
    refine XS.iinc X0.here hx rfl (hb hby d4_26) rfl (l' := #[.val (.ref u1), .val (.ref u2), .val (.int (1 : Int32))]) rfl ?_
    show Steps p.tables e below (s₁.setTop (mkF m 29 #[.val (.ref u1), .val (.ref u2), .val (.int (1 : Int32))] [])) _
    refine XS.goto X0.here hx rfl (pc0 := 29) (pc' := 9) rfl (hb hby d4_29) (by decide) (by decide) ?_
    show Steps p.tables e below (s₁.setTop (mkF m 9 #[.val (.ref u1), .val (.ref u2), .val (.int (1 : Int32))] [])) _
    refine XS.iloadN X0.here hx rfl (hb hby d4_9) rfl ?_
    show Steps p.tables e below (s₁.setTop (mkF m 10 #[.val (.ref u1), .val (.ref u2), .val (.int (1 : Int32))] [(.int (1 : Int32))])) _
    refine XS.aloadN X0.here hx rfl (hb hby d4_10) rfl rfl ?_
    exact kz
  obtain ⟨cl6, Ar6, -, S6, M6, -, -⟩ := id A1
  refine own_go (A := s₁.setTop (mkF m 12 #[.val (.ref u1), .val (.ref u2), .val (.int (1 : Int32))] [(.int (6 : Int32)), (.int (1 : Int32))])) (fun _ kz => ?_) ?_
  · refine X0.arraylength hx (by rw [e0]; exact Ar6.1) (State.isArrayOf_alike hZ.alike Ar6.2.1) (g := (mkF m 11 #[.val (.ref u1), .val (.ref u2), .val (.int (1 : Int32))] [(.ref u1), (.int (1 : Int32))])) rfl rfl (hb hby d4_11) _ ?_
    rw [len_of S6 M6]
    exact kz
  refine own_go (A := s₁.setTop (mkF m 17 #[.val (.ref u1), .val (.ref u2), .val (.int (1 : Int32))] [(.int (1 : Int32)), (.ref u1)])) (fun _ kz => ?_) ?_
  · show Steps p.tables e below (s₁.setTop (mkF m 12 #[.val (.ref u1), .val (.ref u2), .val (.int (1 : Int32))] [(.int (6 : Int32)), (.int (1 : Int32))])) _
    refine XS.icmpNo X0.here hx rfl (hb hby d4_12) rfl (tlt (by decide : ((1 : Int32) < (6 : Int32)))).2.1 ?_
    show Steps p.tables e below (s₁.setTop (mkF m 15 #[.val (.ref u1), .val (.ref u2), .val (.int (1 : Int32))] [])) _
    refine XS.aloadN X0.here hx rfl (hb hby d4_15) rfl rfl ?_
    show Steps p.tables e below (s₁.setTop (mkF m 16 #[.val (.ref u1), .val (.ref u2), .val (.int (1 : Int32))] [(.ref u1)])) _
    refine XS.iloadN X0.here hx rfl (hb hby d4_16) rfl ?_
    exact kz
  obtain ⟨cl7, Ar7, -, S7, M7, H7, -⟩ := id A1
  have hin7 : ¬ ((1 : Int32) < 0 ∨ cl7.slots.size ≤ ((1 : Int32)).toNatClampNeg) := inb_of S7 ⟨by decide, by decide⟩
  have hat7 : cl7.slots[((1 : Int32)).toNatClampNeg]? = some (.int (112 : Int32)) := H7.at hin7 rfl
  refine own_go (A := s₁.setTop (mkF m 18 #[.val (.ref u1), .val (.ref u2), .val (.int (1 : Int32))] [(.int (112 : Int32))])) (fun _ kz => ?_) ?_
  · refine X0.baloadBytes hx (j := (1 : Int32)) (v := (.int (112 : Int32))) (by rw [e0]; exact Ar7.1) (State.isArrayOf_alike hZ.alike Ar7.2.1) Ar7.2.2 hin7 hat7 (g := (mkF m 17 #[.val (.ref u1), .val (.ref u2), .val (.int (1 : Int32))] [(.int (1 : Int32)), (.ref u1)])) rfl rfl (hb hby d4_17) _ ?_
    exact kz
  refine own_go (A := s₁.setTop (mkF m 20 #[.val (.ref u1), .val (.ref u2), .val (.int (1 : Int32))] [(.int (1 : Int32)), (.ref u2), (.int (112 : Int32))])) (fun _ kz => ?_) ?_
  · show Steps p.tables e below (s₁.setTop (mkF m 18 #[.val (.ref u1), .val (.ref u2), .val (.int (1 : Int32))] [(.int (112 : Int32))])) _
    refine XS.aloadN X0.here hx rfl (hb hby d4_18) rfl rfl ?_
    show Steps p.tables e below (s₁.setTop (mkF m 19 #[.val (.ref u1), .val (.ref u2), .val (.int (1 : Int32))] [(.ref u2), (.int (112 : Int32))])) _
    refine XS.iloadN X0.here hx rfl (hb hby d4_19) rfl ?_
    exact kz
  obtain ⟨cl8, Ar8, -, S8, M8, H8, -⟩ := id A2
  have hin8 : ¬ ((1 : Int32) < 0 ∨ cl8.slots.size ≤ ((1 : Int32)).toNatClampNeg) := inb_of S8 ⟨by decide, by decide⟩
  have hat8 : cl8.slots[((1 : Int32)).toNatClampNeg]? = some (.int (112 : Int32)) := H8.at hin8 rfl
  refine own_go (A := s₁.setTop (mkF m 21 #[.val (.ref u1), .val (.ref u2), .val (.int (1 : Int32))] [(.int (112 : Int32)), (.int (112 : Int32))])) (fun _ kz => ?_) ?_
  · refine X0.baloadBytes hx (j := (1 : Int32)) (v := (.int (112 : Int32))) (by rw [e0]; exact Ar8.1) (State.isArrayOf_alike hZ.alike Ar8.2.1) Ar8.2.2 hin8 hat8 (g := (mkF m 20 #[.val (.ref u1), .val (.ref u2), .val (.int (1 : Int32))] [(.int (1 : Int32)), (.ref u2), (.int (112 : Int32))])) rfl rfl (hb hby d4_20) _ ?_
    exact kz
  refine own_go (A := s₁.setTop (mkF m 11 #[.val (.ref u1), .val (.ref u2), .val (.int (2 : Int32))] [(.ref u1), (.int (2 : Int32))])) (fun _ kz => ?_) ?_
  · show Steps p.tables e below (s₁.setTop (mkF m 21 #[.val (.ref u1), .val (.ref u2), .val (.int (1 : Int32))] [(.int (112 : Int32)), (.int (112 : Int32))])) _
    refine XS.icmpYes X0.here hx rfl (pc0 := 21) (pc' := 26) rfl (hb hby d4_21) rfl (teq (by decide : ((112 : Int32) = (112 : Int32)))).1 (by decide) (by decide) ?_
    show Steps p.tables e below (s₁.setTop (mkF m 26 #[.val (.ref u1), .val (.ref u2), .val (.int (1 : Int32))] [])) _
    refine XS.iinc X0.here hx rfl (hb hby d4_26) rfl (l' := #[.val (.ref u1), .val (.ref u2), .val (.int (2 : Int32))]) rfl ?_
    show Steps p.tables e below (s₁.setTop (mkF m 29 #[.val (.ref u1), .val (.ref u2), .val (.int (2 : Int32))] [])) _
    refine XS.goto X0.here hx rfl (pc0 := 29) (pc' := 9) rfl (hb hby d4_29) (by decide) (by decide) ?_
    show Steps p.tables e below (s₁.setTop (mkF m 9 #[.val (.ref u1), .val (.ref u2), .val (.int (2 : Int32))] [])) _
    refine XS.iloadN X0.here hx rfl (hb hby d4_9) rfl ?_
    show Steps p.tables e below (s₁.setTop (mkF m 10 #[.val (.ref u1), .val (.ref u2), .val (.int (2 : Int32))] [(.int (2 : Int32))])) _
    refine XS.aloadN X0.here hx rfl (hb hby d4_10) rfl rfl ?_
    exact kz
  obtain ⟨cl9, Ar9, -, S9, M9, -, -⟩ := id A1
  refine own_go (A := s₁.setTop (mkF m 12 #[.val (.ref u1), .val (.ref u2), .val (.int (2 : Int32))] [(.int (6 : Int32)), (.int (2 : Int32))])) (fun _ kz => ?_) ?_
  · refine X0.arraylength hx (by rw [e0]; exact Ar9.1) (State.isArrayOf_alike hZ.alike Ar9.2.1) (g := (mkF m 11 #[.val (.ref u1), .val (.ref u2), .val (.int (2 : Int32))] [(.ref u1), (.int (2 : Int32))])) rfl rfl (hb hby d4_11) _ ?_
    rw [len_of S9 M9]
    exact kz
  refine own_go (A := s₁.setTop (mkF m 17 #[.val (.ref u1), .val (.ref u2), .val (.int (2 : Int32))] [(.int (2 : Int32)), (.ref u1)])) (fun _ kz => ?_) ?_
  · show Steps p.tables e below (s₁.setTop (mkF m 12 #[.val (.ref u1), .val (.ref u2), .val (.int (2 : Int32))] [(.int (6 : Int32)), (.int (2 : Int32))])) _
    refine XS.icmpNo X0.here hx rfl (hb hby d4_12) rfl (tlt (by decide : ((2 : Int32) < (6 : Int32)))).2.1 ?_
    show Steps p.tables e below (s₁.setTop (mkF m 15 #[.val (.ref u1), .val (.ref u2), .val (.int (2 : Int32))] [])) _
    refine XS.aloadN X0.here hx rfl (hb hby d4_15) rfl rfl ?_
    show Steps p.tables e below (s₁.setTop (mkF m 16 #[.val (.ref u1), .val (.ref u2), .val (.int (2 : Int32))] [(.ref u1)])) _
    refine XS.iloadN X0.here hx rfl (hb hby d4_16) rfl ?_
    exact kz
  obtain ⟨cl10, Ar10, -, S10, M10, H10, -⟩ := id A1
  have hin10 : ¬ ((2 : Int32) < 0 ∨ cl10.slots.size ≤ ((2 : Int32)).toNatClampNeg) := inb_of S10 ⟨by decide, by decide⟩
  have hat10 : cl10.slots[((2 : Int32)).toNatClampNeg]? = some (.int (100 : Int32)) := H10.at hin10 rfl
  refine own_go (A := s₁.setTop (mkF m 18 #[.val (.ref u1), .val (.ref u2), .val (.int (2 : Int32))] [(.int (100 : Int32))])) (fun _ kz => ?_) ?_
  · refine X0.baloadBytes hx (j := (2 : Int32)) (v := (.int (100 : Int32))) (by rw [e0]; exact Ar10.1) (State.isArrayOf_alike hZ.alike Ar10.2.1) Ar10.2.2 hin10 hat10 (g := (mkF m 17 #[.val (.ref u1), .val (.ref u2), .val (.int (2 : Int32))] [(.int (2 : Int32)), (.ref u1)])) rfl rfl (hb hby d4_17) _ ?_
    exact kz
  refine own_go (A := s₁.setTop (mkF m 20 #[.val (.ref u1), .val (.ref u2), .val (.int (2 : Int32))] [(.int (2 : Int32)), (.ref u2), (.int (100 : Int32))])) (fun _ kz => ?_) ?_
  · show Steps p.tables e below (s₁.setTop (mkF m 18 #[.val (.ref u1), .val (.ref u2), .val (.int (2 : Int32))] [(.int (100 : Int32))])) _
    refine XS.aloadN X0.here hx rfl (hb hby d4_18) rfl rfl ?_
    show Steps p.tables e below (s₁.setTop (mkF m 19 #[.val (.ref u1), .val (.ref u2), .val (.int (2 : Int32))] [(.ref u2), (.int (100 : Int32))])) _
    refine XS.iloadN X0.here hx rfl (hb hby d4_19) rfl ?_
    exact kz
  obtain ⟨cl11, Ar11, -, S11, M11, H11, -⟩ := id A2
  have hin11 : ¬ ((2 : Int32) < 0 ∨ cl11.slots.size ≤ ((2 : Int32)).toNatClampNeg) := inb_of S11 ⟨by decide, by decide⟩
  have hat11 : cl11.slots[((2 : Int32)).toNatClampNeg]? = some (.int (100 : Int32)) := H11.at hin11 rfl
  refine own_go (A := s₁.setTop (mkF m 21 #[.val (.ref u1), .val (.ref u2), .val (.int (2 : Int32))] [(.int (100 : Int32)), (.int (100 : Int32))])) (fun _ kz => ?_) ?_
  · refine X0.baloadBytes hx (j := (2 : Int32)) (v := (.int (100 : Int32))) (by rw [e0]; exact Ar11.1) (State.isArrayOf_alike hZ.alike Ar11.2.1) Ar11.2.2 hin11 hat11 (g := (mkF m 20 #[.val (.ref u1), .val (.ref u2), .val (.int (2 : Int32))] [(.int (2 : Int32)), (.ref u2), (.int (100 : Int32))])) rfl rfl (hb hby d4_20) _ ?_
    exact kz
  refine own_go (A := s₁.setTop (mkF m 11 #[.val (.ref u1), .val (.ref u2), .val (.int (3 : Int32))] [(.ref u1), (.int (3 : Int32))])) (fun _ kz => ?_) ?_
  · show Steps p.tables e below (s₁.setTop (mkF m 21 #[.val (.ref u1), .val (.ref u2), .val (.int (2 : Int32))] [(.int (100 : Int32)), (.int (100 : Int32))])) _
    refine XS.icmpYes X0.here hx rfl (pc0 := 21) (pc' := 26) rfl (hb hby d4_21) rfl (teq (by decide : ((100 : Int32) = (100 : Int32)))).1 (by decide) (by decide) ?_
    show Steps p.tables e below (s₁.setTop (mkF m 26 #[.val (.ref u1), .val (.ref u2), .val (.int (2 : Int32))] [])) _
    refine XS.iinc X0.here hx rfl (hb hby d4_26) rfl (l' := #[.val (.ref u1), .val (.ref u2), .val (.int (3 : Int32))]) rfl ?_
    show Steps p.tables e below (s₁.setTop (mkF m 29 #[.val (.ref u1), .val (.ref u2), .val (.int (3 : Int32))] [])) _
    refine XS.goto X0.here hx rfl (pc0 := 29) (pc' := 9) rfl (hb hby d4_29) (by decide) (by decide) ?_
    show Steps p.tables e below (s₁.setTop (mkF m 9 #[.val (.ref u1), .val (.ref u2), .val (.int (3 : Int32))] [])) _
    refine XS.iloadN X0.here hx rfl (hb hby d4_9) rfl ?_
    show Steps p.tables e below (s₁.setTop (mkF m 10 #[.val (.ref u1), .val (.ref u2), .val (.int (3 : Int32))] [(.int (3 : Int32))])) _
    refine XS.aloadN X0.here hx rfl (hb hby d4_10) rfl rfl ?_
    exact kz
  obtain ⟨cl12, Ar12, -, S12, M12, -, -⟩ := id A1
  refine own_go (A := s₁.setTop (mkF m 12 #[.val (.ref u1), .val (.ref u2), .val (.int (3 : Int32))] [(.int (6 : Int32)), (.int (3 : Int32))])) (fun _ kz => ?_) ?_
  · refine X0.arraylength hx (by rw [e0]; exact Ar12.1) (State.isArrayOf_alike hZ.alike Ar12.2.1) (g := (mkF m 11 #[.val (.ref u1), .val (.ref u2), .val (.int (3 : Int32))] [(.ref u1), (.int (3 : Int32))])) rfl rfl (hb hby d4_11) _ ?_
    rw [len_of S12 M12]
    exact kz
  refine own_go (A := s₁.setTop (mkF m 17 #[.val (.ref u1), .val (.ref u2), .val (.int (3 : Int32))] [(.int (3 : Int32)), (.ref u1)])) (fun _ kz => ?_) ?_
  · show Steps p.tables e below (s₁.setTop (mkF m 12 #[.val (.ref u1), .val (.ref u2), .val (.int (3 : Int32))] [(.int (6 : Int32)), (.int (3 : Int32))])) _
    refine XS.icmpNo X0.here hx rfl (hb hby d4_12) rfl (tlt (by decide : ((3 : Int32) < (6 : Int32)))).2.1 ?_
    show Steps p.tables e below (s₁.setTop (mkF m 15 #[.val (.ref u1), .val (.ref u2), .val (.int (3 : Int32))] [])) _
    refine XS.aloadN X0.here hx rfl (hb hby d4_15) rfl rfl ?_
    show Steps p.tables e below (s₁.setTop (mkF m 16 #[.val (.ref u1), .val (.ref u2), .val (.int (3 : Int32))] [(.ref u1)])) _
    refine XS.iloadN X0.here hx rfl (hb hby d4_16) rfl ?_
    exact kz
  obtain ⟨cl13, Ar13, -, S13, M13, H13, -⟩ := id A1
  have hin13 : ¬ ((3 : Int32) < 0 ∨ cl13.slots.size ≤ ((3 : Int32)).toNatClampNeg) := inb_of S13 ⟨by decide, by decide⟩
  have hat13 : cl13.slots[((3 : Int32)).toNatClampNeg]? = some (.int (97 : Int32)) := H13.at hin13 rfl
  refine own_go (A := s₁.setTop (mkF m 18 #[.val (.ref u1), .val (.ref u2), .val (.int (3 : Int32))] [(.int (97 : Int32))])) (fun _ kz => ?_) ?_
  · refine X0.baloadBytes hx (j := (3 : Int32)) (v := (.int (97 : Int32))) (by rw [e0]; exact Ar13.1) (State.isArrayOf_alike hZ.alike Ar13.2.1) Ar13.2.2 hin13 hat13 (g := (mkF m 17 #[.val (.ref u1), .val (.ref u2), .val (.int (3 : Int32))] [(.int (3 : Int32)), (.ref u1)])) rfl rfl (hb hby d4_17) _ ?_
    exact kz
  refine own_go (A := s₁.setTop (mkF m 20 #[.val (.ref u1), .val (.ref u2), .val (.int (3 : Int32))] [(.int (3 : Int32)), (.ref u2), (.int (97 : Int32))])) (fun _ kz => ?_) ?_
  · show Steps p.tables e below (s₁.setTop (mkF m 18 #[.val (.ref u1), .val (.ref u2), .val (.int (3 : Int32))] [(.int (97 : Int32))])) _
    refine XS.aloadN X0.here hx rfl (hb hby d4_18) rfl rfl ?_
    show Steps p.tables e below (s₁.setTop (mkF m 19 #[.val (.ref u1), .val (.ref u2), .val (.int (3 : Int32))] [(.ref u2), (.int (97 : Int32))])) _
    refine XS.iloadN X0.here hx rfl (hb hby d4_19) rfl ?_
    exact kz
  obtain ⟨cl14, Ar14, -, S14, M14, H14, -⟩ := id A2
  have hin14 : ¬ ((3 : Int32) < 0 ∨ cl14.slots.size ≤ ((3 : Int32)).toNatClampNeg) := inb_of S14 ⟨by decide, by decide⟩
  have hat14 : cl14.slots[((3 : Int32)).toNatClampNeg]? = some (.int (97 : Int32)) := H14.at hin14 rfl
  refine own_go (A := s₁.setTop (mkF m 21 #[.val (.ref u1), .val (.ref u2), .val (.int (3 : Int32))] [(.int (97 : Int32)), (.int (97 : Int32))])) (fun _ kz => ?_) ?_
  · refine X0.baloadBytes hx (j := (3 : Int32)) (v := (.int (97 : Int32))) (by rw [e0]; exact Ar14.1) (State.isArrayOf_alike hZ.alike Ar14.2.1) Ar14.2.2 hin14 hat14 (g := (mkF m 20 #[.val (.ref u1), .val (.ref u2), .val (.int (3 : Int32))] [(.int (3 : Int32)), (.ref u2), (.int (97 : Int32))])) rfl rfl (hb hby d4_20) _ ?_
    exact kz
  refine own_go (A := s₁.setTop (mkF m 11 #[.val (.ref u1), .val (.ref u2), .val (.int (4 : Int32))] [(.ref u1), (.int (4 : Int32))])) (fun _ kz => ?_) ?_
  · show Steps p.tables e below (s₁.setTop (mkF m 21 #[.val (.ref u1), .val (.ref u2), .val (.int (3 : Int32))] [(.int (97 : Int32)), (.int (97 : Int32))])) _
    refine XS.icmpYes X0.here hx rfl (pc0 := 21) (pc' := 26) rfl (hb hby d4_21) rfl (teq (by decide : ((97 : Int32) = (97 : Int32)))).1 (by decide) (by decide) ?_
    show Steps p.tables e below (s₁.setTop (mkF m 26 #[.val (.ref u1), .val (.ref u2), .val (.int (3 : Int32))] [])) _
    refine XS.iinc X0.here hx rfl (hb hby d4_26) rfl (l' := #[.val (.ref u1), .val (.ref u2), .val (.int (4 : Int32))]) rfl ?_
    show Steps p.tables e below (s₁.setTop (mkF m 29 #[.val (.ref u1), .val (.ref u2), .val (.int (4 : Int32))] [])) _
    refine XS.goto X0.here hx rfl (pc0 := 29) (pc' := 9) rfl (hb hby d4_29) (by decide) (by decide) ?_
    show Steps p.tables e below (s₁.setTop (mkF m 9 #[.val (.ref u1), .val (.ref u2), .val (.int (4 : Int32))] [])) _
    refine XS.iloadN X0.here hx rfl (hb hby d4_9) rfl ?_
    show Steps p.tables e below (s₁.setTop (mkF m 10 #[.val (.ref u1), .val (.ref u2), .val (.int (4 : Int32))] [(.int (4 : Int32))])) _
    refine XS.aloadN X0.here hx rfl (hb hby d4_10) rfl rfl ?_
    exact kz
  obtain ⟨cl15, Ar15, -, S15, M15, -, -⟩ := id A1
  refine own_go (A := s₁.setTop (mkF m 12 #[.val (.ref u1), .val (.ref u2), .val (.int (4 : Int32))] [(.int (6 : Int32)), (.int (4 : Int32))])) (fun _ kz => ?_) ?_
  · refine X0.arraylength hx (by rw [e0]; exact Ar15.1) (State.isArrayOf_alike hZ.alike Ar15.2.1) (g := (mkF m 11 #[.val (.ref u1), .val (.ref u2), .val (.int (4 : Int32))] [(.ref u1), (.int (4 : Int32))])) rfl rfl (hb hby d4_11) _ ?_
    rw [len_of S15 M15]
    exact kz
  refine own_go (A := s₁.setTop (mkF m 17 #[.val (.ref u1), .val (.ref u2), .val (.int (4 : Int32))] [(.int (4 : Int32)), (.ref u1)])) (fun _ kz => ?_) ?_
  · show Steps p.tables e below (s₁.setTop (mkF m 12 #[.val (.ref u1), .val (.ref u2), .val (.int (4 : Int32))] [(.int (6 : Int32)), (.int (4 : Int32))])) _
    refine XS.icmpNo X0.here hx rfl (hb hby d4_12) rfl (tlt (by decide : ((4 : Int32) < (6 : Int32)))).2.1 ?_
    show Steps p.tables e below (s₁.setTop (mkF m 15 #[.val (.ref u1), .val (.ref u2), .val (.int (4 : Int32))] [])) _
    refine XS.aloadN X0.here hx rfl (hb hby d4_15) rfl rfl ?_
    show Steps p.tables e below (s₁.setTop (mkF m 16 #[.val (.ref u1), .val (.ref u2), .val (.int (4 : Int32))] [(.ref u1)])) _
    refine XS.iloadN X0.here hx rfl (hb hby d4_16) rfl ?_
    exact kz
  obtain ⟨cl16, Ar16, -, S16, M16, H16, -⟩ := id A1
  have hin16 : ¬ ((4 : Int32) < 0 ∨ cl16.slots.size ≤ ((4 : Int32)).toNatClampNeg) := inb_of S16 ⟨by decide, by decide⟩
  have hat16 : cl16.slots[((4 : Int32)).toNatClampNeg]? = some (.int (116 : Int32)) := H16.at hin16 rfl
  refine own_go (A := s₁.setTop (mkF m 18 #[.val (.ref u1), .val (.ref u2), .val (.int (4 : Int32))] [(.int (116 : Int32))])) (fun _ kz => ?_) ?_
  · refine X0.baloadBytes hx (j := (4 : Int32)) (v := (.int (116 : Int32))) (by rw [e0]; exact Ar16.1) (State.isArrayOf_alike hZ.alike Ar16.2.1) Ar16.2.2 hin16 hat16 (g := (mkF m 17 #[.val (.ref u1), .val (.ref u2), .val (.int (4 : Int32))] [(.int (4 : Int32)), (.ref u1)])) rfl rfl (hb hby d4_17) _ ?_
    exact kz
  refine own_go (A := s₁.setTop (mkF m 20 #[.val (.ref u1), .val (.ref u2), .val (.int (4 : Int32))] [(.int (4 : Int32)), (.ref u2), (.int (116 : Int32))])) (fun _ kz => ?_) ?_
  · show Steps p.tables e below (s₁.setTop (mkF m 18 #[.val (.ref u1), .val (.ref u2), .val (.int (4 : Int32))] [(.int (116 : Int32))])) _
    refine XS.aloadN X0.here hx rfl (hb hby d4_18) rfl rfl ?_
    show Steps p.tables e below (s₁.setTop (mkF m 19 #[.val (.ref u1), .val (.ref u2), .val (.int (4 : Int32))] [(.ref u2), (.int (116 : Int32))])) _
    refine XS.iloadN X0.here hx rfl (hb hby d4_19) rfl ?_
    exact kz
  obtain ⟨cl17, Ar17, -, S17, M17, H17, -⟩ := id A2
  have hin17 : ¬ ((4 : Int32) < 0 ∨ cl17.slots.size ≤ ((4 : Int32)).toNatClampNeg) := inb_of S17 ⟨by decide, by decide⟩
  have hat17 : cl17.slots[((4 : Int32)).toNatClampNeg]? = some (.int (116 : Int32)) := H17.at hin17 rfl
  refine own_go (A := s₁.setTop (mkF m 21 #[.val (.ref u1), .val (.ref u2), .val (.int (4 : Int32))] [(.int (116 : Int32)), (.int (116 : Int32))])) (fun _ kz => ?_) ?_
  · refine X0.baloadBytes hx (j := (4 : Int32)) (v := (.int (116 : Int32))) (by rw [e0]; exact Ar17.1) (State.isArrayOf_alike hZ.alike Ar17.2.1) Ar17.2.2 hin17 hat17 (g := (mkF m 20 #[.val (.ref u1), .val (.ref u2), .val (.int (4 : Int32))] [(.int (4 : Int32)), (.ref u2), (.int (116 : Int32))])) rfl rfl (hb hby d4_20) _ ?_
    exact kz
  refine own_go (A := s₁.setTop (mkF m 11 #[.val (.ref u1), .val (.ref u2), .val (.int (5 : Int32))] [(.ref u1), (.int (5 : Int32))])) (fun _ kz => ?_) ?_
  · show Steps p.tables e below (s₁.setTop (mkF m 21 #[.val (.ref u1), .val (.ref u2), .val (.int (4 : Int32))] [(.int (116 : Int32)), (.int (116 : Int32))])) _
    refine XS.icmpYes X0.here hx rfl (pc0 := 21) (pc' := 26) rfl (hb hby d4_21) rfl (teq (by decide : ((116 : Int32) = (116 : Int32)))).1 (by decide) (by decide) ?_
    show Steps p.tables e below (s₁.setTop (mkF m 26 #[.val (.ref u1), .val (.ref u2), .val (.int (4 : Int32))] [])) _
    refine XS.iinc X0.here hx rfl (hb hby d4_26) rfl (l' := #[.val (.ref u1), .val (.ref u2), .val (.int (5 : Int32))]) rfl ?_
    show Steps p.tables e below (s₁.setTop (mkF m 29 #[.val (.ref u1), .val (.ref u2), .val (.int (5 : Int32))] [])) _
    refine XS.goto X0.here hx rfl (pc0 := 29) (pc' := 9) rfl (hb hby d4_29) (by decide) (by decide) ?_
    show Steps p.tables e below (s₁.setTop (mkF m 9 #[.val (.ref u1), .val (.ref u2), .val (.int (5 : Int32))] [])) _
    refine XS.iloadN X0.here hx rfl (hb hby d4_9) rfl ?_
    show Steps p.tables e below (s₁.setTop (mkF m 10 #[.val (.ref u1), .val (.ref u2), .val (.int (5 : Int32))] [(.int (5 : Int32))])) _
    refine XS.aloadN X0.here hx rfl (hb hby d4_10) rfl rfl ?_
    exact kz
  obtain ⟨cl18, Ar18, -, S18, M18, -, -⟩ := id A1
  refine own_go (A := s₁.setTop (mkF m 12 #[.val (.ref u1), .val (.ref u2), .val (.int (5 : Int32))] [(.int (6 : Int32)), (.int (5 : Int32))])) (fun _ kz => ?_) ?_
  · refine X0.arraylength hx (by rw [e0]; exact Ar18.1) (State.isArrayOf_alike hZ.alike Ar18.2.1) (g := (mkF m 11 #[.val (.ref u1), .val (.ref u2), .val (.int (5 : Int32))] [(.ref u1), (.int (5 : Int32))])) rfl rfl (hb hby d4_11) _ ?_
    rw [len_of S18 M18]
    exact kz
  refine own_go (A := s₁.setTop (mkF m 17 #[.val (.ref u1), .val (.ref u2), .val (.int (5 : Int32))] [(.int (5 : Int32)), (.ref u1)])) (fun _ kz => ?_) ?_
  · show Steps p.tables e below (s₁.setTop (mkF m 12 #[.val (.ref u1), .val (.ref u2), .val (.int (5 : Int32))] [(.int (6 : Int32)), (.int (5 : Int32))])) _
    refine XS.icmpNo X0.here hx rfl (hb hby d4_12) rfl (tlt (by decide : ((5 : Int32) < (6 : Int32)))).2.1 ?_
    show Steps p.tables e below (s₁.setTop (mkF m 15 #[.val (.ref u1), .val (.ref u2), .val (.int (5 : Int32))] [])) _
    refine XS.aloadN X0.here hx rfl (hb hby d4_15) rfl rfl ?_
    show Steps p.tables e below (s₁.setTop (mkF m 16 #[.val (.ref u1), .val (.ref u2), .val (.int (5 : Int32))] [(.ref u1)])) _
    refine XS.iloadN X0.here hx rfl (hb hby d4_16) rfl ?_
    exact kz
  obtain ⟨cl19, Ar19, -, S19, M19, H19, -⟩ := id A1
  have hin19 : ¬ ((5 : Int32) < 0 ∨ cl19.slots.size ≤ ((5 : Int32)).toNatClampNeg) := inb_of S19 ⟨by decide, by decide⟩
  have hat19 : cl19.slots[((5 : Int32)).toNatClampNeg]? = some (.int (101 : Int32)) := H19.at hin19 rfl
  refine own_go (A := s₁.setTop (mkF m 18 #[.val (.ref u1), .val (.ref u2), .val (.int (5 : Int32))] [(.int (101 : Int32))])) (fun _ kz => ?_) ?_
  · refine X0.baloadBytes hx (j := (5 : Int32)) (v := (.int (101 : Int32))) (by rw [e0]; exact Ar19.1) (State.isArrayOf_alike hZ.alike Ar19.2.1) Ar19.2.2 hin19 hat19 (g := (mkF m 17 #[.val (.ref u1), .val (.ref u2), .val (.int (5 : Int32))] [(.int (5 : Int32)), (.ref u1)])) rfl rfl (hb hby d4_17) _ ?_
    exact kz
  refine own_go (A := s₁.setTop (mkF m 20 #[.val (.ref u1), .val (.ref u2), .val (.int (5 : Int32))] [(.int (5 : Int32)), (.ref u2), (.int (101 : Int32))])) (fun _ kz => ?_) ?_
  · show Steps p.tables e below (s₁.setTop (mkF m 18 #[.val (.ref u1), .val (.ref u2), .val (.int (5 : Int32))] [(.int (101 : Int32))])) _
    refine XS.aloadN X0.here hx rfl (hb hby d4_18) rfl rfl ?_
    show Steps p.tables e below (s₁.setTop (mkF m 19 #[.val (.ref u1), .val (.ref u2), .val (.int (5 : Int32))] [(.ref u2), (.int (101 : Int32))])) _
    refine XS.iloadN X0.here hx rfl (hb hby d4_19) rfl ?_
    exact kz
  obtain ⟨cl20, Ar20, -, S20, M20, H20, -⟩ := id A2
  have hin20 : ¬ ((5 : Int32) < 0 ∨ cl20.slots.size ≤ ((5 : Int32)).toNatClampNeg) := inb_of S20 ⟨by decide, by decide⟩
  have hat20 : cl20.slots[((5 : Int32)).toNatClampNeg]? = some (.int (101 : Int32)) := H20.at hin20 rfl
  refine own_go (A := s₁.setTop (mkF m 21 #[.val (.ref u1), .val (.ref u2), .val (.int (5 : Int32))] [(.int (101 : Int32)), (.int (101 : Int32))])) (fun _ kz => ?_) ?_
  · refine X0.baloadBytes hx (j := (5 : Int32)) (v := (.int (101 : Int32))) (by rw [e0]; exact Ar20.1) (State.isArrayOf_alike hZ.alike Ar20.2.1) Ar20.2.2 hin20 hat20 (g := (mkF m 20 #[.val (.ref u1), .val (.ref u2), .val (.int (5 : Int32))] [(.int (5 : Int32)), (.ref u2), (.int (101 : Int32))])) rfl rfl (hb hby d4_20) _ ?_
    exact kz
  refine own_go (A := s₁.setTop (mkF m 11 #[.val (.ref u1), .val (.ref u2), .val (.int (6 : Int32))] [(.ref u1), (.int (6 : Int32))])) (fun _ kz => ?_) ?_
  · show Steps p.tables e below (s₁.setTop (mkF m 21 #[.val (.ref u1), .val (.ref u2), .val (.int (5 : Int32))] [(.int (101 : Int32)), (.int (101 : Int32))])) _
    refine XS.icmpYes X0.here hx rfl (pc0 := 21) (pc' := 26) rfl (hb hby d4_21) rfl (teq (by decide : ((101 : Int32) = (101 : Int32)))).1 (by decide) (by decide) ?_
    show Steps p.tables e below (s₁.setTop (mkF m 26 #[.val (.ref u1), .val (.ref u2), .val (.int (5 : Int32))] [])) _
    refine XS.iinc X0.here hx rfl (hb hby d4_26) rfl (l' := #[.val (.ref u1), .val (.ref u2), .val (.int (6 : Int32))]) rfl ?_
    show Steps p.tables e below (s₁.setTop (mkF m 29 #[.val (.ref u1), .val (.ref u2), .val (.int (6 : Int32))] [])) _
    refine XS.goto X0.here hx rfl (pc0 := 29) (pc' := 9) rfl (hb hby d4_29) (by decide) (by decide) ?_
    show Steps p.tables e below (s₁.setTop (mkF m 9 #[.val (.ref u1), .val (.ref u2), .val (.int (6 : Int32))] [])) _
    refine XS.iloadN X0.here hx rfl (hb hby d4_9) rfl ?_
    show Steps p.tables e below (s₁.setTop (mkF m 10 #[.val (.ref u1), .val (.ref u2), .val (.int (6 : Int32))] [(.int (6 : Int32))])) _
    refine XS.aloadN X0.here hx rfl (hb hby d4_10) rfl rfl ?_
    exact kz
  obtain ⟨cl21, Ar21, -, S21, M21, -, -⟩ := id A1
  refine own_go (A := s₁.setTop (mkF m 12 #[.val (.ref u1), .val (.ref u2), .val (.int (6 : Int32))] [(.int (6 : Int32)), (.int (6 : Int32))])) (fun _ kz => ?_) ?_
  · refine X0.arraylength hx (by rw [e0]; exact Ar21.1) (State.isArrayOf_alike hZ.alike Ar21.2.1) (g := (mkF m 11 #[.val (.ref u1), .val (.ref u2), .val (.int (6 : Int32))] [(.ref u1), (.int (6 : Int32))])) rfl rfl (hb hby d4_11) _ ?_
    rw [len_of S21 M21]
    exact kz
  refine own_go (A := s₁.setTop (mkF m 33 #[.val (.ref u1), .val (.ref u2), .val (.int (6 : Int32))] [(.int (1 : Int32))])) (fun _ kz => ?_) ?_
  · show Steps p.tables e below (s₁.setTop (mkF m 12 #[.val (.ref u1), .val (.ref u2), .val (.int (6 : Int32))] [(.int (6 : Int32)), (.int (6 : Int32))])) _
    refine XS.icmpYes X0.here hx rfl (pc0 := 12) (pc' := 32) rfl (hb hby d4_12) rfl (flt (by decide : ¬ ((6 : Int32) < (6 : Int32)))).2.1 (by decide) (by decide) ?_
    show Steps p.tables e below (s₁.setTop (mkF m 32 #[.val (.ref u1), .val (.ref u2), .val (.int (6 : Int32))] [])) _
    refine XS.iconst X0.here hx rfl (hb hby d4_32) ?_
    exact kz
  obtain ⟨fs, hrr, hrun, hended, hW, hsame⟩ := X0.leave (v := some (.int (1 : Int32))) (fun h => by rw [Bd.returns] at h; cases h)
  refine ⟨_, _, ?_, hrun, hended, _, _, rfl, ?_, ⟨_, rfl⟩, hW, hsame.mono (by decide) (by decide)⟩
  · show Steps p.tables e below (s₁.setTop (mkF m 33 #[.val (.ref u1), .val (.ref u2), .val (.int (6 : Int32))] [(.int (1 : Int32))])) _
    exact retN X0 hx (t := .boolean) Bd.returns (by simp) (hb hby d4_33) hrr
  · show QrmLe4 Z  h0 n0 _ s₁.heap _
    rw [e0]
    exact ⟨rfl, N0, rfl⟩
def QrmSe4 (Z : State)  (h0 : Heap) (n0 : Nat) (v : Option Value) (h : Heap) (L : List Loc) : Prop := v = some (.int (1 : Int32)) ∧ Fr n0 L ∧ h = h0
set_option maxRecDepth 65536 in
set_option maxHeartbeats 40000000 in
theorem rmSe4 (l : Launch) (Z : State) (a0 : Array Value) (hw : ∀ d ∈ tables_1, d.before a0 Z = true) (ws : List Jvm.Cond) (x1 x2 u1 u2 : Addr) (k1 k2 : ClassId) (cs : Int32) (h0 : Heap) (n0 : Nat) (Z0 : n0 ≤ h0.size) (E1 : Exa Z h0 x1 "java/lang/String") (E2 : Exa Z h0 x2 "java/lang/String") (C1 : Fld Z h0 x1 "java/lang/String" "coder" "B" (.int (0 : Int32))) (C2 : Fld Z h0 x2 "java/lang/String" "coder" "B" (.int (0 : Int32))) (V1 : Fld Z h0 x1 "java/lang/String" "value" "[B" (.ref u1)) (V2 : Fld Z h0 x2 "java/lang/String" "value" "[B" (.ref u2)) (A1 : Arv Z h0 u1 k1 .byte (6 : Int32) [(.int (117 : Int32)), (.int (112 : Int32)), (.int (100 : Int32)), (.int (97 : Int32)), (.int (116 : Int32)), (.int (101 : Int32))] (.int (0 : Int32))) (A2 : Arv Z h0 u2 k2 .byte (6 : Int32) [(.int (117 : Int32)), (.int (112 : Int32)), (.int (100 : Int32)), (.int (97 : Int32)), (.int (116 : Int32)), (.int (101 : Int32))] (.int (0 : Int32))) (hcs : ¬ (cs = (0 : Int32))) (S_cs : Sta Z h0 "java/lang/String" "COMPACT_STRINGS" "Z" (.int cs)) :
    MetFree l (⟨"java/lang/String", "equals", "(Ljava/lang/Object;)Z"⟩ : MethodName) (head1 (Jvm.Cond.code (⟨"java/lang/String", "equals", "(Ljava/lang/Object;)Z"⟩ : MethodName) jdk_42_method_66_code 3 (some .boolean) :: ws) ({ frames := 1, cells := 0, slots := 0, locals := 14 } : Room)) (fun ar_ U_ => ar_ = #[(.ref x1), (.ref x2)] ∧ Z.Warmed39 U_.vm ∧ U_.heap = h0) (fun _ _ _ _ _ => True) (fun _ U_ ou_ V_ => ∃ v_ L_, ou_ = .returned v_ ∧ QrmSe4 Z  h0 n0 v_ V_.heap L_ ∧ FrameEnd U_ ou_ V_ L_ ({ frames := 1, cells := 0, slots := 0, locals := 14 } : Room).cells ({ frames := 1, cells := 0, slots := 0, locals := 14 } : Room).slots) := by
  refine MetFree.of_bodySF (plainFor_of_name own_pn3) hisR ?_
  intro p e s m args below meth c s₁ Bd hml0 hP hK
  obtain ⟨rfl, hZ, hh⟩ := hP
  have hx := Bd.exec
  have hby := Bd.bytes
  have hml : c.maxLocals = 3 := hml0
  have hown : s.vm.findClass "java/lang/String" = some m.cls := findClass_of_methodNamed Bd.named
  have hnm := (name_of_methodNamed Bd.named Bd.method).1
  have X0 : Stand p l e ({ frames := 1, cells := 0, slots := 0, locals := 14 } : Room) s m #[(.ref x1), (.ref x2)] below meth c s₁ [] 0 0 := Stand.of_body Bd
  have e0 : s₁.heap = h0 := by rw [← hh, Bd.state]; rfl
  have N0 := Fr.nil n0
  refine own_go (A := s₁.setTop (mkF m 0 #[.val (.ref x1), .val (.ref x2), .unset] [])) (fun t kz => castTop (own_ef3 m x1 x2) kz) ?_
  refine own_go (A := s₁.setTop (mkF m 2 #[.val (.ref x1), .val (.ref x2), .unset] [(.ref x2), (.ref x1)])) (fun _ kz => ?_) ?_
  · show Steps p.tables e below (s₁.setTop (mkF m 0 #[.val (.ref x1), .val (.ref x2), .unset] [])) _
    refine XS.aloadN X0.here hx rfl (hb hby d3_0) rfl rfl ?_
    show Steps p.tables e below (s₁.setTop (mkF m 1 #[.val (.ref x1), .val (.ref x2), .unset] [(.ref x1)])) _
    refine XS.aloadN X0.here hx rfl (hb hby d3_1) rfl rfl ?_
    exact kz
  by_cases hs1 : x1 = x2
  · skip
    refine own_go (A := s₁.setTop (mkF m 5 #[.val (.ref x1), .val (.ref x2), .unset] [])) (fun _ kz => ?_) ?_
    · refine Jvm.RoadKit.acmp (g := (mkF m 2 #[.val (.ref x1), .val (.ref x2), .unset] [(.ref x2), (.ref x1)])) X0 hx rfl rfl rfl (pc0 := 2) (pc' := 5) (same := true) rfl (hb hby d3_2) rfl (decide_eq_true (congrArg Value.ref hs1)) (by decide) (by decide) ?_
      exact kz
    refine own_go (A := s₁.setTop (mkF m 6 #[.val (.ref x1), .val (.ref x2), .unset] [(.int (1 : Int32))])) (fun _ kz => ?_) ?_
    · show Steps p.tables e below (s₁.setTop (mkF m 5 #[.val (.ref x1), .val (.ref x2), .unset] [])) _
      refine XS.iconst X0.here hx rfl (hb hby d3_5) ?_
      exact kz
    obtain ⟨fs, hrr, hrun, hended, hW, hsame⟩ := X0.leave (v := some (.int (1 : Int32))) (fun h => by rw [Bd.returns] at h; cases h)
    refine ⟨_, _, ?_, hrun, hended, _, _, rfl, ?_, ⟨_, rfl⟩, hW, hsame.mono (by decide) (by decide)⟩
    · show Steps p.tables e below (s₁.setTop (mkF m 6 #[.val (.ref x1), .val (.ref x2), .unset] [(.int (1 : Int32))])) _
      exact retN X0 hx (t := .boolean) Bd.returns (by simp) (hb hby d3_6) hrr
    · show QrmSe4 Z  h0 n0 _ s₁.heap _
      rw [e0]
      exact ⟨rfl, N0, rfl⟩
  · skip
    refine own_go (A := s₁.setTop (mkF m 7 #[.val (.ref x1), .val (.ref x2), .unset] [])) (fun _ kz => ?_) ?_
    · refine Jvm.RoadKit.acmp (g := (mkF m 2 #[.val (.ref x1), .val (.ref x2), .unset] [(.ref x2), (.ref x1)])) X0 hx rfl rfl rfl (pc0 := 2) (pc' := 7) (same := false) rfl (hb hby d3_2) rfl (decide_eq_false fun q => hs1 (Value.ref.inj q)) (by decide) (by decide) ?_
      exact kz
    refine own_go (A := s₁.setTop (mkF m 8 #[.val (.ref x1), .val (.ref x2), .unset] [(.ref x2)])) (fun _ kz => ?_) ?_
    · show Steps p.tables e below (s₁.setTop (mkF m 7 #[.val (.ref x1), .val (.ref x2), .unset] [])) _
      refine XS.aloadN X0.here hx rfl (hb hby d3_7) rfl rfl ?_
      exact kz
    obtain ⟨T2, X2, e2, st2⟩ := instY X0 hx hZ hown (hw _ (List.mem_of_getElem? (i := 32) rfl)) e0 (Ins.of_exa E2 (hw _ (List.mem_of_getElem? (i := 33) rfl))) (g := (mkF m 8 #[.val (.ref x1), .val (.ref x2), .unset] [(.ref x2)])) rfl rfl (hb hby d3_8)
    refine own_go (A := T2.setTop (mkF m 11 #[.val (.ref x1), .val (.ref x2), .unset] [(.int (1 : Int32))])) (fun _ kz => st2 _ kz) ?_
    refine own_go (A := T2.setTop (mkF m 15 #[.val (.ref x1), .val (.ref x2), .unset] [(.ref x2)])) (fun _ kz => ?_) ?_
    · show Steps p.tables e below (T2.setTop (mkF m 11 #[.val (.ref x1), .val (.ref x2), .unset] [(.int (1 : Int32))])) _
      refine XS.ifNo X2.here hx rfl (hb hby d3_11) rfl ((if0 _ _).trans (feq (by decide : ¬ ((1 : Int32) = (0 : Int32)))).1) ?_
      show Steps p.tables e below (T2.setTop (mkF m 14 #[.val (.ref x1), .val (.ref x2), .unset] [])) _
      refine XS.aloadN X2.here hx rfl (hb hby d3_14) rfl rfl ?_
      exact kz
    obtain ⟨T3, X3, e3, st3⟩ := castY X2 hx hZ hown (hw _ (List.mem_of_getElem? (i := 32) rfl)) e2 (Ins.of_exa E2 (hw _ (List.mem_of_getElem? (i := 33) rfl))) (g := (mkF m 15 #[.val (.ref x1), .val (.ref x2), .unset] [(.ref x2)])) rfl rfl (hb hby d3_15)
    refine own_go (A := T3.setTop (mkF m 18 #[.val (.ref x1), .val (.ref x2), .unset] [(.ref x2)])) (fun _ kz => st3 _ kz) ?_
    refine own_go (A := T3.setTop (mkF m 19 #[.val (.ref x1), .val (.ref x2), .val (.ref x2)] [])) (fun _ kz => ?_) ?_
    · show Steps p.tables e below (T3.setTop (mkF m 18 #[.val (.ref x1), .val (.ref x2), .unset] [(.ref x2)])) _
      refine XS.astoreN X3.here hx rfl (hb hby d3_18) rfl rfl (l' := #[.val (.ref x1), .val (.ref x2), .val (.ref x2)]) rfl ?_
      exact kz
    obtain ⟨T4, X4, e4, st4⟩ := getS2 X3 hx hZ hown (host := "") (Or.inl (hw _ (List.mem_of_getElem? (i := 34) rfl))) Via.refl e3 S_cs (g := (mkF m 19 #[.val (.ref x1), .val (.ref x2), .val (.ref x2)] [])) rfl (hb hby d3_19)
    refine own_go (A := T4.setTop (mkF m 22 #[.val (.ref x1), .val (.ref x2), .val (.ref x2)] [(.int cs)])) (fun _ kz => st4 _ kz) ?_
    refine own_go (A := T4.setTop (mkF m 26 #[.val (.ref x1), .val (.ref x2), .val (.ref x2)] [(.ref x1)])) (fun _ kz => ?_) ?_
    · show Steps p.tables e below (T4.setTop (mkF m 22 #[.val (.ref x1), .val (.ref x2), .val (.ref x2)] [(.int cs)])) _
      refine XS.ifNo X4.here hx rfl (hb hby d3_22) rfl ((if0 _ _).trans (feq hcs).1) ?_
      show Steps p.tables e below (T4.setTop (mkF m 25 #[.val (.ref x1), .val (.ref x2), .val (.ref x2)] [])) _
      refine XS.aloadN X4.here hx rfl (hb hby d3_25) rfl rfl ?_
      exact kz
    obtain ⟨T5, X5, e5, st5⟩ := getF X4 hx hZ hown (host := "") (Or.inl (hw _ (List.mem_of_getElem? (i := 35) rfl))) Via.refl e4 C1 (g := (mkF m 26 #[.val (.ref x1), .val (.ref x2), .val (.ref x2)] [(.ref x1)])) rfl rfl (hb hby d3_26)
    refine own_go (A := T5.setTop (mkF m 29 #[.val (.ref x1), .val (.ref x2), .val (.ref x2)] [(.int (0 : Int32))])) (fun _ kz => st5 _ kz) ?_
    refine own_go (A := T5.setTop (mkF m 30 #[.val (.ref x1), .val (.ref x2), .val (.ref x2)] [(.ref x2), (.int (0 : Int32))])) (fun _ kz => ?_) ?_
    · show Steps p.tables e below (T5.setTop (mkF m 29 #[.val (.ref x1), .val (.ref x2), .val (.ref x2)] [(.int (0 : Int32))])) _
      refine XS.aloadN X5.here hx rfl (hb hby d3_29) rfl rfl ?_
      exact kz
    obtain ⟨T6, X6, e6, st6⟩ := getF X5 hx hZ hown (host := "") (Or.inl (hw _ (List.mem_of_getElem? (i := 35) rfl))) Via.refl e5 C2 (g := (mkF m 30 #[.val (.ref x1), .val (.ref x2), .val (.ref x2)] [(.ref x2), (.int (0 : Int32))])) rfl rfl (hb hby d3_30)
    refine own_go (A := T6.setTop (mkF m 33 #[.val (.ref x1), .val (.ref x2), .val (.ref x2)] [(.int (0 : Int32)), (.int (0 : Int32))])) (fun _ kz => st6 _ kz) ?_
    refine own_go (A := T6.setTop (mkF m 37 #[.val (.ref x1), .val (.ref x2), .val (.ref x2)] [(.ref x1)])) (fun _ kz => ?_) ?_
    · show Steps p.tables e below (T6.setTop (mkF m 33 #[.val (.ref x1), .val (.ref x2), .val (.ref x2)] [(.int (0 : Int32)), (.int (0 : Int32))])) _
      refine XS.icmpNo X6.here hx rfl (hb hby d3_33) rfl (teq (by decide : ((0 : Int32) = (0 : Int32)))).2 ?_
      show Steps p.tables e below (T6.setTop (mkF m 36 #[.val (.ref x1), .val (.ref x2), .val (.ref x2)] [])) _
      refine XS.aloadN X6.here hx rfl (hb hby d3_36) rfl rfl ?_
      exact kz
    obtain ⟨T7, X7, e7, st7⟩ := getF X6 hx hZ hown (host := "") (Or.inl (hw _ (List.mem_of_getElem? (i := 36) rfl))) Via.refl e6 V1 (g := (mkF m 37 #[.val (.ref x1), .val (.ref x2), .val (.ref x2)] [(.ref x1)])) rfl rfl (hb hby d3_37)
    refine own_go (A := T7.setTop (mkF m 40 #[.val (.ref x1), .val (.ref x2), .val (.ref x2)] [(.ref u1)])) (fun _ kz => st7 _ kz) ?_
    refine own_go (A := T7.setTop (mkF m 41 #[.val (.ref x1), .val (.ref x2), .val (.ref x2)] [(.ref x2), (.ref u1)])) (fun _ kz => ?_) ?_
    · show Steps p.tables e below (T7.setTop (mkF m 40 #[.val (.ref x1), .val (.ref x2), .val (.ref x2)] [(.ref u1)])) _
      refine XS.aloadN X7.here hx rfl (hb hby d3_40) rfl rfl ?_
      exact kz
    obtain ⟨T8, X8, e8, st8⟩ := getF X7 hx hZ hown (host := "") (Or.inl (hw _ (List.mem_of_getElem? (i := 36) rfl))) Via.refl e7 V2 (g := (mkF m 41 #[.val (.ref x1), .val (.ref x2), .val (.ref x2)] [(.ref x2), (.ref u1)])) rfl rfl (hb hby d3_41)
    refine own_go (A := T8.setTop (mkF m 44 #[.val (.ref x1), .val (.ref x2), .val (.ref x2)] [(.ref u2), (.ref u1)])) (fun _ kz => st8 _ kz) ?_
    obtain ⟨_, _, ⟨T9, L9, k9, n9⟩, -, X9, ⟨Lc9, hQ9, l9, y9, z9⟩, st9⟩ := Jvm.LawKit.callS X8 hx (y := (⟨"java/lang/StringLatin1", "equals", "([B[B)Z"⟩ : MethodName)) hown (mvT hZ (hw _ (List.mem_of_getElem? (i := 37) rfl))) (mvT hZ (hw _ (List.mem_of_getElem? (i := 38) rfl))) (mvT hZ (hw _ (List.mem_of_getElem? (i := 39) rfl))) (mvT hZ (hw _ (List.mem_of_getElem? (i := 40) rfl))) (by decide) (backOf (W := 0) (rmLe4 l Z a0 hw [] u1 u2 k1 k2 h0 n0 Z0 A1 A2) hZ (hw _ (List.mem_of_getElem? (i := 40) rfl)) (hw _ (List.mem_of_getElem? (i := 39) rfl)) (by decide) (by decide)) (g := (mkF m 44 #[.val (.ref x1), .val (.ref x2), .val (.ref x2)] [(.ref u2), (.ref u1)])) rfl (by rw [hml]; rfl) (argsL := [(.ref u1), (.ref u2)]) (rest := []) (lenOf own_pd2 rfl) rfl (by show 2 * 0 + _ ≤ _; exact Nat.le_of_eq rfl) (hb hby d3_44) (fun _ _ => ⟨rfl, e8, (by decide : 0 + 0 ≤ _), (by decide : 0 + 0 ≤ _)⟩)
    dsimp only [Pt.U, Pt.locs, Pt.cells, Pt.slots] at X9 l9 y9 z9 st9 hQ9
    subst l9 y9 z9
    obtain ⟨rfl, N9q, e9⟩ := hQ9
    have N9 := Fr.app N0 N9q
    refine own_go (A := T9.setTop (mkF m 47 #[.val (.ref x1), .val (.ref x2), .val (.ref x2)] [(.int (1 : Int32))])) (fun _ kz => st9 _ kz) ?_
    refine own_go (A := T9.setTop (mkF m 55 #[.val (.ref x1), .val (.ref x2), .val (.ref x2)] [(.int (1 : Int32))])) (fun _ kz => ?_) ?_
    · show Steps p.tables e below (T9.setTop (mkF m 47 #[.val (.ref x1), .val (.ref x2), .val (.ref x2)] [(.int (1 : Int32))])) _
      refine XS.ifNo X9.here hx rfl (hb hby d3_47) rfl ((if0 _ _).trans (feq (by decide : ¬ ((1 : Int32) = (0 : Int32)))).1) ?_
      show Steps p.tables e below (T9.setTop (mkF m 50 #[.val (.ref x1), .val (.ref x2), .val (.ref x2)] [])) _
      refine XS.iconst X9.here hx rfl (hb hby d3_50) ?_
      show Steps p.tables e below (T9.setTop (mkF m 51 #[.val (.ref x1), .val (.ref x2), .val (.ref x2)] [(.int (1 : Int32))])) _
      refine XS.goto X9.here hx rfl (pc0 := 51) (pc' := 55) rfl (hb hby d3_51) (by decide) (by decide) ?_
      exact kz
    obtain ⟨fs, hrr, hrun, hended, hW, hsame⟩ := X9.leave (v := some (.int (1 : Int32))) (fun h => by rw [Bd.returns] at h; cases h)
    refine ⟨_, _, ?_, hrun, hended, _, _, rfl, ?_, ⟨_, rfl⟩, hW, hsame.mono (by decide) (by decide)⟩
    · show Steps p.tables e below (T9.setTop (mkF m 55 #[.val (.ref x1), .val (.ref x2), .val (.ref x2)] [(.int (1 : Int32))])) _
      exact retN X9 hx (t := .boolean) Bd.returns (by simp) (hb hby d3_55) hrr
    · show QrmSe4 Z  h0 n0 _ T9.heap _
      rw [e9]
      exact ⟨rfl, N9, rfl⟩
def QrmLe5 (Z : State)  (h0 : Heap) (n0 : Nat) (v : Option Value) (h : Heap) (L : List Loc) : Prop := v = some (.int (0 : Int32)) ∧ Fr n0 L ∧ h = h0
set_option maxRecDepth 65536 in
set_option maxHeartbeats 40000000 in
theorem rmLe5 (l : Launch) (Z : State) (a0 : Array Value) (hw : ∀ d ∈ tables_1, d.before a0 Z = true) (ws : List Jvm.Cond) (u1 u2 : Addr) (k1 k2 : ClassId) (h0 : Heap) (n0 : Nat) (Z0 : n0 ≤ h0.size) (A1 : Arv Z h0 u1 k1 .byte (6 : Int32) [(.int (100 : Int32)), (.int (101 : Int32)), (.int (108 : Int32)), (.int (101 : Int32)), (.int (116 : Int32)), (.int (101 : Int32))] (.int (0 : Int32))) (A2 : Arv Z h0 u2 k2 .byte (6 : Int32) [(.int (105 : Int32)), (.int (110 : Int32)), (.int (115 : Int32)), (.int (101 : Int32)), (.int (114 : Int32)), (.int (116 : Int32))] (.int (0 : Int32))) :
    MetFree l (⟨"java/lang/StringLatin1", "equals", "([B[B)Z"⟩ : MethodName) (head1 (Jvm.Cond.code (⟨"java/lang/StringLatin1", "equals", "([B[B)Z"⟩ : MethodName) jdk_43_method_13_code 3 (some .boolean) :: ws) ({ frames := 0, cells := 0, slots := 0, locals := 0 } : Room)) (fun ar_ U_ => ar_ = #[(.ref u1), (.ref u2)] ∧ Z.Warmed39 U_.vm ∧ U_.heap = h0) (fun _ _ _ _ _ => True) (fun _ U_ ou_ V_ => ∃ v_ L_, ou_ = .returned v_ ∧ QrmLe5 Z  h0 n0 v_ V_.heap L_ ∧ FrameEnd U_ ou_ V_ L_ ({ frames := 0, cells := 0, slots := 0, locals := 0 } : Room).cells ({ frames := 0, cells := 0, slots := 0, locals := 0 } : Room).slots) := by
  refine MetFree.of_bodySF (plainFor_of_name own_pn4) hisR ?_
  intro p e s m args below meth c s₁ Bd hml0 hP hK
  obtain ⟨rfl, hZ, hh⟩ := hP
  have hx := Bd.exec
  have hby := Bd.bytes
  have hml : c.maxLocals = 3 := hml0
  have hown : s.vm.findClass "java/lang/StringLatin1" = some m.cls := findClass_of_methodNamed Bd.named
  have hnm := (name_of_methodNamed Bd.named Bd.method).1
  have X0 : Stand p l e ({ frames := 0, cells := 0, slots := 0, locals := 0 } : Room) s m #[(.ref u1), (.ref u2)] below meth c s₁ [] 0 0 := Stand.of_body Bd
  have e0 : s₁.heap = h0 := by rw [← hh, Bd.state]; rfl
  have N0 := Fr.nil n0
  refine own_go (A := s₁.setTop (mkF m 0 #[.val (.ref u1), .val (.ref u2), .unset] [])) (fun t kz => castTop (own_ef4 m u1 u2) kz) ?_
  refine own_go (A := s₁.setTop (mkF m 1 #[.val (.ref u1), .val (.ref u2), .unset] [(.ref u1)])) (fun _ kz => ?_) ?_
  · show Steps p.tables e below (s₁.setTop (mkF m 0 #[.val (.ref u1), .val (.ref u2), .unset] [])) _
    refine XS.aloadN X0.here hx rfl (hb hby d4_0) rfl rfl ?_
    exact kz
  obtain ⟨cl1, Ar1, -, S1, M1, -, -⟩ := id A1
  refine own_go (A := s₁.setTop (mkF m 2 #[.val (.ref u1), .val (.ref u2), .unset] [(.int (6 : Int32))])) (fun _ kz => ?_) ?_
  · refine X0.arraylength hx (by rw [e0]; exact Ar1.1) (State.isArrayOf_alike hZ.alike Ar1.2.1) (g := (mkF m 1 #[.val (.ref u1), .val (.ref u2), .unset] [(.ref u1)])) rfl rfl (hb hby d4_1) _ ?_
    rw [len_of S1 M1]
    exact kz
  refine own_go (A := s₁.setTop (mkF m 3 #[.val (.ref u1), .val (.ref u2), .unset] [(.ref u2), (.int (6 : Int32))])) (fun _ kz => ?_) ?_
  · show Steps p.tables e below (s₁.setTop (mkF m 2 #[.val (.ref u1), .val (.ref u2), .unset] [(.int (6 : Int32))])) _
    refine XS.aloadN X0.here hx rfl (hb hby d4_2) rfl rfl ?_
    exact kz
  obtain ⟨cl2, Ar2, -, S2, M2, -, -⟩ := id A2
  refine own_go (A := s₁.setTop (mkF m 4 #[.val (.ref u1), .val (.ref u2), .unset] [(.int (6 : Int32)), (.int (6 : Int32))])) (fun _ kz => ?_) ?_
  · refine X0.arraylength hx (by rw [e0]; exact Ar2.1) (State.isArrayOf_alike hZ.alike Ar2.2.1) (g := (mkF m 3 #[.val (.ref u1), .val (.ref u2), .unset] [(.ref u2), (.int (6 : Int32))])) rfl rfl (hb hby d4_3) _ ?_
    rw [len_of S2 M2]
    exact kz
  refine own_go (A := s₁.setTop (mkF m 11 #[.val (.ref u1), .val (.ref u2), .val (.int (0 : Int32))] [(.ref u1), (.int (0 : Int32))])) (fun _ kz => ?_) ?_
  · show Steps p.tables e below (s₁.setTop (mkF m 4 #[.val (.ref u1), .val (.ref u2), .unset] [(.int (6 : Int32)), (.int (6 : Int32))])) _
    refine XS.icmpNo X0.here hx rfl (hb hby d4_4) rfl (teq (by decide : ((6 : Int32) = (6 : Int32)))).2 ?_
    show Steps p.tables e below (s₁.setTop (mkF m 7 #[.val (.ref u1), .val (.ref u2), .unset] [])) _
    refine XS.iconst X0.here hx rfl (hb hby d4_7) ?_
    show Steps p.tables e below (s₁.setTop (mkF m 8 #[.val (.ref u1), .val (.ref u2), .unset] [(.int (0 : Int32))])) _
    refine XS.istoreN X0.here hx rfl (hb hby d4_8) rfl (l' := #[.val (.ref u1), .val (.ref u2), .val (.int (0 : Int32))]) rfl ?_
    show Steps p.tables e below (s₁.setTop (mkF m 9 #[.val (.ref u1), .val (.ref u2), .val (.int (0 : Int32))] [])) _
    refine XS.iloadN X0.here hx rfl (hb hby d4_9) rfl ?_
    show Steps p.tables e below (s₁.setTop (mkF m 10 #[.val (.ref u1), .val (.ref u2), .val (.int (0 : Int32))] [(.int (0 : Int32))])) _
    refine XS.aloadN X0.here hx rfl (hb hby d4_10) rfl rfl ?_
    exact kz
  obtain ⟨cl3, Ar3, -, S3, M3, -, -⟩ := id A1
  refine own_go (A := s₁.setTop (mkF m 12 #[.val (.ref u1), .val (.ref u2), .val (.int (0 : Int32))] [(.int (6 : Int32)), (.int (0 : Int32))])) (fun _ kz => ?_) ?_
  · refine X0.arraylength hx (by rw [e0]; exact Ar3.1) (State.isArrayOf_alike hZ.alike Ar3.2.1) (g := (mkF m 11 #[.val (.ref u1), .val (.ref u2), .val (.int (0 : Int32))] [(.ref u1), (.int (0 : Int32))])) rfl rfl (hb hby d4_11) _ ?_
    rw [len_of S3 M3]
    exact kz
  refine own_go (A := s₁.setTop (mkF m 17 #[.val (.ref u1), .val (.ref u2), .val (.int (0 : Int32))] [(.int (0 : Int32)), (.ref u1)])) (fun _ kz => ?_) ?_
  · show Steps p.tables e below (s₁.setTop (mkF m 12 #[.val (.ref u1), .val (.ref u2), .val (.int (0 : Int32))] [(.int (6 : Int32)), (.int (0 : Int32))])) _
    refine XS.icmpNo X0.here hx rfl (hb hby d4_12) rfl (tlt (by decide : ((0 : Int32) < (6 : Int32)))).2.1 ?_
    show Steps p.tables e below (s₁.setTop (mkF m 15 #[.val (.ref u1), .val (.ref u2), .val (.int (0 : Int32))] [])) _
    refine XS.aloadN X0.here hx rfl (hb hby d4_15) rfl rfl ?_
    show Steps p.tables e below (s₁.setTop (mkF m 16 #[.val (.ref u1), .val (.ref u2), .val (.int (0 : Int32))] [(.ref u1)])) _
    refine XS.iloadN X0.here hx rfl (hb hby d4_16) rfl ?_
    exact kz
  obtain ⟨cl4, Ar4, -, S4, M4, H4, -⟩ := id A1
  have hin4 : ¬ ((0 : Int32) < 0 ∨ cl4.slots.size ≤ ((0 : Int32)).toNatClampNeg) := inb_of S4 ⟨by decide, by decide⟩
  have hat4 : cl4.slots[((0 : Int32)).toNatClampNeg]? = some (.int (100 : Int32)) := H4.at hin4 rfl
  refine own_go (A := s₁.setTop (mkF m 18 #[.val (.ref u1), .val (.ref u2), .val (.int (0 : Int32))] [(.int (100 : Int32))])) (fun _ kz => ?_) ?_
  · refine X0.baloadBytes hx (j := (0 : Int32)) (v := (.int (100 : Int32))) (by rw [e0]; exact Ar4.1) (State.isArrayOf_alike hZ.alike Ar4.2.1) Ar4.2.2 hin4 hat4 (g := (mkF m 17 #[.val (.ref u1), .val (.ref u2), .val (.int (0 : Int32))] [(.int (0 : Int32)), (.ref u1)])) rfl rfl (hb hby d4_17) _ ?_
    exact kz
  refine own_go (A := s₁.setTop (mkF m 20 #[.val (.ref u1), .val (.ref u2), .val (.int (0 : Int32))] [(.int (0 : Int32)), (.ref u2), (.int (100 : Int32))])) (fun _ kz => ?_) ?_
  · show Steps p.tables e below (s₁.setTop (mkF m 18 #[.val (.ref u1), .val (.ref u2), .val (.int (0 : Int32))] [(.int (100 : Int32))])) _
    refine XS.aloadN X0.here hx rfl (hb hby d4_18) rfl rfl ?_
    show Steps p.tables e below (s₁.setTop (mkF m 19 #[.val (.ref u1), .val (.ref u2), .val (.int (0 : Int32))] [(.ref u2), (.int (100 : Int32))])) _
    refine XS.iloadN X0.here hx rfl (hb hby d4_19) rfl ?_
    exact kz
  obtain ⟨cl5, Ar5, -, S5, M5, H5, -⟩ := id A2
  have hin5 : ¬ ((0 : Int32) < 0 ∨ cl5.slots.size ≤ ((0 : Int32)).toNatClampNeg) := inb_of S5 ⟨by decide, by decide⟩
  have hat5 : cl5.slots[((0 : Int32)).toNatClampNeg]? = some (.int (105 : Int32)) := H5.at hin5 rfl
  refine own_go (A := s₁.setTop (mkF m 21 #[.val (.ref u1), .val (.ref u2), .val (.int (0 : Int32))] [(.int (105 : Int32)), (.int (100 : Int32))])) (fun _ kz => ?_) ?_
  · refine X0.baloadBytes hx (j := (0 : Int32)) (v := (.int (105 : Int32))) (by rw [e0]; exact Ar5.1) (State.isArrayOf_alike hZ.alike Ar5.2.1) Ar5.2.2 hin5 hat5 (g := (mkF m 20 #[.val (.ref u1), .val (.ref u2), .val (.int (0 : Int32))] [(.int (0 : Int32)), (.ref u2), (.int (100 : Int32))])) rfl rfl (hb hby d4_20) _ ?_
    exact kz
  refine own_go (A := s₁.setTop (mkF m 25 #[.val (.ref u1), .val (.ref u2), .val (.int (0 : Int32))] [(.int (0 : Int32))])) (fun _ kz => ?_) ?_
  · show Steps p.tables e below (s₁.setTop (mkF m 21 #[.val (.ref u1), .val (.ref u2), .val (.int (0 : Int32))] [(.int (105 : Int32)), (.int (100 : Int32))])) _
    refine XS.icmpNo X0.here hx rfl (hb hby d4_21) rfl (feq (by decide : ¬ ((100 : Int32) = (105 : Int32)))).1 ?_
    show Steps p.tables e below (s₁.setTop (mkF m 24 #[.val (.ref u1), .val (.ref u2), .val (.int (0 : Int32))] [])) _
    refine XS.iconst X0.here hx rfl (hb hby d4_24) ?_
    exact kz
  obtain ⟨fs, hrr, hrun, hended, hW, hsame⟩ := X0.leave (v := some (.int (0 : Int32))) (fun h => by rw [Bd.returns] at h; cases h)
  refine ⟨_, _, ?_, hrun, hended, _, _, rfl, ?_, ⟨_, rfl⟩, hW, hsame.mono (by decide) (by decide)⟩
  · show Steps p.tables e below (s₁.setTop (mkF m 25 #[.val (.ref u1), .val (.ref u2), .val (.int (0 : Int32))] [(.int (0 : Int32))])) _
    exact retN X0 hx (t := .boolean) Bd.returns (by simp) (hb hby d4_25) hrr
  · show QrmLe5 Z  h0 n0 _ s₁.heap _
    rw [e0]
    exact ⟨rfl, N0, rfl⟩
def QrmSe5 (Z : State)  (h0 : Heap) (n0 : Nat) (v : Option Value) (h : Heap) (L : List Loc) : Prop := v = some (.int (0 : Int32)) ∧ Fr n0 L ∧ h = h0
set_option maxRecDepth 65536 in
set_option maxHeartbeats 40000000 in
theorem rmSe5 (l : Launch) (Z : State) (a0 : Array Value) (hw : ∀ d ∈ tables_1, d.before a0 Z = true) (ws : List Jvm.Cond) (x1 x2 u1 u2 : Addr) (k1 k2 : ClassId) (cs : Int32) (h0 : Heap) (n0 : Nat) (Z0 : n0 ≤ h0.size) (E1 : Exa Z h0 x1 "java/lang/String") (E2 : Exa Z h0 x2 "java/lang/String") (C1 : Fld Z h0 x1 "java/lang/String" "coder" "B" (.int (0 : Int32))) (C2 : Fld Z h0 x2 "java/lang/String" "coder" "B" (.int (0 : Int32))) (V1 : Fld Z h0 x1 "java/lang/String" "value" "[B" (.ref u1)) (V2 : Fld Z h0 x2 "java/lang/String" "value" "[B" (.ref u2)) (A1 : Arv Z h0 u1 k1 .byte (6 : Int32) [(.int (100 : Int32)), (.int (101 : Int32)), (.int (108 : Int32)), (.int (101 : Int32)), (.int (116 : Int32)), (.int (101 : Int32))] (.int (0 : Int32))) (A2 : Arv Z h0 u2 k2 .byte (6 : Int32) [(.int (105 : Int32)), (.int (110 : Int32)), (.int (115 : Int32)), (.int (101 : Int32)), (.int (114 : Int32)), (.int (116 : Int32))] (.int (0 : Int32))) (hcs : ¬ (cs = (0 : Int32))) (S_cs : Sta Z h0 "java/lang/String" "COMPACT_STRINGS" "Z" (.int cs)) :
    MetFree l (⟨"java/lang/String", "equals", "(Ljava/lang/Object;)Z"⟩ : MethodName) (head1 (Jvm.Cond.code (⟨"java/lang/String", "equals", "(Ljava/lang/Object;)Z"⟩ : MethodName) jdk_42_method_66_code 3 (some .boolean) :: ws) ({ frames := 1, cells := 0, slots := 0, locals := 14 } : Room)) (fun ar_ U_ => ar_ = #[(.ref x1), (.ref x2)] ∧ Z.Warmed39 U_.vm ∧ U_.heap = h0) (fun _ _ _ _ _ => True) (fun _ U_ ou_ V_ => ∃ v_ L_, ou_ = .returned v_ ∧ QrmSe5 Z  h0 n0 v_ V_.heap L_ ∧ FrameEnd U_ ou_ V_ L_ ({ frames := 1, cells := 0, slots := 0, locals := 14 } : Room).cells ({ frames := 1, cells := 0, slots := 0, locals := 14 } : Room).slots) := by
  refine MetFree.of_bodySF (plainFor_of_name own_pn3) hisR ?_
  intro p e s m args below meth c s₁ Bd hml0 hP hK
  obtain ⟨rfl, hZ, hh⟩ := hP
  have hx := Bd.exec
  have hby := Bd.bytes
  have hml : c.maxLocals = 3 := hml0
  have hown : s.vm.findClass "java/lang/String" = some m.cls := findClass_of_methodNamed Bd.named
  have hnm := (name_of_methodNamed Bd.named Bd.method).1
  have X0 : Stand p l e ({ frames := 1, cells := 0, slots := 0, locals := 14 } : Room) s m #[(.ref x1), (.ref x2)] below meth c s₁ [] 0 0 := Stand.of_body Bd
  have e0 : s₁.heap = h0 := by rw [← hh, Bd.state]; rfl
  have N0 := Fr.nil n0
  have ne_u : u1 ≠ u2 := arv_ne A1 A2 (Or.inr ⟨0, by decide, by decide⟩)
  have ne_x : x1 ≠ x2 := Fld.ne V1 V2 (fun q => ne_u (Value.ref.inj q))
  refine own_go (A := s₁.setTop (mkF m 0 #[.val (.ref x1), .val (.ref x2), .unset] [])) (fun t kz => castTop (own_ef3 m x1 x2) kz) ?_
  refine own_go (A := s₁.setTop (mkF m 8 #[.val (.ref x1), .val (.ref x2), .unset] [(.ref x2)])) (fun _ kz => ?_) ?_
  · show Steps p.tables e below (s₁.setTop (mkF m 0 #[.val (.ref x1), .val (.ref x2), .unset] [])) _
    refine XS.aloadN X0.here hx rfl (hb hby d3_0) rfl rfl ?_
    show Steps p.tables e below (s₁.setTop (mkF m 1 #[.val (.ref x1), .val (.ref x2), .unset] [(.ref x1)])) _
    refine XS.aloadN X0.here hx rfl (hb hby d3_1) rfl rfl ?_
    show Steps p.tables e below (s₁.setTop (mkF m 2 #[.val (.ref x1), .val (.ref x2), .unset] [(.ref x2), (.ref x1)])) _
    refine Jvm.RoadKit.acmp (g := (mkF m 2 #[.val (.ref x1), .val (.ref x2), .unset] [(.ref x2), (.ref x1)])) X0 hx rfl rfl rfl (pc0 := 2) (pc' := 7) (same := false) rfl (hb hby d3_2) rfl (decide_eq_false fun q => ne_x (Value.ref.inj q)) (by decide) (by decide) ?_
    show Steps p.tables e below (s₁.setTop (mkF m 7 #[.val (.ref x1), .val (.ref x2), .unset] [])) _
    refine XS.aloadN X0.here hx rfl (hb hby d3_7) rfl rfl ?_
    exact kz
  obtain ⟨T1, X1, e1, st1⟩ := instY X0 hx hZ hown (hw _ (List.mem_of_getElem? (i := 32) rfl)) e0 (Ins.of_exa E2 (hw _ (List.mem_of_getElem? (i := 33) rfl))) (g := (mkF m 8 #[.val (.ref x1), .val (.ref x2), .unset] [(.ref x2)])) rfl rfl (hb hby d3_8)
  refine own_go (A := T1.setTop (mkF m 11 #[.val (.ref x1), .val (.ref x2), .unset] [(.int (1 : Int32))])) (fun _ kz => st1 _ kz) ?_
  refine own_go (A := T1.setTop (mkF m 15 #[.val (.ref x1), .val (.ref x2), .unset] [(.ref x2)])) (fun _ kz => ?_) ?_
  · show Steps p.tables e below (T1.setTop (mkF m 11 #[.val (.ref x1), .val (.ref x2), .unset] [(.int (1 : Int32))])) _
    refine XS.ifNo X1.here hx rfl (hb hby d3_11) rfl ((if0 _ _).trans (feq (by decide : ¬ ((1 : Int32) = (0 : Int32)))).1) ?_
    show Steps p.tables e below (T1.setTop (mkF m 14 #[.val (.ref x1), .val (.ref x2), .unset] [])) _
    refine XS.aloadN X1.here hx rfl (hb hby d3_14) rfl rfl ?_
    exact kz
  obtain ⟨T2, X2, e2, st2⟩ := castY X1 hx hZ hown (hw _ (List.mem_of_getElem? (i := 32) rfl)) e1 (Ins.of_exa E2 (hw _ (List.mem_of_getElem? (i := 33) rfl))) (g := (mkF m 15 #[.val (.ref x1), .val (.ref x2), .unset] [(.ref x2)])) rfl rfl (hb hby d3_15)
  refine own_go (A := T2.setTop (mkF m 18 #[.val (.ref x1), .val (.ref x2), .unset] [(.ref x2)])) (fun _ kz => st2 _ kz) ?_
  refine own_go (A := T2.setTop (mkF m 19 #[.val (.ref x1), .val (.ref x2), .val (.ref x2)] [])) (fun _ kz => ?_) ?_
  · show Steps p.tables e below (T2.setTop (mkF m 18 #[.val (.ref x1), .val (.ref x2), .unset] [(.ref x2)])) _
    refine XS.astoreN X2.here hx rfl (hb hby d3_18) rfl rfl (l' := #[.val (.ref x1), .val (.ref x2), .val (.ref x2)]) rfl ?_
    exact kz
  obtain ⟨T3, X3, e3, st3⟩ := getS2 X2 hx hZ hown (host := "") (Or.inl (hw _ (List.mem_of_getElem? (i := 34) rfl))) Via.refl e2 S_cs (g := (mkF m 19 #[.val (.ref x1), .val (.ref x2), .val (.ref x2)] [])) rfl (hb hby d3_19)
  refine own_go (A := T3.setTop (mkF m 22 #[.val (.ref x1), .val (.ref x2), .val (.ref x2)] [(.int cs)])) (fun _ kz => st3 _ kz) ?_
  refine own_go (A := T3.setTop (mkF m 26 #[.val (.ref x1), .val (.ref x2), .val (.ref x2)] [(.ref x1)])) (fun _ kz => ?_) ?_
  · show Steps p.tables e below (T3.setTop (mkF m 22 #[.val (.ref x1), .val (.ref x2), .val (.ref x2)] [(.int cs)])) _
    refine XS.ifNo X3.here hx rfl (hb hby d3_22) rfl ((if0 _ _).trans (feq hcs).1) ?_
    show Steps p.tables e below (T3.setTop (mkF m 25 #[.val (.ref x1), .val (.ref x2), .val (.ref x2)] [])) _
    refine XS.aloadN X3.here hx rfl (hb hby d3_25) rfl rfl ?_
    exact kz
  obtain ⟨T4, X4, e4, st4⟩ := getF X3 hx hZ hown (host := "") (Or.inl (hw _ (List.mem_of_getElem? (i := 35) rfl))) Via.refl e3 C1 (g := (mkF m 26 #[.val (.ref x1), .val (.ref x2), .val (.ref x2)] [(.ref x1)])) rfl rfl (hb hby d3_26)
  refine own_go (A := T4.setTop (mkF m 29 #[.val (.ref x1), .val (.ref x2), .val (.ref x2)] [(.int (0 : Int32))])) (fun _ kz => st4 _ kz) ?_
  refine own_go (A := T4.setTop (mkF m 30 #[.val (.ref x1), .val (.ref x2), .val (.ref x2)] [(.ref x2), (.int (0 : Int32))])) (fun _ kz => ?_) ?_
  · show Steps p.tables e below (T4.setTop (mkF m 29 #[.val (.ref x1), .val (.ref x2), .val (.ref x2)] [(.int (0 : Int32))])) _
    refine XS.aloadN X4.here hx rfl (hb hby d3_29) rfl rfl ?_
    exact kz
  obtain ⟨T5, X5, e5, st5⟩ := getF X4 hx hZ hown (host := "") (Or.inl (hw _ (List.mem_of_getElem? (i := 35) rfl))) Via.refl e4 C2 (g := (mkF m 30 #[.val (.ref x1), .val (.ref x2), .val (.ref x2)] [(.ref x2), (.int (0 : Int32))])) rfl rfl (hb hby d3_30)
  refine own_go (A := T5.setTop (mkF m 33 #[.val (.ref x1), .val (.ref x2), .val (.ref x2)] [(.int (0 : Int32)), (.int (0 : Int32))])) (fun _ kz => st5 _ kz) ?_
  refine own_go (A := T5.setTop (mkF m 37 #[.val (.ref x1), .val (.ref x2), .val (.ref x2)] [(.ref x1)])) (fun _ kz => ?_) ?_
  · show Steps p.tables e below (T5.setTop (mkF m 33 #[.val (.ref x1), .val (.ref x2), .val (.ref x2)] [(.int (0 : Int32)), (.int (0 : Int32))])) _
    refine XS.icmpNo X5.here hx rfl (hb hby d3_33) rfl (teq (by decide : ((0 : Int32) = (0 : Int32)))).2 ?_
    show Steps p.tables e below (T5.setTop (mkF m 36 #[.val (.ref x1), .val (.ref x2), .val (.ref x2)] [])) _
    refine XS.aloadN X5.here hx rfl (hb hby d3_36) rfl rfl ?_
    exact kz
  obtain ⟨T6, X6, e6, st6⟩ := getF X5 hx hZ hown (host := "") (Or.inl (hw _ (List.mem_of_getElem? (i := 36) rfl))) Via.refl e5 V1 (g := (mkF m 37 #[.val (.ref x1), .val (.ref x2), .val (.ref x2)] [(.ref x1)])) rfl rfl (hb hby d3_37)
  refine own_go (A := T6.setTop (mkF m 40 #[.val (.ref x1), .val (.ref x2), .val (.ref x2)] [(.ref u1)])) (fun _ kz => st6 _ kz) ?_
  refine own_go (A := T6.setTop (mkF m 41 #[.val (.ref x1), .val (.ref x2), .val (.ref x2)] [(.ref x2), (.ref u1)])) (fun _ kz => ?_) ?_
  · show Steps p.tables e below (T6.setTop (mkF m 40 #[.val (.ref x1), .val (.ref x2), .val (.ref x2)] [(.ref u1)])) _
    refine XS.aloadN X6.here hx rfl (hb hby d3_40) rfl rfl ?_
    exact kz
  obtain ⟨T7, X7, e7, st7⟩ := getF X6 hx hZ hown (host := "") (Or.inl (hw _ (List.mem_of_getElem? (i := 36) rfl))) Via.refl e6 V2 (g := (mkF m 41 #[.val (.ref x1), .val (.ref x2), .val (.ref x2)] [(.ref x2), (.ref u1)])) rfl rfl (hb hby d3_41)
  refine own_go (A := T7.setTop (mkF m 44 #[.val (.ref x1), .val (.ref x2), .val (.ref x2)] [(.ref u2), (.ref u1)])) (fun _ kz => st7 _ kz) ?_
  obtain ⟨_, _, ⟨T8, L8, k8, n8⟩, -, X8, ⟨Lc8, hQ8, l8, y8, z8⟩, st8⟩ := Jvm.LawKit.callS X7 hx (y := (⟨"java/lang/StringLatin1", "equals", "([B[B)Z"⟩ : MethodName)) hown (mvT hZ (hw _ (List.mem_of_getElem? (i := 37) rfl))) (mvT hZ (hw _ (List.mem_of_getElem? (i := 38) rfl))) (mvT hZ (hw _ (List.mem_of_getElem? (i := 39) rfl))) (mvT hZ (hw _ (List.mem_of_getElem? (i := 40) rfl))) (by decide) (backOf (W := 0) (rmLe5 l Z a0 hw [] u1 u2 k1 k2 h0 n0 Z0 A1 A2) hZ (hw _ (List.mem_of_getElem? (i := 40) rfl)) (hw _ (List.mem_of_getElem? (i := 39) rfl)) (by decide) (by decide)) (g := (mkF m 44 #[.val (.ref x1), .val (.ref x2), .val (.ref x2)] [(.ref u2), (.ref u1)])) rfl (by rw [hml]; rfl) (argsL := [(.ref u1), (.ref u2)]) (rest := []) (lenOf own_pd2 rfl) rfl (by show 2 * 0 + _ ≤ _; exact Nat.le_of_eq rfl) (hb hby d3_44) (fun _ _ => ⟨rfl, e7, (by decide : 0 + 0 ≤ _), (by decide : 0 + 0 ≤ _)⟩)
  dsimp only [Pt.U, Pt.locs, Pt.cells, Pt.slots] at X8 l8 y8 z8 st8 hQ8
  subst l8 y8 z8
  obtain ⟨rfl, N8q, e8⟩ := hQ8
  have N8 := Fr.app N0 N8q
  refine own_go (A := T8.setTop (mkF m 47 #[.val (.ref x1), .val (.ref x2), .val (.ref x2)] [(.int (0 : Int32))])) (fun _ kz => st8 _ kz) ?_
  refine own_go (A := T8.setTop (mkF m 55 #[.val (.ref x1), .val (.ref x2), .val (.ref x2)] [(.int (0 : Int32))])) (fun _ kz => ?_) ?_
  · show Steps p.tables e below (T8.setTop (mkF m 47 #[.val (.ref x1), .val (.ref x2), .val (.ref x2)] [(.int (0 : Int32))])) _
    refine XS.ifYes X8.here hx rfl (pc0 := 47) (pc' := 54) rfl (hb hby d3_47) rfl ((if0 _ _).trans (teq (by decide : ((0 : Int32) = (0 : Int32)))).1) (by decide) (by decide) ?_
    show Steps p.tables e below (T8.setTop (mkF m 54 #[.val (.ref x1), .val (.ref x2), .val (.ref x2)] [])) _
    refine XS.iconst X8.here hx rfl (hb hby d3_54) ?_
    exact kz
  obtain ⟨fs, hrr, hrun, hended, hW, hsame⟩ := X8.leave (v := some (.int (0 : Int32))) (fun h => by rw [Bd.returns] at h; cases h)
  refine ⟨_, _, ?_, hrun, hended, _, _, rfl, ?_, ⟨_, rfl⟩, hW, hsame.mono (by decide) (by decide)⟩
  · show Steps p.tables e below (T8.setTop (mkF m 55 #[.val (.ref x1), .val (.ref x2), .val (.ref x2)] [(.int (0 : Int32))])) _
    exact retN X8 hx (t := .boolean) Bd.returns (by simp) (hb hby d3_55) hrr
  · show QrmSe5 Z  h0 n0 _ T8.heap _
    rw [e8]
    exact ⟨rfl, N8, rfl⟩
def QrmLe6 (Z : State)  (h0 : Heap) (n0 : Nat) (v : Option Value) (h : Heap) (L : List Loc) : Prop := v = some (.int (0 : Int32)) ∧ Fr n0 L ∧ h = h0
set_option maxRecDepth 65536 in
set_option maxHeartbeats 40000000 in
theorem rmLe6 (l : Launch) (Z : State) (a0 : Array Value) (hw : ∀ d ∈ tables_1, d.before a0 Z = true) (ws : List Jvm.Cond) (u1 u2 : Addr) (k1 k2 : ClassId) (h0 : Heap) (n0 : Nat) (Z0 : n0 ≤ h0.size) (A1 : Arv Z h0 u1 k1 .byte (6 : Int32) [(.int (100 : Int32)), (.int (101 : Int32)), (.int (108 : Int32)), (.int (101 : Int32)), (.int (116 : Int32)), (.int (101 : Int32))] (.int (0 : Int32))) (A2 : Arv Z h0 u2 k2 .byte (6 : Int32) [(.int (117 : Int32)), (.int (112 : Int32)), (.int (100 : Int32)), (.int (97 : Int32)), (.int (116 : Int32)), (.int (101 : Int32))] (.int (0 : Int32))) :
    MetFree l (⟨"java/lang/StringLatin1", "equals", "([B[B)Z"⟩ : MethodName) (head1 (Jvm.Cond.code (⟨"java/lang/StringLatin1", "equals", "([B[B)Z"⟩ : MethodName) jdk_43_method_13_code 3 (some .boolean) :: ws) ({ frames := 0, cells := 0, slots := 0, locals := 0 } : Room)) (fun ar_ U_ => ar_ = #[(.ref u1), (.ref u2)] ∧ Z.Warmed39 U_.vm ∧ U_.heap = h0) (fun _ _ _ _ _ => True) (fun _ U_ ou_ V_ => ∃ v_ L_, ou_ = .returned v_ ∧ QrmLe6 Z  h0 n0 v_ V_.heap L_ ∧ FrameEnd U_ ou_ V_ L_ ({ frames := 0, cells := 0, slots := 0, locals := 0 } : Room).cells ({ frames := 0, cells := 0, slots := 0, locals := 0 } : Room).slots) := by
  refine MetFree.of_bodySF (plainFor_of_name own_pn4) hisR ?_
  intro p e s m args below meth c s₁ Bd hml0 hP hK
  obtain ⟨rfl, hZ, hh⟩ := hP
  have hx := Bd.exec
  have hby := Bd.bytes
  have hml : c.maxLocals = 3 := hml0
  have hown : s.vm.findClass "java/lang/StringLatin1" = some m.cls := findClass_of_methodNamed Bd.named
  have hnm := (name_of_methodNamed Bd.named Bd.method).1
  have X0 : Stand p l e ({ frames := 0, cells := 0, slots := 0, locals := 0 } : Room) s m #[(.ref u1), (.ref u2)] below meth c s₁ [] 0 0 := Stand.of_body Bd
  have e0 : s₁.heap = h0 := by rw [← hh, Bd.state]; rfl
  have N0 := Fr.nil n0
  refine own_go (A := s₁.setTop (mkF m 0 #[.val (.ref u1), .val (.ref u2), .unset] [])) (fun t kz => castTop (own_ef4 m u1 u2) kz) ?_
  refine own_go (A := s₁.setTop (mkF m 1 #[.val (.ref u1), .val (.ref u2), .unset] [(.ref u1)])) (fun _ kz => ?_) ?_
  · show Steps p.tables e below (s₁.setTop (mkF m 0 #[.val (.ref u1), .val (.ref u2), .unset] [])) _
    refine XS.aloadN X0.here hx rfl (hb hby d4_0) rfl rfl ?_
    exact kz
  obtain ⟨cl1, Ar1, -, S1, M1, -, -⟩ := id A1
  refine own_go (A := s₁.setTop (mkF m 2 #[.val (.ref u1), .val (.ref u2), .unset] [(.int (6 : Int32))])) (fun _ kz => ?_) ?_
  · refine X0.arraylength hx (by rw [e0]; exact Ar1.1) (State.isArrayOf_alike hZ.alike Ar1.2.1) (g := (mkF m 1 #[.val (.ref u1), .val (.ref u2), .unset] [(.ref u1)])) rfl rfl (hb hby d4_1) _ ?_
    rw [len_of S1 M1]
    exact kz
  refine own_go (A := s₁.setTop (mkF m 3 #[.val (.ref u1), .val (.ref u2), .unset] [(.ref u2), (.int (6 : Int32))])) (fun _ kz => ?_) ?_
  · show Steps p.tables e below (s₁.setTop (mkF m 2 #[.val (.ref u1), .val (.ref u2), .unset] [(.int (6 : Int32))])) _
    refine XS.aloadN X0.here hx rfl (hb hby d4_2) rfl rfl ?_
    exact kz
  obtain ⟨cl2, Ar2, -, S2, M2, -, -⟩ := id A2
  refine own_go (A := s₁.setTop (mkF m 4 #[.val (.ref u1), .val (.ref u2), .unset] [(.int (6 : Int32)), (.int (6 : Int32))])) (fun _ kz => ?_) ?_
  · refine X0.arraylength hx (by rw [e0]; exact Ar2.1) (State.isArrayOf_alike hZ.alike Ar2.2.1) (g := (mkF m 3 #[.val (.ref u1), .val (.ref u2), .unset] [(.ref u2), (.int (6 : Int32))])) rfl rfl (hb hby d4_3) _ ?_
    rw [len_of S2 M2]
    exact kz
  refine own_go (A := s₁.setTop (mkF m 11 #[.val (.ref u1), .val (.ref u2), .val (.int (0 : Int32))] [(.ref u1), (.int (0 : Int32))])) (fun _ kz => ?_) ?_
  · show Steps p.tables e below (s₁.setTop (mkF m 4 #[.val (.ref u1), .val (.ref u2), .unset] [(.int (6 : Int32)), (.int (6 : Int32))])) _
    refine XS.icmpNo X0.here hx rfl (hb hby d4_4) rfl (teq (by decide : ((6 : Int32) = (6 : Int32)))).2 ?_
    show Steps p.tables e below (s₁.setTop (mkF m 7 #[.val (.ref u1), .val (.ref u2), .unset] [])) _
    refine XS.iconst X0.here hx rfl (hb hby d4_7) ?_
    show Steps p.tables e below (s₁.setTop (mkF m 8 #[.val (.ref u1), .val (.ref u2), .unset] [(.int (0 : Int32))])) _
    refine XS.istoreN X0.here hx rfl (hb hby d4_8) rfl (l' := #[.val (.ref u1), .val (.ref u2), .val (.int (0 : Int32))]) rfl ?_
    show Steps p.tables e below (s₁.setTop (mkF m 9 #[.val (.ref u1), .val (.ref u2), .val (.int (0 : Int32))] [])) _
    refine XS.iloadN X0.here hx rfl (hb hby d4_9) rfl ?_
    show Steps p.tables e below (s₁.setTop (mkF m 10 #[.val (.ref u1), .val (.ref u2), .val (.int (0 : Int32))] [(.int (0 : Int32))])) _
    refine XS.aloadN X0.here hx rfl (hb hby d4_10) rfl rfl ?_
    exact kz
  obtain ⟨cl3, Ar3, -, S3, M3, -, -⟩ := id A1
  refine own_go (A := s₁.setTop (mkF m 12 #[.val (.ref u1), .val (.ref u2), .val (.int (0 : Int32))] [(.int (6 : Int32)), (.int (0 : Int32))])) (fun _ kz => ?_) ?_
  · refine X0.arraylength hx (by rw [e0]; exact Ar3.1) (State.isArrayOf_alike hZ.alike Ar3.2.1) (g := (mkF m 11 #[.val (.ref u1), .val (.ref u2), .val (.int (0 : Int32))] [(.ref u1), (.int (0 : Int32))])) rfl rfl (hb hby d4_11) _ ?_
    rw [len_of S3 M3]
    exact kz
  refine own_go (A := s₁.setTop (mkF m 17 #[.val (.ref u1), .val (.ref u2), .val (.int (0 : Int32))] [(.int (0 : Int32)), (.ref u1)])) (fun _ kz => ?_) ?_
  · show Steps p.tables e below (s₁.setTop (mkF m 12 #[.val (.ref u1), .val (.ref u2), .val (.int (0 : Int32))] [(.int (6 : Int32)), (.int (0 : Int32))])) _
    refine XS.icmpNo X0.here hx rfl (hb hby d4_12) rfl (tlt (by decide : ((0 : Int32) < (6 : Int32)))).2.1 ?_
    show Steps p.tables e below (s₁.setTop (mkF m 15 #[.val (.ref u1), .val (.ref u2), .val (.int (0 : Int32))] [])) _
    refine XS.aloadN X0.here hx rfl (hb hby d4_15) rfl rfl ?_
    show Steps p.tables e below (s₁.setTop (mkF m 16 #[.val (.ref u1), .val (.ref u2), .val (.int (0 : Int32))] [(.ref u1)])) _
    refine XS.iloadN X0.here hx rfl (hb hby d4_16) rfl ?_
    exact kz
  obtain ⟨cl4, Ar4, -, S4, M4, H4, -⟩ := id A1
  have hin4 : ¬ ((0 : Int32) < 0 ∨ cl4.slots.size ≤ ((0 : Int32)).toNatClampNeg) := inb_of S4 ⟨by decide, by decide⟩
  have hat4 : cl4.slots[((0 : Int32)).toNatClampNeg]? = some (.int (100 : Int32)) := H4.at hin4 rfl
  refine own_go (A := s₁.setTop (mkF m 18 #[.val (.ref u1), .val (.ref u2), .val (.int (0 : Int32))] [(.int (100 : Int32))])) (fun _ kz => ?_) ?_
  · refine X0.baloadBytes hx (j := (0 : Int32)) (v := (.int (100 : Int32))) (by rw [e0]; exact Ar4.1) (State.isArrayOf_alike hZ.alike Ar4.2.1) Ar4.2.2 hin4 hat4 (g := (mkF m 17 #[.val (.ref u1), .val (.ref u2), .val (.int (0 : Int32))] [(.int (0 : Int32)), (.ref u1)])) rfl rfl (hb hby d4_17) _ ?_
    exact kz
  refine own_go (A := s₁.setTop (mkF m 20 #[.val (.ref u1), .val (.ref u2), .val (.int (0 : Int32))] [(.int (0 : Int32)), (.ref u2), (.int (100 : Int32))])) (fun _ kz => ?_) ?_
  · show Steps p.tables e below (s₁.setTop (mkF m 18 #[.val (.ref u1), .val (.ref u2), .val (.int (0 : Int32))] [(.int (100 : Int32))])) _
    refine XS.aloadN X0.here hx rfl (hb hby d4_18) rfl rfl ?_
    show Steps p.tables e below (s₁.setTop (mkF m 19 #[.val (.ref u1), .val (.ref u2), .val (.int (0 : Int32))] [(.ref u2), (.int (100 : Int32))])) _
    refine XS.iloadN X0.here hx rfl (hb hby d4_19) rfl ?_
    exact kz
  obtain ⟨cl5, Ar5, -, S5, M5, H5, -⟩ := id A2
  have hin5 : ¬ ((0 : Int32) < 0 ∨ cl5.slots.size ≤ ((0 : Int32)).toNatClampNeg) := inb_of S5 ⟨by decide, by decide⟩
  have hat5 : cl5.slots[((0 : Int32)).toNatClampNeg]? = some (.int (117 : Int32)) := H5.at hin5 rfl
  refine own_go (A := s₁.setTop (mkF m 21 #[.val (.ref u1), .val (.ref u2), .val (.int (0 : Int32))] [(.int (117 : Int32)), (.int (100 : Int32))])) (fun _ kz => ?_) ?_
  · refine X0.baloadBytes hx (j := (0 : Int32)) (v := (.int (117 : Int32))) (by rw [e0]; exact Ar5.1) (State.isArrayOf_alike hZ.alike Ar5.2.1) Ar5.2.2 hin5 hat5 (g := (mkF m 20 #[.val (.ref u1), .val (.ref u2), .val (.int (0 : Int32))] [(.int (0 : Int32)), (.ref u2), (.int (100 : Int32))])) rfl rfl (hb hby d4_20) _ ?_
    exact kz
  refine own_go (A := s₁.setTop (mkF m 25 #[.val (.ref u1), .val (.ref u2), .val (.int (0 : Int32))] [(.int (0 : Int32))])) (fun _ kz => ?_) ?_
  · show Steps p.tables e below (s₁.setTop (mkF m 21 #[.val (.ref u1), .val (.ref u2), .val (.int (0 : Int32))] [(.int (117 : Int32)), (.int (100 : Int32))])) _
    refine XS.icmpNo X0.here hx rfl (hb hby d4_21) rfl (feq (by decide : ¬ ((100 : Int32) = (117 : Int32)))).1 ?_
    show Steps p.tables e below (s₁.setTop (mkF m 24 #[.val (.ref u1), .val (.ref u2), .val (.int (0 : Int32))] [])) _
    refine XS.iconst X0.here hx rfl (hb hby d4_24) ?_
    exact kz
  obtain ⟨fs, hrr, hrun, hended, hW, hsame⟩ := X0.leave (v := some (.int (0 : Int32))) (fun h => by rw [Bd.returns] at h; cases h)
  refine ⟨_, _, ?_, hrun, hended, _, _, rfl, ?_, ⟨_, rfl⟩, hW, hsame.mono (by decide) (by decide)⟩
  · show Steps p.tables e below (s₁.setTop (mkF m 25 #[.val (.ref u1), .val (.ref u2), .val (.int (0 : Int32))] [(.int (0 : Int32))])) _
    exact retN X0 hx (t := .boolean) Bd.returns (by simp) (hb hby d4_25) hrr
  · show QrmLe6 Z  h0 n0 _ s₁.heap _
    rw [e0]
    exact ⟨rfl, N0, rfl⟩
def QrmSe6 (Z : State)  (h0 : Heap) (n0 : Nat) (v : Option Value) (h : Heap) (L : List Loc) : Prop := v = some (.int (0 : Int32)) ∧ Fr n0 L ∧ h = h0
set_option maxRecDepth 65536 in
set_option maxHeartbeats 40000000 in
theorem rmSe6 (l : Launch) (Z : State) (a0 : Array Value) (hw : ∀ d ∈ tables_1, d.before a0 Z = true) (ws : List Jvm.Cond) (x1 x2 u1 u2 : Addr) (k1 k2 : ClassId) (cs : Int32) (h0 : Heap) (n0 : Nat) (Z0 : n0 ≤ h0.size) (E1 : Exa Z h0 x1 "java/lang/String") (E2 : Exa Z h0 x2 "java/lang/String") (C1 : Fld Z h0 x1 "java/lang/String" "coder" "B" (.int (0 : Int32))) (C2 : Fld Z h0 x2 "java/lang/String" "coder" "B" (.int (0 : Int32))) (V1 : Fld Z h0 x1 "java/lang/String" "value" "[B" (.ref u1)) (V2 : Fld Z h0 x2 "java/lang/String" "value" "[B" (.ref u2)) (A1 : Arv Z h0 u1 k1 .byte (6 : Int32) [(.int (100 : Int32)), (.int (101 : Int32)), (.int (108 : Int32)), (.int (101 : Int32)), (.int (116 : Int32)), (.int (101 : Int32))] (.int (0 : Int32))) (A2 : Arv Z h0 u2 k2 .byte (6 : Int32) [(.int (117 : Int32)), (.int (112 : Int32)), (.int (100 : Int32)), (.int (97 : Int32)), (.int (116 : Int32)), (.int (101 : Int32))] (.int (0 : Int32))) (hcs : ¬ (cs = (0 : Int32))) (S_cs : Sta Z h0 "java/lang/String" "COMPACT_STRINGS" "Z" (.int cs)) :
    MetFree l (⟨"java/lang/String", "equals", "(Ljava/lang/Object;)Z"⟩ : MethodName) (head1 (Jvm.Cond.code (⟨"java/lang/String", "equals", "(Ljava/lang/Object;)Z"⟩ : MethodName) jdk_42_method_66_code 3 (some .boolean) :: ws) ({ frames := 1, cells := 0, slots := 0, locals := 14 } : Room)) (fun ar_ U_ => ar_ = #[(.ref x1), (.ref x2)] ∧ Z.Warmed39 U_.vm ∧ U_.heap = h0) (fun _ _ _ _ _ => True) (fun _ U_ ou_ V_ => ∃ v_ L_, ou_ = .returned v_ ∧ QrmSe6 Z  h0 n0 v_ V_.heap L_ ∧ FrameEnd U_ ou_ V_ L_ ({ frames := 1, cells := 0, slots := 0, locals := 14 } : Room).cells ({ frames := 1, cells := 0, slots := 0, locals := 14 } : Room).slots) := by
  refine MetFree.of_bodySF (plainFor_of_name own_pn3) hisR ?_
  intro p e s m args below meth c s₁ Bd hml0 hP hK
  obtain ⟨rfl, hZ, hh⟩ := hP
  have hx := Bd.exec
  have hby := Bd.bytes
  have hml : c.maxLocals = 3 := hml0
  have hown : s.vm.findClass "java/lang/String" = some m.cls := findClass_of_methodNamed Bd.named
  have hnm := (name_of_methodNamed Bd.named Bd.method).1
  have X0 : Stand p l e ({ frames := 1, cells := 0, slots := 0, locals := 14 } : Room) s m #[(.ref x1), (.ref x2)] below meth c s₁ [] 0 0 := Stand.of_body Bd
  have e0 : s₁.heap = h0 := by rw [← hh, Bd.state]; rfl
  have N0 := Fr.nil n0
  have ne_u : u1 ≠ u2 := arv_ne A1 A2 (Or.inr ⟨0, by decide, by decide⟩)
  have ne_x : x1 ≠ x2 := Fld.ne V1 V2 (fun q => ne_u (Value.ref.inj q))
  refine own_go (A := s₁.setTop (mkF m 0 #[.val (.ref x1), .val (.ref x2), .unset] [])) (fun t kz => castTop (own_ef3 m x1 x2) kz) ?_
  refine own_go (A := s₁.setTop (mkF m 8 #[.val (.ref x1), .val (.ref x2), .unset] [(.ref x2)])) (fun _ kz => ?_) ?_
  · show Steps p.tables e below (s₁.setTop (mkF m 0 #[.val (.ref x1), .val (.ref x2), .unset] [])) _
    refine XS.aloadN X0.here hx rfl (hb hby d3_0) rfl rfl ?_
    show Steps p.tables e below (s₁.setTop (mkF m 1 #[.val (.ref x1), .val (.ref x2), .unset] [(.ref x1)])) _
    refine XS.aloadN X0.here hx rfl (hb hby d3_1) rfl rfl ?_
    show Steps p.tables e below (s₁.setTop (mkF m 2 #[.val (.ref x1), .val (.ref x2), .unset] [(.ref x2), (.ref x1)])) _
    refine Jvm.RoadKit.acmp (g := (mkF m 2 #[.val (.ref x1), .val (.ref x2), .unset] [(.ref x2), (.ref x1)])) X0 hx rfl rfl rfl (pc0 := 2) (pc' := 7) (same := false) rfl (hb hby d3_2) rfl (decide_eq_false fun q => ne_x (Value.ref.inj q)) (by decide) (by decide) ?_
    show Steps p.tables e below (s₁.setTop (mkF m 7 #[.val (.ref x1), .val (.ref x2), .unset] [])) _
    refine XS.aloadN X0.here hx rfl (hb hby d3_7) rfl rfl ?_
    exact kz
  obtain ⟨T1, X1, e1, st1⟩ := instY X0 hx hZ hown (hw _ (List.mem_of_getElem? (i := 32) rfl)) e0 (Ins.of_exa E2 (hw _ (List.mem_of_getElem? (i := 33) rfl))) (g := (mkF m 8 #[.val (.ref x1), .val (.ref x2), .unset] [(.ref x2)])) rfl rfl (hb hby d3_8)
  refine own_go (A := T1.setTop (mkF m 11 #[.val (.ref x1), .val (.ref x2), .unset] [(.int (1 : Int32))])) (fun _ kz => st1 _ kz) ?_
  refine own_go (A := T1.setTop (mkF m 15 #[.val (.ref x1), .val (.ref x2), .unset] [(.ref x2)])) (fun _ kz => ?_) ?_
  · show Steps p.tables e below (T1.setTop (mkF m 11 #[.val (.ref x1), .val (.ref x2), .unset] [(.int (1 : Int32))])) _
    refine XS.ifNo X1.here hx rfl (hb hby d3_11) rfl ((if0 _ _).trans (feq (by decide : ¬ ((1 : Int32) = (0 : Int32)))).1) ?_
    show Steps p.tables e below (T1.setTop (mkF m 14 #[.val (.ref x1), .val (.ref x2), .unset] [])) _
    refine XS.aloadN X1.here hx rfl (hb hby d3_14) rfl rfl ?_
    exact kz
  obtain ⟨T2, X2, e2, st2⟩ := castY X1 hx hZ hown (hw _ (List.mem_of_getElem? (i := 32) rfl)) e1 (Ins.of_exa E2 (hw _ (List.mem_of_getElem? (i := 33) rfl))) (g := (mkF m 15 #[.val (.ref x1), .val (.ref x2), .unset] [(.ref x2)])) rfl rfl (hb hby d3_15)
  refine own_go (A := T2.setTop (mkF m 18 #[.val (.ref x1), .val (.ref x2), .unset] [(.ref x2)])) (fun _ kz => st2 _ kz) ?_
  refine own_go (A := T2.setTop (mkF m 19 #[.val (.ref x1), .val (.ref x2), .val (.ref x2)] [])) (fun _ kz => ?_) ?_
  · show Steps p.tables e below (T2.setTop (mkF m 18 #[.val (.ref x1), .val (.ref x2), .unset] [(.ref x2)])) _
    refine XS.astoreN X2.here hx rfl (hb hby d3_18) rfl rfl (l' := #[.val (.ref x1), .val (.ref x2), .val (.ref x2)]) rfl ?_
    exact kz
  obtain ⟨T3, X3, e3, st3⟩ := getS2 X2 hx hZ hown (host := "") (Or.inl (hw _ (List.mem_of_getElem? (i := 34) rfl))) Via.refl e2 S_cs (g := (mkF m 19 #[.val (.ref x1), .val (.ref x2), .val (.ref x2)] [])) rfl (hb hby d3_19)
  refine own_go (A := T3.setTop (mkF m 22 #[.val (.ref x1), .val (.ref x2), .val (.ref x2)] [(.int cs)])) (fun _ kz => st3 _ kz) ?_
  refine own_go (A := T3.setTop (mkF m 26 #[.val (.ref x1), .val (.ref x2), .val (.ref x2)] [(.ref x1)])) (fun _ kz => ?_) ?_
  · show Steps p.tables e below (T3.setTop (mkF m 22 #[.val (.ref x1), .val (.ref x2), .val (.ref x2)] [(.int cs)])) _
    refine XS.ifNo X3.here hx rfl (hb hby d3_22) rfl ((if0 _ _).trans (feq hcs).1) ?_
    show Steps p.tables e below (T3.setTop (mkF m 25 #[.val (.ref x1), .val (.ref x2), .val (.ref x2)] [])) _
    refine XS.aloadN X3.here hx rfl (hb hby d3_25) rfl rfl ?_
    exact kz
  obtain ⟨T4, X4, e4, st4⟩ := getF X3 hx hZ hown (host := "") (Or.inl (hw _ (List.mem_of_getElem? (i := 35) rfl))) Via.refl e3 C1 (g := (mkF m 26 #[.val (.ref x1), .val (.ref x2), .val (.ref x2)] [(.ref x1)])) rfl rfl (hb hby d3_26)
  refine own_go (A := T4.setTop (mkF m 29 #[.val (.ref x1), .val (.ref x2), .val (.ref x2)] [(.int (0 : Int32))])) (fun _ kz => st4 _ kz) ?_
  refine own_go (A := T4.setTop (mkF m 30 #[.val (.ref x1), .val (.ref x2), .val (.ref x2)] [(.ref x2), (.int (0 : Int32))])) (fun _ kz => ?_) ?_
  · show Steps p.tables e below (T4.setTop (mkF m 29 #[.val (.ref x1), .val (.ref x2), .val (.ref x2)] [(.int (0 : Int32))])) _
    refine XS.aloadN X4.here hx rfl (hb hby d3_29) rfl rfl ?_
    exact kz
  obtain ⟨T5, X5, e5, st5⟩ := getF X4 hx hZ hown (host := "") (Or.inl (hw _ (List.mem_of_getElem? (i := 35) rfl))) Via.refl e4 C2 (g := (mkF m 30 #[.val (.ref x1), .val (.ref x2), .val (.ref x2)] [(.ref x2), (.int (0 : Int32))])) rfl rfl (hb hby d3_30)
  refine own_go (A := T5.setTop (mkF m 33 #[.val (.ref x1), .val (.ref x2), .val (.ref x2)] [(.int (0 : Int32)), (.int (0 : Int32))])) (fun _ kz => st5 _ kz) ?_
  refine own_go (A := T5.setTop (mkF m 37 #[.val (.ref x1), .val (.ref x2), .val (.ref x2)] [(.ref x1)])) (fun _ kz => ?_) ?_
  · show Steps p.tables e below (T5.setTop (mkF m 33 #[.val (.ref x1), .val (.ref x2), .val (.ref x2)] [(.int (0 : Int32)), (.int (0 : Int32))])) _
    refine XS.icmpNo X5.here hx rfl (hb hby d3_33) rfl (teq (by decide : ((0 : Int32) = (0 : Int32)))).2 ?_
    show Steps p.tables e below (T5.setTop (mkF m 36 #[.val (.ref x1), .val (.ref x2), .val (.ref x2)] [])) _
    refine XS.aloadN X5.here hx rfl (hb hby d3_36) rfl rfl ?_
    exact kz
  obtain ⟨T6, X6, e6, st6⟩ := getF X5 hx hZ hown (host := "") (Or.inl (hw _ (List.mem_of_getElem? (i := 36) rfl))) Via.refl e5 V1 (g := (mkF m 37 #[.val (.ref x1), .val (.ref x2), .val (.ref x2)] [(.ref x1)])) rfl rfl (hb hby d3_37)
  refine own_go (A := T6.setTop (mkF m 40 #[.val (.ref x1), .val (.ref x2), .val (.ref x2)] [(.ref u1)])) (fun _ kz => st6 _ kz) ?_
  refine own_go (A := T6.setTop (mkF m 41 #[.val (.ref x1), .val (.ref x2), .val (.ref x2)] [(.ref x2), (.ref u1)])) (fun _ kz => ?_) ?_
  · show Steps p.tables e below (T6.setTop (mkF m 40 #[.val (.ref x1), .val (.ref x2), .val (.ref x2)] [(.ref u1)])) _
    refine XS.aloadN X6.here hx rfl (hb hby d3_40) rfl rfl ?_
    exact kz
  obtain ⟨T7, X7, e7, st7⟩ := getF X6 hx hZ hown (host := "") (Or.inl (hw _ (List.mem_of_getElem? (i := 36) rfl))) Via.refl e6 V2 (g := (mkF m 41 #[.val (.ref x1), .val (.ref x2), .val (.ref x2)] [(.ref x2), (.ref u1)])) rfl rfl (hb hby d3_41)
  refine own_go (A := T7.setTop (mkF m 44 #[.val (.ref x1), .val (.ref x2), .val (.ref x2)] [(.ref u2), (.ref u1)])) (fun _ kz => st7 _ kz) ?_
  obtain ⟨_, _, ⟨T8, L8, k8, n8⟩, -, X8, ⟨Lc8, hQ8, l8, y8, z8⟩, st8⟩ := Jvm.LawKit.callS X7 hx (y := (⟨"java/lang/StringLatin1", "equals", "([B[B)Z"⟩ : MethodName)) hown (mvT hZ (hw _ (List.mem_of_getElem? (i := 37) rfl))) (mvT hZ (hw _ (List.mem_of_getElem? (i := 38) rfl))) (mvT hZ (hw _ (List.mem_of_getElem? (i := 39) rfl))) (mvT hZ (hw _ (List.mem_of_getElem? (i := 40) rfl))) (by decide) (backOf (W := 0) (rmLe6 l Z a0 hw [] u1 u2 k1 k2 h0 n0 Z0 A1 A2) hZ (hw _ (List.mem_of_getElem? (i := 40) rfl)) (hw _ (List.mem_of_getElem? (i := 39) rfl)) (by decide) (by decide)) (g := (mkF m 44 #[.val (.ref x1), .val (.ref x2), .val (.ref x2)] [(.ref u2), (.ref u1)])) rfl (by rw [hml]; rfl) (argsL := [(.ref u1), (.ref u2)]) (rest := []) (lenOf own_pd2 rfl) rfl (by show 2 * 0 + _ ≤ _; exact Nat.le_of_eq rfl) (hb hby d3_44) (fun _ _ => ⟨rfl, e7, (by decide : 0 + 0 ≤ _), (by decide : 0 + 0 ≤ _)⟩)
  dsimp only [Pt.U, Pt.locs, Pt.cells, Pt.slots] at X8 l8 y8 z8 st8 hQ8
  subst l8 y8 z8
  obtain ⟨rfl, N8q, e8⟩ := hQ8
  have N8 := Fr.app N0 N8q
  refine own_go (A := T8.setTop (mkF m 47 #[.val (.ref x1), .val (.ref x2), .val (.ref x2)] [(.int (0 : Int32))])) (fun _ kz => st8 _ kz) ?_
  refine own_go (A := T8.setTop (mkF m 55 #[.val (.ref x1), .val (.ref x2), .val (.ref x2)] [(.int (0 : Int32))])) (fun _ kz => ?_) ?_
  · show Steps p.tables e below (T8.setTop (mkF m 47 #[.val (.ref x1), .val (.ref x2), .val (.ref x2)] [(.int (0 : Int32))])) _
    refine XS.ifYes X8.here hx rfl (pc0 := 47) (pc' := 54) rfl (hb hby d3_47) rfl ((if0 _ _).trans (teq (by decide : ((0 : Int32) = (0 : Int32)))).1) (by decide) (by decide) ?_
    show Steps p.tables e below (T8.setTop (mkF m 54 #[.val (.ref x1), .val (.ref x2), .val (.ref x2)] [])) _
    refine XS.iconst X8.here hx rfl (hb hby d3_54) ?_
    exact kz
  obtain ⟨fs, hrr, hrun, hended, hW, hsame⟩ := X8.leave (v := some (.int (0 : Int32))) (fun h => by rw [Bd.returns] at h; cases h)
  refine ⟨_, _, ?_, hrun, hended, _, _, rfl, ?_, ⟨_, rfl⟩, hW, hsame.mono (by decide) (by decide)⟩
  · show Steps p.tables e below (T8.setTop (mkF m 55 #[.val (.ref x1), .val (.ref x2), .val (.ref x2)] [(.int (0 : Int32))])) _
    exact retN X8 hx (t := .boolean) Bd.returns (by simp) (hb hby d3_55) hrr
  · show QrmSe6 Z  h0 n0 _ T8.heap _
    rw [e8]
    exact ⟨rfl, N8, rfl⟩
theorem own_pn0 : plainName "com/example/querybind/querybind/mapping/KindTakesKeysPinLaw" = true := by first | (simp [plainName, overriddenIn]; done) | decide +kernel
theorem own_ef0 (m : MethodId) (x0 : Int32) : entryFrame m #[(.int x0)] maxLocals = mkF m 0 #[.val (.int x0), .unset, .unset, .unset, .unset, .unset, .unset] [] := by first | (simp [entryFrame, mkF, argsToLocals, Value.category, maxLocals]; done) | rfl
def Qrm0 (Z : State)  (h0 : Heap) (n0 : Nat) (v : Option Value) (h : Heap) (L : List Loc) : Prop := v = some (.int 1) ∧ Fr n0 L
set_option maxRecDepth 65536 in
set_option maxHeartbeats 40000000 in
theorem rm0 (l : Launch) (Z : State) (a0 : Array Value) (hw : ∀ d ∈ tables_1, d.before a0 Z = true) (ws : List Jvm.Cond) (p1 cs : Int32) (kS tS yS : Addr) (qS : ClassId) (kI tI yI : Addr) (qI : ClassId) (kU tU yU : Addr) (qU : ClassId) (kD tD yD : Addr) (qD : ClassId) (h0 : Heap) (n0 : Nat) (Z0 : n0 ≤ h0.size) (hn0 : n0 = h0.size) (hZh : Ext Z.heap h0) (hheld : ∀ q ∈ consts_1, Jvm.Lit.constHeld Z q.1 q.2) (hcw : Jvm.Lit.compactW.before a0 Z = true) (hcs : ¬ (cs = (0 : Int32))) (S_cs : Sta Z h0 "java/lang/String" "COMPACT_STRINGS" "Z" (.int cs)) (S_S : Sta Z h0 "com/example/querybind/querybind/mapping/MappedStatement$Kind" "SELECT" "Lcom/example/querybind/querybind/mapping/MappedStatement$Kind;" (.ref kS)) (EkS : Exa Z h0 kS "com/example/querybind/querybind/mapping/MappedStatement$Kind") (FoS : Fld Z h0 kS "java/lang/Enum" "ordinal" "I" (.int (0 : Int32))) (FeS : Fld Z h0 kS "com/example/querybind/querybind/mapping/MappedStatement$Kind" "element" "Ljava/lang/String;" (.ref tS)) (EtS : Exa Z h0 tS "java/lang/String") (FcS : Fld Z h0 tS "java/lang/String" "coder" "B" (.int (0 : Int32))) (FvS : Fld Z h0 tS "java/lang/String" "value" "[B" (.ref yS)) (AvS : Arv Z h0 yS qS .byte (6 : Int32) [(.int (115 : Int32)), (.int (101 : Int32)), (.int (108 : Int32)), (.int (101 : Int32)), (.int (99 : Int32)), (.int (116 : Int32))] (.int (0 : Int32))) (S_I : Sta Z h0 "com/example/querybind/querybind/mapping/MappedStatement$Kind" "INSERT" "Lcom/example/querybind/querybind/mapping/MappedStatement$Kind;" (.ref kI)) (EkI : Exa Z h0 kI "com/example/querybind/querybind/mapping/MappedStatement$Kind") (FoI : Fld Z h0 kI "java/lang/Enum" "ordinal" "I" (.int (1 : Int32))) (FeI : Fld Z h0 kI "com/example/querybind/querybind/mapping/MappedStatement$Kind" "element" "Ljava/lang/String;" (.ref tI)) (EtI : Exa Z h0 tI "java/lang/String") (FcI : Fld Z h0 tI "java/lang/String" "coder" "B" (.int (0 : Int32))) (FvI : Fld Z h0 tI "java/lang/String" "value" "[B" (.ref yI)) (AvI : Arv Z h0 yI qI .byte (6 : Int32) [(.int (105 : Int32)), (.int (110 : Int32)), (.int (115 : Int32)), (.int (101 : Int32)), (.int (114 : Int32)), (.int (116 : Int32))] (.int (0 : Int32))) (S_U : Sta Z h0 "com/example/querybind/querybind/mapping/MappedStatement$Kind" "UPDATE" "Lcom/example/querybind/querybind/mapping/MappedStatement$Kind;" (.ref kU)) (EkU : Exa Z h0 kU "com/example/querybind/querybind/mapping/MappedStatement$Kind") (FoU : Fld Z h0 kU "java/lang/Enum" "ordinal" "I" (.int (2 : Int32))) (FeU : Fld Z h0 kU "com/example/querybind/querybind/mapping/MappedStatement$Kind" "element" "Ljava/lang/String;" (.ref tU)) (EtU : Exa Z h0 tU "java/lang/String") (FcU : Fld Z h0 tU "java/lang/String" "coder" "B" (.int (0 : Int32))) (FvU : Fld Z h0 tU "java/lang/String" "value" "[B" (.ref yU)) (AvU : Arv Z h0 yU qU .byte (6 : Int32) [(.int (117 : Int32)), (.int (112 : Int32)), (.int (100 : Int32)), (.int (97 : Int32)), (.int (116 : Int32)), (.int (101 : Int32))] (.int (0 : Int32))) (S_D : Sta Z h0 "com/example/querybind/querybind/mapping/MappedStatement$Kind" "DELETE" "Lcom/example/querybind/querybind/mapping/MappedStatement$Kind;" (.ref kD)) (EkD : Exa Z h0 kD "com/example/querybind/querybind/mapping/MappedStatement$Kind") (FoD : Fld Z h0 kD "java/lang/Enum" "ordinal" "I" (.int (3 : Int32))) (FeD : Fld Z h0 kD "com/example/querybind/querybind/mapping/MappedStatement$Kind" "element" "Ljava/lang/String;" (.ref tD)) (EtD : Exa Z h0 tD "java/lang/String") (FcD : Fld Z h0 tD "java/lang/String" "coder" "B" (.int (0 : Int32))) (FvD : Fld Z h0 tD "java/lang/String" "value" "[B" (.ref yD)) (AvD : Arv Z h0 yD qD .byte (6 : Int32) [(.int (100 : Int32)), (.int (101 : Int32)), (.int (108 : Int32)), (.int (101 : Int32)), (.int (116 : Int32)), (.int (101 : Int32))] (.int (0 : Int32))) :
    MetFree l x (head1 (Jvm.Cond.code x code maxLocals ret :: ws) room_1) (fun ar_ U_ => ar_ = #[(.int p1)] ∧ Z.Warmed39 U_.vm ∧ U_.heap = h0 ∧ IB Z U_.vm []) (fun _ _ _ _ _ => True) (fun _ U_ ou_ V_ => ∃ v_ L_, ou_ = .returned v_ ∧ Qrm0 Z  h0 n0 v_ V_.heap L_ ∧ ReturnedEndW U_ ou_ V_ L_ room_1.cells room_1.slots) := by
  refine MetFree.of_bodySF (plainFor_of_name own_pn0) hisR ?_
  intro p e s m args below meth c s₁ Bd hml0 hP hK
  obtain ⟨rfl, hZ, hh, hI⟩ := hP
  have hx := Bd.exec
  have hby := Bd.bytes
  have hml : c.maxLocals = 7 := hml0
  have hown : s.vm.findClass "com/example/querybind/querybind/mapping/KindTakesKeysPinLaw" = some m.cls := findClass_of_methodNamed Bd.named
  have hnm := (name_of_methodNamed Bd.named Bd.method).1
  have X0 : Stand p l e room_1 s m #[(.int p1)] below meth c s₁ [] 0 0 := Stand.of_body Bd
  have e0 : s₁.heap = h0 := by rw [← hh, Bd.state]; rfl
  have N0 := Fr.nil n0
  have hns : n0 = s.heap.size := by rw [hh]; exact hn0
  have hkeep : ∀ (b : Addr) (cl : Cell), Z.heap[b]? = some cl → s.heap[b]? = some cl := fun b cl q => by rw [hh]; exact hZh.2 b cl q
  have wS : ∀ a ∈ Bundle.stringAtoms, a.before a0 Z = true := fun d hd => hw d ((by decide +kernel : ∀ d ∈ Bundle.stringAtoms, d ∈ tables_1) d hd)
  replace X0 : Stand p l e room_1 (s.setVm s.vm) m #[(.int p1)] below meth c s₁ [] 0 0 := X0
  replace hZ : Z.Warmed39 (s.setVm s.vm).vm := hZ
  replace hown : (s.setVm s.vm).vm.findClass "com/example/querybind/querybind/mapping/KindTakesKeysPinLaw" = some m.cls := hown
  have hS : s.Since s.vm 0 := (State.WarmedH.refl s).since 0
  have hk : 0 ≤ h0.size := Nat.zero_le _
  have ne_SI : kS ≠ kI := Fld.ne FoS FoI (by decide)
  have ne_SU : kS ≠ kU := Fld.ne FoS FoU (by decide)
  have ne_IU : kI ≠ kU := Fld.ne FoI FoU (by decide)
  have ne_UI : kU ≠ kI := Fld.ne FoU FoI (by decide)
  have ne_DI : kD ≠ kI := Fld.ne FoD FoI (by decide)
  have ne_DU : kD ≠ kU := Fld.ne FoD FoU (by decide)
  refine own_go (A := s₁.setTop (mkF m 0 #[.val (.int p1), .unset, .unset, .unset, .unset, .unset, .unset] [])) (fun t kz => castTop (own_ef0 m p1) kz) ?_
  refine own_go (A := s₁.setTop (mkF m 5 #[.val (.int p1), .val (.int (p1 &&& (3 : Int32))), .unset, .unset, .unset, .unset, .unset] [(.int (p1 &&& (3 : Int32)))])) (fun _ kz => ?_) ?_
  · show Steps p.tables e below (s₁.setTop (mkF m 0 #[.val (.int p1), .unset, .unset, .unset, .unset, .unset, .unset] [])) _
    refine XS.iloadN X0.here hx rfl (hb hby at_0) rfl ?_
    show Steps p.tables e below (s₁.setTop (mkF m 1 #[.val (.int p1), .unset, .unset, .unset, .unset, .unset, .unset] [(.int p1)])) _
    refine XS.iconst X0.here hx rfl (hb hby at_1) ?_
    show Steps p.tables e below (s₁.setTop (mkF m 2 #[.val (.int p1), .unset, .unset, .unset, .unset, .unset, .unset] [(.int (3 : Int32)), (.int p1)])) _
    refine XS.iand X0.here hx rfl (hb hby at_2) rfl ?_
    show Steps p.tables e below (s₁.setTop (mkF m 3 #[.val (.int p1), .unset, .unset, .unset, .unset, .unset, .unset] [(.int (p1 &&& (3 : Int32)))])) _
    refine XS.istoreN X0.here hx rfl (hb hby at_3) rfl (l' := #[.val (.int p1), .val (.int (p1 &&& (3 : Int32))), .unset, .unset, .unset, .unset, .unset]) rfl ?_
    show Steps p.tables e below (s₁.setTop (mkF m 4 #[.val (.int p1), .val (.int (p1 &&& (3 : Int32))), .unset, .unset, .unset, .unset, .unset] [])) _
    refine XS.iloadN X0.here hx rfl (hb hby at_4) rfl ?_
    exact kz
  by_cases hs1 : (p1 &&& (3 : Int32)) = (0 : Int32)
  · skip
    refine own_go (A := s₁.setTop (mkF m 8 #[.val (.int p1), .val (.int (p1 &&& (3 : Int32))), .unset, .unset, .unset, .unset, .unset] [])) (fun _ kz => ?_) ?_
    · show Steps p.tables e below (s₁.setTop (mkF m 5 #[.val (.int p1), .val (.int (p1 &&& (3 : Int32))), .unset, .unset, .unset, .unset, .unset] [(.int (p1 &&& (3 : Int32)))])) _
      refine XS.ifNo X0.here hx rfl (hb hby at_5) rfl ((if0 _ _).trans (teq hs1).2) ?_
      exact kz
    obtain ⟨T2, X2, e2, st2⟩ := getS2 X0 hx hZ hown (host := "") (Or.inl (hw _ (List.mem_of_getElem? (i := 0) rfl))) Via.refl e0 S_S (g := (mkF m 8 #[.val (.int p1), .val (.int (p1 &&& (3 : Int32))), .unset, .unset, .unset, .unset, .unset] [])) rfl (hb hby at_8)
    refine own_go (A := T2.setTop (mkF m 11 #[.val (.int p1), .val (.int (p1 &&& (3 : Int32))), .unset, .unset, .unset, .unset, .unset] [(.ref kS)])) (fun _ kz => st2 _ kz) ?_
    refine own_go (A := T2.setTop (mkF m 44 #[.val (.int p1), .val (.int (p1 &&& (3 : Int32))), .val (.ref kS), .unset, .unset, .unset, .unset] [(.ref kS)])) (fun _ kz => ?_) ?_
    · show Steps p.tables e below (T2.setTop (mkF m 11 #[.val (.int p1), .val (.int (p1 &&& (3 : Int32))), .unset, .unset, .unset, .unset, .unset] [(.ref kS)])) _
      refine XS.astoreN X2.here hx rfl (hb hby at_11) rfl rfl (l' := #[.val (.int p1), .val (.int (p1 &&& (3 : Int32))), .val (.ref kS), .unset, .unset, .unset, .unset]) rfl ?_
      show Steps p.tables e below (T2.setTop (mkF m 12 #[.val (.int p1), .val (.int (p1 &&& (3 : Int32))), .val (.ref kS), .unset, .unset, .unset, .unset] [])) _
      refine XS.goto X2.here hx rfl (pc0 := 12) (pc' := 43) rfl (hb hby at_12) (by decide) (by decide) ?_
      show Steps p.tables e below (T2.setTop (mkF m 43 #[.val (.int p1), .val (.int (p1 &&& (3 : Int32))), .val (.ref kS), .unset, .unset, .unset, .unset] [])) _
      refine XS.aloadN X2.here hx rfl (hb hby at_43) rfl rfl ?_
      exact kz
    obtain ⟨cq3, kq3, q3a, q3b, q3c⟩ := isOf hZ e2 EkS
    obtain ⟨_, _, ⟨T3, L3, k3, n3⟩, -, X3, ⟨Lc3, hQ3, l3, y3, z3⟩, st3⟩ := X2.virtualBack hx (y := (⟨"com/example/querybind/querybind/mapping/MappedStatement$Kind", "takesKeys", "()Z"⟩ : MethodName)) (z := (⟨"com/example/querybind/querybind/mapping/MappedStatement$Kind", "takesKeys", "()Z"⟩ : MethodName)) hown (mvT hZ (hw _ (List.mem_of_getElem? (i := 3) rfl))) (mvT hZ (hw _ (List.mem_of_getElem? (i := 4) rfl))) (notFace_of_selects (args := #[]) (mvT hZ (hw _ (List.mem_of_getElem? (i := 6) rfl)))) (mvT hZ (hw _ (List.mem_of_getElem? (i := 6) rfl))) (mvT hZ (hw _ (List.mem_of_getElem? (i := 5) rfl))) (by decide) (backOf (W := 0) (rmTK l Z a0 hw [] kS kI kU (0 : Int32) h0 n0 Z0 S_I S_U (by rw [if_neg ne_SI, if_neg ne_SU])) hZ (hw _ (List.mem_of_getElem? (i := 7) rfl)) (hw _ (List.mem_of_getElem? (i := 1) rfl)) (by decide) (by decide)) q3a q3c (g := (mkF m 44 #[.val (.int p1), .val (.int (p1 &&& (3 : Int32))), .val (.ref kS), .unset, .unset, .unset, .unset] [(.ref kS)])) rfl (by rw [hml]; rfl) (Steps.refl _) (argsL := []) (rest := []) (lenOf own_pd0 rfl) rfl (by show 2 * 0 + _ ≤ _; exact Nat.le_of_eq rfl) (hb hby at_44) (fun _ _ => ⟨rfl, e2, (by decide : 0 + 0 ≤ _), (by decide : 0 + 0 ≤ _)⟩)
    dsimp only [Pt.U, Pt.locs, Pt.cells, Pt.slots] at X3 l3 y3 z3 st3 hQ3
    subst l3 y3 z3
    obtain ⟨rfl, N3q, e3⟩ := hQ3
    have N3 := Fr.app N0 N3q
    refine own_go (A := T3.setTop (mkF m 47 #[.val (.int p1), .val (.int (p1 &&& (3 : Int32))), .val (.ref kS), .unset, .unset, .unset, .unset] [(.int (0 : Int32))])) (fun _ kz => st3.trans kz) ?_
    refine own_go (A := T3.setTop (mkF m 49 #[.val (.int p1), .val (.int (p1 &&& (3 : Int32))), .val (.ref kS), .val (.int (0 : Int32)), .unset, .unset, .unset] [(.ref kS)])) (fun _ kz => ?_) ?_
    · show Steps p.tables e below (T3.setTop (mkF m 47 #[.val (.int p1), .val (.int (p1 &&& (3 : Int32))), .val (.ref kS), .unset, .unset, .unset, .unset] [(.int (0 : Int32))])) _
      refine XS.istoreN X3.here hx rfl (hb hby at_47) rfl (l' := #[.val (.int p1), .val (.int (p1 &&& (3 : Int32))), .val (.ref kS), .val (.int (0 : Int32)), .unset, .unset, .unset]) rfl ?_
      show Steps p.tables e below (T3.setTop (mkF m 48 #[.val (.int p1), .val (.int (p1 &&& (3 : Int32))), .val (.ref kS), .val (.int (0 : Int32)), .unset, .unset, .unset] [])) _
      refine XS.aloadN X3.here hx rfl (hb hby at_48) rfl rfl ?_
      exact kz
    obtain ⟨cq4, kq4, q4a, q4b, q4c⟩ := isOf hZ e3 EkS
    obtain ⟨_, _, ⟨T4, L4, k4, n4⟩, -, X4, ⟨Lc4, hQ4, l4, y4, z4⟩, st4⟩ := X3.virtualBack hx (y := (⟨"com/example/querybind/querybind/mapping/MappedStatement$Kind", "element", "()Ljava/lang/String;"⟩ : MethodName)) (z := (⟨"com/example/querybind/querybind/mapping/MappedStatement$Kind", "element", "()Ljava/lang/String;"⟩ : MethodName)) hown (mvT hZ (hw _ (List.mem_of_getElem? (i := 12) rfl))) (mvT hZ (hw _ (List.mem_of_getElem? (i := 13) rfl))) (notFace_of_selects (args := #[]) (mvT hZ (hw _ (List.mem_of_getElem? (i := 15) rfl)))) (mvT hZ (hw _ (List.mem_of_getElem? (i := 15) rfl))) (mvT hZ (hw _ (List.mem_of_getElem? (i := 14) rfl))) (by decide) (backOf (W := 0) (rmEl l Z a0 hw [] kS tS h0 n0 Z0 FeS) hZ (hw _ (List.mem_of_getElem? (i := 16) rfl)) (hw _ (List.mem_of_getElem? (i := 1) rfl)) (by decide) (by decide)) q4a q4c (g := (mkF m 49 #[.val (.int p1), .val (.int (p1 &&& (3 : Int32))), .val (.ref kS), .val (.int (0 : Int32)), .unset, .unset, .unset] [(.ref kS)])) rfl (by rw [hml]; rfl) (Steps.refl _) (argsL := []) (rest := []) (lenOf own_pd1 rfl) rfl (by show 2 * 0 + _ ≤ _; exact Nat.le_of_eq rfl) (hb hby at_49) (fun _ _ => ⟨rfl, e3, (by decide : 0 + 0 ≤ _), (by decide : 0 + 0 ≤ _)⟩)
    dsimp only [Pt.U, Pt.locs, Pt.cells, Pt.slots] at X4 l4 y4 z4 st4 hQ4
    subst l4 y4 z4
    obtain ⟨rfl, N4q, e4⟩ := hQ4
    have N4 := Fr.app N3 N4q
    refine own_go (A := T4.setTop (mkF m 52 #[.val (.int p1), .val (.int (p1 &&& (3 : Int32))), .val (.ref kS), .val (.int (0 : Int32)), .unset, .unset, .unset] [(.ref tS)])) (fun _ kz => st4.trans kz) ?_
    refine own_go (A := T4.setTop (mkF m 56 #[.val (.int p1), .val (.int (p1 &&& (3 : Int32))), .val (.ref kS), .val (.int (0 : Int32)), .val (.ref tS), .unset, .unset] [(.ref tS)])) (fun _ kz => ?_) ?_
    · show Steps p.tables e below (T4.setTop (mkF m 52 #[.val (.int p1), .val (.int (p1 &&& (3 : Int32))), .val (.ref kS), .val (.int (0 : Int32)), .unset, .unset, .unset] [(.ref tS)])) _
      refine XS.astore X4.here hx rfl (hb hby at_52) rfl rfl (l' := #[.val (.int p1), .val (.int (p1 &&& (3 : Int32))), .val (.ref kS), .val (.int (0 : Int32)), .val (.ref tS), .unset, .unset]) rfl ?_
      show Steps p.tables e below (T4.setTop (mkF m 54 #[.val (.int p1), .val (.int (p1 &&& (3 : Int32))), .val (.ref kS), .val (.int (0 : Int32)), .val (.ref tS), .unset, .unset] [])) _
      refine XS.aload X4.here hx rfl (hb hby at_54) rfl rfl ?_
      exact kz
    obtain ⟨b5, T5, h5, ks5, t5, kc5, X5, e5, E5, hS, hkq, hZ, hown, Ex_b5, Fc_b5, Fv_b5, Av_t5, -, -, hI, Li_b5, st5⟩ := ldcSVL X4 hx hZ hown (hw _ (List.mem_of_getElem? (i := 19) rfl)) wS e4 hS hk (by rw [← hns]; exact N4) hkeep hI (by decide) (hheld _ (List.mem_of_getElem? (i := 0) rfl)) hcw (vs := [(.int (105 : Int32)), (.int (110 : Int32)), (.int (115 : Int32)), (.int (101 : Int32)), (.int (114 : Int32)), (.int (116 : Int32))]) (z := (6 : Int32)) ⟨by decide, by decide⟩ (by decide) (by decide) (g := (mkF m 56 #[.val (.int p1), .val (.int (p1 &&& (3 : Int32))), .val (.ref kS), .val (.int (0 : Int32)), .val (.ref tS), .unset, .unset] [(.ref tS)])) rfl (hb hby at_56) (n := 24) (by decide) (by decide) (by decide) (by decide)
    replace S_cs := S_cs.ext E5
    replace S_S := S_S.ext E5
    replace S_I := S_I.ext E5
    replace S_U := S_U.ext E5
    replace S_D := S_D.ext E5
    replace EkS := EkS.ext E5
    replace FoS := FoS.ext E5
    replace FeS := FeS.ext E5
    replace EtS := EtS.ext E5
    replace FcS := FcS.ext E5
    replace FvS := FvS.ext E5
    replace AvS := AvS.ext E5
    replace EkI := EkI.ext E5
    replace FoI := FoI.ext E5
    replace FeI := FeI.ext E5
    replace EtI := EtI.ext E5
    replace FcI := FcI.ext E5
    replace FvI := FvI.ext E5
    replace AvI := AvI.ext E5
    replace EkU := EkU.ext E5
    replace FoU := FoU.ext E5
    replace FeU := FeU.ext E5
    replace EtU := EtU.ext E5
    replace FcU := FcU.ext E5
    replace FvU := FvU.ext E5
    replace AvU := AvU.ext E5
    replace EkD := EkD.ext E5
    replace FoD := FoD.ext E5
    replace FeD := FeD.ext E5
    replace EtD := EtD.ext E5
    replace FcD := FcD.ext E5
    replace FvD := FvD.ext E5
    replace AvD := AvD.ext E5
    have Z5 : n0 ≤ h5.size := Nat.le_trans Z0 E5.1
    replace hk := Nat.le_trans hk E5.1
    replace hk := hkq
    refine own_go (A := T5.setTop (mkF m 58 #[.val (.int p1), .val (.int (p1 &&& (3 : Int32))), .val (.ref kS), .val (.int (0 : Int32)), .val (.ref tS), .unset, .unset] [(.ref b5), (.ref tS)])) (fun _ kz => st5 _ kz) ?_
    obtain ⟨cq6, kq6, q6a, q6b, q6c⟩ := isOf hZ e5 EtS
    obtain ⟨_, _, ⟨T6, L6, k6, n6⟩, -, X6, ⟨Lc6, hQ6, l6, y6, z6⟩, st6⟩ := X5.virtualBack hx (y := (⟨"java/lang/String", "equals", "(Ljava/lang/Object;)Z"⟩ : MethodName)) (z := (⟨"java/lang/String", "equals", "(Ljava/lang/Object;)Z"⟩ : MethodName)) hown (mvT hZ (hw _ (List.mem_of_getElem? (i := 27) rfl))) (mvT hZ (hw _ (List.mem_of_getElem? (i := 28) rfl))) (notFace_of_selects (args := #[]) (mvT hZ (hw _ (List.mem_of_getElem? (i := 30) rfl)))) (mvT hZ (hw _ (List.mem_of_getElem? (i := 30) rfl))) (mvT hZ (hw _ (List.mem_of_getElem? (i := 29) rfl))) (by decide) (backOf (W := 0) (rmSe0 l Z a0 hw [] tS b5 yS t5 qS kc5 cs h5 n0 Z5 EtS Ex_b5 FcS Fc_b5 FvS Fv_b5 AvS Av_t5 hcs S_cs) hZ (hw _ (List.mem_of_getElem? (i := 31) rfl)) (hw _ (List.mem_of_getElem? (i := 20) rfl)) (by decide) (by decide)) q6a q6c (g := (mkF m 58 #[.val (.int p1), .val (.int (p1 &&& (3 : Int32))), .val (.ref kS), .val (.int (0 : Int32)), .val (.ref tS), .unset, .unset] [(.ref b5), (.ref tS)])) rfl (by rw [hml]; rfl) (Steps.refl _) (argsL := [(.ref b5)]) (rest := []) (lenOf own_pd3 rfl) rfl (by show 2 * 0 + _ ≤ _; exact Nat.le_of_eq rfl) (hb hby at_58) (fun _ _ => ⟨rfl, e5, (by decide : 2 + 0 ≤ _), (by decide : 28 + 0 ≤ _)⟩)
    dsimp only [Pt.U, Pt.locs, Pt.cells, Pt.slots] at X6 l6 y6 z6 st6 hQ6
    subst l6 y6 z6
    obtain ⟨rfl, N6q, e6⟩ := hQ6
    have N6 := Fr.app N4 N6q
    refine own_go (A := T6.setTop (mkF m 61 #[.val (.int p1), .val (.int (p1 &&& (3 : Int32))), .val (.ref kS), .val (.int (0 : Int32)), .val (.ref tS), .unset, .unset] [(.int (0 : Int32))])) (fun _ kz => st6.trans kz) ?_
    refine own_go (A := T6.setTop (mkF m 66 #[.val (.int p1), .val (.int (p1 &&& (3 : Int32))), .val (.ref kS), .val (.int (0 : Int32)), .val (.ref tS), .unset, .unset] [(.ref tS)])) (fun _ kz => ?_) ?_
    · show Steps p.tables e below (T6.setTop (mkF m 61 #[.val (.int p1), .val (.int (p1 &&& (3 : Int32))), .val (.ref kS), .val (.int (0 : Int32)), .val (.ref tS), .unset, .unset] [(.int (0 : Int32))])) _
      refine XS.ifNo X6.here hx rfl (hb hby at_61) rfl ((if0 _ _).trans (teq (by decide : ((0 : Int32) = (0 : Int32)))).2) ?_
      show Steps p.tables e below (T6.setTop (mkF m 64 #[.val (.int p1), .val (.int (p1 &&& (3 : Int32))), .val (.ref kS), .val (.int (0 : Int32)), .val (.ref tS), .unset, .unset] [])) _
      refine XS.aload X6.here hx rfl (hb hby at_64) rfl rfl ?_
      exact kz
    obtain ⟨b7, T7, h7, ks7, t7, kc7, X7, e7, E7, hS, hkq, hZ, hown, Ex_b7, Fc_b7, Fv_b7, Av_t7, -, -, hI, Li_b7, st7⟩ := ldcSVL X6 hx hZ hown (hw _ (List.mem_of_getElem? (i := 41) rfl)) wS e6 hS hk (by rw [← hns]; exact N6) hkeep hI (by decide) (hheld _ (List.mem_of_getElem? (i := 1) rfl)) hcw (vs := [(.int (117 : Int32)), (.int (112 : Int32)), (.int (100 : Int32)), (.int (97 : Int32)), (.int (116 : Int32)), (.int (101 : Int32))]) (z := (6 : Int32)) ⟨by decide, by decide⟩ (by decide) (by decide) (g := (mkF m 66 #[.val (.int p1), .val (.int (p1 &&& (3 : Int32))), .val (.ref kS), .val (.int (0 : Int32)), .val (.ref tS), .unset, .unset] [(.ref tS)])) rfl (hb hby at_66) (n := 24) (by decide) (by decide) (by decide) (by decide)
    replace S_cs := S_cs.ext E7
    replace S_S := S_S.ext E7
    replace S_I := S_I.ext E7
    replace S_U := S_U.ext E7
    replace S_D := S_D.ext E7
    replace EkS := EkS.ext E7
    replace FoS := FoS.ext E7
    replace FeS := FeS.ext E7
    replace EtS := EtS.ext E7
    replace FcS := FcS.ext E7
    replace FvS := FvS.ext E7
    replace AvS := AvS.ext E7
    replace EkI := EkI.ext E7
    replace FoI := FoI.ext E7
    replace FeI := FeI.ext E7
    replace EtI := EtI.ext E7
    replace FcI := FcI.ext E7
    replace FvI := FvI.ext E7
    replace AvI := AvI.ext E7
    replace EkU := EkU.ext E7
    replace FoU := FoU.ext E7
    replace FeU := FeU.ext E7
    replace EtU := EtU.ext E7
    replace FcU := FcU.ext E7
    replace FvU := FvU.ext E7
    replace AvU := AvU.ext E7
    replace EkD := EkD.ext E7
    replace FoD := FoD.ext E7
    replace FeD := FeD.ext E7
    replace EtD := EtD.ext E7
    replace FcD := FcD.ext E7
    replace FvD := FvD.ext E7
    replace AvD := AvD.ext E7
    replace Ex_b5 := Ex_b5.ext E7
    replace Fc_b5 := Fc_b5.ext E7
    replace Fv_b5 := Fv_b5.ext E7
    replace Av_t5 := Av_t5.ext E7
    have Z7 : n0 ≤ h7.size := Nat.le_trans Z5 E7.1
    replace hk := Nat.le_trans hk E7.1
    replace hk := hkq
    refine own_go (A := T7.setTop (mkF m 68 #[.val (.int p1), .val (.int (p1 &&& (3 : Int32))), .val (.ref kS), .val (.int (0 : Int32)), .val (.ref tS), .unset, .unset] [(.ref b7), (.ref tS)])) (fun _ kz => st7 _ kz) ?_
    obtain ⟨cq8, kq8, q8a, q8b, q8c⟩ := isOf hZ e7 EtS
    obtain ⟨_, _, ⟨T8, L8, k8, n8⟩, -, X8, ⟨Lc8, hQ8, l8, y8, z8⟩, st8⟩ := X7.virtualBack hx (y := (⟨"java/lang/String", "equals", "(Ljava/lang/Object;)Z"⟩ : MethodName)) (z := (⟨"java/lang/String", "equals", "(Ljava/lang/Object;)Z"⟩ : MethodName)) hown (mvT hZ (hw _ (List.mem_of_getElem? (i := 27) rfl))) (mvT hZ (hw _ (List.mem_of_getElem? (i := 28) rfl))) (notFace_of_selects (args := #[]) (mvT hZ (hw _ (List.mem_of_getElem? (i := 30) rfl)))) (mvT hZ (hw _ (List.mem_of_getElem? (i := 30) rfl))) (mvT hZ (hw _ (List.mem_of_getElem? (i := 29) rfl))) (by decide) (backOf (W := 0) (rmSe1 l Z a0 hw [] tS b7 yS t7 qS kc7 cs h7 n0 Z7 EtS Ex_b7 FcS Fc_b7 FvS Fv_b7 AvS Av_t7 hcs S_cs) hZ (hw _ (List.mem_of_getElem? (i := 31) rfl)) (hw _ (List.mem_of_getElem? (i := 20) rfl)) (by decide) (by decide)) q8a q8c (g := (mkF m 68 #[.val (.int p1), .val (.int (p1 &&& (3 : Int32))), .val (.ref kS), .val (.int (0 : Int32)), .val (.ref tS), .unset, .unset] [(.ref b7), (.ref tS)])) rfl (by rw [hml]; rfl) (Steps.refl _) (argsL := [(.ref b7)]) (rest := []) (lenOf own_pd3 rfl) rfl (by show 2 * 0 + _ ≤ _; exact Nat.le_of_eq rfl) (hb hby at_68) (fun _ _ => ⟨rfl, e7, (by decide : 4 + 0 ≤ _), (by decide : 56 + 0 ≤ _)⟩)
    dsimp only [Pt.U, Pt.locs, Pt.cells, Pt.slots] at X8 l8 y8 z8 st8 hQ8
    subst l8 y8 z8
    obtain ⟨rfl, N8q, e8⟩ := hQ8
    have N8 := Fr.app N6 N8q
    refine own_go (A := T8.setTop (mkF m 71 #[.val (.int p1), .val (.int (p1 &&& (3 : Int32))), .val (.ref kS), .val (.int (0 : Int32)), .val (.ref tS), .unset, .unset] [(.int (0 : Int32))])) (fun _ kz => st8.trans kz) ?_
    refine own_go (A := T8.setTop (mkF m 115 #[.val (.int p1), .val (.int (p1 &&& (3 : Int32))), .val (.ref kS), .val (.int (0 : Int32)), .val (.ref tS), .val (.int (0 : Int32)), .val (.int (0 : Int32))] [(.int (1 : Int32))])) (fun _ kz => ?_) ?_
    · show Steps p.tables e below (T8.setTop (mkF m 71 #[.val (.int p1), .val (.int (p1 &&& (3 : Int32))), .val (.ref kS), .val (.int (0 : Int32)), .val (.ref tS), .unset, .unset] [(.int (0 : Int32))])) _
      refine XS.ifYes X8.here hx rfl (pc0 := 71) (pc' := 78) rfl (hb hby at_71) rfl ((if0 _ _).trans (teq (by decide : ((0 : Int32) = (0 : Int32)))).1) (by decide) (by decide) ?_
      show Steps p.tables e below (T8.setTop (mkF m 78 #[.val (.int p1), .val (.int (p1 &&& (3 : Int32))), .val (.ref kS), .val (.int (0 : Int32)), .val (.ref tS), .unset, .unset] [])) _
      refine XS.iconst X8.here hx rfl (hb hby at_78) ?_
      show Steps p.tables e below (T8.setTop (mkF m 79 #[.val (.int p1), .val (.int (p1 &&& (3 : Int32))), .val (.ref kS), .val (.int (0 : Int32)), .val (.ref tS), .unset, .unset] [(.int (0 : Int32))])) _
      refine XS.istore X8.here hx rfl (hb hby at_79) rfl (l' := #[.val (.int p1), .val (.int (p1 &&& (3 : Int32))), .val (.ref kS), .val (.int (0 : Int32)), .val (.ref tS), .val (.int (0 : Int32)), .unset]) rfl ?_
      show Steps p.tables e below (T8.setTop (mkF m 81 #[.val (.int p1), .val (.int (p1 &&& (3 : Int32))), .val (.ref kS), .val (.int (0 : Int32)), .val (.ref tS), .val (.int (0 : Int32)), .unset] [])) _
      refine XS.iloadN X8.here hx rfl (hb hby at_81) rfl ?_
      show Steps p.tables e below (T8.setTop (mkF m 82 #[.val (.int p1), .val (.int (p1 &&& (3 : Int32))), .val (.ref kS), .val (.int (0 : Int32)), .val (.ref tS), .val (.int (0 : Int32)), .unset] [(.int (p1 &&& (3 : Int32)))])) _
      refine XS.iconst X8.here hx rfl (hb hby at_82) ?_
      show Steps p.tables e below (T8.setTop (mkF m 83 #[.val (.int p1), .val (.int (p1 &&& (3 : Int32))), .val (.ref kS), .val (.int (0 : Int32)), .val (.ref tS), .val (.int (0 : Int32)), .unset] [(.int (1 : Int32)), (.int (p1 &&& (3 : Int32)))])) _
      refine XS.icmpNo X8.here hx rfl (hb hby at_83) rfl (feq (fun q => absurd (hs1.symm.trans q) (by decide))).1 ?_
      show Steps p.tables e below (T8.setTop (mkF m 86 #[.val (.int p1), .val (.int (p1 &&& (3 : Int32))), .val (.ref kS), .val (.int (0 : Int32)), .val (.ref tS), .val (.int (0 : Int32)), .unset] [])) _
      refine XS.iloadN X8.here hx rfl (hb hby at_86) rfl ?_
      show Steps p.tables e below (T8.setTop (mkF m 87 #[.val (.int p1), .val (.int (p1 &&& (3 : Int32))), .val (.ref kS), .val (.int (0 : Int32)), .val (.ref tS), .val (.int (0 : Int32)), .unset] [(.int (p1 &&& (3 : Int32)))])) _
      refine XS.iconst X8.here hx rfl (hb hby at_87) ?_
      show Steps p.tables e below (T8.setTop (mkF m 88 #[.val (.int p1), .val (.int (p1 &&& (3 : Int32))), .val (.ref kS), .val (.int (0 : Int32)), .val (.ref tS), .val (.int (0 : Int32)), .unset] [(.int (2 : Int32)), (.int (p1 &&& (3 : Int32)))])) _
      refine XS.icmpYes X8.here hx rfl (pc0 := 88) (pc' := 95) rfl (hb hby at_88) rfl (feq (fun q => absurd (hs1.symm.trans q) (by decide))).2 (by decide) (by decide) ?_
      show Steps p.tables e below (T8.setTop (mkF m 95 #[.val (.int p1), .val (.int (p1 &&& (3 : Int32))), .val (.ref kS), .val (.int (0 : Int32)), .val (.ref tS), .val (.int (0 : Int32)), .unset] [])) _
      refine XS.iconst X8.here hx rfl (hb hby at_95) ?_
      show Steps p.tables e below (T8.setTop (mkF m 96 #[.val (.int p1), .val (.int (p1 &&& (3 : Int32))), .val (.ref kS), .val (.int (0 : Int32)), .val (.ref tS), .val (.int (0 : Int32)), .unset] [(.int (0 : Int32))])) _
      refine XS.istore X8.here hx rfl (hb hby at_96) rfl (l' := #[.val (.int p1), .val (.int (p1 &&& (3 : Int32))), .val (.ref kS), .val (.int (0 : Int32)), .val (.ref tS), .val (.int (0 : Int32)), .val (.int (0 : Int32))]) rfl ?_
      show Steps p.tables e below (T8.setTop (mkF m 98 #[.val (.int p1), .val (.int (p1 &&& (3 : Int32))), .val (.ref kS), .val (.int (0 : Int32)), .val (.ref tS), .val (.int (0 : Int32)), .val (.int (0 : Int32))] [])) _
      refine XS.iloadN X8.here hx rfl (hb hby at_98) rfl ?_
      show Steps p.tables e below (T8.setTop (mkF m 99 #[.val (.int p1), .val (.int (p1 &&& (3 : Int32))), .val (.ref kS), .val (.int (0 : Int32)), .val (.ref tS), .val (.int (0 : Int32)), .val (.int (0 : Int32))] [(.int (0 : Int32))])) _
      refine XS.iload X8.here hx rfl (hb hby at_99) rfl ?_
      show Steps p.tables e below (T8.setTop (mkF m 101 #[.val (.int p1), .val (.int (p1 &&& (3 : Int32))), .val (.ref kS), .val (.int (0 : Int32)), .val (.ref tS), .val (.int (0 : Int32)), .val (.int (0 : Int32))] [(.int (0 : Int32)), (.int (0 : Int32))])) _
      refine XS.icmpNo X8.here hx rfl (hb hby at_101) rfl (teq (by decide : ((0 : Int32) = (0 : Int32)))).2 ?_
      show Steps p.tables e below (T8.setTop (mkF m 104 #[.val (.int p1), .val (.int (p1 &&& (3 : Int32))), .val (.ref kS), .val (.int (0 : Int32)), .val (.ref tS), .val (.int (0 : Int32)), .val (.int (0 : Int32))] [])) _
      refine XS.iloadN X8.here hx rfl (hb hby at_104) rfl ?_
      show Steps p.tables e below (T8.setTop (mkF m 105 #[.val (.int p1), .val (.int (p1 &&& (3 : Int32))), .val (.ref kS), .val (.int (0 : Int32)), .val (.ref tS), .val (.int (0 : Int32)), .val (.int (0 : Int32))] [(.int (0 : Int32))])) _
      refine XS.iload X8.here hx rfl (hb hby at_105) rfl ?_
      show Steps p.tables e below (T8.setTop (mkF m 107 #[.val (.int p1), .val (.int (p1 &&& (3 : Int32))), .val (.ref kS), .val (.int (0 : Int32)), .val (.ref tS), .val (.int (0 : Int32)), .val (.int (0 : Int32))] [(.int (0 : Int32)), (.int (0 : Int32))])) _
      refine XS.icmpNo X8.here hx rfl (hb hby at_107) rfl (teq (by decide : ((0 : Int32) = (0 : Int32)))).2 ?_
      show Steps p.tables e below (T8.setTop (mkF m 110 #[.val (.int p1), .val (.int (p1 &&& (3 : Int32))), .val (.ref kS), .val (.int (0 : Int32)), .val (.ref tS), .val (.int (0 : Int32)), .val (.int (0 : Int32))] [])) _
      refine XS.iconst X8.here hx rfl (hb hby at_110) ?_
      show Steps p.tables e below (T8.setTop (mkF m 111 #[.val (.int p1), .val (.int (p1 &&& (3 : Int32))), .val (.ref kS), .val (.int (0 : Int32)), .val (.ref tS), .val (.int (0 : Int32)), .val (.int (0 : Int32))] [(.int (1 : Int32))])) _
      refine XS.goto X8.here hx rfl (pc0 := 111) (pc' := 115) rfl (hb hby at_111) (by decide) (by decide) ?_
      exact kz
    obtain ⟨fs, hrr, hrun, hended, r1, r2, r3, r4⟩ := X8.leaveW hS (by rw [e8]; exact hk) (v := some (.int (1 : Int32))) (fun h => by rw [Bd.returns] at h; cases h)
    refine ⟨_, _, ?_, hrun, hended, _, _, rfl, ?_, r1, r2, r3, r4.mono (by decide) (by decide)⟩
    · show Steps p.tables e below (T8.setTop (mkF m 115 #[.val (.int p1), .val (.int (p1 &&& (3 : Int32))), .val (.ref kS), .val (.int (0 : Int32)), .val (.ref tS), .val (.int (0 : Int32)), .val (.int (0 : Int32))] [(.int (1 : Int32))])) _
      exact retN X8 hx (t := .boolean) Bd.returns (by simp) (hb hby at_115) hrr
    · show Qrm0 Z  h0 n0 _ T8.heap _
      rw [e8]
      exact ⟨rfl, N8⟩
  · skip
    refine own_go (A := s₁.setTop (mkF m 15 #[.val (.int p1), .val (.int (p1 &&& (3 : Int32))), .unset, .unset, .unset, .unset, .unset] [])) (fun _ kz => ?_) ?_
    · show Steps p.tables e below (s₁.setTop (mkF m 5 #[.val (.int p1), .val (.int (p1 &&& (3 : Int32))), .unset, .unset, .unset, .unset, .unset] [(.int (p1 &&& (3 : Int32)))])) _
      refine XS.ifYes X0.here hx rfl (pc0 := 5) (pc' := 15) rfl (hb hby at_5) rfl ((if0 _ _).trans (feq hs1).2) (by decide) (by decide) ?_
      exact kz
    refine own_go (A := s₁.setTop (mkF m 17 #[.val (.int p1), .val (.int (p1 &&& (3 : Int32))), .unset, .unset, .unset, .unset, .unset] [(.int (1 : Int32)), (.int (p1 &&& (3 : Int32)))])) (fun _ kz => ?_) ?_
    · show Steps p.tables e below (s₁.setTop (mkF m 15 #[.val (.int p1), .val (.int (p1 &&& (3 : Int32))), .unset, .unset, .unset, .unset, .unset] [])) _
      refine XS.iloadN X0.here hx rfl (hb hby at_15) rfl ?_
      show Steps p.tables e below (s₁.setTop (mkF m 16 #[.val (.int p1), .val (.int (p1 &&& (3 : Int32))), .unset, .unset, .unset, .unset, .unset] [(.int (p1 &&& (3 : Int32)))])) _
      refine XS.iconst X0.here hx rfl (hb hby at_16) ?_
      exact kz
    by_cases hs9 : (p1 &&& (3 : Int32)) = (1 : Int32)
    · skip
      refine own_go (A := s₁.setTop (mkF m 20 #[.val (.int p1), .val (.int (p1 &&& (3 : Int32))), .unset, .unset, .unset, .unset, .unset] [])) (fun _ kz => ?_) ?_
      · show Steps p.tables e below (s₁.setTop (mkF m 17 #[.val (.int p1), .val (.int (p1 &&& (3 : Int32))), .unset, .unset, .unset, .unset, .unset] [(.int (1 : Int32)), (.int (p1 &&& (3 : Int32)))])) _
        refine XS.icmpNo X0.here hx rfl (hb hby at_17) rfl (teq hs9).2 ?_
        exact kz
      obtain ⟨T10, X10, e10, st10⟩ := getS2 X0 hx hZ hown (host := "") (Or.inl (hw _ (List.mem_of_getElem? (i := 45) rfl))) Via.refl e0 S_I (g := (mkF m 20 #[.val (.int p1), .val (.int (p1 &&& (3 : Int32))), .unset, .unset, .unset, .unset, .unset] [])) rfl (hb hby at_20)
      refine own_go (A := T10.setTop (mkF m 23 #[.val (.int p1), .val (.int (p1 &&& (3 : Int32))), .unset, .unset, .unset, .unset, .unset] [(.ref kI)])) (fun _ kz => st10 _ kz) ?_
      refine own_go (A := T10.setTop (mkF m 44 #[.val (.int p1), .val (.int (p1 &&& (3 : Int32))), .val (.ref kI), .unset, .unset, .unset, .unset] [(.ref kI)])) (fun _ kz => ?_) ?_
      · show Steps p.tables e below (T10.setTop (mkF m 23 #[.val (.int p1), .val (.int (p1 &&& (3 : Int32))), .unset, .unset, .unset, .unset, .unset] [(.ref kI)])) _
        refine XS.astoreN X10.here hx rfl (hb hby at_23) rfl rfl (l' := #[.val (.int p1), .val (.int (p1 &&& (3 : Int32))), .val (.ref kI), .unset, .unset, .unset, .unset]) rfl ?_
        show Steps p.tables e below (T10.setTop (mkF m 24 #[.val (.int p1), .val (.int (p1 &&& (3 : Int32))), .val (.ref kI), .unset, .unset, .unset, .unset] [])) _
        refine XS.goto X10.here hx rfl (pc0 := 24) (pc' := 43) rfl (hb hby at_24) (by decide) (by decide) ?_
        show Steps p.tables e below (T10.setTop (mkF m 43 #[.val (.int p1), .val (.int (p1 &&& (3 : Int32))), .val (.ref kI), .unset, .unset, .unset, .unset] [])) _
        refine XS.aloadN X10.here hx rfl (hb hby at_43) rfl rfl ?_
        exact kz
      obtain ⟨cq11, kq11, q11a, q11b, q11c⟩ := isOf hZ e10 EkI
      obtain ⟨_, _, ⟨T11, L11, k11, n11⟩, -, X11, ⟨Lc11, hQ11, l11, y11, z11⟩, st11⟩ := X10.virtualBack hx (y := (⟨"com/example/querybind/querybind/mapping/MappedStatement$Kind", "takesKeys", "()Z"⟩ : MethodName)) (z := (⟨"com/example/querybind/querybind/mapping/MappedStatement$Kind", "takesKeys", "()Z"⟩ : MethodName)) hown (mvT hZ (hw _ (List.mem_of_getElem? (i := 3) rfl))) (mvT hZ (hw _ (List.mem_of_getElem? (i := 4) rfl))) (notFace_of_selects (args := #[]) (mvT hZ (hw _ (List.mem_of_getElem? (i := 6) rfl)))) (mvT hZ (hw _ (List.mem_of_getElem? (i := 6) rfl))) (mvT hZ (hw _ (List.mem_of_getElem? (i := 5) rfl))) (by decide) (backOf (W := 0) (rmTK l Z a0 hw [] kI kI kU (1 : Int32) h0 n0 Z0 S_I S_U (by rw [if_pos rfl])) hZ (hw _ (List.mem_of_getElem? (i := 7) rfl)) (hw _ (List.mem_of_getElem? (i := 1) rfl)) (by decide) (by decide)) q11a q11c (g := (mkF m 44 #[.val (.int p1), .val (.int (p1 &&& (3 : Int32))), .val (.ref kI), .unset, .unset, .unset, .unset] [(.ref kI)])) rfl (by rw [hml]; rfl) (Steps.refl _) (argsL := []) (rest := []) (lenOf own_pd0 rfl) rfl (by show 2 * 0 + _ ≤ _; exact Nat.le_of_eq rfl) (hb hby at_44) (fun _ _ => ⟨rfl, e10, (by decide : 0 + 0 ≤ _), (by decide : 0 + 0 ≤ _)⟩)
      dsimp only [Pt.U, Pt.locs, Pt.cells, Pt.slots] at X11 l11 y11 z11 st11 hQ11
      subst l11 y11 z11
      obtain ⟨rfl, N11q, e11⟩ := hQ11
      have N11 := Fr.app N0 N11q
      refine own_go (A := T11.setTop (mkF m 47 #[.val (.int p1), .val (.int (p1 &&& (3 : Int32))), .val (.ref kI), .unset, .unset, .unset, .unset] [(.int (1 : Int32))])) (fun _ kz => st11.trans kz) ?_
      refine own_go (A := T11.setTop (mkF m 49 #[.val (.int p1), .val (.int (p1 &&& (3 : Int32))), .val (.ref kI), .val (.int (1 : Int32)), .unset, .unset, .unset] [(.ref kI)])) (fun _ kz => ?_) ?_
      · show Steps p.tables e below (T11.setTop (mkF m 47 #[.val (.int p1), .val (.int (p1 &&& (3 : Int32))), .val (.ref kI), .unset, .unset, .unset, .unset] [(.int (1 : Int32))])) _
        refine XS.istoreN X11.here hx rfl (hb hby at_47) rfl (l' := #[.val (.int p1), .val (.int (p1 &&& (3 : Int32))), .val (.ref kI), .val (.int (1 : Int32)), .unset, .unset, .unset]) rfl ?_
        show Steps p.tables e below (T11.setTop (mkF m 48 #[.val (.int p1), .val (.int (p1 &&& (3 : Int32))), .val (.ref kI), .val (.int (1 : Int32)), .unset, .unset, .unset] [])) _
        refine XS.aloadN X11.here hx rfl (hb hby at_48) rfl rfl ?_
        exact kz
      obtain ⟨cq12, kq12, q12a, q12b, q12c⟩ := isOf hZ e11 EkI
      obtain ⟨_, _, ⟨T12, L12, k12, n12⟩, -, X12, ⟨Lc12, hQ12, l12, y12, z12⟩, st12⟩ := X11.virtualBack hx (y := (⟨"com/example/querybind/querybind/mapping/MappedStatement$Kind", "element", "()Ljava/lang/String;"⟩ : MethodName)) (z := (⟨"com/example/querybind/querybind/mapping/MappedStatement$Kind", "element", "()Ljava/lang/String;"⟩ : MethodName)) hown (mvT hZ (hw _ (List.mem_of_getElem? (i := 12) rfl))) (mvT hZ (hw _ (List.mem_of_getElem? (i := 13) rfl))) (notFace_of_selects (args := #[]) (mvT hZ (hw _ (List.mem_of_getElem? (i := 15) rfl)))) (mvT hZ (hw _ (List.mem_of_getElem? (i := 15) rfl))) (mvT hZ (hw _ (List.mem_of_getElem? (i := 14) rfl))) (by decide) (backOf (W := 0) (rmEl l Z a0 hw [] kI tI h0 n0 Z0 FeI) hZ (hw _ (List.mem_of_getElem? (i := 16) rfl)) (hw _ (List.mem_of_getElem? (i := 1) rfl)) (by decide) (by decide)) q12a q12c (g := (mkF m 49 #[.val (.int p1), .val (.int (p1 &&& (3 : Int32))), .val (.ref kI), .val (.int (1 : Int32)), .unset, .unset, .unset] [(.ref kI)])) rfl (by rw [hml]; rfl) (Steps.refl _) (argsL := []) (rest := []) (lenOf own_pd1 rfl) rfl (by show 2 * 0 + _ ≤ _; exact Nat.le_of_eq rfl) (hb hby at_49) (fun _ _ => ⟨rfl, e11, (by decide : 0 + 0 ≤ _), (by decide : 0 + 0 ≤ _)⟩)
      dsimp only [Pt.U, Pt.locs, Pt.cells, Pt.slots] at X12 l12 y12 z12 st12 hQ12
      subst l12 y12 z12
      obtain ⟨rfl, N12q, e12⟩ := hQ12
      have N12 := Fr.app N11 N12q
      refine own_go (A := T12.setTop (mkF m 52 #[.val (.int p1), .val (.int (p1 &&& (3 : Int32))), .val (.ref kI), .val (.int (1 : Int32)), .unset, .unset, .unset] [(.ref tI)])) (fun _ kz => st12.trans kz) ?_
      refine own_go (A := T12.setTop (mkF m 56 #[.val (.int p1), .val (.int (p1 &&& (3 : Int32))), .val (.ref kI), .val (.int (1 : Int32)), .val (.ref tI), .unset, .unset] [(.ref tI)])) (fun _ kz => ?_) ?_
      · show Steps p.tables e below (T12.setTop (mkF m 52 #[.val (.int p1), .val (.int (p1 &&& (3 : Int32))), .val (.ref kI), .val (.int (1 : Int32)), .unset, .unset, .unset] [(.ref tI)])) _
        refine XS.astore X12.here hx rfl (hb hby at_52) rfl rfl (l' := #[.val (.int p1), .val (.int (p1 &&& (3 : Int32))), .val (.ref kI), .val (.int (1 : Int32)), .val (.ref tI), .unset, .unset]) rfl ?_
        show Steps p.tables e below (T12.setTop (mkF m 54 #[.val (.int p1), .val (.int (p1 &&& (3 : Int32))), .val (.ref kI), .val (.int (1 : Int32)), .val (.ref tI), .unset, .unset] [])) _
        refine XS.aload X12.here hx rfl (hb hby at_54) rfl rfl ?_
        exact kz
      obtain ⟨b13, T13, h13, ks13, t13, kc13, X13, e13, E13, hS, hkq, hZ, hown, Ex_b13, Fc_b13, Fv_b13, Av_t13, -, -, hI, Li_b13, st13⟩ := ldcSVL X12 hx hZ hown (hw _ (List.mem_of_getElem? (i := 19) rfl)) wS e12 hS hk (by rw [← hns]; exact N12) hkeep hI (by decide) (hheld _ (List.mem_of_getElem? (i := 0) rfl)) hcw (vs := [(.int (105 : Int32)), (.int (110 : Int32)), (.int (115 : Int32)), (.int (101 : Int32)), (.int (114 : Int32)), (.int (116 : Int32))]) (z := (6 : Int32)) ⟨by decide, by decide⟩ (by decide) (by decide) (g := (mkF m 56 #[.val (.int p1), .val (.int (p1 &&& (3 : Int32))), .val (.ref kI), .val (.int (1 : Int32)), .val (.ref tI), .unset, .unset] [(.ref tI)])) rfl (hb hby at_56) (n := 24) (by decide) (by decide) (by decide) (by decide)
      replace S_cs := S_cs.ext E13
      replace S_S := S_S.ext E13
      replace S_I := S_I.ext E13
      replace S_U := S_U.ext E13
      replace S_D := S_D.ext E13
      replace EkS := EkS.ext E13
      replace FoS := FoS.ext E13
      replace FeS := FeS.ext E13
      replace EtS := EtS.ext E13
      replace FcS := FcS.ext E13
      replace FvS := FvS.ext E13
      replace AvS := AvS.ext E13
      replace EkI := EkI.ext E13
      replace FoI := FoI.ext E13
      replace FeI := FeI.ext E13
      replace EtI := EtI.ext E13
      replace FcI := FcI.ext E13
      replace FvI := FvI.ext E13
      replace AvI := AvI.ext E13
      replace EkU := EkU.ext E13
      replace FoU := FoU.ext E13
      replace FeU := FeU.ext E13
      replace EtU := EtU.ext E13
      replace FcU := FcU.ext E13
      replace FvU := FvU.ext E13
      replace AvU := AvU.ext E13
      replace EkD := EkD.ext E13
      replace FoD := FoD.ext E13
      replace FeD := FeD.ext E13
      replace EtD := EtD.ext E13
      replace FcD := FcD.ext E13
      replace FvD := FvD.ext E13
      replace AvD := AvD.ext E13
      have Z13 : n0 ≤ h13.size := Nat.le_trans Z0 E13.1
      replace hk := Nat.le_trans hk E13.1
      replace hk := hkq
      refine own_go (A := T13.setTop (mkF m 58 #[.val (.int p1), .val (.int (p1 &&& (3 : Int32))), .val (.ref kI), .val (.int (1 : Int32)), .val (.ref tI), .unset, .unset] [(.ref b13), (.ref tI)])) (fun _ kz => st13 _ kz) ?_
      obtain ⟨cq14, kq14, q14a, q14b, q14c⟩ := isOf hZ e13 EtI
      obtain ⟨_, _, ⟨T14, L14, k14, n14⟩, -, X14, ⟨Lc14, hQ14, l14, y14, z14⟩, st14⟩ := X13.virtualBack hx (y := (⟨"java/lang/String", "equals", "(Ljava/lang/Object;)Z"⟩ : MethodName)) (z := (⟨"java/lang/String", "equals", "(Ljava/lang/Object;)Z"⟩ : MethodName)) hown (mvT hZ (hw _ (List.mem_of_getElem? (i := 27) rfl))) (mvT hZ (hw _ (List.mem_of_getElem? (i := 28) rfl))) (notFace_of_selects (args := #[]) (mvT hZ (hw _ (List.mem_of_getElem? (i := 30) rfl)))) (mvT hZ (hw _ (List.mem_of_getElem? (i := 30) rfl))) (mvT hZ (hw _ (List.mem_of_getElem? (i := 29) rfl))) (by decide) (backOf (W := 0) (rmSe2 l Z a0 hw [] tI b13 yI t13 qI kc13 cs h13 n0 Z13 EtI Ex_b13 FcI Fc_b13 FvI Fv_b13 AvI Av_t13 hcs S_cs) hZ (hw _ (List.mem_of_getElem? (i := 31) rfl)) (hw _ (List.mem_of_getElem? (i := 20) rfl)) (by decide) (by decide)) q14a q14c (g := (mkF m 58 #[.val (.int p1), .val (.int (p1 &&& (3 : Int32))), .val (.ref kI), .val (.int (1 : Int32)), .val (.ref tI), .unset, .unset] [(.ref b13), (.ref tI)])) rfl (by rw [hml]; rfl) (Steps.refl _) (argsL := [(.ref b13)]) (rest := []) (lenOf own_pd3 rfl) rfl (by show 2 * 0 + _ ≤ _; exact Nat.le_of_eq rfl) (hb hby at_58) (fun _ _ => ⟨rfl, e13, (by decide : 2 + 0 ≤ _), (by decide : 28 + 0 ≤ _)⟩)
      dsimp only [Pt.U, Pt.locs, Pt.cells, Pt.slots] at X14 l14 y14 z14 st14 hQ14
      subst l14 y14 z14
      obtain ⟨rfl, N14q, e14⟩ := hQ14
      have N14 := Fr.app N12 N14q
      refine own_go (A := T14.setTop (mkF m 61 #[.val (.int p1), .val (.int (p1 &&& (3 : Int32))), .val (.ref kI), .val (.int (1 : Int32)), .val (.ref tI), .unset, .unset] [(.int (1 : Int32))])) (fun _ kz => st14.trans kz) ?_
      refine own_go (A := T14.setTop (mkF m 115 #[.val (.int p1), .val (.int (p1 &&& (3 : Int32))), .val (.ref kI), .val (.int (1 : Int32)), .val (.ref tI), .val (.int (1 : Int32)), .val (.int (1 : Int32))] [(.int (1 : Int32))])) (fun _ kz => ?_) ?_
      · show Steps p.tables e below (T14.setTop (mkF m 61 #[.val (.int p1), .val (.int (p1 &&& (3 : Int32))), .val (.ref kI), .val (.int (1 : Int32)), .val (.ref tI), .unset, .unset] [(.int (1 : Int32))])) _
        refine XS.ifYes X14.here hx rfl (pc0 := 61) (pc' := 74) rfl (hb hby at_61) rfl ((if0 _ _).trans (feq (by decide : ¬ ((1 : Int32) = (0 : Int32)))).2) (by decide) (by decide) ?_
        show Steps p.tables e below (T14.setTop (mkF m 74 #[.val (.int p1), .val (.int (p1 &&& (3 : Int32))), .val (.ref kI), .val (.int (1 : Int32)), .val (.ref tI), .unset, .unset] [])) _
        refine XS.iconst X14.here hx rfl (hb hby at_74) ?_
        show Steps p.tables e below (T14.setTop (mkF m 75 #[.val (.int p1), .val (.int (p1 &&& (3 : Int32))), .val (.ref kI), .val (.int (1 : Int32)), .val (.ref tI), .unset, .unset] [(.int (1 : Int32))])) _
        refine XS.goto X14.here hx rfl (pc0 := 75) (pc' := 79) rfl (hb hby at_75) (by decide) (by decide) ?_
        show Steps p.tables e below (T14.setTop (mkF m 79 #[.val (.int p1), .val (.int (p1 &&& (3 : Int32))), .val (.ref kI), .val (.int (1 : Int32)), .val (.ref tI), .unset, .unset] [(.int (1 : Int32))])) _
        refine XS.istore X14.here hx rfl (hb hby at_79) rfl (l' := #[.val (.int p1), .val (.int (p1 &&& (3 : Int32))), .val (.ref kI), .val (.int (1 : Int32)), .val (.ref tI), .val (.int (1 : Int32)), .unset]) rfl ?_
        show Steps p.tables e below (T14.setTop (mkF m 81 #[.val (.int p1), .val (.int (p1 &&& (3 : Int32))), .val (.ref kI), .val (.int (1 : Int32)), .val (.ref tI), .val (.int (1 : Int32)), .unset] [])) _
        refine XS.iloadN X14.here hx rfl (hb hby at_81) rfl ?_
        show Steps p.tables e below (T14.setTop (mkF m 82 #[.val (.int p1), .val (.int (p1 &&& (3 : Int32))), .val (.ref kI), .val (.int (1 : Int32)), .val (.ref tI), .val (.int (1 : Int32)), .unset] [(.int (p1 &&& (3 : Int32)))])) _
        refine XS.iconst X14.here hx rfl (hb hby at_82) ?_
        show Steps p.tables e below (T14.setTop (mkF m 83 #[.val (.int p1), .val (.int (p1 &&& (3 : Int32))), .val (.ref kI), .val (.int (1 : Int32)), .val (.ref tI), .val (.int (1 : Int32)), .unset] [(.int (1 : Int32)), (.int (p1 &&& (3 : Int32)))])) _
        refine XS.icmpYes X14.here hx rfl (pc0 := 83) (pc' := 91) rfl (hb hby at_83) rfl (teq hs9).1 (by decide) (by decide) ?_
        show Steps p.tables e below (T14.setTop (mkF m 91 #[.val (.int p1), .val (.int (p1 &&& (3 : Int32))), .val (.ref kI), .val (.int (1 : Int32)), .val (.ref tI), .val (.int (1 : Int32)), .unset] [])) _
        refine XS.iconst X14.here hx rfl (hb hby at_91) ?_
        show Steps p.tables e below (T14.setTop (mkF m 92 #[.val (.int p1), .val (.int (p1 &&& (3 : Int32))), .val (.ref kI), .val (.int (1 : Int32)), .val (.ref tI), .val (.int (1 : Int32)), .unset] [(.int (1 : Int32))])) _
        refine XS.goto X14.here hx rfl (pc0 := 92) (pc' := 96) rfl (hb hby at_92) (by decide) (by decide) ?_
        show Steps p.tables e below (T14.setTop (mkF m 96 #[.val (.int p1), .val (.int (p1 &&& (3 : Int32))), .val (.ref kI), .val (.int (1 : Int32)), .val (.ref tI), .val (.int (1 : Int32)), .unset] [(.int (1 : Int32))])) _
        refine XS.istore X14.here hx rfl (hb hby at_96) rfl (l' := #[.val (.int p1), .val (.int (p1 &&& (3 : Int32))), .val (.ref kI), .val (.int (1 : Int32)), .val (.ref tI), .val (.int (1 : Int32)), .val (.int (1 : Int32))]) rfl ?_
        show Steps p.tables e below (T14.setTop (mkF m 98 #[.val (.int p1), .val (.int (p1 &&& (3 : Int32))), .val (.ref kI), .val (.int (1 : Int32)), .val (.ref tI), .val (.int (1 : Int32)), .val (.int (1 : Int32))] [])) _
        refine XS.iloadN X14.here hx rfl (hb hby at_98) rfl ?_
        show Steps p.tables e below (T14.setTop (mkF m 99 #[.val (.int p1), .val (.int (p1 &&& (3 : Int32))), .val (.ref kI), .val (.int (1 : Int32)), .val (.ref tI), .val (.int (1 : Int32)), .val (.int (1 : Int32))] [(.int (1 : Int32))])) _
        refine XS.iload X14.here hx rfl (hb hby at_99) rfl ?_
        show Steps p.tables e below (T14.setTop (mkF m 101 #[.val (.int p1), .val (.int (p1 &&& (3 : Int32))), .val (.ref kI), .val (.int (1 : Int32)), .val (.ref tI), .val (.int (1 : Int32)), .val (.int (1 : Int32))] [(.int (1 : Int32)), (.int (1 : Int32))])) _
        refine XS.icmpNo X14.here hx rfl (hb hby at_101) rfl (teq (by decide : ((1 : Int32) = (1 : Int32)))).2 ?_
        show Steps p.tables e below (T14.setTop (mkF m 104 #[.val (.int p1), .val (.int (p1 &&& (3 : Int32))), .val (.ref kI), .val (.int (1 : Int32)), .val (.ref tI), .val (.int (1 : Int32)), .val (.int (1 : Int32))] [])) _
        refine XS.iloadN X14.here hx rfl (hb hby at_104) rfl ?_
        show Steps p.tables e below (T14.setTop (mkF m 105 #[.val (.int p1), .val (.int (p1 &&& (3 : Int32))), .val (.ref kI), .val (.int (1 : Int32)), .val (.ref tI), .val (.int (1 : Int32)), .val (.int (1 : Int32))] [(.int (1 : Int32))])) _
        refine XS.iload X14.here hx rfl (hb hby at_105) rfl ?_
        show Steps p.tables e below (T14.setTop (mkF m 107 #[.val (.int p1), .val (.int (p1 &&& (3 : Int32))), .val (.ref kI), .val (.int (1 : Int32)), .val (.ref tI), .val (.int (1 : Int32)), .val (.int (1 : Int32))] [(.int (1 : Int32)), (.int (1 : Int32))])) _
        refine XS.icmpNo X14.here hx rfl (hb hby at_107) rfl (teq (by decide : ((1 : Int32) = (1 : Int32)))).2 ?_
        show Steps p.tables e below (T14.setTop (mkF m 110 #[.val (.int p1), .val (.int (p1 &&& (3 : Int32))), .val (.ref kI), .val (.int (1 : Int32)), .val (.ref tI), .val (.int (1 : Int32)), .val (.int (1 : Int32))] [])) _
        refine XS.iconst X14.here hx rfl (hb hby at_110) ?_
        show Steps p.tables e below (T14.setTop (mkF m 111 #[.val (.int p1), .val (.int (p1 &&& (3 : Int32))), .val (.ref kI), .val (.int (1 : Int32)), .val (.ref tI), .val (.int (1 : Int32)), .val (.int (1 : Int32))] [(.int (1 : Int32))])) _
        refine XS.goto X14.here hx rfl (pc0 := 111) (pc' := 115) rfl (hb hby at_111) (by decide) (by decide) ?_
        exact kz
      obtain ⟨fs, hrr, hrun, hended, r1, r2, r3, r4⟩ := X14.leaveW hS (by rw [e14]; exact hk) (v := some (.int (1 : Int32))) (fun h => by rw [Bd.returns] at h; cases h)
      refine ⟨_, _, ?_, hrun, hended, _, _, rfl, ?_, r1, r2, r3, r4.mono (by decide) (by decide)⟩
      · show Steps p.tables e below (T14.setTop (mkF m 115 #[.val (.int p1), .val (.int (p1 &&& (3 : Int32))), .val (.ref kI), .val (.int (1 : Int32)), .val (.ref tI), .val (.int (1 : Int32)), .val (.int (1 : Int32))] [(.int (1 : Int32))])) _
        exact retN X14 hx (t := .boolean) Bd.returns (by simp) (hb hby at_115) hrr
      · show Qrm0 Z  h0 n0 _ T14.heap _
        rw [e14]
        exact ⟨rfl, N14⟩
    · skip
      refine own_go (A := s₁.setTop (mkF m 27 #[.val (.int p1), .val (.int (p1 &&& (3 : Int32))), .unset, .unset, .unset, .unset, .unset] [])) (fun _ kz => ?_) ?_
      · show Steps p.tables e below (s₁.setTop (mkF m 17 #[.val (.int p1), .val (.int (p1 &&& (3 : Int32))), .unset, .unset, .unset, .unset, .unset] [(.int (1 : Int32)), (.int (p1 &&& (3 : Int32)))])) _
        refine XS.icmpYes X0.here hx rfl (pc0 := 17) (pc' := 27) rfl (hb hby at_17) rfl (feq hs9).2 (by decide) (by decide) ?_
        exact kz
      refine own_go (A := s₁.setTop (mkF m 29 #[.val (.int p1), .val (.int (p1 &&& (3 : Int32))), .unset, .unset, .unset, .unset, .unset] [(.int (2 : Int32)), (.int (p1 &&& (3 : Int32)))])) (fun _ kz => ?_) ?_
      · show Steps p.tables e below (s₁.setTop (mkF m 27 #[.val (.int p1), .val (.int (p1 &&& (3 : Int32))), .unset, .unset, .unset, .unset, .unset] [])) _
        refine XS.iloadN X0.here hx rfl (hb hby at_27) rfl ?_
        show Steps p.tables e below (s₁.setTop (mkF m 28 #[.val (.int p1), .val (.int (p1 &&& (3 : Int32))), .unset, .unset, .unset, .unset, .unset] [(.int (p1 &&& (3 : Int32)))])) _
        refine XS.iconst X0.here hx rfl (hb hby at_28) ?_
        exact kz
      by_cases hs15 : (p1 &&& (3 : Int32)) = (2 : Int32)
      · skip
        refine own_go (A := s₁.setTop (mkF m 32 #[.val (.int p1), .val (.int (p1 &&& (3 : Int32))), .unset, .unset, .unset, .unset, .unset] [])) (fun _ kz => ?_) ?_
        · show Steps p.tables e below (s₁.setTop (mkF m 29 #[.val (.int p1), .val (.int (p1 &&& (3 : Int32))), .unset, .unset, .unset, .unset, .unset] [(.int (2 : Int32)), (.int (p1 &&& (3 : Int32)))])) _
          refine XS.icmpNo X0.here hx rfl (hb hby at_29) rfl (teq hs15).2 ?_
          exact kz
        obtain ⟨T16, X16, e16, st16⟩ := getS2 X0 hx hZ hown (host := "") (Or.inl (hw _ (List.mem_of_getElem? (i := 44) rfl))) Via.refl e0 S_U (g := (mkF m 32 #[.val (.int p1), .val (.int (p1 &&& (3 : Int32))), .unset, .unset, .unset, .unset, .unset] [])) rfl (hb hby at_32)
        refine own_go (A := T16.setTop (mkF m 35 #[.val (.int p1), .val (.int (p1 &&& (3 : Int32))), .unset, .unset, .unset, .unset, .unset] [(.ref kU)])) (fun _ kz => st16 _ kz) ?_
        refine own_go (A := T16.setTop (mkF m 44 #[.val (.int p1), .val (.int (p1 &&& (3 : Int32))), .val (.ref kU), .unset, .unset, .unset, .unset] [(.ref kU)])) (fun _ kz => ?_) ?_
        · show Steps p.tables e below (T16.setTop (mkF m 35 #[.val (.int p1), .val (.int (p1 &&& (3 : Int32))), .unset, .unset, .unset, .unset, .unset] [(.ref kU)])) _
          refine XS.astoreN X16.here hx rfl (hb hby at_35) rfl rfl (l' := #[.val (.int p1), .val (.int (p1 &&& (3 : Int32))), .val (.ref kU), .unset, .unset, .unset, .unset]) rfl ?_
          show Steps p.tables e below (T16.setTop (mkF m 36 #[.val (.int p1), .val (.int (p1 &&& (3 : Int32))), .val (.ref kU), .unset, .unset, .unset, .unset] [])) _
          refine XS.goto X16.here hx rfl (pc0 := 36) (pc' := 43) rfl (hb hby at_36) (by decide) (by decide) ?_
          show Steps p.tables e below (T16.setTop (mkF m 43 #[.val (.int p1), .val (.int (p1 &&& (3 : Int32))), .val (.ref kU), .unset, .unset, .unset, .unset] [])) _
          refine XS.aloadN X16.here hx rfl (hb hby at_43) rfl rfl ?_
          exact kz
        obtain ⟨cq17, kq17, q17a, q17b, q17c⟩ := isOf hZ e16 EkU
        obtain ⟨_, _, ⟨T17, L17, k17, n17⟩, -, X17, ⟨Lc17, hQ17, l17, y17, z17⟩, st17⟩ := X16.virtualBack hx (y := (⟨"com/example/querybind/querybind/mapping/MappedStatement$Kind", "takesKeys", "()Z"⟩ : MethodName)) (z := (⟨"com/example/querybind/querybind/mapping/MappedStatement$Kind", "takesKeys", "()Z"⟩ : MethodName)) hown (mvT hZ (hw _ (List.mem_of_getElem? (i := 3) rfl))) (mvT hZ (hw _ (List.mem_of_getElem? (i := 4) rfl))) (notFace_of_selects (args := #[]) (mvT hZ (hw _ (List.mem_of_getElem? (i := 6) rfl)))) (mvT hZ (hw _ (List.mem_of_getElem? (i := 6) rfl))) (mvT hZ (hw _ (List.mem_of_getElem? (i := 5) rfl))) (by decide) (backOf (W := 0) (rmTK l Z a0 hw [] kU kI kU (1 : Int32) h0 n0 Z0 S_I S_U (by rw [if_neg ne_UI, if_pos rfl])) hZ (hw _ (List.mem_of_getElem? (i := 7) rfl)) (hw _ (List.mem_of_getElem? (i := 1) rfl)) (by decide) (by decide)) q17a q17c (g := (mkF m 44 #[.val (.int p1), .val (.int (p1 &&& (3 : Int32))), .val (.ref kU), .unset, .unset, .unset, .unset] [(.ref kU)])) rfl (by rw [hml]; rfl) (Steps.refl _) (argsL := []) (rest := []) (lenOf own_pd0 rfl) rfl (by show 2 * 0 + _ ≤ _; exact Nat.le_of_eq rfl) (hb hby at_44) (fun _ _ => ⟨rfl, e16, (by decide : 0 + 0 ≤ _), (by decide : 0 + 0 ≤ _)⟩)
        dsimp only [Pt.U, Pt.locs, Pt.cells, Pt.slots] at X17 l17 y17 z17 st17 hQ17
        subst l17 y17 z17
        obtain ⟨rfl, N17q, e17⟩ := hQ17
        have N17 := Fr.app N0 N17q
        refine own_go (A := T17.setTop (mkF m 47 #[.val (.int p1), .val (.int (p1 &&& (3 : Int32))), .val (.ref kU), .unset, .unset, .unset, .unset] [(.int (1 : Int32))])) (fun _ kz => st17.trans kz) ?_
        refine own_go (A := T17.setTop (mkF m 49 #[.val (.int p1), .val (.int (p1 &&& (3 : Int32))), .val (.ref kU), .val (.int (1 : Int32)), .unset, .unset, .unset] [(.ref kU)])) (fun _ kz => ?_) ?_
        · show Steps p.tables e below (T17.setTop (mkF m 47 #[.val (.int p1), .val (.int (p1 &&& (3 : Int32))), .val (.ref kU), .unset, .unset, .unset, .unset] [(.int (1 : Int32))])) _
          refine XS.istoreN X17.here hx rfl (hb hby at_47) rfl (l' := #[.val (.int p1), .val (.int (p1 &&& (3 : Int32))), .val (.ref kU), .val (.int (1 : Int32)), .unset, .unset, .unset]) rfl ?_
          show Steps p.tables e below (T17.setTop (mkF m 48 #[.val (.int p1), .val (.int (p1 &&& (3 : Int32))), .val (.ref kU), .val (.int (1 : Int32)), .unset, .unset, .unset] [])) _
          refine XS.aloadN X17.here hx rfl (hb hby at_48) rfl rfl ?_
          exact kz
        obtain ⟨cq18, kq18, q18a, q18b, q18c⟩ := isOf hZ e17 EkU
        obtain ⟨_, _, ⟨T18, L18, k18, n18⟩, -, X18, ⟨Lc18, hQ18, l18, y18, z18⟩, st18⟩ := X17.virtualBack hx (y := (⟨"com/example/querybind/querybind/mapping/MappedStatement$Kind", "element", "()Ljava/lang/String;"⟩ : MethodName)) (z := (⟨"com/example/querybind/querybind/mapping/MappedStatement$Kind", "element", "()Ljava/lang/String;"⟩ : MethodName)) hown (mvT hZ (hw _ (List.mem_of_getElem? (i := 12) rfl))) (mvT hZ (hw _ (List.mem_of_getElem? (i := 13) rfl))) (notFace_of_selects (args := #[]) (mvT hZ (hw _ (List.mem_of_getElem? (i := 15) rfl)))) (mvT hZ (hw _ (List.mem_of_getElem? (i := 15) rfl))) (mvT hZ (hw _ (List.mem_of_getElem? (i := 14) rfl))) (by decide) (backOf (W := 0) (rmEl l Z a0 hw [] kU tU h0 n0 Z0 FeU) hZ (hw _ (List.mem_of_getElem? (i := 16) rfl)) (hw _ (List.mem_of_getElem? (i := 1) rfl)) (by decide) (by decide)) q18a q18c (g := (mkF m 49 #[.val (.int p1), .val (.int (p1 &&& (3 : Int32))), .val (.ref kU), .val (.int (1 : Int32)), .unset, .unset, .unset] [(.ref kU)])) rfl (by rw [hml]; rfl) (Steps.refl _) (argsL := []) (rest := []) (lenOf own_pd1 rfl) rfl (by show 2 * 0 + _ ≤ _; exact Nat.le_of_eq rfl) (hb hby at_49) (fun _ _ => ⟨rfl, e17, (by decide : 0 + 0 ≤ _), (by decide : 0 + 0 ≤ _)⟩)
        dsimp only [Pt.U, Pt.locs, Pt.cells, Pt.slots] at X18 l18 y18 z18 st18 hQ18
        subst l18 y18 z18
        obtain ⟨rfl, N18q, e18⟩ := hQ18
        have N18 := Fr.app N17 N18q
        refine own_go (A := T18.setTop (mkF m 52 #[.val (.int p1), .val (.int (p1 &&& (3 : Int32))), .val (.ref kU), .val (.int (1 : Int32)), .unset, .unset, .unset] [(.ref tU)])) (fun _ kz => st18.trans kz) ?_
        refine own_go (A := T18.setTop (mkF m 56 #[.val (.int p1), .val (.int (p1 &&& (3 : Int32))), .val (.ref kU), .val (.int (1 : Int32)), .val (.ref tU), .unset, .unset] [(.ref tU)])) (fun _ kz => ?_) ?_
        · show Steps p.tables e below (T18.setTop (mkF m 52 #[.val (.int p1), .val (.int (p1 &&& (3 : Int32))), .val (.ref kU), .val (.int (1 : Int32)), .unset, .unset, .unset] [(.ref tU)])) _
          refine XS.astore X18.here hx rfl (hb hby at_52) rfl rfl (l' := #[.val (.int p1), .val (.int (p1 &&& (3 : Int32))), .val (.ref kU), .val (.int (1 : Int32)), .val (.ref tU), .unset, .unset]) rfl ?_
          show Steps p.tables e below (T18.setTop (mkF m 54 #[.val (.int p1), .val (.int (p1 &&& (3 : Int32))), .val (.ref kU), .val (.int (1 : Int32)), .val (.ref tU), .unset, .unset] [])) _
          refine XS.aload X18.here hx rfl (hb hby at_54) rfl rfl ?_
          exact kz
        obtain ⟨b19, T19, h19, ks19, t19, kc19, X19, e19, E19, hS, hkq, hZ, hown, Ex_b19, Fc_b19, Fv_b19, Av_t19, -, -, hI, Li_b19, st19⟩ := ldcSVL X18 hx hZ hown (hw _ (List.mem_of_getElem? (i := 19) rfl)) wS e18 hS hk (by rw [← hns]; exact N18) hkeep hI (by decide) (hheld _ (List.mem_of_getElem? (i := 0) rfl)) hcw (vs := [(.int (105 : Int32)), (.int (110 : Int32)), (.int (115 : Int32)), (.int (101 : Int32)), (.int (114 : Int32)), (.int (116 : Int32))]) (z := (6 : Int32)) ⟨by decide, by decide⟩ (by decide) (by decide) (g := (mkF m 56 #[.val (.int p1), .val (.int (p1 &&& (3 : Int32))), .val (.ref kU), .val (.int (1 : Int32)), .val (.ref tU), .unset, .unset] [(.ref tU)])) rfl (hb hby at_56) (n := 24) (by decide) (by decide) (by decide) (by decide)
        replace S_cs := S_cs.ext E19
        replace S_S := S_S.ext E19
        replace S_I := S_I.ext E19
        replace S_U := S_U.ext E19
        replace S_D := S_D.ext E19
        replace EkS := EkS.ext E19
        replace FoS := FoS.ext E19
        replace FeS := FeS.ext E19
        replace EtS := EtS.ext E19
        replace FcS := FcS.ext E19
        replace FvS := FvS.ext E19
        replace AvS := AvS.ext E19
        replace EkI := EkI.ext E19
        replace FoI := FoI.ext E19
        replace FeI := FeI.ext E19
        replace EtI := EtI.ext E19
        replace FcI := FcI.ext E19
        replace FvI := FvI.ext E19
        replace AvI := AvI.ext E19
        replace EkU := EkU.ext E19
        replace FoU := FoU.ext E19
        replace FeU := FeU.ext E19
        replace EtU := EtU.ext E19
        replace FcU := FcU.ext E19
        replace FvU := FvU.ext E19
        replace AvU := AvU.ext E19
        replace EkD := EkD.ext E19
        replace FoD := FoD.ext E19
        replace FeD := FeD.ext E19
        replace EtD := EtD.ext E19
        replace FcD := FcD.ext E19
        replace FvD := FvD.ext E19
        replace AvD := AvD.ext E19
        have Z19 : n0 ≤ h19.size := Nat.le_trans Z0 E19.1
        replace hk := Nat.le_trans hk E19.1
        replace hk := hkq
        refine own_go (A := T19.setTop (mkF m 58 #[.val (.int p1), .val (.int (p1 &&& (3 : Int32))), .val (.ref kU), .val (.int (1 : Int32)), .val (.ref tU), .unset, .unset] [(.ref b19), (.ref tU)])) (fun _ kz => st19 _ kz) ?_
        obtain ⟨cq20, kq20, q20a, q20b, q20c⟩ := isOf hZ e19 EtU
        obtain ⟨_, _, ⟨T20, L20, k20, n20⟩, -, X20, ⟨Lc20, hQ20, l20, y20, z20⟩, st20⟩ := X19.virtualBack hx (y := (⟨"java/lang/String", "equals", "(Ljava/lang/Object;)Z"⟩ : MethodName)) (z := (⟨"java/lang/String", "equals", "(Ljava/lang/Object;)Z"⟩ : MethodName)) hown (mvT hZ (hw _ (List.mem_of_getElem? (i := 27) rfl))) (mvT hZ (hw _ (List.mem_of_getElem? (i := 28) rfl))) (notFace_of_selects (args := #[]) (mvT hZ (hw _ (List.mem_of_getElem? (i := 30) rfl)))) (mvT hZ (hw _ (List.mem_of_getElem? (i := 30) rfl))) (mvT hZ (hw _ (List.mem_of_getElem? (i := 29) rfl))) (by decide) (backOf (W := 0) (rmSe3 l Z a0 hw [] tU b19 yU t19 qU kc19 cs h19 n0 Z19 EtU Ex_b19 FcU Fc_b19 FvU Fv_b19 AvU Av_t19 hcs S_cs) hZ (hw _ (List.mem_of_getElem? (i := 31) rfl)) (hw _ (List.mem_of_getElem? (i := 20) rfl)) (by decide) (by decide)) q20a q20c (g := (mkF m 58 #[.val (.int p1), .val (.int (p1 &&& (3 : Int32))), .val (.ref kU), .val (.int (1 : Int32)), .val (.ref tU), .unset, .unset] [(.ref b19), (.ref tU)])) rfl (by rw [hml]; rfl) (Steps.refl _) (argsL := [(.ref b19)]) (rest := []) (lenOf own_pd3 rfl) rfl (by show 2 * 0 + _ ≤ _; exact Nat.le_of_eq rfl) (hb hby at_58) (fun _ _ => ⟨rfl, e19, (by decide : 2 + 0 ≤ _), (by decide : 28 + 0 ≤ _)⟩)
        dsimp only [Pt.U, Pt.locs, Pt.cells, Pt.slots] at X20 l20 y20 z20 st20 hQ20
        subst l20 y20 z20
        obtain ⟨rfl, N20q, e20⟩ := hQ20
        have N20 := Fr.app N18 N20q
        refine own_go (A := T20.setTop (mkF m 61 #[.val (.int p1), .val (.int (p1 &&& (3 : Int32))), .val (.ref kU), .val (.int (1 : Int32)), .val (.ref tU), .unset, .unset] [(.int (0 : Int32))])) (fun _ kz => st20.trans kz) ?_
        refine own_go (A := T20.setTop (mkF m 66 #[.val (.int p1), .val (.int (p1 &&& (3 : Int32))), .val (.ref kU), .val (.int (1 : Int32)), .val (.ref tU), .unset, .unset] [(.ref tU)])) (fun _ kz => ?_) ?_
        · show Steps p.tables e below (T20.setTop (mkF m 61 #[.val (.int p1), .val (.int (p1 &&& (3 : Int32))), .val (.ref kU), .val (.int (1 : Int32)), .val (.ref tU), .unset, .unset] [(.int (0 : Int32))])) _
          refine XS.ifNo X20.here hx rfl (hb hby at_61) rfl ((if0 _ _).trans (teq (by decide : ((0 : Int32) = (0 : Int32)))).2) ?_
          show Steps p.tables e below (T20.setTop (mkF m 64 #[.val (.int p1), .val (.int (p1 &&& (3 : Int32))), .val (.ref kU), .val (.int (1 : Int32)), .val (.ref tU), .unset, .unset] [])) _
          refine XS.aload X20.here hx rfl (hb hby at_64) rfl rfl ?_
          exact kz
        obtain ⟨b21, T21, h21, ks21, t21, kc21, X21, e21, E21, hS, hkq, hZ, hown, Ex_b21, Fc_b21, Fv_b21, Av_t21, -, -, hI, Li_b21, st21⟩ := ldcSVL X20 hx hZ hown (hw _ (List.mem_of_getElem? (i := 41) rfl)) wS e20 hS hk (by rw [← hns]; exact N20) hkeep hI (by decide) (hheld _ (List.mem_of_getElem? (i := 1) rfl)) hcw (vs := [(.int (117 : Int32)), (.int (112 : Int32)), (.int (100 : Int32)), (.int (97 : Int32)), (.int (116 : Int32)), (.int (101 : Int32))]) (z := (6 : Int32)) ⟨by decide, by decide⟩ (by decide) (by decide) (g := (mkF m 66 #[.val (.int p1), .val (.int (p1 &&& (3 : Int32))), .val (.ref kU), .val (.int (1 : Int32)), .val (.ref tU), .unset, .unset] [(.ref tU)])) rfl (hb hby at_66) (n := 24) (by decide) (by decide) (by decide) (by decide)
        replace S_cs := S_cs.ext E21
        replace S_S := S_S.ext E21
        replace S_I := S_I.ext E21
        replace S_U := S_U.ext E21
        replace S_D := S_D.ext E21
        replace EkS := EkS.ext E21
        replace FoS := FoS.ext E21
        replace FeS := FeS.ext E21
        replace EtS := EtS.ext E21
        replace FcS := FcS.ext E21
        replace FvS := FvS.ext E21
        replace AvS := AvS.ext E21
        replace EkI := EkI.ext E21
        replace FoI := FoI.ext E21
        replace FeI := FeI.ext E21
        replace EtI := EtI.ext E21
        replace FcI := FcI.ext E21
        replace FvI := FvI.ext E21
        replace AvI := AvI.ext E21
        replace EkU := EkU.ext E21
        replace FoU := FoU.ext E21
        replace FeU := FeU.ext E21
        replace EtU := EtU.ext E21
        replace FcU := FcU.ext E21
        replace FvU := FvU.ext E21
        replace AvU := AvU.ext E21
        replace EkD := EkD.ext E21
        replace FoD := FoD.ext E21
        replace FeD := FeD.ext E21
        replace EtD := EtD.ext E21
        replace FcD := FcD.ext E21
        replace FvD := FvD.ext E21
        replace AvD := AvD.ext E21
        replace Ex_b19 := Ex_b19.ext E21
        replace Fc_b19 := Fc_b19.ext E21
        replace Fv_b19 := Fv_b19.ext E21
        replace Av_t19 := Av_t19.ext E21
        have Z21 : n0 ≤ h21.size := Nat.le_trans Z19 E21.1
        replace hk := Nat.le_trans hk E21.1
        replace hk := hkq
        refine own_go (A := T21.setTop (mkF m 68 #[.val (.int p1), .val (.int (p1 &&& (3 : Int32))), .val (.ref kU), .val (.int (1 : Int32)), .val (.ref tU), .unset, .unset] [(.ref b21), (.ref tU)])) (fun _ kz => st21 _ kz) ?_
        obtain ⟨cq22, kq22, q22a, q22b, q22c⟩ := isOf hZ e21 EtU
        obtain ⟨_, _, ⟨T22, L22, k22, n22⟩, -, X22, ⟨Lc22, hQ22, l22, y22, z22⟩, st22⟩ := X21.virtualBack hx (y := (⟨"java/lang/String", "equals", "(Ljava/lang/Object;)Z"⟩ : MethodName)) (z := (⟨"java/lang/String", "equals", "(Ljava/lang/Object;)Z"⟩ : MethodName)) hown (mvT hZ (hw _ (List.mem_of_getElem? (i := 27) rfl))) (mvT hZ (hw _ (List.mem_of_getElem? (i := 28) rfl))) (notFace_of_selects (args := #[]) (mvT hZ (hw _ (List.mem_of_getElem? (i := 30) rfl)))) (mvT hZ (hw _ (List.mem_of_getElem? (i := 30) rfl))) (mvT hZ (hw _ (List.mem_of_getElem? (i := 29) rfl))) (by decide) (backOf (W := 0) (rmSe4 l Z a0 hw [] tU b21 yU t21 qU kc21 cs h21 n0 Z21 EtU Ex_b21 FcU Fc_b21 FvU Fv_b21 AvU Av_t21 hcs S_cs) hZ (hw _ (List.mem_of_getElem? (i := 31) rfl)) (hw _ (List.mem_of_getElem? (i := 20) rfl)) (by decide) (by decide)) q22a q22c (g := (mkF m 68 #[.val (.int p1), .val (.int (p1 &&& (3 : Int32))), .val (.ref kU), .val (.int (1 : Int32)), .val (.ref tU), .unset, .unset] [(.ref b21), (.ref tU)])) rfl (by rw [hml]; rfl) (Steps.refl _) (argsL := [(.ref b21)]) (rest := []) (lenOf own_pd3 rfl) rfl (by show 2 * 0 + _ ≤ _; exact Nat.le_of_eq rfl) (hb hby at_68) (fun _ _ => ⟨rfl, e21, (by decide : 4 + 0 ≤ _), (by decide : 56 + 0 ≤ _)⟩)
        dsimp only [Pt.U, Pt.locs, Pt.cells, Pt.slots] at X22 l22 y22 z22 st22 hQ22
        subst l22 y22 z22
        obtain ⟨rfl, N22q, e22⟩ := hQ22
        have N22 := Fr.app N20 N22q
        refine own_go (A := T22.setTop (mkF m 71 #[.val (.int p1), .val (.int (p1 &&& (3 : Int32))), .val (.ref kU), .val (.int (1 : Int32)), .val (.ref tU), .unset, .unset] [(.int (1 : Int32))])) (fun _ kz => st22.trans kz) ?_
        refine own_go (A := T22.setTop (mkF m 115 #[.val (.int p1), .val (.int (p1 &&& (3 : Int32))), .val (.ref kU), .val (.int (1 : Int32)), .val (.ref tU), .val (.int (1 : Int32)), .val (.int (1 : Int32))] [(.int (1 : Int32))])) (fun _ kz => ?_) ?_
        · show Steps p.tables e below (T22.setTop (mkF m 71 #[.val (.int p1), .val (.int (p1 &&& (3 : Int32))), .val (.ref kU), .val (.int (1 : Int32)), .val (.ref tU), .unset, .unset] [(.int (1 : Int32))])) _
          refine XS.ifNo X22.here hx rfl (hb hby at_71) rfl ((if0 _ _).trans (feq (by decide : ¬ ((1 : Int32) = (0 : Int32)))).1) ?_
          show Steps p.tables e below (T22.setTop (mkF m 74 #[.val (.int p1), .val (.int (p1 &&& (3 : Int32))), .val (.ref kU), .val (.int (1 : Int32)), .val (.ref tU), .unset, .unset] [])) _
          refine XS.iconst X22.here hx rfl (hb hby at_74) ?_
          show Steps p.tables e below (T22.setTop (mkF m 75 #[.val (.int p1), .val (.int (p1 &&& (3 : Int32))), .val (.ref kU), .val (.int (1 : Int32)), .val (.ref tU), .unset, .unset] [(.int (1 : Int32))])) _
          refine XS.goto X22.here hx rfl (pc0 := 75) (pc' := 79) rfl (hb hby at_75) (by decide) (by decide) ?_
          show Steps p.tables e below (T22.setTop (mkF m 79 #[.val (.int p1), .val (.int (p1 &&& (3 : Int32))), .val (.ref kU), .val (.int (1 : Int32)), .val (.ref tU), .unset, .unset] [(.int (1 : Int32))])) _
          refine XS.istore X22.here hx rfl (hb hby at_79) rfl (l' := #[.val (.int p1), .val (.int (p1 &&& (3 : Int32))), .val (.ref kU), .val (.int (1 : Int32)), .val (.ref tU), .val (.int (1 : Int32)), .unset]) rfl ?_
          show Steps p.tables e below (T22.setTop (mkF m 81 #[.val (.int p1), .val (.int (p1 &&& (3 : Int32))), .val (.ref kU), .val (.int (1 : Int32)), .val (.ref tU), .val (.int (1 : Int32)), .unset] [])) _
          refine XS.iloadN X22.here hx rfl (hb hby at_81) rfl ?_
          show Steps p.tables e below (T22.setTop (mkF m 82 #[.val (.int p1), .val (.int (p1 &&& (3 : Int32))), .val (.ref kU), .val (.int (1 : Int32)), .val (.ref tU), .val (.int (1 : Int32)), .unset] [(.int (p1 &&& (3 : Int32)))])) _
          refine XS.iconst X22.here hx rfl (hb hby at_82) ?_
          show Steps p.tables e below (T22.setTop (mkF m 83 #[.val (.int p1), .val (.int (p1 &&& (3 : Int32))), .val (.ref kU), .val (.int (1 : Int32)), .val (.ref tU), .val (.int (1 : Int32)), .unset] [(.int (1 : Int32)), (.int (p1 &&& (3 : Int32)))])) _
          refine XS.icmpNo X22.here hx rfl (hb hby at_83) rfl (feq hs9).1 ?_
          show Steps p.tables e below (T22.setTop (mkF m 86 #[.val (.int p1), .val (.int (p1 &&& (3 : Int32))), .val (.ref kU), .val (.int (1 : Int32)), .val (.ref tU), .val (.int (1 : Int32)), .unset] [])) _
          refine XS.iloadN X22.here hx rfl (hb hby at_86) rfl ?_
          show Steps p.tables e below (T22.setTop (mkF m 87 #[.val (.int p1), .val (.int (p1 &&& (3 : Int32))), .val (.ref kU), .val (.int (1 : Int32)), .val (.ref tU), .val (.int (1 : Int32)), .unset] [(.int (p1 &&& (3 : Int32)))])) _
          refine XS.iconst X22.here hx rfl (hb hby at_87) ?_
          show Steps p.tables e below (T22.setTop (mkF m 88 #[.val (.int p1), .val (.int (p1 &&& (3 : Int32))), .val (.ref kU), .val (.int (1 : Int32)), .val (.ref tU), .val (.int (1 : Int32)), .unset] [(.int (2 : Int32)), (.int (p1 &&& (3 : Int32)))])) _
          refine XS.icmpNo X22.here hx rfl (hb hby at_88) rfl (teq hs15).2 ?_
          show Steps p.tables e below (T22.setTop (mkF m 91 #[.val (.int p1), .val (.int (p1 &&& (3 : Int32))), .val (.ref kU), .val (.int (1 : Int32)), .val (.ref tU), .val (.int (1 : Int32)), .unset] [])) _
          refine XS.iconst X22.here hx rfl (hb hby at_91) ?_
          show Steps p.tables e below (T22.setTop (mkF m 92 #[.val (.int p1), .val (.int (p1 &&& (3 : Int32))), .val (.ref kU), .val (.int (1 : Int32)), .val (.ref tU), .val (.int (1 : Int32)), .unset] [(.int (1 : Int32))])) _
          refine XS.goto X22.here hx rfl (pc0 := 92) (pc' := 96) rfl (hb hby at_92) (by decide) (by decide) ?_
          show Steps p.tables e below (T22.setTop (mkF m 96 #[.val (.int p1), .val (.int (p1 &&& (3 : Int32))), .val (.ref kU), .val (.int (1 : Int32)), .val (.ref tU), .val (.int (1 : Int32)), .unset] [(.int (1 : Int32))])) _
          refine XS.istore X22.here hx rfl (hb hby at_96) rfl (l' := #[.val (.int p1), .val (.int (p1 &&& (3 : Int32))), .val (.ref kU), .val (.int (1 : Int32)), .val (.ref tU), .val (.int (1 : Int32)), .val (.int (1 : Int32))]) rfl ?_
          show Steps p.tables e below (T22.setTop (mkF m 98 #[.val (.int p1), .val (.int (p1 &&& (3 : Int32))), .val (.ref kU), .val (.int (1 : Int32)), .val (.ref tU), .val (.int (1 : Int32)), .val (.int (1 : Int32))] [])) _
          refine XS.iloadN X22.here hx rfl (hb hby at_98) rfl ?_
          show Steps p.tables e below (T22.setTop (mkF m 99 #[.val (.int p1), .val (.int (p1 &&& (3 : Int32))), .val (.ref kU), .val (.int (1 : Int32)), .val (.ref tU), .val (.int (1 : Int32)), .val (.int (1 : Int32))] [(.int (1 : Int32))])) _
          refine XS.iload X22.here hx rfl (hb hby at_99) rfl ?_
          show Steps p.tables e below (T22.setTop (mkF m 101 #[.val (.int p1), .val (.int (p1 &&& (3 : Int32))), .val (.ref kU), .val (.int (1 : Int32)), .val (.ref tU), .val (.int (1 : Int32)), .val (.int (1 : Int32))] [(.int (1 : Int32)), (.int (1 : Int32))])) _
          refine XS.icmpNo X22.here hx rfl (hb hby at_101) rfl (teq (by decide : ((1 : Int32) = (1 : Int32)))).2 ?_
          show Steps p.tables e below (T22.setTop (mkF m 104 #[.val (.int p1), .val (.int (p1 &&& (3 : Int32))), .val (.ref kU), .val (.int (1 : Int32)), .val (.ref tU), .val (.int (1 : Int32)), .val (.int (1 : Int32))] [])) _
          refine XS.iloadN X22.here hx rfl (hb hby at_104) rfl ?_
          show Steps p.tables e below (T22.setTop (mkF m 105 #[.val (.int p1), .val (.int (p1 &&& (3 : Int32))), .val (.ref kU), .val (.int (1 : Int32)), .val (.ref tU), .val (.int (1 : Int32)), .val (.int (1 : Int32))] [(.int (1 : Int32))])) _
          refine XS.iload X22.here hx rfl (hb hby at_105) rfl ?_
          show Steps p.tables e below (T22.setTop (mkF m 107 #[.val (.int p1), .val (.int (p1 &&& (3 : Int32))), .val (.ref kU), .val (.int (1 : Int32)), .val (.ref tU), .val (.int (1 : Int32)), .val (.int (1 : Int32))] [(.int (1 : Int32)), (.int (1 : Int32))])) _
          refine XS.icmpNo X22.here hx rfl (hb hby at_107) rfl (teq (by decide : ((1 : Int32) = (1 : Int32)))).2 ?_
          show Steps p.tables e below (T22.setTop (mkF m 110 #[.val (.int p1), .val (.int (p1 &&& (3 : Int32))), .val (.ref kU), .val (.int (1 : Int32)), .val (.ref tU), .val (.int (1 : Int32)), .val (.int (1 : Int32))] [])) _
          refine XS.iconst X22.here hx rfl (hb hby at_110) ?_
          show Steps p.tables e below (T22.setTop (mkF m 111 #[.val (.int p1), .val (.int (p1 &&& (3 : Int32))), .val (.ref kU), .val (.int (1 : Int32)), .val (.ref tU), .val (.int (1 : Int32)), .val (.int (1 : Int32))] [(.int (1 : Int32))])) _
          refine XS.goto X22.here hx rfl (pc0 := 111) (pc' := 115) rfl (hb hby at_111) (by decide) (by decide) ?_
          exact kz
        obtain ⟨fs, hrr, hrun, hended, r1, r2, r3, r4⟩ := X22.leaveW hS (by rw [e22]; exact hk) (v := some (.int (1 : Int32))) (fun h => by rw [Bd.returns] at h; cases h)
        refine ⟨_, _, ?_, hrun, hended, _, _, rfl, ?_, r1, r2, r3, r4.mono (by decide) (by decide)⟩
        · show Steps p.tables e below (T22.setTop (mkF m 115 #[.val (.int p1), .val (.int (p1 &&& (3 : Int32))), .val (.ref kU), .val (.int (1 : Int32)), .val (.ref tU), .val (.int (1 : Int32)), .val (.int (1 : Int32))] [(.int (1 : Int32))])) _
          exact retN X22 hx (t := .boolean) Bd.returns (by simp) (hb hby at_115) hrr
        · show Qrm0 Z  h0 n0 _ T22.heap _
          rw [e22]
          exact ⟨rfl, N22⟩
      · skip
        refine own_go (A := s₁.setTop (mkF m 39 #[.val (.int p1), .val (.int (p1 &&& (3 : Int32))), .unset, .unset, .unset, .unset, .unset] [])) (fun _ kz => ?_) ?_
        · show Steps p.tables e below (s₁.setTop (mkF m 29 #[.val (.int p1), .val (.int (p1 &&& (3 : Int32))), .unset, .unset, .unset, .unset, .unset] [(.int (2 : Int32)), (.int (p1 &&& (3 : Int32)))])) _
          refine XS.icmpYes X0.here hx rfl (pc0 := 29) (pc' := 39) rfl (hb hby at_29) rfl (feq hs15).2 (by decide) (by decide) ?_
          exact kz
        obtain ⟨T23, X23, e23, st23⟩ := getS2 X0 hx hZ hown (host := "") (Or.inl (hw _ (List.mem_of_getElem? (i := 42) rfl))) Via.refl e0 S_D (g := (mkF m 39 #[.val (.int p1), .val (.int (p1 &&& (3 : Int32))), .unset, .unset, .unset, .unset, .unset] [])) rfl (hb hby at_39)
        refine own_go (A := T23.setTop (mkF m 42 #[.val (.int p1), .val (.int (p1 &&& (3 : Int32))), .unset, .unset, .unset, .unset, .unset] [(.ref kD)])) (fun _ kz => st23 _ kz) ?_
        refine own_go (A := T23.setTop (mkF m 44 #[.val (.int p1), .val (.int (p1 &&& (3 : Int32))), .val (.ref kD), .unset, .unset, .unset, .unset] [(.ref kD)])) (fun _ kz => ?_) ?_
        · show Steps p.tables e below (T23.setTop (mkF m 42 #[.val (.int p1), .val (.int (p1 &&& (3 : Int32))), .unset, .unset, .unset, .unset, .unset] [(.ref kD)])) _
          refine XS.astoreN X23.here hx rfl (hb hby at_42) rfl rfl (l' := #[.val (.int p1), .val (.int (p1 &&& (3 : Int32))), .val (.ref kD), .unset, .unset, .unset, .unset]) rfl ?_
          show Steps p.tables e below (T23.setTop (mkF m 43 #[.val (.int p1), .val (.int (p1 &&& (3 : Int32))), .val (.ref kD), .unset, .unset, .unset, .unset] [])) _
          refine XS.aloadN X23.here hx rfl (hb hby at_43) rfl rfl ?_
          exact kz
        obtain ⟨cq24, kq24, q24a, q24b, q24c⟩ := isOf hZ e23 EkD
        obtain ⟨_, _, ⟨T24, L24, k24, n24⟩, -, X24, ⟨Lc24, hQ24, l24, y24, z24⟩, st24⟩ := X23.virtualBack hx (y := (⟨"com/example/querybind/querybind/mapping/MappedStatement$Kind", "takesKeys", "()Z"⟩ : MethodName)) (z := (⟨"com/example/querybind/querybind/mapping/MappedStatement$Kind", "takesKeys", "()Z"⟩ : MethodName)) hown (mvT hZ (hw _ (List.mem_of_getElem? (i := 3) rfl))) (mvT hZ (hw _ (List.mem_of_getElem? (i := 4) rfl))) (notFace_of_selects (args := #[]) (mvT hZ (hw _ (List.mem_of_getElem? (i := 6) rfl)))) (mvT hZ (hw _ (List.mem_of_getElem? (i := 6) rfl))) (mvT hZ (hw _ (List.mem_of_getElem? (i := 5) rfl))) (by decide) (backOf (W := 0) (rmTK l Z a0 hw [] kD kI kU (0 : Int32) h0 n0 Z0 S_I S_U (by rw [if_neg ne_DI, if_neg ne_DU])) hZ (hw _ (List.mem_of_getElem? (i := 7) rfl)) (hw _ (List.mem_of_getElem? (i := 1) rfl)) (by decide) (by decide)) q24a q24c (g := (mkF m 44 #[.val (.int p1), .val (.int (p1 &&& (3 : Int32))), .val (.ref kD), .unset, .unset, .unset, .unset] [(.ref kD)])) rfl (by rw [hml]; rfl) (Steps.refl _) (argsL := []) (rest := []) (lenOf own_pd0 rfl) rfl (by show 2 * 0 + _ ≤ _; exact Nat.le_of_eq rfl) (hb hby at_44) (fun _ _ => ⟨rfl, e23, (by decide : 0 + 0 ≤ _), (by decide : 0 + 0 ≤ _)⟩)
        dsimp only [Pt.U, Pt.locs, Pt.cells, Pt.slots] at X24 l24 y24 z24 st24 hQ24
        subst l24 y24 z24
        obtain ⟨rfl, N24q, e24⟩ := hQ24
        have N24 := Fr.app N0 N24q
        refine own_go (A := T24.setTop (mkF m 47 #[.val (.int p1), .val (.int (p1 &&& (3 : Int32))), .val (.ref kD), .unset, .unset, .unset, .unset] [(.int (0 : Int32))])) (fun _ kz => st24.trans kz) ?_
        refine own_go (A := T24.setTop (mkF m 49 #[.val (.int p1), .val (.int (p1 &&& (3 : Int32))), .val (.ref kD), .val (.int (0 : Int32)), .unset, .unset, .unset] [(.ref kD)])) (fun _ kz => ?_) ?_
        · show Steps p.tables e below (T24.setTop (mkF m 47 #[.val (.int p1), .val (.int (p1 &&& (3 : Int32))), .val (.ref kD), .unset, .unset, .unset, .unset] [(.int (0 : Int32))])) _
          refine XS.istoreN X24.here hx rfl (hb hby at_47) rfl (l' := #[.val (.int p1), .val (.int (p1 &&& (3 : Int32))), .val (.ref kD), .val (.int (0 : Int32)), .unset, .unset, .unset]) rfl ?_
          show Steps p.tables e below (T24.setTop (mkF m 48 #[.val (.int p1), .val (.int (p1 &&& (3 : Int32))), .val (.ref kD), .val (.int (0 : Int32)), .unset, .unset, .unset] [])) _
          refine XS.aloadN X24.here hx rfl (hb hby at_48) rfl rfl ?_
          exact kz
        obtain ⟨cq25, kq25, q25a, q25b, q25c⟩ := isOf hZ e24 EkD
        obtain ⟨_, _, ⟨T25, L25, k25, n25⟩, -, X25, ⟨Lc25, hQ25, l25, y25, z25⟩, st25⟩ := X24.virtualBack hx (y := (⟨"com/example/querybind/querybind/mapping/MappedStatement$Kind", "element", "()Ljava/lang/String;"⟩ : MethodName)) (z := (⟨"com/example/querybind/querybind/mapping/MappedStatement$Kind", "element", "()Ljava/lang/String;"⟩ : MethodName)) hown (mvT hZ (hw _ (List.mem_of_getElem? (i := 12) rfl))) (mvT hZ (hw _ (List.mem_of_getElem? (i := 13) rfl))) (notFace_of_selects (args := #[]) (mvT hZ (hw _ (List.mem_of_getElem? (i := 15) rfl)))) (mvT hZ (hw _ (List.mem_of_getElem? (i := 15) rfl))) (mvT hZ (hw _ (List.mem_of_getElem? (i := 14) rfl))) (by decide) (backOf (W := 0) (rmEl l Z a0 hw [] kD tD h0 n0 Z0 FeD) hZ (hw _ (List.mem_of_getElem? (i := 16) rfl)) (hw _ (List.mem_of_getElem? (i := 1) rfl)) (by decide) (by decide)) q25a q25c (g := (mkF m 49 #[.val (.int p1), .val (.int (p1 &&& (3 : Int32))), .val (.ref kD), .val (.int (0 : Int32)), .unset, .unset, .unset] [(.ref kD)])) rfl (by rw [hml]; rfl) (Steps.refl _) (argsL := []) (rest := []) (lenOf own_pd1 rfl) rfl (by show 2 * 0 + _ ≤ _; exact Nat.le_of_eq rfl) (hb hby at_49) (fun _ _ => ⟨rfl, e24, (by decide : 0 + 0 ≤ _), (by decide : 0 + 0 ≤ _)⟩)
        dsimp only [Pt.U, Pt.locs, Pt.cells, Pt.slots] at X25 l25 y25 z25 st25 hQ25
        subst l25 y25 z25
        obtain ⟨rfl, N25q, e25⟩ := hQ25
        have N25 := Fr.app N24 N25q
        refine own_go (A := T25.setTop (mkF m 52 #[.val (.int p1), .val (.int (p1 &&& (3 : Int32))), .val (.ref kD), .val (.int (0 : Int32)), .unset, .unset, .unset] [(.ref tD)])) (fun _ kz => st25.trans kz) ?_
        refine own_go (A := T25.setTop (mkF m 56 #[.val (.int p1), .val (.int (p1 &&& (3 : Int32))), .val (.ref kD), .val (.int (0 : Int32)), .val (.ref tD), .unset, .unset] [(.ref tD)])) (fun _ kz => ?_) ?_
        · show Steps p.tables e below (T25.setTop (mkF m 52 #[.val (.int p1), .val (.int (p1 &&& (3 : Int32))), .val (.ref kD), .val (.int (0 : Int32)), .unset, .unset, .unset] [(.ref tD)])) _
          refine XS.astore X25.here hx rfl (hb hby at_52) rfl rfl (l' := #[.val (.int p1), .val (.int (p1 &&& (3 : Int32))), .val (.ref kD), .val (.int (0 : Int32)), .val (.ref tD), .unset, .unset]) rfl ?_
          show Steps p.tables e below (T25.setTop (mkF m 54 #[.val (.int p1), .val (.int (p1 &&& (3 : Int32))), .val (.ref kD), .val (.int (0 : Int32)), .val (.ref tD), .unset, .unset] [])) _
          refine XS.aload X25.here hx rfl (hb hby at_54) rfl rfl ?_
          exact kz
        obtain ⟨b26, T26, h26, ks26, t26, kc26, X26, e26, E26, hS, hkq, hZ, hown, Ex_b26, Fc_b26, Fv_b26, Av_t26, -, -, hI, Li_b26, st26⟩ := ldcSVL X25 hx hZ hown (hw _ (List.mem_of_getElem? (i := 19) rfl)) wS e25 hS hk (by rw [← hns]; exact N25) hkeep hI (by decide) (hheld _ (List.mem_of_getElem? (i := 0) rfl)) hcw (vs := [(.int (105 : Int32)), (.int (110 : Int32)), (.int (115 : Int32)), (.int (101 : Int32)), (.int (114 : Int32)), (.int (116 : Int32))]) (z := (6 : Int32)) ⟨by decide, by decide⟩ (by decide) (by decide) (g := (mkF m 56 #[.val (.int p1), .val (.int (p1 &&& (3 : Int32))), .val (.ref kD), .val (.int (0 : Int32)), .val (.ref tD), .unset, .unset] [(.ref tD)])) rfl (hb hby at_56) (n := 24) (by decide) (by decide) (by decide) (by decide)
        replace S_cs := S_cs.ext E26
        replace S_S := S_S.ext E26
        replace S_I := S_I.ext E26
        replace S_U := S_U.ext E26
        replace S_D := S_D.ext E26
        replace EkS := EkS.ext E26
        replace FoS := FoS.ext E26
        replace FeS := FeS.ext E26
        replace EtS := EtS.ext E26
        replace FcS := FcS.ext E26
        replace FvS := FvS.ext E26
        replace AvS := AvS.ext E26
        replace EkI := EkI.ext E26
        replace FoI := FoI.ext E26
        replace FeI := FeI.ext E26
        replace EtI := EtI.ext E26
        replace FcI := FcI.ext E26
        replace FvI := FvI.ext E26
        replace AvI := AvI.ext E26
        replace EkU := EkU.ext E26
        replace FoU := FoU.ext E26
        replace FeU := FeU.ext E26
        replace EtU := EtU.ext E26
        replace FcU := FcU.ext E26
        replace FvU := FvU.ext E26
        replace AvU := AvU.ext E26
        replace EkD := EkD.ext E26
        replace FoD := FoD.ext E26
        replace FeD := FeD.ext E26
        replace EtD := EtD.ext E26
        replace FcD := FcD.ext E26
        replace FvD := FvD.ext E26
        replace AvD := AvD.ext E26
        have Z26 : n0 ≤ h26.size := Nat.le_trans Z0 E26.1
        replace hk := Nat.le_trans hk E26.1
        replace hk := hkq
        refine own_go (A := T26.setTop (mkF m 58 #[.val (.int p1), .val (.int (p1 &&& (3 : Int32))), .val (.ref kD), .val (.int (0 : Int32)), .val (.ref tD), .unset, .unset] [(.ref b26), (.ref tD)])) (fun _ kz => st26 _ kz) ?_
        obtain ⟨cq27, kq27, q27a, q27b, q27c⟩ := isOf hZ e26 EtD
        obtain ⟨_, _, ⟨T27, L27, k27, n27⟩, -, X27, ⟨Lc27, hQ27, l27, y27, z27⟩, st27⟩ := X26.virtualBack hx (y := (⟨"java/lang/String", "equals", "(Ljava/lang/Object;)Z"⟩ : MethodName)) (z := (⟨"java/lang/String", "equals", "(Ljava/lang/Object;)Z"⟩ : MethodName)) hown (mvT hZ (hw _ (List.mem_of_getElem? (i := 27) rfl))) (mvT hZ (hw _ (List.mem_of_getElem? (i := 28) rfl))) (notFace_of_selects (args := #[]) (mvT hZ (hw _ (List.mem_of_getElem? (i := 30) rfl)))) (mvT hZ (hw _ (List.mem_of_getElem? (i := 30) rfl))) (mvT hZ (hw _ (List.mem_of_getElem? (i := 29) rfl))) (by decide) (backOf (W := 0) (rmSe5 l Z a0 hw [] tD b26 yD t26 qD kc26 cs h26 n0 Z26 EtD Ex_b26 FcD Fc_b26 FvD Fv_b26 AvD Av_t26 hcs S_cs) hZ (hw _ (List.mem_of_getElem? (i := 31) rfl)) (hw _ (List.mem_of_getElem? (i := 20) rfl)) (by decide) (by decide)) q27a q27c (g := (mkF m 58 #[.val (.int p1), .val (.int (p1 &&& (3 : Int32))), .val (.ref kD), .val (.int (0 : Int32)), .val (.ref tD), .unset, .unset] [(.ref b26), (.ref tD)])) rfl (by rw [hml]; rfl) (Steps.refl _) (argsL := [(.ref b26)]) (rest := []) (lenOf own_pd3 rfl) rfl (by show 2 * 0 + _ ≤ _; exact Nat.le_of_eq rfl) (hb hby at_58) (fun _ _ => ⟨rfl, e26, (by decide : 2 + 0 ≤ _), (by decide : 28 + 0 ≤ _)⟩)
        dsimp only [Pt.U, Pt.locs, Pt.cells, Pt.slots] at X27 l27 y27 z27 st27 hQ27
        subst l27 y27 z27
        obtain ⟨rfl, N27q, e27⟩ := hQ27
        have N27 := Fr.app N25 N27q
        refine own_go (A := T27.setTop (mkF m 61 #[.val (.int p1), .val (.int (p1 &&& (3 : Int32))), .val (.ref kD), .val (.int (0 : Int32)), .val (.ref tD), .unset, .unset] [(.int (0 : Int32))])) (fun _ kz => st27.trans kz) ?_
        refine own_go (A := T27.setTop (mkF m 66 #[.val (.int p1), .val (.int (p1 &&& (3 : Int32))), .val (.ref kD), .val (.int (0 : Int32)), .val (.ref tD), .unset, .unset] [(.ref tD)])) (fun _ kz => ?_) ?_
        · show Steps p.tables e below (T27.setTop (mkF m 61 #[.val (.int p1), .val (.int (p1 &&& (3 : Int32))), .val (.ref kD), .val (.int (0 : Int32)), .val (.ref tD), .unset, .unset] [(.int (0 : Int32))])) _
          refine XS.ifNo X27.here hx rfl (hb hby at_61) rfl ((if0 _ _).trans (teq (by decide : ((0 : Int32) = (0 : Int32)))).2) ?_
          show Steps p.tables e below (T27.setTop (mkF m 64 #[.val (.int p1), .val (.int (p1 &&& (3 : Int32))), .val (.ref kD), .val (.int (0 : Int32)), .val (.ref tD), .unset, .unset] [])) _
          refine XS.aload X27.here hx rfl (hb hby at_64) rfl rfl ?_
          exact kz
        obtain ⟨b28, T28, h28, ks28, t28, kc28, X28, e28, E28, hS, hkq, hZ, hown, Ex_b28, Fc_b28, Fv_b28, Av_t28, -, -, hI, Li_b28, st28⟩ := ldcSVL X27 hx hZ hown (hw _ (List.mem_of_getElem? (i := 41) rfl)) wS e27 hS hk (by rw [← hns]; exact N27) hkeep hI (by decide) (hheld _ (List.mem_of_getElem? (i := 1) rfl)) hcw (vs := [(.int (117 : Int32)), (.int (112 : Int32)), (.int (100 : Int32)), (.int (97 : Int32)), (.int (116 : Int32)), (.int (101 : Int32))]) (z := (6 : Int32)) ⟨by decide, by decide⟩ (by decide) (by decide) (g := (mkF m 66 #[.val (.int p1), .val (.int (p1 &&& (3 : Int32))), .val (.ref kD), .val (.int (0 : Int32)), .val (.ref tD), .unset, .unset] [(.ref tD)])) rfl (hb hby at_66) (n := 24) (by decide) (by decide) (by decide) (by decide)
        replace S_cs := S_cs.ext E28
        replace S_S := S_S.ext E28
        replace S_I := S_I.ext E28
        replace S_U := S_U.ext E28
        replace S_D := S_D.ext E28
        replace EkS := EkS.ext E28
        replace FoS := FoS.ext E28
        replace FeS := FeS.ext E28
        replace EtS := EtS.ext E28
        replace FcS := FcS.ext E28
        replace FvS := FvS.ext E28
        replace AvS := AvS.ext E28
        replace EkI := EkI.ext E28
        replace FoI := FoI.ext E28
        replace FeI := FeI.ext E28
        replace EtI := EtI.ext E28
        replace FcI := FcI.ext E28
        replace FvI := FvI.ext E28
        replace AvI := AvI.ext E28
        replace EkU := EkU.ext E28
        replace FoU := FoU.ext E28
        replace FeU := FeU.ext E28
        replace EtU := EtU.ext E28
        replace FcU := FcU.ext E28
        replace FvU := FvU.ext E28
        replace AvU := AvU.ext E28
        replace EkD := EkD.ext E28
        replace FoD := FoD.ext E28
        replace FeD := FeD.ext E28
        replace EtD := EtD.ext E28
        replace FcD := FcD.ext E28
        replace FvD := FvD.ext E28
        replace AvD := AvD.ext E28
        replace Ex_b26 := Ex_b26.ext E28
        replace Fc_b26 := Fc_b26.ext E28
        replace Fv_b26 := Fv_b26.ext E28
        replace Av_t26 := Av_t26.ext E28
        have Z28 : n0 ≤ h28.size := Nat.le_trans Z26 E28.1
        replace hk := Nat.le_trans hk E28.1
        replace hk := hkq
        refine own_go (A := T28.setTop (mkF m 68 #[.val (.int p1), .val (.int (p1 &&& (3 : Int32))), .val (.ref kD), .val (.int (0 : Int32)), .val (.ref tD), .unset, .unset] [(.ref b28), (.ref tD)])) (fun _ kz => st28 _ kz) ?_
        obtain ⟨cq29, kq29, q29a, q29b, q29c⟩ := isOf hZ e28 EtD
        obtain ⟨_, _, ⟨T29, L29, k29, n29⟩, -, X29, ⟨Lc29, hQ29, l29, y29, z29⟩, st29⟩ := X28.virtualBack hx (y := (⟨"java/lang/String", "equals", "(Ljava/lang/Object;)Z"⟩ : MethodName)) (z := (⟨"java/lang/String", "equals", "(Ljava/lang/Object;)Z"⟩ : MethodName)) hown (mvT hZ (hw _ (List.mem_of_getElem? (i := 27) rfl))) (mvT hZ (hw _ (List.mem_of_getElem? (i := 28) rfl))) (notFace_of_selects (args := #[]) (mvT hZ (hw _ (List.mem_of_getElem? (i := 30) rfl)))) (mvT hZ (hw _ (List.mem_of_getElem? (i := 30) rfl))) (mvT hZ (hw _ (List.mem_of_getElem? (i := 29) rfl))) (by decide) (backOf (W := 0) (rmSe6 l Z a0 hw [] tD b28 yD t28 qD kc28 cs h28 n0 Z28 EtD Ex_b28 FcD Fc_b28 FvD Fv_b28 AvD Av_t28 hcs S_cs) hZ (hw _ (List.mem_of_getElem? (i := 31) rfl)) (hw _ (List.mem_of_getElem? (i := 20) rfl)) (by decide) (by decide)) q29a q29c (g := (mkF m 68 #[.val (.int p1), .val (.int (p1 &&& (3 : Int32))), .val (.ref kD), .val (.int (0 : Int32)), .val (.ref tD), .unset, .unset] [(.ref b28), (.ref tD)])) rfl (by rw [hml]; rfl) (Steps.refl _) (argsL := [(.ref b28)]) (rest := []) (lenOf own_pd3 rfl) rfl (by show 2 * 0 + _ ≤ _; exact Nat.le_of_eq rfl) (hb hby at_68) (fun _ _ => ⟨rfl, e28, (by decide : 4 + 0 ≤ _), (by decide : 56 + 0 ≤ _)⟩)
        dsimp only [Pt.U, Pt.locs, Pt.cells, Pt.slots] at X29 l29 y29 z29 st29 hQ29
        subst l29 y29 z29
        obtain ⟨rfl, N29q, e29⟩ := hQ29
        have N29 := Fr.app N27 N29q
        refine own_go (A := T29.setTop (mkF m 71 #[.val (.int p1), .val (.int (p1 &&& (3 : Int32))), .val (.ref kD), .val (.int (0 : Int32)), .val (.ref tD), .unset, .unset] [(.int (0 : Int32))])) (fun _ kz => st29.trans kz) ?_
        refine own_go (A := T29.setTop (mkF m 115 #[.val (.int p1), .val (.int (p1 &&& (3 : Int32))), .val (.ref kD), .val (.int (0 : Int32)), .val (.ref tD), .val (.int (0 : Int32)), .val (.int (0 : Int32))] [(.int (1 : Int32))])) (fun _ kz => ?_) ?_
        · show Steps p.tables e below (T29.setTop (mkF m 71 #[.val (.int p1), .val (.int (p1 &&& (3 : Int32))), .val (.ref kD), .val (.int (0 : Int32)), .val (.ref tD), .unset, .unset] [(.int (0 : Int32))])) _
          refine XS.ifYes X29.here hx rfl (pc0 := 71) (pc' := 78) rfl (hb hby at_71) rfl ((if0 _ _).trans (teq (by decide : ((0 : Int32) = (0 : Int32)))).1) (by decide) (by decide) ?_
          show Steps p.tables e below (T29.setTop (mkF m 78 #[.val (.int p1), .val (.int (p1 &&& (3 : Int32))), .val (.ref kD), .val (.int (0 : Int32)), .val (.ref tD), .unset, .unset] [])) _
          refine XS.iconst X29.here hx rfl (hb hby at_78) ?_
          show Steps p.tables e below (T29.setTop (mkF m 79 #[.val (.int p1), .val (.int (p1 &&& (3 : Int32))), .val (.ref kD), .val (.int (0 : Int32)), .val (.ref tD), .unset, .unset] [(.int (0 : Int32))])) _
          refine XS.istore X29.here hx rfl (hb hby at_79) rfl (l' := #[.val (.int p1), .val (.int (p1 &&& (3 : Int32))), .val (.ref kD), .val (.int (0 : Int32)), .val (.ref tD), .val (.int (0 : Int32)), .unset]) rfl ?_
          show Steps p.tables e below (T29.setTop (mkF m 81 #[.val (.int p1), .val (.int (p1 &&& (3 : Int32))), .val (.ref kD), .val (.int (0 : Int32)), .val (.ref tD), .val (.int (0 : Int32)), .unset] [])) _
          refine XS.iloadN X29.here hx rfl (hb hby at_81) rfl ?_
          show Steps p.tables e below (T29.setTop (mkF m 82 #[.val (.int p1), .val (.int (p1 &&& (3 : Int32))), .val (.ref kD), .val (.int (0 : Int32)), .val (.ref tD), .val (.int (0 : Int32)), .unset] [(.int (p1 &&& (3 : Int32)))])) _
          refine XS.iconst X29.here hx rfl (hb hby at_82) ?_
          show Steps p.tables e below (T29.setTop (mkF m 83 #[.val (.int p1), .val (.int (p1 &&& (3 : Int32))), .val (.ref kD), .val (.int (0 : Int32)), .val (.ref tD), .val (.int (0 : Int32)), .unset] [(.int (1 : Int32)), (.int (p1 &&& (3 : Int32)))])) _
          refine XS.icmpNo X29.here hx rfl (hb hby at_83) rfl (feq hs9).1 ?_
          show Steps p.tables e below (T29.setTop (mkF m 86 #[.val (.int p1), .val (.int (p1 &&& (3 : Int32))), .val (.ref kD), .val (.int (0 : Int32)), .val (.ref tD), .val (.int (0 : Int32)), .unset] [])) _
          refine XS.iloadN X29.here hx rfl (hb hby at_86) rfl ?_
          show Steps p.tables e below (T29.setTop (mkF m 87 #[.val (.int p1), .val (.int (p1 &&& (3 : Int32))), .val (.ref kD), .val (.int (0 : Int32)), .val (.ref tD), .val (.int (0 : Int32)), .unset] [(.int (p1 &&& (3 : Int32)))])) _
          refine XS.iconst X29.here hx rfl (hb hby at_87) ?_
          show Steps p.tables e below (T29.setTop (mkF m 88 #[.val (.int p1), .val (.int (p1 &&& (3 : Int32))), .val (.ref kD), .val (.int (0 : Int32)), .val (.ref tD), .val (.int (0 : Int32)), .unset] [(.int (2 : Int32)), (.int (p1 &&& (3 : Int32)))])) _
          refine XS.icmpYes X29.here hx rfl (pc0 := 88) (pc' := 95) rfl (hb hby at_88) rfl (feq hs15).2 (by decide) (by decide) ?_
          show Steps p.tables e below (T29.setTop (mkF m 95 #[.val (.int p1), .val (.int (p1 &&& (3 : Int32))), .val (.ref kD), .val (.int (0 : Int32)), .val (.ref tD), .val (.int (0 : Int32)), .unset] [])) _
          refine XS.iconst X29.here hx rfl (hb hby at_95) ?_
          show Steps p.tables e below (T29.setTop (mkF m 96 #[.val (.int p1), .val (.int (p1 &&& (3 : Int32))), .val (.ref kD), .val (.int (0 : Int32)), .val (.ref tD), .val (.int (0 : Int32)), .unset] [(.int (0 : Int32))])) _
          refine XS.istore X29.here hx rfl (hb hby at_96) rfl (l' := #[.val (.int p1), .val (.int (p1 &&& (3 : Int32))), .val (.ref kD), .val (.int (0 : Int32)), .val (.ref tD), .val (.int (0 : Int32)), .val (.int (0 : Int32))]) rfl ?_
          show Steps p.tables e below (T29.setTop (mkF m 98 #[.val (.int p1), .val (.int (p1 &&& (3 : Int32))), .val (.ref kD), .val (.int (0 : Int32)), .val (.ref tD), .val (.int (0 : Int32)), .val (.int (0 : Int32))] [])) _
          refine XS.iloadN X29.here hx rfl (hb hby at_98) rfl ?_
          show Steps p.tables e below (T29.setTop (mkF m 99 #[.val (.int p1), .val (.int (p1 &&& (3 : Int32))), .val (.ref kD), .val (.int (0 : Int32)), .val (.ref tD), .val (.int (0 : Int32)), .val (.int (0 : Int32))] [(.int (0 : Int32))])) _
          refine XS.iload X29.here hx rfl (hb hby at_99) rfl ?_
          show Steps p.tables e below (T29.setTop (mkF m 101 #[.val (.int p1), .val (.int (p1 &&& (3 : Int32))), .val (.ref kD), .val (.int (0 : Int32)), .val (.ref tD), .val (.int (0 : Int32)), .val (.int (0 : Int32))] [(.int (0 : Int32)), (.int (0 : Int32))])) _
          refine XS.icmpNo X29.here hx rfl (hb hby at_101) rfl (teq (by decide : ((0 : Int32) = (0 : Int32)))).2 ?_
          show Steps p.tables e below (T29.setTop (mkF m 104 #[.val (.int p1), .val (.int (p1 &&& (3 : Int32))), .val (.ref kD), .val (.int (0 : Int32)), .val (.ref tD), .val (.int (0 : Int32)), .val (.int (0 : Int32))] [])) _
          refine XS.iloadN X29.here hx rfl (hb hby at_104) rfl ?_
          show Steps p.tables e below (T29.setTop (mkF m 105 #[.val (.int p1), .val (.int (p1 &&& (3 : Int32))), .val (.ref kD), .val (.int (0 : Int32)), .val (.ref tD), .val (.int (0 : Int32)), .val (.int (0 : Int32))] [(.int (0 : Int32))])) _
          refine XS.iload X29.here hx rfl (hb hby at_105) rfl ?_
          show Steps p.tables e below (T29.setTop (mkF m 107 #[.val (.int p1), .val (.int (p1 &&& (3 : Int32))), .val (.ref kD), .val (.int (0 : Int32)), .val (.ref tD), .val (.int (0 : Int32)), .val (.int (0 : Int32))] [(.int (0 : Int32)), (.int (0 : Int32))])) _
          refine XS.icmpNo X29.here hx rfl (hb hby at_107) rfl (teq (by decide : ((0 : Int32) = (0 : Int32)))).2 ?_
          show Steps p.tables e below (T29.setTop (mkF m 110 #[.val (.int p1), .val (.int (p1 &&& (3 : Int32))), .val (.ref kD), .val (.int (0 : Int32)), .val (.ref tD), .val (.int (0 : Int32)), .val (.int (0 : Int32))] [])) _
          refine XS.iconst X29.here hx rfl (hb hby at_110) ?_
          show Steps p.tables e below (T29.setTop (mkF m 111 #[.val (.int p1), .val (.int (p1 &&& (3 : Int32))), .val (.ref kD), .val (.int (0 : Int32)), .val (.ref tD), .val (.int (0 : Int32)), .val (.int (0 : Int32))] [(.int (1 : Int32))])) _
          refine XS.goto X29.here hx rfl (pc0 := 111) (pc' := 115) rfl (hb hby at_111) (by decide) (by decide) ?_
          exact kz
        obtain ⟨fs, hrr, hrun, hended, r1, r2, r3, r4⟩ := X29.leaveW hS (by rw [e29]; exact hk) (v := some (.int (1 : Int32))) (fun h => by rw [Bd.returns] at h; cases h)
        refine ⟨_, _, ?_, hrun, hended, _, _, rfl, ?_, r1, r2, r3, r4.mono (by decide) (by decide)⟩
        · show Steps p.tables e below (T29.setTop (mkF m 115 #[.val (.int p1), .val (.int (p1 &&& (3 : Int32))), .val (.ref kD), .val (.int (0 : Int32)), .val (.ref tD), .val (.int (0 : Int32)), .val (.int (0 : Int32))] [(.int (1 : Int32))])) _
          exact retN X29 hx (t := .boolean) Bd.returns (by simp) (hb hby at_115) hrr
        · show Qrm0 Z  h0 n0 _ T29.heap _
          rw [e29]
          exact ⟨rfl, N29⟩
set_option maxRecDepth 65536 in
set_option maxHeartbeats 40000000 in
theorem comes_1 {Post : Tables → Env → Array Value → State → Outcome → State → Prop} (hpost : ∀ tb e args s v u, (limb_1_1.after args s (.returned v) u = true ∧ limb_1_2.after args s (.returned v) u = true ∧ True) → ReturnedEndW s (.returned v) u (Jvm.fieldLocs frame_1_writes args s ++ Jvm.arrayLocs frame_1_arrays args s ++ Jvm.staticLocs frame_1_statics s) 8 2112 → Post tb e args s (.returned v) u) :
    ArmFor flags0 classFile x code maxLocals ret World_1 tables_1 room_1 Calls_1 rest_1 Pre_1 Post := by
  intro l hfl _ _ p e ha hc hk s m args below hf hA hF happ hP
  obtain ⟨hcalls, hrest, hpre⟩ := hP
  obtain ⟨-, -, -, hnamed, -, -, -, hat⟩ := (Spec.applies_iff hf).mp happ
  obtain ⟨hg, hn⟩ := and_e (Cond.before_iff.mp (show (Jvm.Cond.and given_1 narrow_1).before args s = true from hpre))
  obtain ⟨hcnt, hg1⟩ := and_e hg
  obtain ⟨w0, rfl⟩ : ∃ w0 : Value, args = #[w0] := by
    have hs : args.size = 1 := by simpa [Cond.value, given_1] using hcnt
    obtain ⟨L⟩ := args
    match L, hs with
    | [w0], _ => exact ⟨w0, rfl⟩
  have hw := fun d (hd : d ∈ tables_1) => atoms_spec (ws := Jvm.Cond.code x code maxLocals ret :: tables_1) hat d (List.mem_cons_of_mem _ hd)
  have hfit : Fit s := fun {y c} hc i hi => by
    obtain ⟨ha, rfl⟩ := Array.getElem?_eq_some_iff.mp hc
    have q := List.all_eq_true.mp ((Array.all_eq_true_iff_forall_mem.mp hF) _ (Array.getElem_mem ha)) i (List.mem_range.mpr hi)
    simpa [Array.getElem?_eq_getElem hi] using q
  obtain ⟨i0, ei0⟩ := is_v hg1
  obtain rfl : w0 = (.int i0) := Option.some.inj ei0
  obtain ⟨nw0, nw_0⟩ := and_e hn
  obtain ⟨nw1, nw_1⟩ := and_e nw_0
  obtain ⟨nw2, nw_2⟩ := and_e nw_1
  obtain ⟨nw3, nw_3⟩ := and_e nw_2
  obtain ⟨nw4, nw_4⟩ := and_e nw_3
  obtain ⟨nw5, nw_5⟩ := and_e nw_4
  obtain ⟨nw6, nw_6⟩ := and_e nw_5
  obtain ⟨nw7, nw_7⟩ := and_e nw_6
  obtain ⟨nw8, nw_8⟩ := and_e nw_7
  obtain ⟨nw9, nw_9⟩ := and_e nw_8
  obtain ⟨nw10, nw_10⟩ := and_e nw_9
  obtain ⟨nw11, nw_11⟩ := and_e nw_10
  obtain ⟨nw12, nw_12⟩ := and_e nw_11
  obtain ⟨nw13, nw_13⟩ := and_e nw_12
  obtain ⟨nw14, nw_14⟩ := and_e nw_13
  obtain ⟨nw15, nw_15⟩ := and_e nw_14
  obtain ⟨nw16, nw_16⟩ := and_e nw_15
  obtain ⟨nw17, nw_17⟩ := and_e nw_16
  obtain ⟨nw18, nw_18⟩ := and_e nw_17
  obtain ⟨nw19, nw_19⟩ := and_e nw_18
  obtain ⟨nw20, nw_20⟩ := and_e nw_19
  obtain ⟨nw21, nw_21⟩ := and_e nw_20
  obtain ⟨nw22, nw_22⟩ := and_e nw_21
  obtain ⟨nw23, nw_23⟩ := and_e nw_22
  obtain ⟨nw24, nw_24⟩ := and_e nw_23
  obtain ⟨nw25, nw_25⟩ := and_e nw_24
  obtain ⟨nw26, nw_26⟩ := and_e nw_25
  obtain ⟨nw27, nw_27⟩ := and_e nw_26
  obtain ⟨nw28, nw_28⟩ := and_e nw_27
  obtain ⟨nw29, nw_29⟩ := and_e nw_28
  obtain ⟨nw30, nw_30⟩ := and_e nw_29
  obtain ⟨nw31, nw_31⟩ := and_e nw_30
  obtain ⟨nw32, nw_32⟩ := and_e nw_31
  obtain ⟨nw33, nw_33⟩ := and_e nw_32
  obtain ⟨nw34, nw_34⟩ := and_e nw_33
  obtain ⟨nw35, nw_35⟩ := and_e nw_34
  obtain ⟨nw36, nw_36⟩ := and_e nw_35
  obtain ⟨nw37, nw_37⟩ := and_e nw_36
  obtain ⟨nw38, nw_38⟩ := and_e nw_37
  obtain ⟨nw39, nw_39⟩ := and_e nw_38
  obtain ⟨nw40, nw_40⟩ := and_e nw_39
  obtain ⟨nw41, nw_41⟩ := and_e nw_40
  obtain ⟨nw42, nw_42⟩ := and_e nw_41
  obtain ⟨nw43, nw_43⟩ := and_e nw_42
  obtain ⟨nw44, nw_44⟩ := and_e nw_43
  obtain ⟨nw45, nw_45⟩ := and_e nw_44
  obtain ⟨nw46, nw_46⟩ := and_e nw_45
  have nw47 := nw_46
  obtain ⟨hsets, hown0⟩ := atoms_of _ (rest_1_c_eq ▸ (show rest_1_c.before _ s = true from hrest))
  have hcw : Jvm.Lit.compactW.before _ s = true := hsets _ (List.mem_of_getElem? (i := 2) rfl)
  have n3 := not_v (Cond.before_iff.mp (hsets _ (List.mem_of_getElem? (i := 2) rfl)))
  obtain ⟨cs, ecs⟩ := is_v (Cond.before_iff.mp (hsets _ (List.mem_of_getElem? (i := 1) rfl)))
  have S_cs : Sta s s.heap "java/lang/String" "COMPACT_STRINGS" "Z" (.int cs) := Sta.start ecs (Or.inl (hsets _ (List.mem_of_getElem? (i := 0) rfl)))
  have hcs : ¬ (cs = (0 : Int32)) := gotF (Cond.eq_ints ecs (Term.int_eval (0))) n3
  obtain ⟨kS, ekS⟩ := exa_v nw0
  have S_S : Sta s s.heap "com/example/querybind/querybind/mapping/MappedStatement$Kind" "SELECT" "Lcom/example/querybind/querybind/mapping/MappedStatement$Kind;" (.ref kS) := Sta.start ekS (Or.inr ⟨(hw _ (List.mem_of_getElem? (i := 1) rfl)), (hw _ (List.mem_of_getElem? (i := 2) rfl))⟩)
  have EkS := Exa.start ekS nw0
  have FoS : Fld s s.heap kS "java/lang/Enum" "ordinal" "I" (.int (0 : Int32)) := Fld.start (by have h := own_eqInt nw2; rwa [fld_at ekS] at h)
  obtain ⟨tS, yS, qS, FeS, EtS, FcS, FvS, AvS⟩ := own_str hfit ekS nw6 nw7 nw8 nw9 nw24 nw25 nw26 nw27 nw28 nw29
  obtain ⟨kI, ekI⟩ := exa_v nw1
  have S_I : Sta s s.heap "com/example/querybind/querybind/mapping/MappedStatement$Kind" "INSERT" "Lcom/example/querybind/querybind/mapping/MappedStatement$Kind;" (.ref kI) := Sta.start ekI (Or.inr ⟨(hw _ (List.mem_of_getElem? (i := 1) rfl)), (hw _ (List.mem_of_getElem? (i := 9) rfl))⟩)
  have EkI := Exa.start ekI nw1
  have FoI : Fld s s.heap kI "java/lang/Enum" "ordinal" "I" (.int (1 : Int32)) := Fld.start (by have h := own_eqInt nw3; rwa [fld_at ekI] at h)
  obtain ⟨tI, yI, qI, FeI, EtI, FcI, FvI, AvI⟩ := own_str hfit ekI nw20 nw21 nw22 nw23 nw42 nw43 nw44 nw45 nw46 nw47
  obtain ⟨kU, ekU⟩ := exa_v nw4
  have S_U : Sta s s.heap "com/example/querybind/querybind/mapping/MappedStatement$Kind" "UPDATE" "Lcom/example/querybind/querybind/mapping/MappedStatement$Kind;" (.ref kU) := Sta.start ekU (Or.inr ⟨(hw _ (List.mem_of_getElem? (i := 1) rfl)), (hw _ (List.mem_of_getElem? (i := 11) rfl))⟩)
  have EkU := Exa.start ekU nw4
  have FoU : Fld s s.heap kU "java/lang/Enum" "ordinal" "I" (.int (2 : Int32)) := Fld.start (by have h := own_eqInt nw5; rwa [fld_at ekU] at h)
  obtain ⟨tU, yU, qU, FeU, EtU, FcU, FvU, AvU⟩ := own_str hfit ekU nw16 nw17 nw18 nw19 nw36 nw37 nw38 nw39 nw40 nw41
  obtain ⟨kD, ekD⟩ := exa_v nw10
  have S_D : Sta s s.heap "com/example/querybind/querybind/mapping/MappedStatement$Kind" "DELETE" "Lcom/example/querybind/querybind/mapping/MappedStatement$Kind;" (.ref kD) := Sta.start ekD (Or.inr ⟨(hw _ (List.mem_of_getElem? (i := 1) rfl)), (hw _ (List.mem_of_getElem? (i := 43) rfl))⟩)
  have EkD := Exa.start ekD nw10
  have FoD : Fld s s.heap kD "java/lang/Enum" "ordinal" "I" (.int (3 : Int32)) := Fld.start (by have h := own_eqInt nw11; rwa [fld_at ekD] at h)
  obtain ⟨tD, yD, qD, FeD, EtD, FcD, FvD, AvD⟩ := own_str hfit ekD nw12 nw13 nw14 nw15 nw30 nw31 nw32 nw33 nw34 nw35
  have hheld : ∀ q ∈ consts_1, Jvm.Lit.constHeld s q.1 q.2 := fun q hq => hcalls.1 q hq
  obtain ⟨n, o, h1, h2, h3, _, L, rfl, ⟨rfl, N⟩, hq⟩ := rm0 l s _ hw tables_1 i0 cs kS tS yS qS kI tI yI qI kU tU yU qU kD tD yD qD s.heap s.heap.size (Nat.le_refl _) rfl ⟨Nat.le_refl _, fun _ _ q => q⟩ hheld hcw hcs S_cs S_S EkS FoS FeS EtS FcS FvS AvS S_I EkI FoI FeI EtI FcI FvI AvI S_U EkU FoU FeU EtU FcU FvU AvU S_D EkD FoD FeD EtD FcD FvD AvD p e ha hc hk s m _ below hf ((Spec.applies_iff_loose hf).mp happ).1 ⟨rfl, State.Warmed39.refl s, rfl, IB.start⟩ trivial
  refine ⟨n, _, h1, h2, h3, hpost _ _ _ _ _ _ ⟨Cond.after_iff.mpr rfl, Cond.after_iff.mpr (eq_i res_at (Term.int_eval (1)) rfl), trivial⟩ ⟨hq.1, hq.2.1, hq.2.2.1, (hq.2.2.2.sift fun y hy => Or.inr (N y hy)).mono (by decide) (by decide)⟩⟩
theorem main_1_1 : Claimed_1_1 := comes_1 fun _ _ _ _ _ _ h hF => ⟨h.1, hF⟩
theorem main_1_2 : Claimed_1_2 := comes_1 fun _ _ _ _ _ _ h hF => ⟨h.2.1, hF⟩
end Jvm.Pilot.@@N@@
namespace Jvm.Pilot.@@N@@
open Jvm Jvm.ClassFile Sem Op Lib Jvm.Free Jvm.Stand Jvm.Pilot.@@N@@.Jvm.D
/-! MADE BY PROGRAM (witnessworld.py) out of the Statement's table words and the real class files: 18 classes; the members and pool entries that the words name. The judged class is class 1, her method 1. -/
namespace start1
open Jvm.ClassFile
def u (s : String) : CpInfo := .utf8 (stringToUtf16 s)
/-- a pool by its gaps: so many unusable entries, then the entry; so many at the end -/
def gap : Nat → List CpInfo → List CpInfo
  | 0, r => r
  | n + 1, r => .unusable :: gap n r
def poolList (es : List (Nat × CpInfo)) (last : Nat) : List CpInfo := es.foldr (fun e r => gap e.1 (e.2 :: r)) (gap last [])
def pool (es : List (Nat × CpInfo)) (last : Nat) : Array CpInfo := ⟨poolList es last⟩
def fileOf (pool : Array CpInfo) (this : Nat) (attrs : Array Attribute := #[]) (ms : Array MethodInfo := #[]) (fl : Nat := 33) (sup : Nat := 0) (ifs : Array Nat := #[]) (fds : Array FieldInfo := #[]) : ClassFile where
  minorVersion := 0
  majorVersion := 65
  constantPool := pool
  accessFlags := fl
  thisClass := this
  superClass := sup
  interfaces := ifs
  fields := fds
  methods := ms
  attributes := attrs
def plain (name : String) (sup : Option ClassId) : Class where
  name := name
  kind := .ordinary
  loader := none
  accessFlags := 33
  super := sup
  interfaces := #[]
  cf := none
  fields := #[]
  methods := #[]
  instanceTypes := #[]
  staticTypes := #[]
  resolved := #[]
  callSites := []
  init := .initialized
  statics := none
  mirror := none

def pool0 : Array CpInfo := pool [(5, u "<init>"), (0, u "()V"), (1, .class_ 10), (1, u "java/lang/Object")] 113

def k0m0 : Method := { name := "<init>", desc := "()V", sig := { parameters := [], returnType := none }, accessFlags := 1, code := none }
/-- java/lang/Object -/
def k0 : Class := { plain "java/lang/Object" none with
  accessFlags := 33
  interfaces := #[]
  cf := some (fileOf pool0 8 #[] #[{ accessFlags := 1, nameIndex := 5, descriptorIndex := 6, attributes := #[] }] 33 0 #[] #[])
  fields := #[]
  methods := #[k0m0]
  instanceTypes := #[]
  staticTypes := #[]
  resolved := Array.replicate 124 none
  statics := none }

def pool1 : Array CpInfo := pool [(2, .class_ 4), (1, u "java/lang/Object"), (0, u "<init>"), (0, u "()V"), (0, .fieldref 8 9), (0, .class_ 10), (0, .nameAndType 11 12), (0, u "com/example/querybind/querybind/mapping/MappedStatement$Kind"), (0, u "SELECT"), (0, u "Lcom/example/querybind/querybind/mapping/MappedStatement$Kind;"), (0, .fieldref 8 14), (0, .nameAndType 15 12), (0, u "INSERT"), (0, .fieldref 8 17), (0, .nameAndType 18 12), (0, u "UPDATE"), (0, .fieldref 8 20), (0, .nameAndType 21 12), (0, u "DELETE"), (0, .methodref 8 23), (0, .nameAndType 24 25), (0, u "takesKeys"), (0, u "()Z"), (0, .methodref 8 27), (0, .nameAndType 28 29), (0, u "element"), (0, u "()Ljava/lang/String;"), (0, .string 31), (0, u "insert"), (0, .methodref 33 34), (0, .class_ 35), (0, .nameAndType 36 37), (0, u "java/lang/String"), (0, u "equals"), (0, u "(Ljava/lang/Object;)Z"), (0, .string 39), (0, u "update"), (0, .class_ 41), (0, u "com/example/querybind/querybind/mapping/KindTakesKeysPinLaw"), (2, u "law"), (0, u "(I)Z")] 7

def k1m0 : Method := { name := "<init>", desc := "()V", sig := { parameters := [], returnType := none }, accessFlags := 2, code := none }
def k1c1 : Code := { maxStack := 2, maxLocals := 7, code := code, exceptionTable := #[], attributes := #[] }
def k1m1 : Method := { name := "law", desc := "(I)Z", sig := { parameters := [.int], returnType := some .boolean }, accessFlags := 9, code := some k1c1 }
/-- com/example/querybind/querybind/mapping/KindTakesKeysPinLaw -/
def k1 : Class := { plain "com/example/querybind/querybind/mapping/KindTakesKeysPinLaw" (some 0) with
  accessFlags := 49
  interfaces := #[]
  cf := some (fileOf pool1 40 #[] #[{ accessFlags := 2, nameIndex := 5, descriptorIndex := 6, attributes := #[] }, { accessFlags := 9, nameIndex := 44, descriptorIndex := 45, attributes := #[] }] 49 2 #[] #[])
  fields := #[]
  methods := #[k1m0, k1m1]
  instanceTypes := #[]
  staticTypes := #[]
  resolved := Array.replicate 53 none
  statics := none }

def pool2 : Array CpInfo := pool [(1, .class_ 2), (0, u "java/lang/constant/Constable"), (0, .class_ 4), (0, u "java/lang/Object")] 6

/-- java/lang/constant/Constable -/
def k2 : Class := { plain "java/lang/constant/Constable" (some 0) with
  accessFlags := 1537
  interfaces := #[]
  cf := some (fileOf pool2 1 #[] #[] 1537 3 #[] #[])
  fields := #[]
  methods := #[]
  instanceTypes := #[]
  staticTypes := #[]
  resolved := Array.replicate 11 none
  statics := none }

def pool3 : Array CpInfo := pool [(1, .class_ 2), (0, u "java/lang/Comparable"), (0, .class_ 4), (0, u "java/lang/Object")] 7

/-- java/lang/Comparable -/
def k3 : Class := { plain "java/lang/Comparable" (some 0) with
  accessFlags := 1537
  interfaces := #[]
  cf := some (fileOf pool3 1 #[] #[] 1537 3 #[] #[])
  fields := #[]
  methods := #[]
  instanceTypes := #[]
  staticTypes := #[]
  resolved := Array.replicate 12 none
  statics := none }

def pool4 : Array CpInfo := pool [(1, .class_ 2), (0, u "java/io/Serializable"), (0, .class_ 4), (0, u "java/lang/Object")] 2

/-- java/io/Serializable -/
def k4 : Class := { plain "java/io/Serializable" (some 0) with
  accessFlags := 1537
  interfaces := #[]
  cf := some (fileOf pool4 1 #[] #[] 1537 3 #[] #[])
  fields := #[]
  methods := #[]
  instanceTypes := #[]
  staticTypes := #[]
  resolved := Array.replicate 7 none
  statics := none }

def pool5 : Array CpInfo := pool [(2, .class_ 4), (1, u "java/lang/Enum"), (0, u "name"), (0, u "Ljava/lang/String;"), (2, u "ordinal"), (0, u "I"), (1, .class_ 14), (1, u "java/lang/Object"), (4, u "hash"), (86, .class_ 108), (1, u "java/lang/Enum$EnumDesc"), (2, .class_ 112), (0, u "java/lang/constant/Constable"), (0, .class_ 114), (0, u "java/lang/Comparable"), (0, .class_ 116), (0, u "java/io/Serializable")] 87

/-- java/lang/Enum -/
def k5 : Class := { plain "java/lang/Enum" (some 0) with
  accessFlags := 1057
  interfaces := #[2, 3, 4]
  cf := some (fileOf pool5 2 #[.nestMembers #[106]] #[] 1057 12 #[111, 113, 115] #[{ accessFlags := 18, nameIndex := 5, descriptorIndex := 6, attributes := #[] }, { accessFlags := 18, nameIndex := 9, descriptorIndex := 10, attributes := #[] }, { accessFlags := 2, nameIndex := 19, descriptorIndex := 10, attributes := #[] }])
  fields := #[{ name := "name", type := (.object "java/lang/String"), accessFlags := 18, slot := 0, constantValue := 0 }, { name := "ordinal", type := .int, accessFlags := 18, slot := 1, constantValue := 0 }, { name := "hash", type := .int, accessFlags := 2, slot := 2, constantValue := 0 }]
  methods := #[]
  instanceTypes := #[(.object "java/lang/String"), .int, .int]
  staticTypes := #[]
  resolved := Array.replicate 204 none
  statics := none }

def pool6 : Array CpInfo := pool [(1, .class_ 2), (0, u "com/example/querybind/querybind/mapping/MappedStatement$Kind"), (2, u "SELECT"), (0, u "Lcom/example/querybind/querybind/mapping/MappedStatement$Kind;"), (0, .fieldref 1 8), (0, .nameAndType 9 6), (0, u "INSERT"), (0, .fieldref 1 11), (0, .nameAndType 12 6), (0, u "UPDATE"), (2, u "DELETE"), (2, u "$VALUES"), (0, u "[Lcom/example/querybind/querybind/mapping/MappedStatement$Kind;"), (6, .class_ 28), (1, u "java/lang/Enum"), (6, .fieldref 1 36), (0, .nameAndType 37 38), (0, u "element"), (0, u "Ljava/lang/String;"), (2, u "KINDS"), (36, u "()Ljava/lang/String;"), (0, u "takesKeys"), (0, u "()Z"), (6, .class_ 88), (0, u "com/example/querybind/querybind/mapping/MappedStatement")] 2

def k6c0 : Code := { maxStack := 1, maxLocals := 1, code := prog_91_method_5_code, exceptionTable := #[], attributes := #[] }
def k6m0 : Method := { name := "element", desc := "()Ljava/lang/String;", sig := { parameters := [], returnType := some (.object "java/lang/String") }, accessFlags := 1, code := some k6c0 }
def k6c1 : Code := { maxStack := 2, maxLocals := 1, code := prog_91_method_6_code, exceptionTable := #[], attributes := #[] }
def k6m1 : Method := { name := "takesKeys", desc := "()Z", sig := { parameters := [], returnType := some .boolean }, accessFlags := 1, code := some k6c1 }
/-- com/example/querybind/querybind/mapping/MappedStatement$Kind -/
def k6 : Class := { plain "com/example/querybind/querybind/mapping/MappedStatement$Kind" (some 5) with
  accessFlags := 16433
  interfaces := #[]
  cf := some (fileOf pool6 1 #[.nestHost 87] #[{ accessFlags := 1, nameIndex := 37, descriptorIndex := 78, attributes := #[] }, { accessFlags := 1, nameIndex := 79, descriptorIndex := 80, attributes := #[] }] 16433 26 #[] #[{ accessFlags := 16409, nameIndex := 5, descriptorIndex := 6, attributes := #[] }, { accessFlags := 16409, nameIndex := 9, descriptorIndex := 6, attributes := #[] }, { accessFlags := 16409, nameIndex := 12, descriptorIndex := 6, attributes := #[] }, { accessFlags := 16409, nameIndex := 15, descriptorIndex := 6, attributes := #[] }, { accessFlags := 26, nameIndex := 41, descriptorIndex := 19, attributes := #[] }, { accessFlags := 18, nameIndex := 37, descriptorIndex := 38, attributes := #[] }, { accessFlags := 4122, nameIndex := 18, descriptorIndex := 19, attributes := #[] }])
  fields := #[{ name := "SELECT", type := (.object "com/example/querybind/querybind/mapping/MappedStatement$Kind"), accessFlags := 16409, slot := 0, constantValue := 0 }, { name := "INSERT", type := (.object "com/example/querybind/querybind/mapping/MappedStatement$Kind"), accessFlags := 16409, slot := 1, constantValue := 0 }, { name := "UPDATE", type := (.object "com/example/querybind/querybind/mapping/MappedStatement$Kind"), accessFlags := 16409, slot := 2, constantValue := 0 }, { name := "DELETE", type := (.object "com/example/querybind/querybind/mapping/MappedStatement$Kind"), accessFlags := 16409, slot := 3, constantValue := 0 }, { name := "KINDS", type := (.array (.object "com/example/querybind/querybind/mapping/MappedStatement$Kind")), accessFlags := 26, slot := 4, constantValue := 0 }, { name := "element", type := (.object "java/lang/String"), accessFlags := 18, slot := 3, constantValue := 0 }, { name := "$VALUES", type := (.array (.object "com/example/querybind/querybind/mapping/MappedStatement$Kind")), accessFlags := 4122, slot := 5, constantValue := 0 }]
  methods := #[k6m0, k6m1]
  instanceTypes := #[(.object "java/lang/String"), .int, .int, (.object "java/lang/String")]
  staticTypes := #[(.object "com/example/querybind/querybind/mapping/MappedStatement$Kind"), (.object "com/example/querybind/querybind/mapping/MappedStatement$Kind"), (.object "com/example/querybind/querybind/mapping/MappedStatement$Kind"), (.object "com/example/querybind/querybind/mapping/MappedStatement$Kind"), (.array (.object "com/example/querybind/querybind/mapping/MappedStatement$Kind")), (.array (.object "com/example/querybind/querybind/mapping/MappedStatement$Kind"))]
  resolved := Array.replicate 91 none
  statics := some 0 }

def pool7 : Array CpInfo := pool [(2, .class_ 4), (1, u "java/lang/CharSequence"), (42, .class_ 48), (0, u "java/lang/CharSequence$1CodePointIterator"), (10, .class_ 60), (0, u "java/lang/CharSequence$1CharIterator"), (5, .class_ 67), (0, u "java/lang/Object")] 63

/-- java/lang/CharSequence -/
def k7 : Class := { plain "java/lang/CharSequence" (some 0) with
  accessFlags := 1537
  interfaces := #[]
  cf := some (fileOf pool7 2 #[.nestMembers #[47, 59]] #[] 1537 66 #[] #[])
  fields := #[]
  methods := #[]
  instanceTypes := #[]
  staticTypes := #[]
  resolved := Array.replicate 131 none
  statics := none }

def pool8 : Array CpInfo := pool [(1, .class_ 2), (0, u "java/lang/constant/ConstantDesc"), (0, .class_ 4), (0, u "java/lang/Object")] 32

/-- java/lang/constant/ConstantDesc -/
def k8 : Class := { plain "java/lang/constant/ConstantDesc" (some 0) with
  accessFlags := 1537
  interfaces := #[]
  cf := some (fileOf pool8 1 #[] #[] 1537 3 #[] #[])
  fields := #[]
  methods := #[]
  instanceTypes := #[]
  staticTypes := #[]
  resolved := Array.replicate 37 none
  statics := none }

def pool9 : Array CpInfo := pool [(2, .class_ 4), (1, u "java/lang/Object"), (0, u "<init>"), (0, u "()V"), (2, .fieldref 10 11), (0, .class_ 12), (0, .nameAndType 13 14), (0, u "java/lang/String"), (0, u "value"), (0, u "[B"), (0, .fieldref 10 16), (0, .nameAndType 17 18), (0, u "coder"), (0, u "B"), (2, u "hash"), (0, u "I"), (2, u "hashIsZero"), (0, u "Z"), (11, .fieldref 10 39), (0, .nameAndType 40 26), (0, u "COMPACT_STRINGS"), (66, .class_ 109), (1, u "java/lang/StringLatin1"), (431, .methodref 107 542), (0, .nameAndType 543 544), (0, u "equals"), (0, u "([B[B)Z"), (28, u "(Ljava/lang/Object;)Z"), (1, .class_ 576), (0, u "java/lang/CharSequence"), (22, u "CASE_INSENSITIVE_ORDER"), (0, u "Ljava/util/Comparator;"), (500, u "serialPersistentFields"), (0, u "[Ljava/io/ObjectStreamField;"), (0, .class_ 1104), (0, u "java/lang/String$CaseInsensitiveComparator"), (1, .class_ 1107), (0, u "java/io/Serializable"), (0, .class_ 1109), (0, u "java/lang/Comparable"), (0, .class_ 1111), (0, u "java/lang/constant/Constable"), (0, .class_ 1113), (0, u "java/lang/constant/ConstantDesc"), (2, u "serialVersionUID"), (0, u "J"), (3, u "REPL"), (0, u "C"), (2, u "LATIN1"), (1, u "UTF16")] 323

def k9m0 : Method := { name := "<init>", desc := "()V", sig := { parameters := [], returnType := none }, accessFlags := 1, code := none }
def k9c1 : Code := { maxStack := 2, maxLocals := 3, code := jdk_42_method_66_code, exceptionTable := #[], attributes := #[] }
def k9m1 : Method := { name := "equals", desc := "(Ljava/lang/Object;)Z", sig := { parameters := [(.object "java/lang/Object")], returnType := some .boolean }, accessFlags := 1, code := some k9c1 }
/-- java/lang/String -/
def k9 : Class := { plain "java/lang/String" (some 0) with
  accessFlags := 49
  interfaces := #[4, 3, 7, 2, 8]
  cf := some (fileOf pool9 10 #[.nestMembers #[1103]] #[{ accessFlags := 1, nameIndex := 5, descriptorIndex := 6, attributes := #[] }, { accessFlags := 1, nameIndex := 543, descriptorIndex := 573, attributes := #[] }] 49 2 #[1106, 1108, 575, 1110, 1112] #[{ accessFlags := 18, nameIndex := 13, descriptorIndex := 14, attributes := #[] }, { accessFlags := 18, nameIndex := 17, descriptorIndex := 18, attributes := #[] }, { accessFlags := 2, nameIndex := 21, descriptorIndex := 22, attributes := #[] }, { accessFlags := 2, nameIndex := 25, descriptorIndex := 26, attributes := #[] }, { accessFlags := 26, nameIndex := 1116, descriptorIndex := 1117, attributes := #[] }, { accessFlags := 24, nameIndex := 40, descriptorIndex := 26, attributes := #[] }, { accessFlags := 26, nameIndex := 1101, descriptorIndex := 1102, attributes := #[] }, { accessFlags := 26, nameIndex := 1121, descriptorIndex := 1122, attributes := #[] }, { accessFlags := 25, nameIndex := 599, descriptorIndex := 600, attributes := #[] }, { accessFlags := 24, nameIndex := 1125, descriptorIndex := 18, attributes := #[] }, { accessFlags := 24, nameIndex := 1127, descriptorIndex := 18, attributes := #[] }])
  fields := #[{ name := "value", type := (.array .byte), accessFlags := 18, slot := 0, constantValue := 0 }, { name := "coder", type := .byte, accessFlags := 18, slot := 1, constantValue := 0 }, { name := "hash", type := .int, accessFlags := 2, slot := 2, constantValue := 0 }, { name := "hashIsZero", type := .boolean, accessFlags := 2, slot := 3, constantValue := 0 }, { name := "serialVersionUID", type := .long, accessFlags := 26, slot := 0, constantValue := 0 }, { name := "COMPACT_STRINGS", type := .boolean, accessFlags := 24, slot := 1, constantValue := 0 }, { name := "serialPersistentFields", type := (.array (.object "java/io/ObjectStreamField")), accessFlags := 26, slot := 2, constantValue := 0 }, { name := "REPL", type := .char, accessFlags := 26, slot := 3, constantValue := 0 }, { name := "CASE_INSENSITIVE_ORDER", type := (.object "java/util/Comparator"), accessFlags := 25, slot := 4, constantValue := 0 }, { name := "LATIN1", type := .byte, accessFlags := 24, slot := 5, constantValue := 0 }, { name := "UTF16", type := .byte, accessFlags := 24, slot := 6, constantValue := 0 }]
  methods := #[k9m0, k9m1]
  instanceTypes := #[(.array .byte), .byte, .int, .boolean]
  staticTypes := #[.long, .boolean, (.array (.object "java/io/ObjectStreamField")), .char, (.object "java/util/Comparator"), .byte, .byte]
  resolved := Array.replicate 1451 none
  statics := some 1 }

def pool10 : Array CpInfo := pool [(4, .class_ 6), (1, u "java/lang/Object"), (0, u "<init>"), (0, u "()V"), (5, .class_ 16), (1, u "java/lang/StringLatin1"), (104, u "$assertionsDisabled"), (0, u "Z"), (98, .class_ 223), (1, u "java/lang/StringLatin1$LinesSpliterator"), (57, u "equals"), (0, u "([B[B)Z"), (107, .class_ 391), (0, u "java/lang/StringLatin1$CharsSpliterator")] 3

def k10m0 : Method := { name := "<init>", desc := "()V", sig := { parameters := [], returnType := none }, accessFlags := 0, code := none }
def k10c1 : Code := { maxStack := 3, maxLocals := 3, code := jdk_43_method_13_code, exceptionTable := #[], attributes := #[] }
def k10m1 : Method := { name := "equals", desc := "([B[B)Z", sig := { parameters := [(.array .byte), (.array .byte)], returnType := some .boolean }, accessFlags := 9, code := some k10c1 }
/-- java/lang/StringLatin1 -/
def k10 : Class := { plain "java/lang/StringLatin1" (some 0) with
  accessFlags := 48
  interfaces := #[]
  cf := some (fileOf pool10 14 #[.nestMembers #[390, 221]] #[{ accessFlags := 0, nameIndex := 7, descriptorIndex := 8, attributes := #[] }, { accessFlags := 9, nameIndex := 281, descriptorIndex := 282, attributes := #[] }] 48 4 #[] #[{ accessFlags := 4120, nameIndex := 121, descriptorIndex := 122, attributes := #[] }])
  fields := #[{ name := "$assertionsDisabled", type := .boolean, accessFlags := 4120, slot := 0, constantValue := 0 }]
  methods := #[k10m0, k10m1]
  instanceTypes := #[]
  staticTypes := #[.boolean]
  resolved := Array.replicate 395 none
  statics := none }

def pool11 : Array CpInfo := pool [(2, .class_ 4), (1, u "java/lang/Object"), (0, u "<init>"), (0, u "()V"), (17, .class_ 26), (1, u "jdk/internal/util/Preconditions"), (28, .class_ 56), (0, u "jdk/internal/util/Preconditions$4"), (57, .class_ 115), (0, u "jdk/internal/util/Preconditions$1"), (7, u "SIOOBE_FORMATTER"), (0, u "Ljava/util/function/BiFunction;"), (0, .class_ 126), (0, u "jdk/internal/util/Preconditions$2"), (3, u "AIOOBE_FORMATTER"), (0, .class_ 132), (0, u "jdk/internal/util/Preconditions$3"), (3, u "IOOBE_FORMATTER")] 57

def k11m0 : Method := { name := "<init>", desc := "()V", sig := { parameters := [], returnType := none }, accessFlags := 1, code := none }
/-- jdk/internal/util/Preconditions -/
def k11 : Class := { plain "jdk/internal/util/Preconditions" (some 0) with
  accessFlags := 33
  interfaces := #[]
  cf := some (fileOf pool11 24 #[.nestMembers #[55, 131, 125, 114]] #[{ accessFlags := 1, nameIndex := 5, descriptorIndex := 6, attributes := #[] }] 33 2 #[] #[{ accessFlags := 25, nameIndex := 123, descriptorIndex := 124, attributes := #[] }, { accessFlags := 25, nameIndex := 130, descriptorIndex := 124, attributes := #[] }, { accessFlags := 25, nameIndex := 136, descriptorIndex := 124, attributes := #[] }])
  fields := #[{ name := "SIOOBE_FORMATTER", type := (.object "java/util/function/BiFunction"), accessFlags := 25, slot := 0, constantValue := 0 }, { name := "AIOOBE_FORMATTER", type := (.object "java/util/function/BiFunction"), accessFlags := 25, slot := 1, constantValue := 0 }, { name := "IOOBE_FORMATTER", type := (.object "java/util/function/BiFunction"), accessFlags := 25, slot := 2, constantValue := 0 }]
  methods := #[k11m0]
  instanceTypes := #[]
  staticTypes := #[(.object "java/util/function/BiFunction"), (.object "java/util/function/BiFunction"), (.object "java/util/function/BiFunction")]
  resolved := Array.replicate 194 none
  statics := some 2 }

def pool12 : Array CpInfo := pool [(9, u "<init>"), (6, .class_ 18), (1, u "java/lang/Object"), (0, u "()V"), (1, .class_ 23), (1, u "jdk/internal/util/ArraysSupport"), (0, u "LOG2_ARRAY_LONG_INDEX_SCALE"), (0, u "I"), (2, u "U"), (0, u "Ljdk/internal/misc/Unsafe;"), (8, u "BIG_ENDIAN"), (0, u "Z"), (8, u "LOG2_BYTE_BIT_SIZE"), (4, u "LOG2_ARRAY_INT_INDEX_SCALE"), (54, u "JLA"), (0, u "Ljdk/internal/access/JavaLangAccess;"), (11, u "LOG2_ARRAY_BOOLEAN_INDEX_SCALE"), (9, u "LOG2_ARRAY_BYTE_INDEX_SCALE"), (5, u "LOG2_ARRAY_CHAR_INDEX_SCALE"), (5, u "LOG2_ARRAY_SHORT_INDEX_SCALE"), (18, u "LOG2_ARRAY_FLOAT_INDEX_SCALE"), (24, u "LOG2_ARRAY_DOUBLE_INDEX_SCALE"), (89, u "T_BOOLEAN"), (2, u "T_CHAR"), (1, u "T_FLOAT"), (1, u "T_DOUBLE"), (1, u "T_BYTE"), (1, u "T_SHORT"), (1, u "T_INT"), (1, u "T_LONG"), (1, u "SOFT_MAX_ARRAY_LENGTH")] 83

def k12m0 : Method := { name := "<init>", desc := "()V", sig := { parameters := [], returnType := none }, accessFlags := 2, code := none }
/-- jdk/internal/util/ArraysSupport -/
def k12 : Class := { plain "jdk/internal/util/ArraysSupport" (some 0) with
  accessFlags := 33
  interfaces := #[]
  cf := some (fileOf pool12 21 #[] #[{ accessFlags := 2, nameIndex := 9, descriptorIndex := 19, attributes := #[] }] 33 16 #[] #[{ accessFlags := 24, nameIndex := 28, descriptorIndex := 29, attributes := #[] }, { accessFlags := 26, nameIndex := 38, descriptorIndex := 39, attributes := #[] }, { accessFlags := 25, nameIndex := 121, descriptorIndex := 25, attributes := #[] }, { accessFlags := 25, nameIndex := 131, descriptorIndex := 25, attributes := #[] }, { accessFlags := 25, nameIndex := 137, descriptorIndex := 25, attributes := #[] }, { accessFlags := 25, nameIndex := 143, descriptorIndex := 25, attributes := #[] }, { accessFlags := 25, nameIndex := 53, descriptorIndex := 25, attributes := #[] }, { accessFlags := 25, nameIndex := 24, descriptorIndex := 25, attributes := #[] }, { accessFlags := 25, nameIndex := 162, descriptorIndex := 25, attributes := #[] }, { accessFlags := 25, nameIndex := 187, descriptorIndex := 25, attributes := #[] }, { accessFlags := 26, nameIndex := 48, descriptorIndex := 25, attributes := #[] }, { accessFlags := 25, nameIndex := 277, descriptorIndex := 25, attributes := #[] }, { accessFlags := 25, nameIndex := 280, descriptorIndex := 25, attributes := #[] }, { accessFlags := 25, nameIndex := 282, descriptorIndex := 25, attributes := #[] }, { accessFlags := 25, nameIndex := 284, descriptorIndex := 25, attributes := #[] }, { accessFlags := 25, nameIndex := 286, descriptorIndex := 25, attributes := #[] }, { accessFlags := 25, nameIndex := 288, descriptorIndex := 25, attributes := #[] }, { accessFlags := 25, nameIndex := 290, descriptorIndex := 25, attributes := #[] }, { accessFlags := 25, nameIndex := 292, descriptorIndex := 25, attributes := #[] }, { accessFlags := 26, nameIndex := 108, descriptorIndex := 109, attributes := #[] }, { accessFlags := 25, nameIndex := 294, descriptorIndex := 25, attributes := #[] }])
  fields := #[{ name := "U", type := (.object "jdk/internal/misc/Unsafe"), accessFlags := 24, slot := 0, constantValue := 0 }, { name := "BIG_ENDIAN", type := .boolean, accessFlags := 26, slot := 1, constantValue := 0 }, { name := "LOG2_ARRAY_BOOLEAN_INDEX_SCALE", type := .int, accessFlags := 25, slot := 2, constantValue := 0 }, { name := "LOG2_ARRAY_BYTE_INDEX_SCALE", type := .int, accessFlags := 25, slot := 3, constantValue := 0 }, { name := "LOG2_ARRAY_CHAR_INDEX_SCALE", type := .int, accessFlags := 25, slot := 4, constantValue := 0 }, { name := "LOG2_ARRAY_SHORT_INDEX_SCALE", type := .int, accessFlags := 25, slot := 5, constantValue := 0 }, { name := "LOG2_ARRAY_INT_INDEX_SCALE", type := .int, accessFlags := 25, slot := 6, constantValue := 0 }, { name := "LOG2_ARRAY_LONG_INDEX_SCALE", type := .int, accessFlags := 25, slot := 7, constantValue := 0 }, { name := "LOG2_ARRAY_FLOAT_INDEX_SCALE", type := .int, accessFlags := 25, slot := 8, constantValue := 0 }, { name := "LOG2_ARRAY_DOUBLE_INDEX_SCALE", type := .int, accessFlags := 25, slot := 9, constantValue := 0 }, { name := "LOG2_BYTE_BIT_SIZE", type := .int, accessFlags := 26, slot := 10, constantValue := 0 }, { name := "T_BOOLEAN", type := .int, accessFlags := 25, slot := 11, constantValue := 0 }, { name := "T_CHAR", type := .int, accessFlags := 25, slot := 12, constantValue := 0 }, { name := "T_FLOAT", type := .int, accessFlags := 25, slot := 13, constantValue := 0 }, { name := "T_DOUBLE", type := .int, accessFlags := 25, slot := 14, constantValue := 0 }, { name := "T_BYTE", type := .int, accessFlags := 25, slot := 15, constantValue := 0 }, { name := "T_SHORT", type := .int, accessFlags := 25, slot := 16, constantValue := 0 }, { name := "T_INT", type := .int, accessFlags := 25, slot := 17, constantValue := 0 }, { name := "T_LONG", type := .int, accessFlags := 25, slot := 18, constantValue := 0 }, { name := "JLA", type := (.object "jdk/internal/access/JavaLangAccess"), accessFlags := 26, slot := 19, constantValue := 0 }, { name := "SOFT_MAX_ARRAY_LENGTH", type := .int, accessFlags := 25, slot := 20, constantValue := 0 }]
  methods := #[k12m0]
  instanceTypes := #[]
  staticTypes := #[(.object "jdk/internal/misc/Unsafe"), .boolean, .int, .int, .int, .int, .int, .int, .int, .int, .int, .int, .int, .int, .int, .int, .int, .int, .int, (.object "jdk/internal/access/JavaLangAccess"), .int]
  resolved := Array.replicate 378 none
  statics := none }

def pool13 : Array CpInfo := pool [(1, u "java/lang/Cloneable"), (0, .class_ 1), (0, u "java/lang/Object"), (0, .class_ 3)] 3

/-- java/lang/Cloneable -/
def k13 : Class := { plain "java/lang/Cloneable" (some 0) with
  accessFlags := 1537
  interfaces := #[]
  cf := some (fileOf pool13 2 #[] #[] 1537 4 #[] #[])
  fields := #[]
  methods := #[]
  instanceTypes := #[]
  staticTypes := #[]
  resolved := Array.replicate 8 none
  statics := none }

/-- the primitive byte -/
def k14 : Class := { plain "byte" none with kind := .primitive 'B', accessFlags := 0x411 }
/-- [B -/
def k15 : Class := { plain "[B" (some 0) with kind := .array 14 .byte, interfaces := #[13, 4], accessFlags := 1041 }

/-- the primitive int -/
def k16 : Class := { plain "int" none with kind := .primitive 'I', accessFlags := 0x411 }
/-- [I -/
def k17 : Class := { plain "[I" (some 0) with kind := .array 16 .int, interfaces := #[13, 4], accessFlags := 1041 }

def heap : Heap := #[{ cls := 6, slots := #[.ref 5, .ref 8, .ref 11, .ref 14, .null, .null], vm := .statics 6 },
  { cls := 9, slots := #[.long 0, .int 1, .null, .int 0, .null, .int 0, .int 0], vm := .statics 9 },
  { cls := 11, slots := #[.null, .null, .null], vm := .statics 11 },
  { cls := 15, slots := #[.int 115, .int 101, .int 108, .int 101, .int 99, .int 116], vm := .none },
  { cls := 9, slots := #[.ref 3, .int 0, .int 0, .int 0], vm := .none },
  { cls := 6, slots := #[.null, .int 0, .int 0, .ref 4], vm := .none },
  { cls := 15, slots := #[.int 105, .int 110, .int 115, .int 101, .int 114, .int 116], vm := .none },
  { cls := 9, slots := #[.ref 6, .int 0, .int 0, .int 0], vm := .none },
  { cls := 6, slots := #[.null, .int 1, .int 0, .ref 7], vm := .none },
  { cls := 15, slots := #[.int 117, .int 112, .int 100, .int 97, .int 116, .int 101], vm := .none },
  { cls := 9, slots := #[.ref 9, .int 0, .int 0, .int 0], vm := .none },
  { cls := 6, slots := #[.null, .int 2, .int 0, .ref 10], vm := .none },
  { cls := 15, slots := #[.int 100, .int 101, .int 108, .int 101, .int 116, .int 101], vm := .none },
  { cls := 9, slots := #[.ref 12, .int 0, .int 0, .int 0], vm := .none },
  { cls := 6, slots := #[.null, .int 3, .int 0, .ref 13], vm := .none }]
def classes : Array Class := #[k0, k1, k2, k3, k4, k5, k6, k7, k8, k9, k10, k11, k12, k13, k14, k15, k16, k17]
def interned : List (Array UInt16 × Addr) := []
def slotsUsed : Nat := 72
def theMethod : MethodId := ⟨1, 1⟩
def args0 : Array Value := #[.int 1]
def aboutOver (below : List Frame) : State where
  vm := { classes := classes, interned := interned.toArray }
  heap := heap
  slotsUsed := slotsUsed
  threads := #[{ frames := .invoking theMethod args0 :: below }]
def below0 : List Frame := [.native { method := ⟨0, 0⟩, args := #[] }]
def about1 : State := aboutOver below0
def p0 : Program := .bare "" "" ""
def e0 : Env := launch0.env 0 0 0
theorem w_frames : about1.frames = Frame.invoking theMethod args0 :: below0 := rfl
set_option maxRecDepth 65536 in
theorem w_args : argsFit about1.vm theMethod args0 = true := by decide +kernel
set_option maxRecDepth 65536 in
theorem w_heap : heapFits about1 = true := by decide +kernel
set_option maxRecDepth 65536 in
theorem w_runnable : about1.curStatus? = some .runnable := by decide +kernel
set_option maxRecDepth 65536 in
theorem w_alone : about1.alone = true := by decide +kernel
set_option maxRecDepth 65536 in
theorem w_named : about1.methodNamed? x = some theMethod := by decide +kernel
set_option maxRecDepth 65536 in
theorem w_hears : about1.hears theMethod below0 = true := by decide +kernel
set_option maxRecDepth 65536 in
theorem w_ripe : about1.ripe theMethod args0 below0 = true := by decide +kernel
theorem w_running : about1.status = .running := rfl
set_option maxRecDepth 65536 in
theorem w_room : about1.hasRoom e0.platform room_1 = true :=
  launch0.hasRoom_least _ room_1 (by decide +kernel) (by decide +kernel) (by decide +kernel) (by decide +kernel) (by decide +kernel) (by decide +kernel)
theorem allAtoms_all (ts : List Jvm.Cond) (a : Array Jvm.Value) (st : Jvm.State) : (allAtoms ts).before a st = ts.all (fun c => c.before a st) := by
  induction ts with
  | nil => rfl
  | cons c t ih =>
    show (Jvm.Cond.and c (allAtoms t)).before a st = _
    rw [Jvm.Cond.before_and, ih, List.all_cons]
def words1 : List Jvm.Cond := Jvm.Cond.code x code maxLocals ret :: tables_1
/-- a 'code' word, met by the world's own term for the bytes: nothing is compared byte by byte -/
theorem code_word {y : MethodName} {bytes : ByteArray} {mx : Nat} {rt : Option FieldType} {a : Array Value} {s : State} {m : MethodId} {meth : Method} {c : Code} (h1 : s.methodNamed? y = some m) (h2 : s.vm.method? m = some meth) (h3 : meth.code = some c) (h4 : c.code = bytes)
    (h5 : (c.maxLocals == mx && c.exceptionTable.isEmpty && decide (c.maxStack ≤ mostOperands) && decide (meth.sig.returnType = rt) && !meth.locks && decide (parseMethodDescriptor y.desc = some meth.sig)) = true) : (Jvm.Cond.code y bytes mx rt).before a s = true := by
  simp only [Bool.and_eq_true, beq_iff_eq, Bool.not_eq_true', decide_eq_true_eq] at h5
  obtain ⟨⟨⟨⟨⟨g1, g2⟩, g3⟩, g4⟩, g5⟩, g6⟩ := h5
  simp [Cond.before, Cond.holds, Cond.value, h1, h2, h3, h4, g1, g2, g3, g4, g5, g6]
def isCode : Jvm.Cond → Bool
  | .code _ _ _ _ => true
  | _ => false
theorem all_split {L : List Jvm.Cond} {P : Jvm.Cond → Bool} (h1 : L.all (fun c => isCode c || P c) = true) (h2 : ∀ c ∈ L.filter isCode, P c = true) : L.all P = true := by
  refine List.all_eq_true.mpr fun c hc => ?_
  have h := List.all_eq_true.mp h1 c hc
  rcases Bool.eq_false_or_eq_true (isCode c) with hi | hi
  · exact h2 c (List.mem_filter.mpr ⟨hc, hi⟩)
  · simpa [hi] using h
set_option maxRecDepth 65536 in
theorem w_c0 : (Jvm.Cond.code x code maxLocals ret).before args0 about1 = true := code_word (m := ⟨1, 1⟩) (meth := k1m1) (c := k1c1) (by decide +kernel) rfl rfl rfl (by decide +kernel)
set_option maxRecDepth 65536 in
theorem w_c1 : (Jvm.Cond.code ({ cls := "com/example/querybind/querybind/mapping/MappedStatement$Kind", name := "takesKeys", desc := "()Z" } : Jvm.MethodName) prog_91_method_6_code (1 : Nat) (Option.some Jvm.ClassFile.FieldType.boolean)).before args0 about1 = true := code_word (m := ⟨6, 1⟩) (meth := k6m1) (c := k6c1) (by decide +kernel) rfl rfl rfl (by decide +kernel)
set_option maxRecDepth 65536 in
theorem w_c2 : (Jvm.Cond.code ({ cls := "com/example/querybind/querybind/mapping/MappedStatement$Kind", name := "element", desc := "()Ljava/lang/String;" } : Jvm.MethodName) prog_91_method_5_code (1 : Nat) (Option.some (Jvm.ClassFile.FieldType.object "java/lang/String"))).before args0 about1 = true := code_word (m := ⟨6, 0⟩) (meth := k6m0) (c := k6c0) (by decide +kernel) rfl rfl rfl (by decide +kernel)
set_option maxRecDepth 65536 in
theorem w_c3 : (Jvm.Cond.code ({ cls := "java/lang/String", name := "equals", desc := "(Ljava/lang/Object;)Z" } : Jvm.MethodName) jdk_42_method_66_code (3 : Nat) (Option.some Jvm.ClassFile.FieldType.boolean)).before args0 about1 = true := code_word (m := ⟨9, 1⟩) (meth := k9m1) (c := k9c1) (by decide +kernel) rfl rfl rfl (by decide +kernel)
set_option maxRecDepth 65536 in
theorem w_c4 : (Jvm.Cond.code ({ cls := "java/lang/StringLatin1", name := "equals", desc := "([B[B)Z" } : Jvm.MethodName) jdk_43_method_13_code (3 : Nat) (Option.some Jvm.ClassFile.FieldType.boolean)).before args0 about1 = true := code_word (m := ⟨10, 1⟩) (meth := k10m1) (c := k10c1) (by decide +kernel) rfl rfl rfl (by decide +kernel)
def codes1 : List Jvm.Cond := [Jvm.Cond.code x code maxLocals ret, Jvm.Cond.code ({ cls := "com/example/querybind/querybind/mapping/MappedStatement$Kind", name := "takesKeys", desc := "()Z" } : Jvm.MethodName) prog_91_method_6_code (1 : Nat) (Option.some Jvm.ClassFile.FieldType.boolean), Jvm.Cond.code ({ cls := "com/example/querybind/querybind/mapping/MappedStatement$Kind", name := "element", desc := "()Ljava/lang/String;" } : Jvm.MethodName) prog_91_method_5_code (1 : Nat) (Option.some (Jvm.ClassFile.FieldType.object "java/lang/String")), Jvm.Cond.code ({ cls := "java/lang/String", name := "equals", desc := "(Ljava/lang/Object;)Z" } : Jvm.MethodName) jdk_42_method_66_code (3 : Nat) (Option.some Jvm.ClassFile.FieldType.boolean), Jvm.Cond.code ({ cls := "java/lang/StringLatin1", name := "equals", desc := "([B[B)Z" } : Jvm.MethodName) jdk_43_method_13_code (3 : Nat) (Option.some Jvm.ClassFile.FieldType.boolean)]
set_option maxRecDepth 65536 in
theorem codes_eq : words1.filter isCode = codes1 := rfl
theorem w_codes : ∀ c ∈ words1.filter isCode, c.before args0 about1 = true := by
  rw [codes_eq]
  intro c hc
  simp only [codes1, List.mem_cons, List.not_mem_nil, or_false] at hc
  rcases hc with rfl | rfl | rfl | rfl | rfl
  · exact w_c0
  · exact w_c1
  · exact w_c2
  · exact w_c3
  · exact w_c4
set_option maxRecDepth 65536 in
theorem w_t1 : (words1.take 24).all (fun c => isCode c || c.before args0 about1) = true := by decide +kernel
set_option maxRecDepth 65536 in
theorem w_t2 : (words1.drop 24).all (fun c => isCode c || c.before args0 about1) = true := by decide +kernel
theorem w_tables : (allAtoms (Jvm.Cond.code x code maxLocals ret :: tables_1)).before args0 about1 = true := by
  rw [allAtoms_all]
  show words1.all (fun c => c.before args0 about1) = true
  refine all_split ?_ w_codes
  rw [← List.take_append_drop 24 words1, List.all_append, w_t1, w_t2]
  rfl
set_option maxRecDepth 65536 in
theorem w_rest : rest_1_c.before args0 about1 = true := by decide +kernel
set_option maxRecDepth 65536 in
theorem w_case : (Jvm.Cond.and given_1 narrow_1).before args0 about1 = true := by decide +kernel
set_option maxRecDepth 65536 in
theorem w_consts : constsHeld consts_1 about1 := Jvm.Lit.constsHeldB_iff.mp (by decide +kernel)
theorem w_applies : (headSpec (Jvm.Cond.code x code maxLocals ret :: tables_1) room_1).applies x e0.platform about1 = true :=
  (Spec.applies_iff w_frames).mpr ⟨w_running, w_runnable, w_alone, w_named, w_hears, w_ripe, w_room, w_tables⟩
theorem atStart : AtStart classFile x code maxLocals ret World_1 tables_1 room_1 Calls_1 rest_1 Pre_1 launch0 p0 e0 about1 theMethod args0 below0 :=
  ⟨lists_1, trivial, launch0.admits_env _ _ _, launch0.least_env, fairChoices_fair.cas, fairChoices_fair.clock, w_frames, w_args, w_heap, w_applies, ⟨w_consts, trivial⟩, w_rest, w_case⟩
end start1
theorem witness_1 : WitnessClaimed_1 := ⟨start1.p0, start1.e0, start1.about1, start1.theMethod, start1.args0, start1.below0, start1.atStart⟩
end Jvm.Pilot.@@N@@
