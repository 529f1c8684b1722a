import JvmDerived
import JvmDerived.Pilot.@@N@@Statement
import JvmDerived.Pilot.@@N@@Code
set_option linter.unusedVariables false
set_option linter.unusedSimpArgs false
namespace Jvm.RoadKit
open Sem ClassFile Op Lib Jvm.Stand Jvm.Free Jvm.LawKit
section New
variable {p : Program} {l : Launch} {e : Env} {R : Room} {s : State} {m : MethodId} {args : Array Value} {below : List Frame} {meth : Method} {c : Code} {T : State} {locs : List Loc} {cells slots : Nat}
theorem retI (X : Stand p l e R s m args below meth c T locs cells slots) (hx : p.tables.exec = Jvm.exec) {pc : Nat} {Ls : Array Slot} {z : Int32} {rest : List Value} (hret : meth.sig.returnType = some .int) (hd : decode c.code pc = .ok (.ireturn, 1)) {fs : List Frame}
    (hl : ∀ (f : JFrame) (acts : List Action), f.method = m → f.locked = none → f.entered = [] → (doReturn e (T.setTop f) acts (some (.int z))).1 = T.setFrames fs) : Steps p.tables e below (T.setTop (mkF m pc Ls (.int z :: rest))) (T.setFrames fs) := by
  have hm' : T.vm.method? m = some meth := X.method'
  have hn : narrow .int (.int z) = .int z := rfl
  show Steps p.tables e below (T.setTop { method := m, pc := pc, locals := Ls, stack := _ :: rest, locked := none }) _
  jvm_step X.here [X.here.top, hx, hd, hm', hret, hn]
  first | (intro acts; rw [hl _ acts rfl rfl rfl]) | rw [hl _ _ rfl rfl rfl]
  exact Steps.refl _
end New
end Jvm.RoadKit
namespace Jvm.Pilot.@@N@@
open Jvm Jvm.ClassFile Sem Op Lib Jvm.Free Jvm.Stand Jvm.LawKit Jvm.RoadKit Bundle Jvm.Pilot.@@N@@.Jvm.D
/-- the same for a part of a walk that comes to the frame F -/
theorem own_via {α : Type} {tb : Tables} {e : Env} {below : List Frame} {A B : State} {P : State → α → Prop} {F : α → JFrame} (h : ∀ t, Steps tb e below A t → Steps tb e below B t) (k : ∃ (T : State) (x : α), P T x ∧ ∀ t, Steps tb e below (T.setTop (F x)) t → Steps tb e below A t) : ∃ (T : State) (x : α), P T x ∧ ∀ t, Steps tb e below (T.setTop (F x)) t → Steps tb e below B t := by
  obtain ⟨T, x, k1, k2⟩ := k
  exact ⟨T, x, k1, fun t q => h t (k2 t q)⟩
theorem own_ns {Z : State} {h : Heap} {a : Addr} {C : String} (F : Exa Z h a C) : ∀ c : Cell, h[a]? = some c → c.vm.isStatics = false := fun c hc => by
  obtain ⟨c1, k, h1, -, -, h4, -⟩ := F
  cases hc.symm.trans h1
  exact h4
theorem own_nsA {Z : State} {h : Heap} {a : Addr} {k : ClassId} {ty : FieldType} {z : Int32} {vs : List Value} {dv : Value} (F : Arv Z h a k ty z vs dv) : ∀ c : Cell, h[a]? = some c → c.vm.isStatics = false := fun c hc => by
  obtain ⟨c1, A, -⟩ := F
  cases hc.symm.trans A.1
  exact A.plain
theorem own_nsF {Z : State} {h : Heap} {a : Addr} {C n d : String} {v : Value} (F : Fld Z h a C n d v) : ∀ c : Cell, h[a]? = some c → c.vm.isStatics = false := fun c hc => by
  obtain ⟨c1, _, _, _, _, h1, _, _, _, h5, _⟩ := F
  cases hc.symm.trans h1
  exact h5
theorem own_neA {Z : State} {a0 : Array Value} {h : Heap} {a b : Addr} {C : String} {n : Nat} {k : ClassId} {ty : FieldType} {z : Int32} {vs : List Value} {dv : Value} (F : Exa Z h a C) (wi : (Cond.instantiable C n).before a0 Z = true) (G : Arv Z h b k ty z vs dv) : a ≠ b := by
  obtain ⟨c1, A, -⟩ := G
  exact ne_arr F wi A
theorem own_staKeep {Z : State} {h h' : Heap} {C n d : String} {v : Value} {ws : List Addr} (F : Sta Z h C n d v) (K : Keep h h' ws) (q : ∀ x ∈ ws, ∀ c : Cell, h[x]? = some c → c.vm.isStatics = false) : Sta Z h' C n d v := by
  obtain ⟨cf, i, k, f, st, cell, h1, h2, h3, h4, h5, h6, h7⟩ := F
  exact ⟨cf, i, k, f, st, cell, h1, h2, h3, h4, K.2.1 st cell h5 (fun hm => by rw [q st hm cell h5] at h6; cases h6), h6, h7⟩
/-- a byte made a byte again -/
theorem own_nb (y : Int32) : y.toInt8.toInt32.toInt8.toInt32 = y.toInt8.toInt32 := by 
  have h1 := c_i2b y
  have h2 := c_i2b (y.toInt8.toInt32)
  apply Int32.toInt_inj.mp
  omega
/-- the walk goes on from A where it comes from B to A -/
theorem own_go {tb : Tables} {e : Env} {below : List Frame} {A B : State} {P : State → Outcome → Prop} (h : ∀ t, Steps tb e below A t → Steps tb e below B t) (k : ∃ t o, Steps tb e below A t ∧ P t o) : ∃ t o, Steps tb e below B t ∧ P t o := by
  obtain ⟨t, o, k1, k2⟩ := k
  exact ⟨t, o, h t k1, k2⟩
theorem own_pd0 : parseMethodDescriptor "(I)Lcom/example/quartermaster/quartermaster/RequestState;" = some ⟨[.int], some (.object "com/example/quartermaster/quartermaster/RequestState")⟩ := by decide +kernel
theorem own_pd1 : parseMethodDescriptor "()Z" = some ⟨[], some .boolean⟩ := by decide +kernel
theorem own_pd2 : parseMethodDescriptor "(I)Z" = some ⟨[.int], some .boolean⟩ := by decide +kernel
theorem own_eqInt {s : State} {args : Array Value} {t : Term} {k : Int32} (h : (Cond.eq t (.int k)).value args s none s [] = some true) : t.eval args s none [] s = some (.int k) := by
  cases he : t.eval args s none [] s with
  | none => simp [Cond.value, he] at h
  | some v => cases v <;> simp_all [Cond.value, Term.eval]
/-- a constant of an enum as the case's words pin it: the static, the object's class, its ordinal -/
theorem own_enum {s : State} {args : Array Value} {C n d : String} {k : Int32} (hx : (Cond.exactly (.static C n d) C).value args s none s [] = some true) (ho : (Cond.eq (.field (.static C n d) "java/lang/Enum" "ordinal" "I") (.int k)).value args s none s [] = some true) (hi : (Cond.initialized C).before args s = true) (hl : (Cond.laysStatic C n d).before args s = true) :
    ∃ a, Sta s s.heap C n d (.ref a) ∧ Exa s s.heap a C ∧ Fld s s.heap a "java/lang/Enum" "ordinal" "I" (.int k) := by
  obtain ⟨a, ea⟩ := exa_v hx
  refine ⟨a, Sta.start ea (Or.inr ⟨hi, hl⟩), Exa.start ea hx, Fld.start ?_⟩
  have h := own_eqInt ho
  rwa [fld_at ea] at h
theorem own_mod {p1 : Int32} (k : Int32) (h : k = (p1 &&& (2147483647 : Int32)) % (7 : Int32)) : k = (0 : Int32) ∨ k = (1 : Int32) ∨ k = (2 : Int32) ∨ k = (3 : Int32) ∨ k = (4 : Int32) ∨ k = (5 : Int32) ∨ k = (6 : Int32) := by
  have h1 := c_mask p1 (2147483647 : Int32) 31 (by decide) (by decide)
  have h2 := (c_irem (p1 &&& (2147483647 : Int32)) (7 : Int32) 7 (by decide)).1 (by omega)
  rw [← h] at h2
  have e0 : (0 : Int32).toInt = 0 := by decide
  have e1 : (1 : Int32).toInt = 1 := by decide
  have e2 : (2 : Int32).toInt = 2 := by decide
  have e3 : (3 : Int32).toInt = 3 := by decide
  have e4 : (4 : Int32).toInt = 4 := by decide
  have e5 : (5 : Int32).toInt = 5 := by decide
  have e6 : (6 : Int32).toInt = 6 := by decide
  simp only [← Int32.toInt_inj, e0, e1, e2, e3, e4, e5, e6]
  omega
theorem d1_0 : decode method_2_code 0 = .ok (.iload_n 0, 1) := by decide +kernel
theorem d1_1 : decode method_2_code 1 = .ok (.ifCond .ne 7, 3) := by decide +kernel
theorem d1_4 : decode method_2_code 4 = .ok (.getstatic 7, 3) := by decide +kernel
theorem d1_7 : decode method_2_code 7 = .ok (.areturn, 1) := by decide +kernel
theorem d1_8 : decode method_2_code 8 = .ok (.iload_n 0, 1) := by decide +kernel
theorem d1_9 : decode method_2_code 9 = .ok (.iconst 1, 1) := by decide +kernel
theorem d1_10 : decode method_2_code 10 = .ok (.if_icmp .ne 7, 3) := by decide +kernel
theorem d1_13 : decode method_2_code 13 = .ok (.getstatic 13, 3) := by decide +kernel
theorem d1_16 : decode method_2_code 16 = .ok (.areturn, 1) := by decide +kernel
theorem d1_17 : decode method_2_code 17 = .ok (.iload_n 0, 1) := by decide +kernel
theorem d1_18 : decode method_2_code 18 = .ok (.iconst 2, 1) := by decide +kernel
theorem d1_19 : decode method_2_code 19 = .ok (.if_icmp .ne 7, 3) := by decide +kernel
theorem d1_22 : decode method_2_code 22 = .ok (.getstatic 16, 3) := by decide +kernel
theorem d1_25 : decode method_2_code 25 = .ok (.areturn, 1) := by decide +kernel
theorem d1_26 : decode method_2_code 26 = .ok (.iload_n 0, 1) := by decide +kernel
theorem d1_27 : decode method_2_code 27 = .ok (.iconst 3, 1) := by decide +kernel
theorem d1_28 : decode method_2_code 28 = .ok (.if_icmp .ne 7, 3) := by decide +kernel
theorem d1_31 : decode method_2_code 31 = .ok (.getstatic 19, 3) := by decide +kernel
theorem d1_34 : decode method_2_code 34 = .ok (.areturn, 1) := by decide +kernel
theorem d1_35 : decode method_2_code 35 = .ok (.iload_n 0, 1) := by decide +kernel
theorem d1_36 : decode method_2_code 36 = .ok (.iconst 4, 1) := by decide +kernel
theorem d1_37 : decode method_2_code 37 = .ok (.if_icmp .ne 7, 3) := by decide +kernel
theorem d1_40 : decode method_2_code 40 = .ok (.getstatic 22, 3) := by decide +kernel
theorem d1_43 : decode method_2_code 43 = .ok (.areturn, 1) := by decide +kernel
theorem d1_44 : decode method_2_code 44 = .ok (.iload_n 0, 1) := by decide +kernel
theorem d1_45 : decode method_2_code 45 = .ok (.iconst 5, 1) := by decide +kernel
theorem d1_46 : decode method_2_code 46 = .ok (.if_icmp .ne 7, 3) := by decide +kernel
theorem d1_49 : decode method_2_code 49 = .ok (.getstatic 25, 3) := by decide +kernel
theorem d1_52 : decode method_2_code 52 = .ok (.areturn, 1) := by decide +kernel
theorem d1_53 : decode method_2_code 53 = .ok (.getstatic 28, 3) := by decide +kernel
theorem d1_56 : decode method_2_code 56 = .ok (.areturn, 1) := by decide +kernel
theorem own_pn1 : plainName "com/example/quartermaster/quartermaster/RequestStateHasEndedPinLaw" = true := by first | (simp [plainName, overriddenIn]; done) | decide +kernel
theorem own_ef1 (m : MethodId) (x0 : Int32) : entryFrame m #[(.int x0)] 1 = mkF m 0 #[.val (.int x0)] [] := by first | (simp [entryFrame, mkF, argsToLocals, Value.category]; done) | rfl
def QrmP (Z : State) (k : Int32) (a_GRANTED a_DENIED a_FINISHED a_WAITING a_REJECTED a_CANCELLED a_LAPSED r : Addr) (h0 : Heap) (n0 : Nat) (v : Option Value) (h : Heap) (L : List Loc) : Prop := v = some (.ref r) ∧ Fr n0 L ∧ h = h0
set_option maxRecDepth 65536 in
set_option maxHeartbeats 40000000 in
theorem rmP (l : Launch) (Z : State) (a0 : Array Value) (hw : ∀ d ∈ tables_1, d.before a0 Z = true) (ws : List Jvm.Cond) (k : Int32) (a_GRANTED a_DENIED a_FINISHED a_WAITING a_REJECTED a_CANCELLED a_LAPSED r : Addr) (h0 : Heap) (n0 : Nat) (Z0 : n0 ≤ h0.size) (S_GRANTED : Sta Z h0 "com/example/quartermaster/quartermaster/RequestState" "GRANTED" "Lcom/example/quartermaster/quartermaster/RequestState;" (.ref a_GRANTED)) (S_DENIED : Sta Z h0 "com/example/quartermaster/quartermaster/RequestState" "DENIED" "Lcom/example/quartermaster/quartermaster/RequestState;" (.ref a_DENIED)) (S_FINISHED : Sta Z h0 "com/example/quartermaster/quartermaster/RequestState" "FINISHED" "Lcom/example/quartermaster/quartermaster/RequestState;" (.ref a_FINISHED)) (S_WAITING : Sta Z h0 "com/example/quartermaster/quartermaster/RequestState" "WAITING" "Lcom/example/quartermaster/quartermaster/RequestState;" (.ref a_WAITING)) (S_REJECTED : Sta Z h0 "com/example/quartermaster/quartermaster/RequestState" "REJECTED" "Lcom/example/quartermaster/quartermaster/RequestState;" (.ref a_REJECTED)) (S_CANCELLED : Sta Z h0 "com/example/quartermaster/quartermaster/RequestState" "CANCELLED" "Lcom/example/quartermaster/quartermaster/RequestState;" (.ref a_CANCELLED)) (S_LAPSED : Sta Z h0 "com/example/quartermaster/quartermaster/RequestState" "LAPSED" "Lcom/example/quartermaster/quartermaster/RequestState;" (.ref a_LAPSED)) (hr : (if k = (0 : Int32) then a_GRANTED else if k = (1 : Int32) then a_DENIED else if k = (2 : Int32) then a_FINISHED else if k = (3 : Int32) then a_WAITING else if k = (4 : Int32) then a_REJECTED else if k = (5 : Int32) then a_CANCELLED else a_LAPSED) = r) :
    MetFree l (⟨"com/example/quartermaster/quartermaster/RequestStateHasEndedPinLaw", "pick", "(I)Lcom/example/quartermaster/quartermaster/RequestState;"⟩ : MethodName) (head1 (Jvm.Cond.code (⟨"com/example/quartermaster/quartermaster/RequestStateHasEndedPinLaw", "pick", "(I)Lcom/example/quartermaster/quartermaster/RequestState;"⟩ : MethodName) method_2_code 1 (some (.object "com/example/quartermaster/quartermaster/RequestState")) :: ws) ({ frames := 0, cells := 0, slots := 0, locals := 0 } : Room)) (fun ar_ U_ => ar_ = #[(.int k)] ∧ Z.Warmed39 U_.vm ∧ U_.heap = h0) (fun _ _ _ _ _ => True) (fun _ U_ ou_ V_ => ∃ v_ L_, ou_ = .returned v_ ∧ QrmP Z k a_GRANTED a_DENIED a_FINISHED a_WAITING a_REJECTED a_CANCELLED a_LAPSED r h0 n0 v_ V_.heap L_ ∧ FrameEnd U_ ou_ V_ L_ ({ frames := 0, cells := 0, slots := 0, locals := 0 } : Room).cells ({ frames := 0, cells := 0, slots := 0, locals := 0 } : Room).slots) := by
  refine MetFree.of_bodySF (plainFor_of_name own_pn1) hisR ?_
  intro p e s m args below meth c s₁ Bd hml0 hP hK
  obtain ⟨rfl, hZ, hh⟩ := hP
  have hx := Bd.exec
  have hby := Bd.bytes
  have hml : c.maxLocals = 1 := hml0
  have hown : s.vm.findClass "com/example/quartermaster/quartermaster/RequestStateHasEndedPinLaw" = some m.cls := findClass_of_methodNamed Bd.named
  have hnm := (name_of_methodNamed Bd.named Bd.method).1
  have X0 : Stand p l e ({ frames := 0, cells := 0, slots := 0, locals := 0 } : Room) s m #[(.int k)] below meth c s₁ [] 0 0 := Stand.of_body Bd
  have e0 : s₁.heap = h0 := by rw [← hh, Bd.state]; rfl
  have N0 := Fr.nil n0
  refine own_go (A := s₁.setTop (mkF m 0 #[.val (.int k)] [])) (fun t kz => castTop (own_ef1 m k) kz) ?_
  refine own_go (A := s₁.setTop (mkF m 1 #[.val (.int k)] [(.int k)])) (fun _ kz => ?_) ?_
  · show Steps p.tables e below (s₁.setTop (mkF m 0 #[.val (.int k)] [])) _
    refine XS.iloadN X0.here hx rfl (hb hby d1_0) rfl ?_
    exact kz
  by_cases hs1 : k = (0 : Int32)
  · skip
    refine own_go (A := s₁.setTop (mkF m 4 #[.val (.int k)] [])) (fun _ kz => ?_) ?_
    · show Steps p.tables e below (s₁.setTop (mkF m 1 #[.val (.int k)] [(.int k)])) _
      refine XS.ifNo X0.here hx rfl (hb hby d1_1) rfl ((if0 _ _).trans (teq hs1).2) ?_
      exact kz
    obtain ⟨T2, X2, e2, st2⟩ := getS2 X0 hx hZ hown (host := "") (Or.inl (hw _ (List.mem_of_getElem? (i := 5) rfl))) Via.refl e0 S_GRANTED (g := (mkF m 4 #[.val (.int k)] [])) rfl (hb hby d1_4)
    refine own_go (A := T2.setTop (mkF m 7 #[.val (.int k)] [(.ref a_GRANTED)])) (fun _ kz => st2 _ kz) ?_
    obtain ⟨fs, hrr, hrun, hended, hW, hsame⟩ := X2.leave (v := some (.ref a_GRANTED)) (fun h => by rw [Bd.returns] at h; cases h)
    refine ⟨_, _, ?_, hrun, hended, _, _, rfl, ?_, ⟨_, rfl⟩, hW, hsame.mono (by decide) (by decide)⟩
    · show Steps p.tables e below (T2.setTop (mkF m 7 #[.val (.int k)] [(.ref a_GRANTED)])) _
      exact retOut X2 hx (t := (.object "com/example/quartermaster/quartermaster/RequestState")) Bd.returns rfl (Or.inr (Or.inr (Or.inr (Or.inr ⟨rfl, rfl, rfl⟩)))) (hb hby d1_7) hrr
    · show QrmP Z k a_GRANTED a_DENIED a_FINISHED a_WAITING a_REJECTED a_CANCELLED a_LAPSED r h0 n0 _ T2.heap _
      rw [e2]
      exact ⟨by rw [← hr]; simp [hs1], N0, rfl⟩
  · skip
    refine own_go (A := s₁.setTop (mkF m 8 #[.val (.int k)] [])) (fun _ kz => ?_) ?_
    · show Steps p.tables e below (s₁.setTop (mkF m 1 #[.val (.int k)] [(.int k)])) _
      refine XS.ifYes X0.here hx rfl (pc0 := 1) (pc' := 8) rfl (hb hby d1_1) rfl ((if0 _ _).trans (feq hs1).2) (by decide) (by decide) ?_
      exact kz
    refine own_go (A := s₁.setTop (mkF m 10 #[.val (.int k)] [(.int (1 : Int32)), (.int k)])) (fun _ kz => ?_) ?_
    · show Steps p.tables e below (s₁.setTop (mkF m 8 #[.val (.int k)] [])) _
      refine XS.iloadN X0.here hx rfl (hb hby d1_8) rfl ?_
      show Steps p.tables e below (s₁.setTop (mkF m 9 #[.val (.int k)] [(.int k)])) _
      refine XS.iconst X0.here hx rfl (hb hby d1_9) ?_
      exact kz
    by_cases hs3 : k = (1 : Int32)
    · skip
      refine own_go (A := s₁.setTop (mkF m 13 #[.val (.int k)] [])) (fun _ kz => ?_) ?_
      · show Steps p.tables e below (s₁.setTop (mkF m 10 #[.val (.int k)] [(.int (1 : Int32)), (.int k)])) _
        refine XS.icmpNo X0.here hx rfl (hb hby d1_10) rfl (teq hs3).2 ?_
        exact kz
      obtain ⟨T4, X4, e4, st4⟩ := getS2 X0 hx hZ hown (host := "") (Or.inl (hw _ (List.mem_of_getElem? (i := 28) rfl))) Via.refl e0 S_DENIED (g := (mkF m 13 #[.val (.int k)] [])) rfl (hb hby d1_13)
      refine own_go (A := T4.setTop (mkF m 16 #[.val (.int k)] [(.ref a_DENIED)])) (fun _ kz => st4 _ kz) ?_
      obtain ⟨fs, hrr, hrun, hended, hW, hsame⟩ := X4.leave (v := some (.ref a_DENIED)) (fun h => by rw [Bd.returns] at h; cases h)
      refine ⟨_, _, ?_, hrun, hended, _, _, rfl, ?_, ⟨_, rfl⟩, hW, hsame.mono (by decide) (by decide)⟩
      · show Steps p.tables e below (T4.setTop (mkF m 16 #[.val (.int k)] [(.ref a_DENIED)])) _
        exact retOut X4 hx (t := (.object "com/example/quartermaster/quartermaster/RequestState")) Bd.returns rfl (Or.inr (Or.inr (Or.inr (Or.inr ⟨rfl, rfl, rfl⟩)))) (hb hby d1_16) hrr
      · show QrmP Z k a_GRANTED a_DENIED a_FINISHED a_WAITING a_REJECTED a_CANCELLED a_LAPSED r h0 n0 _ T4.heap _
        rw [e4]
        exact ⟨by rw [← hr]; simp [hs1, hs3], N0, rfl⟩
    · skip
      refine own_go (A := s₁.setTop (mkF m 17 #[.val (.int k)] [])) (fun _ kz => ?_) ?_
      · show Steps p.tables e below (s₁.setTop (mkF m 10 #[.val (.int k)] [(.int (1 : Int32)), (.int k)])) _
        refine XS.icmpYes X0.here hx rfl (pc0 := 10) (pc' := 17) rfl (hb hby d1_10) rfl (feq hs3).2 (by decide) (by decide) ?_
        exact kz
      refine own_go (A := s₁.setTop (mkF m 19 #[.val (.int k)] [(.int (2 : Int32)), (.int k)])) (fun _ kz => ?_) ?_
      · show Steps p.tables e below (s₁.setTop (mkF m 17 #[.val (.int k)] [])) _
        refine XS.iloadN X0.here hx rfl (hb hby d1_17) rfl ?_
        show Steps p.tables e below (s₁.setTop (mkF m 18 #[.val (.int k)] [(.int k)])) _
        refine XS.iconst X0.here hx rfl (hb hby d1_18) ?_
        exact kz
      by_cases hs5 : k = (2 : Int32)
      · skip
        refine own_go (A := s₁.setTop (mkF m 22 #[.val (.int k)] [])) (fun _ kz => ?_) ?_
        · show Steps p.tables e below (s₁.setTop (mkF m 19 #[.val (.int k)] [(.int (2 : Int32)), (.int k)])) _
          refine XS.icmpNo X0.here hx rfl (hb hby d1_19) rfl (teq hs5).2 ?_
          exact kz
        obtain ⟨T6, X6, e6, st6⟩ := getS2 X0 hx hZ hown (host := "") (Or.inl (hw _ (List.mem_of_getElem? (i := 26) rfl))) Via.refl e0 S_FINISHED (g := (mkF m 22 #[.val (.int k)] [])) rfl (hb hby d1_22)
        refine own_go (A := T6.setTop (mkF m 25 #[.val (.int k)] [(.ref a_FINISHED)])) (fun _ kz => st6 _ kz) ?_
        obtain ⟨fs, hrr, hrun, hended, hW, hsame⟩ := X6.leave (v := some (.ref a_FINISHED)) (fun h => by rw [Bd.returns] at h; cases h)
        refine ⟨_, _, ?_, hrun, hended, _, _, rfl, ?_, ⟨_, rfl⟩, hW, hsame.mono (by decide) (by decide)⟩
        · show Steps p.tables e below (T6.setTop (mkF m 25 #[.val (.int k)] [(.ref a_FINISHED)])) _
          exact retOut X6 hx (t := (.object "com/example/quartermaster/quartermaster/RequestState")) Bd.returns rfl (Or.inr (Or.inr (Or.inr (Or.inr ⟨rfl, rfl, rfl⟩)))) (hb hby d1_25) hrr
        · show QrmP Z k a_GRANTED a_DENIED a_FINISHED a_WAITING a_REJECTED a_CANCELLED a_LAPSED r h0 n0 _ T6.heap _
          rw [e6]
          exact ⟨by rw [← hr]; simp [hs1, hs3, hs5], N0, rfl⟩
      · skip
        refine own_go (A := s₁.setTop (mkF m 26 #[.val (.int k)] [])) (fun _ kz => ?_) ?_
        · show Steps p.tables e below (s₁.setTop (mkF m 19 #[.val (.int k)] [(.int (2 : Int32)), (.int k)])) _
          refine XS.icmpYes X0.here hx rfl (pc0 := 19) (pc' := 26) rfl (hb hby d1_19) rfl (feq hs5).2 (by decide) (by decide) ?_
          exact kz
        refine own_go (A := s₁.setTop (mkF m 28 #[.val (.int k)] [(.int (3 : Int32)), (.int k)])) (fun _ kz => ?_) ?_
        · show Steps p.tables e below (s₁.setTop (mkF m 26 #[.val (.int k)] [])) _
          refine XS.iloadN X0.here hx rfl (hb hby d1_26) rfl ?_
          show Steps p.tables e below (s₁.setTop (mkF m 27 #[.val (.int k)] [(.int k)])) _
          refine XS.iconst X0.here hx rfl (hb hby d1_27) ?_
          exact kz
        by_cases hs7 : k = (3 : Int32)
        · skip
          refine own_go (A := s₁.setTop (mkF m 31 #[.val (.int k)] [])) (fun _ kz => ?_) ?_
          · show Steps p.tables e below (s₁.setTop (mkF m 28 #[.val (.int k)] [(.int (3 : Int32)), (.int k)])) _
            refine XS.icmpNo X0.here hx rfl (hb hby d1_28) rfl (teq hs7).2 ?_
            exact kz
          obtain ⟨T8, X8, e8, st8⟩ := getS2 X0 hx hZ hown (host := "") (Or.inl (hw _ (List.mem_of_getElem? (i := 17) rfl))) Via.refl e0 S_WAITING (g := (mkF m 31 #[.val (.int k)] [])) rfl (hb hby d1_31)
          refine own_go (A := T8.setTop (mkF m 34 #[.val (.int k)] [(.ref a_WAITING)])) (fun _ kz => st8 _ kz) ?_
          obtain ⟨fs, hrr, hrun, hended, hW, hsame⟩ := X8.leave (v := some (.ref a_WAITING)) (fun h => by rw [Bd.returns] at h; cases h)
          refine ⟨_, _, ?_, hrun, hended, _, _, rfl, ?_, ⟨_, rfl⟩, hW, hsame.mono (by decide) (by decide)⟩
          · show Steps p.tables e below (T8.setTop (mkF m 34 #[.val (.int k)] [(.ref a_WAITING)])) _
            exact retOut X8 hx (t := (.object "com/example/quartermaster/quartermaster/RequestState")) Bd.returns rfl (Or.inr (Or.inr (Or.inr (Or.inr ⟨rfl, rfl, rfl⟩)))) (hb hby d1_34) hrr
          · show QrmP Z k a_GRANTED a_DENIED a_FINISHED a_WAITING a_REJECTED a_CANCELLED a_LAPSED r h0 n0 _ T8.heap _
            rw [e8]
            exact ⟨by rw [← hr]; simp [hs1, hs3, hs5, hs7], N0, rfl⟩
        · skip
          refine own_go (A := s₁.setTop (mkF m 35 #[.val (.int k)] [])) (fun _ kz => ?_) ?_
          · show Steps p.tables e below (s₁.setTop (mkF m 28 #[.val (.int k)] [(.int (3 : Int32)), (.int k)])) _
            refine XS.icmpYes X0.here hx rfl (pc0 := 28) (pc' := 35) rfl (hb hby d1_28) rfl (feq hs7).2 (by decide) (by decide) ?_
            exact kz
          refine own_go (A := s₁.setTop (mkF m 37 #[.val (.int k)] [(.int (4 : Int32)), (.int k)])) (fun _ kz => ?_) ?_
          · show Steps p.tables e below (s₁.setTop (mkF m 35 #[.val (.int k)] [])) _
            refine XS.iloadN X0.here hx rfl (hb hby d1_35) rfl ?_
            show Steps p.tables e below (s₁.setTop (mkF m 36 #[.val (.int k)] [(.int k)])) _
            refine XS.iconst X0.here hx rfl (hb hby d1_36) ?_
            exact kz
          by_cases hs9 : k = (4 : Int32)
          · skip
            refine own_go (A := s₁.setTop (mkF m 40 #[.val (.int k)] [])) (fun _ kz => ?_) ?_
            · show Steps p.tables e below (s₁.setTop (mkF m 37 #[.val (.int k)] [(.int (4 : Int32)), (.int k)])) _
              refine XS.icmpNo X0.here hx rfl (hb hby d1_37) rfl (teq hs9).2 ?_
              exact kz
            obtain ⟨T10, X10, e10, st10⟩ := getS2 X0 hx hZ hown (host := "") (Or.inl (hw _ (List.mem_of_getElem? (i := 24) rfl))) Via.refl e0 S_REJECTED (g := (mkF m 40 #[.val (.int k)] [])) rfl (hb hby d1_40)
            refine own_go (A := T10.setTop (mkF m 43 #[.val (.int k)] [(.ref a_REJECTED)])) (fun _ kz => st10 _ kz) ?_
            obtain ⟨fs, hrr, hrun, hended, hW, hsame⟩ := X10.leave (v := some (.ref a_REJECTED)) (fun h => by rw [Bd.returns] at h; cases h)
            refine ⟨_, _, ?_, hrun, hended, _, _, rfl, ?_, ⟨_, rfl⟩, hW, hsame.mono (by decide) (by decide)⟩
            · show Steps p.tables e below (T10.setTop (mkF m 43 #[.val (.int k)] [(.ref a_REJECTED)])) _
              exact retOut X10 hx (t := (.object "com/example/quartermaster/quartermaster/RequestState")) Bd.returns rfl (Or.inr (Or.inr (Or.inr (Or.inr ⟨rfl, rfl, rfl⟩)))) (hb hby d1_43) hrr
            · show QrmP Z k a_GRANTED a_DENIED a_FINISHED a_WAITING a_REJECTED a_CANCELLED a_LAPSED r h0 n0 _ T10.heap _
              rw [e10]
              exact ⟨by rw [← hr]; simp [hs1, hs3, hs5, hs7, hs9], N0, rfl⟩
          · skip
            refine own_go (A := s₁.setTop (mkF m 44 #[.val (.int k)] [])) (fun _ kz => ?_) ?_
            · show Steps p.tables e below (s₁.setTop (mkF m 37 #[.val (.int k)] [(.int (4 : Int32)), (.int k)])) _
              refine XS.icmpYes X0.here hx rfl (pc0 := 37) (pc' := 44) rfl (hb hby d1_37) rfl (feq hs9).2 (by decide) (by decide) ?_
              exact kz
            refine own_go (A := s₁.setTop (mkF m 46 #[.val (.int k)] [(.int (5 : Int32)), (.int k)])) (fun _ kz => ?_) ?_
            · show Steps p.tables e below (s₁.setTop (mkF m 44 #[.val (.int k)] [])) _
              refine XS.iloadN X0.here hx rfl (hb hby d1_44) rfl ?_
              show Steps p.tables e below (s₁.setTop (mkF m 45 #[.val (.int k)] [(.int k)])) _
              refine XS.iconst X0.here hx rfl (hb hby d1_45) ?_
              exact kz
            by_cases hs11 : k = (5 : Int32)
            · skip
              refine own_go (A := s₁.setTop (mkF m 49 #[.val (.int k)] [])) (fun _ kz => ?_) ?_
              · show Steps p.tables e below (s₁.setTop (mkF m 46 #[.val (.int k)] [(.int (5 : Int32)), (.int k)])) _
                refine XS.icmpNo X0.here hx rfl (hb hby d1_46) rfl (teq hs11).2 ?_
                exact kz
              obtain ⟨T12, X12, e12, st12⟩ := getS2 X0 hx hZ hown (host := "") (Or.inl (hw _ (List.mem_of_getElem? (i := 20) rfl))) Via.refl e0 S_CANCELLED (g := (mkF m 49 #[.val (.int k)] [])) rfl (hb hby d1_49)
              refine own_go (A := T12.setTop (mkF m 52 #[.val (.int k)] [(.ref a_CANCELLED)])) (fun _ kz => st12 _ kz) ?_
              obtain ⟨fs, hrr, hrun, hended, hW, hsame⟩ := X12.leave (v := some (.ref a_CANCELLED)) (fun h => by rw [Bd.returns] at h; cases h)
              refine ⟨_, _, ?_, hrun, hended, _, _, rfl, ?_, ⟨_, rfl⟩, hW, hsame.mono (by decide) (by decide)⟩
              · show Steps p.tables e below (T12.setTop (mkF m 52 #[.val (.int k)] [(.ref a_CANCELLED)])) _
                exact retOut X12 hx (t := (.object "com/example/quartermaster/quartermaster/RequestState")) Bd.returns rfl (Or.inr (Or.inr (Or.inr (Or.inr ⟨rfl, rfl, rfl⟩)))) (hb hby d1_52) hrr
              · show QrmP Z k a_GRANTED a_DENIED a_FINISHED a_WAITING a_REJECTED a_CANCELLED a_LAPSED r h0 n0 _ T12.heap _
                rw [e12]
                exact ⟨by rw [← hr]; simp [hs1, hs3, hs5, hs7, hs9, hs11], N0, rfl⟩
            · skip
              refine own_go (A := s₁.setTop (mkF m 53 #[.val (.int k)] [])) (fun _ kz => ?_) ?_
              · show Steps p.tables e below (s₁.setTop (mkF m 46 #[.val (.int k)] [(.int (5 : Int32)), (.int k)])) _
                refine XS.icmpYes X0.here hx rfl (pc0 := 46) (pc' := 53) rfl (hb hby d1_46) rfl (feq hs11).2 (by decide) (by decide) ?_
                exact kz
              obtain ⟨T13, X13, e13, st13⟩ := getS2 X0 hx hZ hown (host := "") (Or.inl (hw _ (List.mem_of_getElem? (i := 22) rfl))) Via.refl e0 S_LAPSED (g := (mkF m 53 #[.val (.int k)] [])) rfl (hb hby d1_53)
              refine own_go (A := T13.setTop (mkF m 56 #[.val (.int k)] [(.ref a_LAPSED)])) (fun _ kz => st13 _ kz) ?_
              obtain ⟨fs, hrr, hrun, hended, hW, hsame⟩ := X13.leave (v := some (.ref a_LAPSED)) (fun h => by rw [Bd.returns] at h; cases h)
              refine ⟨_, _, ?_, hrun, hended, _, _, rfl, ?_, ⟨_, rfl⟩, hW, hsame.mono (by decide) (by decide)⟩
              · show Steps p.tables e below (T13.setTop (mkF m 56 #[.val (.int k)] [(.ref a_LAPSED)])) _
                exact retOut X13 hx (t := (.object "com/example/quartermaster/quartermaster/RequestState")) Bd.returns rfl (Or.inr (Or.inr (Or.inr (Or.inr ⟨rfl, rfl, rfl⟩)))) (hb hby d1_56) hrr
              · show QrmP Z k a_GRANTED a_DENIED a_FINISHED a_WAITING a_REJECTED a_CANCELLED a_LAPSED r h0 n0 _ T13.heap _
                rw [e13]
                exact ⟨by rw [← hr]; simp [hs1, hs3, hs5, hs7, hs9, hs11], N0, rfl⟩
theorem d2_0 : decode prog_28_method_4_code 0 = .ok (.aload_n 0, 1) := by decide +kernel
theorem d2_1 : decode prog_28_method_4_code 1 = .ok (.getstatic 3, 3) := by decide +kernel
theorem d2_4 : decode prog_28_method_4_code 4 = .ok (.if_acmp .eq 14, 3) := by decide +kernel
theorem d2_7 : decode prog_28_method_4_code 7 = .ok (.aload_n 0, 1) := by decide +kernel
theorem d2_8 : decode prog_28_method_4_code 8 = .ok (.getstatic 13, 3) := by decide +kernel
theorem d2_11 : decode prog_28_method_4_code 11 = .ok (.if_acmp .eq 7, 3) := by decide +kernel
theorem d2_14 : decode prog_28_method_4_code 14 = .ok (.iconst 1, 1) := by decide +kernel
theorem d2_15 : decode prog_28_method_4_code 15 = .ok (.goto 4, 3) := by decide +kernel
theorem d2_18 : decode prog_28_method_4_code 18 = .ok (.iconst 0, 1) := by decide +kernel
theorem d2_19 : decode prog_28_method_4_code 19 = .ok (.ireturn, 1) := by decide +kernel
theorem own_pn2 : plainName "com/example/quartermaster/quartermaster/RequestState" = true := by first | (simp [plainName, overriddenIn]; done) | decide +kernel
theorem own_ef2 (m : MethodId) (x0 : Addr) : entryFrame m #[(.ref x0)] 1 = mkF m 0 #[.val (.ref x0)] [] := by first | (simp [entryFrame, mkF, argsToLocals, Value.category]; done) | rfl
def QrmH (Z : State) (a t cc : Addr) (r : Int32) (h0 : Heap) (n0 : Nat) (v : Option Value) (h : Heap) (L : List Loc) : Prop := v = some (.int r) ∧ Fr n0 L ∧ h = h0
set_option maxRecDepth 65536 in
set_option maxHeartbeats 40000000 in
theorem rmH (l : Launch) (Z : State) (a0 : Array Value) (hw : ∀ d ∈ tables_1, d.before a0 Z = true) (ws : List Jvm.Cond) (a t cc : Addr) (r : Int32) (h0 : Heap) (n0 : Nat) (Z0 : n0 ≤ h0.size) (S_GRANTED : Sta Z h0 "com/example/quartermaster/quartermaster/RequestState" "GRANTED" "Lcom/example/quartermaster/quartermaster/RequestState;" (.ref t)) (S_WAITING : Sta Z h0 "com/example/quartermaster/quartermaster/RequestState" "WAITING" "Lcom/example/quartermaster/quartermaster/RequestState;" (.ref cc)) (hr : (if a = t then (0 : Int32) else if a = cc then 0 else 1) = r) :
    MetFree l (⟨"com/example/quartermaster/quartermaster/RequestState", "hasEnded", "()Z"⟩ : MethodName) (head1 (Jvm.Cond.code (⟨"com/example/quartermaster/quartermaster/RequestState", "hasEnded", "()Z"⟩ : MethodName) prog_28_method_4_code 1 (some .boolean) :: ws) ({ frames := 0, cells := 0, slots := 0, locals := 0 } : Room)) (fun ar_ U_ => ar_ = #[(.ref a)] ∧ Z.Warmed39 U_.vm ∧ U_.heap = h0) (fun _ _ _ _ _ => True) (fun _ U_ ou_ V_ => ∃ v_ L_, ou_ = .returned v_ ∧ QrmH Z a t cc r h0 n0 v_ V_.heap L_ ∧ FrameEnd U_ ou_ V_ L_ ({ frames := 0, cells := 0, slots := 0, locals := 0 } : Room).cells ({ frames := 0, cells := 0, slots := 0, locals := 0 } : Room).slots) := by
  refine MetFree.of_bodySF (plainFor_of_name own_pn2) hisR ?_
  intro p e s m args below meth c s₁ Bd hml0 hP hK
  obtain ⟨rfl, hZ, hh⟩ := hP
  have hx := Bd.exec
  have hby := Bd.bytes
  have hml : c.maxLocals = 1 := hml0
  have hown : s.vm.findClass "com/example/quartermaster/quartermaster/RequestState" = some m.cls := findClass_of_methodNamed Bd.named
  have hnm := (name_of_methodNamed Bd.named Bd.method).1
  have X0 : Stand p l e ({ frames := 0, cells := 0, slots := 0, locals := 0 } : Room) s m #[(.ref a)] below meth c s₁ [] 0 0 := Stand.of_body Bd
  have e0 : s₁.heap = h0 := by rw [← hh, Bd.state]; rfl
  have N0 := Fr.nil n0
  refine own_go (A := s₁.setTop (mkF m 0 #[.val (.ref a)] [])) (fun t kz => castTop (own_ef2 m a) kz) ?_
  refine own_go (A := s₁.setTop (mkF m 1 #[.val (.ref a)] [(.ref a)])) (fun _ kz => ?_) ?_
  · show Steps p.tables e below (s₁.setTop (mkF m 0 #[.val (.ref a)] [])) _
    refine XS.aloadN X0.here hx rfl (hb hby d2_0) rfl rfl ?_
    exact kz
  obtain ⟨T1, X1, e1, st1⟩ := getS2 X0 hx hZ hown (host := "") (Or.inl (hw _ (List.mem_of_getElem? (i := 13) rfl))) Via.refl e0 S_GRANTED (g := (mkF m 1 #[.val (.ref a)] [(.ref a)])) rfl (hb hby d2_1)
  refine own_go (A := T1.setTop (mkF m 4 #[.val (.ref a)] [(.ref t), (.ref a)])) (fun _ kz => st1 _ kz) ?_
  by_cases hs2 : a = t
  · skip
    refine own_go (A := T1.setTop (mkF m 18 #[.val (.ref a)] [])) (fun _ kz => ?_) ?_
    · refine Jvm.RoadKit.acmp (g := (mkF m 4 #[.val (.ref a)] [(.ref t), (.ref a)])) X1 hx rfl rfl rfl (pc0 := 4) (pc' := 18) (same := true) rfl (hb hby d2_4) rfl (decide_eq_true (congrArg Value.ref hs2)) (by decide) (by decide) ?_
      exact kz
    refine own_go (A := T1.setTop (mkF m 19 #[.val (.ref a)] [(.int (0 : Int32))])) (fun _ kz => ?_) ?_
    · show Steps p.tables e below (T1.setTop (mkF m 18 #[.val (.ref a)] [])) _
      refine XS.iconst X1.here hx rfl (hb hby d2_18) ?_
      exact kz
    obtain ⟨fs, hrr, hrun, hended, hW, hsame⟩ := X1.leave (v := some (.int (0 : Int32))) (fun h => by rw [Bd.returns] at h; cases h)
    refine ⟨_, _, ?_, hrun, hended, _, _, rfl, ?_, ⟨_, rfl⟩, hW, hsame.mono (by decide) (by decide)⟩
    · show Steps p.tables e below (T1.setTop (mkF m 19 #[.val (.ref a)] [(.int (0 : Int32))])) _
      exact retN X1 hx (t := .boolean) Bd.returns (by simp) (hb hby d2_19) hrr
    · show QrmH Z a t cc r h0 n0 _ T1.heap _
      rw [e1]
      exact ⟨by rw [← hr]; simp [hs2], N0, rfl⟩
  · skip
    refine own_go (A := T1.setTop (mkF m 7 #[.val (.ref a)] [])) (fun _ kz => ?_) ?_
    · refine Jvm.RoadKit.acmp (g := (mkF m 4 #[.val (.ref a)] [(.ref t), (.ref a)])) X1 hx rfl rfl rfl (pc0 := 4) (pc' := 7) (same := false) rfl (hb hby d2_4) rfl (decide_eq_false fun q => hs2 (Value.ref.inj q)) (by decide) (by decide) ?_
      exact kz
    refine own_go (A := T1.setTop (mkF m 8 #[.val (.ref a)] [(.ref a)])) (fun _ kz => ?_) ?_
    · show Steps p.tables e below (T1.setTop (mkF m 7 #[.val (.ref a)] [])) _
      refine XS.aloadN X1.here hx rfl (hb hby d2_7) rfl rfl ?_
      exact kz
    obtain ⟨T3, X3, e3, st3⟩ := getS2 X1 hx hZ hown (host := "") (Or.inl (hw _ (List.mem_of_getElem? (i := 19) rfl))) Via.refl e1 S_WAITING (g := (mkF m 8 #[.val (.ref a)] [(.ref a)])) rfl (hb hby d2_8)
    refine own_go (A := T3.setTop (mkF m 11 #[.val (.ref a)] [(.ref cc), (.ref a)])) (fun _ kz => st3 _ kz) ?_
    by_cases hs4 : a = cc
    · skip
      refine own_go (A := T3.setTop (mkF m 18 #[.val (.ref a)] [])) (fun _ kz => ?_) ?_
      · refine Jvm.RoadKit.acmp (g := (mkF m 11 #[.val (.ref a)] [(.ref cc), (.ref a)])) X3 hx rfl rfl rfl (pc0 := 11) (pc' := 18) (same := true) rfl (hb hby d2_11) rfl (decide_eq_true (congrArg Value.ref hs4)) (by decide) (by decide) ?_
        exact kz
      refine own_go (A := T3.setTop (mkF m 19 #[.val (.ref a)] [(.int (0 : Int32))])) (fun _ kz => ?_) ?_
      · show Steps p.tables e below (T3.setTop (mkF m 18 #[.val (.ref a)] [])) _
        refine XS.iconst X3.here hx rfl (hb hby d2_18) ?_
        exact kz
      obtain ⟨fs, hrr, hrun, hended, hW, hsame⟩ := X3.leave (v := some (.int (0 : Int32))) (fun h => by rw [Bd.returns] at h; cases h)
      refine ⟨_, _, ?_, hrun, hended, _, _, rfl, ?_, ⟨_, rfl⟩, hW, hsame.mono (by decide) (by decide)⟩
      · show Steps p.tables e below (T3.setTop (mkF m 19 #[.val (.ref a)] [(.int (0 : Int32))])) _
        exact retN X3 hx (t := .boolean) Bd.returns (by simp) (hb hby d2_19) hrr
      · show QrmH Z a t cc r h0 n0 _ T3.heap _
        rw [e3]
        exact ⟨by rw [← hr]; simp [hs2, hs4], N0, rfl⟩
    · skip
      refine own_go (A := T3.setTop (mkF m 14 #[.val (.ref a)] [])) (fun _ kz => ?_) ?_
      · refine Jvm.RoadKit.acmp (g := (mkF m 11 #[.val (.ref a)] [(.ref cc), (.ref a)])) X3 hx rfl rfl rfl (pc0 := 11) (pc' := 14) (same := false) rfl (hb hby d2_11) rfl (decide_eq_false fun q => hs4 (Value.ref.inj q)) (by decide) (by decide) ?_
        exact kz
      refine own_go (A := T3.setTop (mkF m 19 #[.val (.ref a)] [(.int (1 : Int32))])) (fun _ kz => ?_) ?_
      · show Steps p.tables e below (T3.setTop (mkF m 14 #[.val (.ref a)] [])) _
        refine XS.iconst X3.here hx rfl (hb hby d2_14) ?_
        show Steps p.tables e below (T3.setTop (mkF m 15 #[.val (.ref a)] [(.int (1 : Int32))])) _
        refine XS.goto X3.here hx rfl (pc0 := 15) (pc' := 19) rfl (hb hby d2_15) (by decide) (by decide) ?_
        exact kz
      obtain ⟨fs, hrr, hrun, hended, hW, hsame⟩ := X3.leave (v := some (.int (1 : Int32))) (fun h => by rw [Bd.returns] at h; cases h)
      refine ⟨_, _, ?_, hrun, hended, _, _, rfl, ?_, ⟨_, rfl⟩, hW, hsame.mono (by decide) (by decide)⟩
      · show Steps p.tables e below (T3.setTop (mkF m 19 #[.val (.ref a)] [(.int (1 : Int32))])) _
        exact retN X3 hx (t := .boolean) Bd.returns (by simp) (hb hby d2_19) hrr
      · show QrmH Z a t cc r h0 n0 _ T3.heap _
        rw [e3]
        exact ⟨by rw [← hr]; simp [hs2, hs4], N0, rfl⟩
theorem d3_0 : decode method_3_code 0 = .ok (.iload_n 0, 1) := by decide +kernel
theorem d3_1 : decode method_3_code 1 = .ok (.ifCond .ne 5, 3) := by decide +kernel
theorem d3_4 : decode method_3_code 4 = .ok (.iconst 0, 1) := by decide +kernel
theorem d3_5 : decode method_3_code 5 = .ok (.ireturn, 1) := by decide +kernel
theorem d3_6 : decode method_3_code 6 = .ok (.iload_n 0, 1) := by decide +kernel
theorem d3_7 : decode method_3_code 7 = .ok (.iconst 1, 1) := by decide +kernel
theorem d3_8 : decode method_3_code 8 = .ok (.if_icmp .ne 5, 3) := by decide +kernel
theorem d3_11 : decode method_3_code 11 = .ok (.iconst 1, 1) := by decide +kernel
theorem d3_12 : decode method_3_code 12 = .ok (.ireturn, 1) := by decide +kernel
theorem d3_13 : decode method_3_code 13 = .ok (.iload_n 0, 1) := by decide +kernel
theorem d3_14 : decode method_3_code 14 = .ok (.iconst 2, 1) := by decide +kernel
theorem d3_15 : decode method_3_code 15 = .ok (.if_icmp .ne 5, 3) := by decide +kernel
theorem d3_18 : decode method_3_code 18 = .ok (.iconst 1, 1) := by decide +kernel
theorem d3_19 : decode method_3_code 19 = .ok (.ireturn, 1) := by decide +kernel
theorem d3_20 : decode method_3_code 20 = .ok (.iload_n 0, 1) := by decide +kernel
theorem d3_21 : decode method_3_code 21 = .ok (.iconst 3, 1) := by decide +kernel
theorem d3_22 : decode method_3_code 22 = .ok (.if_icmp .ne 5, 3) := by decide +kernel
theorem d3_25 : decode method_3_code 25 = .ok (.iconst 0, 1) := by decide +kernel
theorem d3_26 : decode method_3_code 26 = .ok (.ireturn, 1) := by decide +kernel
theorem d3_27 : decode method_3_code 27 = .ok (.iload_n 0, 1) := by decide +kernel
theorem d3_28 : decode method_3_code 28 = .ok (.iconst 4, 1) := by decide +kernel
theorem d3_29 : decode method_3_code 29 = .ok (.if_icmp .ne 5, 3) := by decide +kernel
theorem d3_32 : decode method_3_code 32 = .ok (.iconst 1, 1) := by decide +kernel
theorem d3_33 : decode method_3_code 33 = .ok (.ireturn, 1) := by decide +kernel
theorem d3_34 : decode method_3_code 34 = .ok (.iload_n 0, 1) := by decide +kernel
theorem d3_35 : decode method_3_code 35 = .ok (.iconst 5, 1) := by decide +kernel
theorem d3_36 : decode method_3_code 36 = .ok (.if_icmp .ne 5, 3) := by decide +kernel
theorem d3_39 : decode method_3_code 39 = .ok (.iconst 1, 1) := by decide +kernel
theorem d3_40 : decode method_3_code 40 = .ok (.ireturn, 1) := by decide +kernel
theorem d3_41 : decode method_3_code 41 = .ok (.iconst 1, 1) := by decide +kernel
theorem d3_42 : decode method_3_code 42 = .ok (.ireturn, 1) := by decide +kernel
theorem own_pn3 : plainName "com/example/quartermaster/quartermaster/RequestStateHasEndedPinLaw" = true := by first | (simp [plainName, overriddenIn]; done) | decide +kernel
theorem own_ef3 (m : MethodId) (x0 : Int32) : entryFrame m #[(.int x0)] 1 = mkF m 0 #[.val (.int x0)] [] := by first | (simp [entryFrame, mkF, argsToLocals, Value.category]; done) | rfl
def QrmE (Z : State) (k r : Int32) (h0 : Heap) (n0 : Nat) (v : Option Value) (h : Heap) (L : List Loc) : Prop := v = some (.int r) ∧ Fr n0 L ∧ h = h0
set_option maxRecDepth 65536 in
set_option maxHeartbeats 40000000 in
theorem rmE (l : Launch) (Z : State) (a0 : Array Value) (hw : ∀ d ∈ tables_1, d.before a0 Z = true) (ws : List Jvm.Cond) (k r : Int32) (h0 : Heap) (n0 : Nat) (Z0 : n0 ≤ h0.size) (hr : (if k = (0 : Int32) then (0 : Int32) else if k = (1 : Int32) then (1 : Int32) else if k = (2 : Int32) then (1 : Int32) else if k = (3 : Int32) then (0 : Int32) else if k = (4 : Int32) then (1 : Int32) else if k = (5 : Int32) then (1 : Int32) else (1 : Int32)) = r) :
    MetFree l (⟨"com/example/quartermaster/quartermaster/RequestStateHasEndedPinLaw", "expectedEnded", "(I)Z"⟩ : MethodName) (head1 (Jvm.Cond.code (⟨"com/example/quartermaster/quartermaster/RequestStateHasEndedPinLaw", "expectedEnded", "(I)Z"⟩ : MethodName) method_3_code 1 (some .boolean) :: ws) ({ frames := 0, cells := 0, slots := 0, locals := 0 } : Room)) (fun ar_ U_ => ar_ = #[(.int k)] ∧ Z.Warmed39 U_.vm ∧ U_.heap = h0) (fun _ _ _ _ _ => True) (fun _ U_ ou_ V_ => ∃ v_ L_, ou_ = .returned v_ ∧ QrmE Z k r h0 n0 v_ V_.heap L_ ∧ FrameEnd U_ ou_ V_ L_ ({ frames := 0, cells := 0, slots := 0, locals := 0 } : Room).cells ({ frames := 0, cells := 0, slots := 0, locals := 0 } : Room).slots) := by
  refine MetFree.of_bodySF (plainFor_of_name own_pn3) hisR ?_
  intro p e s m args below meth c s₁ Bd hml0 hP hK
  obtain ⟨rfl, hZ, hh⟩ := hP
  have hx := Bd.exec
  have hby := Bd.bytes
  have hml : c.maxLocals = 1 := hml0
  have hown : s.vm.findClass "com/example/quartermaster/quartermaster/RequestStateHasEndedPinLaw" = some m.cls := findClass_of_methodNamed Bd.named
  have hnm := (name_of_methodNamed Bd.named Bd.method).1
  have X0 : Stand p l e ({ frames := 0, cells := 0, slots := 0, locals := 0 } : Room) s m #[(.int k)] below meth c s₁ [] 0 0 := Stand.of_body Bd
  have e0 : s₁.heap = h0 := by rw [← hh, Bd.state]; rfl
  have N0 := Fr.nil n0
  refine own_go (A := s₁.setTop (mkF m 0 #[.val (.int k)] [])) (fun t kz => castTop (own_ef3 m k) kz) ?_
  refine own_go (A := s₁.setTop (mkF m 1 #[.val (.int k)] [(.int k)])) (fun _ kz => ?_) ?_
  · show Steps p.tables e below (s₁.setTop (mkF m 0 #[.val (.int k)] [])) _
    refine XS.iloadN X0.here hx rfl (hb hby d3_0) rfl ?_
    exact kz
  by_cases hs1 : k = (0 : Int32)
  · skip
    refine own_go (A := s₁.setTop (mkF m 4 #[.val (.int k)] [])) (fun _ kz => ?_) ?_
    · show Steps p.tables e below (s₁.setTop (mkF m 1 #[.val (.int k)] [(.int k)])) _
      refine XS.ifNo X0.here hx rfl (hb hby d3_1) rfl ((if0 _ _).trans (teq hs1).2) ?_
      exact kz
    refine own_go (A := s₁.setTop (mkF m 5 #[.val (.int k)] [(.int (0 : Int32))])) (fun _ kz => ?_) ?_
    · show Steps p.tables e below (s₁.setTop (mkF m 4 #[.val (.int k)] [])) _
      refine XS.iconst X0.here hx rfl (hb hby d3_4) ?_
      exact kz
    obtain ⟨fs, hrr, hrun, hended, hW, hsame⟩ := X0.leave (v := some (.int (0 : Int32))) (fun h => by rw [Bd.returns] at h; cases h)
    refine ⟨_, _, ?_, hrun, hended, _, _, rfl, ?_, ⟨_, rfl⟩, hW, hsame.mono (by decide) (by decide)⟩
    · show Steps p.tables e below (s₁.setTop (mkF m 5 #[.val (.int k)] [(.int (0 : Int32))])) _
      exact retN X0 hx (t := .boolean) Bd.returns (by simp) (hb hby d3_5) hrr
    · show QrmE Z k r h0 n0 _ s₁.heap _
      rw [e0]
      exact ⟨by rw [← hr]; simp [hs1], N0, rfl⟩
  · skip
    refine own_go (A := s₁.setTop (mkF m 6 #[.val (.int k)] [])) (fun _ kz => ?_) ?_
    · show Steps p.tables e below (s₁.setTop (mkF m 1 #[.val (.int k)] [(.int k)])) _
      refine XS.ifYes X0.here hx rfl (pc0 := 1) (pc' := 6) rfl (hb hby d3_1) rfl ((if0 _ _).trans (feq hs1).2) (by decide) (by decide) ?_
      exact kz
    refine own_go (A := s₁.setTop (mkF m 8 #[.val (.int k)] [(.int (1 : Int32)), (.int k)])) (fun _ kz => ?_) ?_
    · show Steps p.tables e below (s₁.setTop (mkF m 6 #[.val (.int k)] [])) _
      refine XS.iloadN X0.here hx rfl (hb hby d3_6) rfl ?_
      show Steps p.tables e below (s₁.setTop (mkF m 7 #[.val (.int k)] [(.int k)])) _
      refine XS.iconst X0.here hx rfl (hb hby d3_7) ?_
      exact kz
    by_cases hs2 : k = (1 : Int32)
    · skip
      refine own_go (A := s₁.setTop (mkF m 11 #[.val (.int k)] [])) (fun _ kz => ?_) ?_
      · show Steps p.tables e below (s₁.setTop (mkF m 8 #[.val (.int k)] [(.int (1 : Int32)), (.int k)])) _
        refine XS.icmpNo X0.here hx rfl (hb hby d3_8) rfl (teq hs2).2 ?_
        exact kz
      refine own_go (A := s₁.setTop (mkF m 12 #[.val (.int k)] [(.int (1 : Int32))])) (fun _ kz => ?_) ?_
      · show Steps p.tables e below (s₁.setTop (mkF m 11 #[.val (.int k)] [])) _
        refine XS.iconst X0.here hx rfl (hb hby d3_11) ?_
        exact kz
      obtain ⟨fs, hrr, hrun, hended, hW, hsame⟩ := X0.leave (v := some (.int (1 : Int32))) (fun h => by rw [Bd.returns] at h; cases h)
      refine ⟨_, _, ?_, hrun, hended, _, _, rfl, ?_, ⟨_, rfl⟩, hW, hsame.mono (by decide) (by decide)⟩
      · show Steps p.tables e below (s₁.setTop (mkF m 12 #[.val (.int k)] [(.int (1 : Int32))])) _
        exact retN X0 hx (t := .boolean) Bd.returns (by simp) (hb hby d3_12) hrr
      · show QrmE Z k r h0 n0 _ s₁.heap _
        rw [e0]
        exact ⟨by rw [← hr]; simp [hs1, hs2], N0, rfl⟩
    · skip
      refine own_go (A := s₁.setTop (mkF m 13 #[.val (.int k)] [])) (fun _ kz => ?_) ?_
      · show Steps p.tables e below (s₁.setTop (mkF m 8 #[.val (.int k)] [(.int (1 : Int32)), (.int k)])) _
        refine XS.icmpYes X0.here hx rfl (pc0 := 8) (pc' := 13) rfl (hb hby d3_8) rfl (feq hs2).2 (by decide) (by decide) ?_
        exact kz
      refine own_go (A := s₁.setTop (mkF m 15 #[.val (.int k)] [(.int (2 : Int32)), (.int k)])) (fun _ kz => ?_) ?_
      · show Steps p.tables e below (s₁.setTop (mkF m 13 #[.val (.int k)] [])) _
        refine XS.iloadN X0.here hx rfl (hb hby d3_13) rfl ?_
        show Steps p.tables e below (s₁.setTop (mkF m 14 #[.val (.int k)] [(.int k)])) _
        refine XS.iconst X0.here hx rfl (hb hby d3_14) ?_
        exact kz
      by_cases hs3 : k = (2 : Int32)
      · skip
        refine own_go (A := s₁.setTop (mkF m 18 #[.val (.int k)] [])) (fun _ kz => ?_) ?_
        · show Steps p.tables e below (s₁.setTop (mkF m 15 #[.val (.int k)] [(.int (2 : Int32)), (.int k)])) _
          refine XS.icmpNo X0.here hx rfl (hb hby d3_15) rfl (teq hs3).2 ?_
          exact kz
        refine own_go (A := s₁.setTop (mkF m 19 #[.val (.int k)] [(.int (1 : Int32))])) (fun _ kz => ?_) ?_
        · show Steps p.tables e below (s₁.setTop (mkF m 18 #[.val (.int k)] [])) _
          refine XS.iconst X0.here hx rfl (hb hby d3_18) ?_
          exact kz
        obtain ⟨fs, hrr, hrun, hended, hW, hsame⟩ := X0.leave (v := some (.int (1 : Int32))) (fun h => by rw [Bd.returns] at h; cases h)
        refine ⟨_, _, ?_, hrun, hended, _, _, rfl, ?_, ⟨_, rfl⟩, hW, hsame.mono (by decide) (by decide)⟩
        · show Steps p.tables e below (s₁.setTop (mkF m 19 #[.val (.int k)] [(.int (1 : Int32))])) _
          exact retN X0 hx (t := .boolean) Bd.returns (by simp) (hb hby d3_19) hrr
        · show QrmE Z k r h0 n0 _ s₁.heap _
          rw [e0]
          exact ⟨by rw [← hr]; simp [hs1, hs2, hs3], N0, rfl⟩
      · skip
        refine own_go (A := s₁.setTop (mkF m 20 #[.val (.int k)] [])) (fun _ kz => ?_) ?_
        · show Steps p.tables e below (s₁.setTop (mkF m 15 #[.val (.int k)] [(.int (2 : Int32)), (.int k)])) _
          refine XS.icmpYes X0.here hx rfl (pc0 := 15) (pc' := 20) rfl (hb hby d3_15) rfl (feq hs3).2 (by decide) (by decide) ?_
          exact kz
        refine own_go (A := s₁.setTop (mkF m 22 #[.val (.int k)] [(.int (3 : Int32)), (.int k)])) (fun _ kz => ?_) ?_
        · show Steps p.tables e below (s₁.setTop (mkF m 20 #[.val (.int k)] [])) _
          refine XS.iloadN X0.here hx rfl (hb hby d3_20) rfl ?_
          show Steps p.tables e below (s₁.setTop (mkF m 21 #[.val (.int k)] [(.int k)])) _
          refine XS.iconst X0.here hx rfl (hb hby d3_21) ?_
          exact kz
        by_cases hs4 : k = (3 : Int32)
        · skip
          refine own_go (A := s₁.setTop (mkF m 25 #[.val (.int k)] [])) (fun _ kz => ?_) ?_
          · show Steps p.tables e below (s₁.setTop (mkF m 22 #[.val (.int k)] [(.int (3 : Int32)), (.int k)])) _
            refine XS.icmpNo X0.here hx rfl (hb hby d3_22) rfl (teq hs4).2 ?_
            exact kz
          refine own_go (A := s₁.setTop (mkF m 26 #[.val (.int k)] [(.int (0 : Int32))])) (fun _ kz => ?_) ?_
          · show Steps p.tables e below (s₁.setTop (mkF m 25 #[.val (.int k)] [])) _
            refine XS.iconst X0.here hx rfl (hb hby d3_25) ?_
            exact kz
          obtain ⟨fs, hrr, hrun, hended, hW, hsame⟩ := X0.leave (v := some (.int (0 : Int32))) (fun h => by rw [Bd.returns] at h; cases h)
          refine ⟨_, _, ?_, hrun, hended, _, _, rfl, ?_, ⟨_, rfl⟩, hW, hsame.mono (by decide) (by decide)⟩
          · show Steps p.tables e below (s₁.setTop (mkF m 26 #[.val (.int k)] [(.int (0 : Int32))])) _
            exact retN X0 hx (t := .boolean) Bd.returns (by simp) (hb hby d3_26) hrr
          · show QrmE Z k r h0 n0 _ s₁.heap _
            rw [e0]
            exact ⟨by rw [← hr]; simp [hs1, hs2, hs3, hs4], N0, rfl⟩
        · skip
          refine own_go (A := s₁.setTop (mkF m 27 #[.val (.int k)] [])) (fun _ kz => ?_) ?_
          · show Steps p.tables e below (s₁.setTop (mkF m 22 #[.val (.int k)] [(.int (3 : Int32)), (.int k)])) _
            refine XS.icmpYes X0.here hx rfl (pc0 := 22) (pc' := 27) rfl (hb hby d3_22) rfl (feq hs4).2 (by decide) (by decide) ?_
            exact kz
          refine own_go (A := s₁.setTop (mkF m 29 #[.val (.int k)] [(.int (4 : Int32)), (.int k)])) (fun _ kz => ?_) ?_
          · show Steps p.tables e below (s₁.setTop (mkF m 27 #[.val (.int k)] [])) _
            refine XS.iloadN X0.here hx rfl (hb hby d3_27) rfl ?_
            show Steps p.tables e below (s₁.setTop (mkF m 28 #[.val (.int k)] [(.int k)])) _
            refine XS.iconst X0.here hx rfl (hb hby d3_28) ?_
            exact kz
          by_cases hs5 : k = (4 : Int32)
          · skip
            refine own_go (A := s₁.setTop (mkF m 32 #[.val (.int k)] [])) (fun _ kz => ?_) ?_
            · show Steps p.tables e below (s₁.setTop (mkF m 29 #[.val (.int k)] [(.int (4 : Int32)), (.int k)])) _
              refine XS.icmpNo X0.here hx rfl (hb hby d3_29) rfl (teq hs5).2 ?_
              exact kz
            refine own_go (A := s₁.setTop (mkF m 33 #[.val (.int k)] [(.int (1 : Int32))])) (fun _ kz => ?_) ?_
            · show Steps p.tables e below (s₁.setTop (mkF m 32 #[.val (.int k)] [])) _
              refine XS.iconst X0.here hx rfl (hb hby d3_32) ?_
              exact kz
            obtain ⟨fs, hrr, hrun, hended, hW, hsame⟩ := X0.leave (v := some (.int (1 : Int32))) (fun h => by rw [Bd.returns] at h; cases h)
            refine ⟨_, _, ?_, hrun, hended, _, _, rfl, ?_, ⟨_, rfl⟩, hW, hsame.mono (by decide) (by decide)⟩
            · show Steps p.tables e below (s₁.setTop (mkF m 33 #[.val (.int k)] [(.int (1 : Int32))])) _
              exact retN X0 hx (t := .boolean) Bd.returns (by simp) (hb hby d3_33) hrr
            · show QrmE Z k r h0 n0 _ s₁.heap _
              rw [e0]
              exact ⟨by rw [← hr]; simp [hs1, hs2, hs3, hs4, hs5], N0, rfl⟩
          · skip
            refine own_go (A := s₁.setTop (mkF m 34 #[.val (.int k)] [])) (fun _ kz => ?_) ?_
            · show Steps p.tables e below (s₁.setTop (mkF m 29 #[.val (.int k)] [(.int (4 : Int32)), (.int k)])) _
              refine XS.icmpYes X0.here hx rfl (pc0 := 29) (pc' := 34) rfl (hb hby d3_29) rfl (feq hs5).2 (by decide) (by decide) ?_
              exact kz
            refine own_go (A := s₁.setTop (mkF m 36 #[.val (.int k)] [(.int (5 : Int32)), (.int k)])) (fun _ kz => ?_) ?_
            · show Steps p.tables e below (s₁.setTop (mkF m 34 #[.val (.int k)] [])) _
              refine XS.iloadN X0.here hx rfl (hb hby d3_34) rfl ?_
              show Steps p.tables e below (s₁.setTop (mkF m 35 #[.val (.int k)] [(.int k)])) _
              refine XS.iconst X0.here hx rfl (hb hby d3_35) ?_
              exact kz
            by_cases hs6 : k = (5 : Int32)
            · skip
              refine own_go (A := s₁.setTop (mkF m 39 #[.val (.int k)] [])) (fun _ kz => ?_) ?_
              · show Steps p.tables e below (s₁.setTop (mkF m 36 #[.val (.int k)] [(.int (5 : Int32)), (.int k)])) _
                refine XS.icmpNo X0.here hx rfl (hb hby d3_36) rfl (teq hs6).2 ?_
                exact kz
              refine own_go (A := s₁.setTop (mkF m 40 #[.val (.int k)] [(.int (1 : Int32))])) (fun _ kz => ?_) ?_
              · show Steps p.tables e below (s₁.setTop (mkF m 39 #[.val (.int k)] [])) _
                refine XS.iconst X0.here hx rfl (hb hby d3_39) ?_
                exact kz
              obtain ⟨fs, hrr, hrun, hended, hW, hsame⟩ := X0.leave (v := some (.int (1 : Int32))) (fun h => by rw [Bd.returns] at h; cases h)
              refine ⟨_, _, ?_, hrun, hended, _, _, rfl, ?_, ⟨_, rfl⟩, hW, hsame.mono (by decide) (by decide)⟩
              · show Steps p.tables e below (s₁.setTop (mkF m 40 #[.val (.int k)] [(.int (1 : Int32))])) _
                exact retN X0 hx (t := .boolean) Bd.returns (by simp) (hb hby d3_40) hrr
              · show QrmE Z k r h0 n0 _ s₁.heap _
                rw [e0]
                exact ⟨by rw [← hr]; simp [hs1, hs2, hs3, hs4, hs5, hs6], N0, rfl⟩
            · skip
              refine own_go (A := s₁.setTop (mkF m 41 #[.val (.int k)] [])) (fun _ kz => ?_) ?_
              · show Steps p.tables e below (s₁.setTop (mkF m 36 #[.val (.int k)] [(.int (5 : Int32)), (.int k)])) _
                refine XS.icmpYes X0.here hx rfl (pc0 := 36) (pc' := 41) rfl (hb hby d3_36) rfl (feq hs6).2 (by decide) (by decide) ?_
                exact kz
              refine own_go (A := s₁.setTop (mkF m 42 #[.val (.int k)] [(.int (1 : Int32))])) (fun _ kz => ?_) ?_
              · show Steps p.tables e below (s₁.setTop (mkF m 41 #[.val (.int k)] [])) _
                refine XS.iconst X0.here hx rfl (hb hby d3_41) ?_
                exact kz
              obtain ⟨fs, hrr, hrun, hended, hW, hsame⟩ := X0.leave (v := some (.int (1 : Int32))) (fun h => by rw [Bd.returns] at h; cases h)
              refine ⟨_, _, ?_, hrun, hended, _, _, rfl, ?_, ⟨_, rfl⟩, hW, hsame.mono (by decide) (by decide)⟩
              · show Steps p.tables e below (s₁.setTop (mkF m 42 #[.val (.int k)] [(.int (1 : Int32))])) _
                exact retN X0 hx (t := .boolean) Bd.returns (by simp) (hb hby d3_42) hrr
              · show QrmE Z k r h0 n0 _ s₁.heap _
                rw [e0]
                exact ⟨by rw [← hr]; simp [hs1, hs2, hs3, hs4, hs5, hs6], N0, rfl⟩
theorem own_pn0 : plainName "com/example/quartermaster/quartermaster/RequestStateHasEndedPinLaw" = true := by first | (simp [plainName, overriddenIn]; done) | decide +kernel
theorem own_ef0 (m : MethodId) (x0 : Int32) : entryFrame m #[(.int x0)] maxLocals = mkF m 0 #[.val (.int x0), .unset, .unset] [] := by first | (simp [entryFrame, mkF, argsToLocals, Value.category, maxLocals]; done) | rfl
def Qrm0 (Z : State) (p1 : Int32) (a_GRANTED a_DENIED a_FINISHED a_WAITING a_REJECTED a_CANCELLED a_LAPSED : Addr) (h0 : Heap) (n0 : Nat) (v : Option Value) (h : Heap) (L : List Loc) : Prop := v = some (.int 1) ∧ Fr n0 L
set_option maxRecDepth 65536 in
set_option maxHeartbeats 40000000 in
theorem rm0 (l : Launch) (Z : State) (a0 : Array Value) (hw : ∀ d ∈ tables_1, d.before a0 Z = true) (ws : List Jvm.Cond) (p1 : Int32) (a_GRANTED a_DENIED a_FINISHED a_WAITING a_REJECTED a_CANCELLED a_LAPSED : Addr) (h0 : Heap) (n0 : Nat) (Z0 : n0 ≤ h0.size) (S_GRANTED : Sta Z h0 "com/example/quartermaster/quartermaster/RequestState" "GRANTED" "Lcom/example/quartermaster/quartermaster/RequestState;" (.ref a_GRANTED)) (Ex_GRANTED : Exa Z h0 a_GRANTED "com/example/quartermaster/quartermaster/RequestState") (Fo_GRANTED : Fld Z h0 a_GRANTED "java/lang/Enum" "ordinal" "I" (.int (0 : Int32))) (S_DENIED : Sta Z h0 "com/example/quartermaster/quartermaster/RequestState" "DENIED" "Lcom/example/quartermaster/quartermaster/RequestState;" (.ref a_DENIED)) (Ex_DENIED : Exa Z h0 a_DENIED "com/example/quartermaster/quartermaster/RequestState") (Fo_DENIED : Fld Z h0 a_DENIED "java/lang/Enum" "ordinal" "I" (.int (1 : Int32))) (S_FINISHED : Sta Z h0 "com/example/quartermaster/quartermaster/RequestState" "FINISHED" "Lcom/example/quartermaster/quartermaster/RequestState;" (.ref a_FINISHED)) (Ex_FINISHED : Exa Z h0 a_FINISHED "com/example/quartermaster/quartermaster/RequestState") (Fo_FINISHED : Fld Z h0 a_FINISHED "java/lang/Enum" "ordinal" "I" (.int (2 : Int32))) (S_WAITING : Sta Z h0 "com/example/quartermaster/quartermaster/RequestState" "WAITING" "Lcom/example/quartermaster/quartermaster/RequestState;" (.ref a_WAITING)) (Ex_WAITING : Exa Z h0 a_WAITING "com/example/quartermaster/quartermaster/RequestState") (Fo_WAITING : Fld Z h0 a_WAITING "java/lang/Enum" "ordinal" "I" (.int (3 : Int32))) (S_REJECTED : Sta Z h0 "com/example/quartermaster/quartermaster/RequestState" "REJECTED" "Lcom/example/quartermaster/quartermaster/RequestState;" (.ref a_REJECTED)) (Ex_REJECTED : Exa Z h0 a_REJECTED "com/example/quartermaster/quartermaster/RequestState") (Fo_REJECTED : Fld Z h0 a_REJECTED "java/lang/Enum" "ordinal" "I" (.int (4 : Int32))) (S_CANCELLED : Sta Z h0 "com/example/quartermaster/quartermaster/RequestState" "CANCELLED" "Lcom/example/quartermaster/quartermaster/RequestState;" (.ref a_CANCELLED)) (Ex_CANCELLED : Exa Z h0 a_CANCELLED "com/example/quartermaster/quartermaster/RequestState") (Fo_CANCELLED : Fld Z h0 a_CANCELLED "java/lang/Enum" "ordinal" "I" (.int (5 : Int32))) (S_LAPSED : Sta Z h0 "com/example/quartermaster/quartermaster/RequestState" "LAPSED" "Lcom/example/quartermaster/quartermaster/RequestState;" (.ref a_LAPSED)) (Ex_LAPSED : Exa Z h0 a_LAPSED "com/example/quartermaster/quartermaster/RequestState") (Fo_LAPSED : Fld Z h0 a_LAPSED "java/lang/Enum" "ordinal" "I" (.int (6 : Int32))) :
    MetFree l x (head1 (Jvm.Cond.code x code maxLocals ret :: ws) room_1) (fun ar_ U_ => ar_ = #[(.int p1)] ∧ Z.Warmed39 U_.vm ∧ U_.heap = h0) (fun _ _ _ _ _ => True) (fun _ U_ ou_ V_ => ∃ v_ L_, ou_ = .returned v_ ∧ Qrm0 Z p1 a_GRANTED a_DENIED a_FINISHED a_WAITING a_REJECTED a_CANCELLED a_LAPSED h0 n0 v_ V_.heap L_ ∧ FrameEnd U_ ou_ V_ L_ room_1.cells room_1.slots) := by
  refine MetFree.of_bodySF (plainFor_of_name own_pn0) hisR ?_
  intro p e s m args below meth c s₁ Bd hml0 hP hK
  obtain ⟨rfl, hZ, hh⟩ := hP
  have hx := Bd.exec
  have hby := Bd.bytes
  have hml : c.maxLocals = 3 := hml0
  have hown : s.vm.findClass "com/example/quartermaster/quartermaster/RequestStateHasEndedPinLaw" = some m.cls := findClass_of_methodNamed Bd.named
  have hnm := (name_of_methodNamed Bd.named Bd.method).1
  have X0 : Stand p l e room_1 s m #[(.int p1)] below meth c s₁ [] 0 0 := Stand.of_body Bd
  have e0 : s₁.heap = h0 := by rw [← hh, Bd.state]; rfl
  have N0 := Fr.nil n0
  refine own_go (A := s₁.setTop (mkF m 0 #[.val (.int p1), .unset, .unset] [])) (fun t kz => castTop (own_ef0 m p1) kz) ?_
  refine own_go (A := s₁.setTop (mkF m 8 #[.val (.int p1), .val (.int ((p1 &&& (2147483647 : Int32)) % (7 : Int32))), .unset] [])) (fun _ kz => ?_) ?_
  · show Steps p.tables e below (s₁.setTop (mkF m 0 #[.val (.int p1), .unset, .unset] [])) _
    refine XS.iloadN X0.here hx rfl (hb hby at_0) rfl ?_
    show Steps p.tables e below (s₁.setTop (mkF m 1 #[.val (.int p1), .unset, .unset] [(.int p1)])) _
    refine X0.ldcInt hx hown (mvT hZ (hw _ (List.mem_of_getElem? (i := 0) rfl))) (g := (mkF m 1 #[.val (.int p1), .unset, .unset] [(.int p1)])) rfl (hb hby at_1) _ ?_
    show Steps p.tables e below (s₁.setTop (mkF m 3 #[.val (.int p1), .unset, .unset] [(.int (2147483647 : Int32)), (.int p1)])) _
    refine XS.iand X0.here hx rfl (hb hby at_3) rfl ?_
    show Steps p.tables e below (s₁.setTop (mkF m 4 #[.val (.int p1), .unset, .unset] [(.int (p1 &&& (2147483647 : Int32)))])) _
    refine XS.bipush X0.here hx rfl (hb hby at_4) ?_
    show Steps p.tables e below (s₁.setTop (mkF m 6 #[.val (.int p1), .unset, .unset] [(.int (7 : Int32)), (.int (p1 &&& (2147483647 : Int32)))])) _
    refine iremM X0 hx rfl (hb hby at_6) rfl (by decide) ?_
    show Steps p.tables e below (s₁.setTop (mkF m 7 #[.val (.int p1), .unset, .unset] [(.int ((p1 &&& (2147483647 : Int32)) % (7 : Int32)))])) _
    refine XS.istoreN X0.here hx rfl (hb hby at_7) rfl (l' := #[.val (.int p1), .val (.int ((p1 &&& (2147483647 : Int32)) % (7 : Int32))), .unset]) rfl ?_
    exact kz
  obtain ⟨kk, hkk⟩ : ∃ z, z = ((p1 &&& (2147483647 : Int32)) % (7 : Int32)) := ⟨_, rfl⟩
  refine own_go (A := s₁.setTop (mkF m 8 #[.val (.int p1), .val (.int kk), .unset] [])) (fun _ kz => by rw [hkk] at kz; exact kz) ?_
  rcases own_mod _ hkk with rfl | rfl | rfl | rfl | rfl | rfl | rfl
  · skip
    refine own_go (A := s₁.setTop (mkF m 9 #[.val (.int p1), .val (.int (0 : Int32)), .unset] [(.int (0 : Int32))])) (fun _ kz => ?_) ?_
    · show Steps p.tables e below (s₁.setTop (mkF m 8 #[.val (.int p1), .val (.int (0 : Int32)), .unset] [])) _
      refine XS.iloadN X0.here hx rfl (hb hby at_8) rfl ?_
      exact kz
    obtain ⟨_, _, ⟨T1, L1, k1, n1⟩, -, X1, ⟨Lc1, hQ1, l1, y1, z1⟩, st1⟩ := Jvm.LawKit.callS X0 hx (y := (⟨"com/example/quartermaster/quartermaster/RequestStateHasEndedPinLaw", "pick", "(I)Lcom/example/quartermaster/quartermaster/RequestState;"⟩ : MethodName)) hown (mvT hZ (hw _ (List.mem_of_getElem? (i := 1) rfl))) (mvT hZ (hw _ (List.mem_of_getElem? (i := 2) rfl))) (mvT hZ (hw _ (List.mem_of_getElem? (i := 3) rfl))) (mvT hZ (hw _ (List.mem_of_getElem? (i := 4) rfl))) (by decide) (backOf (W := 0) (rmP l Z a0 hw [] (0 : Int32) a_GRANTED a_DENIED a_FINISHED a_WAITING a_REJECTED a_CANCELLED a_LAPSED a_GRANTED h0 n0 Z0 S_GRANTED S_DENIED S_FINISHED S_WAITING S_REJECTED S_CANCELLED S_LAPSED (by simp)) hZ (hw _ (List.mem_of_getElem? (i := 4) rfl)) (hw _ (List.mem_of_getElem? (i := 3) rfl)) (by decide) (by decide)) (g := (mkF m 9 #[.val (.int p1), .val (.int (0 : Int32)), .unset] [(.int (0 : Int32))])) rfl (by rw [hml]; rfl) (argsL := [(.int (0 : Int32))]) (rest := []) (lenOf own_pd0 rfl) rfl (by show 2 * 0 + _ ≤ _; exact Nat.le_of_eq rfl) (hb hby at_9) (fun _ _ => ⟨rfl, e0, (by decide : 0 + 0 ≤ _), (by decide : 0 + 0 ≤ _)⟩)
    dsimp only [Pt.U, Pt.locs, Pt.cells, Pt.slots] at X1 l1 y1 z1 st1 hQ1
    subst l1 y1 z1
    obtain ⟨rfl, N1q, e1⟩ := hQ1
    have N1 := Fr.app N0 N1q
    refine own_go (A := T1.setTop (mkF m 12 #[.val (.int p1), .val (.int (0 : Int32)), .unset] [(.ref a_GRANTED)])) (fun _ kz => st1 _ kz) ?_
    refine own_go (A := T1.setTop (mkF m 14 #[.val (.int p1), .val (.int (0 : Int32)), .val (.ref a_GRANTED)] [(.ref a_GRANTED)])) (fun _ kz => ?_) ?_
    · show Steps p.tables e below (T1.setTop (mkF m 12 #[.val (.int p1), .val (.int (0 : Int32)), .unset] [(.ref a_GRANTED)])) _
      refine XS.astoreN X1.here hx rfl (hb hby at_12) rfl rfl (l' := #[.val (.int p1), .val (.int (0 : Int32)), .val (.ref a_GRANTED)]) rfl ?_
      show Steps p.tables e below (T1.setTop (mkF m 13 #[.val (.int p1), .val (.int (0 : Int32)), .val (.ref a_GRANTED)] [])) _
      refine XS.aloadN X1.here hx rfl (hb hby at_13) rfl rfl ?_
      exact kz
    obtain ⟨cq2, kq2, q2a, q2b, q2c⟩ := isOf hZ e1 Ex_GRANTED
    obtain ⟨_, _, ⟨T2, L2, k2, n2⟩, -, X2, ⟨Lc2, hQ2, l2, y2, z2⟩, st2⟩ := X1.virtualBack hx (y := (⟨"com/example/quartermaster/quartermaster/RequestState", "hasEnded", "()Z"⟩ : MethodName)) (z := (⟨"com/example/quartermaster/quartermaster/RequestState", "hasEnded", "()Z"⟩ : MethodName)) hown (mvT hZ (hw _ (List.mem_of_getElem? (i := 8) rfl))) (mvT hZ (hw _ (List.mem_of_getElem? (i := 9) rfl))) (notFace_of_selects (args := #[]) (mvT hZ (hw _ (List.mem_of_getElem? (i := 11) rfl)))) (mvT hZ (hw _ (List.mem_of_getElem? (i := 11) rfl))) (mvT hZ (hw _ (List.mem_of_getElem? (i := 10) rfl))) (by decide) (backOf (W := 0) (rmH l Z a0 hw [] a_GRANTED a_GRANTED a_WAITING (0 : Int32) h0 n0 Z0 S_GRANTED S_WAITING (if_pos rfl)) hZ (hw _ (List.mem_of_getElem? (i := 12) rfl)) (hw _ (List.mem_of_getElem? (i := 6) rfl)) (by decide) (by decide)) q2a q2c (g := (mkF m 14 #[.val (.int p1), .val (.int (0 : Int32)), .val (.ref a_GRANTED)] [(.ref a_GRANTED)])) rfl (by rw [hml]; rfl) (Steps.refl _) (argsL := []) (rest := []) (lenOf own_pd1 rfl) rfl (by show 2 * 0 + _ ≤ _; exact Nat.le_of_eq rfl) (hb hby at_14) (fun _ _ => ⟨rfl, e1, (by decide : 0 + 0 ≤ _), (by decide : 0 + 0 ≤ _)⟩)
    dsimp only [Pt.U, Pt.locs, Pt.cells, Pt.slots] at X2 l2 y2 z2 st2 hQ2
    subst l2 y2 z2
    obtain ⟨rfl, N2q, e2⟩ := hQ2
    have N2 := Fr.app N1 N2q
    refine own_go (A := T2.setTop (mkF m 17 #[.val (.int p1), .val (.int (0 : Int32)), .val (.ref a_GRANTED)] [(.int (0 : Int32))])) (fun _ kz => st2.trans kz) ?_
    refine own_go (A := T2.setTop (mkF m 18 #[.val (.int p1), .val (.int (0 : Int32)), .val (.ref a_GRANTED)] [(.int (0 : Int32)), (.int (0 : Int32))])) (fun _ kz => ?_) ?_
    · show Steps p.tables e below (T2.setTop (mkF m 17 #[.val (.int p1), .val (.int (0 : Int32)), .val (.ref a_GRANTED)] [(.int (0 : Int32))])) _
      refine XS.iloadN X2.here hx rfl (hb hby at_17) rfl ?_
      exact kz
    obtain ⟨_, _, ⟨T3, L3, k3, n3⟩, -, X3, ⟨Lc3, hQ3, l3, y3, z3⟩, st3⟩ := Jvm.LawKit.callS X2 hx (y := (⟨"com/example/quartermaster/quartermaster/RequestStateHasEndedPinLaw", "expectedEnded", "(I)Z"⟩ : MethodName)) hown (mvT hZ (hw _ (List.mem_of_getElem? (i := 14) rfl))) (mvT hZ (hw _ (List.mem_of_getElem? (i := 15) rfl))) (mvT hZ (hw _ (List.mem_of_getElem? (i := 3) rfl))) (mvT hZ (hw _ (List.mem_of_getElem? (i := 16) rfl))) (by decide) (backOf (W := 1) (rmE l Z a0 hw [] (0 : Int32) (0 : Int32) h0 n0 Z0 (by simp)) hZ (hw _ (List.mem_of_getElem? (i := 16) rfl)) (hw _ (List.mem_of_getElem? (i := 3) rfl)) (by decide) (by decide)) (g := (mkF m 18 #[.val (.int p1), .val (.int (0 : Int32)), .val (.ref a_GRANTED)] [(.int (0 : Int32)), (.int (0 : Int32))])) rfl (by rw [hml]; rfl) (argsL := [(.int (0 : Int32))]) (rest := [(.int (0 : Int32))]) (lenOf own_pd2 rfl) rfl (by show 2 * 0 + _ ≤ _; exact Nat.le_of_eq rfl) (hb hby at_18) (fun _ _ => ⟨rfl, e2, (by decide : 0 + 0 ≤ _), (by decide : 0 + 0 ≤ _)⟩)
    dsimp only [Pt.U, Pt.locs, Pt.cells, Pt.slots] at X3 l3 y3 z3 st3 hQ3
    subst l3 y3 z3
    obtain ⟨rfl, N3q, e3⟩ := hQ3
    have N3 := Fr.app N2 N3q
    refine own_go (A := T3.setTop (mkF m 21 #[.val (.int p1), .val (.int (0 : Int32)), .val (.ref a_GRANTED)] [(.int (0 : Int32)), (.int (0 : Int32))])) (fun _ kz => st3 _ kz) ?_
    refine own_go (A := T3.setTop (mkF m 29 #[.val (.int p1), .val (.int (0 : Int32)), .val (.ref a_GRANTED)] [(.int (1 : Int32))])) (fun _ kz => ?_) ?_
    · show Steps p.tables e below (T3.setTop (mkF m 21 #[.val (.int p1), .val (.int (0 : Int32)), .val (.ref a_GRANTED)] [(.int (0 : Int32)), (.int (0 : Int32))])) _
      refine XS.icmpNo X3.here hx rfl (hb hby at_21) rfl (teq (by decide : ((0 : Int32) = (0 : Int32)))).2 ?_
      show Steps p.tables e below (T3.setTop (mkF m 24 #[.val (.int p1), .val (.int (0 : Int32)), .val (.ref a_GRANTED)] [])) _
      refine XS.iconst X3.here hx rfl (hb hby at_24) ?_
      show Steps p.tables e below (T3.setTop (mkF m 25 #[.val (.int p1), .val (.int (0 : Int32)), .val (.ref a_GRANTED)] [(.int (1 : Int32))])) _
      refine XS.goto X3.here hx rfl (pc0 := 25) (pc' := 29) rfl (hb hby at_25) (by decide) (by decide) ?_
      exact kz
    obtain ⟨fs, hrr, hrun, hended, hW, hsame⟩ := X3.leave (v := some (.int (1 : Int32))) (fun h => by rw [Bd.returns] at h; cases h)
    refine ⟨_, _, ?_, hrun, hended, _, _, rfl, ?_, ⟨_, rfl⟩, hW, hsame.mono (by decide) (by decide)⟩
    · show Steps p.tables e below (T3.setTop (mkF m 29 #[.val (.int p1), .val (.int (0 : Int32)), .val (.ref a_GRANTED)] [(.int (1 : Int32))])) _
      exact retN X3 hx (t := .boolean) Bd.returns (by simp) (hb hby at_29) hrr
    · show Qrm0 Z p1 a_GRANTED a_DENIED a_FINISHED a_WAITING a_REJECTED a_CANCELLED a_LAPSED h0 n0 _ T3.heap _
      rw [e3]
      exact ⟨rfl, N3⟩
  · skip
    refine own_go (A := s₁.setTop (mkF m 9 #[.val (.int p1), .val (.int (1 : Int32)), .unset] [(.int (1 : Int32))])) (fun _ kz => ?_) ?_
    · show Steps p.tables e below (s₁.setTop (mkF m 8 #[.val (.int p1), .val (.int (1 : Int32)), .unset] [])) _
      refine XS.iloadN X0.here hx rfl (hb hby at_8) rfl ?_
      exact kz
    obtain ⟨_, _, ⟨T4, L4, k4, n4⟩, -, X4, ⟨Lc4, hQ4, l4, y4, z4⟩, st4⟩ := Jvm.LawKit.callS X0 hx (y := (⟨"com/example/quartermaster/quartermaster/RequestStateHasEndedPinLaw", "pick", "(I)Lcom/example/quartermaster/quartermaster/RequestState;"⟩ : MethodName)) hown (mvT hZ (hw _ (List.mem_of_getElem? (i := 1) rfl))) (mvT hZ (hw _ (List.mem_of_getElem? (i := 2) rfl))) (mvT hZ (hw _ (List.mem_of_getElem? (i := 3) rfl))) (mvT hZ (hw _ (List.mem_of_getElem? (i := 4) rfl))) (by decide) (backOf (W := 0) (rmP l Z a0 hw [] (1 : Int32) a_GRANTED a_DENIED a_FINISHED a_WAITING a_REJECTED a_CANCELLED a_LAPSED a_DENIED h0 n0 Z0 S_GRANTED S_DENIED S_FINISHED S_WAITING S_REJECTED S_CANCELLED S_LAPSED (by simp)) hZ (hw _ (List.mem_of_getElem? (i := 4) rfl)) (hw _ (List.mem_of_getElem? (i := 3) rfl)) (by decide) (by decide)) (g := (mkF m 9 #[.val (.int p1), .val (.int (1 : Int32)), .unset] [(.int (1 : Int32))])) rfl (by rw [hml]; rfl) (argsL := [(.int (1 : Int32))]) (rest := []) (lenOf own_pd0 rfl) rfl (by show 2 * 0 + _ ≤ _; exact Nat.le_of_eq rfl) (hb hby at_9) (fun _ _ => ⟨rfl, e0, (by decide : 0 + 0 ≤ _), (by decide : 0 + 0 ≤ _)⟩)
    dsimp only [Pt.U, Pt.locs, Pt.cells, Pt.slots] at X4 l4 y4 z4 st4 hQ4
    subst l4 y4 z4
    obtain ⟨rfl, N4q, e4⟩ := hQ4
    have N4 := Fr.app N0 N4q
    refine own_go (A := T4.setTop (mkF m 12 #[.val (.int p1), .val (.int (1 : Int32)), .unset] [(.ref a_DENIED)])) (fun _ kz => st4 _ kz) ?_
    refine own_go (A := T4.setTop (mkF m 14 #[.val (.int p1), .val (.int (1 : Int32)), .val (.ref a_DENIED)] [(.ref a_DENIED)])) (fun _ kz => ?_) ?_
    · show Steps p.tables e below (T4.setTop (mkF m 12 #[.val (.int p1), .val (.int (1 : Int32)), .unset] [(.ref a_DENIED)])) _
      refine XS.astoreN X4.here hx rfl (hb hby at_12) rfl rfl (l' := #[.val (.int p1), .val (.int (1 : Int32)), .val (.ref a_DENIED)]) rfl ?_
      show Steps p.tables e below (T4.setTop (mkF m 13 #[.val (.int p1), .val (.int (1 : Int32)), .val (.ref a_DENIED)] [])) _
      refine XS.aloadN X4.here hx rfl (hb hby at_13) rfl rfl ?_
      exact kz
    obtain ⟨cq5, kq5, q5a, q5b, q5c⟩ := isOf hZ e4 Ex_DENIED
    obtain ⟨_, _, ⟨T5, L5, k5, n5⟩, -, X5, ⟨Lc5, hQ5, l5, y5, z5⟩, st5⟩ := X4.virtualBack hx (y := (⟨"com/example/quartermaster/quartermaster/RequestState", "hasEnded", "()Z"⟩ : MethodName)) (z := (⟨"com/example/quartermaster/quartermaster/RequestState", "hasEnded", "()Z"⟩ : MethodName)) hown (mvT hZ (hw _ (List.mem_of_getElem? (i := 8) rfl))) (mvT hZ (hw _ (List.mem_of_getElem? (i := 9) rfl))) (notFace_of_selects (args := #[]) (mvT hZ (hw _ (List.mem_of_getElem? (i := 11) rfl)))) (mvT hZ (hw _ (List.mem_of_getElem? (i := 11) rfl))) (mvT hZ (hw _ (List.mem_of_getElem? (i := 10) rfl))) (by decide) (backOf (W := 0) (rmH l Z a0 hw [] a_DENIED a_GRANTED a_WAITING (1 : Int32) h0 n0 Z0 S_GRANTED S_WAITING ((if_neg (Fo_DENIED.ne Fo_GRANTED (by simp))).trans (if_neg (Fo_DENIED.ne Fo_WAITING (by simp))))) hZ (hw _ (List.mem_of_getElem? (i := 12) rfl)) (hw _ (List.mem_of_getElem? (i := 6) rfl)) (by decide) (by decide)) q5a q5c (g := (mkF m 14 #[.val (.int p1), .val (.int (1 : Int32)), .val (.ref a_DENIED)] [(.ref a_DENIED)])) rfl (by rw [hml]; rfl) (Steps.refl _) (argsL := []) (rest := []) (lenOf own_pd1 rfl) rfl (by show 2 * 0 + _ ≤ _; exact Nat.le_of_eq rfl) (hb hby at_14) (fun _ _ => ⟨rfl, e4, (by decide : 0 + 0 ≤ _), (by decide : 0 + 0 ≤ _)⟩)
    dsimp only [Pt.U, Pt.locs, Pt.cells, Pt.slots] at X5 l5 y5 z5 st5 hQ5
    subst l5 y5 z5
    obtain ⟨rfl, N5q, e5⟩ := hQ5
    have N5 := Fr.app N4 N5q
    refine own_go (A := T5.setTop (mkF m 17 #[.val (.int p1), .val (.int (1 : Int32)), .val (.ref a_DENIED)] [(.int (1 : Int32))])) (fun _ kz => st5.trans kz) ?_
    refine own_go (A := T5.setTop (mkF m 18 #[.val (.int p1), .val (.int (1 : Int32)), .val (.ref a_DENIED)] [(.int (1 : Int32)), (.int (1 : Int32))])) (fun _ kz => ?_) ?_
    · show Steps p.tables e below (T5.setTop (mkF m 17 #[.val (.int p1), .val (.int (1 : Int32)), .val (.ref a_DENIED)] [(.int (1 : Int32))])) _
      refine XS.iloadN X5.here hx rfl (hb hby at_17) rfl ?_
      exact kz
    obtain ⟨_, _, ⟨T6, L6, k6, n6⟩, -, X6, ⟨Lc6, hQ6, l6, y6, z6⟩, st6⟩ := Jvm.LawKit.callS X5 hx (y := (⟨"com/example/quartermaster/quartermaster/RequestStateHasEndedPinLaw", "expectedEnded", "(I)Z"⟩ : MethodName)) hown (mvT hZ (hw _ (List.mem_of_getElem? (i := 14) rfl))) (mvT hZ (hw _ (List.mem_of_getElem? (i := 15) rfl))) (mvT hZ (hw _ (List.mem_of_getElem? (i := 3) rfl))) (mvT hZ (hw _ (List.mem_of_getElem? (i := 16) rfl))) (by decide) (backOf (W := 1) (rmE l Z a0 hw [] (1 : Int32) (1 : Int32) h0 n0 Z0 (by simp)) hZ (hw _ (List.mem_of_getElem? (i := 16) rfl)) (hw _ (List.mem_of_getElem? (i := 3) rfl)) (by decide) (by decide)) (g := (mkF m 18 #[.val (.int p1), .val (.int (1 : Int32)), .val (.ref a_DENIED)] [(.int (1 : Int32)), (.int (1 : Int32))])) rfl (by rw [hml]; rfl) (argsL := [(.int (1 : Int32))]) (rest := [(.int (1 : Int32))]) (lenOf own_pd2 rfl) rfl (by show 2 * 0 + _ ≤ _; exact Nat.le_of_eq rfl) (hb hby at_18) (fun _ _ => ⟨rfl, e5, (by decide : 0 + 0 ≤ _), (by decide : 0 + 0 ≤ _)⟩)
    dsimp only [Pt.U, Pt.locs, Pt.cells, Pt.slots] at X6 l6 y6 z6 st6 hQ6
    subst l6 y6 z6
    obtain ⟨rfl, N6q, e6⟩ := hQ6
    have N6 := Fr.app N5 N6q
    refine own_go (A := T6.setTop (mkF m 21 #[.val (.int p1), .val (.int (1 : Int32)), .val (.ref a_DENIED)] [(.int (1 : Int32)), (.int (1 : Int32))])) (fun _ kz => st6 _ kz) ?_
    refine own_go (A := T6.setTop (mkF m 29 #[.val (.int p1), .val (.int (1 : Int32)), .val (.ref a_DENIED)] [(.int (1 : Int32))])) (fun _ kz => ?_) ?_
    · show Steps p.tables e below (T6.setTop (mkF m 21 #[.val (.int p1), .val (.int (1 : Int32)), .val (.ref a_DENIED)] [(.int (1 : Int32)), (.int (1 : Int32))])) _
      refine XS.icmpNo X6.here hx rfl (hb hby at_21) rfl (teq (by decide : ((1 : Int32) = (1 : Int32)))).2 ?_
      show Steps p.tables e below (T6.setTop (mkF m 24 #[.val (.int p1), .val (.int (1 : Int32)), .val (.ref a_DENIED)] [])) _
      refine XS.iconst X6.here hx rfl (hb hby at_24) ?_
      show Steps p.tables e below (T6.setTop (mkF m 25 #[.val (.int p1), .val (.int (1 : Int32)), .val (.ref a_DENIED)] [(.int (1 : Int32))])) _
      refine XS.goto X6.here hx rfl (pc0 := 25) (pc' := 29) rfl (hb hby at_25) (by decide) (by decide) ?_
      exact kz
    obtain ⟨fs, hrr, hrun, hended, hW, hsame⟩ := X6.leave (v := some (.int (1 : Int32))) (fun h => by rw [Bd.returns] at h; cases h)
    refine ⟨_, _, ?_, hrun, hended, _, _, rfl, ?_, ⟨_, rfl⟩, hW, hsame.mono (by decide) (by decide)⟩
    · show Steps p.tables e below (T6.setTop (mkF m 29 #[.val (.int p1), .val (.int (1 : Int32)), .val (.ref a_DENIED)] [(.int (1 : Int32))])) _
      exact retN X6 hx (t := .boolean) Bd.returns (by simp) (hb hby at_29) hrr
    · show Qrm0 Z p1 a_GRANTED a_DENIED a_FINISHED a_WAITING a_REJECTED a_CANCELLED a_LAPSED h0 n0 _ T6.heap _
      rw [e6]
      exact ⟨rfl, N6⟩
  · skip
    refine own_go (A := s₁.setTop (mkF m 9 #[.val (.int p1), .val (.int (2 : Int32)), .unset] [(.int (2 : Int32))])) (fun _ kz => ?_) ?_
    · show Steps p.tables e below (s₁.setTop (mkF m 8 #[.val (.int p1), .val (.int (2 : Int32)), .unset] [])) _
      refine XS.iloadN X0.here hx rfl (hb hby at_8) rfl ?_
      exact kz
    obtain ⟨_, _, ⟨T7, L7, k7, n7⟩, -, X7, ⟨Lc7, hQ7, l7, y7, z7⟩, st7⟩ := Jvm.LawKit.callS X0 hx (y := (⟨"com/example/quartermaster/quartermaster/RequestStateHasEndedPinLaw", "pick", "(I)Lcom/example/quartermaster/quartermaster/RequestState;"⟩ : MethodName)) hown (mvT hZ (hw _ (List.mem_of_getElem? (i := 1) rfl))) (mvT hZ (hw _ (List.mem_of_getElem? (i := 2) rfl))) (mvT hZ (hw _ (List.mem_of_getElem? (i := 3) rfl))) (mvT hZ (hw _ (List.mem_of_getElem? (i := 4) rfl))) (by decide) (backOf (W := 0) (rmP l Z a0 hw [] (2 : Int32) a_GRANTED a_DENIED a_FINISHED a_WAITING a_REJECTED a_CANCELLED a_LAPSED a_FINISHED h0 n0 Z0 S_GRANTED S_DENIED S_FINISHED S_WAITING S_REJECTED S_CANCELLED S_LAPSED (by simp)) hZ (hw _ (List.mem_of_getElem? (i := 4) rfl)) (hw _ (List.mem_of_getElem? (i := 3) rfl)) (by decide) (by decide)) (g := (mkF m 9 #[.val (.int p1), .val (.int (2 : Int32)), .unset] [(.int (2 : Int32))])) rfl (by rw [hml]; rfl) (argsL := [(.int (2 : Int32))]) (rest := []) (lenOf own_pd0 rfl) rfl (by show 2 * 0 + _ ≤ _; exact Nat.le_of_eq rfl) (hb hby at_9) (fun _ _ => ⟨rfl, e0, (by decide : 0 + 0 ≤ _), (by decide : 0 + 0 ≤ _)⟩)
    dsimp only [Pt.U, Pt.locs, Pt.cells, Pt.slots] at X7 l7 y7 z7 st7 hQ7
    subst l7 y7 z7
    obtain ⟨rfl, N7q, e7⟩ := hQ7
    have N7 := Fr.app N0 N7q
    refine own_go (A := T7.setTop (mkF m 12 #[.val (.int p1), .val (.int (2 : Int32)), .unset] [(.ref a_FINISHED)])) (fun _ kz => st7 _ kz) ?_
    refine own_go (A := T7.setTop (mkF m 14 #[.val (.int p1), .val (.int (2 : Int32)), .val (.ref a_FINISHED)] [(.ref a_FINISHED)])) (fun _ kz => ?_) ?_
    · show Steps p.tables e below (T7.setTop (mkF m 12 #[.val (.int p1), .val (.int (2 : Int32)), .unset] [(.ref a_FINISHED)])) _
      refine XS.astoreN X7.here hx rfl (hb hby at_12) rfl rfl (l' := #[.val (.int p1), .val (.int (2 : Int32)), .val (.ref a_FINISHED)]) rfl ?_
      show Steps p.tables e below (T7.setTop (mkF m 13 #[.val (.int p1), .val (.int (2 : Int32)), .val (.ref a_FINISHED)] [])) _
      refine XS.aloadN X7.here hx rfl (hb hby at_13) rfl rfl ?_
      exact kz
    obtain ⟨cq8, kq8, q8a, q8b, q8c⟩ := isOf hZ e7 Ex_FINISHED
    obtain ⟨_, _, ⟨T8, L8, k8, n8⟩, -, X8, ⟨Lc8, hQ8, l8, y8, z8⟩, st8⟩ := X7.virtualBack hx (y := (⟨"com/example/quartermaster/quartermaster/RequestState", "hasEnded", "()Z"⟩ : MethodName)) (z := (⟨"com/example/quartermaster/quartermaster/RequestState", "hasEnded", "()Z"⟩ : MethodName)) hown (mvT hZ (hw _ (List.mem_of_getElem? (i := 8) rfl))) (mvT hZ (hw _ (List.mem_of_getElem? (i := 9) rfl))) (notFace_of_selects (args := #[]) (mvT hZ (hw _ (List.mem_of_getElem? (i := 11) rfl)))) (mvT hZ (hw _ (List.mem_of_getElem? (i := 11) rfl))) (mvT hZ (hw _ (List.mem_of_getElem? (i := 10) rfl))) (by decide) (backOf (W := 0) (rmH l Z a0 hw [] a_FINISHED a_GRANTED a_WAITING (1 : Int32) h0 n0 Z0 S_GRANTED S_WAITING ((if_neg (Fo_FINISHED.ne Fo_GRANTED (by simp))).trans (if_neg (Fo_FINISHED.ne Fo_WAITING (by simp))))) hZ (hw _ (List.mem_of_getElem? (i := 12) rfl)) (hw _ (List.mem_of_getElem? (i := 6) rfl)) (by decide) (by decide)) q8a q8c (g := (mkF m 14 #[.val (.int p1), .val (.int (2 : Int32)), .val (.ref a_FINISHED)] [(.ref a_FINISHED)])) rfl (by rw [hml]; rfl) (Steps.refl _) (argsL := []) (rest := []) (lenOf own_pd1 rfl) rfl (by show 2 * 0 + _ ≤ _; exact Nat.le_of_eq rfl) (hb hby at_14) (fun _ _ => ⟨rfl, e7, (by decide : 0 + 0 ≤ _), (by decide : 0 + 0 ≤ _)⟩)
    dsimp only [Pt.U, Pt.locs, Pt.cells, Pt.slots] at X8 l8 y8 z8 st8 hQ8
    subst l8 y8 z8
    obtain ⟨rfl, N8q, e8⟩ := hQ8
    have N8 := Fr.app N7 N8q
    refine own_go (A := T8.setTop (mkF m 17 #[.val (.int p1), .val (.int (2 : Int32)), .val (.ref a_FINISHED)] [(.int (1 : Int32))])) (fun _ kz => st8.trans kz) ?_
    refine own_go (A := T8.setTop (mkF m 18 #[.val (.int p1), .val (.int (2 : Int32)), .val (.ref a_FINISHED)] [(.int (2 : Int32)), (.int (1 : Int32))])) (fun _ kz => ?_) ?_
    · show Steps p.tables e below (T8.setTop (mkF m 17 #[.val (.int p1), .val (.int (2 : Int32)), .val (.ref a_FINISHED)] [(.int (1 : Int32))])) _
      refine XS.iloadN X8.here hx rfl (hb hby at_17) rfl ?_
      exact kz
    obtain ⟨_, _, ⟨T9, L9, k9, n9⟩, -, X9, ⟨Lc9, hQ9, l9, y9, z9⟩, st9⟩ := Jvm.LawKit.callS X8 hx (y := (⟨"com/example/quartermaster/quartermaster/RequestStateHasEndedPinLaw", "expectedEnded", "(I)Z"⟩ : MethodName)) hown (mvT hZ (hw _ (List.mem_of_getElem? (i := 14) rfl))) (mvT hZ (hw _ (List.mem_of_getElem? (i := 15) rfl))) (mvT hZ (hw _ (List.mem_of_getElem? (i := 3) rfl))) (mvT hZ (hw _ (List.mem_of_getElem? (i := 16) rfl))) (by decide) (backOf (W := 1) (rmE l Z a0 hw [] (2 : Int32) (1 : Int32) h0 n0 Z0 (by simp)) hZ (hw _ (List.mem_of_getElem? (i := 16) rfl)) (hw _ (List.mem_of_getElem? (i := 3) rfl)) (by decide) (by decide)) (g := (mkF m 18 #[.val (.int p1), .val (.int (2 : Int32)), .val (.ref a_FINISHED)] [(.int (2 : Int32)), (.int (1 : Int32))])) rfl (by rw [hml]; rfl) (argsL := [(.int (2 : Int32))]) (rest := [(.int (1 : Int32))]) (lenOf own_pd2 rfl) rfl (by show 2 * 0 + _ ≤ _; exact Nat.le_of_eq rfl) (hb hby at_18) (fun _ _ => ⟨rfl, e8, (by decide : 0 + 0 ≤ _), (by decide : 0 + 0 ≤ _)⟩)
    dsimp only [Pt.U, Pt.locs, Pt.cells, Pt.slots] at X9 l9 y9 z9 st9 hQ9
    subst l9 y9 z9
    obtain ⟨rfl, N9q, e9⟩ := hQ9
    have N9 := Fr.app N8 N9q
    refine own_go (A := T9.setTop (mkF m 21 #[.val (.int p1), .val (.int (2 : Int32)), .val (.ref a_FINISHED)] [(.int (1 : Int32)), (.int (1 : Int32))])) (fun _ kz => st9 _ kz) ?_
    refine own_go (A := T9.setTop (mkF m 29 #[.val (.int p1), .val (.int (2 : Int32)), .val (.ref a_FINISHED)] [(.int (1 : Int32))])) (fun _ kz => ?_) ?_
    · show Steps p.tables e below (T9.setTop (mkF m 21 #[.val (.int p1), .val (.int (2 : Int32)), .val (.ref a_FINISHED)] [(.int (1 : Int32)), (.int (1 : Int32))])) _
      refine XS.icmpNo X9.here hx rfl (hb hby at_21) rfl (teq (by decide : ((1 : Int32) = (1 : Int32)))).2 ?_
      show Steps p.tables e below (T9.setTop (mkF m 24 #[.val (.int p1), .val (.int (2 : Int32)), .val (.ref a_FINISHED)] [])) _
      refine XS.iconst X9.here hx rfl (hb hby at_24) ?_
      show Steps p.tables e below (T9.setTop (mkF m 25 #[.val (.int p1), .val (.int (2 : Int32)), .val (.ref a_FINISHED)] [(.int (1 : Int32))])) _
      refine XS.goto X9.here hx rfl (pc0 := 25) (pc' := 29) rfl (hb hby at_25) (by decide) (by decide) ?_
      exact kz
    obtain ⟨fs, hrr, hrun, hended, hW, hsame⟩ := X9.leave (v := some (.int (1 : Int32))) (fun h => by rw [Bd.returns] at h; cases h)
    refine ⟨_, _, ?_, hrun, hended, _, _, rfl, ?_, ⟨_, rfl⟩, hW, hsame.mono (by decide) (by decide)⟩
    · show Steps p.tables e below (T9.setTop (mkF m 29 #[.val (.int p1), .val (.int (2 : Int32)), .val (.ref a_FINISHED)] [(.int (1 : Int32))])) _
      exact retN X9 hx (t := .boolean) Bd.returns (by simp) (hb hby at_29) hrr
    · show Qrm0 Z p1 a_GRANTED a_DENIED a_FINISHED a_WAITING a_REJECTED a_CANCELLED a_LAPSED h0 n0 _ T9.heap _
      rw [e9]
      exact ⟨rfl, N9⟩
  · skip
    refine own_go (A := s₁.setTop (mkF m 9 #[.val (.int p1), .val (.int (3 : Int32)), .unset] [(.int (3 : Int32))])) (fun _ kz => ?_) ?_
    · show Steps p.tables e below (s₁.setTop (mkF m 8 #[.val (.int p1), .val (.int (3 : Int32)), .unset] [])) _
      refine XS.iloadN X0.here hx rfl (hb hby at_8) rfl ?_
      exact kz
    obtain ⟨_, _, ⟨T10, L10, k10, n10⟩, -, X10, ⟨Lc10, hQ10, l10, y10, z10⟩, st10⟩ := Jvm.LawKit.callS X0 hx (y := (⟨"com/example/quartermaster/quartermaster/RequestStateHasEndedPinLaw", "pick", "(I)Lcom/example/quartermaster/quartermaster/RequestState;"⟩ : MethodName)) hown (mvT hZ (hw _ (List.mem_of_getElem? (i := 1) rfl))) (mvT hZ (hw _ (List.mem_of_getElem? (i := 2) rfl))) (mvT hZ (hw _ (List.mem_of_getElem? (i := 3) rfl))) (mvT hZ (hw _ (List.mem_of_getElem? (i := 4) rfl))) (by decide) (backOf (W := 0) (rmP l Z a0 hw [] (3 : Int32) a_GRANTED a_DENIED a_FINISHED a_WAITING a_REJECTED a_CANCELLED a_LAPSED a_WAITING h0 n0 Z0 S_GRANTED S_DENIED S_FINISHED S_WAITING S_REJECTED S_CANCELLED S_LAPSED (by simp)) hZ (hw _ (List.mem_of_getElem? (i := 4) rfl)) (hw _ (List.mem_of_getElem? (i := 3) rfl)) (by decide) (by decide)) (g := (mkF m 9 #[.val (.int p1), .val (.int (3 : Int32)), .unset] [(.int (3 : Int32))])) rfl (by rw [hml]; rfl) (argsL := [(.int (3 : Int32))]) (rest := []) (lenOf own_pd0 rfl) rfl (by show 2 * 0 + _ ≤ _; exact Nat.le_of_eq rfl) (hb hby at_9) (fun _ _ => ⟨rfl, e0, (by decide : 0 + 0 ≤ _), (by decide : 0 + 0 ≤ _)⟩)
    dsimp only [Pt.U, Pt.locs, Pt.cells, Pt.slots] at X10 l10 y10 z10 st10 hQ10
    subst l10 y10 z10
    obtain ⟨rfl, N10q, e10⟩ := hQ10
    have N10 := Fr.app N0 N10q
    refine own_go (A := T10.setTop (mkF m 12 #[.val (.int p1), .val (.int (3 : Int32)), .unset] [(.ref a_WAITING)])) (fun _ kz => st10 _ kz) ?_
    refine own_go (A := T10.setTop (mkF m 14 #[.val (.int p1), .val (.int (3 : Int32)), .val (.ref a_WAITING)] [(.ref a_WAITING)])) (fun _ kz => ?_) ?_
    · show Steps p.tables e below (T10.setTop (mkF m 12 #[.val (.int p1), .val (.int (3 : Int32)), .unset] [(.ref a_WAITING)])) _
      refine XS.astoreN X10.here hx rfl (hb hby at_12) rfl rfl (l' := #[.val (.int p1), .val (.int (3 : Int32)), .val (.ref a_WAITING)]) rfl ?_
      show Steps p.tables e below (T10.setTop (mkF m 13 #[.val (.int p1), .val (.int (3 : Int32)), .val (.ref a_WAITING)] [])) _
      refine XS.aloadN X10.here hx rfl (hb hby at_13) rfl rfl ?_
      exact kz
    obtain ⟨cq11, kq11, q11a, q11b, q11c⟩ := isOf hZ e10 Ex_WAITING
    obtain ⟨_, _, ⟨T11, L11, k11, n11⟩, -, X11, ⟨Lc11, hQ11, l11, y11, z11⟩, st11⟩ := X10.virtualBack hx (y := (⟨"com/example/quartermaster/quartermaster/RequestState", "hasEnded", "()Z"⟩ : MethodName)) (z := (⟨"com/example/quartermaster/quartermaster/RequestState", "hasEnded", "()Z"⟩ : MethodName)) hown (mvT hZ (hw _ (List.mem_of_getElem? (i := 8) rfl))) (mvT hZ (hw _ (List.mem_of_getElem? (i := 9) rfl))) (notFace_of_selects (args := #[]) (mvT hZ (hw _ (List.mem_of_getElem? (i := 11) rfl)))) (mvT hZ (hw _ (List.mem_of_getElem? (i := 11) rfl))) (mvT hZ (hw _ (List.mem_of_getElem? (i := 10) rfl))) (by decide) (backOf (W := 0) (rmH l Z a0 hw [] a_WAITING a_GRANTED a_WAITING (0 : Int32) h0 n0 Z0 S_GRANTED S_WAITING ((if_neg (Fo_WAITING.ne Fo_GRANTED (by simp))).trans (if_pos rfl))) hZ (hw _ (List.mem_of_getElem? (i := 12) rfl)) (hw _ (List.mem_of_getElem? (i := 6) rfl)) (by decide) (by decide)) q11a q11c (g := (mkF m 14 #[.val (.int p1), .val (.int (3 : Int32)), .val (.ref a_WAITING)] [(.ref a_WAITING)])) rfl (by rw [hml]; rfl) (Steps.refl _) (argsL := []) (rest := []) (lenOf own_pd1 rfl) rfl (by show 2 * 0 + _ ≤ _; exact Nat.le_of_eq rfl) (hb hby at_14) (fun _ _ => ⟨rfl, e10, (by decide : 0 + 0 ≤ _), (by decide : 0 + 0 ≤ _)⟩)
    dsimp only [Pt.U, Pt.locs, Pt.cells, Pt.slots] at X11 l11 y11 z11 st11 hQ11
    subst l11 y11 z11
    obtain ⟨rfl, N11q, e11⟩ := hQ11
    have N11 := Fr.app N10 N11q
    refine own_go (A := T11.setTop (mkF m 17 #[.val (.int p1), .val (.int (3 : Int32)), .val (.ref a_WAITING)] [(.int (0 : Int32))])) (fun _ kz => st11.trans kz) ?_
    refine own_go (A := T11.setTop (mkF m 18 #[.val (.int p1), .val (.int (3 : Int32)), .val (.ref a_WAITING)] [(.int (3 : Int32)), (.int (0 : Int32))])) (fun _ kz => ?_) ?_
    · show Steps p.tables e below (T11.setTop (mkF m 17 #[.val (.int p1), .val (.int (3 : Int32)), .val (.ref a_WAITING)] [(.int (0 : Int32))])) _
      refine XS.iloadN X11.here hx rfl (hb hby at_17) rfl ?_
      exact kz
    obtain ⟨_, _, ⟨T12, L12, k12, n12⟩, -, X12, ⟨Lc12, hQ12, l12, y12, z12⟩, st12⟩ := Jvm.LawKit.callS X11 hx (y := (⟨"com/example/quartermaster/quartermaster/RequestStateHasEndedPinLaw", "expectedEnded", "(I)Z"⟩ : MethodName)) hown (mvT hZ (hw _ (List.mem_of_getElem? (i := 14) rfl))) (mvT hZ (hw _ (List.mem_of_getElem? (i := 15) rfl))) (mvT hZ (hw _ (List.mem_of_getElem? (i := 3) rfl))) (mvT hZ (hw _ (List.mem_of_getElem? (i := 16) rfl))) (by decide) (backOf (W := 1) (rmE l Z a0 hw [] (3 : Int32) (0 : Int32) h0 n0 Z0 (by simp)) hZ (hw _ (List.mem_of_getElem? (i := 16) rfl)) (hw _ (List.mem_of_getElem? (i := 3) rfl)) (by decide) (by decide)) (g := (mkF m 18 #[.val (.int p1), .val (.int (3 : Int32)), .val (.ref a_WAITING)] [(.int (3 : Int32)), (.int (0 : Int32))])) rfl (by rw [hml]; rfl) (argsL := [(.int (3 : Int32))]) (rest := [(.int (0 : Int32))]) (lenOf own_pd2 rfl) rfl (by show 2 * 0 + _ ≤ _; exact Nat.le_of_eq rfl) (hb hby at_18) (fun _ _ => ⟨rfl, e11, (by decide : 0 + 0 ≤ _), (by decide : 0 + 0 ≤ _)⟩)
    dsimp only [Pt.U, Pt.locs, Pt.cells, Pt.slots] at X12 l12 y12 z12 st12 hQ12
    subst l12 y12 z12
    obtain ⟨rfl, N12q, e12⟩ := hQ12
    have N12 := Fr.app N11 N12q
    refine own_go (A := T12.setTop (mkF m 21 #[.val (.int p1), .val (.int (3 : Int32)), .val (.ref a_WAITING)] [(.int (0 : Int32)), (.int (0 : Int32))])) (fun _ kz => st12 _ kz) ?_
    refine own_go (A := T12.setTop (mkF m 29 #[.val (.int p1), .val (.int (3 : Int32)), .val (.ref a_WAITING)] [(.int (1 : Int32))])) (fun _ kz => ?_) ?_
    · show Steps p.tables e below (T12.setTop (mkF m 21 #[.val (.int p1), .val (.int (3 : Int32)), .val (.ref a_WAITING)] [(.int (0 : Int32)), (.int (0 : Int32))])) _
      refine XS.icmpNo X12.here hx rfl (hb hby at_21) rfl (teq (by decide : ((0 : Int32) = (0 : Int32)))).2 ?_
      show Steps p.tables e below (T12.setTop (mkF m 24 #[.val (.int p1), .val (.int (3 : Int32)), .val (.ref a_WAITING)] [])) _
      refine XS.iconst X12.here hx rfl (hb hby at_24) ?_
      show Steps p.tables e below (T12.setTop (mkF m 25 #[.val (.int p1), .val (.int (3 : Int32)), .val (.ref a_WAITING)] [(.int (1 : Int32))])) _
      refine XS.goto X12.here hx rfl (pc0 := 25) (pc' := 29) rfl (hb hby at_25) (by decide) (by decide) ?_
      exact kz
    obtain ⟨fs, hrr, hrun, hended, hW, hsame⟩ := X12.leave (v := some (.int (1 : Int32))) (fun h => by rw [Bd.returns] at h; cases h)
    refine ⟨_, _, ?_, hrun, hended, _, _, rfl, ?_, ⟨_, rfl⟩, hW, hsame.mono (by decide) (by decide)⟩
    · show Steps p.tables e below (T12.setTop (mkF m 29 #[.val (.int p1), .val (.int (3 : Int32)), .val (.ref a_WAITING)] [(.int (1 : Int32))])) _
      exact retN X12 hx (t := .boolean) Bd.returns (by simp) (hb hby at_29) hrr
    · show Qrm0 Z p1 a_GRANTED a_DENIED a_FINISHED a_WAITING a_REJECTED a_CANCELLED a_LAPSED h0 n0 _ T12.heap _
      rw [e12]
      exact ⟨rfl, N12⟩
  · skip
    refine own_go (A := s₁.setTop (mkF m 9 #[.val (.int p1), .val (.int (4 : Int32)), .unset] [(.int (4 : Int32))])) (fun _ kz => ?_) ?_
    · show Steps p.tables e below (s₁.setTop (mkF m 8 #[.val (.int p1), .val (.int (4 : Int32)), .unset] [])) _
      refine XS.iloadN X0.here hx rfl (hb hby at_8) rfl ?_
      exact kz
    obtain ⟨_, _, ⟨T13, L13, k13, n13⟩, -, X13, ⟨Lc13, hQ13, l13, y13, z13⟩, st13⟩ := Jvm.LawKit.callS X0 hx (y := (⟨"com/example/quartermaster/quartermaster/RequestStateHasEndedPinLaw", "pick", "(I)Lcom/example/quartermaster/quartermaster/RequestState;"⟩ : MethodName)) hown (mvT hZ (hw _ (List.mem_of_getElem? (i := 1) rfl))) (mvT hZ (hw _ (List.mem_of_getElem? (i := 2) rfl))) (mvT hZ (hw _ (List.mem_of_getElem? (i := 3) rfl))) (mvT hZ (hw _ (List.mem_of_getElem? (i := 4) rfl))) (by decide) (backOf (W := 0) (rmP l Z a0 hw [] (4 : Int32) a_GRANTED a_DENIED a_FINISHED a_WAITING a_REJECTED a_CANCELLED a_LAPSED a_REJECTED h0 n0 Z0 S_GRANTED S_DENIED S_FINISHED S_WAITING S_REJECTED S_CANCELLED S_LAPSED (by simp)) hZ (hw _ (List.mem_of_getElem? (i := 4) rfl)) (hw _ (List.mem_of_getElem? (i := 3) rfl)) (by decide) (by decide)) (g := (mkF m 9 #[.val (.int p1), .val (.int (4 : Int32)), .unset] [(.int (4 : Int32))])) rfl (by rw [hml]; rfl) (argsL := [(.int (4 : Int32))]) (rest := []) (lenOf own_pd0 rfl) rfl (by show 2 * 0 + _ ≤ _; exact Nat.le_of_eq rfl) (hb hby at_9) (fun _ _ => ⟨rfl, e0, (by decide : 0 + 0 ≤ _), (by decide : 0 + 0 ≤ _)⟩)
    dsimp only [Pt.U, Pt.locs, Pt.cells, Pt.slots] at X13 l13 y13 z13 st13 hQ13
    subst l13 y13 z13
    obtain ⟨rfl, N13q, e13⟩ := hQ13
    have N13 := Fr.app N0 N13q
    refine own_go (A := T13.setTop (mkF m 12 #[.val (.int p1), .val (.int (4 : Int32)), .unset] [(.ref a_REJECTED)])) (fun _ kz => st13 _ kz) ?_
    refine own_go (A := T13.setTop (mkF m 14 #[.val (.int p1), .val (.int (4 : Int32)), .val (.ref a_REJECTED)] [(.ref a_REJECTED)])) (fun _ kz => ?_) ?_
    · show Steps p.tables e below (T13.setTop (mkF m 12 #[.val (.int p1), .val (.int (4 : Int32)), .unset] [(.ref a_REJECTED)])) _
      refine XS.astoreN X13.here hx rfl (hb hby at_12) rfl rfl (l' := #[.val (.int p1), .val (.int (4 : Int32)), .val (.ref a_REJECTED)]) rfl ?_
      show Steps p.tables e below (T13.setTop (mkF m 13 #[.val (.int p1), .val (.int (4 : Int32)), .val (.ref a_REJECTED)] [])) _
      refine XS.aloadN X13.here hx rfl (hb hby at_13) rfl rfl ?_
      exact kz
    obtain ⟨cq14, kq14, q14a, q14b, q14c⟩ := isOf hZ e13 Ex_REJECTED
    obtain ⟨_, _, ⟨T14, L14, k14, n14⟩, -, X14, ⟨Lc14, hQ14, l14, y14, z14⟩, st14⟩ := X13.virtualBack hx (y := (⟨"com/example/quartermaster/quartermaster/RequestState", "hasEnded", "()Z"⟩ : MethodName)) (z := (⟨"com/example/quartermaster/quartermaster/RequestState", "hasEnded", "()Z"⟩ : MethodName)) hown (mvT hZ (hw _ (List.mem_of_getElem? (i := 8) rfl))) (mvT hZ (hw _ (List.mem_of_getElem? (i := 9) rfl))) (notFace_of_selects (args := #[]) (mvT hZ (hw _ (List.mem_of_getElem? (i := 11) rfl)))) (mvT hZ (hw _ (List.mem_of_getElem? (i := 11) rfl))) (mvT hZ (hw _ (List.mem_of_getElem? (i := 10) rfl))) (by decide) (backOf (W := 0) (rmH l Z a0 hw [] a_REJECTED a_GRANTED a_WAITING (1 : Int32) h0 n0 Z0 S_GRANTED S_WAITING ((if_neg (Fo_REJECTED.ne Fo_GRANTED (by simp))).trans (if_neg (Fo_REJECTED.ne Fo_WAITING (by simp))))) hZ (hw _ (List.mem_of_getElem? (i := 12) rfl)) (hw _ (List.mem_of_getElem? (i := 6) rfl)) (by decide) (by decide)) q14a q14c (g := (mkF m 14 #[.val (.int p1), .val (.int (4 : Int32)), .val (.ref a_REJECTED)] [(.ref a_REJECTED)])) rfl (by rw [hml]; rfl) (Steps.refl _) (argsL := []) (rest := []) (lenOf own_pd1 rfl) rfl (by show 2 * 0 + _ ≤ _; exact Nat.le_of_eq rfl) (hb hby at_14) (fun _ _ => ⟨rfl, e13, (by decide : 0 + 0 ≤ _), (by decide : 0 + 0 ≤ _)⟩)
    dsimp only [Pt.U, Pt.locs, Pt.cells, Pt.slots] at X14 l14 y14 z14 st14 hQ14
    subst l14 y14 z14
    obtain ⟨rfl, N14q, e14⟩ := hQ14
    have N14 := Fr.app N13 N14q
    refine own_go (A := T14.setTop (mkF m 17 #[.val (.int p1), .val (.int (4 : Int32)), .val (.ref a_REJECTED)] [(.int (1 : Int32))])) (fun _ kz => st14.trans kz) ?_
    refine own_go (A := T14.setTop (mkF m 18 #[.val (.int p1), .val (.int (4 : Int32)), .val (.ref a_REJECTED)] [(.int (4 : Int32)), (.int (1 : Int32))])) (fun _ kz => ?_) ?_
    · show Steps p.tables e below (T14.setTop (mkF m 17 #[.val (.int p1), .val (.int (4 : Int32)), .val (.ref a_REJECTED)] [(.int (1 : Int32))])) _
      refine XS.iloadN X14.here hx rfl (hb hby at_17) rfl ?_
      exact kz
    obtain ⟨_, _, ⟨T15, L15, k15, n15⟩, -, X15, ⟨Lc15, hQ15, l15, y15, z15⟩, st15⟩ := Jvm.LawKit.callS X14 hx (y := (⟨"com/example/quartermaster/quartermaster/RequestStateHasEndedPinLaw", "expectedEnded", "(I)Z"⟩ : MethodName)) hown (mvT hZ (hw _ (List.mem_of_getElem? (i := 14) rfl))) (mvT hZ (hw _ (List.mem_of_getElem? (i := 15) rfl))) (mvT hZ (hw _ (List.mem_of_getElem? (i := 3) rfl))) (mvT hZ (hw _ (List.mem_of_getElem? (i := 16) rfl))) (by decide) (backOf (W := 1) (rmE l Z a0 hw [] (4 : Int32) (1 : Int32) h0 n0 Z0 (by simp)) hZ (hw _ (List.mem_of_getElem? (i := 16) rfl)) (hw _ (List.mem_of_getElem? (i := 3) rfl)) (by decide) (by decide)) (g := (mkF m 18 #[.val (.int p1), .val (.int (4 : Int32)), .val (.ref a_REJECTED)] [(.int (4 : Int32)), (.int (1 : Int32))])) rfl (by rw [hml]; rfl) (argsL := [(.int (4 : Int32))]) (rest := [(.int (1 : Int32))]) (lenOf own_pd2 rfl) rfl (by show 2 * 0 + _ ≤ _; exact Nat.le_of_eq rfl) (hb hby at_18) (fun _ _ => ⟨rfl, e14, (by decide : 0 + 0 ≤ _), (by decide : 0 + 0 ≤ _)⟩)
    dsimp only [Pt.U, Pt.locs, Pt.cells, Pt.slots] at X15 l15 y15 z15 st15 hQ15
    subst l15 y15 z15
    obtain ⟨rfl, N15q, e15⟩ := hQ15
    have N15 := Fr.app N14 N15q
    refine own_go (A := T15.setTop (mkF m 21 #[.val (.int p1), .val (.int (4 : Int32)), .val (.ref a_REJECTED)] [(.int (1 : Int32)), (.int (1 : Int32))])) (fun _ kz => st15 _ kz) ?_
    refine own_go (A := T15.setTop (mkF m 29 #[.val (.int p1), .val (.int (4 : Int32)), .val (.ref a_REJECTED)] [(.int (1 : Int32))])) (fun _ kz => ?_) ?_
    · show Steps p.tables e below (T15.setTop (mkF m 21 #[.val (.int p1), .val (.int (4 : Int32)), .val (.ref a_REJECTED)] [(.int (1 : Int32)), (.int (1 : Int32))])) _
      refine XS.icmpNo X15.here hx rfl (hb hby at_21) rfl (teq (by decide : ((1 : Int32) = (1 : Int32)))).2 ?_
      show Steps p.tables e below (T15.setTop (mkF m 24 #[.val (.int p1), .val (.int (4 : Int32)), .val (.ref a_REJECTED)] [])) _
      refine XS.iconst X15.here hx rfl (hb hby at_24) ?_
      show Steps p.tables e below (T15.setTop (mkF m 25 #[.val (.int p1), .val (.int (4 : Int32)), .val (.ref a_REJECTED)] [(.int (1 : Int32))])) _
      refine XS.goto X15.here hx rfl (pc0 := 25) (pc' := 29) rfl (hb hby at_25) (by decide) (by decide) ?_
      exact kz
    obtain ⟨fs, hrr, hrun, hended, hW, hsame⟩ := X15.leave (v := some (.int (1 : Int32))) (fun h => by rw [Bd.returns] at h; cases h)
    refine ⟨_, _, ?_, hrun, hended, _, _, rfl, ?_, ⟨_, rfl⟩, hW, hsame.mono (by decide) (by decide)⟩
    · show Steps p.tables e below (T15.setTop (mkF m 29 #[.val (.int p1), .val (.int (4 : Int32)), .val (.ref a_REJECTED)] [(.int (1 : Int32))])) _
      exact retN X15 hx (t := .boolean) Bd.returns (by simp) (hb hby at_29) hrr
    · show Qrm0 Z p1 a_GRANTED a_DENIED a_FINISHED a_WAITING a_REJECTED a_CANCELLED a_LAPSED h0 n0 _ T15.heap _
      rw [e15]
      exact ⟨rfl, N15⟩
  · skip
    refine own_go (A := s₁.setTop (mkF m 9 #[.val (.int p1), .val (.int (5 : Int32)), .unset] [(.int (5 : Int32))])) (fun _ kz => ?_) ?_
    · show Steps p.tables e below (s₁.setTop (mkF m 8 #[.val (.int p1), .val (.int (5 : Int32)), .unset] [])) _
      refine XS.iloadN X0.here hx rfl (hb hby at_8) rfl ?_
      exact kz
    obtain ⟨_, _, ⟨T16, L16, k16, n16⟩, -, X16, ⟨Lc16, hQ16, l16, y16, z16⟩, st16⟩ := Jvm.LawKit.callS X0 hx (y := (⟨"com/example/quartermaster/quartermaster/RequestStateHasEndedPinLaw", "pick", "(I)Lcom/example/quartermaster/quartermaster/RequestState;"⟩ : MethodName)) hown (mvT hZ (hw _ (List.mem_of_getElem? (i := 1) rfl))) (mvT hZ (hw _ (List.mem_of_getElem? (i := 2) rfl))) (mvT hZ (hw _ (List.mem_of_getElem? (i := 3) rfl))) (mvT hZ (hw _ (List.mem_of_getElem? (i := 4) rfl))) (by decide) (backOf (W := 0) (rmP l Z a0 hw [] (5 : Int32) a_GRANTED a_DENIED a_FINISHED a_WAITING a_REJECTED a_CANCELLED a_LAPSED a_CANCELLED h0 n0 Z0 S_GRANTED S_DENIED S_FINISHED S_WAITING S_REJECTED S_CANCELLED S_LAPSED (by simp)) hZ (hw _ (List.mem_of_getElem? (i := 4) rfl)) (hw _ (List.mem_of_getElem? (i := 3) rfl)) (by decide) (by decide)) (g := (mkF m 9 #[.val (.int p1), .val (.int (5 : Int32)), .unset] [(.int (5 : Int32))])) rfl (by rw [hml]; rfl) (argsL := [(.int (5 : Int32))]) (rest := []) (lenOf own_pd0 rfl) rfl (by show 2 * 0 + _ ≤ _; exact Nat.le_of_eq rfl) (hb hby at_9) (fun _ _ => ⟨rfl, e0, (by decide : 0 + 0 ≤ _), (by decide : 0 + 0 ≤ _)⟩)
    dsimp only [Pt.U, Pt.locs, Pt.cells, Pt.slots] at X16 l16 y16 z16 st16 hQ16
    subst l16 y16 z16
    obtain ⟨rfl, N16q, e16⟩ := hQ16
    have N16 := Fr.app N0 N16q
    refine own_go (A := T16.setTop (mkF m 12 #[.val (.int p1), .val (.int (5 : Int32)), .unset] [(.ref a_CANCELLED)])) (fun _ kz => st16 _ kz) ?_
    refine own_go (A := T16.setTop (mkF m 14 #[.val (.int p1), .val (.int (5 : Int32)), .val (.ref a_CANCELLED)] [(.ref a_CANCELLED)])) (fun _ kz => ?_) ?_
    · show Steps p.tables e below (T16.setTop (mkF m 12 #[.val (.int p1), .val (.int (5 : Int32)), .unset] [(.ref a_CANCELLED)])) _
      refine XS.astoreN X16.here hx rfl (hb hby at_12) rfl rfl (l' := #[.val (.int p1), .val (.int (5 : Int32)), .val (.ref a_CANCELLED)]) rfl ?_
      show Steps p.tables e below (T16.setTop (mkF m 13 #[.val (.int p1), .val (.int (5 : Int32)), .val (.ref a_CANCELLED)] [])) _
      refine XS.aloadN X16.here hx rfl (hb hby at_13) rfl rfl ?_
      exact kz
    obtain ⟨cq17, kq17, q17a, q17b, q17c⟩ := isOf hZ e16 Ex_CANCELLED
    obtain ⟨_, _, ⟨T17, L17, k17, n17⟩, -, X17, ⟨Lc17, hQ17, l17, y17, z17⟩, st17⟩ := X16.virtualBack hx (y := (⟨"com/example/quartermaster/quartermaster/RequestState", "hasEnded", "()Z"⟩ : MethodName)) (z := (⟨"com/example/quartermaster/quartermaster/RequestState", "hasEnded", "()Z"⟩ : MethodName)) hown (mvT hZ (hw _ (List.mem_of_getElem? (i := 8) rfl))) (mvT hZ (hw _ (List.mem_of_getElem? (i := 9) rfl))) (notFace_of_selects (args := #[]) (mvT hZ (hw _ (List.mem_of_getElem? (i := 11) rfl)))) (mvT hZ (hw _ (List.mem_of_getElem? (i := 11) rfl))) (mvT hZ (hw _ (List.mem_of_getElem? (i := 10) rfl))) (by decide) (backOf (W := 0) (rmH l Z a0 hw [] a_CANCELLED a_GRANTED a_WAITING (1 : Int32) h0 n0 Z0 S_GRANTED S_WAITING ((if_neg (Fo_CANCELLED.ne Fo_GRANTED (by simp))).trans (if_neg (Fo_CANCELLED.ne Fo_WAITING (by simp))))) hZ (hw _ (List.mem_of_getElem? (i := 12) rfl)) (hw _ (List.mem_of_getElem? (i := 6) rfl)) (by decide) (by decide)) q17a q17c (g := (mkF m 14 #[.val (.int p1), .val (.int (5 : Int32)), .val (.ref a_CANCELLED)] [(.ref a_CANCELLED)])) rfl (by rw [hml]; rfl) (Steps.refl _) (argsL := []) (rest := []) (lenOf own_pd1 rfl) rfl (by show 2 * 0 + _ ≤ _; exact Nat.le_of_eq rfl) (hb hby at_14) (fun _ _ => ⟨rfl, e16, (by decide : 0 + 0 ≤ _), (by decide : 0 + 0 ≤ _)⟩)
    dsimp only [Pt.U, Pt.locs, Pt.cells, Pt.slots] at X17 l17 y17 z17 st17 hQ17
    subst l17 y17 z17
    obtain ⟨rfl, N17q, e17⟩ := hQ17
    have N17 := Fr.app N16 N17q
    refine own_go (A := T17.setTop (mkF m 17 #[.val (.int p1), .val (.int (5 : Int32)), .val (.ref a_CANCELLED)] [(.int (1 : Int32))])) (fun _ kz => st17.trans kz) ?_
    refine own_go (A := T17.setTop (mkF m 18 #[.val (.int p1), .val (.int (5 : Int32)), .val (.ref a_CANCELLED)] [(.int (5 : Int32)), (.int (1 : Int32))])) (fun _ kz => ?_) ?_
    · show Steps p.tables e below (T17.setTop (mkF m 17 #[.val (.int p1), .val (.int (5 : Int32)), .val (.ref a_CANCELLED)] [(.int (1 : Int32))])) _
      refine XS.iloadN X17.here hx rfl (hb hby at_17) rfl ?_
      exact kz
    obtain ⟨_, _, ⟨T18, L18, k18, n18⟩, -, X18, ⟨Lc18, hQ18, l18, y18, z18⟩, st18⟩ := Jvm.LawKit.callS X17 hx (y := (⟨"com/example/quartermaster/quartermaster/RequestStateHasEndedPinLaw", "expectedEnded", "(I)Z"⟩ : MethodName)) hown (mvT hZ (hw _ (List.mem_of_getElem? (i := 14) rfl))) (mvT hZ (hw _ (List.mem_of_getElem? (i := 15) rfl))) (mvT hZ (hw _ (List.mem_of_getElem? (i := 3) rfl))) (mvT hZ (hw _ (List.mem_of_getElem? (i := 16) rfl))) (by decide) (backOf (W := 1) (rmE l Z a0 hw [] (5 : Int32) (1 : Int32) h0 n0 Z0 (by simp)) hZ (hw _ (List.mem_of_getElem? (i := 16) rfl)) (hw _ (List.mem_of_getElem? (i := 3) rfl)) (by decide) (by decide)) (g := (mkF m 18 #[.val (.int p1), .val (.int (5 : Int32)), .val (.ref a_CANCELLED)] [(.int (5 : Int32)), (.int (1 : Int32))])) rfl (by rw [hml]; rfl) (argsL := [(.int (5 : Int32))]) (rest := [(.int (1 : Int32))]) (lenOf own_pd2 rfl) rfl (by show 2 * 0 + _ ≤ _; exact Nat.le_of_eq rfl) (hb hby at_18) (fun _ _ => ⟨rfl, e17, (by decide : 0 + 0 ≤ _), (by decide : 0 + 0 ≤ _)⟩)
    dsimp only [Pt.U, Pt.locs, Pt.cells, Pt.slots] at X18 l18 y18 z18 st18 hQ18
    subst l18 y18 z18
    obtain ⟨rfl, N18q, e18⟩ := hQ18
    have N18 := Fr.app N17 N18q
    refine own_go (A := T18.setTop (mkF m 21 #[.val (.int p1), .val (.int (5 : Int32)), .val (.ref a_CANCELLED)] [(.int (1 : Int32)), (.int (1 : Int32))])) (fun _ kz => st18 _ kz) ?_
    refine own_go (A := T18.setTop (mkF m 29 #[.val (.int p1), .val (.int (5 : Int32)), .val (.ref a_CANCELLED)] [(.int (1 : Int32))])) (fun _ kz => ?_) ?_
    · show Steps p.tables e below (T18.setTop (mkF m 21 #[.val (.int p1), .val (.int (5 : Int32)), .val (.ref a_CANCELLED)] [(.int (1 : Int32)), (.int (1 : Int32))])) _
      refine XS.icmpNo X18.here hx rfl (hb hby at_21) rfl (teq (by decide : ((1 : Int32) = (1 : Int32)))).2 ?_
      show Steps p.tables e below (T18.setTop (mkF m 24 #[.val (.int p1), .val (.int (5 : Int32)), .val (.ref a_CANCELLED)] [])) _
      refine XS.iconst X18.here hx rfl (hb hby at_24) ?_
      show Steps p.tables e below (T18.setTop (mkF m 25 #[.val (.int p1), .val (.int (5 : Int32)), .val (.ref a_CANCELLED)] [(.int (1 : Int32))])) _
      refine XS.goto X18.here hx rfl (pc0 := 25) (pc' := 29) rfl (hb hby at_25) (by decide) (by decide) ?_
      exact kz
    obtain ⟨fs, hrr, hrun, hended, hW, hsame⟩ := X18.leave (v := some (.int (1 : Int32))) (fun h => by rw [Bd.returns] at h; cases h)
    refine ⟨_, _, ?_, hrun, hended, _, _, rfl, ?_, ⟨_, rfl⟩, hW, hsame.mono (by decide) (by decide)⟩
    · show Steps p.tables e below (T18.setTop (mkF m 29 #[.val (.int p1), .val (.int (5 : Int32)), .val (.ref a_CANCELLED)] [(.int (1 : Int32))])) _
      exact retN X18 hx (t := .boolean) Bd.returns (by simp) (hb hby at_29) hrr
    · show Qrm0 Z p1 a_GRANTED a_DENIED a_FINISHED a_WAITING a_REJECTED a_CANCELLED a_LAPSED h0 n0 _ T18.heap _
      rw [e18]
      exact ⟨rfl, N18⟩
  · skip
    refine own_go (A := s₁.setTop (mkF m 9 #[.val (.int p1), .val (.int (6 : Int32)), .unset] [(.int (6 : Int32))])) (fun _ kz => ?_) ?_
    · show Steps p.tables e below (s₁.setTop (mkF m 8 #[.val (.int p1), .val (.int (6 : Int32)), .unset] [])) _
      refine XS.iloadN X0.here hx rfl (hb hby at_8) rfl ?_
      exact kz
    obtain ⟨_, _, ⟨T19, L19, k19, n19⟩, -, X19, ⟨Lc19, hQ19, l19, y19, z19⟩, st19⟩ := Jvm.LawKit.callS X0 hx (y := (⟨"com/example/quartermaster/quartermaster/RequestStateHasEndedPinLaw", "pick", "(I)Lcom/example/quartermaster/quartermaster/RequestState;"⟩ : MethodName)) hown (mvT hZ (hw _ (List.mem_of_getElem? (i := 1) rfl))) (mvT hZ (hw _ (List.mem_of_getElem? (i := 2) rfl))) (mvT hZ (hw _ (List.mem_of_getElem? (i := 3) rfl))) (mvT hZ (hw _ (List.mem_of_getElem? (i := 4) rfl))) (by decide) (backOf (W := 0) (rmP l Z a0 hw [] (6 : Int32) a_GRANTED a_DENIED a_FINISHED a_WAITING a_REJECTED a_CANCELLED a_LAPSED a_LAPSED h0 n0 Z0 S_GRANTED S_DENIED S_FINISHED S_WAITING S_REJECTED S_CANCELLED S_LAPSED (by simp)) hZ (hw _ (List.mem_of_getElem? (i := 4) rfl)) (hw _ (List.mem_of_getElem? (i := 3) rfl)) (by decide) (by decide)) (g := (mkF m 9 #[.val (.int p1), .val (.int (6 : Int32)), .unset] [(.int (6 : Int32))])) rfl (by rw [hml]; rfl) (argsL := [(.int (6 : Int32))]) (rest := []) (lenOf own_pd0 rfl) rfl (by show 2 * 0 + _ ≤ _; exact Nat.le_of_eq rfl) (hb hby at_9) (fun _ _ => ⟨rfl, e0, (by decide : 0 + 0 ≤ _), (by decide : 0 + 0 ≤ _)⟩)
    dsimp only [Pt.U, Pt.locs, Pt.cells, Pt.slots] at X19 l19 y19 z19 st19 hQ19
    subst l19 y19 z19
    obtain ⟨rfl, N19q, e19⟩ := hQ19
    have N19 := Fr.app N0 N19q
    refine own_go (A := T19.setTop (mkF m 12 #[.val (.int p1), .val (.int (6 : Int32)), .unset] [(.ref a_LAPSED)])) (fun _ kz => st19 _ kz) ?_
    refine own_go (A := T19.setTop (mkF m 14 #[.val (.int p1), .val (.int (6 : Int32)), .val (.ref a_LAPSED)] [(.ref a_LAPSED)])) (fun _ kz => ?_) ?_
    · show Steps p.tables e below (T19.setTop (mkF m 12 #[.val (.int p1), .val (.int (6 : Int32)), .unset] [(.ref a_LAPSED)])) _
      refine XS.astoreN X19.here hx rfl (hb hby at_12) rfl rfl (l' := #[.val (.int p1), .val (.int (6 : Int32)), .val (.ref a_LAPSED)]) rfl ?_
      show Steps p.tables e below (T19.setTop (mkF m 13 #[.val (.int p1), .val (.int (6 : Int32)), .val (.ref a_LAPSED)] [])) _
      refine XS.aloadN X19.here hx rfl (hb hby at_13) rfl rfl ?_
      exact kz
    obtain ⟨cq20, kq20, q20a, q20b, q20c⟩ := isOf hZ e19 Ex_LAPSED
    obtain ⟨_, _, ⟨T20, L20, k20, n20⟩, -, X20, ⟨Lc20, hQ20, l20, y20, z20⟩, st20⟩ := X19.virtualBack hx (y := (⟨"com/example/quartermaster/quartermaster/RequestState", "hasEnded", "()Z"⟩ : MethodName)) (z := (⟨"com/example/quartermaster/quartermaster/RequestState", "hasEnded", "()Z"⟩ : MethodName)) hown (mvT hZ (hw _ (List.mem_of_getElem? (i := 8) rfl))) (mvT hZ (hw _ (List.mem_of_getElem? (i := 9) rfl))) (notFace_of_selects (args := #[]) (mvT hZ (hw _ (List.mem_of_getElem? (i := 11) rfl)))) (mvT hZ (hw _ (List.mem_of_getElem? (i := 11) rfl))) (mvT hZ (hw _ (List.mem_of_getElem? (i := 10) rfl))) (by decide) (backOf (W := 0) (rmH l Z a0 hw [] a_LAPSED a_GRANTED a_WAITING (1 : Int32) h0 n0 Z0 S_GRANTED S_WAITING ((if_neg (Fo_LAPSED.ne Fo_GRANTED (by simp))).trans (if_neg (Fo_LAPSED.ne Fo_WAITING (by simp))))) hZ (hw _ (List.mem_of_getElem? (i := 12) rfl)) (hw _ (List.mem_of_getElem? (i := 6) rfl)) (by decide) (by decide)) q20a q20c (g := (mkF m 14 #[.val (.int p1), .val (.int (6 : Int32)), .val (.ref a_LAPSED)] [(.ref a_LAPSED)])) rfl (by rw [hml]; rfl) (Steps.refl _) (argsL := []) (rest := []) (lenOf own_pd1 rfl) rfl (by show 2 * 0 + _ ≤ _; exact Nat.le_of_eq rfl) (hb hby at_14) (fun _ _ => ⟨rfl, e19, (by decide : 0 + 0 ≤ _), (by decide : 0 + 0 ≤ _)⟩)
    dsimp only [Pt.U, Pt.locs, Pt.cells, Pt.slots] at X20 l20 y20 z20 st20 hQ20
    subst l20 y20 z20
    obtain ⟨rfl, N20q, e20⟩ := hQ20
    have N20 := Fr.app N19 N20q
    refine own_go (A := T20.setTop (mkF m 17 #[.val (.int p1), .val (.int (6 : Int32)), .val (.ref a_LAPSED)] [(.int (1 : Int32))])) (fun _ kz => st20.trans kz) ?_
    refine own_go (A := T20.setTop (mkF m 18 #[.val (.int p1), .val (.int (6 : Int32)), .val (.ref a_LAPSED)] [(.int (6 : Int32)), (.int (1 : Int32))])) (fun _ kz => ?_) ?_
    · show Steps p.tables e below (T20.setTop (mkF m 17 #[.val (.int p1), .val (.int (6 : Int32)), .val (.ref a_LAPSED)] [(.int (1 : Int32))])) _
      refine XS.iloadN X20.here hx rfl (hb hby at_17) rfl ?_
      exact kz
    obtain ⟨_, _, ⟨T21, L21, k21, n21⟩, -, X21, ⟨Lc21, hQ21, l21, y21, z21⟩, st21⟩ := Jvm.LawKit.callS X20 hx (y := (⟨"com/example/quartermaster/quartermaster/RequestStateHasEndedPinLaw", "expectedEnded", "(I)Z"⟩ : MethodName)) hown (mvT hZ (hw _ (List.mem_of_getElem? (i := 14) rfl))) (mvT hZ (hw _ (List.mem_of_getElem? (i := 15) rfl))) (mvT hZ (hw _ (List.mem_of_getElem? (i := 3) rfl))) (mvT hZ (hw _ (List.mem_of_getElem? (i := 16) rfl))) (by decide) (backOf (W := 1) (rmE l Z a0 hw [] (6 : Int32) (1 : Int32) h0 n0 Z0 (by simp)) hZ (hw _ (List.mem_of_getElem? (i := 16) rfl)) (hw _ (List.mem_of_getElem? (i := 3) rfl)) (by decide) (by decide)) (g := (mkF m 18 #[.val (.int p1), .val (.int (6 : Int32)), .val (.ref a_LAPSED)] [(.int (6 : Int32)), (.int (1 : Int32))])) rfl (by rw [hml]; rfl) (argsL := [(.int (6 : Int32))]) (rest := [(.int (1 : Int32))]) (lenOf own_pd2 rfl) rfl (by show 2 * 0 + _ ≤ _; exact Nat.le_of_eq rfl) (hb hby at_18) (fun _ _ => ⟨rfl, e20, (by decide : 0 + 0 ≤ _), (by decide : 0 + 0 ≤ _)⟩)
    dsimp only [Pt.U, Pt.locs, Pt.cells, Pt.slots] at X21 l21 y21 z21 st21 hQ21
    subst l21 y21 z21
    obtain ⟨rfl, N21q, e21⟩ := hQ21
    have N21 := Fr.app N20 N21q
    refine own_go (A := T21.setTop (mkF m 21 #[.val (.int p1), .val (.int (6 : Int32)), .val (.ref a_LAPSED)] [(.int (1 : Int32)), (.int (1 : Int32))])) (fun _ kz => st21 _ kz) ?_
    refine own_go (A := T21.setTop (mkF m 29 #[.val (.int p1), .val (.int (6 : Int32)), .val (.ref a_LAPSED)] [(.int (1 : Int32))])) (fun _ kz => ?_) ?_
    · show Steps p.tables e below (T21.setTop (mkF m 21 #[.val (.int p1), .val (.int (6 : Int32)), .val (.ref a_LAPSED)] [(.int (1 : Int32)), (.int (1 : Int32))])) _
      refine XS.icmpNo X21.here hx rfl (hb hby at_21) rfl (teq (by decide : ((1 : Int32) = (1 : Int32)))).2 ?_
      show Steps p.tables e below (T21.setTop (mkF m 24 #[.val (.int p1), .val (.int (6 : Int32)), .val (.ref a_LAPSED)] [])) _
      refine XS.iconst X21.here hx rfl (hb hby at_24) ?_
      show Steps p.tables e below (T21.setTop (mkF m 25 #[.val (.int p1), .val (.int (6 : Int32)), .val (.ref a_LAPSED)] [(.int (1 : Int32))])) _
      refine XS.goto X21.here hx rfl (pc0 := 25) (pc' := 29) rfl (hb hby at_25) (by decide) (by decide) ?_
      exact kz
    obtain ⟨fs, hrr, hrun, hended, hW, hsame⟩ := X21.leave (v := some (.int (1 : Int32))) (fun h => by rw [Bd.returns] at h; cases h)
    refine ⟨_, _, ?_, hrun, hended, _, _, rfl, ?_, ⟨_, rfl⟩, hW, hsame.mono (by decide) (by decide)⟩
    · show Steps p.tables e below (T21.setTop (mkF m 29 #[.val (.int p1), .val (.int (6 : Int32)), .val (.ref a_LAPSED)] [(.int (1 : Int32))])) _
      exact retN X21 hx (t := .boolean) Bd.returns (by simp) (hb hby at_29) hrr
    · show Qrm0 Z p1 a_GRANTED a_DENIED a_FINISHED a_WAITING a_REJECTED a_CANCELLED a_LAPSED h0 n0 _ T21.heap _
      rw [e21]
      exact ⟨rfl, N21⟩
set_option maxRecDepth 65536 in
set_option maxHeartbeats 40000000 in
theorem comes_1 {Post : Tables → Env → Array Value → State → Outcome → State → Prop} (hpost : ∀ tb e args s v u, (limb_1_1.after args s (.returned v) u = true ∧ limb_1_2.after args s (.returned v) u = true ∧ True) → FrameEnd s (.returned v) u (Jvm.fieldLocs frame_1_writes args s ++ Jvm.arrayLocs frame_1_arrays args s ++ Jvm.staticLocs frame_1_statics s) 0 0 → Post tb e args s (.returned v) u) :
    ArmFor flags0 classFile x code maxLocals ret World_1 tables_1 room_1 Calls_1 rest_1 Pre_1 Post := by
  intro l hfl _ _ p e ha hc hk s m args below hf hA hF happ hP
  obtain ⟨hcalls, hrest, hpre⟩ := hP
  obtain ⟨-, -, -, hnamed, -, -, -, hat⟩ := (Spec.applies_iff hf).mp happ
  obtain ⟨hg, hn⟩ := and_e (Cond.before_iff.mp (show (Jvm.Cond.and given_1 narrow_1).before args s = true from hpre))
  obtain ⟨hcnt, hg1⟩ := and_e hg
  obtain ⟨w0, rfl⟩ : ∃ w0 : Value, args = #[w0] := by
    have hs : args.size = 1 := by simpa [Cond.value, given_1] using hcnt
    obtain ⟨L⟩ := args
    match L, hs with
    | [w0], _ => exact ⟨w0, rfl⟩
  have hw := fun d (hd : d ∈ tables_1) => atoms_spec (ws := Jvm.Cond.code x code maxLocals ret :: tables_1) hat d (List.mem_cons_of_mem _ hd)
  have hfit : Fit s := fun {y c} hc i hi => by
    obtain ⟨ha, rfl⟩ := Array.getElem?_eq_some_iff.mp hc
    have q := List.all_eq_true.mp ((Array.all_eq_true_iff_forall_mem.mp hF) _ (Array.getElem_mem ha)) i (List.mem_range.mpr hi)
    simpa [Array.getElem?_eq_getElem hi] using q
  obtain ⟨i0, ei0⟩ := is_v hg1
  obtain rfl : w0 = (.int i0) := Option.some.inj ei0
  obtain ⟨nw0, nw_0⟩ := and_e hn
  obtain ⟨nw1, nw_1⟩ := and_e nw_0
  obtain ⟨nw2, nw_2⟩ := and_e nw_1
  obtain ⟨nw3, nw_3⟩ := and_e nw_2
  obtain ⟨nw4, nw_4⟩ := and_e nw_3
  obtain ⟨nw5, nw_5⟩ := and_e nw_4
  obtain ⟨nw6, nw_6⟩ := and_e nw_5
  obtain ⟨nw7, nw_7⟩ := and_e nw_6
  obtain ⟨nw8, nw_8⟩ := and_e nw_7
  obtain ⟨nw9, nw_9⟩ := and_e nw_8
  obtain ⟨nw10, nw_10⟩ := and_e nw_9
  obtain ⟨nw11, nw_11⟩ := and_e nw_10
  obtain ⟨nw12, nw_12⟩ := and_e nw_11
  have nw13 := nw_12
  obtain ⟨a_GRANTED, S_GRANTED, Ex_GRANTED, Fo_GRANTED⟩ := own_enum nw0 nw3 (hw _ (List.mem_of_getElem? (i := 6) rfl)) (hw _ (List.mem_of_getElem? (i := 7) rfl))
  obtain ⟨a_DENIED, S_DENIED, Ex_DENIED, Fo_DENIED⟩ := own_enum nw12 nw13 (hw _ (List.mem_of_getElem? (i := 6) rfl)) (hw _ (List.mem_of_getElem? (i := 29) rfl))
  obtain ⟨a_FINISHED, S_FINISHED, Ex_FINISHED, Fo_FINISHED⟩ := own_enum nw10 nw11 (hw _ (List.mem_of_getElem? (i := 6) rfl)) (hw _ (List.mem_of_getElem? (i := 27) rfl))
  obtain ⟨a_WAITING, S_WAITING, Ex_WAITING, Fo_WAITING⟩ := own_enum nw1 nw2 (hw _ (List.mem_of_getElem? (i := 6) rfl)) (hw _ (List.mem_of_getElem? (i := 18) rfl))
  obtain ⟨a_REJECTED, S_REJECTED, Ex_REJECTED, Fo_REJECTED⟩ := own_enum nw8 nw9 (hw _ (List.mem_of_getElem? (i := 6) rfl)) (hw _ (List.mem_of_getElem? (i := 25) rfl))
  obtain ⟨a_CANCELLED, S_CANCELLED, Ex_CANCELLED, Fo_CANCELLED⟩ := own_enum nw4 nw5 (hw _ (List.mem_of_getElem? (i := 6) rfl)) (hw _ (List.mem_of_getElem? (i := 21) rfl))
  obtain ⟨a_LAPSED, S_LAPSED, Ex_LAPSED, Fo_LAPSED⟩ := own_enum nw6 nw7 (hw _ (List.mem_of_getElem? (i := 6) rfl)) (hw _ (List.mem_of_getElem? (i := 23) rfl))
  obtain ⟨n, o, h1, h2, h3, _, L, rfl, ⟨rfl, N⟩, hq⟩ := rm0 l s _ hw tables_1 i0 a_GRANTED a_DENIED a_FINISHED a_WAITING a_REJECTED a_CANCELLED a_LAPSED s.heap s.heap.size (Nat.le_refl _) S_GRANTED Ex_GRANTED Fo_GRANTED S_DENIED Ex_DENIED Fo_DENIED S_FINISHED Ex_FINISHED Fo_FINISHED S_WAITING Ex_WAITING Fo_WAITING S_REJECTED Ex_REJECTED Fo_REJECTED S_CANCELLED Ex_CANCELLED Fo_CANCELLED S_LAPSED Ex_LAPSED Fo_LAPSED p e ha hc hk s m _ below hf ((Spec.applies_iff_loose hf).mp happ).1 ⟨rfl, State.Warmed39.refl s, rfl⟩ trivial
  refine ⟨n, _, h1, h2, h3, hpost _ _ _ _ _ _ ⟨Cond.after_iff.mpr rfl, Cond.after_iff.mpr (eq_i res_at (Term.int_eval (1)) rfl), trivial⟩ ⟨hq.1, hq.2.1, (hq.2.2.sift fun y hy => Or.inr (N y hy)).mono (by decide) (by decide)⟩⟩
theorem main_1_1 : Claimed_1_1 := comes_1 fun _ _ _ _ _ _ h hF => ⟨h.1, hF⟩
theorem main_1_2 : Claimed_1_2 := comes_1 fun _ _ _ _ _ _ h hF => ⟨h.2.1, hF⟩
end Jvm.Pilot.@@N@@
namespace Jvm.Pilot.@@N@@
open Jvm Jvm.ClassFile Sem Op Lib Jvm.Free Jvm.Stand Jvm.Pilot.@@N@@.Jvm.D
/-! MADE BY PROGRAM (witnessworld.py) out of the Statement's table words and the real class files: 12 classes; the members and pool entries that the words name. The judged class is class 1, her method 3. -/
namespace start1
open Jvm.ClassFile
def u (s : String) : CpInfo := .utf8 (stringToUtf16 s)
/-- a pool by its gaps: so many unusable entries, then the entry; so many at the end -/
def gap : Nat → List CpInfo → List CpInfo
  | 0, r => r
  | n + 1, r => .unusable :: gap n r
def poolList (es : List (Nat × CpInfo)) (last : Nat) : List CpInfo := es.foldr (fun e r => gap e.1 (e.2 :: r)) (gap last [])
def pool (es : List (Nat × CpInfo)) (last : Nat) : Array CpInfo := ⟨poolList es last⟩
def fileOf (pool : Array CpInfo) (this : Nat) (attrs : Array Attribute := #[]) (ms : Array MethodInfo := #[]) (fl : Nat := 33) (sup : Nat := 0) (ifs : Array Nat := #[]) (fds : Array FieldInfo := #[]) : ClassFile where
  minorVersion := 0
  majorVersion := 65
  constantPool := pool
  accessFlags := fl
  thisClass := this
  superClass := sup
  interfaces := ifs
  fields := fds
  methods := ms
  attributes := attrs
def plain (name : String) (sup : Option ClassId) : Class where
  name := name
  kind := .ordinary
  loader := none
  accessFlags := 33
  super := sup
  interfaces := #[]
  cf := none
  fields := #[]
  methods := #[]
  instanceTypes := #[]
  staticTypes := #[]
  resolved := #[]
  callSites := []
  init := .initialized
  statics := none
  mirror := none

def pool0 : Array CpInfo := pool [(5, u "<init>"), (0, u "()V"), (1, .class_ 10), (1, u "java/lang/Object")] 113

def k0m0 : Method := { name := "<init>", desc := "()V", sig := { parameters := [], returnType := none }, accessFlags := 1, code := none }
/-- java/lang/Object -/
def k0 : Class := { plain "java/lang/Object" none with
  accessFlags := 33
  interfaces := #[]
  cf := some (fileOf pool0 8 #[] #[{ accessFlags := 1, nameIndex := 5, descriptorIndex := 6, attributes := #[] }] 33 0 #[] #[])
  fields := #[]
  methods := #[k0m0]
  instanceTypes := #[]
  staticTypes := #[]
  resolved := Array.replicate 124 none
  statics := none }

def pool1 : Array CpInfo := pool [(2, .class_ 4), (1, u "java/lang/Object"), (0, u "<init>"), (0, u "()V"), (0, .fieldref 8 9), (0, .class_ 10), (0, .nameAndType 11 12), (0, u "com/example/quartermaster/quartermaster/RequestState"), (0, u "GRANTED"), (0, u "Lcom/example/quartermaster/quartermaster/RequestState;"), (0, .fieldref 8 14), (0, .nameAndType 15 12), (0, u "DENIED"), (0, .fieldref 8 17), (0, .nameAndType 18 12), (0, u "FINISHED"), (0, .fieldref 8 20), (0, .nameAndType 21 12), (0, u "WAITING"), (0, .fieldref 8 23), (0, .nameAndType 24 12), (0, u "REJECTED"), (0, .fieldref 8 26), (0, .nameAndType 27 12), (0, u "CANCELLED"), (0, .fieldref 8 29), (0, .nameAndType 30 12), (0, u "LAPSED"), (0, .integer 2147483647), (0, .methodref 33 34), (0, .class_ 35), (0, .nameAndType 36 37), (0, u "com/example/quartermaster/quartermaster/RequestStateHasEndedPinLaw"), (0, u "pick"), (0, u "(I)Lcom/example/quartermaster/quartermaster/RequestState;"), (0, .methodref 8 39), (0, .nameAndType 40 41), (0, u "hasEnded"), (0, u "()Z"), (0, .methodref 33 43), (0, .nameAndType 44 45), (0, u "expectedEnded"), (0, u "(I)Z"), (3, u "law")] 2

def k1m0 : Method := { name := "<init>", desc := "()V", sig := { parameters := [], returnType := none }, accessFlags := 2, code := none }
def k1c1 : Code := { maxStack := 2, maxLocals := 1, code := method_2_code, exceptionTable := #[], attributes := #[] }
def k1m1 : Method := { name := "pick", desc := "(I)Lcom/example/quartermaster/quartermaster/RequestState;", sig := { parameters := [.int], returnType := some (.object "com/example/quartermaster/quartermaster/RequestState") }, accessFlags := 10, code := some k1c1 }
def k1c2 : Code := { maxStack := 2, maxLocals := 1, code := method_3_code, exceptionTable := #[], attributes := #[] }
def k1m2 : Method := { name := "expectedEnded", desc := "(I)Z", sig := { parameters := [.int], returnType := some .boolean }, accessFlags := 10, code := some k1c2 }
def k1c3 : Code := { maxStack := 2, maxLocals := 3, code := code, exceptionTable := #[], attributes := #[] }
def k1m3 : Method := { name := "law", desc := "(I)Z", sig := { parameters := [.int], returnType := some .boolean }, accessFlags := 9, code := some k1c3 }
/-- com/example/quartermaster/quartermaster/RequestStateHasEndedPinLaw -/
def k1 : Class := { plain "com/example/quartermaster/quartermaster/RequestStateHasEndedPinLaw" (some 0) with
  accessFlags := 49
  interfaces := #[]
  cf := some (fileOf pool1 33 #[] #[{ accessFlags := 2, nameIndex := 5, descriptorIndex := 6, attributes := #[] }, { accessFlags := 10, nameIndex := 36, descriptorIndex := 37, attributes := #[] }, { accessFlags := 10, nameIndex := 44, descriptorIndex := 45, attributes := #[] }, { accessFlags := 9, nameIndex := 49, descriptorIndex := 45, attributes := #[] }] 49 2 #[] #[])
  fields := #[]
  methods := #[k1m0, k1m1, k1m2, k1m3]
  instanceTypes := #[]
  staticTypes := #[]
  resolved := Array.replicate 52 none
  statics := none }

def pool2 : Array CpInfo := pool [(1, .class_ 2), (0, u "java/lang/constant/Constable"), (0, .class_ 4), (0, u "java/lang/Object")] 6

/-- java/lang/constant/Constable -/
def k2 : Class := { plain "java/lang/constant/Constable" (some 0) with
  accessFlags := 1537
  interfaces := #[]
  cf := some (fileOf pool2 1 #[] #[] 1537 3 #[] #[])
  fields := #[]
  methods := #[]
  instanceTypes := #[]
  staticTypes := #[]
  resolved := Array.replicate 11 none
  statics := none }

def pool3 : Array CpInfo := pool [(1, .class_ 2), (0, u "java/lang/Comparable"), (0, .class_ 4), (0, u "java/lang/Object")] 7

/-- java/lang/Comparable -/
def k3 : Class := { plain "java/lang/Comparable" (some 0) with
  accessFlags := 1537
  interfaces := #[]
  cf := some (fileOf pool3 1 #[] #[] 1537 3 #[] #[])
  fields := #[]
  methods := #[]
  instanceTypes := #[]
  staticTypes := #[]
  resolved := Array.replicate 12 none
  statics := none }

def pool4 : Array CpInfo := pool [(1, .class_ 2), (0, u "java/io/Serializable"), (0, .class_ 4), (0, u "java/lang/Object")] 2

/-- java/io/Serializable -/
def k4 : Class := { plain "java/io/Serializable" (some 0) with
  accessFlags := 1537
  interfaces := #[]
  cf := some (fileOf pool4 1 #[] #[] 1537 3 #[] #[])
  fields := #[]
  methods := #[]
  instanceTypes := #[]
  staticTypes := #[]
  resolved := Array.replicate 7 none
  statics := none }

def pool5 : Array CpInfo := pool [(2, .class_ 4), (1, u "java/lang/Enum"), (0, u "name"), (0, u "Ljava/lang/String;"), (2, u "ordinal"), (0, u "I"), (1, .class_ 14), (1, u "java/lang/Object"), (4, u "hash"), (86, .class_ 108), (1, u "java/lang/Enum$EnumDesc"), (2, .class_ 112), (0, u "java/lang/constant/Constable"), (0, .class_ 114), (0, u "java/lang/Comparable"), (0, .class_ 116), (0, u "java/io/Serializable")] 87

/-- java/lang/Enum -/
def k5 : Class := { plain "java/lang/Enum" (some 0) with
  accessFlags := 1057
  interfaces := #[2, 3, 4]
  cf := some (fileOf pool5 2 #[.nestMembers #[106]] #[] 1057 12 #[111, 113, 115] #[{ accessFlags := 18, nameIndex := 5, descriptorIndex := 6, attributes := #[] }, { accessFlags := 18, nameIndex := 9, descriptorIndex := 10, attributes := #[] }, { accessFlags := 2, nameIndex := 19, descriptorIndex := 10, attributes := #[] }])
  fields := #[{ name := "name", type := (.object "java/lang/String"), accessFlags := 18, slot := 0, constantValue := 0 }, { name := "ordinal", type := .int, accessFlags := 18, slot := 1, constantValue := 0 }, { name := "hash", type := .int, accessFlags := 2, slot := 2, constantValue := 0 }]
  methods := #[]
  instanceTypes := #[(.object "java/lang/String"), .int, .int]
  staticTypes := #[]
  resolved := Array.replicate 204 none
  statics := none }

def pool6 : Array CpInfo := pool [(1, .class_ 2), (0, u "com/example/quartermaster/quartermaster/RequestState"), (0, .fieldref 1 4), (0, .nameAndType 5 6), (0, u "GRANTED"), (0, u "Lcom/example/quartermaster/quartermaster/RequestState;"), (2, u "DENIED"), (2, u "FINISHED"), (0, .fieldref 1 14), (0, .nameAndType 15 6), (0, u "WAITING"), (2, u "REJECTED"), (2, u "CANCELLED"), (2, u "LAPSED"), (2, u "$VALUES"), (0, u "[Lcom/example/quartermaster/quartermaster/RequestState;"), (6, .class_ 37), (1, u "java/lang/Enum"), (8, u "standing"), (0, u "Ljava/lang/String;"), (60, u "hasEnded"), (0, u "()Z")] 7

def k6c0 : Code := { maxStack := 2, maxLocals := 1, code := prog_28_method_4_code, exceptionTable := #[], attributes := #[] }
def k6m0 : Method := { name := "hasEnded", desc := "()Z", sig := { parameters := [], returnType := some .boolean }, accessFlags := 0, code := some k6c0 }
/-- com/example/quartermaster/quartermaster/RequestState -/
def k6 : Class := { plain "com/example/quartermaster/quartermaster/RequestState" (some 5) with
  accessFlags := 16433
  interfaces := #[]
  cf := some (fileOf pool6 1 #[] #[{ accessFlags := 0, nameIndex := 108, descriptorIndex := 109, attributes := #[] }] 16433 35 #[] #[{ accessFlags := 16409, nameIndex := 5, descriptorIndex := 6, attributes := #[] }, { accessFlags := 16409, nameIndex := 9, descriptorIndex := 6, attributes := #[] }, { accessFlags := 16409, nameIndex := 12, descriptorIndex := 6, attributes := #[] }, { accessFlags := 16409, nameIndex := 15, descriptorIndex := 6, attributes := #[] }, { accessFlags := 16409, nameIndex := 18, descriptorIndex := 6, attributes := #[] }, { accessFlags := 16409, nameIndex := 21, descriptorIndex := 6, attributes := #[] }, { accessFlags := 16409, nameIndex := 24, descriptorIndex := 6, attributes := #[] }, { accessFlags := 18, nameIndex := 46, descriptorIndex := 47, attributes := #[] }, { accessFlags := 4122, nameIndex := 27, descriptorIndex := 28, attributes := #[] }])
  fields := #[{ name := "GRANTED", type := (.object "com/example/quartermaster/quartermaster/RequestState"), accessFlags := 16409, slot := 0, constantValue := 0 }, { name := "DENIED", type := (.object "com/example/quartermaster/quartermaster/RequestState"), accessFlags := 16409, slot := 1, constantValue := 0 }, { name := "FINISHED", type := (.object "com/example/quartermaster/quartermaster/RequestState"), accessFlags := 16409, slot := 2, constantValue := 0 }, { name := "WAITING", type := (.object "com/example/quartermaster/quartermaster/RequestState"), accessFlags := 16409, slot := 3, constantValue := 0 }, { name := "REJECTED", type := (.object "com/example/quartermaster/quartermaster/RequestState"), accessFlags := 16409, slot := 4, constantValue := 0 }, { name := "CANCELLED", type := (.object "com/example/quartermaster/quartermaster/RequestState"), accessFlags := 16409, slot := 5, constantValue := 0 }, { name := "LAPSED", type := (.object "com/example/quartermaster/quartermaster/RequestState"), accessFlags := 16409, slot := 6, constantValue := 0 }, { name := "standing", type := (.object "java/lang/String"), accessFlags := 18, slot := 3, constantValue := 0 }, { name := "$VALUES", type := (.array (.object "com/example/quartermaster/quartermaster/RequestState")), accessFlags := 4122, slot := 7, constantValue := 0 }]
  methods := #[k6m0]
  instanceTypes := #[(.object "java/lang/String"), .int, .int, (.object "java/lang/String")]
  staticTypes := #[(.object "com/example/quartermaster/quartermaster/RequestState"), (.object "com/example/quartermaster/quartermaster/RequestState"), (.object "com/example/quartermaster/quartermaster/RequestState"), (.object "com/example/quartermaster/quartermaster/RequestState"), (.object "com/example/quartermaster/quartermaster/RequestState"), (.object "com/example/quartermaster/quartermaster/RequestState"), (.object "com/example/quartermaster/quartermaster/RequestState"), (.array (.object "com/example/quartermaster/quartermaster/RequestState"))]
  resolved := Array.replicate 117 none
  statics := some 0 }

def pool7 : Array CpInfo := pool [(1, u "java/lang/Cloneable"), (0, .class_ 1), (0, u "java/lang/Object"), (0, .class_ 3)] 3

/-- java/lang/Cloneable -/
def k7 : Class := { plain "java/lang/Cloneable" (some 0) with
  accessFlags := 1537
  interfaces := #[]
  cf := some (fileOf pool7 2 #[] #[] 1537 4 #[] #[])
  fields := #[]
  methods := #[]
  instanceTypes := #[]
  staticTypes := #[]
  resolved := Array.replicate 8 none
  statics := none }

/-- the primitive byte -/
def k8 : Class := { plain "byte" none with kind := .primitive 'B', accessFlags := 0x411 }
/-- [B -/
def k9 : Class := { plain "[B" (some 0) with kind := .array 8 .byte, interfaces := #[7, 4], accessFlags := 1041 }

/-- the primitive int -/
def k10 : Class := { plain "int" none with kind := .primitive 'I', accessFlags := 0x411 }
/-- [I -/
def k11 : Class := { plain "[I" (some 0) with kind := .array 10 .int, interfaces := #[7, 4], accessFlags := 1041 }

def heap : Heap := #[{ cls := 6, slots := #[.ref 1, .ref 2, .ref 3, .ref 4, .ref 5, .ref 6, .ref 7, .null], vm := .statics 6 },
  { cls := 6, slots := #[.null, .int 0, .int 0, .null], vm := .none },
  { cls := 6, slots := #[.null, .int 1, .int 0, .null], vm := .none },
  { cls := 6, slots := #[.null, .int 2, .int 0, .null], vm := .none },
  { cls := 6, slots := #[.null, .int 3, .int 0, .null], vm := .none },
  { cls := 6, slots := #[.null, .int 4, .int 0, .null], vm := .none },
  { cls := 6, slots := #[.null, .int 5, .int 0, .null], vm := .none },
  { cls := 6, slots := #[.null, .int 6, .int 0, .null], vm := .none }]
def classes : Array Class := #[k0, k1, k2, k3, k4, k5, k6, k7, k8, k9, k10, k11]
def interned : List (Array UInt16 × Addr) := []
def slotsUsed : Nat := 36
def theMethod : MethodId := ⟨1, 3⟩
def args0 : Array Value := #[.int 3]
def aboutOver (below : List Frame) : State where
  vm := { classes := classes, interned := interned.toArray }
  heap := heap
  slotsUsed := slotsUsed
  threads := #[{ frames := .invoking theMethod args0 :: below }]
def below0 : List Frame := [.native { method := ⟨0, 0⟩, args := #[] }]
def about1 : State := aboutOver below0
def p0 : Program := .bare "" "" ""
def e0 : Env := launch0.env 0 0 0
theorem w_frames : about1.frames = Frame.invoking theMethod args0 :: below0 := rfl
set_option maxRecDepth 65536 in
theorem w_args : argsFit about1.vm theMethod args0 = true := by decide +kernel
set_option maxRecDepth 65536 in
theorem w_heap : heapFits about1 = true := by decide +kernel
set_option maxRecDepth 65536 in
theorem w_runnable : about1.curStatus? = some .runnable := by decide +kernel
set_option maxRecDepth 65536 in
theorem w_alone : about1.alone = true := by decide +kernel
set_option maxRecDepth 65536 in
theorem w_named : about1.methodNamed? x = some theMethod := by decide +kernel
set_option maxRecDepth 65536 in
theorem w_hears : about1.hears theMethod below0 = true := by decide +kernel
set_option maxRecDepth 65536 in
theorem w_ripe : about1.ripe theMethod args0 below0 = true := by decide +kernel
theorem w_running : about1.status = .running := rfl
set_option maxRecDepth 65536 in
theorem w_room : about1.hasRoom e0.platform room_1 = true :=
  launch0.hasRoom_least _ room_1 (by decide +kernel) (by decide +kernel) (by decide +kernel) (by decide +kernel) (by decide +kernel) (by decide +kernel)
theorem allAtoms_all (ts : List Jvm.Cond) (a : Array Jvm.Value) (st : Jvm.State) : (allAtoms ts).before a st = ts.all (fun c => c.before a st) := by
  induction ts with
  | nil => rfl
  | cons c t ih =>
    show (Jvm.Cond.and c (allAtoms t)).before a st = _
    rw [Jvm.Cond.before_and, ih, List.all_cons]
def words1 : List Jvm.Cond := Jvm.Cond.code x code maxLocals ret :: tables_1
/-- a 'code' word, met by the world's own term for the bytes: nothing is compared byte by byte -/
theorem code_word {y : MethodName} {bytes : ByteArray} {mx : Nat} {rt : Option FieldType} {a : Array Value} {s : State} {m : MethodId} {meth : Method} {c : Code} (h1 : s.methodNamed? y = some m) (h2 : s.vm.method? m = some meth) (h3 : meth.code = some c) (h4 : c.code = bytes)
    (h5 : (c.maxLocals == mx && c.exceptionTable.isEmpty && decide (c.maxStack ≤ mostOperands) && decide (meth.sig.returnType = rt) && !meth.locks && decide (parseMethodDescriptor y.desc = some meth.sig)) = true) : (Jvm.Cond.code y bytes mx rt).before a s = true := by
  simp only [Bool.and_eq_true, beq_iff_eq, Bool.not_eq_true', decide_eq_true_eq] at h5
  obtain ⟨⟨⟨⟨⟨g1, g2⟩, g3⟩, g4⟩, g5⟩, g6⟩ := h5
  simp [Cond.before, Cond.holds, Cond.value, h1, h2, h3, h4, g1, g2, g3, g4, g5, g6]
def isCode : Jvm.Cond → Bool
  | .code _ _ _ _ => true
  | _ => false
theorem all_split {L : List Jvm.Cond} {P : Jvm.Cond → Bool} (h1 : L.all (fun c => isCode c || P c) = true) (h2 : ∀ c ∈ L.filter isCode, P c = true) : L.all P = true := by
  refine List.all_eq_true.mpr fun c hc => ?_
  have h := List.all_eq_true.mp h1 c hc
  rcases Bool.eq_false_or_eq_true (isCode c) with hi | hi
  · exact h2 c (List.mem_filter.mpr ⟨hc, hi⟩)
  · simpa [hi] using h
set_option maxRecDepth 65536 in
theorem w_c0 : (Jvm.Cond.code x code maxLocals ret).before args0 about1 = true := code_word (m := ⟨1, 3⟩) (meth := k1m3) (c := k1c3) (by decide +kernel) rfl rfl rfl (by decide +kernel)
set_option maxRecDepth 65536 in
theorem w_c1 : (Jvm.Cond.code ({ cls := "com/example/quartermaster/quartermaster/RequestStateHasEndedPinLaw", name := "pick", desc := "(I)Lcom/example/quartermaster/quartermaster/RequestState;" } : Jvm.MethodName) method_2_code (1 : Nat) (Option.some (Jvm.ClassFile.FieldType.object "com/example/quartermaster/quartermaster/RequestState"))).before args0 about1 = true := code_word (m := ⟨1, 1⟩) (meth := k1m1) (c := k1c1) (by decide +kernel) rfl rfl rfl (by decide +kernel)
set_option maxRecDepth 65536 in
theorem w_c2 : (Jvm.Cond.code ({ cls := "com/example/quartermaster/quartermaster/RequestState", name := "hasEnded", desc := "()Z" } : Jvm.MethodName) prog_28_method_4_code (1 : Nat) (Option.some Jvm.ClassFile.FieldType.boolean)).before args0 about1 = true := code_word (m := ⟨6, 0⟩) (meth := k6m0) (c := k6c0) (by decide +kernel) rfl rfl rfl (by decide +kernel)
set_option maxRecDepth 65536 in
theorem w_c3 : (Jvm.Cond.code ({ cls := "com/example/quartermaster/quartermaster/RequestStateHasEndedPinLaw", name := "expectedEnded", desc := "(I)Z" } : Jvm.MethodName) method_3_code (1 : Nat) (Option.some Jvm.ClassFile.FieldType.boolean)).before args0 about1 = true := code_word (m := ⟨1, 2⟩) (meth := k1m2) (c := k1c2) (by decide +kernel) rfl rfl rfl (by decide +kernel)
def codes1 : List Jvm.Cond := [Jvm.Cond.code x code maxLocals ret, Jvm.Cond.code ({ cls := "com/example/quartermaster/quartermaster/RequestStateHasEndedPinLaw", name := "pick", desc := "(I)Lcom/example/quartermaster/quartermaster/RequestState;" } : Jvm.MethodName) method_2_code (1 : Nat) (Option.some (Jvm.ClassFile.FieldType.object "com/example/quartermaster/quartermaster/RequestState")), Jvm.Cond.code ({ cls := "com/example/quartermaster/quartermaster/RequestState", name := "hasEnded", desc := "()Z" } : Jvm.MethodName) prog_28_method_4_code (1 : Nat) (Option.some Jvm.ClassFile.FieldType.boolean), Jvm.Cond.code ({ cls := "com/example/quartermaster/quartermaster/RequestStateHasEndedPinLaw", name := "expectedEnded", desc := "(I)Z" } : Jvm.MethodName) method_3_code (1 : Nat) (Option.some Jvm.ClassFile.FieldType.boolean)]
set_option maxRecDepth 65536 in
theorem codes_eq : words1.filter isCode = codes1 := rfl
theorem w_codes : ∀ c ∈ words1.filter isCode, c.before args0 about1 = true := by
  rw [codes_eq]
  intro c hc
  simp only [codes1, List.mem_cons, List.not_mem_nil, or_false] at hc
  rcases hc with rfl | rfl | rfl | rfl
  · exact w_c0
  · exact w_c1
  · exact w_c2
  · exact w_c3
set_option maxRecDepth 65536 in
theorem w_t1 : (words1.take 24).all (fun c => isCode c || c.before args0 about1) = true := by decide +kernel
set_option maxRecDepth 65536 in
theorem w_t2 : (words1.drop 24).all (fun c => isCode c || c.before args0 about1) = true := by decide +kernel
theorem w_tables : (allAtoms (Jvm.Cond.code x code maxLocals ret :: tables_1)).before args0 about1 = true := by
  rw [allAtoms_all]
  show words1.all (fun c => c.before args0 about1) = true
  refine all_split ?_ w_codes
  rw [← List.take_append_drop 24 words1, List.all_append, w_t1, w_t2]
  rfl
set_option maxRecDepth 65536 in
theorem w_case : (Jvm.Cond.and given_1 narrow_1).before args0 about1 = true := by decide +kernel
theorem w_applies : (headSpec (Jvm.Cond.code x code maxLocals ret :: tables_1) room_1).applies x e0.platform about1 = true :=
  (Spec.applies_iff w_frames).mpr ⟨w_running, w_runnable, w_alone, w_named, w_hears, w_ripe, w_room, w_tables⟩
theorem atStart : AtStart classFile x code maxLocals ret World_1 tables_1 room_1 Calls_1 rest_1 Pre_1 launch0 p0 e0 about1 theMethod args0 below0 :=
  ⟨lists_1, trivial, launch0.admits_env _ _ _, launch0.least_env, fairChoices_fair.cas, fairChoices_fair.clock, w_frames, w_args, w_heap, w_applies, trivial, trivial, w_case⟩
end start1
theorem witness_1 : WitnessClaimed_1 := ⟨start1.p0, start1.e0, start1.about1, start1.theMethod, start1.args0, start1.below0, start1.atStart⟩
end Jvm.Pilot.@@N@@
