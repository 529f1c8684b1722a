import JvmDerived
import JvmDerived.Pilot.@@N@@Statement
import JvmDerived.Pilot.@@N@@Code
set_option linter.unusedVariables false
set_option linter.unusedSimpArgs false
set_option maxRecDepth 65536
set_option maxHeartbeats 40000000
namespace Jvm.RoadKit
open Sem ClassFile Op Lib Jvm.Stand Jvm.Free Jvm.LawKit
section New
variable {p : Program} {l : Launch} {e : Env} {R : Room} {s : State} {m : MethodId} {args : Array Value} {below : List Frame} {meth : Method} {c : Code} {T : State} {locs : List Loc} {cells slots : Nat}
theorem retI (X : Stand p l e R s m args below meth c T locs cells slots) (hx : p.tables.exec = Jvm.exec) {pc : Nat} {Ls : Array Slot} {z : Int32} {rest : List Value} (hret : meth.sig.returnType = some .int) (hd : decode c.code pc = .ok (.ireturn, 1)) {fs : List Frame}
  (hl : ∀ (f : JFrame) (acts : List Action), f.method = m → f.locked = none → f.entered = [] → (doReturn e (T.setTop f) acts (some (.int z))).1 = T.setFrames fs) : Steps p.tables e below (T.setTop (mkF m pc Ls (.int z :: rest))) (T.setFrames fs) := by
 have hm' : T.vm.method? m = some meth := X.method'
 have hn : narrow .int (.int z) = .int z := rfl
 show Steps p.tables e below (T.setTop { method := m, pc := pc, locals := Ls, stack := _ :: rest, locked := none }) _
 jvm_step X.here [X.here.top, hx, hd, hm', hret, hn]
 first | (intro acts; rw [hl _ acts rfl rfl rfl]) | rw [hl _ _ rfl rfl rfl]
 exact Steps.refl _
end New
end Jvm.RoadKit
namespace Jvm.Pilot.@@N@@
open Jvm Jvm.ClassFile Sem Op Lib Jvm.Free Jvm.Stand Jvm.LawKit Jvm.RoadKit Bundle Jvm.Pilot.@@N@@.Jvm.D
/-- the same for a part of a walk that comes to the frame F -/
theorem own_via {α : Type} {tb : Tables} {e : Env} {below : List Frame} {A B : State} {P : State → α → Prop} {F : α → JFrame} (h : ∀ t, Steps tb e below A t → Steps tb e below B t) (k : ∃ (T : State) (x : α), P T x ∧ ∀ t, Steps tb e below (T.setTop (F x)) t → Steps tb e below A t) : ∃ (T : State) (x : α), P T x ∧ ∀ t, Steps tb e below (T.setTop (F x)) t → Steps tb e below B t := by
 obtain ⟨T, x, k1, k2⟩ := k
 exact ⟨T, x, k1, fun t q => h t (k2 t q)⟩
theorem own_ns {Z : State} {h : Heap} {a : Addr} {C : String} (F : Exa Z h a C) : ∀ c : Cell, h[a]? = some c → c.vm.isStatics = false := fun c hc => by
 obtain ⟨c1, k, h1, -, -, h4, -⟩ := F
 cases hc.symm.trans h1
 exact h4
theorem own_nsA {Z : State} {h : Heap} {a : Addr} {k : ClassId} {ty : FieldType} {z : Int32} {vs : List Value} {dv : Value} (F : Arv Z h a k ty z vs dv) : ∀ c : Cell, h[a]? = some c → c.vm.isStatics = false := fun c hc => by
 obtain ⟨c1, A, -⟩ := F
 cases hc.symm.trans A.1
 exact A.plain
theorem own_nsF {Z : State} {h : Heap} {a : Addr} {C n d : String} {v : Value} (F : Fld Z h a C n d v) : ∀ c : Cell, h[a]? = some c → c.vm.isStatics = false := fun c hc => by
 obtain ⟨c1, _, _, _, _, h1, _, _, _, h5, _⟩ := F
 cases hc.symm.trans h1
 exact h5
theorem own_neA {Z : State} {a0 : Array Value} {h : Heap} {a b : Addr} {C : String} {n : Nat} {k : ClassId} {ty : FieldType} {z : Int32} {vs : List Value} {dv : Value} (F : Exa Z h a C) (wi : (Cond.instantiable C n).before a0 Z = true) (G : Arv Z h b k ty z vs dv) : a ≠ b := by
 obtain ⟨c1, A, -⟩ := G
 exact ne_arr F wi A
theorem own_staKeep {Z : State} {h h' : Heap} {C n d : String} {v : Value} {ws : List Addr} (F : Sta Z h C n d v) (K : Keep h h' ws) (q : ∀ x ∈ ws, ∀ c : Cell, h[x]? = some c → c.vm.isStatics = false) : Sta Z h' C n d v := by
 obtain ⟨cf, i, k, f, st, cell, h1, h2, h3, h4, h5, h6, h7⟩ := F
 exact ⟨cf, i, k, f, st, cell, h1, h2, h3, h4, K.2.1 st cell h5 (fun hm => by rw [q st hm cell h5] at h6; cases h6), h6, h7⟩
/-- a byte made a byte again -/
theorem own_nb (y : Int32) : y.toInt8.toInt32.toInt8.toInt32 = y.toInt8.toInt32 := by 
 have h1 := c_i2b y
 have h2 := c_i2b (y.toInt8.toInt32)
 apply Int32.toInt_inj.mp
 omega
theorem own_nbn (y : Int32) : nar .byte (y.toInt8.toInt32) = y.toInt8.toInt32 := own_nb y
/-- the walk goes on from A where it comes from B to A -/
theorem own_go {tb : Tables} {e : Env} {below : List Frame} {A B : State} {P : State → Outcome → Prop} (h : ∀ t, Steps tb e below A t → Steps tb e below B t) (k : ∃ t o, Steps tb e below A t ∧ P t o) : ∃ t o, Steps tb e below B t ∧ P t o := by
 obtain ⟨t, o, k1, k2⟩ := k
 exact ⟨t, o, h t k1, k2⟩
abbrev own_HW (Z : State) (a0 : Array Value) : Prop := ∀ d ∈ tables_1, d.before a0 Z = true
theorem own_w {Z : State} {a0 : Array Value} (hw : own_HW Z a0) (i : Nat) {d : Cond} (h : tables_1[i]? = some d) : d.before a0 Z = true := hw d (List.mem_of_getElem? h)
theorem own_pd0 : parseMethodDescriptor "(C)Z" = some ⟨[.char], some .boolean⟩ := by decide +kernel
theorem own_pd1 : parseMethodDescriptor "(IILjava/util/function/BiFunction;)I" = some ⟨[.int, .int, (.object "java/util/function/BiFunction")], some .int⟩ := by decide +kernel
theorem own_pd2 : parseMethodDescriptor "(II)V" = some ⟨[.int, .int], none⟩ := by decide +kernel
theorem own_pd3 : parseMethodDescriptor "()Z" = some ⟨[], some .boolean⟩ := by decide +kernel
theorem own_pd4 : parseMethodDescriptor "([BI)C" = some ⟨[(.array .byte), .int], some .char⟩ := by decide +kernel
theorem own_pd5 : parseMethodDescriptor "()B" = some ⟨[], some .byte⟩ := by decide +kernel
theorem own_pd6 : parseMethodDescriptor "(I)Z" = some ⟨[.int], some .boolean⟩ := by decide +kernel
theorem own_pd7 : parseMethodDescriptor "(II)I" = some ⟨[.int, .int], some .int⟩ := by decide +kernel
theorem own_pd8 : parseMethodDescriptor "([BIII)I" = some ⟨[(.array .byte), .int, .int, .int], some .int⟩ := by decide +kernel
theorem own_pd9 : parseMethodDescriptor "()I" = some ⟨[], some .int⟩ := by decide +kernel
theorem own_pd10 : parseMethodDescriptor "(I)C" = some ⟨[.int], some .char⟩ := by decide +kernel
theorem own_pd11 : parseMethodDescriptor "(I)I" = some ⟨[.int], some .int⟩ := by decide +kernel
theorem own_pd12 : parseMethodDescriptor "()V" = some ⟨[], none⟩ := by decide +kernel
theorem own_pd13 : parseMethodDescriptor "(Z)Z" = some ⟨[.boolean], some .boolean⟩ := by decide +kernel
theorem own_pd14 : parseMethodDescriptor "(Ljava/lang/String;)Z" = some ⟨[(.object "java/lang/String")], some .boolean⟩ := by decide +kernel
theorem own_pd15 : parseMethodDescriptor "([CII)V" = some ⟨[(.array .char), .int, .int], none⟩ := by decide +kernel
def own_In (Z : State) (vm : Vm) (h : Heap) : Prop := CHv Z consts_1 vm h
theorem own_EW {Z : State} {a0 : Array Value} (hw : own_HW Z a0) : EW Z a0 consts_1 := EW.cons (own_w hw 155 rfl) (by decide +kernel) (EW.cons (own_w hw 162 rfl) (by decide +kernel) (EW.cons (own_w hw 163 rfl) (by decide +kernel) (EW.cons (own_w hw 109 rfl) (by decide +kernel) (EW.cons (own_w hw 3 rfl) (by decide +kernel) (EW.cons (own_w hw 146 rfl) (by decide +kernel) (EW.cons (own_w hw 45 rfl) (by decide +kernel) (EW.cons (own_w hw 40 rfl) (by decide +kernel) (EW.nil))))))))
theorem own_In.start {Z : State} {a0 : Array Value} (hw : own_HW Z a0) (hh : ∀ q ∈ consts_1, Jvm.Lit.constHeld Z q.1 q.2) (hcw : Jvm.Lit.compactW.before a0 Z = true) : own_In Z Z.vm Z.heap := CHv.start (own_EW hw) hh hcw (own_w hw 6 rfl) (own_w hw 5 rfl)
theorem own_In.ext {Z : State} {vm : Vm} {h h' : Heap} (F : own_In Z vm h) (E : Ext h h') : own_In Z vm h' := CHv.ext E F
theorem own_In.keep {Z : State} {vm : Vm} {h h' : Heap} {ws : List Addr} (F : own_In Z vm h) (K : Keep h h' ws) (S : ∀ x ∈ ws, Safe Z consts_1 vm h x) : own_In Z vm h' := CHv.keep K S F
theorem own_In.wr {Z : State} {vm : Vm} {h h' : Heap} {a : Addr} {sl : Nat} {v : Value} (F : own_In Z vm h) (W : Wr h h' a sl v) (S : Safe Z consts_1 vm h a) : own_In Z vm h' := CHv.wr W S F
theorem own_safeA {Z : State} {EL : List (String × Nat)} {vm : Vm} {h : Heap} {b : Addr} {k : ClassId} {ty : FieldType} {z : Int32} {vs : List Value} {dv : Value} (hal : Z.vm.Alike vm) (F : Arv Z h b k ty z vs dv) (ht : ty ≠ .byte) : Safe Z EL vm h b := by
 obtain ⟨cl, A, -⟩ := F
 exact Safe.arr hal A ht
theorem own_In.warm {Z s : State} {a0 : Array Value} {vm0 vm1 : Vm} {h : Heap} (hZ : Z.Warmed39 vm0) (w : EW Z a0 consts_1) (F : own_In Z vm0 h) (hW : (s.setVm vm0).WarmedH vm1) : own_In Z vm1 h :=
 (CHv.later (h' := h) hZ (show (Wst Z vm0 h).Warmed39 vm1 from hW.wide) w ⟨Nat.le_refl _, fun _ _ q => q⟩ (Or.inl (State.WarmedH.interned_eq hW)) F).1
/-- a callee that may intern, called where I is known of the tables -/
theorem own_backS {p : Program} {l : Launch} {e : Env} {R : Room} {s : State} {args : Array Value} {below : List Frame} {Z : State} {a0 : Array Value} {h : Heap} {I : Vm → Prop} {y : MethodName} {bytes : ByteArray} {maxL : Nat} {ret : Option FieldType} {rm : Room} {len W : Nat} {as' : Array Value} {Q : Option Value → Heap → List Loc → Vm → Prop}
  (hM : MetFree l y (head1 [Cond.code y bytes maxL ret] rm) (fun a U => a = as' ∧ Z.Warmed39 U.vm ∧ U.heap = h ∧ I U.vm) (fun _ _ _ _ _ => True) (fun _ U o U' => ∃ v L, o = .returned v ∧ Q v U'.heap L U'.vm ∧ ReturnedEndW U o U' L rm.cells rm.slots))
  (hZ : Z.Warmed39 s.vm) (wc : (Cond.code y bytes maxL ret).before a0 Z = true) (wz : (Cond.initialized y.cls).before a0 Z = true) (hf : rm.frames + 1 ≤ R.frames) (hl : W + (maxL + 11) + rm.locals ≤ R.locals) (hI : ∀ vm', s.WarmedH vm' → I vm') :
  BackS l R p e below s args y len W (fun A a => a = as' ∧ A.U.heap = h ∧ A.cells + rm.cells ≤ R.cells ∧ A.slots + rm.slots ≤ R.slots)
   (fun A _ v B => ∃ L, Q v B.U.heap L B.U.vm ∧ B.locs = A.locs ++ L ∧ B.cells = A.cells + rm.cells ∧ B.slots = A.slots + rm.slots) := by
 refine BackS.of_freeW (bytes := bytes) (maxL := maxL) (ret := ret) (E := fun _ _ o t L k n => k = rm.cells ∧ n = rm.slots ∧ ∃ v, o = .returned v ∧ Q v t.heap L t.vm) hM hf hl ?_ ?_ (fun _ _ _ _ _ _ _ _ _ => trivial) ?_ ?_
 ·
  intro m meth c A a Y hp
  have hU : Z.Warmed39 A.U.vm := wtrans hZ Y.warmed
  exact ⟨by show (Cond.and _ .tt).before a A.U = true; rw [Cond.before_and, mv hU wc]; rfl, mv hU wc, mv hU wz, hp.2.2.1, hp.2.2.2⟩
 ·
  intro m meth c A a g mk Y hp
  exact ⟨hp.1, wtrans hZ Y.warmed, hp.2.1, hI _ Y.warmed⟩
 ·
  rintro _ _ _ _ ⟨v, L, h1, h2, h3⟩
  exact ⟨L, _, _, h3, rfl, rfl, v, h1, h2⟩
 ·
  rintro m meth c A a g mk v t L k n Y hp _ _ ⟨e1, e2, v', e3, e4⟩
  cases e3; subst e1 e2
  exact ⟨L, e4, rfl, rfl, rfl⟩
theorem own_i2c (x : Int32) : nar .char (x.toUInt32.toUInt16.toUInt32.toInt32) = x.toUInt32.toUInt16.toUInt32.toInt32 := by
 show (x.toUInt32.toUInt16.toUInt32.toInt32).toUInt32.toUInt16.toUInt32.toInt32 = _
 have h1 := c_i2c x
 have h2 := c_i2c (x.toUInt32.toUInt16.toUInt32.toInt32)
 apply Int32.toInt_inj.mp
 omega
theorem own_ch (x : Int32) : ¬ nar .char ((x &&& (255 : Int32)).toUInt32.toUInt16.toUInt32.toInt32) < 0 ∧ ¬ (255 : Int32) < nar .char ((x &&& (255 : Int32)).toUInt32.toUInt16.toUInt32.toInt32) := by
 rw [own_i2c]
 have h1 := c_i2c (x &&& (255 : Int32))
 have h2 := c_mask x (255 : Int32) 8 (by decide) (by decide)
 have e0 : (0 : Int32).toInt = 0 := by decide
 have e1 : (255 : Int32).toInt = 255 := by decide
 simp only [Int32.lt_iff_toInt_lt, e0, e1]
 omega
theorem own_up (cs : List Int32) (h : ∀ c ∈ cs, ¬ c < 0 ∧ ¬ (255 : Int32) < c) : ∀ c ∈ cs, ¬ c < 0 ∧ ¬ (65535 : Int32) < c := fun c hc => ⟨(h c hc).1, fun q => (h c hc).2 (by rw [Int32.lt_iff_toInt_lt] at q ⊢; have e1 : (65535 : Int32).toInt = 65535 := rfl; have e2 : (255 : Int32).toInt = 255 := rfl; omega)⟩
/-- a private method is selected itself (the worked claim gauge-weight's road, for any name) -/
theorem own_selp {s : State} {args : Array Value} {y : MethodName} {n : Nat} (hins : (Cond.instantiable y.cls n).before args s = true) (hpriv : (Cond.privateMethod y).before args s = true) (hinst : (Cond.instanceMethod y).before args s = true) (hy : y.cls ≠ "java/lang/invoke/MethodHandle" ∧ y.cls ≠ "java/lang/invoke/VarHandle") :
  (Cond.selects y.cls y y).before args s = true := by
 obtain ⟨c, k, hc, hk, -, hniab, -, -⟩ := Cond.instantiable_spec hins
 have hni : k.isInterface = false := (Bool.or_eq_false_iff.mp hniab).1
 obtain ⟨mk, methM, hnamed, hmethM, -, -⟩ := Cond.instanceMethod_spec hinst
 have hfound : s.methodFound? y.cls y.name y.desc = some mk := State.methodFound?_of_named hnamed hy
 have hcls : mk.cls = c := Option.some.inj ((findClass_of_methodNamed hnamed).symm.trans hc)
 have hsel : selectMethod {} s.vm c mk = .method mk := selectMethod_private hmethM (Cond.privateMethod_at hpriv mk methM hnamed hmethM)
 simp only [Cond.before, Cond.holds, Cond.value, hc, hfound, hnamed, hsel, hcls, hk]
 simp; exact hni
abbrev own_R (p : Program) (e : Env) (below : List Frame) (P : State → Outcome → Prop) (T : State) (m : MethodId) (pc : Nat) (Ls : Array Slot) (S : List Value) : Prop := ∃ t o, Steps p.tables e below (T.setTop (mkF m pc Ls S)) t ∧ P t o
abbrev own_Y (p : Program) (c : Code) (B : ByteArray) : Prop := p.tables.exec = Jvm.exec ∧ c.code = B
/-- a contract that interns nothing, and one that may -/
def own_MF (l : Launch) (C n d : String) (B : ByteArray) (ml : Nat) (rt : Option FieldType) (R : Room) (A : Array Value) (Z : State) (h0 : Heap) (Q : Option Value → Heap → List Loc → Prop) : Prop :=
 MetFree l (⟨C, n, d⟩ : MethodName) (head1 [Jvm.Cond.code (⟨C, n, d⟩ : MethodName) B ml rt] R) (fun ar_ U_ => ar_ = A ∧ Z.Warmed39 U_.vm ∧ U_.heap = h0) (fun _ _ _ _ _ => True) (fun _ U_ ou_ V_ => ∃ v_ L_, ou_ = .returned v_ ∧ Q v_ V_.heap L_ ∧ FrameEnd U_ ou_ V_ L_ R.cells R.slots)
def own_MC (l : Launch) (C n d : String) (B : ByteArray) (ml : Nat) (rt : Option FieldType) (R : Room) (A : Array Value) (Z : State) (h0 : Heap) (Q : Option Value → Heap → List Loc → Prop) : Prop :=
 MetFree l (⟨C, n, d⟩ : MethodName) (head1 [Jvm.Cond.code (⟨C, n, d⟩ : MethodName) B ml rt] R) (fun ar_ U_ => ar_ = A ∧ Z.Warmed39 U_.vm ∧ U_.heap = h0 ∧ own_In Z U_.vm h0) (fun _ _ _ _ _ => True) (fun _ U_ ou_ V_ => ∃ v_ L_, ou_ = .returned v_ ∧ (Q v_ V_.heap L_ ∧ own_In Z V_.vm V_.heap) ∧ ReturnedEndW U_ ou_ V_ L_ R.cells R.slots)
def own_E (s : State) (below : List Frame) (R : Room) (Q : Option Value → Heap → List Loc → Prop) (t : State) (o : Outcome) : Prop := t.status = .running ∧ Ended t below o ∧ ∃ v L, o = .returned v ∧ Q v t.heap L ∧ FrameEnd s o t L R.cells R.slots
def own_EC (Z s : State) (below : List Frame) (R : Room) (Q : Option Value → Heap → List Loc → Prop) (t : State) (o : Outcome) : Prop := t.status = .running ∧ Ended t below o ∧ ∃ v L, o = .returned v ∧ (Q v t.heap L ∧ own_In Z t.vm t.heap) ∧ ReturnedEndW s o t L R.cells R.slots
theorem own_wS {Z : State} {a0 : Array Value} (hw : own_HW Z a0) : ∀ a ∈ Bundle.stringAtoms, a.before a0 Z = true := fun d hd => hw d ((by decide +kernel : ∀ d ∈ Bundle.stringAtoms, d ∈ tables_1) d hd)
theorem own_fst {l : Launch} {C n d : String} {B : ByteArray} {ml : Nat} {rt : Option FieldType} {R : Room} {A : Array Value} {Z : State} {h0 : Heap} {Q : Option Value → Heap → List Loc → Prop} {Ls : Array Slot} (hp : plainFor (⟨C, n, d⟩ : MethodName) = true) (hef : ∀ m, entryFrame m A ml = mkF m 0 Ls [])
  (k : ∀ p e s m below meth c s₁, own_Y p c B → c.maxLocals = ml → Z.Warmed39 s.vm → s.vm.findClass C = some m.cls → meth.name = n → meth.sig.returnType = rt → meth.locks = false → Stand p l e R s m A below meth c s₁ [] 0 0 → s₁.heap = h0 → own_R p e below (own_E s below R Q) s₁ m 0 Ls []) : own_MF l C n d B ml rt R A Z h0 Q := by
 refine MetFree.of_bodySF hp hisR ?_
 intro p e s m args below meth c s₁ Bd hml0 hP hK
 obtain ⟨rfl, hZ, hh⟩ := hP
 have hlk : meth.locks = false := by first | assumption | exact BodyLoose.notSynchronized (by assumption) | exact Body.notSynchronized (by assumption)
 obtain ⟨t, o, k1, k2⟩ := k p e s m below meth c s₁ ⟨Bd.exec, Bd.bytes⟩ hml0 hZ (findClass_of_methodNamed Bd.named) (name_of_methodNamed Bd.named Bd.method).1 Bd.returns hlk (Stand.of_body Bd) (by rw [← hh, Bd.state]; rfl)
 exact ⟨t, o, castTop (hef m) k1, k2⟩
theorem own_fsC {l : Launch} {C n d : String} {B : ByteArray} {ml : Nat} {rt : Option FieldType} {R : Room} {A : Array Value} {Z : State} {h0 : Heap} {Q : Option Value → Heap → List Loc → Prop} {Ls : Array Slot} (hp : plainFor (⟨C, n, d⟩ : MethodName) = true) (hef : ∀ m, entryFrame m A ml = mkF m 0 Ls [])
  (k : ∀ p e s m below meth c s₁, own_Y p c B → c.maxLocals = ml → Z.Warmed39 (s.setVm s.vm).vm → (s.setVm s.vm).vm.findClass C = some m.cls → meth.name = n → meth.sig.returnType = rt → meth.locks = false → Stand p l e R (s.setVm s.vm) m A below meth c s₁ [] 0 0 → s₁.heap = h0 → s.Since s.vm 0 → 0 ≤ h0.size → own_In Z s.vm h0 → own_R p e below (own_EC Z s below R Q) s₁ m 0 Ls []) : own_MC l C n d B ml rt R A Z h0 Q := by
 refine MetFree.of_bodySF hp hisR ?_
 intro p e s m args below meth c s₁ Bd hml0 hP hK
 obtain ⟨rfl, hZ, hh, hIn⟩ := hP
 have hlk : meth.locks = false := by first | assumption | exact BodyLoose.notSynchronized (by assumption) | exact Body.notSynchronized (by assumption)
 obtain ⟨t, o, k1, k2⟩ := k p e s m below meth c s₁ ⟨Bd.exec, Bd.bytes⟩ hml0 hZ (findClass_of_methodNamed Bd.named) (name_of_methodNamed Bd.named Bd.method).1 Bd.returns hlk (Stand.of_body Bd) (by rw [← hh, Bd.state]; rfl) ((State.WarmedH.refl s).since 0) (Nat.zero_le _) hIn
 exact ⟨t, o, castTop (hef m) k1, k2⟩
theorem own_m0 {α : Type} {a : α} {as : List α} {p : Prop} : a ∈ a :: as ∨ p := Or.inl (List.mem_cons_self ..)
theorem own_m1 {α : Type} {a b : α} {as : List α} {p : Prop} : a ∈ b :: a :: as ∨ p := Or.inl (List.mem_cons_of_mem _ (List.mem_cons_self ..))
theorem own_zw {h h' : Heap} {a : Addr} {i n : Nat} {v : Value} (z : n ≤ h.size) (W : Wr h h' a i v) : n ≤ h'.size := Nat.le_trans z (Keep.of_wr W).1
theorem own_sf {Z : State} {vm : Vm} {h : Heap} {a : Addr} {own : String} (hZ : Z.Warmed39 vm) (E : Exa Z h a own) (h1 : own ≠ "java/lang/String" := by decide) (h2 : own ≠ "[B" := by decide) : Safe Z consts_1 vm h a := Safe.exa hZ.alike E h1 h2
section OwnWrap
variable {p : Program} {l : Launch} {e : Env} {R : Room} {s : State} {m : MethodId} {args : Array Value} {below : List Frame} {meth : Method} {c : Code} {T : State} {locs : List Loc} {cells slots : Nat} {Z : State} {a0 : Array Value} {h : Heap} {P : State → Outcome → Prop}
theorem own_il (X : Stand p l e R s m args below meth c T locs cells slots) {B : ByteArray} (hy : own_Y p c B) {pc : Nat} {Ls : Array Slot} {S : List Value} {k : Fin 4} {v : Int32} (hd : decode B pc = .ok (.iload_n k, 1)) (hl : Ls[k.val]? = some (.val (.int v))) (k : own_R p e below P T m (pc + 1) Ls (.int v :: S)) : own_R p e below P T m pc Ls S :=
 own_go (fun _ kz => XS.iloadN X.here hy.1 rfl (hb hy.2 hd) hl kz) k
theorem own_iw (X : Stand p l e R s m args below meth c T locs cells slots) {B : ByteArray} (hy : own_Y p c B) {pc : Nat} {Ls : Array Slot} {S : List Value} {k : Nat} {v : Int32} (hd : decode B pc = .ok (.iload k, 2)) (hl : Ls[k]? = some (.val (.int v))) (k : own_R p e below P T m (pc + 2) Ls (.int v :: S)) : own_R p e below P T m pc Ls S :=
 own_go (fun _ kz => XS.iload X.here hy.1 rfl (hb hy.2 hd) hl kz) k
theorem own_al (X : Stand p l e R s m args below meth c T locs cells slots) {B : ByteArray} (hy : own_Y p c B) {pc : Nat} {Ls : Array Slot} {S : List Value} {k : Fin 4} {v : Value} (hd : decode B pc = .ok (.aload_n k, 1)) (hl : Ls[k.val]? = some (.val v)) (hv : v.isRef = true) (k : own_R p e below P T m (pc + 1) Ls (v :: S)) : own_R p e below P T m pc Ls S :=
 own_go (fun _ kz => XS.aloadN X.here hy.1 rfl (hb hy.2 hd) hl hv kz) k
theorem own_aw (X : Stand p l e R s m args below meth c T locs cells slots) {B : ByteArray} (hy : own_Y p c B) {pc : Nat} {Ls : Array Slot} {S : List Value} {k : Nat} {v : Value} (hd : decode B pc = .ok (.aload k, 2)) (hl : Ls[k]? = some (.val v)) (hv : v.isRef = true) (k : own_R p e below P T m (pc + 2) Ls (v :: S)) : own_R p e below P T m pc Ls S :=
 own_go (fun _ kz => XS.aload X.here hy.1 rfl (hb hy.2 hd) hl hv kz) k
theorem own_lw (X : Stand p l e R s m args below meth c T locs cells slots) {B : ByteArray} (hy : own_Y p c B) {pc : Nat} {Ls : Array Slot} {S : List Value} {k : Nat} {v : Int64} (hd : decode B pc = .ok (.lload k, 2)) (hl : Ls[k]? = some (.val (.long v))) (k : own_R p e below P T m (pc + 2) Ls (.long v :: S)) : own_R p e below P T m pc Ls S :=
 own_go (fun _ kz => XS.lload X.here hy.1 rfl (hb hy.2 hd) hl kz) k
theorem own_ic (X : Stand p l e R s m args below meth c T locs cells slots) {B : ByteArray} (hy : own_Y p c B) {pc : Nat} {Ls : Array Slot} {S : List Value} {i : Int} (hd : decode B pc = .ok (.iconst i, 1))  (k : own_R p e below P T m (pc + 1) Ls (.int (Int32.ofInt i) :: S)) : own_R p e below P T m pc Ls S :=
 own_go (fun _ kz => XS.iconst X.here hy.1 rfl (hb hy.2 hd) kz) k
theorem own_bp (X : Stand p l e R s m args below meth c T locs cells slots) {B : ByteArray} (hy : own_Y p c B) {pc : Nat} {Ls : Array Slot} {S : List Value} {i : Int} (hd : decode B pc = .ok (.bipush i, 2))  (k : own_R p e below P T m (pc + 2) Ls (.int (Int8.ofInt i).toInt32 :: S)) : own_R p e below P T m pc Ls S :=
 own_go (fun _ kz => XS.bipush X.here hy.1 rfl (hb hy.2 hd) kz) k
theorem own_sp (X : Stand p l e R s m args below meth c T locs cells slots) {B : ByteArray} (hy : own_Y p c B) {pc : Nat} {Ls : Array Slot} {S : List Value} {i : Int} (hd : decode B pc = .ok (.sipush i, 3))  (k : own_R p e below P T m (pc + 3) Ls (.int (Int16.ofInt i).toInt32 :: S)) : own_R p e below P T m pc Ls S :=
 own_go (fun _ kz => XS.sipush X.here hy.1 rfl (hb hy.2 hd) kz) k
theorem own_is (X : Stand p l e R s m args below meth c T locs cells slots) {B : ByteArray} (hy : own_Y p c B) {pc : Nat} {Ls : Array Slot} {S : List Value} {k : Fin 4} {x : Int32} {l' : Array Slot} (hd : decode B pc = .ok (.istore_n k, 1)) (hl : storeLocals Ls k.val (.int x) = some l') (k : own_R p e below P T m (pc + 1) l' S) : own_R p e below P T m pc Ls (.int x :: S) :=
 own_go (fun _ kz => XS.istoreN X.here hy.1 rfl (hb hy.2 hd) rfl hl kz) k
theorem own_it (X : Stand p l e R s m args below meth c T locs cells slots) {B : ByteArray} (hy : own_Y p c B) {pc : Nat} {Ls : Array Slot} {S : List Value} {k : Nat} {x : Int32} {l' : Array Slot} (hd : decode B pc = .ok (.istore k, 2)) (hl : storeLocals Ls k (.int x) = some l') (k : own_R p e below P T m (pc + 2) l' S) : own_R p e below P T m pc Ls (.int x :: S) :=
 own_go (fun _ kz => XS.istore X.here hy.1 rfl (hb hy.2 hd) rfl hl kz) k
theorem own_ar (X : Stand p l e R s m args below meth c T locs cells slots) {B : ByteArray} (hy : own_Y p c B) {pc : Nat} {Ls : Array Slot} {S : List Value} {k : Nat} {x : Value} {l' : Array Slot} (hd : decode B pc = .ok (.astore k, 2)) (hv : x.isRef = true) (hl : storeLocals Ls k x = some l') (k : own_R p e below P T m (pc + 2) l' S) : own_R p e below P T m pc Ls (x :: S) :=
 own_go (fun _ kz => XS.astore X.here hy.1 rfl (hb hy.2 hd) rfl hv hl kz) k
theorem own_ii (X : Stand p l e R s m args below meth c T locs cells slots) {B : ByteArray} (hy : own_Y p c B) {pc : Nat} {Ls : Array Slot} {S : List Value} {k : Nat} {cst : Int} {x : Int32} {l' : Array Slot} (hd : decode B pc = .ok (.iinc k cst, 3)) (hl : Ls[k]? = some (.val (.int x))) (hl' : storeLocals Ls k (.int (x + Int32.ofInt cst)) = some l') (k : own_R p e below P T m (pc + 3) l' S) : own_R p e below P T m pc Ls S :=
 own_go (fun _ kz => XS.iinc X.here hy.1 rfl (hb hy.2 hd) hl hl' kz) k
theorem own_dp (X : Stand p l e R s m args below meth c T locs cells slots) {B : ByteArray} (hy : own_Y p c B) {pc : Nat} {Ls : Array Slot} {S : List Value} {x : Value} (hd : decode B pc = .ok (.dup, 1)) (hc : x.category = 1) (k : own_R p e below P T m (pc + 1) Ls (x :: x :: S)) : own_R p e below P T m pc Ls (x :: S) :=
 own_go (fun _ kz => XS.dup X.here hy.1 rfl (hb hy.2 hd) rfl hc kz) k
theorem own_dx (X : Stand p l e R s m args below meth c T locs cells slots) {B : ByteArray} (hy : own_Y p c B) {pc : Nat} {Ls : Array Slot} {S : List Value} {x y : Value} (hd : decode B pc = .ok (.dup_x1, 1)) (hc : x.category = 1) (hc' : y.category = 1) (k : own_R p e below P T m (pc + 1) Ls (x :: y :: x :: S)) : own_R p e below P T m pc Ls (x :: y :: S) :=
 own_go (fun _ kz => XS.dupX1 X.here hy.1 rfl (hb hy.2 hd) rfl hc hc' kz) k
theorem own_ad (X : Stand p l e R s m args below meth c T locs cells slots) {B : ByteArray} (hy : own_Y p c B) {pc : Nat} {Ls : Array Slot} {S : List Value} {x y : Int32} (hd : decode B pc = .ok (.iadd, 1))  (k : own_R p e below P T m (pc + 1) Ls (.int (x + y) :: S)) : own_R p e below P T m pc Ls (.int y :: .int x :: S) :=
 own_go (fun _ kz => XS.iadd X.here hy.1 rfl (hb hy.2 hd) rfl kz) k
theorem own_sb (X : Stand p l e R s m args below meth c T locs cells slots) {B : ByteArray} (hy : own_Y p c B) {pc : Nat} {Ls : Array Slot} {S : List Value} {x y : Int32} (hd : decode B pc = .ok (.isub, 1))  (k : own_R p e below P T m (pc + 1) Ls (.int (x - y) :: S)) : own_R p e below P T m pc Ls (.int y :: .int x :: S) :=
 own_go (fun _ kz => XS.isub X.here hy.1 rfl (hb hy.2 hd) rfl kz) k
theorem own_an (X : Stand p l e R s m args below meth c T locs cells slots) {B : ByteArray} (hy : own_Y p c B) {pc : Nat} {Ls : Array Slot} {S : List Value} {x y : Int32} (hd : decode B pc = .ok (.iand, 1))  (k : own_R p e below P T m (pc + 1) Ls (.int (x &&& y) :: S)) : own_R p e below P T m pc Ls (.int y :: .int x :: S) :=
 own_go (fun _ kz => XS.iand X.here hy.1 rfl (hb hy.2 hd) rfl kz) k
theorem own_us (X : Stand p l e R s m args below meth c T locs cells slots) {B : ByteArray} (hy : own_Y p c B) {pc : Nat} {Ls : Array Slot} {S : List Value} {x y : Int32} (hd : decode B pc = .ok (.iushr, 1))  (k : own_R p e below P T m (pc + 1) Ls (.int ((x.toUInt32 >>> (y &&& 31).toUInt32).toInt32) :: S)) : own_R p e below P T m pc Ls (.int y :: .int x :: S) :=
 own_go (fun _ kz => XS.iushr X.here hy.1 rfl (hb hy.2 hd) rfl kz) k
theorem own_lu (X : Stand p l e R s m args below meth c T locs cells slots) {B : ByteArray} (hy : own_Y p c B) {pc : Nat} {Ls : Array Slot} {S : List Value} {x : Int64} {y : Int32} (hd : decode B pc = .ok (.lushr, 1))  (k : own_R p e below P T m (pc + 1) Ls (.long ((x.toUInt64 >>> (y &&& 0x3f).toInt64.toUInt64).toInt64) :: S)) : own_R p e below P T m pc Ls (.int y :: .long x :: S) :=
 own_go (fun _ kz => XS.lushr X.here hy.1 rfl (hb hy.2 hd) rfl kz) k
theorem own_li (X : Stand p l e R s m args below meth c T locs cells slots) {B : ByteArray} (hy : own_Y p c B) {pc : Nat} {Ls : Array Slot} {S : List Value} {x : Int64} (hd : decode B pc = .ok (.l2i, 1))  (k : own_R p e below P T m (pc + 1) Ls (.int x.toInt32 :: S)) : own_R p e below P T m pc Ls (.long x :: S) :=
 own_go (fun _ kz => XS.l2i X.here hy.1 rfl (hb hy.2 hd) rfl kz) k
theorem own_cc (X : Stand p l e R s m args below meth c T locs cells slots) {B : ByteArray} (hy : own_Y p c B) {pc : Nat} {Ls : Array Slot} {S : List Value} {x : Int32} (hd : decode B pc = .ok (.i2c, 1))  (k : own_R p e below P T m (pc + 1) Ls (.int (x.toUInt32.toUInt16.toUInt32.toInt32) :: S)) : own_R p e below P T m pc Ls (.int x :: S) :=
 own_go (fun _ kz => XS.i2c X.here hy.1 rfl (hb hy.2 hd) rfl kz) k
theorem own_rm (X : Stand p l e R s m args below meth c T locs cells slots) {B : ByteArray} (hy : own_Y p c B) {pc : Nat} {Ls : Array Slot} {S : List Value} {x y : Int32} (hd : decode B pc = .ok (.irem, 1)) (hn : y ≠ 0) (k : own_R p e below P T m (pc + 1) Ls (.int (x % y) :: S)) : own_R p e below P T m pc Ls (.int y :: .int x :: S) :=
 own_go (fun _ kz => iremM X hy.1 rfl (hb hy.2 hd) rfl hn kz) k
theorem own_gt (X : Stand p l e R s m args below meth c T locs cells slots) {B : ByteArray} (hy : own_Y p c B) {pc : Nat} {Ls : Array Slot} {S : List Value} {o : Int} (hd : decode B pc = .ok (.goto o, 3)) (pc' : Nat) (k : own_R p e below P T m pc' Ls S) (ho : 0 ≤ (pc : Int) + o := by decide) (hp : ((pc : Int) + o).toNat = pc' := by decide) : own_R p e below P T m pc Ls S :=
 own_go (fun _ kz => XS.goto X.here hy.1 rfl (pc0 := pc) rfl (hb hy.2 hd) ho hp kz) k
theorem own_cy (X : Stand p l e R s m args below meth c T locs cells slots) {B : ByteArray} (hy : own_Y p c B) {pc : Nat} {Ls : Array Slot} {S : List Value} {cd : ClassFile.Cond} {o : Int} {x y : Int32} (hd : decode B pc = .ok (.if_icmp cd o, 3)) (pc' : Nat) (hc : if_icmp.holds cd x y = true) (k : own_R p e below P T m pc' Ls S) (ho : 0 ≤ (pc : Int) + o := by decide) (hp : ((pc : Int) + o).toNat = pc' := by decide) : own_R p e below P T m pc Ls (.int y :: .int x :: S) :=
 own_go (fun _ kz => XS.icmpYes X.here hy.1 rfl (pc0 := pc) rfl (hb hy.2 hd) rfl hc ho hp kz) k
theorem own_cn (X : Stand p l e R s m args below meth c T locs cells slots) {B : ByteArray} (hy : own_Y p c B) {pc : Nat} {Ls : Array Slot} {S : List Value} {cd : ClassFile.Cond} {o : Int} {x y : Int32} (hd : decode B pc = .ok (.if_icmp cd o, 3)) (hc : if_icmp.holds cd x y = false) (k : own_R p e below P T m (pc + 3) Ls S) : own_R p e below P T m pc Ls (.int y :: .int x :: S) :=
 own_go (fun _ kz => XS.icmpNo X.here hy.1 rfl (hb hy.2 hd) rfl hc kz) k
theorem own_zy (X : Stand p l e R s m args below meth c T locs cells slots) {B : ByteArray} (hy : own_Y p c B) {pc : Nat} {Ls : Array Slot} {S : List Value} {cd : ClassFile.Cond} {o : Int} {x : Int32} (hd : decode B pc = .ok (.ifCond cd o, 3)) (pc' : Nat) (hc : ifCond.holds cd x = true) (k : own_R p e below P T m pc' Ls S) (ho : 0 ≤ (pc : Int) + o := by decide) (hp : ((pc : Int) + o).toNat = pc' := by decide) : own_R p e below P T m pc Ls (.int x :: S) :=
 own_go (fun _ kz => XS.ifYes X.here hy.1 rfl (pc0 := pc) rfl (hb hy.2 hd) rfl hc ho hp kz) k
theorem own_zn (X : Stand p l e R s m args below meth c T locs cells slots) {B : ByteArray} (hy : own_Y p c B) {pc : Nat} {Ls : Array Slot} {S : List Value} {cd : ClassFile.Cond} {o : Int} {x : Int32} (hd : decode B pc = .ok (.ifCond cd o, 3)) (hc : ifCond.holds cd x = false) (k : own_R p e below P T m (pc + 3) Ls S) : own_R p e below P T m pc Ls (.int x :: S) :=
 own_go (fun _ kz => XS.ifNo X.here hy.1 rfl (hb hy.2 hd) rfl hc kz) k
theorem own_ky (X : Stand p l e R s m args below meth c T locs cells slots) {B : ByteArray} (hy : own_Y p c B) {pc : Nat} {Ls : Array Slot} {S : List Value} {q : Fin 4} {i o : Int} {x : Int32} {cd : ClassFile.Cond} (d1 : decode B pc = .ok (.iload_n q, 1)) (d2 : decode B (pc + 1) = .ok (.bipush i, 2)) (d3 : decode B (pc + 3) = .ok (.if_icmp cd o, 3)) (hl : Ls[q.val]? = some (.val (.int x))) (pc' : Nat) (hc : if_icmp.holds cd x (Int8.ofInt i).toInt32 = true) (k : own_R p e below P T m pc' Ls S) (ho : 0 ≤ ((pc + 3 : Nat) : Int) + o := by decide) (hp : (((pc + 3 : Nat) : Int) + o).toNat = pc' := by decide) : own_R p e below P T m pc Ls S := own_il X hy d1 hl (own_bp X hy d2 (own_cy X hy d3 pc' hc k ho hp))
theorem own_kn (X : Stand p l e R s m args below meth c T locs cells slots) {B : ByteArray} (hy : own_Y p c B) {pc : Nat} {Ls : Array Slot} {S : List Value} {q : Fin 4} {i o : Int} {x : Int32} {cd : ClassFile.Cond} (d1 : decode B pc = .ok (.iload_n q, 1)) (d2 : decode B (pc + 1) = .ok (.bipush i, 2)) (d3 : decode B (pc + 3) = .ok (.if_icmp cd o, 3)) (hl : Ls[q.val]? = some (.val (.int x))) (hc : if_icmp.holds cd x (Int8.ofInt i).toInt32 = false) (k : own_R p e below P T m (pc + 3 + 3) Ls S) : own_R p e below P T m pc Ls S := own_il X hy d1 hl (own_bp X hy d2 (own_cn X hy d3 hc k))
theorem own_gf (X : Stand p l e R s m args below meth c T locs cells slots) {B : ByteArray} (hy : own_Y p c B) (hZ : Z.Warmed39 s.vm) {own R0 O n d host : String} {index : Nat} (hown : s.vm.findClass own = some m.cls) (w : (Cond.fieldLink own index R0 n d).before a0 Z = true ∨ (Cond.fieldLinkNest own index R0 n d host).before a0 Z = true) (via : Via Z R0 O n d)
  (eT : T.heap = h) {a : Addr} {v : Value} (F : Fld Z h a O n d v) {pc : Nat} {Ls : Array Slot} {S : List Value} (hd : decode B pc = .ok (.getfield index, 3))
  (k : ∀ T', Stand p l e R s m args below meth c T' locs cells slots → T'.heap = h → own_R p e below P T' m (pc + 3) Ls (v :: S)) : own_R p e below P T m pc Ls (.ref a :: S) := by
 obtain ⟨T', X', e', st⟩ := getF X hy.1 hZ hown w via eT F (g := mkF m pc Ls (.ref a :: S)) rfl rfl (hb hy.2 hd)
 obtain ⟨t, o, k1, k2⟩ := k T' X' e'
 exact ⟨t, o, st _ k1, k2⟩
theorem own_pf (X : Stand p l e R s m args below meth c T locs cells slots) {B : ByteArray} (hy : own_Y p c B) (hZ : Z.Warmed39 s.vm) {own R0 O n d host C : String} {index kk : Nat} {ty : FieldType} (hown : s.vm.findClass own = some m.cls) (w : (Cond.fieldLink own index R0 n d).before a0 Z = true ∨ (Cond.fieldLinkNest own index R0 n d host).before a0 Z = true) (via : Via Z R0 O n d)
  (eT : T.heap = h) {a : Addr} {v old : Value} (F : Fld Z h a O n d old) (E : Exa Z h a C) (L : (Cond.lays C O n d).before a0 Z = true ∨ ((Cond.laysFinal C O n d).before a0 Z = true ∧ own = O ∧ meth.name = "<init>")) (wi : (Cond.instantiable C kk).before a0 Z = true)
  (hty : parseFieldDescriptor d = some ty) (hn : narrow ty v = v) (hf : fits ty v = true) {pc : Nat} {Ls : Array Slot} {S : List Value} (hd : decode B pc = .ok (.putfield index, 3))
  (k : ∀ T' h', Stand p l e R s m args below meth c T' (locs ++ [⟨a, Jvm.RoadKit.slotOf Z O n d⟩]) cells slots → T'.heap = h' → Wr h h' a (Jvm.RoadKit.slotOf Z O n d) v → own_R p e below P T' m (pc + 3) Ls S) : own_R p e below P T m pc Ls (v :: .ref a :: S) := by
 obtain ⟨T', h', X', e', W, st⟩ := putF X hy.1 hZ hown w via eT F E L wi hty hn hf (g := mkF m pc Ls (v :: .ref a :: S)) rfl rfl (hb hy.2 hd)
 obtain ⟨t, o, k1, k2⟩ := k T' h' X' e' W
 exact ⟨t, o, st _ k1, k2⟩
theorem own_pn (X : Stand p l e R s m args below meth c T locs cells slots) {B : ByteArray} (hy : own_Y p c B) (hZ : Z.Warmed39 s.vm) {own R0 O n d C : String} {index kk : Nat} {ty : FieldType} (hown : s.vm.findClass own = some m.cls) (w : (Cond.fieldLink own index R0 n d).before a0 Z = true) (via : Via Z R0 O n d)
  (eT : T.heap = h) {a : Addr} {v v' old : Value} (F : Fld Z h a O n d old) (E : Exa Z h a C) (L : (Cond.lays C O n d).before a0 Z = true ∨ ((Cond.laysFinal C O n d).before a0 Z = true ∧ own = O ∧ meth.name = "<init>")) (wi : (Cond.instantiable C kk).before a0 Z = true)
  (hty : parseFieldDescriptor d = some ty) (hn : narrow ty v = v') (hf : fits ty v' = true) {pc : Nat} {Ls : Array Slot} {S : List Value} (hd : decode B pc = .ok (.putfield index, 3))
  (k : ∀ T' h', Stand p l e R s m args below meth c T' (locs ++ [⟨a, Jvm.RoadKit.slotOf Z O n d⟩]) cells slots → T'.heap = h' → Wr h h' a (Jvm.RoadKit.slotOf Z O n d) v' → own_R p e below P T' m (pc + 3) Ls S) : own_R p e below P T m pc Ls (v :: .ref a :: S) := by
 obtain ⟨T', h', X', e', W, st⟩ := putFN X hy.1 hZ hown w via eT F E L wi hty hn hf (g := mkF m pc Ls (v :: .ref a :: S)) rfl rfl (hb hy.2 hd)
 obtain ⟨t, o, k1, k2⟩ := k T' h' X' e' W
 exact ⟨t, o, st _ k1, k2⟩
theorem own_gs (X : Stand p l e R s m args below meth c T locs cells slots) {B : ByteArray} (hy : own_Y p c B) (hZ : Z.Warmed39 s.vm) {own R0 n d host : String} {index : Nat} (hown : s.vm.findClass own = some m.cls) (w : (Cond.fieldLink own index R0 n d).before a0 Z = true ∨ (Cond.fieldLinkNest own index R0 n d host).before a0 Z = true)
  (eT : T.heap = h) {v : Value} (F : Sta Z h R0 n d v) {pc : Nat} {Ls : Array Slot} {S : List Value} (hd : decode B pc = .ok (.getstatic index, 3))
  (k : ∀ T', Stand p l e R s m args below meth c T' locs cells slots → T'.heap = h → own_R p e below P T' m (pc + 3) Ls (v :: S)) : own_R p e below P T m pc Ls S := by
 obtain ⟨T', X', e', st⟩ := getS2 X hy.1 hZ hown w Via.refl eT F (g := mkF m pc Ls S) rfl (hb hy.2 hd)
 obtain ⟨t, o, k1, k2⟩ := k T' X' e'
 exact ⟨t, o, st _ k1, k2⟩
theorem own_ca (X : Stand p l e R s m args below meth c T locs cells slots) {B : ByteArray} (hy : own_Y p c B) (hZ : Z.Warmed39 s.vm) (eT : T.heap = h) {a : Addr} {kc : ClassId} {z j : Int32} {vs : List Value} {dv v : Value} (F : Arv Z h a kc .char z vs dv) (hj : ¬ j < 0 ∧ j < z) (hv : vs.getD j.toNatClampNeg dv = v)
  {pc : Nat} {Ls : Array Slot} {S : List Value} (hd : decode B pc = .ok (.caload, 1))
  (k : own_R p e below P T m (pc + 1) Ls (v :: S)) : own_R p e below P T m pc Ls (.int j :: .ref a :: S) := by
 obtain ⟨t, o, k1, k2⟩ := k
 obtain ⟨cl, Ar, -, Sz, M, H, -⟩ := F
 have hin : ¬ (j < 0 ∨ cl.slots.size ≤ j.toNatClampNeg) := inb_of Sz hj
 have hat : cl.slots[j.toNatClampNeg]? = some v := H.at hin hv
 exact ⟨t, o, X.caload hy.1 (by rw [eT]; exact Ar.1) (State.isArrayOf_alike hZ.alike Ar.2.1) Ar.2.2 hin hat (g := mkF m pc Ls (.int j :: .ref a :: S)) rfl rfl (hb hy.2 hd) _ k1, k2⟩
theorem own_bb (X : Stand p l e R s m args below meth c T locs cells slots) {B : ByteArray} (hy : own_Y p c B) (hZ : Z.Warmed39 s.vm) (eT : T.heap = h) {a : Addr} {kc : ClassId} {z j : Int32} {vs : List Value} {dv v : Value} (F : Arv Z h a kc .byte z vs dv) (hj : ¬ j < 0 ∧ j < z) (hv : vs.getD j.toNatClampNeg dv = v)
  {pc : Nat} {Ls : Array Slot} {S : List Value} (hd : decode B pc = .ok (.baload, 1))
  (k : own_R p e below P T m (pc + 1) Ls (v :: S)) : own_R p e below P T m pc Ls (.int j :: .ref a :: S) := by
 obtain ⟨t, o, k1, k2⟩ := k
 obtain ⟨cl, Ar, -, Sz, M, H, -⟩ := F
 have hin : ¬ (j < 0 ∨ cl.slots.size ≤ j.toNatClampNeg) := inb_of Sz hj
 have hat : cl.slots[j.toNatClampNeg]? = some v := H.at hin hv
 exact ⟨t, o, X.baloadBytes hy.1 (by rw [eT]; exact Ar.1) (State.isArrayOf_alike hZ.alike Ar.2.1) Ar.2.2 hin hat (g := mkF m pc Ls (.int j :: .ref a :: S)) rfl rfl (hb hy.2 hd) _ k1, k2⟩
theorem own_bz (X : Stand p l e R s m args below meth c T locs cells slots) {B : ByteArray} (hy : own_Y p c B) (hZ : Z.Warmed39 s.vm) (eT : T.heap = h) {a : Addr} {kc : ClassId} {z j : Int32} {vs : List Value} {dv v : Value} (F : Arv Z h a kc .boolean z vs dv) (hj : ¬ j < 0 ∧ j < z) (hv : vs.getD j.toNatClampNeg dv = v)
  {pc : Nat} {Ls : Array Slot} {S : List Value} (hd : decode B pc = .ok (.baload, 1))
  (k : own_R p e below P T m (pc + 1) Ls (v :: S)) : own_R p e below P T m pc Ls (.int j :: .ref a :: S) := by
 obtain ⟨t, o, k1, k2⟩ := k
 obtain ⟨cl, Ar, -, Sz, M, H, -⟩ := F
 have hin : ¬ (j < 0 ∨ cl.slots.size ≤ j.toNatClampNeg) := inb_of Sz hj
 have hat : cl.slots[j.toNatClampNeg]? = some v := H.at hin hv
 exact ⟨t, o, X.baloadBooleans hy.1 (by rw [eT]; exact Ar.1) (State.isArrayOf_alike hZ.alike Ar.2.1) Ar.2.2 hin hat (g := mkF m pc Ls (.int j :: .ref a :: S)) rfl rfl (hb hy.2 hd) _ k1, k2⟩
theorem own_ln (X : Stand p l e R s m args below meth c T locs cells slots) {B : ByteArray} (hy : own_Y p c B) (hZ : Z.Warmed39 s.vm) (eT : T.heap = h) {a : Addr} {kc : ClassId} {ty : FieldType} {z : Int32} {vs : List Value} {dv : Value} (F : Arv Z h a kc ty z vs dv)
  {pc : Nat} {Ls : Array Slot} {S : List Value} (hd : decode B pc = .ok (.arraylength, 1))
  (k : own_R p e below P T m (pc + 1) Ls (.int z :: S)) : own_R p e below P T m pc Ls (.ref a :: S) := by
 obtain ⟨t, o, k1, k2⟩ := k
 obtain ⟨cl, Ar, -, Sz, M, -, -⟩ := F
 exact ⟨t, o, X.arraylength hy.1 (by rw [eT]; exact Ar.1) (State.isArrayOf_alike hZ.alike Ar.2.1) (g := mkF m pc Ls (.ref a :: S)) rfl rfl (hb hy.2 hd) _ (by rw [len_of Sz M]; exact k1), k2⟩
theorem own_rI (X : Stand p l e R s m args below meth c T locs cells slots) {B : ByteArray} (hy : own_Y p c B) (hret : meth.sig.returnType = some .int) (hlk : meth.locks = false) {pc : Nat} {Ls : Array Slot} {z : Int32} {rest : List Value} (hd : decode B pc = .ok (.ireturn, 1)) (eT : T.heap = h) {Q : Option Value → Heap → List Loc → Prop} (hQ : Q (some (.int z)) h locs) (hc : cells ≤ R.cells := by decide) (hs : slots ≤ R.slots := by decide) :
  own_R p e below (own_E s below R Q) T m pc Ls (.int z :: rest) := by
 obtain ⟨fs, hrr, hrun, hended, hW, hsame⟩ := X.leave (v := (some (.int z))) (fun h => by rw [hret] at h; cases h) hlk
 subst eT
 exact ⟨_, _, retI X hy.1 hret (hb hy.2 hd) hrr, hrun, hended, _, _, rfl, hQ, ⟨_, rfl⟩, hW, hsame.mono hc hs⟩
theorem own_rZ (X : Stand p l e R s m args below meth c T locs cells slots) {B : ByteArray} (hy : own_Y p c B) (hret : meth.sig.returnType = some .boolean) (hlk : meth.locks = false) {pc : Nat} {Ls : Array Slot} {z w : Int32} {rest : List Value} (hw : nar .boolean z = w) (hd : decode B pc = .ok (.ireturn, 1)) (eT : T.heap = h) {Q : Option Value → Heap → List Loc → Prop} (hQ : Q (some (.int w)) h locs) (hc : cells ≤ R.cells := by decide) (hs : slots ≤ R.slots := by decide) :
  own_R p e below (own_E s below R Q) T m pc Ls (.int z :: rest) := by
 subst hw
 obtain ⟨fs, hrr, hrun, hended, hW, hsame⟩ := X.leave (v := (some (.int (nar .boolean z)))) (fun h => by rw [hret] at h; cases h) hlk
 subst eT
 exact ⟨_, _, retN X hy.1 (t := .boolean) hret (by simp) (hb hy.2 hd) hrr, hrun, hended, _, _, rfl, hQ, ⟨_, rfl⟩, hW, hsame.mono hc hs⟩
theorem own_rT (X : Stand p l e R s m args below meth c T locs cells slots) {B : ByteArray} (hy : own_Y p c B) (hret : meth.sig.returnType = some .boolean) (hlk : meth.locks = false) {pc : Nat} {Ls : Array Slot} {rest : List Value} (hd : decode B pc = .ok (.ireturn, 1)) (eT : T.heap = h) {Q : Option Value → Heap → List Loc → Prop} (hQ : Q (some (.int 1)) h locs) (hc : cells ≤ R.cells := by decide) (hs : slots ≤ R.slots := by decide) :
  own_R p e below (own_E s below R Q) T m pc Ls (.int 1 :: rest) := own_rZ X hy hret hlk rfl hd eT hQ hc hs
theorem own_rF (X : Stand p l e R s m args below meth c T locs cells slots) {B : ByteArray} (hy : own_Y p c B) (hret : meth.sig.returnType = some .boolean) (hlk : meth.locks = false) {pc : Nat} {Ls : Array Slot} {rest : List Value} (hd : decode B pc = .ok (.ireturn, 1)) (eT : T.heap = h) {Q : Option Value → Heap → List Loc → Prop} (hQ : Q (some (.int 0)) h locs) (hc : cells ≤ R.cells := by decide) (hs : slots ≤ R.slots := by decide) :
  own_R p e below (own_E s below R Q) T m pc Ls (.int 0 :: rest) := own_rZ X hy hret hlk rfl hd eT hQ hc hs
theorem own_rV (X : Stand p l e R s m args below meth c T locs cells slots) {B : ByteArray} (hy : own_Y p c B) (hret : meth.sig.returnType = none) (hlk : meth.locks = false) {pc : Nat} {Ls : Array Slot} (hd : decode B pc = .ok (.return_, 1)) (eT : T.heap = h) {Q : Option Value → Heap → List Loc → Prop} (hQ : Q none h locs) (hc : cells ≤ R.cells := by decide) (hs : slots ≤ R.slots := by decide) :
  own_R p e below (own_E s below R Q) T m pc Ls [] := by
 obtain ⟨fs, hrr, hrun, hended, hW, hsame⟩ := X.leave (v := none) (fun _ => rfl) hlk
 subst eT
 exact ⟨_, _, X.returnOut hy.1 hret (hb hy.2 hd) hrr, hrun, hended, _, _, rfl, hQ, ⟨_, rfl⟩, hW, hsame.mono hc hs⟩
def own_Wp (Z : State) (a0 : Array Value) (own : String) (index : Nat) (C n d : String) (bytes : ByteArray) (maxL : Nat) (ret : Option FieldType) : Prop := (Cond.methodLink own index ⟨C, n, d⟩).before a0 Z = true ∧ (Cond.instanceMethod ⟨C, n, d⟩).before a0 Z = true ∧ (Cond.selects C ⟨C, n, d⟩ ⟨C, n, d⟩).before a0 Z = true ∧ (Cond.privateMethod ⟨C, n, d⟩).before a0 Z = true ∧ (Cond.code ⟨C, n, d⟩ bytes maxL ret).before a0 Z = true ∧ (Cond.initialized C).before a0 Z = true ∧ (C ≠ "java/lang/invoke/MethodHandle" ∧ C ≠ "java/lang/invoke/VarHandle")
def own_Wv (Z : State) (a0 : Array Value) (own : String) (index : Nat) (C n d : String) (bytes : ByteArray) (maxL : Nat) (ret : Option FieldType) : Prop := (Cond.methodLink own index ⟨C, n, d⟩).before a0 Z = true ∧ (Cond.declares ⟨C, n, d⟩).before a0 Z = true ∧ (Cond.selects C ⟨C, n, d⟩ ⟨C, n, d⟩).before a0 Z = true ∧ (Cond.instanceMethod ⟨C, n, d⟩).before a0 Z = true ∧ (Cond.code ⟨C, n, d⟩ bytes maxL ret).before a0 Z = true ∧ (Cond.initialized C).before a0 Z = true ∧ (C ≠ "java/lang/invoke/MethodHandle" ∧ C ≠ "java/lang/invoke/VarHandle")
def own_Ws (Z : State) (a0 : Array Value) (own : String) (index : Nat) (C n d : String) (bytes : ByteArray) (maxL : Nat) (ret : Option FieldType) : Prop := (Cond.methodLink own index ⟨C, n, d⟩).before a0 Z = true ∧ (Cond.static ⟨C, n, d⟩).before a0 Z = true ∧ (Cond.code ⟨C, n, d⟩ bytes maxL ret).before a0 Z = true ∧ (Cond.initialized C).before a0 Z = true ∧ (C ≠ "java/lang/invoke/MethodHandle" ∧ C ≠ "java/lang/invoke/VarHandle")
theorem own_cp (X : Stand p l e R s m args below meth c T locs cells slots) {B : ByteArray} (hy : own_Y p c B) (hZ : Z.Warmed39 s.vm) {own C n d : String} {index : Nat} {bytes : ByteArray} {maxL : Nat} {ret : Option FieldType} (hown : s.vm.findClass own = some m.cls) (w : own_Wp Z a0 own index C n d bytes maxL ret) {rm : Room} {Q : Option Value → Heap → List Loc → Prop} {S : List Value} {b : Addr} (hM : own_MF l C n d bytes maxL ret rm #[.ref b] Z h Q) (eT : T.heap = h) {C' : String} (E : Exa Z h b C') {pc : Nat} {Ls : Array Slot} (hd : decode B pc = .ok (.invokevirtual index, 3)) {fs : List FieldType} {r : Option FieldType} (hlen : parseMethodDescriptor d = some ⟨fs, r⟩) {mx : Nat} (hml : c.maxLocals = mx) (k : ∀ v T' L', Stand p l e R s m args below meth c T' (locs ++ L') (cells + rm.cells) (slots + rm.slots) → Q v T'.heap L' → own_R p e below P T' m (pc + 3) Ls (v.toList ++ S)) (hll : ([] : List Value).length = fs.length := by rfl) (hsz : Ls.size = mx := by rfl) (hf : rm.frames + 1 ≤ R.frames := by first | decide | exact Nat.le_of_ble_eq_true rfl | assumption) (hlo : (S.map fun v => v.category).sum + (maxL + 11) + rm.locals ≤ R.locals := by first | decide | exact Nat.le_of_ble_eq_true rfl | assumption) (hc : cells + rm.cells ≤ R.cells := by first | decide | exact Nat.le_of_ble_eq_true rfl | assumption) (hs : slots + rm.slots ≤ R.slots := by first | decide | exact Nat.le_of_ble_eq_true rfl | assumption) : own_R p e below P T m pc Ls (.ref b :: S) := by
 obtain ⟨cell, q1, q2⟩ := E.cell
 obtain ⟨v, vm1, ⟨T', L', k', n'⟩, -, X', ⟨Lc, hQ, l', y', z'⟩, st'⟩ := X.privateBack hy.1 (y := (⟨C, n, d⟩ : MethodName)) hown (mvT hZ w.1) (mvT hZ w.2.1) (mvT hZ w.2.2.1) (Cond.privateMethod_at (mvP hZ w.2.2.2.1 (args := #[]))) (mvT hZ w.2.2.2.2.1) w.2.2.2.2.2.2 (backOf (W := (S.map fun v => v.category).sum) hM hZ w.2.2.2.2.1 w.2.2.2.2.2.1 hf hlo) (g := mkF m pc Ls (.ref b :: S)) rfl (hsz.trans hml.symm) (Steps.refl _) (a := b) (by rw [eT]; exact q1) q2 (argsL := []) (rest := S) (lenOf hlen hll) rfl (by show 2 * 0 + _ ≤ _; omega) (hb hy.2 hd) (fun _ _ => ⟨rfl, eT, hc, hs⟩)
 dsimp only [Pt.U, Pt.locs, Pt.cells, Pt.slots] at X' l' y' z' st' hQ
 subst l' y' z'
 obtain ⟨t, o, k1, k2⟩ := k v T' Lc X' hQ
 exact ⟨t, o, st'.trans k1, k2⟩
theorem own_cpg (X : Stand p l e R s m args below meth c T locs cells slots) {B : ByteArray} (hy : own_Y p c B) (hZ : Z.Warmed39 s.vm) {own C n d : String} {index : Nat} {bytes : ByteArray} {maxL : Nat} {ret : Option FieldType} (hown : s.vm.findClass own = some m.cls) (w : own_Wp Z a0 own index C n d bytes maxL ret) {rm : Room} {Q : Option Value → Heap → List Loc → Prop} {S : List Value} {as st : List Value} {b : Addr} (hM : own_MF l C n d bytes maxL ret rm (Value.ref b :: as).toArray Z h Q) (eT : T.heap = h) {C' : String} (E : Exa Z h b C') (hst : st = as.reverse ++ .ref b :: S) {pc : Nat} {Ls : Array Slot} (hd : decode B pc = .ok (.invokevirtual index, 3)) {fs : List FieldType} {r : Option FieldType} (hlen : parseMethodDescriptor d = some ⟨fs, r⟩) {mx : Nat} (hml : c.maxLocals = mx) (k : ∀ v T' L', Stand p l e R s m args below meth c T' (locs ++ L') (cells + rm.cells) (slots + rm.slots) → Q v T'.heap L' → own_R p e below P T' m (pc + 3) Ls (v.toList ++ S)) (hll : (as : List Value).length = fs.length := by rfl) (hsz : Ls.size = mx := by rfl) (hf : rm.frames + 1 ≤ R.frames := by first | decide | exact Nat.le_of_ble_eq_true rfl | assumption) (hlo : (S.map fun v => v.category).sum + (maxL + 11) + rm.locals ≤ R.locals := by first | decide | exact Nat.le_of_ble_eq_true rfl | assumption) (hc : cells + rm.cells ≤ R.cells := by first | decide | exact Nat.le_of_ble_eq_true rfl | assumption) (hs : slots + rm.slots ≤ R.slots := by first | decide | exact Nat.le_of_ble_eq_true rfl | assumption) : own_R p e below P T m pc Ls st := by
 obtain ⟨cell, q1, q2⟩ := E.cell
 obtain ⟨v, vm1, ⟨T', L', k', n'⟩, -, X', ⟨Lc, hQ, l', y', z'⟩, st'⟩ := X.privateBack hy.1 (y := (⟨C, n, d⟩ : MethodName)) hown (mvT hZ w.1) (mvT hZ w.2.1) (mvT hZ w.2.2.1) (Cond.privateMethod_at (mvP hZ w.2.2.2.1 (args := #[]))) (mvT hZ w.2.2.2.2.1) w.2.2.2.2.2.2 (backOf (W := (S.map fun v => v.category).sum) hM hZ w.2.2.2.2.1 w.2.2.2.2.2.1 hf hlo) (g := mkF m pc Ls st) rfl (hsz.trans hml.symm) (Steps.refl _) (a := b) (by rw [eT]; exact q1) q2 (argsL := as) (rest := S) (lenOf hlen hll) hst (by show 2 * 0 + _ ≤ _; omega) (hb hy.2 hd) (fun _ _ => ⟨rfl, eT, hc, hs⟩)
 dsimp only [Pt.U, Pt.locs, Pt.cells, Pt.slots] at X' l' y' z' st' hQ
 subst l' y' z'
 obtain ⟨t, o, k1, k2⟩ := k v T' Lc X' hQ
 exact ⟨t, o, st'.trans k1, k2⟩
theorem own_cv (X : Stand p l e R s m args below meth c T locs cells slots) {B : ByteArray} (hy : own_Y p c B) (hZ : Z.Warmed39 s.vm) {own C n d : String} {index : Nat} {bytes : ByteArray} {maxL : Nat} {ret : Option FieldType} (hown : s.vm.findClass own = some m.cls) (w : own_Wv Z a0 own index C n d bytes maxL ret) {rm : Room} {Q : Option Value → Heap → List Loc → Prop} {S : List Value} {b : Addr} (hM : own_MF l C n d bytes maxL ret rm #[.ref b] Z h Q) (eT : T.heap = h) (E : Exa Z h b C) {pc : Nat} {Ls : Array Slot} (hd : decode B pc = .ok (.invokevirtual index, 3)) {fs : List FieldType} {r : Option FieldType} (hlen : parseMethodDescriptor d = some ⟨fs, r⟩) {mx : Nat} (hml : c.maxLocals = mx) (k : ∀ v T' L', Stand p l e R s m args below meth c T' (locs ++ L') (cells + rm.cells) (slots + rm.slots) → Q v T'.heap L' → own_R p e below P T' m (pc + 3) Ls (v.toList ++ S)) (hll : ([] : List Value).length = fs.length := by rfl) (hsz : Ls.size = mx := by rfl) (hf : rm.frames + 1 ≤ R.frames := by first | decide | exact Nat.le_of_ble_eq_true rfl | assumption) (hlo : (S.map fun v => v.category).sum + (maxL + 11) + rm.locals ≤ R.locals := by first | decide | exact Nat.le_of_ble_eq_true rfl | assumption) (hc : cells + rm.cells ≤ R.cells := by first | decide | exact Nat.le_of_ble_eq_true rfl | assumption) (hs : slots + rm.slots ≤ R.slots := by first | decide | exact Nat.le_of_ble_eq_true rfl | assumption) : own_R p e below P T m pc Ls (.ref b :: S) := by
 obtain ⟨cq, kq, qa, qb, qc⟩ := isOf hZ eT E
 obtain ⟨v, vm1, ⟨T', L', k', n'⟩, -, X', ⟨Lc, hQ, l', y', z'⟩, st'⟩ := X.virtualBack hy.1 (y := (⟨C, n, d⟩ : MethodName)) (z := (⟨C, n, d⟩ : MethodName)) hown (mvT hZ w.1) (mvT hZ w.2.1) (notFace_of_selects (args := #[]) (mvT hZ w.2.2.1)) (mvT hZ w.2.2.1) (mvT hZ w.2.2.2.1) w.2.2.2.2.2.2 (backOf (W := (S.map fun v => v.category).sum) hM hZ w.2.2.2.2.1 w.2.2.2.2.2.1 hf hlo) qa qc (g := mkF m pc Ls (.ref b :: S)) rfl (hsz.trans hml.symm) (Steps.refl _) (argsL := []) (rest := S) (lenOf hlen hll) rfl (by show 2 * 0 + _ ≤ _; omega) (hb hy.2 hd) (fun _ _ => ⟨rfl, eT, hc, hs⟩)
 dsimp only [Pt.U, Pt.locs, Pt.cells, Pt.slots] at X' l' y' z' st' hQ
 subst l' y' z'
 obtain ⟨t, o, k1, k2⟩ := k v T' Lc X' hQ
 exact ⟨t, o, st'.trans k1, k2⟩
theorem own_cvg (X : Stand p l e R s m args below meth c T locs cells slots) {B : ByteArray} (hy : own_Y p c B) (hZ : Z.Warmed39 s.vm) {own C n d : String} {index : Nat} {bytes : ByteArray} {maxL : Nat} {ret : Option FieldType} (hown : s.vm.findClass own = some m.cls) (w : own_Wv Z a0 own index C n d bytes maxL ret) {rm : Room} {Q : Option Value → Heap → List Loc → Prop} {S : List Value} {as st : List Value} {b : Addr} (hM : own_MF l C n d bytes maxL ret rm (Value.ref b :: as).toArray Z h Q) (eT : T.heap = h) (E : Exa Z h b C) (hst : st = as.reverse ++ .ref b :: S) {pc : Nat} {Ls : Array Slot} (hd : decode B pc = .ok (.invokevirtual index, 3)) {fs : List FieldType} {r : Option FieldType} (hlen : parseMethodDescriptor d = some ⟨fs, r⟩) {mx : Nat} (hml : c.maxLocals = mx) (k : ∀ v T' L', Stand p l e R s m args below meth c T' (locs ++ L') (cells + rm.cells) (slots + rm.slots) → Q v T'.heap L' → own_R p e below P T' m (pc + 3) Ls (v.toList ++ S)) (hll : (as : List Value).length = fs.length := by rfl) (hsz : Ls.size = mx := by rfl) (hf : rm.frames + 1 ≤ R.frames := by first | decide | exact Nat.le_of_ble_eq_true rfl | assumption) (hlo : (S.map fun v => v.category).sum + (maxL + 11) + rm.locals ≤ R.locals := by first | decide | exact Nat.le_of_ble_eq_true rfl | assumption) (hc : cells + rm.cells ≤ R.cells := by first | decide | exact Nat.le_of_ble_eq_true rfl | assumption) (hs : slots + rm.slots ≤ R.slots := by first | decide | exact Nat.le_of_ble_eq_true rfl | assumption) : own_R p e below P T m pc Ls st := by
 obtain ⟨cq, kq, qa, qb, qc⟩ := isOf hZ eT E
 obtain ⟨v, vm1, ⟨T', L', k', n'⟩, -, X', ⟨Lc, hQ, l', y', z'⟩, st'⟩ := X.virtualBack hy.1 (y := (⟨C, n, d⟩ : MethodName)) (z := (⟨C, n, d⟩ : MethodName)) hown (mvT hZ w.1) (mvT hZ w.2.1) (notFace_of_selects (args := #[]) (mvT hZ w.2.2.1)) (mvT hZ w.2.2.1) (mvT hZ w.2.2.2.1) w.2.2.2.2.2.2 (backOf (W := (S.map fun v => v.category).sum) hM hZ w.2.2.2.2.1 w.2.2.2.2.2.1 hf hlo) qa qc (g := mkF m pc Ls st) rfl (hsz.trans hml.symm) (Steps.refl _) (argsL := as) (rest := S) (lenOf hlen hll) hst (by show 2 * 0 + _ ≤ _; omega) (hb hy.2 hd) (fun _ _ => ⟨rfl, eT, hc, hs⟩)
 dsimp only [Pt.U, Pt.locs, Pt.cells, Pt.slots] at X' l' y' z' st' hQ
 subst l' y' z'
 obtain ⟨t, o, k1, k2⟩ := k v T' Lc X' hQ
 exact ⟨t, o, st'.trans k1, k2⟩
theorem own_cs (X : Stand p l e R s m args below meth c T locs cells slots) {B : ByteArray} (hy : own_Y p c B) (hZ : Z.Warmed39 s.vm) {own C n d : String} {index : Nat} {bytes : ByteArray} {maxL : Nat} {ret : Option FieldType} (hown : s.vm.findClass own = some m.cls) (w : own_Ws Z a0 own index C n d bytes maxL ret) {rm : Room} {Q : Option Value → Heap → List Loc → Prop} {S : List Value} {a : Value} (hM : own_MF l C n d bytes maxL ret rm #[a] Z h Q) (eT : T.heap = h) {pc : Nat} {Ls : Array Slot} (hd : decode B pc = .ok (.invokestatic index, 3)) {fs : List FieldType} {r : Option FieldType} (hlen : parseMethodDescriptor d = some ⟨fs, r⟩) {mx : Nat} (hml : c.maxLocals = mx) (k : ∀ v T' L', Stand p l e R s m args below meth c T' (locs ++ L') (cells + rm.cells) (slots + rm.slots) → Q v T'.heap L' → own_R p e below P T' m (pc + 3) Ls (v.toList ++ S)) (hll : ([a] : List Value).length = fs.length := by rfl) (hsz : Ls.size = mx := by rfl) (hf : rm.frames + 1 ≤ R.frames := by first | decide | exact Nat.le_of_ble_eq_true rfl | assumption) (hlo : (S.map fun v => v.category).sum + (maxL + 11) + rm.locals ≤ R.locals := by first | decide | exact Nat.le_of_ble_eq_true rfl | assumption) (hc : cells + rm.cells ≤ R.cells := by first | decide | exact Nat.le_of_ble_eq_true rfl | assumption) (hs : slots + rm.slots ≤ R.slots := by first | decide | exact Nat.le_of_ble_eq_true rfl | assumption) : own_R p e below P T m pc Ls (a :: S) := by
 obtain ⟨v, vm1, ⟨T', L', k', n'⟩, -, X', ⟨Lc, hQ, l', y', z'⟩, st'⟩ := Jvm.LawKit.callS X hy.1 (y := (⟨C, n, d⟩ : MethodName)) hown (mvT hZ w.1) (mvT hZ w.2.1) (mvT hZ w.2.2.2.1) (mvT hZ w.2.2.1) w.2.2.2.2 (backOf (W := (S.map fun v => v.category).sum) hM hZ w.2.2.1 w.2.2.2.1 hf hlo) (g := mkF m pc Ls (a :: S)) rfl (hsz.trans hml.symm) (argsL := [a]) (rest := S) (lenOf hlen hll) rfl (by show 2 * 0 + _ ≤ _; omega) (hb hy.2 hd) (fun _ _ => ⟨rfl, eT, hc, hs⟩)
 dsimp only [Pt.U, Pt.locs, Pt.cells, Pt.slots] at X' l' y' z' st' hQ
 subst l' y' z'
 obtain ⟨t, o, k1, k2⟩ := k v T' Lc X' hQ
 exact ⟨t, o, st' _ k1, k2⟩
theorem own_csg (X : Stand p l e R s m args below meth c T locs cells slots) {B : ByteArray} (hy : own_Y p c B) (hZ : Z.Warmed39 s.vm) {own C n d : String} {index : Nat} {bytes : ByteArray} {maxL : Nat} {ret : Option FieldType} (hown : s.vm.findClass own = some m.cls) (w : own_Ws Z a0 own index C n d bytes maxL ret) {rm : Room} {Q : Option Value → Heap → List Loc → Prop} {S : List Value} {as st : List Value} (hM : own_MF l C n d bytes maxL ret rm as.toArray Z h Q) (eT : T.heap = h) (hst : st = as.reverse ++ S) {pc : Nat} {Ls : Array Slot} (hd : decode B pc = .ok (.invokestatic index, 3)) {fs : List FieldType} {r : Option FieldType} (hlen : parseMethodDescriptor d = some ⟨fs, r⟩) {mx : Nat} (hml : c.maxLocals = mx) (k : ∀ v T' L', Stand p l e R s m args below meth c T' (locs ++ L') (cells + rm.cells) (slots + rm.slots) → Q v T'.heap L' → own_R p e below P T' m (pc + 3) Ls (v.toList ++ S)) (hll : (as : List Value).length = fs.length := by rfl) (hsz : Ls.size = mx := by rfl) (hf : rm.frames + 1 ≤ R.frames := by first | decide | exact Nat.le_of_ble_eq_true rfl | assumption) (hlo : (S.map fun v => v.category).sum + (maxL + 11) + rm.locals ≤ R.locals := by first | decide | exact Nat.le_of_ble_eq_true rfl | assumption) (hc : cells + rm.cells ≤ R.cells := by first | decide | exact Nat.le_of_ble_eq_true rfl | assumption) (hs : slots + rm.slots ≤ R.slots := by first | decide | exact Nat.le_of_ble_eq_true rfl | assumption) : own_R p e below P T m pc Ls st := by
 obtain ⟨v, vm1, ⟨T', L', k', n'⟩, -, X', ⟨Lc, hQ, l', y', z'⟩, st'⟩ := Jvm.LawKit.callS X hy.1 (y := (⟨C, n, d⟩ : MethodName)) hown (mvT hZ w.1) (mvT hZ w.2.1) (mvT hZ w.2.2.2.1) (mvT hZ w.2.2.1) w.2.2.2.2 (backOf (W := (S.map fun v => v.category).sum) hM hZ w.2.2.1 w.2.2.2.1 hf hlo) (g := mkF m pc Ls st) rfl (hsz.trans hml.symm) (argsL := as) (rest := S) (lenOf hlen hll) hst (by show 2 * 0 + _ ≤ _; omega) (hb hy.2 hd) (fun _ _ => ⟨rfl, eT, hc, hs⟩)
 dsimp only [Pt.U, Pt.locs, Pt.cells, Pt.slots] at X' l' y' z' st' hQ
 subst l' y' z'
 obtain ⟨t, o, k1, k2⟩ := k v T' Lc X' hQ
 exact ⟨t, o, st' _ k1, k2⟩
end OwnWrap
section OwnWrapS
variable {p : Program} {l : Launch} {e : Env} {R : Room} {s : State} {vm0 : Vm} {m : MethodId} {args : Array Value} {below : List Frame} {meth : Method} {c : Code} {T : State} {locs : List Loc} {cells slots : Nat} {Z : State} {a0 : Array Value} {h : Heap} {P : State → Outcome → Prop}
theorem own_cpS (X : Stand p l e R (s.setVm vm0) m args below meth c T locs cells slots) {B : ByteArray} (hy : own_Y p c B) (hZ : Z.Warmed39 (s.setVm vm0).vm) {own C n d : String} {index : Nat} {bytes : ByteArray} {maxL : Nat} {ret : Option FieldType} (hown : (s.setVm vm0).vm.findClass own = some m.cls) (hw : own_HW Z a0) (hIn : own_In Z vm0 h) {k0 : Nat} (hS : s.Since vm0 k0) (hk : k0 ≤ h.size) (w : own_Wp Z a0 own index C n d bytes maxL ret) {rm : Room} {Q : Option Value → Heap → List Loc → Prop} {S : List Value} {b : Addr} (hM : own_MC l C n d bytes maxL ret rm #[.ref b] Z h Q) (eT : T.heap = h) {C' : String} (E : Exa Z h b C') {pc : Nat} {Ls : Array Slot} (hd : decode B pc = .ok (.invokevirtual index, 3)) {fs : List FieldType} {r : Option FieldType} (hlen : parseMethodDescriptor d = some ⟨fs, r⟩) {mx : Nat} (hml : c.maxLocals = mx) (k : ∀ v T' L', Stand p l e R (s.setVm T'.vm) m args below meth c T' (locs ++ L') (cells + rm.cells) (slots + rm.slots) → Q v T'.heap L' → s.Since T'.vm T'.heap.size → T'.heap.size ≤ T'.heap.size → Z.Warmed39 (s.setVm T'.vm).vm → (s.setVm T'.vm).vm.findClass own = some m.cls → own_In Z T'.vm T'.heap → own_R p e below P T' m (pc + 3) Ls (v.toList ++ S)) (hll : ([] : List Value).length = fs.length := by rfl) (hsz : Ls.size = mx := by rfl) (hf : rm.frames + 1 ≤ R.frames := by first | decide | exact Nat.le_of_ble_eq_true rfl | assumption) (hlo : (S.map fun v => v.category).sum + (maxL + 11) + rm.locals ≤ R.locals := by first | decide | exact Nat.le_of_ble_eq_true rfl | assumption) (hc : cells + rm.cells ≤ R.cells := by first | decide | exact Nat.le_of_ble_eq_true rfl | assumption) (hs : slots + rm.slots ≤ R.slots := by first | decide | exact Nat.le_of_ble_eq_true rfl | assumption) : own_R p e below P T m pc Ls (.ref b :: S) := by
 obtain ⟨cell, q1, q2⟩ := E.cell
 obtain ⟨v, vm1, ⟨T', L', k', n'⟩, -, X', hSq, hgr, ⟨Lc, hQ, l', y', z'⟩, st'⟩ := X.privateBackS hy.1 (y := (⟨C, n, d⟩ : MethodName)) hown (mvT hZ w.1) (mvT hZ w.2.1) (mvT hZ w.2.2.1) (Cond.privateMethod_at (mvP hZ w.2.2.2.1 (args := #[]))) (mvT hZ w.2.2.2.2.1) w.2.2.2.2.2.2 (own_backS (I := fun vm => own_In Z vm h) (Q := fun v h L vm => Q v h L ∧ own_In Z vm h) (W := (S.map fun v => v.category).sum) hM hZ w.2.2.2.2.1 w.2.2.2.2.2.1 hf hlo (fun _ hq => own_In.warm hZ (own_EW hw) hIn hq)) (g := mkF m pc Ls (.ref b :: S)) rfl (hsz.trans hml.symm) (Steps.refl _) (a := b) (by rw [eT]; exact q1) q2 (argsL := []) (rest := S) (lenOf hlen hll) rfl (by show 2 * 0 + _ ≤ _; omega) (hb hy.2 hd) (fun _ _ => ⟨rfl, eT, hc, hs⟩)
 dsimp only [Pt.U, Pt.locs, Pt.cells, Pt.slots] at X' l' y' z' st' hQ hSq hgr
 subst l' y' z'
 rw [eT] at hgr
 obtain ⟨t, o, k1, k2⟩ := k v T' Lc X' hQ.1 (hS.trans hSq (Nat.le_trans hk hgr)) (Nat.le_refl _) (State.Warmed39.trans (t := s.setVm vm0) hZ hSq.1) (by rw [show (s.setVm T'.vm).vm = T'.vm from rfl, hSq.1.alike.findClass]; exact hown) hQ.2
 exact ⟨t, o, st'.trans k1, k2⟩
theorem own_cpgS (X : Stand p l e R (s.setVm vm0) m args below meth c T locs cells slots) {B : ByteArray} (hy : own_Y p c B) (hZ : Z.Warmed39 (s.setVm vm0).vm) {own C n d : String} {index : Nat} {bytes : ByteArray} {maxL : Nat} {ret : Option FieldType} (hown : (s.setVm vm0).vm.findClass own = some m.cls) (hw : own_HW Z a0) (hIn : own_In Z vm0 h) {k0 : Nat} (hS : s.Since vm0 k0) (hk : k0 ≤ h.size) (w : own_Wp Z a0 own index C n d bytes maxL ret) {rm : Room} {Q : Option Value → Heap → List Loc → Prop} {S : List Value} {as st : List Value} {b : Addr} (hM : own_MC l C n d bytes maxL ret rm (Value.ref b :: as).toArray Z h Q) (eT : T.heap = h) {C' : String} (E : Exa Z h b C') (hst : st = as.reverse ++ .ref b :: S) {pc : Nat} {Ls : Array Slot} (hd : decode B pc = .ok (.invokevirtual index, 3)) {fs : List FieldType} {r : Option FieldType} (hlen : parseMethodDescriptor d = some ⟨fs, r⟩) {mx : Nat} (hml : c.maxLocals = mx) (k : ∀ v T' L', Stand p l e R (s.setVm T'.vm) m args below meth c T' (locs ++ L') (cells + rm.cells) (slots + rm.slots) → Q v T'.heap L' → s.Since T'.vm T'.heap.size → T'.heap.size ≤ T'.heap.size → Z.Warmed39 (s.setVm T'.vm).vm → (s.setVm T'.vm).vm.findClass own = some m.cls → own_In Z T'.vm T'.heap → own_R p e below P T' m (pc + 3) Ls (v.toList ++ S)) (hll : (as : List Value).length = fs.length := by rfl) (hsz : Ls.size = mx := by rfl) (hf : rm.frames + 1 ≤ R.frames := by first | decide | exact Nat.le_of_ble_eq_true rfl | assumption) (hlo : (S.map fun v => v.category).sum + (maxL + 11) + rm.locals ≤ R.locals := by first | decide | exact Nat.le_of_ble_eq_true rfl | assumption) (hc : cells + rm.cells ≤ R.cells := by first | decide | exact Nat.le_of_ble_eq_true rfl | assumption) (hs : slots + rm.slots ≤ R.slots := by first | decide | exact Nat.le_of_ble_eq_true rfl | assumption) : own_R p e below P T m pc Ls st := by
 obtain ⟨cell, q1, q2⟩ := E.cell
 obtain ⟨v, vm1, ⟨T', L', k', n'⟩, -, X', hSq, hgr, ⟨Lc, hQ, l', y', z'⟩, st'⟩ := X.privateBackS hy.1 (y := (⟨C, n, d⟩ : MethodName)) hown (mvT hZ w.1) (mvT hZ w.2.1) (mvT hZ w.2.2.1) (Cond.privateMethod_at (mvP hZ w.2.2.2.1 (args := #[]))) (mvT hZ w.2.2.2.2.1) w.2.2.2.2.2.2 (own_backS (I := fun vm => own_In Z vm h) (Q := fun v h L vm => Q v h L ∧ own_In Z vm h) (W := (S.map fun v => v.category).sum) hM hZ w.2.2.2.2.1 w.2.2.2.2.2.1 hf hlo (fun _ hq => own_In.warm hZ (own_EW hw) hIn hq)) (g := mkF m pc Ls st) rfl (hsz.trans hml.symm) (Steps.refl _) (a := b) (by rw [eT]; exact q1) q2 (argsL := as) (rest := S) (lenOf hlen hll) hst (by show 2 * 0 + _ ≤ _; omega) (hb hy.2 hd) (fun _ _ => ⟨rfl, eT, hc, hs⟩)
 dsimp only [Pt.U, Pt.locs, Pt.cells, Pt.slots] at X' l' y' z' st' hQ hSq hgr
 subst l' y' z'
 rw [eT] at hgr
 obtain ⟨t, o, k1, k2⟩ := k v T' Lc X' hQ.1 (hS.trans hSq (Nat.le_trans hk hgr)) (Nat.le_refl _) (State.Warmed39.trans (t := s.setVm vm0) hZ hSq.1) (by rw [show (s.setVm T'.vm).vm = T'.vm from rfl, hSq.1.alike.findClass]; exact hown) hQ.2
 exact ⟨t, o, st'.trans k1, k2⟩
theorem own_cvgS (X : Stand p l e R (s.setVm vm0) m args below meth c T locs cells slots) {B : ByteArray} (hy : own_Y p c B) (hZ : Z.Warmed39 (s.setVm vm0).vm) {own C n d : String} {index : Nat} {bytes : ByteArray} {maxL : Nat} {ret : Option FieldType} (hown : (s.setVm vm0).vm.findClass own = some m.cls) (hw : own_HW Z a0) (hIn : own_In Z vm0 h) {k0 : Nat} (hS : s.Since vm0 k0) (hk : k0 ≤ h.size) (w : own_Wv Z a0 own index C n d bytes maxL ret) {rm : Room} {Q : Option Value → Heap → List Loc → Prop} {S : List Value} {as st : List Value} {b : Addr} (hM : own_MC l C n d bytes maxL ret rm (Value.ref b :: as).toArray Z h Q) (eT : T.heap = h) (E : Exa Z h b C) (hst : st = as.reverse ++ .ref b :: S) {pc : Nat} {Ls : Array Slot} (hd : decode B pc = .ok (.invokevirtual index, 3)) {fs : List FieldType} {r : Option FieldType} (hlen : parseMethodDescriptor d = some ⟨fs, r⟩) {mx : Nat} (hml : c.maxLocals = mx) (k : ∀ v T' L', Stand p l e R (s.setVm T'.vm) m args below meth c T' (locs ++ L') (cells + rm.cells) (slots + rm.slots) → Q v T'.heap L' → s.Since T'.vm T'.heap.size → T'.heap.size ≤ T'.heap.size → Z.Warmed39 (s.setVm T'.vm).vm → (s.setVm T'.vm).vm.findClass own = some m.cls → own_In Z T'.vm T'.heap → own_R p e below P T' m (pc + 3) Ls (v.toList ++ S)) (hll : (as : List Value).length = fs.length := by rfl) (hsz : Ls.size = mx := by rfl) (hf : rm.frames + 1 ≤ R.frames := by first | decide | exact Nat.le_of_ble_eq_true rfl | assumption) (hlo : (S.map fun v => v.category).sum + (maxL + 11) + rm.locals ≤ R.locals := by first | decide | exact Nat.le_of_ble_eq_true rfl | assumption) (hc : cells + rm.cells ≤ R.cells := by first | decide | exact Nat.le_of_ble_eq_true rfl | assumption) (hs : slots + rm.slots ≤ R.slots := by first | decide | exact Nat.le_of_ble_eq_true rfl | assumption) : own_R p e below P T m pc Ls st := by
 obtain ⟨cq, kq, qa, qb, qc⟩ := isOf hZ eT E
 obtain ⟨v, vm1, ⟨T', L', k', n'⟩, -, X', hSq, hgr, ⟨Lc, hQ, l', y', z'⟩, st'⟩ := X.virtualBackS hy.1 (y := (⟨C, n, d⟩ : MethodName)) (z := (⟨C, n, d⟩ : MethodName)) hown (mvT hZ w.1) (mvT hZ w.2.1) (notFace_of_selects (args := #[]) (mvT hZ w.2.2.1)) (mvT hZ w.2.2.1) (mvT hZ w.2.2.2.1) w.2.2.2.2.2.2 (own_backS (I := fun vm => own_In Z vm h) (Q := fun v h L vm => Q v h L ∧ own_In Z vm h) (W := (S.map fun v => v.category).sum) hM hZ w.2.2.2.2.1 w.2.2.2.2.2.1 hf hlo (fun _ hq => own_In.warm hZ (own_EW hw) hIn hq)) qa qc (g := mkF m pc Ls st) rfl (hsz.trans hml.symm) (Steps.refl _) (argsL := as) (rest := S) (lenOf hlen hll) hst (by show 2 * 0 + _ ≤ _; omega) (hb hy.2 hd) (fun _ _ => ⟨rfl, eT, hc, hs⟩)
 dsimp only [Pt.U, Pt.locs, Pt.cells, Pt.slots] at X' l' y' z' st' hQ hSq hgr
 subst l' y' z'
 rw [eT] at hgr
 obtain ⟨t, o, k1, k2⟩ := k v T' Lc X' hQ.1 (hS.trans hSq (Nat.le_trans hk hgr)) (Nat.le_refl _) (State.Warmed39.trans (t := s.setVm vm0) hZ hSq.1) (by rw [show (s.setVm T'.vm).vm = T'.vm from rfl, hSq.1.alike.findClass]; exact hown) hQ.2
 exact ⟨t, o, st'.trans k1, k2⟩
theorem own_csS (X : Stand p l e R (s.setVm vm0) m args below meth c T locs cells slots) {B : ByteArray} (hy : own_Y p c B) (hZ : Z.Warmed39 (s.setVm vm0).vm) {own C n d : String} {index : Nat} {bytes : ByteArray} {maxL : Nat} {ret : Option FieldType} (hown : (s.setVm vm0).vm.findClass own = some m.cls) (hw : own_HW Z a0) (hIn : own_In Z vm0 h) {k0 : Nat} (hS : s.Since vm0 k0) (hk : k0 ≤ h.size) (w : own_Ws Z a0 own index C n d bytes maxL ret) {rm : Room} {Q : Option Value → Heap → List Loc → Prop} {S : List Value} {a : Value} (hM : own_MC l C n d bytes maxL ret rm #[a] Z h Q) (eT : T.heap = h) {pc : Nat} {Ls : Array Slot} (hd : decode B pc = .ok (.invokestatic index, 3)) {fs : List FieldType} {r : Option FieldType} (hlen : parseMethodDescriptor d = some ⟨fs, r⟩) {mx : Nat} (hml : c.maxLocals = mx) (k : ∀ v T' L', Stand p l e R (s.setVm T'.vm) m args below meth c T' (locs ++ L') (cells + rm.cells) (slots + rm.slots) → Q v T'.heap L' → s.Since T'.vm T'.heap.size → T'.heap.size ≤ T'.heap.size → Z.Warmed39 (s.setVm T'.vm).vm → (s.setVm T'.vm).vm.findClass own = some m.cls → own_In Z T'.vm T'.heap → own_R p e below P T' m (pc + 3) Ls (v.toList ++ S)) (hll : ([a] : List Value).length = fs.length := by rfl) (hsz : Ls.size = mx := by rfl) (hf : rm.frames + 1 ≤ R.frames := by first | decide | exact Nat.le_of_ble_eq_true rfl | assumption) (hlo : (S.map fun v => v.category).sum + (maxL + 11) + rm.locals ≤ R.locals := by first | decide | exact Nat.le_of_ble_eq_true rfl | assumption) (hc : cells + rm.cells ≤ R.cells := by first | decide | exact Nat.le_of_ble_eq_true rfl | assumption) (hs : slots + rm.slots ≤ R.slots := by first | decide | exact Nat.le_of_ble_eq_true rfl | assumption) : own_R p e below P T m pc Ls (a :: S) := by
 obtain ⟨v, vm1, ⟨T', L', k', n'⟩, -, X', hSq, hgr, ⟨Lc, hQ, l', y', z'⟩, st'⟩ := callSS X hy.1 (y := (⟨C, n, d⟩ : MethodName)) hown (mvT hZ w.1) (mvT hZ w.2.1) (mvT hZ w.2.2.2.1) (mvT hZ w.2.2.1) w.2.2.2.2 (own_backS (I := fun vm => own_In Z vm h) (Q := fun v h L vm => Q v h L ∧ own_In Z vm h) (W := (S.map fun v => v.category).sum) hM hZ w.2.2.1 w.2.2.2.1 hf hlo (fun _ hq => own_In.warm hZ (own_EW hw) hIn hq)) (g := mkF m pc Ls (a :: S)) rfl (hsz.trans hml.symm) (argsL := [a]) (rest := S) (lenOf hlen hll) rfl (by show 2 * 0 + _ ≤ _; omega) (hb hy.2 hd) (fun _ _ => ⟨rfl, eT, hc, hs⟩)
 dsimp only [Pt.U, Pt.locs, Pt.cells, Pt.slots] at X' l' y' z' st' hQ hSq hgr
 subst l' y' z'
 rw [eT] at hgr
 obtain ⟨t, o, k1, k2⟩ := k v T' Lc X' hQ.1 (hS.trans hSq (Nat.le_trans hk hgr)) (Nat.le_refl _) (State.Warmed39.trans (t := s.setVm vm0) hZ hSq.1) (by rw [show (s.setVm T'.vm).vm = T'.vm from rfl, hSq.1.alike.findClass]; exact hown) hQ.2
 exact ⟨t, o, st'.trans k1, k2⟩
theorem own_rIC (X : Stand p l e R (s.setVm vm0) m args below meth c T locs cells slots) {B : ByteArray} (hy : own_Y p c B) {k0 : Nat} (hS : s.Since vm0 k0) (hk : k0 ≤ h.size) (hret : meth.sig.returnType = some .int) (hlk : meth.locks = false) {pc : Nat} {Ls : Array Slot} {z : Int32} {rest : List Value} (hd : decode B pc = .ok (.ireturn, 1)) (hZ : Z.Warmed39 (s.setVm vm0).vm) (hw : own_HW Z a0) (hIn : own_In Z vm0 h) (eT : T.heap = h) {Q : Option Value → Heap → List Loc → Prop} (hQ : Q (some (.int z)) h locs) (hc : cells ≤ R.cells := by decide) (hs : slots ≤ R.slots := by decide) :
  own_R p e below (own_EC Z s below R Q) T m pc Ls (.int z :: rest) := by
 subst eT
 obtain ⟨fs, hrr, hrun, hended, rW1, rW2, rW3, rW4⟩ := X.leaveW hS hk (v := (some (.int z))) (fun h => by rw [hret] at h; cases h) hlk
 exact ⟨_, _, retI X hy.1 hret (hb hy.2 hd) hrr, hrun, hended, _, _, rfl, ⟨hQ, own_In.warm hZ (own_EW hw) hIn X.warmed⟩, rW1, rW2, rW3, rW4.mono hc hs⟩
theorem own_rZC (X : Stand p l e R (s.setVm vm0) m args below meth c T locs cells slots) {B : ByteArray} (hy : own_Y p c B) {k0 : Nat} (hS : s.Since vm0 k0) (hk : k0 ≤ h.size) (hret : meth.sig.returnType = some .boolean) (hlk : meth.locks = false) {pc : Nat} {Ls : Array Slot} {z w : Int32} {rest : List Value} (hn : nar .boolean z = w) (hd : decode B pc = .ok (.ireturn, 1)) (hZ : Z.Warmed39 (s.setVm vm0).vm) (hw : own_HW Z a0) (hIn : own_In Z vm0 h) (eT : T.heap = h) {Q : Option Value → Heap → List Loc → Prop} (hQ : Q (some (.int w)) h locs) (hc : cells ≤ R.cells := by decide) (hs : slots ≤ R.slots := by decide) :
  own_R p e below (own_EC Z s below R Q) T m pc Ls (.int z :: rest) := by
 subst hn
 subst eT
 obtain ⟨fs, hrr, hrun, hended, rW1, rW2, rW3, rW4⟩ := X.leaveW hS hk (v := (some (.int (nar .boolean z)))) (fun h => by rw [hret] at h; cases h) hlk
 exact ⟨_, _, retN X hy.1 (t := .boolean) hret (by simp) (hb hy.2 hd) hrr, hrun, hended, _, _, rfl, ⟨hQ, own_In.warm hZ (own_EW hw) hIn X.warmed⟩, rW1, rW2, rW3, rW4.mono hc hs⟩
theorem own_rVC (X : Stand p l e R (s.setVm vm0) m args below meth c T locs cells slots) {B : ByteArray} (hy : own_Y p c B) {k0 : Nat} (hS : s.Since vm0 k0) (hk : k0 ≤ h.size) (hret : meth.sig.returnType = none) (hlk : meth.locks = false) {pc : Nat} {Ls : Array Slot} (hd : decode B pc = .ok (.return_, 1)) (hZ : Z.Warmed39 (s.setVm vm0).vm) (hw : own_HW Z a0) (hIn : own_In Z vm0 h) (eT : T.heap = h) {Q : Option Value → Heap → List Loc → Prop} (hQ : Q (none) h locs) (hc : cells ≤ R.cells := by decide) (hs : slots ≤ R.slots := by decide) :
  own_R p e below (own_EC Z s below R Q) T m pc Ls [] := by
 subst eT
 obtain ⟨fs, hrr, hrun, hended, rW1, rW2, rW3, rW4⟩ := X.leaveW hS hk (v := (none)) (fun _ => rfl) hlk
 exact ⟨_, _, X.returnOut hy.1 hret (hb hy.2 hd) hrr, hrun, hended, _, _, rfl, ⟨hQ, own_In.warm hZ (own_EW hw) hIn X.warmed⟩, rW1, rW2, rW3, rW4.mono hc hs⟩
theorem own_rTC (X : Stand p l e R (s.setVm vm0) m args below meth c T locs cells slots) {B : ByteArray} (hy : own_Y p c B) {k0 : Nat} (hS : s.Since vm0 k0) (hk : k0 ≤ h.size) (hret : meth.sig.returnType = some .boolean) (hlk : meth.locks = false) {pc : Nat} {Ls : Array Slot} {rest : List Value} (hd : decode B pc = .ok (.ireturn, 1)) (hZ : Z.Warmed39 (s.setVm vm0).vm) (hw : own_HW Z a0) (hIn : own_In Z vm0 h) (eT : T.heap = h) {Q : Option Value → Heap → List Loc → Prop} (hQ : Q (some (.int 1)) h locs) (hc : cells ≤ R.cells := by decide) (hs : slots ≤ R.slots := by decide) :
  own_R p e below (own_EC Z s below R Q) T m pc Ls (.int 1 :: rest) := own_rZC X hy hS hk hret hlk rfl hd hZ hw hIn eT hQ hc hs
theorem own_rFC (X : Stand p l e R (s.setVm vm0) m args below meth c T locs cells slots) {B : ByteArray} (hy : own_Y p c B) {k0 : Nat} (hS : s.Since vm0 k0) (hk : k0 ≤ h.size) (hret : meth.sig.returnType = some .boolean) (hlk : meth.locks = false) {pc : Nat} {Ls : Array Slot} {rest : List Value} (hd : decode B pc = .ok (.ireturn, 1)) (hZ : Z.Warmed39 (s.setVm vm0).vm) (hw : own_HW Z a0) (hIn : own_In Z vm0 h) (eT : T.heap = h) {Q : Option Value → Heap → List Loc → Prop} (hQ : Q (some (.int 0)) h locs) (hc : cells ≤ R.cells := by decide) (hs : slots ≤ R.slots := by decide) :
  own_R p e below (own_EC Z s below R Q) T m pc Ls (.int 0 :: rest) := own_rZC X hy hS hk hret hlk rfl hd hZ hw hIn eT hQ hc hs
end OwnWrapS
theorem own_y0 {Z : State} {a0 : Array Value} (hw : own_HW Z a0) : own_Ws Z a0 "dev/parlance/JsonGrammar" 51 "dev/parlance/JsonGrammar" "isDigit" "(C)Z" prog_6_method_12_code 1 (some .boolean) := ⟨(own_w hw 88 rfl), (own_w hw 89 rfl), (own_w hw 90 rfl), (own_w hw 55 rfl), by decide⟩
theorem own_y1 {Z : State} {a0 : Array Value} (hw : own_HW Z a0) : own_Ws Z a0 "java/lang/String" 1059 "jdk/internal/util/Preconditions" "checkIndex" "(IILjava/util/function/BiFunction;)I" jdk_41_method_11_code 3 (some .int) := ⟨(own_w hw 33 rfl), (own_w hw 34 rfl), (own_w hw 35 rfl), (own_w hw 32 rfl), by decide⟩
theorem own_y2 {Z : State} {a0 : Array Value} (hw : own_HW Z a0) : own_Ws Z a0 "java/lang/StringLatin1" 9 "java/lang/String" "checkIndex" "(II)V" jdk_42_method_155_code 2 none := ⟨(own_w hw 28 rfl), (own_w hw 29 rfl), (own_w hw 30 rfl), (own_w hw 4 rfl), by decide⟩
theorem own_y3 {Z : State} {a0 : Array Value} (hw : own_HW Z a0) : own_Wv Z a0 "java/lang/String" 492 "java/lang/String" "isLatin1" "()Z" jdk_42_method_154_code 1 (some .boolean) := ⟨(own_w hw 16 rfl), (own_w hw 17 rfl), (own_w hw 19 rfl), (own_w hw 18 rfl), (own_w hw 20 rfl), (own_w hw 4 rfl), by decide⟩
theorem own_y4 {Z : State} {a0 : Array Value} (hw : own_HW Z a0) : own_Ws Z a0 "java/lang/String" 495 "java/lang/StringLatin1" "charAt" "([BI)C" jdk_43_method_2_code 2 (some .char) := ⟨(own_w hw 24 rfl), (own_w hw 25 rfl), (own_w hw 27 rfl), (own_w hw 26 rfl), by decide⟩
theorem own_y5 {Z : State} {a0 : Array Value} (hw : own_HW Z a0) : own_Wv Z a0 "java/lang/String" 335 "java/lang/String" "coder" "()B" jdk_42_method_152_code 1 (some .byte) := ⟨(own_w hw 125 rfl), (own_w hw 126 rfl), (own_w hw 128 rfl), (own_w hw 127 rfl), (own_w hw 129 rfl), (own_w hw 4 rfl), by decide⟩
theorem own_y6 {Z : State} {a0 : Array Value} (hw : own_HW Z a0) : own_Ws Z a0 "java/lang/StringLatin1" 88 "java/lang/StringLatin1" "canEncode" "(I)Z" jdk_43_method_4_code 1 (some .boolean) := ⟨(own_w hw 133 rfl), (own_w hw 134 rfl), (own_w hw 135 rfl), (own_w hw 26 rfl), by decide⟩
theorem own_y7 {Z : State} {a0 : Array Value} (hw : own_HW Z a0) : own_Ws Z a0 "java/lang/StringLatin1" 92 "java/lang/Math" "max" "(II)I" jdk_29_method_65_code 2 (some .int) := ⟨(own_w hw 136 rfl), (own_w hw 137 rfl), (own_w hw 138 rfl), (own_w hw 51 rfl), by decide⟩
theorem own_y8 {Z : State} {a0 : Array Value} (hw : own_HW Z a0) : own_Ws Z a0 "java/lang/StringLatin1" 38 "java/lang/Math" "min" "(II)I" jdk_29_method_69_code 2 (some .int) := ⟨(own_w hw 139 rfl), (own_w hw 50 rfl), (own_w hw 52 rfl), (own_w hw 51 rfl), by decide⟩
theorem own_y9 {Z : State} {a0 : Array Value} (hw : own_HW Z a0) : own_Ws Z a0 "java/lang/StringLatin1" 95 "java/lang/StringLatin1" "indexOfChar" "([BIII)I" jdk_43_method_23_code 6 (some .int) := ⟨(own_w hw 140 rfl), (own_w hw 141 rfl), (own_w hw 142 rfl), (own_w hw 26 rfl), by decide⟩
theorem own_y10 {Z : State} {a0 : Array Value} (hw : own_HW Z a0) : own_Wv Z a0 "java/lang/String" 505 "java/lang/String" "length" "()I" jdk_42_method_54_code 1 (some .int) := ⟨(own_w hw 120 rfl), (own_w hw 121 rfl), (own_w hw 123 rfl), (own_w hw 122 rfl), (own_w hw 124 rfl), (own_w hw 4 rfl), by decide⟩
theorem own_y11 {Z : State} {a0 : Array Value} (hw : own_HW Z a0) : own_Ws Z a0 "java/lang/String" 637 "java/lang/StringLatin1" "indexOf" "([BIII)I" jdk_43_method_22_code 4 (some .int) := ⟨(own_w hw 130 rfl), (own_w hw 131 rfl), (own_w hw 132 rfl), (own_w hw 26 rfl), by decide⟩
theorem own_y12 {Z : State} {a0 : Array Value} (hw : own_HW Z a0) : own_Wv Z a0 "java/lang/String" 633 "java/lang/String" "indexOf" "(II)I" jdk_42_method_80_code 3 (some .int) := ⟨(own_w hw 115 rfl), (own_w hw 116 rfl), (own_w hw 118 rfl), (own_w hw 117 rfl), (own_w hw 119 rfl), (own_w hw 4 rfl), by decide⟩
theorem own_y13 {Z : State} {a0 : Array Value} (hw : own_HW Z a0) : own_Wp Z a0 "dev/parlance/JsonGrammar" 88 "dev/parlance/JsonGrammar" "digits" "()Z" prog_6_method_9_code 2 (some .boolean) := ⟨(own_w hw 151 rfl), (own_w hw 152 rfl), own_selp (y := (⟨"dev/parlance/JsonGrammar", "digits", "()Z"⟩ : MethodName)) (own_w hw 54 rfl) (own_w hw 153 rfl) (own_w hw 152 rfl) (by decide), (own_w hw 153 rfl), (own_w hw 154 rfl), (own_w hw 55 rfl), by decide⟩
theorem own_y14 {Z : State} {a0 : Array Value} (hw : own_HW Z a0) : own_Wv Z a0 "dev/parlance/JsonGrammar" 91 "java/lang/String" "length" "()I" jdk_42_method_54_code 1 (some .int) := ⟨(own_w hw 160 rfl), (own_w hw 121 rfl), (own_w hw 123 rfl), (own_w hw 122 rfl), (own_w hw 124 rfl), (own_w hw 4 rfl), by decide⟩
theorem own_y15 {Z : State} {a0 : Array Value} (hw : own_HW Z a0) : own_Wv Z a0 "dev/parlance/JsonGrammar" 95 "java/lang/String" "charAt" "(I)C" jdk_42_method_56_code 2 (some .char) := ⟨(own_w hw 161 rfl), (own_w hw 12 rfl), (own_w hw 14 rfl), (own_w hw 13 rfl), (own_w hw 15 rfl), (own_w hw 4 rfl), by decide⟩
theorem own_y16 {Z : State} {a0 : Array Value} (hw : own_HW Z a0) : own_Wv Z a0 "dev/parlance/JsonGrammar" 79 "java/lang/String" "indexOf" "(I)I" jdk_42_method_79_code 2 (some .int) := ⟨(own_w hw 110 rfl), (own_w hw 111 rfl), (own_w hw 113 rfl), (own_w hw 112 rfl), (own_w hw 114 rfl), (own_w hw 4 rfl), by decide⟩
theorem own_y17 {Z : State} {a0 : Array Value} (hw : own_HW Z a0) : own_Ws Z a0 "dev/parlance/JsonGrammar" 85 "dev/parlance/JsonGrammar" "isHexDigit" "(C)Z" prog_6_method_13_code 2 (some .boolean) := ⟨(own_w hw 143 rfl), (own_w hw 144 rfl), (own_w hw 145 rfl), (own_w hw 55 rfl), by decide⟩
theorem own_y18 {Z : State} {a0 : Array Value} (hw : own_HW Z a0) : own_Wp Z a0 "dev/parlance/JsonGrammar" 74 "dev/parlance/JsonGrammar" "escape" "()Z" prog_6_method_7_code 3 (some .boolean) := ⟨(own_w hw 105 rfl), (own_w hw 106 rfl), own_selp (y := (⟨"dev/parlance/JsonGrammar", "escape", "()Z"⟩ : MethodName)) (own_w hw 54 rfl) (own_w hw 107 rfl) (own_w hw 106 rfl) (by decide), (own_w hw 107 rfl), (own_w hw 108 rfl), (own_w hw 55 rfl), by decide⟩
theorem own_y19 {Z : State} {a0 : Array Value} (hw : own_HW Z a0) : own_Wp Z a0 "dev/parlance/JsonGrammar" 34 "dev/parlance/JsonGrammar" "skipWhitespace" "()V" prog_6_method_11_code 1 none := ⟨(own_w hw 84 rfl), (own_w hw 85 rfl), own_selp (y := (⟨"dev/parlance/JsonGrammar", "skipWhitespace", "()V"⟩ : MethodName)) (own_w hw 54 rfl) (own_w hw 86 rfl) (own_w hw 85 rfl) (by decide), (own_w hw 86 rfl), (own_w hw 87 rfl), (own_w hw 55 rfl), by decide⟩
theorem own_y20 {Z : State} {a0 : Array Value} (hw : own_HW Z a0) : own_Wp Z a0 "dev/parlance/JsonGrammar" 44 "dev/parlance/JsonGrammar" "open" "(Z)Z" prog_6_method_5_code 2 (some .boolean) := ⟨(own_w hw 91 rfl), (own_w hw 92 rfl), own_selp (y := (⟨"dev/parlance/JsonGrammar", "open", "(Z)Z"⟩ : MethodName)) (own_w hw 54 rfl) (own_w hw 93 rfl) (own_w hw 92 rfl) (by decide), (own_w hw 93 rfl), (own_w hw 94 rfl), (own_w hw 55 rfl), by decide⟩
theorem own_y21 {Z : State} {a0 : Array Value} (hw : own_HW Z a0) : own_Wp Z a0 "dev/parlance/JsonGrammar" 55 "dev/parlance/JsonGrammar" "number" "()Z" prog_6_method_8_code 1 (some .boolean) := ⟨(own_w hw 147 rfl), (own_w hw 148 rfl), own_selp (y := (⟨"dev/parlance/JsonGrammar", "number", "()Z"⟩ : MethodName)) (own_w hw 54 rfl) (own_w hw 149 rfl) (own_w hw 148 rfl) (by decide), (own_w hw 149 rfl), (own_w hw 150 rfl), (own_w hw 55 rfl), by decide⟩
theorem own_y22 {Z : State} {a0 : Array Value} (hw : own_HW Z a0) : own_Wp Z a0 "dev/parlance/JsonGrammar" 60 "dev/parlance/JsonGrammar" "literal" "(Ljava/lang/String;)Z" prog_6_method_10_code 3 (some .boolean) := ⟨(own_w hw 156 rfl), (own_w hw 157 rfl), own_selp (y := (⟨"dev/parlance/JsonGrammar", "literal", "(Ljava/lang/String;)Z"⟩ : MethodName)) (own_w hw 54 rfl) (own_w hw 158 rfl) (own_w hw 157 rfl) (by decide), (own_w hw 158 rfl), (own_w hw 159 rfl), (own_w hw 55 rfl), by decide⟩
theorem own_y23 {Z : State} {a0 : Array Value} (hw : own_HW Z a0) : own_Wp Z a0 "dev/parlance/JsonGrammar" 48 "dev/parlance/JsonGrammar" "string" "()Z" prog_6_method_6_code 1 (some .boolean) := ⟨(own_w hw 101 rfl), (own_w hw 102 rfl), own_selp (y := (⟨"dev/parlance/JsonGrammar", "string", "()Z"⟩ : MethodName)) (own_w hw 54 rfl) (own_w hw 103 rfl) (own_w hw 102 rfl) (by decide), (own_w hw 103 rfl), (own_w hw 104 rfl), (own_w hw 55 rfl), by decide⟩
theorem own_y24 {Z : State} {a0 : Array Value} (hw : own_HW Z a0) : own_Wp Z a0 "dev/parlance/JsonGrammar" 30 "dev/parlance/JsonGrammar" "value" "()Z" prog_6_method_3_code 3 (some .boolean) := ⟨(own_w hw 80 rfl), (own_w hw 81 rfl), own_selp (y := (⟨"dev/parlance/JsonGrammar", "value", "()Z"⟩ : MethodName)) (own_w hw 54 rfl) (own_w hw 82 rfl) (own_w hw 81 rfl) (by decide), (own_w hw 82 rfl), (own_w hw 83 rfl), (own_w hw 55 rfl), by decide⟩
theorem own_y25 {Z : State} {a0 : Array Value} (hw : own_HW Z a0) : own_Wp Z a0 "dev/parlance/JsonGrammar" 41 "dev/parlance/JsonGrammar" "member" "()Z" prog_6_method_4_code 1 (some .boolean) := ⟨(own_w hw 97 rfl), (own_w hw 98 rfl), own_selp (y := (⟨"dev/parlance/JsonGrammar", "member", "()Z"⟩ : MethodName)) (own_w hw 54 rfl) (own_w hw 99 rfl) (own_w hw 98 rfl) (by decide), (own_w hw 99 rfl), (own_w hw 100 rfl), (own_w hw 55 rfl), by decide⟩
theorem own_y26 {Z : State} {a0 : Array Value} (hw : own_HW Z a0) : own_Wv Z a0 "dev/parlance/JsonGrammarBreaksAtPinLaw" 11 "java/lang/String" "charAt" "(I)C" jdk_42_method_56_code 2 (some .char) := ⟨(own_w hw 11 rfl), (own_w hw 12 rfl), (own_w hw 14 rfl), (own_w hw 13 rfl), (own_w hw 15 rfl), (own_w hw 4 rfl), by decide⟩
theorem own_y27 {Z : State} {a0 : Array Value} (hw : own_HW Z a0) : own_Ws Z a0 "dev/parlance/JsonGrammarBreaksAtPinLaw" 30 "java/lang/Math" "min" "(II)I" jdk_29_method_69_code 2 (some .int) := ⟨(own_w hw 49 rfl), (own_w hw 50 rfl), (own_w hw 52 rfl), (own_w hw 51 rfl), by decide⟩
theorem own_y28 {Z : State} {a0 : Array Value} (hw : own_HW Z a0) : own_Wv Z a0 "dev/parlance/JsonGrammarBreaksAtPinLaw" 41 "dev/parlance/JsonGrammar" "breaksAt" "(I)I" prog_6_method_2_code 5 (some .int) := ⟨(own_w hw 71 rfl), (own_w hw 72 rfl), (own_w hw 74 rfl), (own_w hw 73 rfl), (own_w hw 75 rfl), (own_w hw 55 rfl), by decide⟩
theorem own_y29 {Z : State} {a0 : Array Value} (hw : own_HW Z a0) : own_Ws Z a0 "dev/parlance/JsonGrammarBreaksAtPinLaw" 17 "dev/parlance/JsonGrammarBreaksAtPinLaw" "hexChar" "(I)C" method_5_code 2 (some .char) := ⟨(own_w hw 36 rfl), (own_w hw 37 rfl), (own_w hw 39 rfl), (own_w hw 38 rfl), by decide⟩
theorem own_y30 {Z : State} {a0 : Array Value} (hw : own_HW Z a0) : own_Ws Z a0 "dev/parlance/JsonGrammarBreaksAtPinLaw" 22 "dev/parlance/JsonGrammarBreaksAtPinLaw" "ws" "(I)C" method_4_code 1 (some .char) := ⟨(own_w hw 42 rfl), (own_w hw 43 rfl), (own_w hw 44 rfl), (own_w hw 38 rfl), by decide⟩
theorem own_y31 {Z : State} {a0 : Array Value} (hw : own_HW Z a0) : own_Ws Z a0 "dev/parlance/JsonGrammarBreaksAtPinLaw" 25 "dev/parlance/JsonGrammarBreaksAtPinLaw" "digit" "(I)C" method_3_code 1 (some .char) := ⟨(own_w hw 46 rfl), (own_w hw 47 rfl), (own_w hw 48 rfl), (own_w hw 38 rfl), by decide⟩
def own_dg (c : Int32) : Int32 := if c < (48 : Int32) then 0 else if (57 : Int32) < c then 0 else 1
def own_hx (qc : Int32) : Int32 := if own_dg ((qc &&& (255 : Int32)).toUInt32.toUInt16.toUInt32.toInt32) = (0 : Int32) then (if ((qc &&& (255 : Int32)).toUInt32.toUInt16.toUInt32.toInt32) < (97 : Int32) then (if ((qc &&& (255 : Int32)).toUInt32.toUInt16.toUInt32.toInt32) < (65 : Int32) then 0 else if (70 : Int32) < ((qc &&& (255 : Int32)).toUInt32.toUInt16.toUInt32.toInt32) then 0 else 1) else if (102 : Int32) < ((qc &&& (255 : Int32)).toUInt32.toUInt16.toUInt32.toInt32) then (if ((qc &&& (255 : Int32)).toUInt32.toUInt16.toUInt32.toInt32) < (65 : Int32) then 0 else if (70 : Int32) < ((qc &&& (255 : Int32)).toUInt32.toUInt16.toUInt32.toInt32) then 0 else 1) else 1) else 1
def own_ws (c : Int32) : Prop := c = 32 ∨ c = 9 ∨ c = 10 ∨ c = 13
def own_esc (c : Int32) : Prop := c = 34 ∨ c = 92 ∨ c = 47 ∨ c = 98 ∨ c = 102 ∨ c = 110 ∨ c = 114 ∨ c = 116
def own_good (tf : Bool) (i : Nat) (c : Int32) : Prop := match i with
 | 0 => c = 123
 | 1 => c = 34
 | 2 => ¬ c < 32 ∧ ¬ c = 34 ∧ ¬ c = 92
 | 3 => c = 92
 | 4 => own_esc c
 | 5 => c = 92
 | 6 => c = 117
 | 7 => own_hx c = 1
 | 8 => own_hx c = 1
 | 9 => own_hx c = 1
 | 10 => own_hx c = 1
 | 11 => c = 34
 | 12 => own_ws c
 | 13 => c = 58
 | 14 => c = 91
 | 15 => c = 45
 | 16 => own_dg c = 1
 | 17 => c = 46
 | 18 => own_dg c = 1
 | 19 => c = 101 ∨ c = 69
 | 20 => c = 43 ∨ c = 45
 | 21 => own_dg c = 1
 | 22 => own_dg c = 1
 | 23 => c = 44
 | 24 => c = cond tf 116 110
 | 25 => c = cond tf 114 117
 | 26 => c = cond tf 117 108
 | 27 => c = cond tf 101 108
 | 28 => c = 44
 | 29 => own_ws c
 | 30 => c = 123
 | 31 => own_ws c
 | 32 => c = 125
 | 33 => c = 44
 | 34 => c = 91
 | 35 => c = 93
 | 36 => c = 93
 | 37 => c = 44
 | 38 => c = 34
 | 39 => c = 34
 | 40 => c = 58
 | 41 => c = 102
 | 42 => c = 97
 | 43 => c = 108
 | 44 => c = 115
 | 45 => c = 101
 | 46 => own_ws c
 | 47 => c = 125
 | _ => True
def own_inS (i : Nat) : Bool := i == 2 || i == 3 || i == 5 || i == 11 || i == 39
def own_bad (i : Nat) (c : Int32) : Prop := (own_inS i = false ∧ (c = 35 ∨ c = 41 ∨ c = 120 ∨ c = 42 ∨ c = 59 ∨ c = 60 ∨ c = 61 ∨ c = 62)) ∨ (¬ c < 0 ∧ c < 32 ∧ ¬ c = 9 ∧ ¬ c = 10 ∧ ¬ c = 13)
def own_okL (c : Int32) : Bool := !(decide (c = 35) || decide (c = 41) || decide (c = 120) || decide (c = 42) || decide (c = 59) || decide (c = 60) || decide (c = 61) || decide (c = 62) || (decide (c < 32) && !decide (c = 9) && !decide (c = 10) && !decide (c = 13)))
def own_deep (md : Int32) (i : Nat) : Prop := (i = 14 ∧ md = 1) ∨ (i = 30 ∧ md = 2)
/-- what stands at place i of the text, i up to the place M where the value breaks -/
def own_alt (kk : Nat) (md : Int32) (M : Nat) (tf : Bool) (cc : Nat → Int32) (i : Nat) : Prop := (i < M ∧ i < kk ∧ own_good tf i (cc i) ∧ ¬ own_deep md i) ∨ (M = i ∧ kk = i) ∨ (M = i ∧ i < kk ∧ own_bad i (cc i)) ∨ (M = i ∧ i < kk ∧ own_good tf i (cc i) ∧ own_deep md i)
def own_H (oN kk : Nat) (md : Int32) (M : Nat) (tf : Bool) (cc : Nat → Int32) : Prop := oN ≤ 3 ∧ kk ≤ 49 ∧ M ≤ 48 ∧ (48 ≤ M → 48 ≤ kk) ∧ (¬ md < 1 ∧ ¬ 4 < md) ∧ ∀ i, i < 48 → i ≤ M → own_alt kk md M tf cc i
theorem own_at {oN kk M : Nat} {md : Int32} {tf : Bool} {cc : Nat → Int32} (H : own_H oN kk md M tf cc) (i : Nat) (hi : i < 48) (hM : i ≤ M) (hd : ¬ (i = 14 ∨ i = 30)) : (i < M ∧ i < kk ∧ own_good tf i (cc i)) ∨ (M = i ∧ kk = i) ∨ (M = i ∧ i < kk ∧ own_bad i (cc i)) := by
 rcases H.2.2.2.2.2 i hi hM with ⟨a, b, c, -⟩ | h | h | ⟨-, -, -, h⟩
 ·
  exact Or.inl ⟨a, b, c⟩
 ·
  exact Or.inr (Or.inl h)
 ·
  exact Or.inr (Or.inr h)
 ·
  rcases h with ⟨h, -⟩ | ⟨h, -⟩
  ·
   exact absurd (Or.inl h) hd
  ·
   exact absurd (Or.inr h) hd
theorem own_bne {i : Nat} {c L : Int32} (h : own_bad i c) (hL : own_okL L = true) : ¬ c = L := by
 intro e
 subst e
 rcases h with ⟨-, h⟩ | ⟨h0, h1, h2, h3, h4⟩
 ·
  rcases h with rfl | rfl | rfl | rfl | rfl | rfl | rfl | rfl <;> exact absurd hL (by decide)
 ·
  simp [own_okL, h1, h2, h3, h4] at hL
theorem own_blt {i : Nat} {c : Int32} (h : own_bad i c) (hi : own_inS i = true) : c < (32 : Int32) := by
 rcases h with ⟨h, -⟩ | ⟨h0, h1, h2, h3, h4⟩
 ·
  rw [hi] at h; cases h
 ·
  exact h1
theorem own_low {c : Int32} (h0 : ¬ c < 0) (h1 : ¬ (255 : Int32) < c) : ((c &&& (255 : Int32)).toUInt32.toUInt16.toUInt32.toInt32) = c := by
 have a1 := c_i2c (c &&& (255 : Int32))
 have a2 := c_mask c (255 : Int32) 8 (by decide) (by decide)
 have e0 : (0 : Int32).toInt = 0 := by decide
 have e1 : (255 : Int32).toInt = 255 := by decide
 rw [Int32.lt_iff_toInt_lt] at h0 h1
 apply Int32.toInt_inj.mp
 omega
theorem own_i8 {c : Int32} (h0 : ¬ c < 0) (h1 : c < (128 : Int32)) : c.toInt8.toInt32 = c := by
 have a1 := c_i2b c
 have e0 : (0 : Int32).toInt = 0 := by decide
 have e1 : (128 : Int32).toInt = 128 := by decide
 rw [Int32.lt_iff_toInt_lt] at h0 h1
 apply Int32.toInt_inj.mp
 omega
theorem own_lt32 {c L : Int32} (h : c < (32 : Int32)) (hL : (32 : Int32) ≤ L) : c < L := by
 rw [Int32.lt_iff_toInt_lt] at h ⊢
 rw [Int32.le_iff_toInt_le] at hL
 omega
theorem own_bdg {i : Nat} {c : Int32} (h : own_bad i c) : own_dg c = 0 := by
 rcases h with ⟨-, h⟩ | ⟨h0, h1, h2, h3, h4⟩
 ·
  rcases h with rfl | rfl | rfl | rfl | rfl | rfl | rfl | rfl <;> decide
 ·
  rw [own_dg, if_pos (own_lt32 h1 (by decide))]
theorem own_bhx {i : Nat} {c : Int32} (h : own_bad i c) : own_hx c = 0 := by
 have q := own_bdg h
 rcases h with ⟨-, h⟩ | ⟨h0, h1, h2, h3, h4⟩
 ·
  rcases h with rfl | rfl | rfl | rfl | rfl | rfl | rfl | rfl <;> decide
 ·
  have h5 : ¬ (255 : Int32) < c := fun z => by
   have e1 : (32 : Int32).toInt = 32 := by decide
   have e2 : (255 : Int32).toInt = 255 := by decide
   rw [Int32.lt_iff_toInt_lt] at z h1
   omega
  have e : ((c &&& (255 : Int32)).toUInt32.toUInt16.toUInt32.toInt32) = c := own_low h0 h5
  rw [own_hx, e, if_pos q, if_pos (own_lt32 h1 (by decide)), if_pos (own_lt32 h1 (by decide))]
theorem own_b255 {i : Nat} {c : Int32} (h : own_bad i c) : ¬ c < (0 : Int32) ∧ ¬ (255 : Int32) < c ∧ c < (128 : Int32) := by
 rcases h with ⟨-, h⟩ | ⟨h0, h1, h2, h3, h4⟩
 ·
  rcases h with rfl | rfl | rfl | rfl | rfl | rfl | rfl | rfl <;> decide
 ·
  refine ⟨h0, fun z => ?_, own_lt32 h1 (by decide)⟩
  have q := own_lt32 (L := 255) h1 (by decide)
  rw [Int32.lt_iff_toInt_lt] at z q
  omega
theorem own_e255 {c : Int32} (h : own_esc c) : ¬ c < (0 : Int32) ∧ ¬ (255 : Int32) < c ∧ c < (128 : Int32) := by
 rcases h with rfl | rfl | rfl | rfl | rfl | rfl | rfl | rfl <;> decide
theorem own_e117 {c : Int32} (h : own_esc c) : ¬ c = (117 : Int32) := by
 rcases h with rfl | rfl | rfl | rfl | rfl | rfl | rfl | rfl <;> decide
theorem own_ey {c : Int32} (h : own_esc c) : c.toInt8.toInt32 = (34 : Int32) ∨ c.toInt8.toInt32 = (92 : Int32) ∨ c.toInt8.toInt32 = (47 : Int32) ∨ c.toInt8.toInt32 = (98 : Int32) ∨ c.toInt8.toInt32 = (102 : Int32) ∨ c.toInt8.toInt32 = (110 : Int32) ∨ c.toInt8.toInt32 = (114 : Int32) ∨ c.toInt8.toInt32 = (116 : Int32) := by rw [own_i8 (own_e255 h).1 (own_e255 h).2.2]; exact h
theorem own_bny {i : Nat} {c : Int32} (h : own_bad i c) : ¬ (34 : Int32) = c.toInt8.toInt32 ∧ ¬ (92 : Int32) = c.toInt8.toInt32 ∧ ¬ (47 : Int32) = c.toInt8.toInt32 ∧ ¬ (98 : Int32) = c.toInt8.toInt32 ∧ ¬ (102 : Int32) = c.toInt8.toInt32 ∧ ¬ (110 : Int32) = c.toInt8.toInt32 ∧ ¬ (114 : Int32) = c.toInt8.toInt32 ∧ ¬ (116 : Int32) = c.toInt8.toInt32 := by
 rw [own_i8 (own_b255 h).1 (own_b255 h).2.2]
 exact ⟨fun q => own_bne h (L := 34) (by decide) q.symm, fun q => own_bne h (L := 92) (by decide) q.symm, fun q => own_bne h (L := 47) (by decide) q.symm, fun q => own_bne h (L := 98) (by decide) q.symm, fun q => own_bne h (L := 102) (by decide) q.symm, fun q => own_bne h (L := 110) (by decide) q.symm, fun q => own_bne h (L := 114) (by decide) q.symm, fun q => own_bne h (L := 116) (by decide) q.symm⟩
theorem own_0ny : ¬ (34 : Int32) = (0 : Int32).toInt8.toInt32 ∧ ¬ (92 : Int32) = (0 : Int32).toInt8.toInt32 ∧ ¬ (47 : Int32) = (0 : Int32).toInt8.toInt32 ∧ ¬ (98 : Int32) = (0 : Int32).toInt8.toInt32 ∧ ¬ (102 : Int32) = (0 : Int32).toInt8.toInt32 ∧ ¬ (110 : Int32) = (0 : Int32).toInt8.toInt32 ∧ ¬ (114 : Int32) = (0 : Int32).toInt8.toInt32 ∧ ¬ (116 : Int32) = (0 : Int32).toInt8.toInt32 := by decide
theorem own_last8 {y : Int32} (h : y = (34 : Int32) ∨ y = (92 : Int32) ∨ y = (47 : Int32) ∨ y = (98 : Int32) ∨ y = (102 : Int32) ∨ y = (110 : Int32) ∨ y = (114 : Int32) ∨ y = (116 : Int32)) (h0 : ¬ (34 : Int32) = y) (h1 : ¬ (92 : Int32) = y) (h2 : ¬ (47 : Int32) = y) (h3 : ¬ (98 : Int32) = y) (h4 : ¬ (102 : Int32) = y) (h5 : ¬ (110 : Int32) = y) (h6 : ¬ (114 : Int32) = y) : (116 : Int32) = y := by
 rcases h with q | q | q | q | q | q | q | q
 ·
  exact absurd q.symm h0
 ·
  exact absurd q.symm h1
 ·
  exact absurd q.symm h2
 ·
  exact absurd q.symm h3
 ·
  exact absurd q.symm h4
 ·
  exact absurd q.symm h5
 ·
  exact absurd q.symm h6
 ·
  exact q.symm
def own_wsB (c : Int32) : Bool := decide (c = 32) || decide (c = 9) || decide (c = 10) || decide (c = 13)
theorem own_lws {c L : Int32} (h : c = L) (hL : own_wsB L = false) : ¬ own_ws c := by
 subst h
 rintro (rfl | rfl | rfl | rfl) <;> exact absurd hL (by decide)
theorem own_bws {i : Nat} {c : Int32} (h : own_bad i c) : ¬ own_ws c := by
 rintro (q | q | q | q) <;> exact own_bne h (by decide) q
theorem own_dws {c : Int32} (h : own_dg c = 1) : ¬ own_ws c := by
 rintro (rfl | rfl | rfl | rfl) <;> exact absurd h (by decide)
theorem own_dne {c L : Int32} (h : own_dg c = 1) (hL : ¬ own_dg L = 1) : ¬ c = L := fun q => hL (q ▸ h)
theorem own_ldg {c L r : Int32} (h : c = L) (hL : own_dg L = r) : own_dg c = r := h ▸ hL
theorem own_md0 {oN kk M : Nat} {md : Int32} {tf : Bool} {cc : Nat → Int32} (H : own_H oN kk md M tf cc) : ¬ (0 : Int32) = md := fun q => H.2.2.2.2.1.1 (q ▸ (by decide))
theorem own_nd14 {md : Int32} (h : ¬ own_deep md 14) : ¬ (1 : Int32) = md := fun q => h (Or.inl ⟨rfl, q.symm⟩)
theorem own_nd30 {md : Int32} (h : ¬ own_deep md 30) : ¬ (2 : Int32) = md := fun q => h (Or.inr ⟨rfl, q.symm⟩)
theorem own_d14 {md : Int32} (h : own_deep md 14) : (1 : Int32) = md := by
 rcases h with ⟨-, h⟩ | ⟨h, -⟩
 ·
  exact h.symm
 ·
  exact absurd h (by decide)
theorem own_d30 {md : Int32} (h : own_deep md 30) : (2 : Int32) = md := by
 rcases h with ⟨h, -⟩ | ⟨-, h⟩
 ·
  exact absurd h (by decide)
 ·
  exact h.symm
theorem own_edg {c : Int32} (h : c = 101 ∨ c = 69) : own_dg c = 0 := by rcases h with rfl | rfl <;> decide
theorem own_nd30M {oN kk M : Nat} {md : Int32} {tf : Bool} {cc : Nat → Int32} (H : own_H oN kk md M tf cc) (h : 30 < M) : ¬ own_deep md 30 := by
 rcases H.2.2.2.2.2 30 (by decide) (Nat.le_of_lt h) with ⟨-, -, -, q⟩ | ⟨q, -⟩ | ⟨q, -⟩ | ⟨q, -⟩
 ·
  exact q
 all_goals omega
def own_P (oN i : Nat) : Int32 := Int32.ofNat (oN + i)
theorem own_Pi {oN i : Nat} (ho : oN ≤ 3) (hi : i ≤ 60) : (own_P oN i).toInt = oN + i := by
 rw [own_P, Int32.toInt_ofNat_small (by omega)]; omega
theorem own_Ps (oN i : Nat) : own_P oN i + (1 : Int32) = own_P oN (i + 1) := by
 show Int32.ofNat (oN + i) + Int32.ofNat 1 = Int32.ofNat (oN + (i + 1))
 rw [← Int32.ofNat_add]; rfl
theorem own_Plt {oN kk i : Nat} (ho : oN ≤ 3) (hk : kk ≤ 49) (h : i < kk) : own_P oN i < own_P oN kk := by
 rw [Int32.lt_iff_toInt_lt, own_Pi ho (by omega), own_Pi ho (by omega)]; omega
theorem own_Pge {oN kk i : Nat} (ho : oN ≤ 3) (hk : kk ≤ 49) (h : kk ≤ i) (hi : i ≤ 60) : ¬ own_P oN i < own_P oN kk := by
 rw [Int32.lt_iff_toInt_lt, own_Pi ho (by omega), own_Pi ho (by omega)]; omega
theorem own_Pne {oN kk i : Nat} (ho : oN ≤ 3) (hk : kk ≤ 49) (h : i < kk) : ¬ own_P oN i = own_P oN kk := fun q => by
 have := congrArg Int32.toInt q
 rw [own_Pi ho (by omega), own_Pi ho (by omega)] at this; omega
theorem own_Pgt {oN i j : Nat} (ho : oN ≤ 3) (hj : j ≤ 60) (h : i < j) : own_P oN i < own_P oN j := by
 rw [Int32.lt_iff_toInt_lt, own_Pi ho (by omega), own_Pi ho (by omega)]; omega
theorem own_Pnl (x : Int32) : ¬ x < x := fun h => Int32.lt_irrefl h
theorem own_Peq {oN kk i : Nat} (h : kk = i) : own_P oN i = own_P oN kk := by rw [h]
theorem own_Pin {oN i : Nat} (ho : oN ≤ 3) (hi : i < 49) : ¬ own_P oN i < (0 : Int32) ∧ own_P oN i < (52 : Int32) := by
 have e0 : (0 : Int32).toInt = 0 := by decide
 have e1 : (52 : Int32).toInt = 52 := by decide
 rw [Int32.lt_iff_toInt_lt, Int32.lt_iff_toInt_lt, own_Pi ho (by omega)]; omega
theorem own_Prd {oN i : Nat} {tx : List Value} {cc : Nat → Int32} (ho : oN ≤ 3) (hT : ∀ i, i < 49 → tx.getD (oN + i) (.int 0) = .int (cc i)) (hi : i < 49) : tx.getD (own_P oN i).toNatClampNeg (.int 0) = .int (cc i) := by
 have e : (own_P oN i).toNatClampNeg = oN + i := by
  show (own_P oN i).toInt.toNat = _
  rw [own_Pi ho (by omega)]; omega
 rw [e]; exact hT i hi
def own_G (Z : State) (h : Heap) (g ct ob : Addr) (ee md d op a : Int32) : Prop := Exa Z h g "dev/parlance/JsonGrammar" ∧ Fld Z h g "dev/parlance/JsonGrammar" "text" "[C" (.ref ct) ∧ Fld Z h g "dev/parlance/JsonGrammar" "end" "I" (.int ee) ∧ Fld Z h g "dev/parlance/JsonGrammar" "maxDepth" "I" (.int md) ∧ Fld Z h g "dev/parlance/JsonGrammar" "objects" "[Z" (.ref ob) ∧ Fld Z h g "dev/parlance/JsonGrammar" "depth" "I" (.int d) ∧ Fld Z h g "dev/parlance/JsonGrammar" "opened" "Z" (.int op) ∧ Fld Z h g "dev/parlance/JsonGrammar" "at" "I" (.int a)
theorem own_Gat {Z : State} {a0 : Array Value} {h h' : Heap} {g ct ob : Addr} {ee md d op a x b : Int32} (hw : own_HW Z a0) (G : own_G Z h g ct ob ee md d op a) (W : Wr h h' g (Jvm.RoadKit.slotOf Z "dev/parlance/JsonGrammar" "at" "I") (.int x)) (hb : x = b) : own_G Z h' g ct ob ee md d op b := ⟨G.1.wr W, (G.2.1).other W (Or.inr (slot_ne (Or.inr (own_w hw 66 rfl)) (Or.inl (own_w hw 79 rfl)) (by decide) (t := (.array .char)) (t' := .int) (by decide) (by decide))), (G.2.2.1).other W (Or.inr (slot_ne (Or.inr (own_w hw 68 rfl)) (Or.inl (own_w hw 79 rfl)) (by decide) (t := .int) (t' := .int) (by decide) (by decide))), (G.2.2.2.1).other W (Or.inr (slot_ne (Or.inr (own_w hw 70 rfl)) (Or.inl (own_w hw 79 rfl)) (by decide) (t := .int) (t' := .int) (by decide) (by decide))), (G.2.2.2.2.1).other W (Or.inr (slot_ne (Or.inl (own_w hw 64 rfl)) (Or.inl (own_w hw 79 rfl)) (by decide) (t := (.array .boolean)) (t' := .int) (by decide) (by decide))), (G.2.2.2.2.2.1).other W (Or.inr (slot_ne (Or.inl (own_w hw 77 rfl)) (Or.inl (own_w hw 79 rfl)) (by decide) (t := .int) (t' := .int) (by decide) (by decide))), (G.2.2.2.2.2.2.1).other W (Or.inr (slot_ne (Or.inl (own_w hw 96 rfl)) (Or.inl (own_w hw 79 rfl)) (by decide) (t := .boolean) (t' := .int) (by decide) (by decide))), hb ▸ (G.2.2.2.2.2.2.2).same W⟩
theorem own_Gde {Z : State} {a0 : Array Value} {h h' : Heap} {g ct ob : Addr} {ee md d op a x b : Int32} (hw : own_HW Z a0) (G : own_G Z h g ct ob ee md d op a) (W : Wr h h' g (Jvm.RoadKit.slotOf Z "dev/parlance/JsonGrammar" "depth" "I") (.int x)) (hb : x = b) : own_G Z h' g ct ob ee md b op a := ⟨G.1.wr W, (G.2.1).other W (Or.inr (slot_ne (Or.inr (own_w hw 66 rfl)) (Or.inl (own_w hw 77 rfl)) (by decide) (t := (.array .char)) (t' := .int) (by decide) (by decide))), (G.2.2.1).other W (Or.inr (slot_ne (Or.inr (own_w hw 68 rfl)) (Or.inl (own_w hw 77 rfl)) (by decide) (t := .int) (t' := .int) (by decide) (by decide))), (G.2.2.2.1).other W (Or.inr (slot_ne (Or.inr (own_w hw 70 rfl)) (Or.inl (own_w hw 77 rfl)) (by decide) (t := .int) (t' := .int) (by decide) (by decide))), (G.2.2.2.2.1).other W (Or.inr (slot_ne (Or.inl (own_w hw 64 rfl)) (Or.inl (own_w hw 77 rfl)) (by decide) (t := (.array .boolean)) (t' := .int) (by decide) (by decide))), hb ▸ (G.2.2.2.2.2.1).same W, (G.2.2.2.2.2.2.1).other W (Or.inr (slot_ne (Or.inl (own_w hw 96 rfl)) (Or.inl (own_w hw 77 rfl)) (by decide) (t := .boolean) (t' := .int) (by decide) (by decide))), (G.2.2.2.2.2.2.2).other W (Or.inr (slot_ne (Or.inl (own_w hw 79 rfl)) (Or.inl (own_w hw 77 rfl)) (by decide) (t := .int) (t' := .int) (by decide) (by decide)))⟩
theorem own_Gop {Z : State} {a0 : Array Value} {h h' : Heap} {g ct ob : Addr} {ee md d op a x b : Int32} (hw : own_HW Z a0) (G : own_G Z h g ct ob ee md d op a) (W : Wr h h' g (Jvm.RoadKit.slotOf Z "dev/parlance/JsonGrammar" "opened" "Z") (.int x)) (hb : x = b) : own_G Z h' g ct ob ee md d b a := ⟨G.1.wr W, (G.2.1).other W (Or.inr (slot_ne (Or.inr (own_w hw 66 rfl)) (Or.inl (own_w hw 96 rfl)) (by decide) (t := (.array .char)) (t' := .boolean) (by decide) (by decide))), (G.2.2.1).other W (Or.inr (slot_ne (Or.inr (own_w hw 68 rfl)) (Or.inl (own_w hw 96 rfl)) (by decide) (t := .int) (t' := .boolean) (by decide) (by decide))), (G.2.2.2.1).other W (Or.inr (slot_ne (Or.inr (own_w hw 70 rfl)) (Or.inl (own_w hw 96 rfl)) (by decide) (t := .int) (t' := .boolean) (by decide) (by decide))), (G.2.2.2.2.1).other W (Or.inr (slot_ne (Or.inl (own_w hw 64 rfl)) (Or.inl (own_w hw 96 rfl)) (by decide) (t := (.array .boolean)) (t' := .boolean) (by decide) (by decide))), (G.2.2.2.2.2.1).other W (Or.inr (slot_ne (Or.inl (own_w hw 77 rfl)) (Or.inl (own_w hw 96 rfl)) (by decide) (t := .int) (t' := .boolean) (by decide) (by decide))), hb ▸ (G.2.2.2.2.2.2.1).same W, (G.2.2.2.2.2.2.2).other W (Or.inr (slot_ne (Or.inl (own_w hw 79 rfl)) (Or.inl (own_w hw 96 rfl)) (by decide) (t := .int) (t' := .boolean) (by decide) (by decide)))⟩
theorem own_byte (x : Int32) : ∃ k : Fin 256, x &&& (255 : Int32) = Int32.ofNat k.val := by
 have h := c_mask x (255 : Int32) 8 (by decide) (by decide)
 refine ⟨⟨(x &&& (255 : Int32)).toInt.toNat, by omega⟩, ?_⟩
 apply Int32.toInt_inj.mp
 rw [Int32.toInt_ofNat_small (by show (x &&& (255 : Int32)).toInt.toNat < 2 ^ 31; omega)]
 show (x &&& (255 : Int32)).toInt = ((x &&& (255 : Int32)).toInt.toNat : Int)
 omega
theorem own_dig (x : Int32) : own_dg (nar .char (((48 : Int32) + ((x &&& (255 : Int32)) % (10 : Int32))).toUInt32.toUInt16.toUInt32.toInt32)) = 1 := by
 obtain ⟨k, hk⟩ := own_byte x
 rw [hk]
 exact (by decide +kernel : ∀ k : Fin 256, own_dg (nar .char (((48 : Int32) + ((Int32.ofNat k.val) % (10 : Int32))).toUInt32.toUInt16.toUInt32.toInt32)) = 1) k
theorem own_ws4 (x : Int32) : ∃ y : Int32, ([.int 32, .int 9, .int 10, .int 13] : List Value).getD (x &&& (3 : Int32)).toNatClampNeg (.int 0) = .int y ∧ own_ws y ∧ nar .char ((y &&& (255 : Int32)).toUInt32.toUInt16.toUInt32.toInt32) = y ∧ nar .char y = y ∧ ¬ (x &&& (3 : Int32)) < (0 : Int32) ∧ (x &&& (3 : Int32)) < (4 : Int32) := by
 have h : ∀ z : Int32, z = 0 ∨ z = 1 ∨ z = 2 ∨ z = 3 → ∃ y : Int32, ([.int 32, .int 9, .int 10, .int 13] : List Value).getD z.toNatClampNeg (.int 0) = .int y ∧ own_ws y ∧ nar .char ((y &&& (255 : Int32)).toUInt32.toUInt16.toUInt32.toInt32) = y ∧ nar .char y = y ∧ ¬ z < (0 : Int32) ∧ z < (4 : Int32) := by
  rintro z (rfl | rfl | rfl | rfl)
  ·
   exact ⟨32, rfl, Or.inl rfl, by decide, by decide, by decide, by decide⟩
  ·
   exact ⟨9, rfl, Or.inr (Or.inl rfl), by decide, by decide, by decide, by decide⟩
  ·
   exact ⟨10, rfl, Or.inr (Or.inr (Or.inl rfl)), by decide, by decide, by decide, by decide⟩
  ·
   exact ⟨13, rfl, Or.inr (Or.inr (Or.inr rfl)), by decide, by decide, by decide, by decide⟩
 refine h _ ?_
 have h := c_mask x (3 : Int32) 2 (by decide) (by decide)
 have e0 : (0 : Int32).toInt = 0 := by decide
 have e1 : (1 : Int32).toInt = 1 := by decide
 have e2 : (2 : Int32).toInt = 2 := by decide
 have e3 : (3 : Int32).toInt = 3 := by decide
 simp only [← Int32.toInt_inj, e0, e1, e2, e3]
 omega
def own_hexs : List Int32 := [48, 49, 50, 51, 52, 53, 54, 55, 56, 57, 97, 98, 99, 100, 101, 102, 65, 66, 67, 68, 69, 70]
theorem own_hx22 (x : Int32) : ∃ y : Int32, ([.int 48, .int 49, .int 50, .int 51, .int 52, .int 53, .int 54, .int 55, .int 56, .int 57, .int 97, .int 98, .int 99, .int 100, .int 101, .int 102, .int 65, .int 66, .int 67, .int 68, .int 69, .int 70] : List Value).getD ((x &&& (255 : Int32)) % (22 : Int32)).toNatClampNeg (.int 0) = .int y ∧ y ∈ own_hexs ∧ nar .char ((y &&& (255 : Int32)).toUInt32.toUInt16.toUInt32.toInt32) = y ∧ nar .char y = y ∧ ¬ ((x &&& (255 : Int32)) % (22 : Int32)) < (0 : Int32) ∧ ((x &&& (255 : Int32)) % (22 : Int32)) < (22 : Int32) := by
 obtain ⟨k, hk⟩ := own_byte x
 rw [hk]
 have h := (by decide +kernel : ∀ k : Fin 256, ([.int 48, .int 49, .int 50, .int 51, .int 52, .int 53, .int 54, .int 55, .int 56, .int 57, .int 97, .int 98, .int 99, .int 100, .int 101, .int 102, .int 65, .int 66, .int 67, .int 68, .int 69, .int 70] : List Value).getD ((Int32.ofNat k.val) % (22 : Int32)).toNatClampNeg (.int 0) = .int (own_hexs.getD (k.val % 22) 0) ∧ own_hexs.getD (k.val % 22) 0 ∈ own_hexs ∧ nar .char (((own_hexs.getD (k.val % 22) 0) &&& (255 : Int32)).toUInt32.toUInt16.toUInt32.toInt32) = own_hexs.getD (k.val % 22) 0 ∧ nar .char (own_hexs.getD (k.val % 22) 0) = own_hexs.getD (k.val % 22) 0 ∧ ¬ ((Int32.ofNat k.val) % (22 : Int32)) < (0 : Int32) ∧ ((Int32.ofNat k.val) % (22 : Int32)) < (22 : Int32)) k
 exact ⟨_, h⟩
theorem own_and_ff00 (n : Nat) : n &&& 65280 = (n / 256 % 256) * 256 := by
 apply Nat.eq_of_testBit_eq
 intro i
 have e1 : (65280 : Nat) = (2 ^ 8 - 1) * 2 ^ 8 := by decide
 have e2 : (n / 256 % 256) * 256 = (n / 2 ^ 8 % 2 ^ 8) * 2 ^ 8 := rfl
 rw [Nat.testBit_and, e1, e2, Nat.testBit_mul_two_pow, Nat.testBit_mul_two_pow, Nat.testBit_two_pow_sub_one, Nat.testBit_mod_two_pow, Nat.testBit_div_two_pow]
 by_cases h : 8 ≤ i
 ·
  by_cases h2 : i - 8 < 8 <;> simp [h, h2, show i - 8 + 8 = i by omega]
 ·
  simp [h]
theorem own_ff00 (x : Int32) : (x &&& (65280 : Int32)).toInt % 256 = 0 ∧ 0 ≤ (x &&& (65280 : Int32)).toInt ∧ (x &&& (65280 : Int32)).toInt < 65536 := by
 have h : (x &&& (65280 : Int32)).toBitVec.toNat = (x.toBitVec.toNat / 256 % 256) * 256 := by
  rw [Int32.toBitVec_and, BitVec.toNat_and]
  exact own_and_ff00 _
 have e : (x &&& (65280 : Int32)).toInt = (x &&& (65280 : Int32)).toBitVec.toNat := by
  have e1 : (x &&& (65280 : Int32)).toInt = (x &&& (65280 : Int32)).toBitVec.toInt := rfl
  rw [e1, BitVec.toInt_eq_toNat_cond]
  split <;> omega
 omega
theorem own_hxc (x y : Int32) (hy : y ∈ own_hexs) : own_hx (nar .char (((x &&& (65280 : Int32)) ||| y).toUInt32.toUInt16.toUInt32.toInt32)) = 1 := by
 have hb := (by decide +kernel : ∀ y ∈ own_hexs, 0 ≤ y.toInt ∧ y.toInt < 256 ∧ own_hx y = 1 ∧ ((y &&& (255 : Int32)).toUInt32.toUInt16.toUInt32.toInt32) = y) y hy
 have h1 := own_ff00 x
 have h2 := c_or (x &&& (65280 : Int32)) y 8 (by decide) 256 (by decide) h1.1 hb.1 hb.2.1
 have h3 := c_i2c ((x &&& (65280 : Int32)) ||| y)
 have hl : (((((x &&& (65280 : Int32)) ||| y).toUInt32.toUInt16.toUInt32.toInt32) &&& (255 : Int32)).toUInt32.toUInt16.toUInt32.toInt32) = y := by
  have h4 := c_mask ((((x &&& (65280 : Int32)) ||| y).toUInt32.toUInt16.toUInt32.toInt32)) (255 : Int32) 8 (by decide) (by decide)
  have h5 := c_i2c (((((x &&& (65280 : Int32)) ||| y).toUInt32.toUInt16.toUInt32.toInt32) &&& (255 : Int32)))
  apply Int32.toInt_inj.mp
  omega
 rw [own_i2c]
 have e : own_hx ((((x &&& (65280 : Int32)) ||| y).toUInt32.toUInt16.toUInt32.toInt32)) = own_hx y := by rw [own_hx, own_hx, hl, hb.2.2.2]
 rw [e]; exact hb.2.2.1
abbrev own_Tc (B : ByteArray) (pc : Nat) : Prop := decode B pc = .ok (.aload_n 0, 1) ∧ decode B (pc + 1) = .ok (.getfield 13, 3) ∧ decode B (pc + 4) = .ok (.aload_n 0, 1) ∧ decode B (pc + 5) = .ok (.getfield 27, 3) ∧ decode B (pc + 8) = .ok (.caload, 1)
abbrev own_Ae (B : ByteArray) (pc : Nat) : Prop := decode B pc = .ok (.aload_n 0, 1) ∧ decode B (pc + 1) = .ok (.getfield 27, 3) ∧ decode B (pc + 4) = .ok (.aload_n 0, 1) ∧ decode B (pc + 5) = .ok (.getfield 17, 3)
abbrev own_Ic (B : ByteArray) (pc : Nat) : Prop := decode B pc = .ok (.aload_n 0, 1) ∧ decode B (pc + 1) = .ok (.dup, 1) ∧ decode B (pc + 2) = .ok (.getfield 27, 3) ∧ decode B (pc + 5) = .ok (.iconst 1, 1) ∧ decode B (pc + 6) = .ok (.iadd, 1) ∧ decode B (pc + 7) = .ok (.putfield 27, 3)
section OwnJ
variable {p : Program} {l : Launch} {e : Env} {R : Room} {s : State} {m : MethodId} {args : Array Value} {below : List Frame} {meth : Method} {c : Code} {T : State} {locs : List Loc} {cells slots : Nat} {Z : State} {a0 : Array Value} {h : Heap} {P : State → Outcome → Prop}
theorem own_tc (X : Stand p l e R s m args below meth c T locs cells slots) {B : ByteArray} (hy : own_Y p c B) (hZ : Z.Warmed39 s.vm) (hown : s.vm.findClass "dev/parlance/JsonGrammar" = some m.cls) (hw : own_HW Z a0) (eT : T.heap = h) {g ct : Addr} {kc : ClassId} {tx : List Value} {cc : Nat → Int32} {oN i : Nat} (F1 : Fld Z h g "dev/parlance/JsonGrammar" "text" "[C" (.ref ct)) (F2 : Fld Z h g "dev/parlance/JsonGrammar" "at" "I" (.int (own_P oN i))) (A : Arv Z h ct kc .char (52 : Int32) tx (.int 0)) (ho : oN ≤ 3) (hT : ∀ i, i < 49 → tx.getD (oN + i) (.int 0) = .int (cc i)) (hi : i < 49) {pc : Nat} {Ls : Array Slot} {S : List Value} (w : own_Tc B pc)
  (k : ∀ T', Stand p l e R s m args below meth c T' locs cells slots → T'.heap = h → own_R p e below P T' m (pc + 9) Ls (.int (cc i) :: S)) (hl : Ls[0]? = some (.val (.ref g)) := by rfl) : own_R p e below P T m pc Ls S :=
 own_al X hy w.1 hl rfl (own_gf (host := "") X hy hZ hown (Or.inl (own_w hw 65 rfl)) Via.refl eT F1 w.2.1 fun T1 X1 e1 => own_al X1 hy w.2.2.1 hl rfl (own_gf (host := "") X1 hy hZ hown (Or.inl (own_w hw 78 rfl)) Via.refl e1 F2 w.2.2.2.1 fun T2 X2 e2 => own_ca X2 hy hZ e2 A (own_Pin ho hi) (own_Prd ho hT hi) w.2.2.2.2 (k T2 X2 e2)))
theorem own_ae (X : Stand p l e R s m args below meth c T locs cells slots) {B : ByteArray} (hy : own_Y p c B) (hZ : Z.Warmed39 s.vm) (hown : s.vm.findClass "dev/parlance/JsonGrammar" = some m.cls) (hw : own_HW Z a0) (eT : T.heap = h) {g : Addr} {v1 v2 : Value} (F1 : Fld Z h g "dev/parlance/JsonGrammar" "at" "I" v1) (F2 : Fld Z h g "dev/parlance/JsonGrammar" "end" "I" v2) {pc : Nat} {Ls : Array Slot} {S : List Value} (w : own_Ae B pc)
  (k : ∀ T', Stand p l e R s m args below meth c T' locs cells slots → T'.heap = h → own_R p e below P T' m (pc + 8) Ls (v2 :: v1 :: S)) (hl : Ls[0]? = some (.val (.ref g)) := by rfl) : own_R p e below P T m pc Ls S :=
 own_al X hy w.1 hl rfl (own_gf (host := "") X hy hZ hown (Or.inl (own_w hw 78 rfl)) Via.refl eT F1 w.2.1 fun T1 X1 e1 => own_al X1 hy w.2.2.1 hl rfl (own_gf (host := "") X1 hy hZ hown (Or.inl (own_w hw 67 rfl)) Via.refl e1 F2 w.2.2.2 k))
theorem own_inc (X : Stand p l e R s m args below meth c T locs cells slots) {B : ByteArray} (hy : own_Y p c B) (hZ : Z.Warmed39 s.vm) (hown : s.vm.findClass "dev/parlance/JsonGrammar" = some m.cls) (hw : own_HW Z a0) (eT : T.heap = h) {g ct ob : Addr} {ee md dd oo : Int32} {oN i : Nat} (G : own_G Z h g ct ob ee md dd oo (own_P oN i)) {pc : Nat} {Ls : Array Slot} {S : List Value} (w : own_Ic B pc) (j : Nat)
  (k : ∀ T' h', Stand p l e R s m args below meth c T' (locs ++ [⟨g, Jvm.RoadKit.slotOf Z "dev/parlance/JsonGrammar" "at" "I"⟩]) cells slots → T'.heap = h' → Wr h h' g (Jvm.RoadKit.slotOf Z "dev/parlance/JsonGrammar" "at" "I") (.int (own_P oN i + 1)) → own_G Z h' g ct ob ee md dd oo (own_P oN j) → own_R p e below P T' m (pc + 10) Ls S) (hj : i + 1 = j := by rfl) (hl : Ls[0]? = some (.val (.ref g)) := by rfl) : own_R p e below P T m pc Ls S := by
 subst hj
 obtain ⟨Eg, Ft, Fe, Fm, Fo, Fd, Fp, Fa⟩ := id G
 refine own_al X hy w.1 hl rfl ?_
 refine own_dp X hy w.2.1 rfl ?_
 refine own_gf X hy hZ hown (host := "") (Or.inl (own_w hw 78 rfl)) Via.refl eT Fa w.2.2.1 fun T1 X1 e1 => ?_
 refine own_ic X1 hy w.2.2.2.1 ?_
 refine own_ad X1 hy w.2.2.2.2.1 ?_
 refine own_pf X1 hy hZ hown (host := "") (Or.inl (own_w hw 78 rfl)) Via.refl e1 Fa Eg (Or.inl (own_w hw 79 rfl)) (own_w hw 54 rfl) (ty := .int) (by decide) rfl rfl w.2.2.2.2.2 fun T2 h2 X2 e2 W2 => ?_
 exact k T2 h2 X2 e2 W2 (own_Gat hw G W2 (own_Ps oN i))
end OwnJ
theorem own_gi {Z : State} {a0 : Array Value} {h : Heap} {g ct ob : Addr} {kc : ClassId} {tx : List Value} {ee md dd oo aa md' : Int32} {oN kk M : Nat} {tf : Bool} {cc : Nat → Int32} {n : Int32} (hw : own_HW Z a0) (G : own_G Z h g ct ob ee md dd oo aa) (A : Arv Z h ct kc .char n tx (.int 0)) (H : own_H oN kk md' M tf cc) : own_G Z h g ct ob ee md dd oo aa ∧ oN ≤ 3 ∧ kk ≤ 49 ∧ ct ≠ g := ⟨G, H.1, H.2.1, Ne.symm (own_neA G.1 (own_w hw 54 rfl) A)⟩
def own_F (tx : List Value) (oN : Nat) (tf : Bool) (i : Nat) : Prop := ∀ j, j < i → ∃ c, tx.getD (oN + j) (.int 0) = .int c ∧ own_good tf j c
def own_B0 (Z : State) (vm : Vm) (k : Nat) (h : Heap) (n0 : Nat) (ta : Addr) (cs : Int32) (fm : Value) (kc : ClassId) (tx : List Value) : Prop := n0 ≤ h.size ∧ k ≤ h.size ∧ own_In Z vm h ∧ Sta Z h "java/lang/String" "COMPACT_STRINGS" "Z" (.int cs) ∧ Sta Z h "jdk/internal/util/Preconditions" "SIOOBE_FORMATTER" "Ljava/util/function/BiFunction;" fm ∧ n0 ≤ ta ∧ Arv Z h ta kc .char (52 : Int32) tx (.int 0) ∧ tx.length = 52
def own_B (Z : State) (vm : Vm) (k : Nat) (h : Heap) (n0 : Nat) (ta : Addr) (cs : Int32) (fm : Value) (oN : Nat) (tf : Bool) (i : Nat) : Prop := ∃ (kc : ClassId) (tx : List Value), own_B0 Z vm k h n0 ta cs fm kc tx ∧ own_F tx oN tf i
theorem own_Fset {tx : List Value} {oN i : Nat} {tf : Bool} {c : Int32} (F : own_F tx oN tf i) (hl : tx.length = 52) (ho : oN ≤ 3) (hi : i < 49) (hg : own_good tf i c) : own_F (tx.set (oN + i) (.int c)) oN tf (i + 1) := by
 intro j hj
 by_cases e : j = i
 ·
  subst e
  exact ⟨c, by rw [List.getD_eq_getElem?_getD, List.getElem?_set_self (by omega)]; rfl, hg⟩
 ·
  obtain ⟨d, h1, h2⟩ := F j (by omega)
  refine ⟨d, ?_, h2⟩
  rw [List.getD_eq_getElem?_getD] at h1 ⊢
  rw [List.getElem?_set_ne (by omega)]
  exact h1
theorem own_F0 {tx tx' : List Value} {oN : Nat} {tf : Bool} (F : own_F tx oN tf 0) : own_F tx' oN tf 0 := fun j hj => absurd hj (by omega)
theorem own_Pn {oN i : Nat} (ho : oN ≤ 3) (hi : i ≤ 60) : (own_P oN i).toNatClampNeg = oN + i := by
 show (own_P oN i).toInt.toNat = _
 rw [own_Pi ho hi]; omega
theorem own_Pb {oN i : Nat} {b : Int32} (hb : b = Int32.ofNat i) : own_P oN 0 + b = own_P oN i := by
 subst hb
 show Int32.ofNat (oN + 0) + Int32.ofNat i = Int32.ofNat (oN + i)
 rw [← Int32.ofNat_add]; rfl
theorem own_B0.keep {Z : State} {vm vm' : Vm} {k k' : Nat} {h h' : Heap} {n0 : Nat} {ta : Addr} {cs : Int32} {fm : Value} {kc : ClassId} {tx : List Value} (F : own_B0 Z vm k h n0 ta cs fm kc tx) (K : Keep h h' []) (hI : own_In Z vm' h') (hk : k' ≤ h'.size) : own_B0 Z vm' k' h' n0 ta cs fm kc tx :=
 ⟨Nat.le_trans F.1 K.1, hk, hI, own_staKeep F.2.2.2.1 K all0, own_staKeep F.2.2.2.2.1 K all0, F.2.2.2.2.2.1, F.2.2.2.2.2.2.1.keep K nin0, F.2.2.2.2.2.2.2⟩
section OwnLaw
variable {p : Program} {l : Launch} {e : Env} {R : Room} {s : State} {vm0 : Vm} {m : MethodId} {args : Array Value} {below : List Frame} {meth : Method} {c : Code} {T : State} {locs : List Loc} {cells slots : Nat} {Z : State} {a0 : Array Value} {h : Heap} {P : State → Outcome → Prop} {k0 n0 : Nat} {ta : Addr} {cs : Int32} {fm : Value} {kc : ClassId} {tx : List Value} {oN : Nat} {tf : Bool} {i : Nat}
theorem own_st (X : Stand p l e R (s.setVm vm0) m args below meth c T locs cells slots) {B : ByteArray} (hy : own_Y p c B) (hZ : Z.Warmed39 (s.setVm vm0).vm) (eT : T.heap = h) (N : Fr n0 locs) (F : own_B0 Z vm0 k0 h n0 ta cs fm kc tx) {pc : Nat} {Ls : Array Slot} {S : List Value} {v j : Int32} (hd : decode B pc = .ok (.castore, 1)) (n : Nat) (hj : j.toNatClampNeg = n) (hr : ¬ j < (0 : Int32) ∧ j < (52 : Int32)) (hn : n < 52)
  (k : ∀ T' h' L', Stand p l e R (s.setVm vm0) m args below meth c T' L' cells slots → T'.heap = h' → Fr n0 L' → own_B0 Z vm0 k0 h' n0 ta cs fm kc (tx.set n (.int (nar .char v))) → own_R p e below P T' m (pc + 1) Ls S) : own_R p e below P T m pc Ls (.int v :: .int j :: .ref ta :: S) := by
 obtain ⟨f1, f2, f3, f4, f5, f6, f7, f8⟩ := F
 obtain ⟨cl, Ar, q, Sz, M, H, G⟩ := id f7
 have hin : ¬ (j < 0 ∨ cl.slots.size ≤ j.toNatClampNeg) := inb_of Sz hr
 obtain ⟨T', h', X', e', W, st⟩ := stC X hy.1 hZ eT Ar hin (g := mkF m pc Ls (.int v :: .int j :: .ref ta :: S)) rfl rfl (hb hy.2 hd)
 have A' := Arv.set Ar q Sz M H G (fits_nar_char v) W n hj (by rw [f8]; exact hn)
 obtain ⟨t, o, k1, k2⟩ := k T' h' _ X' e' (Fr.snoc X' N f6) ⟨own_zw f1 W, own_zw f2 W, own_In.wr f3 W (own_safeA hZ.alike f7 (by decide)), f4.wr W, f5.wr W, f6, A', by rw [List.length_set]; exact f8⟩
 exact ⟨t, o, st _ k1, k2⟩
/-- the sign i of the template -/
theorem own_put (X : Stand p l e R (s.setVm vm0) m args below meth c T locs cells slots) {B : ByteArray} (hy : own_Y p c B) (hZ : Z.Warmed39 (s.setVm vm0).vm) (eT : T.heap = h) (N : Fr n0 locs) (F : own_B Z vm0 k0 h n0 ta cs fm oN tf i) (ho : oN ≤ 3) {pc : Nat} {Ls : Array Slot} {S : List Value} {v j : Int32} (hd : decode B pc = .ok (.castore, 1)) (hj : j = own_P oN i) (hg : own_good tf i (nar .char v)) (i' : Nat)
  (k : ∀ T' h' L', Stand p l e R (s.setVm vm0) m args below meth c T' L' cells slots → T'.heap = h' → Fr n0 L' → own_B Z vm0 k0 h' n0 ta cs fm oN tf i' → own_R p e below P T' m (pc + 1) Ls S) (hi : i < 49 := by decide) (hi' : i + 1 = i' := by rfl) : own_R p e below P T m pc Ls (.int v :: .int j :: .ref ta :: S) := by
 subst hj hi'
 obtain ⟨kc, tx, F0, F1⟩ := F
 exact own_st X hy hZ eT N F0 hd (oN + i) (own_Pn ho (by omega)) (own_Pin ho hi) (by omega) fun T' h' L' X' e' N' F' => k T' h' L' X' e' N' ⟨kc, _, F', own_Fset F1 F0.2.2.2.2.2.2.2 ho hi hg⟩
/-- a sign that is none of the template's -/
theorem own_pj (X : Stand p l e R (s.setVm vm0) m args below meth c T locs cells slots) {B : ByteArray} (hy : own_Y p c B) (hZ : Z.Warmed39 (s.setVm vm0).vm) (eT : T.heap = h) (N : Fr n0 locs) (F : own_B Z vm0 k0 h n0 ta cs fm oN tf 0) {pc : Nat} {Ls : Array Slot} {S : List Value} {v j : Int32} (hd : decode B pc = .ok (.castore, 1)) (n : Nat)
  (k : ∀ T' h' L', Stand p l e R (s.setVm vm0) m args below meth c T' L' cells slots → T'.heap = h' → Fr n0 L' → own_B Z vm0 k0 h' n0 ta cs fm oN tf 0 → own_R p e below P T' m (pc + 1) Ls S) (hj : j.toNatClampNeg = n := by decide) (hr : ¬ j < (0 : Int32) ∧ j < (52 : Int32) := by decide) (hn : n < 52 := by decide) : own_R p e below P T m pc Ls (.int v :: .int j :: .ref ta :: S) := by
 obtain ⟨kc, tx, F0, F1⟩ := F
 exact own_st X hy hZ eT N F0 hd n hj hr hn fun T' h' L' X' e' N' F' => k T' h' L' X' e' N' ⟨kc, _, F', own_F0 F1⟩
/-- a helper of the law's that loads a literal and gives a sign -/
theorem own_lc (X : Stand p l e R (s.setVm vm0) m args below meth c T locs cells slots) {B : ByteArray} (hy : own_Y p c B) (hZ : Z.Warmed39 (s.setVm vm0).vm) {own C n d : String} {index : Nat} {bytes : ByteArray} {maxL : Nat} {ret : Option FieldType} (hown : (s.setVm vm0).vm.findClass own = some m.cls) (hw : own_HW Z a0) (hS : s.Since vm0 k0) (eT : T.heap = h) (N : Fr n0 locs) (F : own_B Z vm0 k0 h n0 ta cs fm oN tf i) (w : own_Ws Z a0 own index C n d bytes maxL ret) {rm : Room} {Q : Option Value → Heap → List Loc → Prop} {S : List Value} {a : Value} {G : Int32 → Prop}
  (hM : n0 ≤ h.size → Sta Z h "java/lang/String" "COMPACT_STRINGS" "Z" (.int cs) → Sta Z h "jdk/internal/util/Preconditions" "SIOOBE_FORMATTER" "Ljava/util/function/BiFunction;" fm → own_MC l C n d bytes maxL ret rm #[a] Z h Q) (hQ : ∀ v h' L, Q v h' L → ∃ r : Int32, v = some (.int r) ∧ G r ∧ Fr n0 L ∧ Keep h h' []) {pc : Nat} {Ls : Array Slot} (hd : decode B pc = .ok (.invokestatic index, 3)) {fs : List FieldType} {r : Option FieldType} (hlen : parseMethodDescriptor d = some ⟨fs, r⟩) {mx : Nat} (hml : c.maxLocals = mx)
  (k : ∀ r T' L', G r → Stand p l e R (s.setVm T'.vm) m args below meth c T' L' (cells + rm.cells) (slots + rm.slots) → s.Since T'.vm T'.heap.size → Z.Warmed39 (s.setVm T'.vm).vm → (s.setVm T'.vm).vm.findClass own = some m.cls → Fr n0 L' → own_B Z T'.vm T'.heap.size T'.heap n0 ta cs fm oN tf i → own_R p e below P T' m (pc + 3) Ls (.int r :: S))
  (hll : [a].length = fs.length := by rfl) (hsz : Ls.size = mx := by rfl) (hf : rm.frames + 1 ≤ R.frames := by first | decide | exact Nat.le_of_ble_eq_true rfl | assumption) (hlo : (S.map fun v => v.category).sum + (maxL + 11) + rm.locals ≤ R.locals := by first | decide | exact Nat.le_of_ble_eq_true rfl | assumption) (hc : cells + rm.cells ≤ R.cells := by first | decide | exact Nat.le_of_ble_eq_true rfl | assumption) (hs : slots + rm.slots ≤ R.slots := by first | decide | exact Nat.le_of_ble_eq_true rfl | assumption) : own_R p e below P T m pc Ls (a :: S) := by
 obtain ⟨kc, tx, F0, F1⟩ := F
 refine own_csS X hy hZ hown hw F0.2.2.1 hS F0.2.1 w (hM F0.1 F0.2.2.2.1 F0.2.2.2.2.1) eT hd hlen hml (fun v T' L' X' q hS' hk' hZ' hown' hIn' => ?_) hll hsz hf hlo hc hs
 obtain ⟨r, rfl, g, Nq, K⟩ := hQ _ _ _ q
 exact k r T' _ g X' hS' hZ' hown' (Fr.app N Nq) ⟨kc, tx, F0.keep K hIn' hk', F1⟩
end OwnLaw
theorem own_mk (x m : Int32) (k : Nat) (hk : k ≤ 31) (hm : m.toBitVec.toNat = 2 ^ k - 1) : 0 ≤ (x &&& m).toInt ∧ (x &&& m).toInt < (2 ^ k : Nat) := by
 have h := c_mask x m k hk hm
 have p : (0 : Int) < (2 ^ k : Nat) := Int.natCast_pos.mpr (Nat.two_pow_pos k)
 rw [h]
 exact ⟨Int.emod_nonneg _ (by omega), Int.emod_lt_of_pos _ p⟩
theorem own_nat {x : Int32} {b : Nat} (h0 : 0 ≤ x.toInt) (h1 : x.toInt < b) (hb : b ≤ 1000) : ∃ n : Nat, n < b ∧ x = Int32.ofNat n := by
 refine ⟨x.toInt.toNat, by omega, ?_⟩
 apply Int32.toInt_inj.mp
 rw [Int32.toInt_ofNat_small (by omega)]
 omega
theorem own_o3 (x : Int32) : ∃ oN, oN ≤ 3 ∧ x &&& (3 : Int32) = own_P oN 0 := by
 have h := own_mk x (3 : Int32) 2 (by decide) (by decide)
 obtain ⟨n, h1, h2⟩ := own_nat h.1 (b := 4) (by have := h.2; omega) (by decide)
 exact ⟨n, by omega, h2⟩
theorem own_md4 (x : Int32) : ¬ (1 : Int32) + (x &&& (3 : Int32)) < 1 ∧ ¬ 4 < (1 : Int32) + (x &&& (3 : Int32)) := by
 have h := own_mk x (3 : Int32) 2 (by decide) (by decide)
 have a := c_iadd (1 : Int32) (x &&& (3 : Int32))
 have b1 := Int32.le_toInt ((1 : Int32) + (x &&& (3 : Int32)))
 have b2 := Int32.toInt_lt ((1 : Int32) + (x &&& (3 : Int32)))
 have e1 : (1 : Int32).toInt = 1 := by decide
 have e4 : (4 : Int32).toInt = 4 := by decide
 rw [Int32.lt_iff_toInt_lt, Int32.lt_iff_toInt_lt]
 rw [e1] at a ⊢
 rw [e4]
 have := h.2
 omega
theorem own_k50 (x : Int32) : ∃ kk, kk ≤ 49 ∧ (x &&& (2147483647 : Int32)) % (50 : Int32) = Int32.ofNat kk := by
 have h := own_mk x (2147483647 : Int32) 31 (by decide) (by decide)
 have q := (c_irem (x &&& (2147483647 : Int32)) (50 : Int32) 50 (by decide)).1 h.1
 obtain ⟨n, h1, h2⟩ := own_nat (x := (x &&& (2147483647 : Int32)) % (50 : Int32)) (b := 50) (by omega) (by omega) (by decide)
 exact ⟨n, by omega, h2⟩
theorem own_p49 (x : Int32) : ∃ pp, pp ≤ 48 ∧ (x &&& (65535 : Int32)) % (49 : Int32) = Int32.ofNat pp := by
 have h := own_mk x (65535 : Int32) 16 (by decide) (by decide)
 have q := (c_irem (x &&& (65535 : Int32)) (49 : Int32) 49 (by decide)).1 h.1
 obtain ⟨n, h1, h2⟩ := own_nat (x := (x &&& (65535 : Int32)) % (49 : Int32)) (b := 49) (by omega) (by omega) (by decide)
 exact ⟨n, by omega, h2⟩
def own_sg (s : Int32) : Prop := 32 ≤ s.toInt ∧ s.toInt < 65536 ∧ ¬ s = 34 ∧ ¬ s = 92
theorem own_sgA {y : Int32} (h1 : ¬ y &&& (65535 : Int32) < (32 : Int32)) (h2 : ¬ y &&& (65535 : Int32) = (34 : Int32)) (h3 : ¬ y &&& (65535 : Int32) = (92 : Int32)) : own_sg (y &&& (65535 : Int32)) := by
 have h := own_mk y (65535 : Int32) 16 (by decide) (by decide)
 have e : (32 : Int32).toInt = 32 := by decide
 rw [Int32.lt_iff_toInt_lt, e] at h1
 exact ⟨by omega, by have := h.2; omega, h2, h3⟩
theorem own_sgB {y : Int32} (h1 : y &&& (65535 : Int32) < (32 : Int32)) (h2 : ¬ (y &&& (65535 : Int32)) + (32 : Int32) = (34 : Int32)) (h3 : ¬ (y &&& (65535 : Int32)) + (32 : Int32) = (92 : Int32)) : own_sg ((y &&& (65535 : Int32)) + (32 : Int32)) := by
 have h := own_mk y (65535 : Int32) 16 (by decide) (by decide)
 have e : (32 : Int32).toInt = 32 := by decide
 rw [Int32.lt_iff_toInt_lt, e] at h1
 have a := c_iadd (y &&& (65535 : Int32)) (32 : Int32)
 have b1 := Int32.le_toInt ((y &&& (65535 : Int32)) + (32 : Int32))
 have b2 := Int32.toInt_lt ((y &&& (65535 : Int32)) + (32 : Int32))
 rw [e] at a
 have := h.1
 exact ⟨by omega, by omega, h2, h3⟩
theorem own_sg97 : own_sg 97 := ⟨by decide, by decide, by decide, by decide⟩
theorem own_narS {r : Int32} (h0 : 0 ≤ r.toInt) (h1 : r.toInt < 65536) : nar .char r = r := by
 show r.toUInt32.toUInt16.toUInt32.toInt32 = r
 have a := c_i2c r
 apply Int32.toInt_inj.mp
 omega
theorem own_i2cS {r : Int32} (h0 : 0 ≤ r.toInt) (h1 : r.toInt < 65536) : nar .char (r.toUInt32.toUInt16.toUInt32.toInt32) = r := by rw [own_i2c]; exact own_narS h0 h1
theorem own_g2 {tf : Bool} {s : Int32} (h : own_sg s) : own_good tf 2 (nar .char (s.toUInt32.toUInt16.toUInt32.toInt32)) := by
 rw [own_i2cS (by have := h.1; omega) h.2.1]
 have e : (32 : Int32).toInt = 32 := by decide
 refine ⟨fun q => ?_, h.2.2.1, h.2.2.2⟩
 rw [Int32.lt_iff_toInt_lt, e] at q
 have := h.1
 omega
theorem own_gl {tf : Bool} {i : Nat} {v : Int32} (c : Int32) (h : own_good tf i c) (hv : nar .char v = c := by decide) : own_good tf i (nar .char v) := hv ▸ h
theorem own_hxn {r : Int32} (h : own_hx r = 1) : own_hx (nar .char r) = 1 := by
 have e : (nar .char r) &&& (255 : Int32) = r &&& (255 : Int32) := by
  have a : (nar .char r).toInt = (r.toUInt32.toUInt16.toUInt32.toInt32).toInt := rfl
  have b := c_i2c r
  have c1 := c_mask (nar .char r) (255 : Int32) 8 (by decide) (by decide)
  have c2 := c_mask r (255 : Int32) 8 (by decide) (by decide)
  apply Int32.toInt_inj.mp
  omega
 rw [own_hx] at h ⊢
 rw [e]
 exact h
theorem own_wsn {r : Int32} (h : own_ws r) : own_ws (nar .char r) := by
 have e : nar .char r = r := by rcases h with rfl | rfl | rfl | rfl <;> decide
 rw [e]; exact h
theorem own_dgn {r : Int32} (h : own_dg r = 1) : own_dg (nar .char r) = 1 := by
 have e : nar .char r = r := by
  rw [own_dg] at h
  by_cases h1 : r < (48 : Int32)
  ·
   rw [if_pos h1] at h; exact absurd h (by decide)
  ·
   rw [if_neg h1] at h
   by_cases h2 : (57 : Int32) < r
   ·
    rw [if_pos h2] at h; exact absurd h (by decide)
   ·
    have e1 : (48 : Int32).toInt = 48 := by decide
    have e2 : (57 : Int32).toInt = 57 := by decide
    rw [Int32.lt_iff_toInt_lt, e1] at h1
    rw [Int32.lt_iff_toInt_lt, e2] at h2
    exact own_narS (by omega) (by omega)
 rw [e]; exact h
theorem own_escn {r : Int32} (h : own_esc r) (e : nar .char r = r) : own_esc (nar .char r) := e.symm ▸ h
theorem own_o2n {r a b : Int32} (h : r = a ∨ r = b) (e1 : nar .char a = a) (e2 : nar .char b = b) : nar .char r = a ∨ nar .char r = b := by
 rcases h with rfl | rfl
 ·
  exact Or.inl e1
 ·
  exact Or.inr e2
theorem own_ofn {n k : Nat} (hn : n ≤ 60) (hk : k ≤ 60) : Int32.ofNat n = Int32.ofNat k ↔ n = k := by
 constructor
 ·
  intro q
  have := congrArg Int32.toInt q
  rw [Int32.toInt_ofNat_small (by omega), Int32.toInt_ofNat_small (by omega)] at this
  omega
 ·
  intro q; rw [q]
theorem own_ltn {n k : Nat} (hn : n ≤ 60) (hk : k ≤ 60) : Int32.ofNat n < Int32.ofNat k ↔ n < k := by
 rw [Int32.lt_iff_toInt_lt, Int32.toInt_ofNat_small (by omega), Int32.toInt_ofNat_small (by omega)]
 omega
theorem own_mnT {a b : Nat} (ha : a ≤ 60) (hb : b ≤ 60) (h : Int32.ofNat b < Int32.ofNat a) : Int32.ofNat b = Int32.ofNat (min a b) := by
 rw [own_ltn hb ha] at h
 rw [show min a b = b by omega]
theorem own_mnF {a b : Nat} (ha : a ≤ 60) (hb : b ≤ 60) (h : ¬ Int32.ofNat b < Int32.ofNat a) : Int32.ofNat a = Int32.ofNat (min a b) := by
 rw [own_ltn hb ha] at h
 rw [show min a b = a by omega]
theorem own_nis {n : Nat} (h1 : ¬ Int32.ofNat n = (2 : Int32)) (h2 : ¬ Int32.ofNat n = (3 : Int32)) (h3 : ¬ Int32.ofNat n = (5 : Int32)) (h4 : ¬ Int32.ofNat n = (11 : Int32)) (h5 : ¬ Int32.ofNat n = (39 : Int32)) : own_inS n = false := by
 have a1 : ¬ n = 2 := fun q => h1 (by rw [q]; rfl)
 have a2 : ¬ n = 3 := fun q => h2 (by rw [q]; rfl)
 have a3 : ¬ n = 5 := fun q => h3 (by rw [q]; rfl)
 have a4 : ¬ n = 11 := fun q => h4 (by rw [q]; rfl)
 have a5 : ¬ n = 39 := fun q => h5 (by rw [q]; rfl)
 simp [own_inS, a1, a2, a3, a4, a5]
def own_bl (b : Int32) : Prop := 0 ≤ b.toInt ∧ b.toInt < 32 ∧ ¬ b = 9 ∧ ¬ b = 10 ∧ ¬ b = 13
theorem own_bl0 : own_bl 0 := ⟨by decide, by decide, by decide, by decide, by decide⟩
theorem own_blA {x : Int32} (h1 : ¬ x &&& (31 : Int32) = (9 : Int32)) (h2 : ¬ x &&& (31 : Int32) = (10 : Int32)) (h3 : ¬ x &&& (31 : Int32) = (13 : Int32)) : own_bl (x &&& (31 : Int32)) := by
 have h := own_mk x (31 : Int32) 5 (by decide) (by decide)
 exact ⟨h.1, by have := h.2; omega, h1, h2, h3⟩
theorem own_bdA {n : Nat} {b : Int32} (h : own_bl b) : own_bad n (nar .char (b.toUInt32.toUInt16.toUInt32.toInt32)) := by
 rw [own_i2cS h.1 (by have := h.2.1; omega)]
 have e0 : (0 : Int32).toInt = 0 := by decide
 have e : (32 : Int32).toInt = 32 := by decide
 refine Or.inr ⟨fun q => ?_, ?_, h.2.2⟩
 ·
  rw [Int32.lt_iff_toInt_lt, e0] at q
  have := h.1
  omega
 ·
  rw [Int32.lt_iff_toInt_lt, e]; exact h.2.1
def own_b8 (c : Int32) : Prop := c = 35 ∨ c = 41 ∨ c = 120 ∨ c = 42 ∨ c = 59 ∨ c = 60 ∨ c = 61 ∨ c = 62
theorem own_bdB {n : Nat} {y : Int32} (h : own_b8 y) (hn : own_inS n = false) (e : nar .char y = y) : own_bad n (nar .char y) := by
 rw [e]; exact Or.inl ⟨hn, h⟩
def own_db (md : Int32) (db : Nat) : Prop := (md = 1 ∧ db = 14) ∨ (md = 2 ∧ db = 30) ∨ (¬ md = 1 ∧ ¬ md = 2 ∧ db = 48)
theorem own_dbl {md : Int32} {db : Nat} (h : own_db md db) : db ≤ 48 := by rcases h with ⟨-, h⟩ | ⟨-, h⟩ | ⟨-, -, h⟩ <;> omega
def own_ex (oN M : Nat) (x : Int32) : Prop := (48 ≤ M ∧ x = -1) ∨ (M < 48 ∧ x = own_P oN M)
theorem own_HB {Z : State} {h : Heap} {ta : Addr} {kc : ClassId} {tx : List Value} {oN pp kk db : Nat} {md w : Int32} {tf : Bool} (A : Arv Z h ta kc .char (52 : Int32) (tx.set (oN + pp) (.int w)) (.int 0)) (F : own_F tx oN tf 48) (hl : tx.length = 52) (ho : oN ≤ 3) (hpp : pp ≤ 48) (hkk : kk ≤ 49) (hb : own_bad pp w) (hmd : ¬ md < 1 ∧ ¬ 4 < md) (hdb : own_db md db) :
  ∃ cc : Nat → Int32, (∀ i, i < 49 → (tx.set (oN + pp) (.int w)).getD (oN + i) (.int 0) = .int (cc i)) ∧ own_H oN kk md (min kk (min pp db)) tf cc := by
 have hdl := own_dbl hdb
 obtain ⟨cl, Ar, q, Sz, M, H, G⟩ := A
 have e52 : (52 : Int32).toNatClampNeg = 52 := by decide
 have hint : ∀ i, i < 49 → ∃ c, (tx.set (oN + pp) (.int w)).getD (oN + i) (.int 0) = .int c := fun i hi => by
  have g := G (oN + i) (by rw [Sz, e52]; omega)
  cases hv : (tx.set (oN + pp) (.int w)).getD (oN + i) (.int 0) with
  | int c => exact ⟨c, rfl⟩
  | _ => rw [hv] at g; exact absurd g (by simp [fits])
 have hc : ∃ cc : Nat → Int32, ∀ i, i < 49 → (tx.set (oN + pp) (.int w)).getD (oN + i) (.int 0) = .int (cc i) :=
  ⟨fun i => match (tx.set (oN + pp) (.int w)).getD (oN + i) (.int 0) with | .int c => c | _ => 0, fun i hi => by
   obtain ⟨c, e⟩ := hint i hi
   simp only [e]⟩
 obtain ⟨cc, hT⟩ := hc
 have hgood : ∀ i, i < 48 → i ≠ pp → own_good tf i (cc i) := fun i hi hne => by
  obtain ⟨c, h1, h2⟩ := F i hi
  have h3 := hT i (by omega)
  rw [List.getD_eq_getElem?_getD, List.getElem?_set_ne (by omega), ← List.getD_eq_getElem?_getD, h1] at h3
  rw [← Value.int.inj h3]; exact h2
 have hbad : own_bad pp (cc pp) := by
  have h3 := hT pp (by omega)
  rw [List.getD_eq_getElem?_getD, List.getElem?_set_self (by omega)] at h3
  rw [← Value.int.inj h3]; exact hb
 refine ⟨cc, hT, ho, hkk, by omega, by omega, hmd, fun i hi hM => ?_⟩
 by_cases h1 : i < min kk (min pp db)
 ·
  refine Or.inl ⟨h1, by omega, hgood i hi (by omega), ?_⟩
  rintro (⟨e1, e2⟩ | ⟨e1, e2⟩)
  ·
   rcases hdb with ⟨d1, d2⟩ | ⟨d1, d2⟩ | ⟨d1, d2, d3⟩
   ·
    omega
   ·
    rw [e2] at d1; exact absurd d1 (by decide)
   ·
    exact d1 e2
  ·
   rcases hdb with ⟨d1, d2⟩ | ⟨d1, d2⟩ | ⟨d1, d2, d3⟩
   ·
    rw [e2] at d1; exact absurd d1 (by decide)
   ·
    omega
   ·
    exact d2 e2
 ·
  have hM' : min kk (min pp db) = i := by omega
  by_cases h2 : kk = i
  ·
   exact Or.inr (Or.inl ⟨hM', h2⟩)
  ·
   by_cases h3 : pp = i
   ·
    subst h3; exact Or.inr (Or.inr (Or.inl ⟨hM', by omega, hbad⟩))
   ·
    refine Or.inr (Or.inr (Or.inr ⟨hM', by omega, hgood i hi (fun q => h3 q.symm), ?_⟩))
    have hd : db = i := by omega
    rcases hdb with ⟨d1, d2⟩ | ⟨d1, d2⟩ | ⟨d1, d2, d3⟩
    ·
     exact Or.inl ⟨by omega, d1⟩
    ·
     exact Or.inr ⟨by omega, d1⟩
    ·
     omega
theorem own_ch8 (x : Int32) : ∃ y : Int32, ([.int 34, .int 92, .int 47, .int 98, .int 102, .int 110, .int 114, .int 116] : List Value).getD (x &&& (7 : Int32)).toNatClampNeg (.int 0) = .int y ∧ own_esc y ∧ nar .char ((y &&& (255 : Int32)).toUInt32.toUInt16.toUInt32.toInt32) = y ∧ nar .char y = y ∧ ¬ (x &&& (7 : Int32)) < (0 : Int32) ∧ (x &&& (7 : Int32)) < (8 : Int32) := by
 have h : ∀ z : Int32, z = 0 ∨ z = 1 ∨ z = 2 ∨ z = 3 ∨ z = 4 ∨ z = 5 ∨ z = 6 ∨ z = 7 → ∃ y : Int32, ([.int 34, .int 92, .int 47, .int 98, .int 102, .int 110, .int 114, .int 116] : List Value).getD z.toNatClampNeg (.int 0) = .int y ∧ own_esc y ∧ nar .char ((y &&& (255 : Int32)).toUInt32.toUInt16.toUInt32.toInt32) = y ∧ nar .char y = y ∧ ¬ z < (0 : Int32) ∧ z < (8 : Int32) := by
  rintro z (rfl | rfl | rfl | rfl | rfl | rfl | rfl | rfl)
  ·
   exact ⟨34, rfl, Or.inl rfl, by decide, by decide, by decide, by decide⟩
  ·
   exact ⟨92, rfl, Or.inr (Or.inl rfl), by decide, by decide, by decide, by decide⟩
  ·
   exact ⟨47, rfl, Or.inr (Or.inr (Or.inl rfl)), by decide, by decide, by decide, by decide⟩
  ·
   exact ⟨98, rfl, Or.inr (Or.inr (Or.inr (Or.inl rfl))), by decide, by decide, by decide, by decide⟩
  ·
   exact ⟨102, rfl, Or.inr (Or.inr (Or.inr (Or.inr (Or.inl rfl)))), by decide, by decide, by decide, by decide⟩
  ·
   exact ⟨110, rfl, Or.inr (Or.inr (Or.inr (Or.inr (Or.inr (Or.inl rfl))))), by decide, by decide, by decide, by decide⟩
  ·
   exact ⟨114, rfl, Or.inr (Or.inr (Or.inr (Or.inr (Or.inr (Or.inr (Or.inl rfl)))))), by decide, by decide, by decide, by decide⟩
  ·
   exact ⟨116, rfl, Or.inr (Or.inr (Or.inr (Or.inr (Or.inr (Or.inr (Or.inr (rfl))))))), by decide, by decide, by decide, by decide⟩
 refine h _ ?_
 have h := c_mask x (7 : Int32) 3 (by decide) (by decide)
 have e0 : (0 : Int32).toInt = 0 := by decide
 have e1 : (1 : Int32).toInt = 1 := by decide
 have e2 : (2 : Int32).toInt = 2 := by decide
 have e3 : (3 : Int32).toInt = 3 := by decide
 have e4 : (4 : Int32).toInt = 4 := by decide
 have e5 : (5 : Int32).toInt = 5 := by decide
 have e6 : (6 : Int32).toInt = 6 := by decide
 have e7 : (7 : Int32).toInt = 7 := by decide
 simp only [← Int32.toInt_inj, e0, e1, e2, e3, e4, e5, e6, e7]
 omega
theorem own_bd8 (x : Int32) : ∃ y : Int32, ([.int 35, .int 41, .int 120, .int 42, .int 59, .int 60, .int 61, .int 62] : List Value).getD (x &&& (7 : Int32)).toNatClampNeg (.int 0) = .int y ∧ own_b8 y ∧ nar .char ((y &&& (255 : Int32)).toUInt32.toUInt16.toUInt32.toInt32) = y ∧ nar .char y = y ∧ ¬ (x &&& (7 : Int32)) < (0 : Int32) ∧ (x &&& (7 : Int32)) < (8 : Int32) := by
 have h : ∀ z : Int32, z = 0 ∨ z = 1 ∨ z = 2 ∨ z = 3 ∨ z = 4 ∨ z = 5 ∨ z = 6 ∨ z = 7 → ∃ y : Int32, ([.int 35, .int 41, .int 120, .int 42, .int 59, .int 60, .int 61, .int 62] : List Value).getD z.toNatClampNeg (.int 0) = .int y ∧ own_b8 y ∧ nar .char ((y &&& (255 : Int32)).toUInt32.toUInt16.toUInt32.toInt32) = y ∧ nar .char y = y ∧ ¬ z < (0 : Int32) ∧ z < (8 : Int32) := by
  rintro z (rfl | rfl | rfl | rfl | rfl | rfl | rfl | rfl)
  ·
   exact ⟨35, rfl, Or.inl rfl, by decide, by decide, by decide, by decide⟩
  ·
   exact ⟨41, rfl, Or.inr (Or.inl rfl), by decide, by decide, by decide, by decide⟩
  ·
   exact ⟨120, rfl, Or.inr (Or.inr (Or.inl rfl)), by decide, by decide, by decide, by decide⟩
  ·
   exact ⟨42, rfl, Or.inr (Or.inr (Or.inr (Or.inl rfl))), by decide, by decide, by decide, by decide⟩
  ·
   exact ⟨59, rfl, Or.inr (Or.inr (Or.inr (Or.inr (Or.inl rfl)))), by decide, by decide, by decide, by decide⟩
  ·
   exact ⟨60, rfl, Or.inr (Or.inr (Or.inr (Or.inr (Or.inr (Or.inl rfl))))), by decide, by decide, by decide, by decide⟩
  ·
   exact ⟨61, rfl, Or.inr (Or.inr (Or.inr (Or.inr (Or.inr (Or.inr (Or.inl rfl)))))), by decide, by decide, by decide, by decide⟩
  ·
   exact ⟨62, rfl, Or.inr (Or.inr (Or.inr (Or.inr (Or.inr (Or.inr (Or.inr (rfl))))))), by decide, by decide, by decide, by decide⟩
 refine h _ ?_
 have h := c_mask x (7 : Int32) 3 (by decide) (by decide)
 have e0 : (0 : Int32).toInt = 0 := by decide
 have e1 : (1 : Int32).toInt = 1 := by decide
 have e2 : (2 : Int32).toInt = 2 := by decide
 have e3 : (3 : Int32).toInt = 3 := by decide
 have e4 : (4 : Int32).toInt = 4 := by decide
 have e5 : (5 : Int32).toInt = 5 := by decide
 have e6 : (6 : Int32).toInt = 6 := by decide
 have e7 : (7 : Int32).toInt = 7 := by decide
 simp only [← Int32.toInt_inj, e0, e1, e2, e3, e4, e5, e6, e7]
 omega
def own_PL (Z s : State) (below : List Frame) (n0 : Nat) : State → Outcome → Prop := own_EC Z s below room_1 (fun v _ L => v = some (.int 1) ∧ Fr n0 L)
theorem own_Btf {Z : State} {vm : Vm} {k : Nat} {h : Heap} {n0 : Nat} {ta : Addr} {cs : Int32} {fm : Value} {oN : Nat} {tf : Bool} (F : own_B Z vm k h n0 ta cs fm oN tf 0) (tf' : Bool) : own_B Z vm k h n0 ta cs fm oN tf' 0 := by
 obtain ⟨kc, tx, F0, F1⟩ := F
 exact ⟨kc, tx, F0, fun j hj => absurd hj (by omega)⟩
theorem own_fsL {l : Launch} {ws : List Jvm.Cond} {A : Array Value} {Z : State} {h0 : Heap} {n0 : Nat} {Ls : Array Slot} (hp : plainFor x = true) (hef : ∀ m, entryFrame m A maxLocals = mkF m 0 Ls [])
  (k : ∀ p e s m below meth c s₁, own_Y p c code → c.maxLocals = 21 → Z.Warmed39 (s.setVm s.vm).vm → (s.setVm s.vm).vm.findClass "dev/parlance/JsonGrammarBreaksAtPinLaw" = some m.cls → meth.sig.returnType = some .boolean → meth.locks = false → Stand p l e room_1 (s.setVm s.vm) m A below meth c s₁ [] 0 0 → s₁.heap = h0 → s.Since s.vm 0 → 0 ≤ h0.size → own_In Z s.vm h0 → own_R p e below (own_PL Z s below n0) s₁ m 0 Ls []) :
  MetFree l x (head1 (Jvm.Cond.code x code maxLocals ret :: ws) room_1) (fun ar_ U_ => ar_ = A ∧ Z.Warmed39 U_.vm ∧ U_.heap = h0 ∧ own_In Z U_.vm h0) (fun _ _ _ _ _ => True) (fun _ U_ ou_ V_ => ∃ v_ L_, ou_ = .returned v_ ∧ (v_ = some (.int 1) ∧ Fr n0 L_) ∧ ReturnedEndW U_ ou_ V_ L_ room_1.cells room_1.slots) := by
 refine MetFree.of_bodySF hp hisR ?_
 intro p e s m args below meth c s₁ Bd hml0 hP hK
 obtain ⟨rfl, hZ, hh, hIn⟩ := hP
 have hlk : meth.locks = false := by first | assumption | exact BodyLoose.notSynchronized (by assumption) | exact Body.notSynchronized (by assumption)
 obtain ⟨t, o, k1, k2, k3, v, L, k4, k5, k6⟩ := k p e s m below meth c s₁ ⟨Bd.exec, Bd.bytes⟩ hml0 hZ (findClass_of_methodNamed Bd.named) Bd.returns hlk (Stand.of_body Bd) (by rw [← hh, Bd.state]; rfl) ((State.WarmedH.refl s).since 0) (Nat.zero_le _) hIn
 exact ⟨t, o, castTop (hef m) k1, k2, k3, v, L, k4, k5.1, k6⟩
abbrev C14 : ByteArray := prog_6_method_11_code
abbrev C30 : ByteArray := prog_6_method_9_code
abbrev C29 : ByteArray := prog_6_method_8_code
abbrev C31 : ByteArray := prog_6_method_10_code
abbrev C16 : ByteArray := prog_6_method_5_code
abbrev C18 : ByteArray := prog_6_method_6_code
abbrev C19 : ByteArray := prog_6_method_7_code
abbrev C13 : ByteArray := prog_6_method_3_code
abbrev C17 : ByteArray := prog_6_method_4_code
abbrev C12 : ByteArray := prog_6_method_2_code
theorem a14_0 : own_Ae C14 0 := by decide +kernel
theorem t14_11 : own_Tc C14 11 := by decide +kernel
theorem t14_25 : own_Tc C14 25 := by decide +kernel
theorem t14_39 : own_Tc C14 39 := by decide +kernel
theorem t14_53 : own_Tc C14 53 := by decide +kernel
theorem i14_67 : own_Ic C14 67 := by decide +kernel
theorem a30_5 : own_Ae C30 5 := by decide +kernel
theorem t30_16 : own_Tc C30 16 := by decide +kernel
theorem i30_31 : own_Ic C30 31 := by decide +kernel
theorem t29_0 : own_Tc C29 0 := by decide +kernel
theorem i29_14 : own_Ic C29 14 := by decide +kernel
theorem a29_24 : own_Ae C29 24 := by decide +kernel
theorem t29_35 : own_Tc C29 35 := by decide +kernel
theorem a29_71 : own_Ae C29 71 := by decide +kernel
theorem t29_82 : own_Tc C29 82 := by decide +kernel
theorem i29_96 : own_Ic C29 96 := by decide +kernel
theorem a29_115 : own_Ae C29 115 := by decide +kernel
theorem t29_126 : own_Tc C29 126 := by decide +kernel
theorem i29_154 : own_Ic C29 154 := by decide +kernel
theorem a29_164 : own_Ae C29 164 := by decide +kernel
theorem t29_175 : own_Tc C29 175 := by decide +kernel
theorem i29_203 : own_Ic C29 203 := by decide +kernel
theorem t29_189 : own_Tc C29 189 := by decide +kernel
theorem t29_140 : own_Tc C29 140 := by decide +kernel
theorem a31_10 : own_Ae C31 10 := by decide +kernel
theorem t31_21 : own_Tc C31 21 := by decide +kernel
theorem i31_40 : own_Ic C31 40 := by decide +kernel
theorem i16_64 : own_Ic C16 64 := by decide +kernel
theorem i18_0 : own_Ic C18 0 := by decide +kernel
theorem a18_10 : own_Ae C18 10 := by decide +kernel
theorem t18_21 : own_Tc C18 21 := by decide +kernel
theorem a18_87 : own_Ae C18 87 := by decide +kernel
theorem i18_100 : own_Ic C18 100 := by decide +kernel
theorem t18_35 : own_Tc C18 35 := by decide +kernel
theorem i19_0 : own_Ic C19 0 := by decide +kernel
theorem a19_10 : own_Ae C19 10 := by decide +kernel
theorem t19_21 : own_Tc C19 21 := by decide +kernel
theorem i19_62 : own_Ic C19 62 := by decide +kernel
theorem a19_76 : own_Ae C19 76 := by decide +kernel
theorem t19_87 : own_Tc C19 87 := by decide +kernel
theorem i19_102 : own_Ic C19 102 := by decide +kernel
theorem t18_51 : own_Tc C18 51 := by decide +kernel
theorem i18_65 : own_Ic C18 65 := by decide +kernel
theorem a13_4 : own_Ae C13 4 := by decide +kernel
theorem t13_15 : own_Tc C13 15 := by decide +kernel
theorem a17_4 : own_Ae C17 4 := by decide +kernel
theorem t17_15 : own_Tc C17 15 := by decide +kernel
theorem a17_42 : own_Ae C17 42 := by decide +kernel
theorem t17_53 : own_Tc C17 53 := by decide +kernel
theorem i17_69 : own_Ic C17 69 := by decide +kernel
theorem a12_42 : own_Ae C12 42 := by decide +kernel
theorem t12_53 : own_Tc C12 53 := by decide +kernel
theorem i12_133 : own_Ic C12 133 := by decide +kernel
theorem i12_84 : own_Ic C12 84 := by decide +kernel
section OwnV
variable {l : Launch} {Z : State} {a0 : Array Value} {g ct ob : Addr} {kc ko : ClassId} {tx : List Value} {cc : Nat → Int32} {oN kk M : Nat} {tf : Bool} {md dd oo : Int32} {h0 : Heap} {n0 : Nat} {x1 t1 : Addr} {kb : ClassId} {nn : Int32} {vs : List Value} {cs aa : Int32} {fm : Value} {i : Nat} {w0 w1 w2 w3 w4 w5 w6 w7 w8 w9 w10 w11 w12 w13 w14 w15 : Value}
abbrev C15 : ByteArray := prog_6_method_12_code
theorem d15_0 : decode C15 0 = .ok (.iload_n 0, 1) := by decide +kernel
theorem d15_1 : decode C15 1 = .ok (.bipush 48, 2) := by decide +kernel
theorem d15_3 : decode C15 3 = .ok (.if_icmp .lt 13, 3) := by decide +kernel
theorem d15_6 : decode C15 6 = .ok (.iload_n 0, 1) := by decide +kernel
theorem d15_7 : decode C15 7 = .ok (.bipush 57, 2) := by decide +kernel
theorem d15_9 : decode C15 9 = .ok (.if_icmp .gt 7, 3) := by decide +kernel
theorem d15_12 : decode C15 12 = .ok (.iconst 1, 1) := by decide +kernel
theorem d15_13 : decode C15 13 = .ok (.goto 4, 3) := by decide +kernel
theorem d15_16 : decode C15 16 = .ok (.iconst 0, 1) := by decide +kernel
theorem d15_17 : decode C15 17 = .ok (.ireturn, 1) := by decide +kernel
theorem own_pn15 : plainName "dev/parlance/JsonGrammar" = true := by first | (simp [plainName, overriddenIn]; done) | decide +kernel
theorem own_ef15 (m : MethodId) (x0 : Int32) : entryFrame m #[(.int x0)] 1 = mkF m 0 #[.val (.int x0)] [] := by first | (simp [entryFrame, mkF, argsToLocals, Value.category]; done) | rfl
def QrmID (Z : State) (r : Int32) (h0 : Heap) (n0 : Nat) (v : Option Value) (h : Heap) (L : List Loc) : Prop := v = some (.int r) ∧ Fr n0 L ∧ h = h0
theorem rmID (hw : own_HW Z a0) (qc r : Int32) (Z0 : n0 ≤ h0.size) (hr : own_dg qc = r) :
  own_MF l "dev/parlance/JsonGrammar" "isDigit" "(C)Z" prog_6_method_12_code 1 (some .boolean) ⟨0, 0, 0, 0⟩ #[(.int qc)] Z h0 (QrmID Z r h0 n0) := by
 refine own_fst (plainFor_of_name own_pn15) (own_ef15 · qc) fun p e s m below meth c s₁ hy hml hZ hown hnm hrt hlk X0 e0 => ?_
 have N0 := Fr.nil n0
 refine own_il X0 hy d15_0 rfl ?_
 refine own_bp X0 hy d15_1 ?_
 by_cases hs1 : qc < (48 : Int32)
 ·
  refine own_cy X0 hy d15_3 16 (tlt hs1).1 ?_
  refine own_ic X0 hy d15_16 ?_
  exact own_rF X0 hy hrt hlk d15_17 e0 ⟨by rw [← hr, own_dg]; rw [if_pos hs1], N0, rfl⟩
 ·
  refine own_cn X0 hy d15_3 (flt hs1).1 ?_
  refine own_il X0 hy d15_6 rfl ?_
  refine own_bp X0 hy d15_7 ?_
  by_cases hs2 : (57 : Int32) < qc
  ·
   refine own_cy X0 hy d15_9 16 (tlt hs2).2.2.1 ?_
   refine own_ic X0 hy d15_16 ?_
   exact own_rF X0 hy hrt hlk d15_17 e0 ⟨by rw [← hr, own_dg]; rw [if_neg hs1, if_pos hs2], N0, rfl⟩
  ·
   refine own_cn X0 hy d15_9 (flt hs2).2.2.1 ?_
   refine own_ic X0 hy d15_12 ?_
   refine own_gt X0 hy d15_13 17 ?_
   exact own_rT X0 hy hrt hlk d15_17 e0 ⟨by rw [← hr, own_dg]; rw [if_neg hs1, if_neg hs2], N0, rfl⟩
abbrev C28 : ByteArray := prog_6_method_13_code
theorem d28_0 : decode C28 0 = .ok (.iload_n 0, 1) := by decide +kernel
theorem d28_1 : decode C28 1 = .ok (.sipush 255, 3) := by decide +kernel
theorem d28_4 : decode C28 4 = .ok (.iand, 1) := by decide +kernel
theorem d28_5 : decode C28 5 = .ok (.i2c, 1) := by decide +kernel
theorem d28_6 : decode C28 6 = .ok (.istore_n 1, 1) := by decide +kernel
theorem d28_7 : decode C28 7 = .ok (.iload_n 1, 1) := by decide +kernel
theorem d28_8 : decode C28 8 = .ok (.invokestatic 51, 3) := by decide +kernel
theorem d28_11 : decode C28 11 = .ok (.ifCond .ne 27, 3) := by decide +kernel
theorem d28_14 : decode C28 14 = .ok (.iload_n 1, 1) := by decide +kernel
theorem d28_15 : decode C28 15 = .ok (.bipush 97, 2) := by decide +kernel
theorem d28_17 : decode C28 17 = .ok (.if_icmp .lt 9, 3) := by decide +kernel
theorem d28_20 : decode C28 20 = .ok (.iload_n 1, 1) := by decide +kernel
theorem d28_21 : decode C28 21 = .ok (.bipush 102, 2) := by decide +kernel
theorem d28_23 : decode C28 23 = .ok (.if_icmp .le 15, 3) := by decide +kernel
theorem d28_26 : decode C28 26 = .ok (.iload_n 1, 1) := by decide +kernel
theorem d28_27 : decode C28 27 = .ok (.bipush 65, 2) := by decide +kernel
theorem d28_29 : decode C28 29 = .ok (.if_icmp .lt 13, 3) := by decide +kernel
theorem d28_32 : decode C28 32 = .ok (.iload_n 1, 1) := by decide +kernel
theorem d28_33 : decode C28 33 = .ok (.bipush 70, 2) := by decide +kernel
theorem d28_35 : decode C28 35 = .ok (.if_icmp .gt 7, 3) := by decide +kernel
theorem d28_38 : decode C28 38 = .ok (.iconst 1, 1) := by decide +kernel
theorem d28_39 : decode C28 39 = .ok (.goto 4, 3) := by decide +kernel
theorem d28_42 : decode C28 42 = .ok (.iconst 0, 1) := by decide +kernel
theorem d28_43 : decode C28 43 = .ok (.ireturn, 1) := by decide +kernel
theorem own_pn28 : plainName "dev/parlance/JsonGrammar" = true := by first | (simp [plainName, overriddenIn]; done) | decide +kernel
theorem own_ef28 (m : MethodId) (x0 : Int32) : entryFrame m #[(.int x0)] 2 = mkF m 0 #[.val (.int x0), .unset] [] := by first | (simp [entryFrame, mkF, argsToLocals, Value.category]; done) | rfl
def QrmHX (Z : State) (r : Int32) (h0 : Heap) (n0 : Nat) (v : Option Value) (h : Heap) (L : List Loc) : Prop := v = some (.int r) ∧ Fr n0 L ∧ h = h0
theorem rmHX (hw : own_HW Z a0) (qc r : Int32) (Z0 : n0 ≤ h0.size) (hr : own_hx qc = r) :
  own_MF l "dev/parlance/JsonGrammar" "isHexDigit" "(C)Z" prog_6_method_13_code 2 (some .boolean) ⟨1, 0, 0, 12⟩ #[(.int qc)] Z h0 (QrmHX Z r h0 n0) := by
 refine own_fst (plainFor_of_name own_pn28) (own_ef28 · qc) fun p e s m below meth c s₁ hy hml hZ hown hnm hrt hlk X0 e0 => ?_
 have N0 := Fr.nil n0
 refine own_il X0 hy d28_0 rfl ?_
 refine own_sp X0 hy d28_1 ?_
 refine own_an X0 hy d28_4 ?_
 refine own_cc X0 hy d28_5 ?_
 refine own_is X0 hy d28_6 (l' := #[.val (.int qc), .val (.int ((qc &&& (255 : Int32)).toUInt32.toUInt16.toUInt32.toInt32))]) rfl ?_
 refine own_il X0 hy d28_7 rfl ?_
 refine own_cs X0 hy hZ hown (own_y0 hw) (rmID hw ((qc &&& (255 : Int32)).toUInt32.toUInt16.toUInt32.toInt32) (own_dg ((qc &&& (255 : Int32)).toUInt32.toUInt16.toUInt32.toInt32)) Z0 rfl) e0 d28_8 own_pd0 hml fun v1 T1 L1 X1 hQ1 => ?_
 obtain ⟨rfl, N1q, e1⟩ := hQ1
 have N1 := Fr.app N0 N1q
 by_cases hs2 : (own_dg ((qc &&& (255 : Int32)).toUInt32.toUInt16.toUInt32.toInt32)) = (0 : Int32)
 ·
  refine own_zn X1 hy d28_11 ((if0 _ _).trans (teq hs2).2) ?_
  refine own_il X1 hy d28_14 rfl ?_
  refine own_bp X1 hy d28_15 ?_
  by_cases hs3 : ((qc &&& (255 : Int32)).toUInt32.toUInt16.toUInt32.toInt32) < (97 : Int32)
  ·
   refine own_cy X1 hy d28_17 26 (tlt hs3).1 ?_
   refine own_il X1 hy d28_26 rfl ?_
   refine own_bp X1 hy d28_27 ?_
   by_cases hs4 : ((qc &&& (255 : Int32)).toUInt32.toUInt16.toUInt32.toInt32) < (65 : Int32)
   ·
    refine own_cy X1 hy d28_29 42 (tlt hs4).1 ?_
    refine own_ic X1 hy d28_42 ?_
    exact own_rF X1 hy hrt hlk d28_43 e1 ⟨by rw [← hr, own_hx]; rw [if_pos hs2, if_pos hs3, if_pos hs4], N1, rfl⟩
   ·
    refine own_cn X1 hy d28_29 (flt hs4).1 ?_
    refine own_il X1 hy d28_32 rfl ?_
    refine own_bp X1 hy d28_33 ?_
    by_cases hs5 : (70 : Int32) < ((qc &&& (255 : Int32)).toUInt32.toUInt16.toUInt32.toInt32)
    ·
     refine own_cy X1 hy d28_35 42 (tlt hs5).2.2.1 ?_
     refine own_ic X1 hy d28_42 ?_
     exact own_rF X1 hy hrt hlk d28_43 e1 ⟨by rw [← hr, own_hx]; rw [if_pos hs2, if_pos hs3, if_neg hs4, if_pos hs5], N1, rfl⟩
    ·
     refine own_cn X1 hy d28_35 (flt hs5).2.2.1 ?_
     refine own_ic X1 hy d28_38 ?_
     refine own_gt X1 hy d28_39 43 ?_
     exact own_rT X1 hy hrt hlk d28_43 e1 ⟨by rw [← hr, own_hx]; rw [if_pos hs2, if_pos hs3, if_neg hs4, if_neg hs5], N1, rfl⟩
  ·
   refine own_cn X1 hy d28_17 (flt hs3).1 ?_
   refine own_il X1 hy d28_20 rfl ?_
   refine own_bp X1 hy d28_21 ?_
   by_cases hs6 : (102 : Int32) < ((qc &&& (255 : Int32)).toUInt32.toUInt16.toUInt32.toInt32)
   ·
    refine own_cn X1 hy d28_23 (tlt hs6).2.2.2 ?_
    refine own_il X1 hy d28_26 rfl ?_
    refine own_bp X1 hy d28_27 ?_
    by_cases hs7 : ((qc &&& (255 : Int32)).toUInt32.toUInt16.toUInt32.toInt32) < (65 : Int32)
    ·
     refine own_cy X1 hy d28_29 42 (tlt hs7).1 ?_
     refine own_ic X1 hy d28_42 ?_
     exact own_rF X1 hy hrt hlk d28_43 e1 ⟨by rw [← hr, own_hx]; rw [if_pos hs2, if_neg hs3, if_pos hs6, if_pos hs7], N1, rfl⟩
    ·
     refine own_cn X1 hy d28_29 (flt hs7).1 ?_
     refine own_il X1 hy d28_32 rfl ?_
     refine own_bp X1 hy d28_33 ?_
     by_cases hs8 : (70 : Int32) < ((qc &&& (255 : Int32)).toUInt32.toUInt16.toUInt32.toInt32)
     ·
      refine own_cy X1 hy d28_35 42 (tlt hs8).2.2.1 ?_
      refine own_ic X1 hy d28_42 ?_
      exact own_rF X1 hy hrt hlk d28_43 e1 ⟨by rw [← hr, own_hx]; rw [if_pos hs2, if_neg hs3, if_pos hs6, if_neg hs7, if_pos hs8], N1, rfl⟩
     ·
      refine own_cn X1 hy d28_35 (flt hs8).2.2.1 ?_
      refine own_ic X1 hy d28_38 ?_
      refine own_gt X1 hy d28_39 43 ?_
      exact own_rT X1 hy hrt hlk d28_43 e1 ⟨by rw [← hr, own_hx]; rw [if_pos hs2, if_neg hs3, if_pos hs6, if_neg hs7, if_neg hs8], N1, rfl⟩
   ·
    refine own_cy X1 hy d28_23 38 (flt hs6).2.2.2 ?_
    refine own_ic X1 hy d28_38 ?_
    refine own_gt X1 hy d28_39 43 ?_
    exact own_rT X1 hy hrt hlk d28_43 e1 ⟨by rw [← hr, own_hx]; rw [if_pos hs2, if_neg hs3, if_neg hs6], N1, rfl⟩
 ·
  refine own_zy X1 hy d28_11 38 ((if0 _ _).trans (feq hs2).2) ?_
  refine own_ic X1 hy d28_38 ?_
  refine own_gt X1 hy d28_39 43 ?_
  exact own_rT X1 hy hrt hlk d28_43 e1 ⟨by rw [← hr, own_hx]; rw [if_neg hs2], N1, rfl⟩
abbrev C9 : ByteArray := jdk_29_method_69_code
theorem d9_0 : decode C9 0 = .ok (.iload_n 0, 1) := by decide +kernel
theorem d9_1 : decode C9 1 = .ok (.iload_n 1, 1) := by decide +kernel
theorem d9_2 : decode C9 2 = .ok (.if_icmp .gt 7, 3) := by decide +kernel
theorem d9_5 : decode C9 5 = .ok (.iload_n 0, 1) := by decide +kernel
theorem d9_6 : decode C9 6 = .ok (.goto 4, 3) := by decide +kernel
theorem d9_9 : decode C9 9 = .ok (.iload_n 1, 1) := by decide +kernel
theorem d9_10 : decode C9 10 = .ok (.ireturn, 1) := by decide +kernel
theorem own_ef9 (m : MethodId) (x0 : Int32) (x1 : Int32) : entryFrame m #[(.int x0), (.int x1)] 2 = mkF m 0 #[.val (.int x0), .val (.int x1)] [] := by first | (simp [entryFrame, mkF, argsToLocals, Value.category]; done) | rfl
def QrmMin (Z : State) (qa : Int32) (qb : Int32) (h0 : Heap) (n0 : Nat) (v : Option Value) (h : Heap) (L : List Loc) : Prop := v = some (.int (if qb < qa then qb else qa)) ∧ Fr n0 L ∧ h = h0
theorem rmMin (hw : own_HW Z a0) (qa qb : Int32) (Z0 : n0 ≤ h0.size) :
  own_MF l "java/lang/Math" "min" "(II)I" jdk_29_method_69_code 2 (some .int) ⟨0, 0, 0, 0⟩ #[(.int qa), (.int qb)] Z h0 (QrmMin Z qa qb h0 n0) := by
 refine own_fst (Jvm.Free.JP.mathPlain rfl (by decide +kernel)) (own_ef9 · qa qb) fun p e s m below meth c s₁ hy hml hZ hown hnm hrt hlk X0 e0 => ?_
 have N0 := Fr.nil n0
 refine own_il X0 hy d9_0 rfl ?_
 refine own_il X0 hy d9_1 rfl ?_
 by_cases hs1 : qb < qa
 ·
  refine own_cy X0 hy d9_2 9 (tlt hs1).2.2.1 ?_
  refine own_il X0 hy d9_9 rfl ?_
  exact own_rI X0 hy hrt hlk d9_10 e0 ⟨by rw [if_pos hs1], N0, rfl⟩
 ·
  refine own_cn X0 hy d9_2 (flt hs1).2.2.1 ?_
  refine own_il X0 hy d9_5 rfl ?_
  refine own_gt X0 hy d9_6 10 ?_
  exact own_rI X0 hy hrt hlk d9_10 e0 ⟨by rw [if_neg hs1], N0, rfl⟩
abbrev C26 : ByteArray := jdk_29_method_65_code
theorem d26_0 : decode C26 0 = .ok (.iload_n 0, 1) := by decide +kernel
theorem d26_1 : decode C26 1 = .ok (.iload_n 1, 1) := by decide +kernel
theorem d26_2 : decode C26 2 = .ok (.if_icmp .lt 7, 3) := by decide +kernel
theorem d26_5 : decode C26 5 = .ok (.iload_n 0, 1) := by decide +kernel
theorem d26_6 : decode C26 6 = .ok (.goto 4, 3) := by decide +kernel
theorem d26_9 : decode C26 9 = .ok (.iload_n 1, 1) := by decide +kernel
theorem d26_10 : decode C26 10 = .ok (.ireturn, 1) := by decide +kernel
theorem own_ef26 (m : MethodId) (x0 : Int32) (x1 : Int32) : entryFrame m #[(.int x0), (.int x1)] 2 = mkF m 0 #[.val (.int x0), .val (.int x1)] [] := by first | (simp [entryFrame, mkF, argsToLocals, Value.category]; done) | rfl
def QrmMax (Z : State) (qa : Int32) (qb : Int32) (h0 : Heap) (n0 : Nat) (v : Option Value) (h : Heap) (L : List Loc) : Prop := v = some (.int (if qa < qb then qb else qa)) ∧ Fr n0 L ∧ h = h0
theorem rmMax (hw : own_HW Z a0) (qa qb : Int32) (Z0 : n0 ≤ h0.size) :
  own_MF l "java/lang/Math" "max" "(II)I" jdk_29_method_65_code 2 (some .int) ⟨0, 0, 0, 0⟩ #[(.int qa), (.int qb)] Z h0 (QrmMax Z qa qb h0 n0) := by
 refine own_fst (Jvm.Free.JP.mathPlain rfl (by decide +kernel)) (own_ef26 · qa qb) fun p e s m below meth c s₁ hy hml hZ hown hnm hrt hlk X0 e0 => ?_
 have N0 := Fr.nil n0
 refine own_il X0 hy d26_0 rfl ?_
 refine own_il X0 hy d26_1 rfl ?_
 by_cases hs1 : qa < qb
 ·
  refine own_cy X0 hy d26_2 9 (tlt hs1).1 ?_
  refine own_il X0 hy d26_9 rfl ?_
  exact own_rI X0 hy hrt hlk d26_10 e0 ⟨by rw [if_pos hs1], N0, rfl⟩
 ·
  refine own_cn X0 hy d26_2 (flt hs1).1 ?_
  refine own_il X0 hy d26_5 rfl ?_
  refine own_gt X0 hy d26_6 10 ?_
  exact own_rI X0 hy hrt hlk d26_10 e0 ⟨by rw [if_neg hs1], N0, rfl⟩
abbrev C25 : ByteArray := jdk_43_method_4_code
theorem d25_0 : decode C25 0 = .ok (.iload_n 0, 1) := by decide +kernel
theorem d25_1 : decode C25 1 = .ok (.ifCond .lt 14, 3) := by decide +kernel
theorem d25_4 : decode C25 4 = .ok (.iload_n 0, 1) := by decide +kernel
theorem d25_5 : decode C25 5 = .ok (.sipush 255, 3) := by decide +kernel
theorem d25_8 : decode C25 8 = .ok (.if_icmp .gt 7, 3) := by decide +kernel
theorem d25_11 : decode C25 11 = .ok (.iconst 1, 1) := by decide +kernel
theorem d25_12 : decode C25 12 = .ok (.goto 4, 3) := by decide +kernel
theorem d25_16 : decode C25 16 = .ok (.ireturn, 1) := by decide +kernel
theorem own_pn25 : plainName "java/lang/StringLatin1" = true := by first | (simp [plainName, overriddenIn]; done) | decide +kernel
theorem own_ef25 (m : MethodId) (x0 : Int32) : entryFrame m #[(.int x0)] 1 = mkF m 0 #[.val (.int x0)] [] := by first | (simp [entryFrame, mkF, argsToLocals, Value.category]; done) | rfl
def QrmCE (Z : State)  (h0 : Heap) (n0 : Nat) (v : Option Value) (h : Heap) (L : List Loc) : Prop := v = some (.int 1) ∧ Fr n0 L ∧ h = h0
theorem rmCE (hw : own_HW Z a0) (qc : Int32) (Z0 : n0 ≤ h0.size) (hc0 : ¬ qc < (0 : Int32)) (hc1 : ¬ (255 : Int32) < qc) :
  own_MF l "java/lang/StringLatin1" "canEncode" "(I)Z" jdk_43_method_4_code 1 (some .boolean) ⟨0, 0, 0, 0⟩ #[(.int qc)] Z h0 (QrmCE Z  h0 n0) := by
 refine own_fst (plainFor_of_name own_pn25) (own_ef25 · qc) fun p e s m below meth c s₁ hy hml hZ hown hnm hrt hlk X0 e0 => ?_
 have N0 := Fr.nil n0
 refine own_il X0 hy d25_0 rfl ?_
 refine own_zn X0 hy d25_1 ((if0 _ _).trans (flt hc0).1) ?_
 refine own_il X0 hy d25_4 rfl ?_
 refine own_sp X0 hy d25_5 ?_
 refine own_cn X0 hy d25_8 (flt hc1).2.2.1 ?_
 refine own_ic X0 hy d25_11 ?_
 refine own_gt X0 hy d25_12 16 ?_
 exact own_rT X0 hy hrt hlk d25_16 e0 ⟨rfl, N0, rfl⟩
abbrev C5 : ByteArray := jdk_41_method_11_code
theorem d5_0 : decode C5 0 = .ok (.iload_n 0, 1) := by decide +kernel
theorem d5_1 : decode C5 1 = .ok (.ifCond .lt 8, 3) := by decide +kernel
theorem d5_4 : decode C5 4 = .ok (.iload_n 0, 1) := by decide +kernel
theorem d5_5 : decode C5 5 = .ok (.iload_n 1, 1) := by decide +kernel
theorem d5_6 : decode C5 6 = .ok (.if_icmp .lt 10, 3) := by decide +kernel
theorem d5_16 : decode C5 16 = .ok (.iload_n 0, 1) := by decide +kernel
theorem d5_17 : decode C5 17 = .ok (.ireturn, 1) := by decide +kernel
theorem own_pn5 : plainName "jdk/internal/util/Preconditions" = true := by first | (simp [plainName, overriddenIn]; done) | decide +kernel
theorem own_ef5 (m : MethodId) (x0 : Int32) (x1 : Int32) (x2 : Value) (y2 : x2.isRef = true) : entryFrame m #[(.int x0), (.int x1), x2] 3 = mkF m 0 #[.val (.int x0), .val (.int x1), .val x2] [] := by first | (cases x2 <;> first | rfl | cases y2) | (simp [entryFrame, mkF, argsToLocals, Value.category]; done) | rfl
def QrmPK (Z : State) (ix : Int32) (h0 : Heap) (n0 : Nat) (v : Option Value) (h : Heap) (L : List Loc) : Prop := v = some (.int ix) ∧ Fr n0 L ∧ h = h0
theorem rmPK (hw : own_HW Z a0) (ix nx : Int32) (Z0 : n0 ≤ h0.size) (hi0 : ¬ ix < (0 : Int32)) (hi1 : ix < nx) (rfm : fm.isRef = true) :
  own_MF l "jdk/internal/util/Preconditions" "checkIndex" "(IILjava/util/function/BiFunction;)I" jdk_41_method_11_code 3 (some .int) ⟨0, 0, 0, 0⟩ #[(.int ix), (.int nx), fm] Z h0 (QrmPK Z ix h0 n0) := by
 refine own_fst (plainFor_of_name own_pn5) (own_ef5 · ix nx fm rfm) fun p e s m below meth c s₁ hy hml hZ hown hnm hrt hlk X0 e0 => ?_
 have N0 := Fr.nil n0
 refine own_il X0 hy d5_0 rfl ?_
 refine own_zn X0 hy d5_1 ((if0 _ _).trans (flt hi0).1) ?_
 refine own_il X0 hy d5_4 rfl ?_
 refine own_il X0 hy d5_5 rfl ?_
 refine own_cy X0 hy d5_6 16 (tlt hi1).1 ?_
 refine own_il X0 hy d5_16 rfl ?_
 exact own_rI X0 hy hrt hlk d5_17 e0 ⟨rfl, N0, rfl⟩
abbrev C4 : ByteArray := jdk_42_method_155_code
theorem d4_0 : decode C4 0 = .ok (.iload_n 0, 1) := by decide +kernel
theorem d4_1 : decode C4 1 = .ok (.iload_n 1, 1) := by decide +kernel
theorem d4_2 : decode C4 2 = .ok (.getstatic 1053, 3) := by decide +kernel
theorem d4_5 : decode C4 5 = .ok (.invokestatic 1059, 3) := by decide +kernel
theorem d4_8 : decode C4 8 = .ok (.pop, 1) := by decide +kernel
theorem d4_9 : decode C4 9 = .ok (.return_, 1) := by decide +kernel
theorem own_pn4 : plainName "java/lang/String" = true := by first | (simp [plainName, overriddenIn]; done) | decide +kernel
theorem own_ef4 (m : MethodId) (x0 : Int32) (x1 : Int32) : entryFrame m #[(.int x0), (.int x1)] 2 = mkF m 0 #[.val (.int x0), .val (.int x1)] [] := by first | (simp [entryFrame, mkF, argsToLocals, Value.category]; done) | rfl
def QrmSK (Z : State)  (h0 : Heap) (n0 : Nat) (v : Option Value) (h : Heap) (L : List Loc) : Prop := v = none ∧ Fr n0 L ∧ h = h0
theorem rmSK (hw : own_HW Z a0) (ix nx : Int32) (Z0 : n0 ≤ h0.size) (hi0 : ¬ ix < (0 : Int32)) (hi1 : ix < nx) (S_fm : Sta Z h0 "jdk/internal/util/Preconditions" "SIOOBE_FORMATTER" "Ljava/util/function/BiFunction;" fm) (rfm : fm.isRef = true) :
  own_MF l "java/lang/String" "checkIndex" "(II)V" jdk_42_method_155_code 2 none ⟨1, 0, 0, 14⟩ #[(.int ix), (.int nx)] Z h0 (QrmSK Z  h0 n0) := by
 refine own_fst (plainFor_of_name own_pn4) (own_ef4 · ix nx) fun p e s m below meth c s₁ hy hml hZ hown hnm hrt hlk X0 e0 => ?_
 have N0 := Fr.nil n0
 refine own_il X0 hy d4_0 rfl ?_
 refine own_il X0 hy d4_1 rfl ?_
 refine own_gs X0 hy hZ hown (host := "") (Or.inl (own_w hw 31 rfl)) e0 S_fm d4_2 fun T1 X1 e1 => ?_
 refine own_csg X1 hy hZ hown (own_y1 hw) (rmPK hw ix nx Z0 hi0 hi1 rfm) e1 (S := []) rfl d4_5 own_pd1 hml fun v2 T2 L2 X2 hQ2 => ?_
 obtain ⟨rfl, N2q, e2⟩ := hQ2
 have N2 := Fr.app N0 N2q
 refine own_go (fun _ kz => XS.pop X2.here hy.1 rfl (hb hy.2 d4_8) rfl rfl kz) ?_
 refine own_go (A := T2.setTop (mkF m 9 #[.val (.int ix), .val (.int nx)] [])) (fun _ kz => kz) ?_
 exact own_rV X2 hy hrt hlk d4_9 e2 ⟨rfl, N2, rfl⟩
abbrev C23 : ByteArray := jdk_42_method_152_code
theorem d23_0 : decode C23 0 = .ok (.getstatic 38, 3) := by decide +kernel
theorem d23_3 : decode C23 3 = .ok (.ifCond .eq 10, 3) := by decide +kernel
theorem d23_6 : decode C23 6 = .ok (.aload_n 0, 1) := by decide +kernel
theorem d23_7 : decode C23 7 = .ok (.getfield 15, 3) := by decide +kernel
theorem d23_10 : decode C23 10 = .ok (.goto 4, 3) := by decide +kernel
theorem d23_14 : decode C23 14 = .ok (.ireturn, 1) := by decide +kernel
theorem own_pn23 : plainName "java/lang/String" = true := by first | (simp [plainName, overriddenIn]; done) | decide +kernel
theorem own_ef23 (m : MethodId) (x0 : Addr) : entryFrame m #[(.ref x0)] 1 = mkF m 0 #[.val (.ref x0)] [] := by first | (simp [entryFrame, mkF, argsToLocals, Value.category]; done) | rfl
def QrmCd (Z : State)  (h0 : Heap) (n0 : Nat) (v : Option Value) (h : Heap) (L : List Loc) : Prop := v = some (.int 0) ∧ Fr n0 L ∧ h = h0
theorem rmCd (hw : own_HW Z a0) (Z0 : n0 ≤ h0.size) (C1 : Fld Z h0 x1 "java/lang/String" "coder" "B" (.int 0)) (hcs : ¬ (cs = (0 : Int32))) (S_cs : Sta Z h0 "java/lang/String" "COMPACT_STRINGS" "Z" (.int cs)) :
  own_MF l "java/lang/String" "coder" "()B" jdk_42_method_152_code 1 (some .byte) ⟨0, 0, 0, 0⟩ #[(.ref x1)] Z h0 (QrmCd Z  h0 n0) := by
 refine own_fst (plainFor_of_name own_pn23) (own_ef23 · x1) fun p e s m below meth c s₁ hy hml hZ hown hnm hrt hlk X0 e0 => ?_
 have N0 := Fr.nil n0
 refine own_gs X0 hy hZ hown (host := "") (Or.inl (own_w hw 21 rfl)) e0 S_cs d23_0 fun T1 X1 e1 => ?_
 refine own_zn X1 hy d23_3 ((if0 _ _).trans (feq hcs).1) ?_
 refine own_al X1 hy d23_6 rfl rfl ?_
 refine own_gf X1 hy hZ hown (host := "") (Or.inl (own_w hw 22 rfl)) Via.refl e1 C1 d23_7 fun T2 X2 e2 => ?_
 refine own_gt X2 hy d23_10 14 ?_
 obtain ⟨fs, hrr, hrun, hended, hW, hsame⟩ := X2.leave (v := some (.int 0)) (fun h => by rw [hrt] at h; cases h)
 refine ⟨_, _, ?_, hrun, hended, _, _, rfl, ?_, ⟨_, rfl⟩, hW, hsame.mono (by decide) (by decide)⟩
 ·
  show Steps p.tables e below (T2.setTop (mkF m 14 #[.val (.ref x1)] [(.int 0)])) _
  exact retN X2 hy.1 (t := .byte) hrt (by simp) (hb hy.2 d23_14) hrr
 ·
  show QrmCd Z  h0 n0 _ T2.heap _
  rw [e2]
  exact ⟨rfl, N0, rfl⟩
abbrev C2 : ByteArray := jdk_42_method_154_code
theorem d2_0 : decode C2 0 = .ok (.getstatic 38, 3) := by decide +kernel
theorem d2_3 : decode C2 3 = .ok (.ifCond .eq 14, 3) := by decide +kernel
theorem d2_6 : decode C2 6 = .ok (.aload_n 0, 1) := by decide +kernel
theorem d2_7 : decode C2 7 = .ok (.getfield 15, 3) := by decide +kernel
theorem d2_10 : decode C2 10 = .ok (.ifCond .ne 7, 3) := by decide +kernel
theorem d2_13 : decode C2 13 = .ok (.iconst 1, 1) := by decide +kernel
theorem d2_14 : decode C2 14 = .ok (.goto 4, 3) := by decide +kernel
theorem d2_18 : decode C2 18 = .ok (.ireturn, 1) := by decide +kernel
theorem own_pn2 : plainName "java/lang/String" = true := by first | (simp [plainName, overriddenIn]; done) | decide +kernel
theorem own_ef2 (m : MethodId) (x0 : Addr) : entryFrame m #[(.ref x0)] 1 = mkF m 0 #[.val (.ref x0)] [] := by first | (simp [entryFrame, mkF, argsToLocals, Value.category]; done) | rfl
def QrmIL (Z : State)  (h0 : Heap) (n0 : Nat) (v : Option Value) (h : Heap) (L : List Loc) : Prop := v = some (.int 1) ∧ Fr n0 L ∧ h = h0
theorem rmIL (hw : own_HW Z a0) (Z0 : n0 ≤ h0.size) (C1 : Fld Z h0 x1 "java/lang/String" "coder" "B" (.int 0)) (hcs : ¬ (cs = (0 : Int32))) (S_cs : Sta Z h0 "java/lang/String" "COMPACT_STRINGS" "Z" (.int cs)) :
  own_MF l "java/lang/String" "isLatin1" "()Z" jdk_42_method_154_code 1 (some .boolean) ⟨0, 0, 0, 0⟩ #[(.ref x1)] Z h0 (QrmIL Z  h0 n0) := by
 refine own_fst (plainFor_of_name own_pn2) (own_ef2 · x1) fun p e s m below meth c s₁ hy hml hZ hown hnm hrt hlk X0 e0 => ?_
 have N0 := Fr.nil n0
 refine own_gs X0 hy hZ hown (host := "") (Or.inl (own_w hw 21 rfl)) e0 S_cs d2_0 fun T1 X1 e1 => ?_
 refine own_zn X1 hy d2_3 ((if0 _ _).trans (feq hcs).1) ?_
 refine own_al X1 hy d2_6 rfl rfl ?_
 refine own_gf X1 hy hZ hown (host := "") (Or.inl (own_w hw 22 rfl)) Via.refl e1 C1 d2_7 fun T2 X2 e2 => ?_
 refine own_zn X2 hy d2_10 ((if0 _ _).trans (teq (by decide : ((0 : Int32) = (0 : Int32)))).2) ?_
 refine own_ic X2 hy d2_13 ?_
 refine own_gt X2 hy d2_14 18 ?_
 exact own_rT X2 hy hrt hlk d2_18 e2 ⟨rfl, N0, rfl⟩
abbrev C3 : ByteArray := jdk_43_method_2_code
theorem d3_0 : decode C3 0 = .ok (.iload_n 1, 1) := by decide +kernel
theorem d3_1 : decode C3 1 = .ok (.aload_n 0, 1) := by decide +kernel
theorem d3_2 : decode C3 2 = .ok (.arraylength, 1) := by decide +kernel
theorem d3_3 : decode C3 3 = .ok (.invokestatic 9, 3) := by decide +kernel
theorem d3_6 : decode C3 6 = .ok (.aload_n 0, 1) := by decide +kernel
theorem d3_7 : decode C3 7 = .ok (.iload_n 1, 1) := by decide +kernel
theorem d3_8 : decode C3 8 = .ok (.baload, 1) := by decide +kernel
theorem d3_9 : decode C3 9 = .ok (.sipush 255, 3) := by decide +kernel
theorem d3_12 : decode C3 12 = .ok (.iand, 1) := by decide +kernel
theorem d3_13 : decode C3 13 = .ok (.i2c, 1) := by decide +kernel
theorem d3_14 : decode C3 14 = .ok (.ireturn, 1) := by decide +kernel
theorem own_pn3 : plainName "java/lang/StringLatin1" = true := by first | (simp [plainName, overriddenIn]; done) | decide +kernel
theorem own_ef3 (m : MethodId) (x0 : Addr) (x1 : Int32) : entryFrame m #[(.ref x0), (.int x1)] 2 = mkF m 0 #[.val (.ref x0), .val (.int x1)] [] := by first | (simp [entryFrame, mkF, argsToLocals, Value.category]; done) | rfl
def QrmLC (Z : State) (r : Int32) (h0 : Heap) (n0 : Nat) (v : Option Value) (h : Heap) (L : List Loc) : Prop := v = some (.int r) ∧ Fr n0 L ∧ h = h0
theorem rmLC (hw : own_HW Z a0) (jj y r : Int32) (Z0 : n0 ≤ h0.size) (K1 : Arv Z h0 t1 kb .byte nn vs (.int 0)) (hj0 : ¬ jj < (0 : Int32)) (hj1 : jj < nn) (hv : vs.getD jj.toNatClampNeg (.int 0) = .int y) (hr : nar .char ((y &&& (255 : Int32)).toUInt32.toUInt16.toUInt32.toInt32) = r) (S_fm : Sta Z h0 "jdk/internal/util/Preconditions" "SIOOBE_FORMATTER" "Ljava/util/function/BiFunction;" fm) (rfm : fm.isRef = true) :
  own_MF l "java/lang/StringLatin1" "charAt" "([BI)C" jdk_43_method_2_code 2 (some .char) ⟨2, 0, 0, 27⟩ #[(.ref t1), (.int jj)] Z h0 (QrmLC Z r h0 n0) := by
 refine own_fst (plainFor_of_name own_pn3) (own_ef3 · t1 jj) fun p e s m below meth c s₁ hy hml hZ hown hnm hrt hlk X0 e0 => ?_
 have N0 := Fr.nil n0
 refine own_il X0 hy d3_0 rfl ?_
 refine own_al X0 hy d3_1 rfl rfl ?_
 refine own_ln X0 hy hZ e0 K1 d3_2 ?_
 refine own_csg X0 hy hZ hown (own_y2 hw) (rmSK hw jj nn Z0 hj0 hj1 S_fm rfm) e0 (S := []) rfl d3_3 own_pd2 hml fun v2 T2 L2 X2 hQ2 => ?_
 obtain ⟨rfl, N2q, e2⟩ := hQ2
 have N2 := Fr.app N0 N2q
 refine own_al X2 hy d3_6 rfl rfl ?_
 refine own_il X2 hy d3_7 rfl ?_
 refine own_bb X2 hy hZ e2 K1 ⟨hj0, hj1⟩ (v := (.int y)) hv d3_8 ?_
 refine own_sp X2 hy d3_9 ?_
 refine own_an X2 hy d3_12 ?_
 refine own_cc X2 hy d3_13 ?_
 obtain ⟨fs, hrr, hrun, hended, hW, hsame⟩ := X2.leave (v := some (.int (nar .char ((y &&& (255 : Int32)).toUInt32.toUInt16.toUInt32.toInt32)))) (fun h => by rw [hrt] at h; cases h)
 refine ⟨_, _, ?_, hrun, hended, _, _, rfl, ?_, ⟨_, rfl⟩, hW, hsame.mono (by decide) (by decide)⟩
 ·
  show Steps p.tables e below (T2.setTop (mkF m 14 #[.val (.ref t1), .val (.int jj)] [(.int ((y &&& (255 : Int32)).toUInt32.toUInt16.toUInt32.toInt32))])) _
  exact retN X2 hy.1 (t := .char) hrt (by simp) (hb hy.2 d3_14) hrr
 ·
  show QrmLC Z r h0 n0 _ T2.heap _
  rw [e2]
  exact ⟨congrArg (fun z => some (Value.int z)) hr, N2, rfl⟩
abbrev C1 : ByteArray := jdk_42_method_56_code
theorem d1_0 : decode C1 0 = .ok (.aload_n 0, 1) := by decide +kernel
theorem d1_1 : decode C1 1 = .ok (.invokevirtual 492, 3) := by decide +kernel
theorem d1_4 : decode C1 4 = .ok (.ifCond .eq 12, 3) := by decide +kernel
theorem d1_7 : decode C1 7 = .ok (.aload_n 0, 1) := by decide +kernel
theorem d1_8 : decode C1 8 = .ok (.getfield 9, 3) := by decide +kernel
theorem d1_11 : decode C1 11 = .ok (.iload_n 1, 1) := by decide +kernel
theorem d1_12 : decode C1 12 = .ok (.invokestatic 495, 3) := by decide +kernel
theorem d1_15 : decode C1 15 = .ok (.ireturn, 1) := by decide +kernel
theorem own_pn1 : plainName "java/lang/String" = true := by first | (simp [plainName, overriddenIn]; done) | decide +kernel
theorem own_ef1 (m : MethodId) (x0 : Addr) (x1 : Int32) : entryFrame m #[(.ref x0), (.int x1)] 2 = mkF m 0 #[.val (.ref x0), .val (.int x1)] [] := by first | (simp [entryFrame, mkF, argsToLocals, Value.category]; done) | rfl
def QrmCA (Z : State) (r : Int32) (h0 : Heap) (n0 : Nat) (v : Option Value) (h : Heap) (L : List Loc) : Prop := v = some (.int r) ∧ Fr n0 L ∧ h = h0
theorem rmCA (hw : own_HW Z a0) (jj y r : Int32) (Z0 : n0 ≤ h0.size) (E1 : Exa Z h0 x1 "java/lang/String") (V1 : Fld Z h0 x1 "java/lang/String" "value" "[B" (.ref t1)) (C1 : Fld Z h0 x1 "java/lang/String" "coder" "B" (.int 0)) (K1 : Arv Z h0 t1 kb .byte nn vs (.int 0)) (hj0 : ¬ jj < (0 : Int32)) (hj1 : jj < nn) (hv : vs.getD jj.toNatClampNeg (.int 0) = .int y) (hr : nar .char ((y &&& (255 : Int32)).toUInt32.toUInt16.toUInt32.toInt32) = r) (hr2 : nar .char r = r) (hcs : ¬ (cs = (0 : Int32))) (S_cs : Sta Z h0 "java/lang/String" "COMPACT_STRINGS" "Z" (.int cs)) (S_fm : Sta Z h0 "jdk/internal/util/Preconditions" "SIOOBE_FORMATTER" "Ljava/util/function/BiFunction;" fm) (rfm : fm.isRef = true) :
  own_MF l "java/lang/String" "charAt" "(I)C" jdk_42_method_56_code 2 (some .char) ⟨3, 0, 0, 40⟩ #[(.ref x1), (.int jj)] Z h0 (QrmCA Z r h0 n0) := by
 refine own_fst (plainFor_of_name own_pn1) (own_ef1 · x1 jj) fun p e s m below meth c s₁ hy hml hZ hown hnm hrt hlk X0 e0 => ?_
 have N0 := Fr.nil n0
 refine own_al X0 hy d1_0 rfl rfl ?_
 refine own_cv X0 hy hZ hown (own_y3 hw) (rmIL hw Z0 C1 hcs S_cs) e0 E1 d1_1 own_pd3 hml fun v1 T1 L1 X1 hQ1 => ?_
 obtain ⟨rfl, N1q, e1⟩ := hQ1
 have N1 := Fr.app N0 N1q
 refine own_zn X1 hy d1_4 ((if0 _ _).trans (feq (by decide : ¬ ((1 : Int32) = (0 : Int32)))).1) ?_
 refine own_al X1 hy d1_7 rfl rfl ?_
 refine own_gf X1 hy hZ hown (host := "") (Or.inl (own_w hw 23 rfl)) Via.refl e1 V1 d1_8 fun T2 X2 e2 => ?_
 refine own_il X2 hy d1_11 rfl ?_
 refine own_csg X2 hy hZ hown (own_y4 hw) (rmLC hw jj y r Z0 K1 hj0 hj1 hv hr S_fm rfm) e2 (S := []) rfl d1_12 own_pd4 hml fun v3 T3 L3 X3 hQ3 => ?_
 obtain ⟨rfl, N3q, e3⟩ := hQ3
 have N3 := Fr.app N1 N3q
 obtain ⟨fs, hrr, hrun, hended, hW, hsame⟩ := X3.leave (v := some (.int (nar .char r))) (fun h => by rw [hrt] at h; cases h)
 refine ⟨_, _, ?_, hrun, hended, _, _, rfl, ?_, ⟨_, rfl⟩, hW, hsame.mono (by decide) (by decide)⟩
 ·
  show Steps p.tables e below (T3.setTop (mkF m 15 #[.val (.ref x1), .val (.int jj)] [(.int r)])) _
  exact retN X3 hy.1 (t := .char) hrt (by simp) (hb hy.2 d1_15) hrr
 ·
  show QrmCA Z r h0 n0 _ T3.heap _
  rw [e3]
  exact ⟨congrArg (fun z => some (Value.int z)) hr2, N3, rfl⟩
abbrev C22 : ByteArray := jdk_42_method_54_code
theorem d22_0 : decode C22 0 = .ok (.aload_n 0, 1) := by decide +kernel
theorem d22_1 : decode C22 1 = .ok (.getfield 9, 3) := by decide +kernel
theorem d22_4 : decode C22 4 = .ok (.arraylength, 1) := by decide +kernel
theorem d22_5 : decode C22 5 = .ok (.aload_n 0, 1) := by decide +kernel
theorem d22_6 : decode C22 6 = .ok (.invokevirtual 335, 3) := by decide +kernel
theorem d22_9 : decode C22 9 = .ok (.ishr, 1) := by decide +kernel
theorem d22_10 : decode C22 10 = .ok (.ireturn, 1) := by decide +kernel
theorem own_pn22 : plainName "java/lang/String" = true := by first | (simp [plainName, overriddenIn]; done) | decide +kernel
theorem own_ef22 (m : MethodId) (x0 : Addr) : entryFrame m #[(.ref x0)] 1 = mkF m 0 #[.val (.ref x0)] [] := by first | (simp [entryFrame, mkF, argsToLocals, Value.category]; done) | rfl
def QrmLn_4 (Z : State)  (h0 : Heap) (n0 : Nat) (v : Option Value) (h : Heap) (L : List Loc) : Prop := v = some (.int 4) ∧ Fr n0 L ∧ h = h0
theorem rmLn_4 (hw : own_HW Z a0) (Z0 : n0 ≤ h0.size) (E1 : Exa Z h0 x1 "java/lang/String") (V1 : Fld Z h0 x1 "java/lang/String" "value" "[B" (.ref t1)) (C1 : Fld Z h0 x1 "java/lang/String" "coder" "B" (.int 0)) (K1 : Arv Z h0 t1 kb .byte (4 : Int32) vs (.int 0)) (hcs : ¬ (cs = (0 : Int32))) (S_cs : Sta Z h0 "java/lang/String" "COMPACT_STRINGS" "Z" (.int cs)) :
  own_MF l "java/lang/String" "length" "()I" jdk_42_method_54_code 1 (some .int) ⟨1, 0, 0, 13⟩ #[(.ref x1)] Z h0 (QrmLn_4 Z  h0 n0) := by
 refine own_fst (plainFor_of_name own_pn22) (own_ef22 · x1) fun p e s m below meth c s₁ hy hml hZ hown hnm hrt hlk X0 e0 => ?_
 have N0 := Fr.nil n0
 refine own_al X0 hy d22_0 rfl rfl ?_
 refine own_gf X0 hy hZ hown (host := "") (Or.inl (own_w hw 23 rfl)) Via.refl e0 V1 d22_1 fun T1 X1 e1 => ?_
 refine own_ln X1 hy hZ e1 K1 d22_4 ?_
 refine own_al X1 hy d22_5 rfl rfl ?_
 refine own_cv X1 hy hZ hown (own_y5 hw) (rmCd hw Z0 C1 hcs S_cs) e1 E1 d22_6 own_pd5 hml fun v3 T3 L3 X3 hQ3 => ?_
 obtain ⟨rfl, N3q, e3⟩ := hQ3
 have N3 := Fr.app N0 N3q
 refine own_go (fun _ kz => XS.ishr X3.here hy.1 rfl (hb hy.2 d22_9) rfl kz) ?_
 refine own_go (A := T3.setTop (mkF m 10 #[.val (.ref x1)] [(.int 4)])) (fun _ kz => kz) ?_
 exact own_rI X3 hy hrt hlk d22_10 e3 ⟨rfl, N3, rfl⟩
def QrmLn_5 (Z : State)  (h0 : Heap) (n0 : Nat) (v : Option Value) (h : Heap) (L : List Loc) : Prop := v = some (.int 5) ∧ Fr n0 L ∧ h = h0
theorem rmLn_5 (hw : own_HW Z a0) (Z0 : n0 ≤ h0.size) (E1 : Exa Z h0 x1 "java/lang/String") (V1 : Fld Z h0 x1 "java/lang/String" "value" "[B" (.ref t1)) (C1 : Fld Z h0 x1 "java/lang/String" "coder" "B" (.int 0)) (K1 : Arv Z h0 t1 kb .byte (5 : Int32) vs (.int 0)) (hcs : ¬ (cs = (0 : Int32))) (S_cs : Sta Z h0 "java/lang/String" "COMPACT_STRINGS" "Z" (.int cs)) :
  own_MF l "java/lang/String" "length" "()I" jdk_42_method_54_code 1 (some .int) ⟨1, 0, 0, 13⟩ #[(.ref x1)] Z h0 (QrmLn_5 Z  h0 n0) := by
 refine own_fst (plainFor_of_name own_pn22) (own_ef22 · x1) fun p e s m below meth c s₁ hy hml hZ hown hnm hrt hlk X0 e0 => ?_
 have N0 := Fr.nil n0
 refine own_al X0 hy d22_0 rfl rfl ?_
 refine own_gf X0 hy hZ hown (host := "") (Or.inl (own_w hw 23 rfl)) Via.refl e0 V1 d22_1 fun T1 X1 e1 => ?_
 refine own_ln X1 hy hZ e1 K1 d22_4 ?_
 refine own_al X1 hy d22_5 rfl rfl ?_
 refine own_cv X1 hy hZ hown (own_y5 hw) (rmCd hw Z0 C1 hcs S_cs) e1 E1 d22_6 own_pd5 hml fun v3 T3 L3 X3 hQ3 => ?_
 obtain ⟨rfl, N3q, e3⟩ := hQ3
 have N3 := Fr.app N0 N3q
 refine own_go (fun _ kz => XS.ishr X3.here hy.1 rfl (hb hy.2 d22_9) rfl kz) ?_
 refine own_go (A := T3.setTop (mkF m 10 #[.val (.ref x1)] [(.int 5)])) (fun _ kz => kz) ?_
 exact own_rI X3 hy hrt hlk d22_10 e3 ⟨rfl, N3, rfl⟩
def QrmLn_8 (Z : State)  (h0 : Heap) (n0 : Nat) (v : Option Value) (h : Heap) (L : List Loc) : Prop := v = some (.int 8) ∧ Fr n0 L ∧ h = h0
theorem rmLn_8 (hw : own_HW Z a0) (Z0 : n0 ≤ h0.size) (E1 : Exa Z h0 x1 "java/lang/String") (V1 : Fld Z h0 x1 "java/lang/String" "value" "[B" (.ref t1)) (C1 : Fld Z h0 x1 "java/lang/String" "coder" "B" (.int 0)) (K1 : Arv Z h0 t1 kb .byte (8 : Int32) vs (.int 0)) (hcs : ¬ (cs = (0 : Int32))) (S_cs : Sta Z h0 "java/lang/String" "COMPACT_STRINGS" "Z" (.int cs)) :
  own_MF l "java/lang/String" "length" "()I" jdk_42_method_54_code 1 (some .int) ⟨1, 0, 0, 13⟩ #[(.ref x1)] Z h0 (QrmLn_8 Z  h0 n0) := by
 refine own_fst (plainFor_of_name own_pn22) (own_ef22 · x1) fun p e s m below meth c s₁ hy hml hZ hown hnm hrt hlk X0 e0 => ?_
 have N0 := Fr.nil n0
 refine own_al X0 hy d22_0 rfl rfl ?_
 refine own_gf X0 hy hZ hown (host := "") (Or.inl (own_w hw 23 rfl)) Via.refl e0 V1 d22_1 fun T1 X1 e1 => ?_
 refine own_ln X1 hy hZ e1 K1 d22_4 ?_
 refine own_al X1 hy d22_5 rfl rfl ?_
 refine own_cv X1 hy hZ hown (own_y5 hw) (rmCd hw Z0 C1 hcs S_cs) e1 E1 d22_6 own_pd5 hml fun v3 T3 L3 X3 hQ3 => ?_
 obtain ⟨rfl, N3q, e3⟩ := hQ3
 have N3 := Fr.app N0 N3q
 refine own_go (fun _ kz => XS.ishr X3.here hy.1 rfl (hb hy.2 d22_9) rfl kz) ?_
 refine own_go (A := T3.setTop (mkF m 10 #[.val (.ref x1)] [(.int 8)])) (fun _ kz => kz) ?_
 exact own_rI X3 hy hrt hlk d22_10 e3 ⟨rfl, N3, rfl⟩
abbrev C27 : ByteArray := jdk_43_method_23_code
theorem d27_0 : decode C27 0 = .ok (.iload_n 1, 1) := by decide +kernel
theorem d27_1 : decode C27 1 = .ok (.i2b, 1) := by decide +kernel
theorem d27_2 : decode C27 2 = .ok (.istore 4, 2) := by decide +kernel
theorem d27_4 : decode C27 4 = .ok (.iload_n 2, 1) := by decide +kernel
theorem d27_5 : decode C27 5 = .ok (.istore 5, 2) := by decide +kernel
theorem d27_7 : decode C27 7 = .ok (.iload 5, 2) := by decide +kernel
theorem d27_9 : decode C27 9 = .ok (.iload_n 3, 1) := by decide +kernel
theorem d27_10 : decode C27 10 = .ok (.if_icmp .ge 21, 3) := by decide +kernel
theorem d27_13 : decode C27 13 = .ok (.aload_n 0, 1) := by decide +kernel
theorem d27_14 : decode C27 14 = .ok (.iload 5, 2) := by decide +kernel
theorem d27_16 : decode C27 16 = .ok (.baload, 1) := by decide +kernel
theorem d27_17 : decode C27 17 = .ok (.iload 4, 2) := by decide +kernel
theorem d27_19 : decode C27 19 = .ok (.if_icmp .ne 6, 3) := by decide +kernel
theorem d27_22 : decode C27 22 = .ok (.iload 5, 2) := by decide +kernel
theorem d27_24 : decode C27 24 = .ok (.ireturn, 1) := by decide +kernel
theorem d27_25 : decode C27 25 = .ok (.iinc 5 1, 3) := by decide +kernel
theorem d27_28 : decode C27 28 = .ok (.goto (-21), 3) := by decide +kernel
theorem own_pn27 : plainName "java/lang/StringLatin1" = true := by first | (simp [plainName, overriddenIn]; done) | decide +kernel
theorem own_ef27 (m : MethodId) (x0 : Addr) (x1 : Int32) (x2 : Int32) (x3 : Int32) : entryFrame m #[(.ref x0), (.int x1), (.int x2), (.int x3)] 6 = mkF m 0 #[.val (.ref x0), .val (.int x1), .val (.int x2), .val (.int x3), .unset, .unset] [] := by first | (simp [entryFrame, mkF, argsToLocals, Value.category]; done) | rfl
def QrmOCY (Z : State)  (h0 : Heap) (n0 : Nat) (v : Option Value) (h : Heap) (L : List Loc) : Prop := ∃ r : Int32, v = some (.int r) ∧ ¬ r < (0 : Int32) ∧ Fr n0 L ∧ h = h0
theorem rmOCY (hw : own_HW Z a0) (qc : Int32) (Z0 : n0 ≤ h0.size) (K1 : Arv Z h0 t1 kb .byte (8 : Int32) [(.int 34), (.int 92), (.int 47), (.int 98), (.int 102), (.int 110), (.int 114), (.int 116)] (.int 0)) (hyy : (qc.toInt8.toInt32) = (34 : Int32) ∨ (qc.toInt8.toInt32) = (92 : Int32) ∨ (qc.toInt8.toInt32) = (47 : Int32) ∨ (qc.toInt8.toInt32) = (98 : Int32) ∨ (qc.toInt8.toInt32) = (102 : Int32) ∨ (qc.toInt8.toInt32) = (110 : Int32) ∨ (qc.toInt8.toInt32) = (114 : Int32) ∨ (qc.toInt8.toInt32) = (116 : Int32)) :
  own_MF l "java/lang/StringLatin1" "indexOfChar" "([BIII)I" jdk_43_method_23_code 6 (some .int) ⟨0, 0, 0, 0⟩ #[(.ref t1), (.int qc), (.int 0), (.int 8)] Z h0 (QrmOCY Z  h0 n0) := by
 refine own_fst (plainFor_of_name own_pn27) (own_ef27 · t1 qc (0 : Int32) (8 : Int32)) fun p e s m below meth c s₁ hy hml hZ hown hnm hrt hlk X0 e0 => ?_
 have N0 := Fr.nil n0
 refine own_il X0 hy d27_0 rfl ?_
 refine own_go (fun _ kz => XS.i2b X0.here hy.1 rfl (hb hy.2 d27_1) rfl kz) ?_
 refine own_go (A := s₁.setTop (mkF m 2 #[.val (.ref t1), .val (.int qc), .val (.int 0), .val (.int 8), .unset, .unset] [(.int (qc.toInt8.toInt32))])) (fun _ kz => kz) ?_
 refine own_it X0 hy d27_2 (l' := #[.val (.ref t1), .val (.int qc), .val (.int 0), .val (.int 8), .val (.int (qc.toInt8.toInt32)), .unset]) rfl ?_
 refine own_il X0 hy d27_4 rfl ?_
 refine own_it X0 hy d27_5 (l' := #[.val (.ref t1), .val (.int qc), .val (.int 0), .val (.int 8), .val (.int (qc.toInt8.toInt32)), .val (.int 0)]) rfl ?_
 refine own_iw X0 hy d27_7 rfl ?_
 refine own_il X0 hy d27_9 rfl ?_
 refine own_cn X0 hy d27_10 (tlt (by decide : ((0 : Int32) < (8 : Int32)))).2.1 ?_
 refine own_al X0 hy d27_13 rfl rfl ?_
 refine own_iw X0 hy d27_14 rfl ?_
 refine own_bb X0 hy hZ e0 K1 ⟨by decide, by decide⟩ (v := (.int 34)) rfl d27_16 ?_
 refine own_iw X0 hy d27_17 rfl ?_
 by_cases hs2 : (34 : Int32) = (qc.toInt8.toInt32)
 ·
  refine own_cn X0 hy d27_19 (teq hs2).2 ?_
  refine own_iw X0 hy d27_22 rfl ?_
  exact own_rI X0 hy hrt hlk d27_24 e0 ⟨_, rfl, by decide, N0, rfl⟩
 ·
  refine own_cy X0 hy d27_19 25 (feq hs2).2 ?_
  refine own_ii X0 hy d27_25 rfl (l' := #[.val (.ref t1), .val (.int qc), .val (.int 0), .val (.int 8), .val (.int (qc.toInt8.toInt32)), .val (.int 1)]) rfl ?_
  refine own_gt X0 hy d27_28 7 ?_
  refine own_iw X0 hy d27_7 rfl ?_
  refine own_il X0 hy d27_9 rfl ?_
  refine own_cn X0 hy d27_10 (tlt (by decide : ((1 : Int32) < (8 : Int32)))).2.1 ?_
  refine own_al X0 hy d27_13 rfl rfl ?_
  refine own_iw X0 hy d27_14 rfl ?_
  refine own_bb X0 hy hZ e0 K1 ⟨by decide, by decide⟩ (v := (.int 92)) rfl d27_16 ?_
  refine own_iw X0 hy d27_17 rfl ?_
  by_cases hs4 : (92 : Int32) = (qc.toInt8.toInt32)
  ·
   refine own_cn X0 hy d27_19 (teq hs4).2 ?_
   refine own_iw X0 hy d27_22 rfl ?_
   exact own_rI X0 hy hrt hlk d27_24 e0 ⟨_, rfl, by decide, N0, rfl⟩
  ·
   refine own_cy X0 hy d27_19 25 (feq hs4).2 ?_
   refine own_ii X0 hy d27_25 rfl (l' := #[.val (.ref t1), .val (.int qc), .val (.int 0), .val (.int 8), .val (.int (qc.toInt8.toInt32)), .val (.int 2)]) rfl ?_
   refine own_gt X0 hy d27_28 7 ?_
   refine own_iw X0 hy d27_7 rfl ?_
   refine own_il X0 hy d27_9 rfl ?_
   refine own_cn X0 hy d27_10 (tlt (by decide : ((2 : Int32) < (8 : Int32)))).2.1 ?_
   refine own_al X0 hy d27_13 rfl rfl ?_
   refine own_iw X0 hy d27_14 rfl ?_
   refine own_bb X0 hy hZ e0 K1 ⟨by decide, by decide⟩ (v := (.int 47)) rfl d27_16 ?_
   refine own_iw X0 hy d27_17 rfl ?_
   by_cases hs6 : (47 : Int32) = (qc.toInt8.toInt32)
   ·
    refine own_cn X0 hy d27_19 (teq hs6).2 ?_
    refine own_iw X0 hy d27_22 rfl ?_
    exact own_rI X0 hy hrt hlk d27_24 e0 ⟨_, rfl, by decide, N0, rfl⟩
   ·
    refine own_cy X0 hy d27_19 25 (feq hs6).2 ?_
    refine own_ii X0 hy d27_25 rfl (l' := #[.val (.ref t1), .val (.int qc), .val (.int 0), .val (.int 8), .val (.int (qc.toInt8.toInt32)), .val (.int 3)]) rfl ?_
    refine own_gt X0 hy d27_28 7 ?_
    refine own_iw X0 hy d27_7 rfl ?_
    refine own_il X0 hy d27_9 rfl ?_
    refine own_cn X0 hy d27_10 (tlt (by decide : ((3 : Int32) < (8 : Int32)))).2.1 ?_
    refine own_al X0 hy d27_13 rfl rfl ?_
    refine own_iw X0 hy d27_14 rfl ?_
    refine own_bb X0 hy hZ e0 K1 ⟨by decide, by decide⟩ (v := (.int 98)) rfl d27_16 ?_
    refine own_iw X0 hy d27_17 rfl ?_
    by_cases hs8 : (98 : Int32) = (qc.toInt8.toInt32)
    ·
     refine own_cn X0 hy d27_19 (teq hs8).2 ?_
     refine own_iw X0 hy d27_22 rfl ?_
     exact own_rI X0 hy hrt hlk d27_24 e0 ⟨_, rfl, by decide, N0, rfl⟩
    ·
     refine own_cy X0 hy d27_19 25 (feq hs8).2 ?_
     refine own_ii X0 hy d27_25 rfl (l' := #[.val (.ref t1), .val (.int qc), .val (.int 0), .val (.int 8), .val (.int (qc.toInt8.toInt32)), .val (.int 4)]) rfl ?_
     refine own_gt X0 hy d27_28 7 ?_
     refine own_iw X0 hy d27_7 rfl ?_
     refine own_il X0 hy d27_9 rfl ?_
     refine own_cn X0 hy d27_10 (tlt (by decide : ((4 : Int32) < (8 : Int32)))).2.1 ?_
     refine own_al X0 hy d27_13 rfl rfl ?_
     refine own_iw X0 hy d27_14 rfl ?_
     refine own_bb X0 hy hZ e0 K1 ⟨by decide, by decide⟩ (v := (.int 102)) rfl d27_16 ?_
     refine own_iw X0 hy d27_17 rfl ?_
     by_cases hs10 : (102 : Int32) = (qc.toInt8.toInt32)
     ·
      refine own_cn X0 hy d27_19 (teq hs10).2 ?_
      refine own_iw X0 hy d27_22 rfl ?_
      exact own_rI X0 hy hrt hlk d27_24 e0 ⟨_, rfl, by decide, N0, rfl⟩
     ·
      refine own_cy X0 hy d27_19 25 (feq hs10).2 ?_
      refine own_ii X0 hy d27_25 rfl (l' := #[.val (.ref t1), .val (.int qc), .val (.int 0), .val (.int 8), .val (.int (qc.toInt8.toInt32)), .val (.int 5)]) rfl ?_
      refine own_gt X0 hy d27_28 7 ?_
      refine own_iw X0 hy d27_7 rfl ?_
      refine own_il X0 hy d27_9 rfl ?_
      refine own_cn X0 hy d27_10 (tlt (by decide : ((5 : Int32) < (8 : Int32)))).2.1 ?_
      refine own_al X0 hy d27_13 rfl rfl ?_
      refine own_iw X0 hy d27_14 rfl ?_
      refine own_bb X0 hy hZ e0 K1 ⟨by decide, by decide⟩ (v := (.int 110)) rfl d27_16 ?_
      refine own_iw X0 hy d27_17 rfl ?_
      by_cases hs12 : (110 : Int32) = (qc.toInt8.toInt32)
      ·
       refine own_cn X0 hy d27_19 (teq hs12).2 ?_
       refine own_iw X0 hy d27_22 rfl ?_
       exact own_rI X0 hy hrt hlk d27_24 e0 ⟨_, rfl, by decide, N0, rfl⟩
      ·
       refine own_cy X0 hy d27_19 25 (feq hs12).2 ?_
       refine own_ii X0 hy d27_25 rfl (l' := #[.val (.ref t1), .val (.int qc), .val (.int 0), .val (.int 8), .val (.int (qc.toInt8.toInt32)), .val (.int 6)]) rfl ?_
       refine own_gt X0 hy d27_28 7 ?_
       refine own_iw X0 hy d27_7 rfl ?_
       refine own_il X0 hy d27_9 rfl ?_
       refine own_cn X0 hy d27_10 (tlt (by decide : ((6 : Int32) < (8 : Int32)))).2.1 ?_
       refine own_al X0 hy d27_13 rfl rfl ?_
       refine own_iw X0 hy d27_14 rfl ?_
       refine own_bb X0 hy hZ e0 K1 ⟨by decide, by decide⟩ (v := (.int 114)) rfl d27_16 ?_
       refine own_iw X0 hy d27_17 rfl ?_
       by_cases hs14 : (114 : Int32) = (qc.toInt8.toInt32)
       ·
        refine own_cn X0 hy d27_19 (teq hs14).2 ?_
        refine own_iw X0 hy d27_22 rfl ?_
        exact own_rI X0 hy hrt hlk d27_24 e0 ⟨_, rfl, by decide, N0, rfl⟩
       ·
        refine own_cy X0 hy d27_19 25 (feq hs14).2 ?_
        refine own_ii X0 hy d27_25 rfl (l' := #[.val (.ref t1), .val (.int qc), .val (.int 0), .val (.int 8), .val (.int (qc.toInt8.toInt32)), .val (.int 7)]) rfl ?_
        refine own_gt X0 hy d27_28 7 ?_
        refine own_iw X0 hy d27_7 rfl ?_
        refine own_il X0 hy d27_9 rfl ?_
        refine own_cn X0 hy d27_10 (tlt (by decide : ((7 : Int32) < (8 : Int32)))).2.1 ?_
        refine own_al X0 hy d27_13 rfl rfl ?_
        refine own_iw X0 hy d27_14 rfl ?_
        refine own_bb X0 hy hZ e0 K1 ⟨by decide, by decide⟩ (v := (.int 116)) rfl d27_16 ?_
        refine own_iw X0 hy d27_17 rfl ?_
        refine own_cn X0 hy d27_19 (teq (own_last8 hyy hs2 hs4 hs6 hs8 hs10 hs12 hs14)).2 ?_
        refine own_iw X0 hy d27_22 rfl ?_
        exact own_rI X0 hy hrt hlk d27_24 e0 ⟨_, rfl, by decide, N0, rfl⟩
abbrev C24 : ByteArray := jdk_43_method_22_code
theorem d24_0 : decode C24 0 = .ok (.iload_n 1, 1) := by decide +kernel
theorem d24_1 : decode C24 1 = .ok (.invokestatic 88, 3) := by decide +kernel
theorem d24_4 : decode C24 4 = .ok (.ifCond .ne 5, 3) := by decide +kernel
theorem d24_9 : decode C24 9 = .ok (.iload_n 2, 1) := by decide +kernel
theorem d24_10 : decode C24 10 = .ok (.iconst 0, 1) := by decide +kernel
theorem d24_11 : decode C24 11 = .ok (.invokestatic 92, 3) := by decide +kernel
theorem d24_14 : decode C24 14 = .ok (.istore_n 2, 1) := by decide +kernel
theorem d24_15 : decode C24 15 = .ok (.iload_n 3, 1) := by decide +kernel
theorem d24_16 : decode C24 16 = .ok (.aload_n 0, 1) := by decide +kernel
theorem d24_17 : decode C24 17 = .ok (.arraylength, 1) := by decide +kernel
theorem d24_18 : decode C24 18 = .ok (.invokestatic 38, 3) := by decide +kernel
theorem d24_21 : decode C24 21 = .ok (.istore_n 3, 1) := by decide +kernel
theorem d24_22 : decode C24 22 = .ok (.iload_n 2, 1) := by decide +kernel
theorem d24_23 : decode C24 23 = .ok (.iload_n 3, 1) := by decide +kernel
theorem d24_24 : decode C24 24 = .ok (.if_icmp .lt 5, 3) := by decide +kernel
theorem d24_29 : decode C24 29 = .ok (.aload_n 0, 1) := by decide +kernel
theorem d24_30 : decode C24 30 = .ok (.iload_n 1, 1) := by decide +kernel
theorem d24_31 : decode C24 31 = .ok (.iload_n 2, 1) := by decide +kernel
theorem d24_32 : decode C24 32 = .ok (.iload_n 3, 1) := by decide +kernel
theorem d24_33 : decode C24 33 = .ok (.invokestatic 95, 3) := by decide +kernel
theorem d24_36 : decode C24 36 = .ok (.ireturn, 1) := by decide +kernel
theorem own_pn24 : plainName "java/lang/StringLatin1" = true := by first | (simp [plainName, overriddenIn]; done) | decide +kernel
theorem own_ef24 (m : MethodId) (x0 : Addr) (x1 : Int32) (x2 : Int32) (x3 : Int32) : entryFrame m #[(.ref x0), (.int x1), (.int x2), (.int x3)] 4 = mkF m 0 #[.val (.ref x0), .val (.int x1), .val (.int x2), .val (.int x3)] [] := by first | (simp [entryFrame, mkF, argsToLocals, Value.category]; done) | rfl
def QrmLIY (Z : State)  (h0 : Heap) (n0 : Nat) (v : Option Value) (h : Heap) (L : List Loc) : Prop := ∃ r : Int32, v = some (.int r) ∧ ¬ r < (0 : Int32) ∧ Fr n0 L ∧ h = h0
theorem rmLIY (hw : own_HW Z a0) (qc : Int32) (Z0 : n0 ≤ h0.size) (K1 : Arv Z h0 t1 kb .byte (8 : Int32) [(.int 34), (.int 92), (.int 47), (.int 98), (.int 102), (.int 110), (.int 114), (.int 116)] (.int 0)) (hc0 : ¬ qc < (0 : Int32)) (hc1 : ¬ (255 : Int32) < qc) (hyy : (qc.toInt8.toInt32) = (34 : Int32) ∨ (qc.toInt8.toInt32) = (92 : Int32) ∨ (qc.toInt8.toInt32) = (47 : Int32) ∨ (qc.toInt8.toInt32) = (98 : Int32) ∨ (qc.toInt8.toInt32) = (102 : Int32) ∨ (qc.toInt8.toInt32) = (110 : Int32) ∨ (qc.toInt8.toInt32) = (114 : Int32) ∨ (qc.toInt8.toInt32) = (116 : Int32)) :
  own_MF l "java/lang/StringLatin1" "indexOf" "([BIII)I" jdk_43_method_22_code 4 (some .int) ⟨1, 0, 0, 17⟩ #[(.ref t1), (.int qc), (.int 0), (.int 8)] Z h0 (QrmLIY Z  h0 n0) := by
 refine own_fst (plainFor_of_name own_pn24) (own_ef24 · t1 qc (0 : Int32) (8 : Int32)) fun p e s m below meth c s₁ hy hml hZ hown hnm hrt hlk X0 e0 => ?_
 have N0 := Fr.nil n0
 refine own_il X0 hy d24_0 rfl ?_
 refine own_cs X0 hy hZ hown (own_y6 hw) (rmCE hw qc Z0 hc0 hc1) e0 d24_1 own_pd6 hml fun v1 T1 L1 X1 hQ1 => ?_
 obtain ⟨rfl, N1q, e1⟩ := hQ1
 have N1 := Fr.app N0 N1q
 refine own_zy X1 hy d24_4 9 ((if0 _ _).trans (feq (by decide : ¬ ((1 : Int32) = (0 : Int32)))).2) ?_
 refine own_il X1 hy d24_9 rfl ?_
 refine own_ic X1 hy d24_10 ?_
 refine own_csg X1 hy hZ hown (own_y7 hw) (rmMax hw (0 : Int32) (0 : Int32) Z0) e1 (S := []) rfl d24_11 own_pd7 hml fun v2 T2 L2 X2 hQ2 => ?_
 obtain ⟨rfl, N2q, e2⟩ := hQ2
 have N2 := Fr.app N1 N2q
 refine own_is X2 hy d24_14 (l' := #[.val (.ref t1), .val (.int qc), .val (.int 0), .val (.int 8)]) rfl ?_
 refine own_il X2 hy d24_15 rfl ?_
 refine own_al X2 hy d24_16 rfl rfl ?_
 refine own_ln X2 hy hZ e2 K1 d24_17 ?_
 refine own_csg X2 hy hZ hown (own_y8 hw) (rmMin hw (8 : Int32) (8 : Int32) Z0) e2 (S := []) rfl d24_18 own_pd7 hml fun v4 T4 L4 X4 hQ4 => ?_
 obtain ⟨rfl, N4q, e4⟩ := hQ4
 have N4 := Fr.app N2 N4q
 clear N1 N1q X1 e1 N2 N2q X2 e2 N4q
 refine own_is X4 hy d24_21 (l' := #[.val (.ref t1), .val (.int qc), .val (.int 0), .val (.int 8)]) rfl ?_
 refine own_il X4 hy d24_22 rfl ?_
 refine own_il X4 hy d24_23 rfl ?_
 refine own_cy X4 hy d24_24 29 (tlt (by decide : ((0 : Int32) < (8 : Int32)))).1 ?_
 refine own_al X4 hy d24_29 rfl rfl ?_
 refine own_il X4 hy d24_30 rfl ?_
 refine own_il X4 hy d24_31 rfl ?_
 refine own_il X4 hy d24_32 rfl ?_
 refine own_csg X4 hy hZ hown (own_y9 hw) (rmOCY hw qc Z0 K1 hyy) e4 (S := []) rfl d24_33 own_pd8 hml fun v5 T5 L5 X5 hQ5 => ?_
 obtain ⟨r5, rfl, hr5, N5q, e5⟩ := hQ5
 have N5 := Fr.app N4 N5q
 exact own_rI X5 hy hrt hlk d24_36 e5 ⟨_, rfl, hr5, N5, rfl⟩
abbrev C21 : ByteArray := jdk_42_method_80_code
theorem d21_0 : decode C21 0 = .ok (.aload_n 0, 1) := by decide +kernel
theorem d21_1 : decode C21 1 = .ok (.invokevirtual 492, 3) := by decide +kernel
theorem d21_4 : decode C21 4 = .ok (.ifCond .eq 19, 3) := by decide +kernel
theorem d21_7 : decode C21 7 = .ok (.aload_n 0, 1) := by decide +kernel
theorem d21_8 : decode C21 8 = .ok (.getfield 9, 3) := by decide +kernel
theorem d21_11 : decode C21 11 = .ok (.iload_n 1, 1) := by decide +kernel
theorem d21_12 : decode C21 12 = .ok (.iload_n 2, 1) := by decide +kernel
theorem d21_13 : decode C21 13 = .ok (.aload_n 0, 1) := by decide +kernel
theorem d21_14 : decode C21 14 = .ok (.invokevirtual 505, 3) := by decide +kernel
theorem d21_17 : decode C21 17 = .ok (.invokestatic 637, 3) := by decide +kernel
theorem d21_20 : decode C21 20 = .ok (.goto 16, 3) := by decide +kernel
theorem d21_36 : decode C21 36 = .ok (.ireturn, 1) := by decide +kernel
theorem own_pn21 : plainName "java/lang/String" = true := by first | (simp [plainName, overriddenIn]; done) | decide +kernel
theorem own_ef21 (m : MethodId) (x0 : Addr) (x1 : Int32) (x2 : Int32) : entryFrame m #[(.ref x0), (.int x1), (.int x2)] 3 = mkF m 0 #[.val (.ref x0), .val (.int x1), .val (.int x2)] [] := by first | (simp [entryFrame, mkF, argsToLocals, Value.category]; done) | rfl
def QrmI2Y (Z : State)  (h0 : Heap) (n0 : Nat) (v : Option Value) (h : Heap) (L : List Loc) : Prop := ∃ r : Int32, v = some (.int r) ∧ ¬ r < (0 : Int32) ∧ Fr n0 L ∧ h = h0
theorem rmI2Y (hw : own_HW Z a0) (qc : Int32) (Z0 : n0 ≤ h0.size) (E1 : Exa Z h0 x1 "java/lang/String") (V1 : Fld Z h0 x1 "java/lang/String" "value" "[B" (.ref t1)) (C1 : Fld Z h0 x1 "java/lang/String" "coder" "B" (.int 0)) (K1 : Arv Z h0 t1 kb .byte (8 : Int32) [(.int 34), (.int 92), (.int 47), (.int 98), (.int 102), (.int 110), (.int 114), (.int 116)] (.int 0)) (hc0 : ¬ qc < (0 : Int32)) (hc1 : ¬ (255 : Int32) < qc) (hyy : (qc.toInt8.toInt32) = (34 : Int32) ∨ (qc.toInt8.toInt32) = (92 : Int32) ∨ (qc.toInt8.toInt32) = (47 : Int32) ∨ (qc.toInt8.toInt32) = (98 : Int32) ∨ (qc.toInt8.toInt32) = (102 : Int32) ∨ (qc.toInt8.toInt32) = (110 : Int32) ∨ (qc.toInt8.toInt32) = (114 : Int32) ∨ (qc.toInt8.toInt32) = (116 : Int32)) (hcs : ¬ (cs = (0 : Int32))) (S_cs : Sta Z h0 "java/lang/String" "COMPACT_STRINGS" "Z" (.int cs)) :
  own_MF l "java/lang/String" "indexOf" "(II)I" jdk_42_method_80_code 3 (some .int) ⟨2, 0, 0, 32⟩ #[(.ref x1), (.int qc), (.int 0)] Z h0 (QrmI2Y Z  h0 n0) := by
 refine own_fst (plainFor_of_name own_pn21) (own_ef21 · x1 qc (0 : Int32)) fun p e s m below meth c s₁ hy hml hZ hown hnm hrt hlk X0 e0 => ?_
 have N0 := Fr.nil n0
 refine own_al X0 hy d21_0 rfl rfl ?_
 refine own_cv X0 hy hZ hown (own_y3 hw) (rmIL hw Z0 C1 hcs S_cs) e0 E1 d21_1 own_pd3 hml fun v1 T1 L1 X1 hQ1 => ?_
 obtain ⟨rfl, N1q, e1⟩ := hQ1
 have N1 := Fr.app N0 N1q
 refine own_zn X1 hy d21_4 ((if0 _ _).trans (feq (by decide : ¬ ((1 : Int32) = (0 : Int32)))).1) ?_
 refine own_al X1 hy d21_7 rfl rfl ?_
 refine own_gf X1 hy hZ hown (host := "") (Or.inl (own_w hw 23 rfl)) Via.refl e1 V1 d21_8 fun T2 X2 e2 => ?_
 refine own_il X2 hy d21_11 rfl ?_
 refine own_il X2 hy d21_12 rfl ?_
 refine own_al X2 hy d21_13 rfl rfl ?_
 refine own_cv X2 hy hZ hown (own_y10 hw) (rmLn_8 hw Z0 E1 V1 C1 K1 hcs S_cs) e2 E1 d21_14 own_pd9 hml fun v3 T3 L3 X3 hQ3 => ?_
 obtain ⟨rfl, N3q, e3⟩ := hQ3
 have N3 := Fr.app N1 N3q
 refine own_csg X3 hy hZ hown (own_y11 hw) (rmLIY hw qc Z0 K1 hc0 hc1 hyy) e3 (S := []) rfl d21_17 own_pd8 hml fun v4 T4 L4 X4 hQ4 => ?_
 obtain ⟨r4, rfl, hr4, N4q, e4⟩ := hQ4
 have N4 := Fr.app N3 N4q
 clear N1 N1q X1 e1 X2 e2 N3 N3q X3 e3 N4q
 refine own_gt X4 hy d21_20 36 ?_
 exact own_rI X4 hy hrt hlk d21_36 e4 ⟨_, rfl, hr4, N4, rfl⟩
abbrev C20 : ByteArray := jdk_42_method_79_code
theorem d20_0 : decode C20 0 = .ok (.aload_n 0, 1) := by decide +kernel
theorem d20_1 : decode C20 1 = .ok (.iload_n 1, 1) := by decide +kernel
theorem d20_2 : decode C20 2 = .ok (.iconst 0, 1) := by decide +kernel
theorem d20_3 : decode C20 3 = .ok (.invokevirtual 633, 3) := by decide +kernel
theorem d20_6 : decode C20 6 = .ok (.ireturn, 1) := by decide +kernel
theorem own_pn20 : plainName "java/lang/String" = true := by first | (simp [plainName, overriddenIn]; done) | decide +kernel
theorem own_ef20 (m : MethodId) (x0 : Addr) (x1 : Int32) : entryFrame m #[(.ref x0), (.int x1)] 2 = mkF m 0 #[.val (.ref x0), .val (.int x1)] [] := by first | (simp [entryFrame, mkF, argsToLocals, Value.category]; done) | rfl
def QrmI1Y (Z : State)  (h0 : Heap) (n0 : Nat) (v : Option Value) (h : Heap) (L : List Loc) : Prop := ∃ r : Int32, v = some (.int r) ∧ ¬ r < (0 : Int32) ∧ Fr n0 L ∧ h = h0
theorem rmI1Y (hw : own_HW Z a0) (qc : Int32) (Z0 : n0 ≤ h0.size) (E1 : Exa Z h0 x1 "java/lang/String") (V1 : Fld Z h0 x1 "java/lang/String" "value" "[B" (.ref t1)) (C1 : Fld Z h0 x1 "java/lang/String" "coder" "B" (.int 0)) (K1 : Arv Z h0 t1 kb .byte (8 : Int32) [(.int 34), (.int 92), (.int 47), (.int 98), (.int 102), (.int 110), (.int 114), (.int 116)] (.int 0)) (hc0 : ¬ qc < (0 : Int32)) (hc1 : ¬ (255 : Int32) < qc) (hyy : (qc.toInt8.toInt32) = (34 : Int32) ∨ (qc.toInt8.toInt32) = (92 : Int32) ∨ (qc.toInt8.toInt32) = (47 : Int32) ∨ (qc.toInt8.toInt32) = (98 : Int32) ∨ (qc.toInt8.toInt32) = (102 : Int32) ∨ (qc.toInt8.toInt32) = (110 : Int32) ∨ (qc.toInt8.toInt32) = (114 : Int32) ∨ (qc.toInt8.toInt32) = (116 : Int32)) (hcs : ¬ (cs = (0 : Int32))) (S_cs : Sta Z h0 "java/lang/String" "COMPACT_STRINGS" "Z" (.int cs)) :
  own_MF l "java/lang/String" "indexOf" "(I)I" jdk_42_method_79_code 2 (some .int) ⟨3, 0, 0, 46⟩ #[(.ref x1), (.int qc)] Z h0 (QrmI1Y Z  h0 n0) := by
 refine own_fst (plainFor_of_name own_pn20) (own_ef20 · x1 qc) fun p e s m below meth c s₁ hy hml hZ hown hnm hrt hlk X0 e0 => ?_
 have N0 := Fr.nil n0
 refine own_al X0 hy d20_0 rfl rfl ?_
 refine own_il X0 hy d20_1 rfl ?_
 refine own_ic X0 hy d20_2 ?_
 refine own_cvg X0 hy hZ hown (own_y12 hw) (rmI2Y hw qc Z0 E1 V1 C1 K1 hc0 hc1 hyy hcs S_cs) e0 E1 (S := []) rfl d20_3 own_pd7 hml fun v1 T1 L1 X1 hQ1 => ?_
 obtain ⟨r1, rfl, hr1, N1q, e1⟩ := hQ1
 have N1 := Fr.app N0 N1q
 exact own_rI X1 hy hrt hlk d20_6 e1 ⟨_, rfl, hr1, N1, rfl⟩
theorem d27_31 : decode C27 31 = .ok (.iconst (-1), 1) := by decide +kernel
theorem d27_32 : decode C27 32 = .ok (.ireturn, 1) := by decide +kernel
def QrmOCN (Z : State)  (h0 : Heap) (n0 : Nat) (v : Option Value) (h : Heap) (L : List Loc) : Prop := v = some (.int (-1)) ∧ Fr n0 L ∧ h = h0
theorem rmOCN (hw : own_HW Z a0) (qc : Int32) (Z0 : n0 ≤ h0.size) (K1 : Arv Z h0 t1 kb .byte (8 : Int32) [(.int 34), (.int 92), (.int 47), (.int 98), (.int 102), (.int 110), (.int 114), (.int 116)] (.int 0)) (hn : ¬ (34 : Int32) = (qc.toInt8.toInt32) ∧ ¬ (92 : Int32) = (qc.toInt8.toInt32) ∧ ¬ (47 : Int32) = (qc.toInt8.toInt32) ∧ ¬ (98 : Int32) = (qc.toInt8.toInt32) ∧ ¬ (102 : Int32) = (qc.toInt8.toInt32) ∧ ¬ (110 : Int32) = (qc.toInt8.toInt32) ∧ ¬ (114 : Int32) = (qc.toInt8.toInt32) ∧ ¬ (116 : Int32) = (qc.toInt8.toInt32)) :
  own_MF l "java/lang/StringLatin1" "indexOfChar" "([BIII)I" jdk_43_method_23_code 6 (some .int) ⟨0, 0, 0, 0⟩ #[(.ref t1), (.int qc), (.int 0), (.int 8)] Z h0 (QrmOCN Z  h0 n0) := by
 refine own_fst (plainFor_of_name own_pn27) (own_ef27 · t1 qc (0 : Int32) (8 : Int32)) fun p e s m below meth c s₁ hy hml hZ hown hnm hrt hlk X0 e0 => ?_
 have N0 := Fr.nil n0
 refine own_il X0 hy d27_0 rfl ?_
 refine own_go (fun _ kz => XS.i2b X0.here hy.1 rfl (hb hy.2 d27_1) rfl kz) ?_
 refine own_go (A := s₁.setTop (mkF m 2 #[.val (.ref t1), .val (.int qc), .val (.int 0), .val (.int 8), .unset, .unset] [(.int (qc.toInt8.toInt32))])) (fun _ kz => kz) ?_
 refine own_it X0 hy d27_2 (l' := #[.val (.ref t1), .val (.int qc), .val (.int 0), .val (.int 8), .val (.int (qc.toInt8.toInt32)), .unset]) rfl ?_
 refine own_il X0 hy d27_4 rfl ?_
 refine own_it X0 hy d27_5 (l' := #[.val (.ref t1), .val (.int qc), .val (.int 0), .val (.int 8), .val (.int (qc.toInt8.toInt32)), .val (.int 0)]) rfl ?_
 refine own_iw X0 hy d27_7 rfl ?_
 refine own_il X0 hy d27_9 rfl ?_
 refine own_cn X0 hy d27_10 (tlt (by decide : ((0 : Int32) < (8 : Int32)))).2.1 ?_
 refine own_al X0 hy d27_13 rfl rfl ?_
 refine own_iw X0 hy d27_14 rfl ?_
 refine own_bb X0 hy hZ e0 K1 ⟨by decide, by decide⟩ (v := (.int 34)) rfl d27_16 ?_
 refine own_iw X0 hy d27_17 rfl ?_
 refine own_cy X0 hy d27_19 25 (feq hn.1).2 ?_
 refine own_ii X0 hy d27_25 rfl (l' := #[.val (.ref t1), .val (.int qc), .val (.int 0), .val (.int 8), .val (.int (qc.toInt8.toInt32)), .val (.int 1)]) rfl ?_
 refine own_gt X0 hy d27_28 7 ?_
 refine own_iw X0 hy d27_7 rfl ?_
 refine own_il X0 hy d27_9 rfl ?_
 refine own_cn X0 hy d27_10 (tlt (by decide : ((1 : Int32) < (8 : Int32)))).2.1 ?_
 refine own_al X0 hy d27_13 rfl rfl ?_
 refine own_iw X0 hy d27_14 rfl ?_
 refine own_bb X0 hy hZ e0 K1 ⟨by decide, by decide⟩ (v := (.int 92)) rfl d27_16 ?_
 refine own_iw X0 hy d27_17 rfl ?_
 refine own_cy X0 hy d27_19 25 (feq hn.2.1).2 ?_
 refine own_ii X0 hy d27_25 rfl (l' := #[.val (.ref t1), .val (.int qc), .val (.int 0), .val (.int 8), .val (.int (qc.toInt8.toInt32)), .val (.int 2)]) rfl ?_
 refine own_gt X0 hy d27_28 7 ?_
 refine own_iw X0 hy d27_7 rfl ?_
 refine own_il X0 hy d27_9 rfl ?_
 refine own_cn X0 hy d27_10 (tlt (by decide : ((2 : Int32) < (8 : Int32)))).2.1 ?_
 refine own_al X0 hy d27_13 rfl rfl ?_
 refine own_iw X0 hy d27_14 rfl ?_
 refine own_bb X0 hy hZ e0 K1 ⟨by decide, by decide⟩ (v := (.int 47)) rfl d27_16 ?_
 refine own_iw X0 hy d27_17 rfl ?_
 refine own_cy X0 hy d27_19 25 (feq hn.2.2.1).2 ?_
 refine own_ii X0 hy d27_25 rfl (l' := #[.val (.ref t1), .val (.int qc), .val (.int 0), .val (.int 8), .val (.int (qc.toInt8.toInt32)), .val (.int 3)]) rfl ?_
 refine own_gt X0 hy d27_28 7 ?_
 refine own_iw X0 hy d27_7 rfl ?_
 refine own_il X0 hy d27_9 rfl ?_
 refine own_cn X0 hy d27_10 (tlt (by decide : ((3 : Int32) < (8 : Int32)))).2.1 ?_
 refine own_al X0 hy d27_13 rfl rfl ?_
 refine own_iw X0 hy d27_14 rfl ?_
 refine own_bb X0 hy hZ e0 K1 ⟨by decide, by decide⟩ (v := (.int 98)) rfl d27_16 ?_
 refine own_iw X0 hy d27_17 rfl ?_
 refine own_cy X0 hy d27_19 25 (feq hn.2.2.2.1).2 ?_
 refine own_ii X0 hy d27_25 rfl (l' := #[.val (.ref t1), .val (.int qc), .val (.int 0), .val (.int 8), .val (.int (qc.toInt8.toInt32)), .val (.int 4)]) rfl ?_
 refine own_gt X0 hy d27_28 7 ?_
 refine own_iw X0 hy d27_7 rfl ?_
 refine own_il X0 hy d27_9 rfl ?_
 refine own_cn X0 hy d27_10 (tlt (by decide : ((4 : Int32) < (8 : Int32)))).2.1 ?_
 refine own_al X0 hy d27_13 rfl rfl ?_
 refine own_iw X0 hy d27_14 rfl ?_
 refine own_bb X0 hy hZ e0 K1 ⟨by decide, by decide⟩ (v := (.int 102)) rfl d27_16 ?_
 refine own_iw X0 hy d27_17 rfl ?_
 refine own_cy X0 hy d27_19 25 (feq hn.2.2.2.2.1).2 ?_
 refine own_ii X0 hy d27_25 rfl (l' := #[.val (.ref t1), .val (.int qc), .val (.int 0), .val (.int 8), .val (.int (qc.toInt8.toInt32)), .val (.int 5)]) rfl ?_
 refine own_gt X0 hy d27_28 7 ?_
 refine own_iw X0 hy d27_7 rfl ?_
 refine own_il X0 hy d27_9 rfl ?_
 refine own_cn X0 hy d27_10 (tlt (by decide : ((5 : Int32) < (8 : Int32)))).2.1 ?_
 refine own_al X0 hy d27_13 rfl rfl ?_
 refine own_iw X0 hy d27_14 rfl ?_
 refine own_bb X0 hy hZ e0 K1 ⟨by decide, by decide⟩ (v := (.int 110)) rfl d27_16 ?_
 refine own_iw X0 hy d27_17 rfl ?_
 refine own_cy X0 hy d27_19 25 (feq hn.2.2.2.2.2.1).2 ?_
 refine own_ii X0 hy d27_25 rfl (l' := #[.val (.ref t1), .val (.int qc), .val (.int 0), .val (.int 8), .val (.int (qc.toInt8.toInt32)), .val (.int 6)]) rfl ?_
 refine own_gt X0 hy d27_28 7 ?_
 refine own_iw X0 hy d27_7 rfl ?_
 refine own_il X0 hy d27_9 rfl ?_
 refine own_cn X0 hy d27_10 (tlt (by decide : ((6 : Int32) < (8 : Int32)))).2.1 ?_
 refine own_al X0 hy d27_13 rfl rfl ?_
 refine own_iw X0 hy d27_14 rfl ?_
 refine own_bb X0 hy hZ e0 K1 ⟨by decide, by decide⟩ (v := (.int 114)) rfl d27_16 ?_
 refine own_iw X0 hy d27_17 rfl ?_
 refine own_cy X0 hy d27_19 25 (feq hn.2.2.2.2.2.2.1).2 ?_
 refine own_ii X0 hy d27_25 rfl (l' := #[.val (.ref t1), .val (.int qc), .val (.int 0), .val (.int 8), .val (.int (qc.toInt8.toInt32)), .val (.int 7)]) rfl ?_
 refine own_gt X0 hy d27_28 7 ?_
 refine own_iw X0 hy d27_7 rfl ?_
 refine own_il X0 hy d27_9 rfl ?_
 refine own_cn X0 hy d27_10 (tlt (by decide : ((7 : Int32) < (8 : Int32)))).2.1 ?_
 refine own_al X0 hy d27_13 rfl rfl ?_
 refine own_iw X0 hy d27_14 rfl ?_
 refine own_bb X0 hy hZ e0 K1 ⟨by decide, by decide⟩ (v := (.int 116)) rfl d27_16 ?_
 refine own_iw X0 hy d27_17 rfl ?_
 refine own_cy X0 hy d27_19 25 (feq hn.2.2.2.2.2.2.2).2 ?_
 refine own_ii X0 hy d27_25 rfl (l' := #[.val (.ref t1), .val (.int qc), .val (.int 0), .val (.int 8), .val (.int (qc.toInt8.toInt32)), .val (.int 8)]) rfl ?_
 refine own_gt X0 hy d27_28 7 ?_
 refine own_iw X0 hy d27_7 rfl ?_
 refine own_il X0 hy d27_9 rfl ?_
 refine own_cy X0 hy d27_10 31 (flt (by decide : ¬ ((8 : Int32) < (8 : Int32)))).2.1 ?_
 refine own_ic X0 hy d27_31 ?_
 exact own_rI X0 hy hrt hlk d27_32 e0 ⟨rfl, N0, rfl⟩
def QrmLIN (Z : State)  (h0 : Heap) (n0 : Nat) (v : Option Value) (h : Heap) (L : List Loc) : Prop := v = some (.int (-1)) ∧ Fr n0 L ∧ h = h0
theorem rmLIN (hw : own_HW Z a0) (qc : Int32) (Z0 : n0 ≤ h0.size) (K1 : Arv Z h0 t1 kb .byte (8 : Int32) [(.int 34), (.int 92), (.int 47), (.int 98), (.int 102), (.int 110), (.int 114), (.int 116)] (.int 0)) (hc0 : ¬ qc < (0 : Int32)) (hc1 : ¬ (255 : Int32) < qc) (hn : ¬ (34 : Int32) = (qc.toInt8.toInt32) ∧ ¬ (92 : Int32) = (qc.toInt8.toInt32) ∧ ¬ (47 : Int32) = (qc.toInt8.toInt32) ∧ ¬ (98 : Int32) = (qc.toInt8.toInt32) ∧ ¬ (102 : Int32) = (qc.toInt8.toInt32) ∧ ¬ (110 : Int32) = (qc.toInt8.toInt32) ∧ ¬ (114 : Int32) = (qc.toInt8.toInt32) ∧ ¬ (116 : Int32) = (qc.toInt8.toInt32)) :
  own_MF l "java/lang/StringLatin1" "indexOf" "([BIII)I" jdk_43_method_22_code 4 (some .int) ⟨1, 0, 0, 17⟩ #[(.ref t1), (.int qc), (.int 0), (.int 8)] Z h0 (QrmLIN Z  h0 n0) := by
 refine own_fst (plainFor_of_name own_pn24) (own_ef24 · t1 qc (0 : Int32) (8 : Int32)) fun p e s m below meth c s₁ hy hml hZ hown hnm hrt hlk X0 e0 => ?_
 have N0 := Fr.nil n0
 refine own_il X0 hy d24_0 rfl ?_
 refine own_cs X0 hy hZ hown (own_y6 hw) (rmCE hw qc Z0 hc0 hc1) e0 d24_1 own_pd6 hml fun v1 T1 L1 X1 hQ1 => ?_
 obtain ⟨rfl, N1q, e1⟩ := hQ1
 have N1 := Fr.app N0 N1q
 refine own_zy X1 hy d24_4 9 ((if0 _ _).trans (feq (by decide : ¬ ((1 : Int32) = (0 : Int32)))).2) ?_
 refine own_il X1 hy d24_9 rfl ?_
 refine own_ic X1 hy d24_10 ?_
 refine own_csg X1 hy hZ hown (own_y7 hw) (rmMax hw (0 : Int32) (0 : Int32) Z0) e1 (S := []) rfl d24_11 own_pd7 hml fun v2 T2 L2 X2 hQ2 => ?_
 obtain ⟨rfl, N2q, e2⟩ := hQ2
 have N2 := Fr.app N1 N2q
 refine own_is X2 hy d24_14 (l' := #[.val (.ref t1), .val (.int qc), .val (.int 0), .val (.int 8)]) rfl ?_
 refine own_il X2 hy d24_15 rfl ?_
 refine own_al X2 hy d24_16 rfl rfl ?_
 refine own_ln X2 hy hZ e2 K1 d24_17 ?_
 refine own_csg X2 hy hZ hown (own_y8 hw) (rmMin hw (8 : Int32) (8 : Int32) Z0) e2 (S := []) rfl d24_18 own_pd7 hml fun v4 T4 L4 X4 hQ4 => ?_
 obtain ⟨rfl, N4q, e4⟩ := hQ4
 have N4 := Fr.app N2 N4q
 clear N1 N1q X1 e1 N2 N2q X2 e2 N4q
 refine own_is X4 hy d24_21 (l' := #[.val (.ref t1), .val (.int qc), .val (.int 0), .val (.int 8)]) rfl ?_
 refine own_il X4 hy d24_22 rfl ?_
 refine own_il X4 hy d24_23 rfl ?_
 refine own_cy X4 hy d24_24 29 (tlt (by decide : ((0 : Int32) < (8 : Int32)))).1 ?_
 refine own_al X4 hy d24_29 rfl rfl ?_
 refine own_il X4 hy d24_30 rfl ?_
 refine own_il X4 hy d24_31 rfl ?_
 refine own_il X4 hy d24_32 rfl ?_
 refine own_csg X4 hy hZ hown (own_y9 hw) (rmOCN hw qc Z0 K1 hn) e4 (S := []) rfl d24_33 own_pd8 hml fun v5 T5 L5 X5 hQ5 => ?_
 obtain ⟨rfl, N5q, e5⟩ := hQ5
 have N5 := Fr.app N4 N5q
 exact own_rI X5 hy hrt hlk d24_36 e5 ⟨rfl, N5, rfl⟩
def QrmI2N (Z : State)  (h0 : Heap) (n0 : Nat) (v : Option Value) (h : Heap) (L : List Loc) : Prop := v = some (.int (-1)) ∧ Fr n0 L ∧ h = h0
theorem rmI2N (hw : own_HW Z a0) (qc : Int32) (Z0 : n0 ≤ h0.size) (E1 : Exa Z h0 x1 "java/lang/String") (V1 : Fld Z h0 x1 "java/lang/String" "value" "[B" (.ref t1)) (C1 : Fld Z h0 x1 "java/lang/String" "coder" "B" (.int 0)) (K1 : Arv Z h0 t1 kb .byte (8 : Int32) [(.int 34), (.int 92), (.int 47), (.int 98), (.int 102), (.int 110), (.int 114), (.int 116)] (.int 0)) (hc0 : ¬ qc < (0 : Int32)) (hc1 : ¬ (255 : Int32) < qc) (hn : ¬ (34 : Int32) = (qc.toInt8.toInt32) ∧ ¬ (92 : Int32) = (qc.toInt8.toInt32) ∧ ¬ (47 : Int32) = (qc.toInt8.toInt32) ∧ ¬ (98 : Int32) = (qc.toInt8.toInt32) ∧ ¬ (102 : Int32) = (qc.toInt8.toInt32) ∧ ¬ (110 : Int32) = (qc.toInt8.toInt32) ∧ ¬ (114 : Int32) = (qc.toInt8.toInt32) ∧ ¬ (116 : Int32) = (qc.toInt8.toInt32)) (hcs : ¬ (cs = (0 : Int32))) (S_cs : Sta Z h0 "java/lang/String" "COMPACT_STRINGS" "Z" (.int cs)) :
  own_MF l "java/lang/String" "indexOf" "(II)I" jdk_42_method_80_code 3 (some .int) ⟨2, 0, 0, 32⟩ #[(.ref x1), (.int qc), (.int 0)] Z h0 (QrmI2N Z  h0 n0) := by
 refine own_fst (plainFor_of_name own_pn21) (own_ef21 · x1 qc (0 : Int32)) fun p e s m below meth c s₁ hy hml hZ hown hnm hrt hlk X0 e0 => ?_
 have N0 := Fr.nil n0
 refine own_al X0 hy d21_0 rfl rfl ?_
 refine own_cv X0 hy hZ hown (own_y3 hw) (rmIL hw Z0 C1 hcs S_cs) e0 E1 d21_1 own_pd3 hml fun v1 T1 L1 X1 hQ1 => ?_
 obtain ⟨rfl, N1q, e1⟩ := hQ1
 have N1 := Fr.app N0 N1q
 refine own_zn X1 hy d21_4 ((if0 _ _).trans (feq (by decide : ¬ ((1 : Int32) = (0 : Int32)))).1) ?_
 refine own_al X1 hy d21_7 rfl rfl ?_
 refine own_gf X1 hy hZ hown (host := "") (Or.inl (own_w hw 23 rfl)) Via.refl e1 V1 d21_8 fun T2 X2 e2 => ?_
 refine own_il X2 hy d21_11 rfl ?_
 refine own_il X2 hy d21_12 rfl ?_
 refine own_al X2 hy d21_13 rfl rfl ?_
 refine own_cv X2 hy hZ hown (own_y10 hw) (rmLn_8 hw Z0 E1 V1 C1 K1 hcs S_cs) e2 E1 d21_14 own_pd9 hml fun v3 T3 L3 X3 hQ3 => ?_
 obtain ⟨rfl, N3q, e3⟩ := hQ3
 have N3 := Fr.app N1 N3q
 refine own_csg X3 hy hZ hown (own_y11 hw) (rmLIN hw qc Z0 K1 hc0 hc1 hn) e3 (S := []) rfl d21_17 own_pd8 hml fun v4 T4 L4 X4 hQ4 => ?_
 obtain ⟨rfl, N4q, e4⟩ := hQ4
 have N4 := Fr.app N3 N4q
 clear N1 N1q X1 e1 X2 e2 N3 N3q X3 e3 N4q
 refine own_gt X4 hy d21_20 36 ?_
 exact own_rI X4 hy hrt hlk d21_36 e4 ⟨rfl, N4, rfl⟩
def QrmI1N (Z : State)  (h0 : Heap) (n0 : Nat) (v : Option Value) (h : Heap) (L : List Loc) : Prop := v = some (.int (-1)) ∧ Fr n0 L ∧ h = h0
theorem rmI1N (hw : own_HW Z a0) (qc : Int32) (Z0 : n0 ≤ h0.size) (E1 : Exa Z h0 x1 "java/lang/String") (V1 : Fld Z h0 x1 "java/lang/String" "value" "[B" (.ref t1)) (C1 : Fld Z h0 x1 "java/lang/String" "coder" "B" (.int 0)) (K1 : Arv Z h0 t1 kb .byte (8 : Int32) [(.int 34), (.int 92), (.int 47), (.int 98), (.int 102), (.int 110), (.int 114), (.int 116)] (.int 0)) (hc0 : ¬ qc < (0 : Int32)) (hc1 : ¬ (255 : Int32) < qc) (hn : ¬ (34 : Int32) = (qc.toInt8.toInt32) ∧ ¬ (92 : Int32) = (qc.toInt8.toInt32) ∧ ¬ (47 : Int32) = (qc.toInt8.toInt32) ∧ ¬ (98 : Int32) = (qc.toInt8.toInt32) ∧ ¬ (102 : Int32) = (qc.toInt8.toInt32) ∧ ¬ (110 : Int32) = (qc.toInt8.toInt32) ∧ ¬ (114 : Int32) = (qc.toInt8.toInt32) ∧ ¬ (116 : Int32) = (qc.toInt8.toInt32)) (hcs : ¬ (cs = (0 : Int32))) (S_cs : Sta Z h0 "java/lang/String" "COMPACT_STRINGS" "Z" (.int cs)) :
  own_MF l "java/lang/String" "indexOf" "(I)I" jdk_42_method_79_code 2 (some .int) ⟨3, 0, 0, 46⟩ #[(.ref x1), (.int qc)] Z h0 (QrmI1N Z  h0 n0) := by
 refine own_fst (plainFor_of_name own_pn20) (own_ef20 · x1 qc) fun p e s m below meth c s₁ hy hml hZ hown hnm hrt hlk X0 e0 => ?_
 have N0 := Fr.nil n0
 refine own_al X0 hy d20_0 rfl rfl ?_
 refine own_il X0 hy d20_1 rfl ?_
 refine own_ic X0 hy d20_2 ?_
 refine own_cvg X0 hy hZ hown (own_y12 hw) (rmI2N hw qc Z0 E1 V1 C1 K1 hc0 hc1 hn hcs S_cs) e0 E1 (S := []) rfl d20_3 own_pd7 hml fun v1 T1 L1 X1 hQ1 => ?_
 obtain ⟨rfl, N1q, e1⟩ := hQ1
 have N1 := Fr.app N0 N1q
 exact own_rI X1 hy hrt hlk d20_6 e1 ⟨rfl, N1, rfl⟩
theorem d14_0 : decode C14 0 = .ok (.aload_n 0, 1) := by decide +kernel
theorem d14_8 : decode C14 8 = .ok (.if_icmp .ge 72, 3) := by decide +kernel
theorem d14_11 : decode C14 11 = .ok (.aload_n 0, 1) := by decide +kernel
theorem d14_20 : decode C14 20 = .ok (.bipush 32, 2) := by decide +kernel
theorem d14_22 : decode C14 22 = .ok (.if_icmp .eq 45, 3) := by decide +kernel
theorem d14_25 : decode C14 25 = .ok (.aload_n 0, 1) := by decide +kernel
theorem d14_34 : decode C14 34 = .ok (.bipush 9, 2) := by decide +kernel
theorem d14_36 : decode C14 36 = .ok (.if_icmp .eq 31, 3) := by decide +kernel
theorem d14_39 : decode C14 39 = .ok (.aload_n 0, 1) := by decide +kernel
theorem d14_48 : decode C14 48 = .ok (.bipush 10, 2) := by decide +kernel
theorem d14_50 : decode C14 50 = .ok (.if_icmp .eq 17, 3) := by decide +kernel
theorem d14_53 : decode C14 53 = .ok (.aload_n 0, 1) := by decide +kernel
theorem d14_62 : decode C14 62 = .ok (.bipush 13, 2) := by decide +kernel
theorem d14_64 : decode C14 64 = .ok (.if_icmp .ne 16, 3) := by decide +kernel
theorem d14_80 : decode C14 80 = .ok (.return_, 1) := by decide +kernel
theorem own_pn14 : plainName "dev/parlance/JsonGrammar" = true := by first | (simp [plainName, overriddenIn]; done) | decide +kernel
theorem own_ef14 (m : MethodId) (x0 : Addr) : entryFrame m #[(.ref x0)] 1 = mkF m 0 #[.val (.ref x0)] [] := by first | (simp [entryFrame, mkF, argsToLocals, Value.category]; done) | rfl
def QrmSk0 (Z : State)  (h0 : Heap) (n0 : Nat) (v : Option Value) (h : Heap) (L : List Loc) : Prop := v = none ∧ Fr n0 L ∧ h = h0
theorem rmSk0 (hw : own_HW Z a0) (Z0 : n0 ≤ h0.size) (Gq : own_G Z h0 g ct ob (own_P oN kk) md dd oo (own_P oN i)) (g_g : n0 ≤ g) (At : Arv Z h0 ct kc .char (52 : Int32) tx (.int 0)) (hT : ∀ i, i < 49 → tx.getD (oN + i) (.int 0) = .int (cc i)) (H : own_H oN kk md M tf cc) (hi60 : i ≤ 60) (hstop : kk ≤ i ∨ (i < kk ∧ ¬ own_ws (cc i))) :
  own_MF l "dev/parlance/JsonGrammar" "skipWhitespace" "()V" prog_6_method_11_code 1 none ⟨0, 0, 0, 0⟩ #[(.ref g)] Z h0 (QrmSk0 Z  h0 n0) := by
 refine own_fst (plainFor_of_name own_pn14) (own_ef14 · g) fun p e s m below meth c s₁ hy hml hZ hown hnm hrt hlk X0 e0 => ?_
 have N0 := Fr.nil n0
 obtain ⟨⟨Eg, Ft, Fe, Fm, Fo, Fd, Fp, Fa⟩, ho, hk49, ne_ct_g⟩ := own_gi hw Gq At H
 rcases hstop with hki | ⟨hki, hnw⟩
 ·
  refine own_ae X0 hy hZ hown hw e0 Fa Fe a14_0 fun T1 X1 e1 => ?_
  refine own_cy X1 hy d14_8 80 (flt (own_Pge ho hk49 hki (by omega))).2.1 ?_
  exact own_rV X1 hy hrt hlk d14_80 e1 ⟨rfl, N0, rfl⟩
 ·
  refine own_ae X0 hy hZ hown hw e0 Fa Fe a14_0 fun T2 X2 e2 => ?_
  refine own_cn X2 hy d14_8 (tlt (own_Plt ho hk49 hki)).2.1 ?_
  refine own_tc X2 hy hZ hown hw e2 Ft Fa At ho hT (by omega) t14_11 fun T3 X3 e3 => ?_
  refine own_bp X3 hy d14_20 ?_
  refine own_cn X3 hy d14_22 (feq (fun q => hnw (Or.inl q))).1 ?_
  refine own_tc X3 hy hZ hown hw e3 Ft Fa At ho hT (by omega) t14_25 fun T4 X4 e4 => ?_
  refine own_bp X4 hy d14_34 ?_
  refine own_cn X4 hy d14_36 (feq (fun q => hnw (Or.inr (Or.inl q)))).1 ?_
  refine own_tc X4 hy hZ hown hw e4 Ft Fa At ho hT (by omega) t14_39 fun T5 X5 e5 => ?_
  refine own_bp X5 hy d14_48 ?_
  refine own_cn X5 hy d14_50 (feq (fun q => hnw (Or.inr (Or.inr (Or.inl q))))).1 ?_
  refine own_tc X5 hy hZ hown hw e5 Ft Fa At ho hT (by omega) t14_53 fun T6 X6 e6 => ?_
  clear X2 e2 X3 e3 X4 e4 X5 e5
  refine own_bp X6 hy d14_62 ?_
  refine own_cy X6 hy d14_64 80 (feq (fun q => hnw (Or.inr (Or.inr (Or.inr q))))).2 ?_
  exact own_rV X6 hy hrt hlk d14_80 e6 ⟨rfl, N0, rfl⟩
theorem d14_67 : decode C14 67 = .ok (.aload_n 0, 1) := by decide +kernel
theorem d14_77 : decode C14 77 = .ok (.goto (-77), 3) := by decide +kernel
def QrmSk1 (Z : State) (g ct ob : Addr) (kc : ClassId) (tx : List Value) (cc : Nat → Int32) (oN kk M : Nat) (tf : Bool) (md dd oo : Int32) (i : Nat) (h0 : Heap) (n0 : Nat) (v : Option Value) (h : Heap) (L : List Loc) : Prop := v = none ∧ Fr n0 L ∧ Keep h0 h [g] ∧ own_G Z h g ct ob (own_P oN kk) md dd oo (own_P oN (i + 1))
theorem rmSk1 (hw : own_HW Z a0) (Z0 : n0 ≤ h0.size) (Gq : own_G Z h0 g ct ob (own_P oN kk) md dd oo (own_P oN i)) (g_g : n0 ≤ g) (At : Arv Z h0 ct kc .char (52 : Int32) tx (.int 0)) (hT : ∀ i, i < 49 → tx.getD (oN + i) (.int 0) = .int (cc i)) (H : own_H oN kk md M tf cc) (hi60 : i ≤ 59) (hki : i < kk) (hws : own_ws (cc i)) (hstop : kk ≤ i + 1 ∨ (i + 1 < kk ∧ ¬ own_ws (cc (i + 1)))) :
  own_MF l "dev/parlance/JsonGrammar" "skipWhitespace" "()V" prog_6_method_11_code 1 none ⟨0, 0, 0, 0⟩ #[(.ref g)] Z h0 (QrmSk1 Z g ct ob kc tx cc oN kk M tf md dd oo i h0 n0) := by
 refine own_fst (plainFor_of_name own_pn14) (own_ef14 · g) fun p e s m below meth c s₁ hy hml hZ hown hnm hrt hlk X0 e0 => ?_
 have N0 := Fr.nil n0
 have Kp0 : Keep h0 h0 [g] := Keep.refl h0 _
 obtain ⟨⟨Eg, Ft, Fe, Fm, Fo, Fd, Fp, Fa⟩, ho, hk49, ne_ct_g⟩ := own_gi hw Gq At H
 rcases hws with hw0 | hw0 | hw0 | hw0
 ·
  refine own_ae X0 hy hZ hown hw e0 Fa Fe a14_0 fun T1 X1 e1 => ?_
  refine own_cn X1 hy d14_8 (tlt (own_Plt ho hk49 hki)).2.1 ?_
  refine own_tc X1 hy hZ hown hw e1 Ft Fa At ho hT (by omega) t14_11 fun T2 X2 e2 => ?_
  refine own_bp X2 hy d14_20 ?_
  refine own_cy X2 hy d14_22 67 (teq hw0).1 ?_
  refine own_inc X2 hy hZ hown hw e2 ⟨Eg, Ft, Fe, Fm, Fo, Fd, Fp, Fa⟩ i14_67 (i + 1) fun T3 h3 X3 e3 W3 ⟨_, Ft, Fe, Fm, Fo, Fd, Fp, Fa⟩ => ?_
  replace Eg := Eg.wr W3
  replace At := At.other W3 ne_ct_g
  have Z3 := own_zw Z0 W3
  have Kp3 := Kp0.wr W3 own_m0
  have N3 := Fr.snoc X3 N0 g_g
  refine own_gt X3 hy d14_77 0 ?_
  rcases hstop with hkj | ⟨hkj, hnw⟩
  ·
   refine own_ae X3 hy hZ hown hw e3 Fa Fe a14_0 fun T4 X4 e4 => ?_
   refine own_cy X4 hy d14_8 80 (flt (own_Pge ho hk49 hkj (by omega))).2.1 ?_
   exact own_rV X4 hy hrt hlk d14_80 e4 ⟨rfl, N3, Kp3, ⟨Eg, Ft, Fe, Fm, Fo, Fd, Fp, Fa⟩⟩
  ·
   refine own_ae X3 hy hZ hown hw e3 Fa Fe a14_0 fun T5 X5 e5 => ?_
   refine own_cn X5 hy d14_8 (tlt (own_Plt ho hk49 hkj)).2.1 ?_
   refine own_tc X5 hy hZ hown hw e5 Ft Fa At ho hT (by omega) t14_11 fun T6 X6 e6 => ?_
   clear X1 e1 X2 e2 X3 e3 W3 X5 e5
   refine own_bp X6 hy d14_20 ?_
   refine own_cn X6 hy d14_22 (feq (fun q => hnw (Or.inl q))).1 ?_
   refine own_tc X6 hy hZ hown hw e6 Ft Fa At ho hT (by omega) t14_25 fun T7 X7 e7 => ?_
   refine own_bp X7 hy d14_34 ?_
   refine own_cn X7 hy d14_36 (feq (fun q => hnw (Or.inr (Or.inl q)))).1 ?_
   refine own_tc X7 hy hZ hown hw e7 Ft Fa At ho hT (by omega) t14_39 fun T8 X8 e8 => ?_
   refine own_bp X8 hy d14_48 ?_
   refine own_cn X8 hy d14_50 (feq (fun q => hnw (Or.inr (Or.inr (Or.inl q))))).1 ?_
   refine own_tc X8 hy hZ hown hw e8 Ft Fa At ho hT (by omega) t14_53 fun T9 X9 e9 => ?_
   refine own_bp X9 hy d14_62 ?_
   refine own_cy X9 hy d14_64 80 (feq (fun q => hnw (Or.inr (Or.inr (Or.inr q))))).2 ?_
   exact own_rV X9 hy hrt hlk d14_80 e9 ⟨rfl, N3, Kp3, ⟨Eg, Ft, Fe, Fm, Fo, Fd, Fp, Fa⟩⟩
 ·
  refine own_ae X0 hy hZ hown hw e0 Fa Fe a14_0 fun T10 X10 e10 => ?_
  refine own_cn X10 hy d14_8 (tlt (own_Plt ho hk49 hki)).2.1 ?_
  refine own_tc X10 hy hZ hown hw e10 Ft Fa At ho hT (by omega) t14_11 fun T11 X11 e11 => ?_
  refine own_bp X11 hy d14_20 ?_
  refine own_cn X11 hy d14_22 (feq (by rw [hw0]; decide)).1 ?_
  refine own_tc X11 hy hZ hown hw e11 Ft Fa At ho hT (by omega) t14_25 fun T12 X12 e12 => ?_
  refine own_bp X12 hy d14_34 ?_
  refine own_cy X12 hy d14_36 67 (teq hw0).1 ?_
  refine own_inc X12 hy hZ hown hw e12 ⟨Eg, Ft, Fe, Fm, Fo, Fd, Fp, Fa⟩ i14_67 (i + 1) fun T13 h13 X13 e13 W13 ⟨_, Ft, Fe, Fm, Fo, Fd, Fp, Fa⟩ => ?_
  replace Eg := Eg.wr W13
  replace At := At.other W13 ne_ct_g
  have Z13 := own_zw Z0 W13
  have Kp13 := Kp0.wr W13 own_m0
  have N13 := Fr.snoc X13 N0 g_g
  refine own_gt X13 hy d14_77 0 ?_
  rcases hstop with hkj | ⟨hkj, hnw⟩
  ·
   refine own_ae X13 hy hZ hown hw e13 Fa Fe a14_0 fun T14 X14 e14 => ?_
   clear X10 e10 X11 e11 X12 e12 X13 e13 W13
   refine own_cy X14 hy d14_8 80 (flt (own_Pge ho hk49 hkj (by omega))).2.1 ?_
   exact own_rV X14 hy hrt hlk d14_80 e14 ⟨rfl, N13, Kp13, ⟨Eg, Ft, Fe, Fm, Fo, Fd, Fp, Fa⟩⟩
  ·
   refine own_ae X13 hy hZ hown hw e13 Fa Fe a14_0 fun T15 X15 e15 => ?_
   clear X10 e10 X11 e11 X12 e12 X13 e13 W13
   refine own_cn X15 hy d14_8 (tlt (own_Plt ho hk49 hkj)).2.1 ?_
   refine own_tc X15 hy hZ hown hw e15 Ft Fa At ho hT (by omega) t14_11 fun T16 X16 e16 => ?_
   refine own_bp X16 hy d14_20 ?_
   refine own_cn X16 hy d14_22 (feq (fun q => hnw (Or.inl q))).1 ?_
   refine own_tc X16 hy hZ hown hw e16 Ft Fa At ho hT (by omega) t14_25 fun T17 X17 e17 => ?_
   refine own_bp X17 hy d14_34 ?_
   refine own_cn X17 hy d14_36 (feq (fun q => hnw (Or.inr (Or.inl q)))).1 ?_
   refine own_tc X17 hy hZ hown hw e17 Ft Fa At ho hT (by omega) t14_39 fun T18 X18 e18 => ?_
   refine own_bp X18 hy d14_48 ?_
   refine own_cn X18 hy d14_50 (feq (fun q => hnw (Or.inr (Or.inr (Or.inl q))))).1 ?_
   refine own_tc X18 hy hZ hown hw e18 Ft Fa At ho hT (by omega) t14_53 fun T19 X19 e19 => ?_
   clear X15 e15 X16 e16 X17 e17 X18 e18
   refine own_bp X19 hy d14_62 ?_
   refine own_cy X19 hy d14_64 80 (feq (fun q => hnw (Or.inr (Or.inr (Or.inr q))))).2 ?_
   exact own_rV X19 hy hrt hlk d14_80 e19 ⟨rfl, N13, Kp13, ⟨Eg, Ft, Fe, Fm, Fo, Fd, Fp, Fa⟩⟩
 ·
  refine own_ae X0 hy hZ hown hw e0 Fa Fe a14_0 fun T20 X20 e20 => ?_
  refine own_cn X20 hy d14_8 (tlt (own_Plt ho hk49 hki)).2.1 ?_
  refine own_tc X20 hy hZ hown hw e20 Ft Fa At ho hT (by omega) t14_11 fun T21 X21 e21 => ?_
  refine own_bp X21 hy d14_20 ?_
  refine own_cn X21 hy d14_22 (feq (by rw [hw0]; decide)).1 ?_
  refine own_tc X21 hy hZ hown hw e21 Ft Fa At ho hT (by omega) t14_25 fun T22 X22 e22 => ?_
  refine own_bp X22 hy d14_34 ?_
  refine own_cn X22 hy d14_36 (feq (by rw [hw0]; decide)).1 ?_
  refine own_tc X22 hy hZ hown hw e22 Ft Fa At ho hT (by omega) t14_39 fun T23 X23 e23 => ?_
  refine own_bp X23 hy d14_48 ?_
  refine own_cy X23 hy d14_50 67 (teq hw0).1 ?_
  refine own_inc X23 hy hZ hown hw e23 ⟨Eg, Ft, Fe, Fm, Fo, Fd, Fp, Fa⟩ i14_67 (i + 1) fun T24 h24 X24 e24 W24 ⟨_, Ft, Fe, Fm, Fo, Fd, Fp, Fa⟩ => ?_
  replace Eg := Eg.wr W24
  replace At := At.other W24 ne_ct_g
  have Z24 := own_zw Z0 W24
  have Kp24 := Kp0.wr W24 own_m0
  have N24 := Fr.snoc X24 N0 g_g
  clear X20 e20 X21 e21 X22 e22 X23 e23 W24
  refine own_gt X24 hy d14_77 0 ?_
  rcases hstop with hkj | ⟨hkj, hnw⟩
  ·
   refine own_ae X24 hy hZ hown hw e24 Fa Fe a14_0 fun T25 X25 e25 => ?_
   refine own_cy X25 hy d14_8 80 (flt (own_Pge ho hk49 hkj (by omega))).2.1 ?_
   exact own_rV X25 hy hrt hlk d14_80 e25 ⟨rfl, N24, Kp24, ⟨Eg, Ft, Fe, Fm, Fo, Fd, Fp, Fa⟩⟩
  ·
   refine own_ae X24 hy hZ hown hw e24 Fa Fe a14_0 fun T26 X26 e26 => ?_
   refine own_cn X26 hy d14_8 (tlt (own_Plt ho hk49 hkj)).2.1 ?_
   refine own_tc X26 hy hZ hown hw e26 Ft Fa At ho hT (by omega) t14_11 fun T27 X27 e27 => ?_
   refine own_bp X27 hy d14_20 ?_
   refine own_cn X27 hy d14_22 (feq (fun q => hnw (Or.inl q))).1 ?_
   refine own_tc X27 hy hZ hown hw e27 Ft Fa At ho hT (by omega) t14_25 fun T28 X28 e28 => ?_
   refine own_bp X28 hy d14_34 ?_
   refine own_cn X28 hy d14_36 (feq (fun q => hnw (Or.inr (Or.inl q)))).1 ?_
   refine own_tc X28 hy hZ hown hw e28 Ft Fa At ho hT (by omega) t14_39 fun T29 X29 e29 => ?_
   clear X24 e24 X26 e26 X27 e27 X28 e28
   refine own_bp X29 hy d14_48 ?_
   refine own_cn X29 hy d14_50 (feq (fun q => hnw (Or.inr (Or.inr (Or.inl q))))).1 ?_
   refine own_tc X29 hy hZ hown hw e29 Ft Fa At ho hT (by omega) t14_53 fun T30 X30 e30 => ?_
   refine own_bp X30 hy d14_62 ?_
   refine own_cy X30 hy d14_64 80 (feq (fun q => hnw (Or.inr (Or.inr (Or.inr q))))).2 ?_
   exact own_rV X30 hy hrt hlk d14_80 e30 ⟨rfl, N24, Kp24, ⟨Eg, Ft, Fe, Fm, Fo, Fd, Fp, Fa⟩⟩
 ·
  refine own_ae X0 hy hZ hown hw e0 Fa Fe a14_0 fun T31 X31 e31 => ?_
  refine own_cn X31 hy d14_8 (tlt (own_Plt ho hk49 hki)).2.1 ?_
  refine own_tc X31 hy hZ hown hw e31 Ft Fa At ho hT (by omega) t14_11 fun T32 X32 e32 => ?_
  refine own_bp X32 hy d14_20 ?_
  refine own_cn X32 hy d14_22 (feq (by rw [hw0]; decide)).1 ?_
  refine own_tc X32 hy hZ hown hw e32 Ft Fa At ho hT (by omega) t14_25 fun T33 X33 e33 => ?_
  refine own_bp X33 hy d14_34 ?_
  refine own_cn X33 hy d14_36 (feq (by rw [hw0]; decide)).1 ?_
  refine own_tc X33 hy hZ hown hw e33 Ft Fa At ho hT (by omega) t14_39 fun T34 X34 e34 => ?_
  refine own_bp X34 hy d14_48 ?_
  refine own_cn X34 hy d14_50 (feq (by rw [hw0]; decide)).1 ?_
  refine own_tc X34 hy hZ hown hw e34 Ft Fa At ho hT (by omega) t14_53 fun T35 X35 e35 => ?_
  clear X31 e31 X32 e32 X33 e33 X34 e34
  refine own_bp X35 hy d14_62 ?_
  refine own_cn X35 hy d14_64 (teq hw0).2 ?_
  refine own_inc X35 hy hZ hown hw e35 ⟨Eg, Ft, Fe, Fm, Fo, Fd, Fp, Fa⟩ i14_67 (i + 1) fun T36 h36 X36 e36 W36 ⟨_, Ft, Fe, Fm, Fo, Fd, Fp, Fa⟩ => ?_
  replace Eg := Eg.wr W36
  replace At := At.other W36 ne_ct_g
  have Z36 := own_zw Z0 W36
  have Kp36 := Kp0.wr W36 own_m0
  have N36 := Fr.snoc X36 N0 g_g
  refine own_gt X36 hy d14_77 0 ?_
  rcases hstop with hkj | ⟨hkj, hnw⟩
  ·
   refine own_ae X36 hy hZ hown hw e36 Fa Fe a14_0 fun T37 X37 e37 => ?_
   refine own_cy X37 hy d14_8 80 (flt (own_Pge ho hk49 hkj (by omega))).2.1 ?_
   exact own_rV X37 hy hrt hlk d14_80 e37 ⟨rfl, N36, Kp36, ⟨Eg, Ft, Fe, Fm, Fo, Fd, Fp, Fa⟩⟩
  ·
   refine own_ae X36 hy hZ hown hw e36 Fa Fe a14_0 fun T38 X38 e38 => ?_
   refine own_cn X38 hy d14_8 (tlt (own_Plt ho hk49 hkj)).2.1 ?_
   refine own_tc X38 hy hZ hown hw e38 Ft Fa At ho hT (by omega) t14_11 fun T39 X39 e39 => ?_
   refine own_bp X39 hy d14_20 ?_
   refine own_cn X39 hy d14_22 (feq (fun q => hnw (Or.inl q))).1 ?_
   refine own_tc X39 hy hZ hown hw e39 Ft Fa At ho hT (by omega) t14_25 fun T40 X40 e40 => ?_
   clear X35 e35 X36 e36 W36 X38 e38 X39 e39
   refine own_bp X40 hy d14_34 ?_
   refine own_cn X40 hy d14_36 (feq (fun q => hnw (Or.inr (Or.inl q)))).1 ?_
   refine own_tc X40 hy hZ hown hw e40 Ft Fa At ho hT (by omega) t14_39 fun T41 X41 e41 => ?_
   refine own_bp X41 hy d14_48 ?_
   refine own_cn X41 hy d14_50 (feq (fun q => hnw (Or.inr (Or.inr (Or.inl q))))).1 ?_
   refine own_tc X41 hy hZ hown hw e41 Ft Fa At ho hT (by omega) t14_53 fun T42 X42 e42 => ?_
   refine own_bp X42 hy d14_62 ?_
   refine own_cy X42 hy d14_64 80 (feq (fun q => hnw (Or.inr (Or.inr (Or.inr q))))).2 ?_
   exact own_rV X42 hy hrt hlk d14_80 e42 ⟨rfl, N36, Kp36, ⟨Eg, Ft, Fe, Fm, Fo, Fd, Fp, Fa⟩⟩
theorem d30_0 : decode C30 0 = .ok (.aload_n 0, 1) := by decide +kernel
theorem d30_1 : decode C30 1 = .ok (.getfield 27, 3) := by decide +kernel
theorem d30_4 : decode C30 4 = .ok (.istore_n 1, 1) := by decide +kernel
theorem d30_5 : decode C30 5 = .ok (.aload_n 0, 1) := by decide +kernel
theorem d30_13 : decode C30 13 = .ok (.if_icmp .ge 31, 3) := by decide +kernel
theorem d30_16 : decode C30 16 = .ok (.aload_n 0, 1) := by decide +kernel
theorem d30_25 : decode C30 25 = .ok (.invokestatic 51, 3) := by decide +kernel
theorem d30_28 : decode C30 28 = .ok (.ifCond .eq 16, 3) := by decide +kernel
theorem d30_44 : decode C30 44 = .ok (.aload_n 0, 1) := by decide +kernel
theorem d30_45 : decode C30 45 = .ok (.getfield 27, 3) := by decide +kernel
theorem d30_48 : decode C30 48 = .ok (.iload_n 1, 1) := by decide +kernel
theorem d30_49 : decode C30 49 = .ok (.if_icmp .le 7, 3) := by decide +kernel
theorem d30_56 : decode C30 56 = .ok (.iconst 0, 1) := by decide +kernel
theorem d30_57 : decode C30 57 = .ok (.ireturn, 1) := by decide +kernel
theorem own_pn30 : plainName "dev/parlance/JsonGrammar" = true := by first | (simp [plainName, overriddenIn]; done) | decide +kernel
theorem own_ef30 (m : MethodId) (x0 : Addr) : entryFrame m #[(.ref x0)] 2 = mkF m 0 #[.val (.ref x0), .unset] [] := by first | (simp [entryFrame, mkF, argsToLocals, Value.category]; done) | rfl
def QrmD0 (Z : State) (g ct ob : Addr) (kc : ClassId) (tx : List Value) (cc : Nat → Int32) (oN kk M : Nat) (tf : Bool) (md dd oo : Int32) (i : Nat) (h0 : Heap) (n0 : Nat) (v : Option Value) (h : Heap) (L : List Loc) : Prop := v = some (.int 0) ∧ Fr n0 L ∧ Keep h0 h [g] ∧ own_G Z h g ct ob (own_P oN kk) md dd oo (own_P oN i)
theorem rmD0 (hw : own_HW Z a0) (Z0 : n0 ≤ h0.size) (Gq : own_G Z h0 g ct ob (own_P oN kk) md dd oo (own_P oN i)) (g_g : n0 ≤ g) (At : Arv Z h0 ct kc .char (52 : Int32) tx (.int 0)) (hT : ∀ i, i < 49 → tx.getD (oN + i) (.int 0) = .int (cc i)) (H : own_H oN kk md M tf cc) (hi60 : i ≤ 50) (hstop : kk ≤ i ∨ (i < kk ∧ own_dg (cc i) = 0)) :
  own_MF l "dev/parlance/JsonGrammar" "digits" "()Z" prog_6_method_9_code 2 (some .boolean) ⟨1, 0, 0, 12⟩ #[(.ref g)] Z h0 (QrmD0 Z g ct ob kc tx cc oN kk M tf md dd oo i h0 n0) := by
 refine own_fst (plainFor_of_name own_pn30) (own_ef30 · g) fun p e s m below meth c s₁ hy hml hZ hown hnm hrt hlk X0 e0 => ?_
 have N0 := Fr.nil n0
 have Kp0 : Keep h0 h0 [g] := Keep.refl h0 _
 obtain ⟨⟨Eg, Ft, Fe, Fm, Fo, Fd, Fp, Fa⟩, ho, hk49, ne_ct_g⟩ := own_gi hw Gq At H
 rcases hstop with hke | ⟨hke, hz⟩
 ·
  refine own_al X0 hy d30_0 rfl rfl ?_
  refine own_gf X0 hy hZ hown (host := "") (Or.inl (own_w hw 78 rfl)) Via.refl e0 Fa d30_1 fun T1 X1 e1 => ?_
  refine own_is X1 hy d30_4 (l' := #[.val (.ref g), .val (.int (own_P oN i))]) rfl ?_
  refine own_ae X1 hy hZ hown hw e1 Fa Fe a30_5 fun T2 X2 e2 => ?_
  refine own_cy X2 hy d30_13 44 (flt (own_Pge ho hk49 hke (by omega))).2.1 ?_
  refine own_al X2 hy d30_44 rfl rfl ?_
  refine own_gf X2 hy hZ hown (host := "") (Or.inl (own_w hw 78 rfl)) Via.refl e2 Fa d30_45 fun T3 X3 e3 => ?_
  refine own_il X3 hy d30_48 rfl ?_
  refine own_cy X3 hy d30_49 56 (flt (own_Pnl _)).2.2.2 ?_
  refine own_ic X3 hy d30_56 ?_
  exact own_rF X3 hy hrt hlk d30_57 e3 ⟨rfl, N0, Kp0, ⟨Eg, Ft, Fe, Fm, Fo, Fd, Fp, Fa⟩⟩
 ·
  refine own_al X0 hy d30_0 rfl rfl ?_
  refine own_gf X0 hy hZ hown (host := "") (Or.inl (own_w hw 78 rfl)) Via.refl e0 Fa d30_1 fun T4 X4 e4 => ?_
  refine own_is X4 hy d30_4 (l' := #[.val (.ref g), .val (.int (own_P oN i))]) rfl ?_
  refine own_ae X4 hy hZ hown hw e4 Fa Fe a30_5 fun T5 X5 e5 => ?_
  refine own_cn X5 hy d30_13 (tlt (own_Plt ho hk49 hke)).2.1 ?_
  refine own_tc X5 hy hZ hown hw e5 Ft Fa At ho hT (by omega) t30_16 fun T6 X6 e6 => ?_
  refine own_cs X6 hy hZ hown (own_y0 hw) (rmID hw (cc i) (0 : Int32) Z0 hz) e6 d30_25 own_pd0 hml fun v7 T7 L7 X7 hQ7 => ?_
  obtain ⟨rfl, N7q, e7⟩ := hQ7
  have N7 := Fr.app N0 N7q
  refine own_zy X7 hy d30_28 44 ((if0 _ _).trans (teq (by decide : ((0 : Int32) = (0 : Int32)))).1) ?_
  refine own_al X7 hy d30_44 rfl rfl ?_
  refine own_gf X7 hy hZ hown (host := "") (Or.inl (own_w hw 78 rfl)) Via.refl e7 Fa d30_45 fun T8 X8 e8 => ?_
  clear X4 e4 X5 e5 X6 e6 N7q X7 e7
  refine own_il X8 hy d30_48 rfl ?_
  refine own_cy X8 hy d30_49 56 (flt (own_Pnl _)).2.2.2 ?_
  refine own_ic X8 hy d30_56 ?_
  exact own_rF X8 hy hrt hlk d30_57 e8 ⟨rfl, N7, Kp0, ⟨Eg, Ft, Fe, Fm, Fo, Fd, Fp, Fa⟩⟩
theorem d30_31 : decode C30 31 = .ok (.aload_n 0, 1) := by decide +kernel
theorem d30_41 : decode C30 41 = .ok (.goto (-36), 3) := by decide +kernel
theorem d30_52 : decode C30 52 = .ok (.iconst 1, 1) := by decide +kernel
theorem d30_53 : decode C30 53 = .ok (.goto 4, 3) := by decide +kernel
def QrmD1 (Z : State) (g ct ob : Addr) (kc : ClassId) (tx : List Value) (cc : Nat → Int32) (oN kk M : Nat) (tf : Bool) (md dd oo : Int32) (i : Nat) (h0 : Heap) (n0 : Nat) (v : Option Value) (h : Heap) (L : List Loc) : Prop := v = some (.int 1) ∧ Fr n0 L ∧ Keep h0 h [g] ∧ own_G Z h g ct ob (own_P oN kk) md dd oo (own_P oN (i + 1))
theorem rmD1 (hw : own_HW Z a0) (Z0 : n0 ≤ h0.size) (Gq : own_G Z h0 g ct ob (own_P oN kk) md dd oo (own_P oN i)) (g_g : n0 ≤ g) (At : Arv Z h0 ct kc .char (52 : Int32) tx (.int 0)) (hT : ∀ i, i < 49 → tx.getD (oN + i) (.int 0) = .int (cc i)) (H : own_H oN kk md M tf cc) (hi60 : i ≤ 50) (hd0 : i < kk ∧ own_dg (cc i) = 1) (hstop : kk ≤ (i + 1) ∨ ((i + 1) < kk ∧ own_dg (cc (i + 1)) = 0)) :
  own_MF l "dev/parlance/JsonGrammar" "digits" "()Z" prog_6_method_9_code 2 (some .boolean) ⟨1, 0, 0, 12⟩ #[(.ref g)] Z h0 (QrmD1 Z g ct ob kc tx cc oN kk M tf md dd oo i h0 n0) := by
 refine own_fst (plainFor_of_name own_pn30) (own_ef30 · g) fun p e s m below meth c s₁ hy hml hZ hown hnm hrt hlk X0 e0 => ?_
 have N0 := Fr.nil n0
 have Kp0 : Keep h0 h0 [g] := Keep.refl h0 _
 obtain ⟨⟨Eg, Ft, Fe, Fm, Fo, Fd, Fp, Fa⟩, ho, hk49, ne_ct_g⟩ := own_gi hw Gq At H
 rcases hstop with hke | ⟨hke, hz⟩
 ·
  refine own_al X0 hy d30_0 rfl rfl ?_
  refine own_gf X0 hy hZ hown (host := "") (Or.inl (own_w hw 78 rfl)) Via.refl e0 Fa d30_1 fun T1 X1 e1 => ?_
  refine own_is X1 hy d30_4 (l' := #[.val (.ref g), .val (.int (own_P oN i))]) rfl ?_
  refine own_ae X1 hy hZ hown hw e1 Fa Fe a30_5 fun T2 X2 e2 => ?_
  refine own_cn X2 hy d30_13 (tlt (own_Plt ho hk49 hd0.1)).2.1 ?_
  refine own_tc X2 hy hZ hown hw e2 Ft Fa At ho hT (by omega) t30_16 fun T3 X3 e3 => ?_
  refine own_cs X3 hy hZ hown (own_y0 hw) (rmID hw (cc i) (1 : Int32) Z0 hd0.2) e3 d30_25 own_pd0 hml fun v4 T4 L4 X4 hQ4 => ?_
  obtain ⟨rfl, N4q, e4⟩ := hQ4
  have N4 := Fr.app N0 N4q
  refine own_zn X4 hy d30_28 ((if0 _ _).trans (feq (by decide : ¬ ((1 : Int32) = (0 : Int32)))).1) ?_
  refine own_inc X4 hy hZ hown hw e4 ⟨Eg, Ft, Fe, Fm, Fo, Fd, Fp, Fa⟩ i30_31 (i + 1) fun T5 h5 X5 e5 W5 ⟨_, Ft, Fe, Fm, Fo, Fd, Fp, Fa⟩ => ?_
  replace Eg := Eg.wr W5
  replace At := At.other W5 ne_ct_g
  have Z5 := own_zw Z0 W5
  have Kp5 := Kp0.wr W5 own_m0
  have N5 := Fr.snoc X5 N4 g_g
  clear X1 e1 X2 e2 X3 e3 N4 N4q X4 e4 W5
  refine own_gt X5 hy d30_41 5 ?_
  refine own_ae X5 hy hZ hown hw e5 Fa Fe a30_5 fun T6 X6 e6 => ?_
  refine own_cy X6 hy d30_13 44 (flt (own_Pge ho hk49 hke (by omega))).2.1 ?_
  refine own_al X6 hy d30_44 rfl rfl ?_
  refine own_gf X6 hy hZ hown (host := "") (Or.inl (own_w hw 78 rfl)) Via.refl e6 Fa d30_45 fun T7 X7 e7 => ?_
  refine own_il X7 hy d30_48 rfl ?_
  refine own_cn X7 hy d30_49 (tlt (own_Pgt ho (by omega) (by omega))).2.2.2 ?_
  refine own_ic X7 hy d30_52 ?_
  refine own_gt X7 hy d30_53 57 ?_
  exact own_rT X7 hy hrt hlk d30_57 e7 ⟨rfl, N5, Kp5, ⟨Eg, Ft, Fe, Fm, Fo, Fd, Fp, Fa⟩⟩
 ·
  refine own_al X0 hy d30_0 rfl rfl ?_
  refine own_gf X0 hy hZ hown (host := "") (Or.inl (own_w hw 78 rfl)) Via.refl e0 Fa d30_1 fun T8 X8 e8 => ?_
  refine own_is X8 hy d30_4 (l' := #[.val (.ref g), .val (.int (own_P oN i))]) rfl ?_
  refine own_ae X8 hy hZ hown hw e8 Fa Fe a30_5 fun T9 X9 e9 => ?_
  refine own_cn X9 hy d30_13 (tlt (own_Plt ho hk49 hd0.1)).2.1 ?_
  refine own_tc X9 hy hZ hown hw e9 Ft Fa At ho hT (by omega) t30_16 fun T10 X10 e10 => ?_
  refine own_cs X10 hy hZ hown (own_y0 hw) (rmID hw (cc i) (1 : Int32) Z0 hd0.2) e10 d30_25 own_pd0 hml fun v11 T11 L11 X11 hQ11 => ?_
  obtain ⟨rfl, N11q, e11⟩ := hQ11
  have N11 := Fr.app N0 N11q
  refine own_zn X11 hy d30_28 ((if0 _ _).trans (feq (by decide : ¬ ((1 : Int32) = (0 : Int32)))).1) ?_
  refine own_inc X11 hy hZ hown hw e11 ⟨Eg, Ft, Fe, Fm, Fo, Fd, Fp, Fa⟩ i30_31 (i + 1) fun T12 h12 X12 e12 W12 ⟨_, Ft, Fe, Fm, Fo, Fd, Fp, Fa⟩ => ?_
  replace Eg := Eg.wr W12
  replace At := At.other W12 ne_ct_g
  have Z12 := own_zw Z0 W12
  have Kp12 := Kp0.wr W12 own_m0
  have N12 := Fr.snoc X12 N11 g_g
  clear X8 e8 X9 e9 X10 e10 N11 N11q X11 e11 W12
  refine own_gt X12 hy d30_41 5 ?_
  refine own_ae X12 hy hZ hown hw e12 Fa Fe a30_5 fun T13 X13 e13 => ?_
  refine own_cn X13 hy d30_13 (tlt (own_Plt ho hk49 hke)).2.1 ?_
  refine own_tc X13 hy hZ hown hw e13 Ft Fa At ho hT (by omega) t30_16 fun T14 X14 e14 => ?_
  refine own_cs X14 hy hZ hown (own_y0 hw) (rmID hw (cc (i + 1)) (0 : Int32) Z12 hz) e14 d30_25 own_pd0 hml fun v15 T15 L15 X15 hQ15 => ?_
  obtain ⟨rfl, N15q, e15⟩ := hQ15
  have N15 := Fr.app N12 N15q
  clear X12 e12 N12 X13 e13 X14 e14 N15q
  refine own_zy X15 hy d30_28 44 ((if0 _ _).trans (teq (by decide : ((0 : Int32) = (0 : Int32)))).1) ?_
  refine own_al X15 hy d30_44 rfl rfl ?_
  refine own_gf X15 hy hZ hown (host := "") (Or.inl (own_w hw 78 rfl)) Via.refl e15 Fa d30_45 fun T16 X16 e16 => ?_
  refine own_il X16 hy d30_48 rfl ?_
  refine own_cn X16 hy d30_49 (tlt (own_Pgt ho (by omega) (by omega))).2.2.2 ?_
  refine own_ic X16 hy d30_52 ?_
  refine own_gt X16 hy d30_53 57 ?_
  exact own_rT X16 hy hrt hlk d30_57 e16 ⟨rfl, N15, Kp12, ⟨Eg, Ft, Fe, Fm, Fo, Fd, Fp, Fa⟩⟩
def QrmD2 (Z : State) (g ct ob : Addr) (kc : ClassId) (tx : List Value) (cc : Nat → Int32) (oN kk M : Nat) (tf : Bool) (md dd oo : Int32) (i : Nat) (h0 : Heap) (n0 : Nat) (v : Option Value) (h : Heap) (L : List Loc) : Prop := v = some (.int 1) ∧ Fr n0 L ∧ Keep h0 h [g] ∧ own_G Z h g ct ob (own_P oN kk) md dd oo (own_P oN (i + 2))
theorem rmD2 (hw : own_HW Z a0) (Z0 : n0 ≤ h0.size) (Gq : own_G Z h0 g ct ob (own_P oN kk) md dd oo (own_P oN i)) (g_g : n0 ≤ g) (At : Arv Z h0 ct kc .char (52 : Int32) tx (.int 0)) (hT : ∀ i, i < 49 → tx.getD (oN + i) (.int 0) = .int (cc i)) (H : own_H oN kk md M tf cc) (hi60 : i ≤ 50) (hd0 : i < kk ∧ own_dg (cc i) = 1) (hd1 : (i + 1) < kk ∧ own_dg (cc (i + 1)) = 1) (hstop : kk ≤ (i + 2) ∨ ((i + 2) < kk ∧ own_dg (cc (i + 2)) = 0)) :
  own_MF l "dev/parlance/JsonGrammar" "digits" "()Z" prog_6_method_9_code 2 (some .boolean) ⟨1, 0, 0, 12⟩ #[(.ref g)] Z h0 (QrmD2 Z g ct ob kc tx cc oN kk M tf md dd oo i h0 n0) := by
 refine own_fst (plainFor_of_name own_pn30) (own_ef30 · g) fun p e s m below meth c s₁ hy hml hZ hown hnm hrt hlk X0 e0 => ?_
 have N0 := Fr.nil n0
 have Kp0 : Keep h0 h0 [g] := Keep.refl h0 _
 obtain ⟨⟨Eg, Ft, Fe, Fm, Fo, Fd, Fp, Fa⟩, ho, hk49, ne_ct_g⟩ := own_gi hw Gq At H
 rcases hstop with hke | ⟨hke, hz⟩
 ·
  refine own_al X0 hy d30_0 rfl rfl ?_
  refine own_gf X0 hy hZ hown (host := "") (Or.inl (own_w hw 78 rfl)) Via.refl e0 Fa d30_1 fun T1 X1 e1 => ?_
  refine own_is X1 hy d30_4 (l' := #[.val (.ref g), .val (.int (own_P oN i))]) rfl ?_
  refine own_ae X1 hy hZ hown hw e1 Fa Fe a30_5 fun T2 X2 e2 => ?_
  refine own_cn X2 hy d30_13 (tlt (own_Plt ho hk49 hd0.1)).2.1 ?_
  refine own_tc X2 hy hZ hown hw e2 Ft Fa At ho hT (by omega) t30_16 fun T3 X3 e3 => ?_
  refine own_cs X3 hy hZ hown (own_y0 hw) (rmID hw (cc i) (1 : Int32) Z0 hd0.2) e3 d30_25 own_pd0 hml fun v4 T4 L4 X4 hQ4 => ?_
  obtain ⟨rfl, N4q, e4⟩ := hQ4
  have N4 := Fr.app N0 N4q
  refine own_zn X4 hy d30_28 ((if0 _ _).trans (feq (by decide : ¬ ((1 : Int32) = (0 : Int32)))).1) ?_
  refine own_inc X4 hy hZ hown hw e4 ⟨Eg, Ft, Fe, Fm, Fo, Fd, Fp, Fa⟩ i30_31 (i + 1) fun T5 h5 X5 e5 W5 ⟨_, Ft, Fe, Fm, Fo, Fd, Fp, Fa⟩ => ?_
  replace Eg := Eg.wr W5
  replace At := At.other W5 ne_ct_g
  have Z5 := own_zw Z0 W5
  have Kp5 := Kp0.wr W5 own_m0
  have N5 := Fr.snoc X5 N4 g_g
  clear X1 e1 X2 e2 X3 e3 N4 N4q X4 e4 W5
  refine own_gt X5 hy d30_41 5 ?_
  refine own_ae X5 hy hZ hown hw e5 Fa Fe a30_5 fun T6 X6 e6 => ?_
  refine own_cn X6 hy d30_13 (tlt (own_Plt ho hk49 hd1.1)).2.1 ?_
  refine own_tc X6 hy hZ hown hw e6 Ft Fa At ho hT (by omega) t30_16 fun T7 X7 e7 => ?_
  refine own_cs X7 hy hZ hown (own_y0 hw) (rmID hw (cc (i + 1)) (1 : Int32) Z5 hd1.2) e7 d30_25 own_pd0 hml fun v8 T8 L8 X8 hQ8 => ?_
  obtain ⟨rfl, N8q, e8⟩ := hQ8
  have N8 := Fr.app N5 N8q
  clear X5 e5 N5 X6 e6 X7 e7 N8q
  refine own_zn X8 hy d30_28 ((if0 _ _).trans (feq (by decide : ¬ ((1 : Int32) = (0 : Int32)))).1) ?_
  refine own_inc X8 hy hZ hown hw e8 ⟨Eg, Ft, Fe, Fm, Fo, Fd, Fp, Fa⟩ i30_31 (i + 2) fun T9 h9 X9 e9 W9 ⟨_, Ft, Fe, Fm, Fo, Fd, Fp, Fa⟩ => ?_
  replace Eg := Eg.wr W9
  replace At := At.other W9 ne_ct_g
  have Z9 := own_zw Z5 W9
  have Kp9 := Kp5.wr W9 own_m0
  have N9 := Fr.snoc X9 N8 g_g
  refine own_gt X9 hy d30_41 5 ?_
  refine own_ae X9 hy hZ hown hw e9 Fa Fe a30_5 fun T10 X10 e10 => ?_
  clear Z5 Kp5 N8 X8 e8 X9 e9 W9
  refine own_cy X10 hy d30_13 44 (flt (own_Pge ho hk49 hke (by omega))).2.1 ?_
  refine own_al X10 hy d30_44 rfl rfl ?_
  refine own_gf X10 hy hZ hown (host := "") (Or.inl (own_w hw 78 rfl)) Via.refl e10 Fa d30_45 fun T11 X11 e11 => ?_
  refine own_il X11 hy d30_48 rfl ?_
  refine own_cn X11 hy d30_49 (tlt (own_Pgt ho (by omega) (by omega))).2.2.2 ?_
  refine own_ic X11 hy d30_52 ?_
  refine own_gt X11 hy d30_53 57 ?_
  exact own_rT X11 hy hrt hlk d30_57 e11 ⟨rfl, N9, Kp9, ⟨Eg, Ft, Fe, Fm, Fo, Fd, Fp, Fa⟩⟩
 ·
  refine own_al X0 hy d30_0 rfl rfl ?_
  refine own_gf X0 hy hZ hown (host := "") (Or.inl (own_w hw 78 rfl)) Via.refl e0 Fa d30_1 fun T12 X12 e12 => ?_
  refine own_is X12 hy d30_4 (l' := #[.val (.ref g), .val (.int (own_P oN i))]) rfl ?_
  refine own_ae X12 hy hZ hown hw e12 Fa Fe a30_5 fun T13 X13 e13 => ?_
  refine own_cn X13 hy d30_13 (tlt (own_Plt ho hk49 hd0.1)).2.1 ?_
  refine own_tc X13 hy hZ hown hw e13 Ft Fa At ho hT (by omega) t30_16 fun T14 X14 e14 => ?_
  refine own_cs X14 hy hZ hown (own_y0 hw) (rmID hw (cc i) (1 : Int32) Z0 hd0.2) e14 d30_25 own_pd0 hml fun v15 T15 L15 X15 hQ15 => ?_
  obtain ⟨rfl, N15q, e15⟩ := hQ15
  have N15 := Fr.app N0 N15q
  refine own_zn X15 hy d30_28 ((if0 _ _).trans (feq (by decide : ¬ ((1 : Int32) = (0 : Int32)))).1) ?_
  refine own_inc X15 hy hZ hown hw e15 ⟨Eg, Ft, Fe, Fm, Fo, Fd, Fp, Fa⟩ i30_31 (i + 1) fun T16 h16 X16 e16 W16 ⟨_, Ft, Fe, Fm, Fo, Fd, Fp, Fa⟩ => ?_
  replace Eg := Eg.wr W16
  replace At := At.other W16 ne_ct_g
  have Z16 := own_zw Z0 W16
  have Kp16 := Kp0.wr W16 own_m0
  have N16 := Fr.snoc X16 N15 g_g
  clear X12 e12 X13 e13 X14 e14 N15 N15q X15 e15 W16
  refine own_gt X16 hy d30_41 5 ?_
  refine own_ae X16 hy hZ hown hw e16 Fa Fe a30_5 fun T17 X17 e17 => ?_
  refine own_cn X17 hy d30_13 (tlt (own_Plt ho hk49 hd1.1)).2.1 ?_
  refine own_tc X17 hy hZ hown hw e17 Ft Fa At ho hT (by omega) t30_16 fun T18 X18 e18 => ?_
  refine own_cs X18 hy hZ hown (own_y0 hw) (rmID hw (cc (i + 1)) (1 : Int32) Z16 hd1.2) e18 d30_25 own_pd0 hml fun v19 T19 L19 X19 hQ19 => ?_
  obtain ⟨rfl, N19q, e19⟩ := hQ19
  have N19 := Fr.app N16 N19q
  clear X16 e16 N16 X17 e17 X18 e18 N19q
  refine own_zn X19 hy d30_28 ((if0 _ _).trans (feq (by decide : ¬ ((1 : Int32) = (0 : Int32)))).1) ?_
  refine own_inc X19 hy hZ hown hw e19 ⟨Eg, Ft, Fe, Fm, Fo, Fd, Fp, Fa⟩ i30_31 (i + 2) fun T20 h20 X20 e20 W20 ⟨_, Ft, Fe, Fm, Fo, Fd, Fp, Fa⟩ => ?_
  replace Eg := Eg.wr W20
  replace At := At.other W20 ne_ct_g
  have Z20 := own_zw Z16 W20
  have Kp20 := Kp16.wr W20 own_m0
  have N20 := Fr.snoc X20 N19 g_g
  refine own_gt X20 hy d30_41 5 ?_
  refine own_ae X20 hy hZ hown hw e20 Fa Fe a30_5 fun T21 X21 e21 => ?_
  clear Z16 Kp16 N19 X19 e19 X20 e20 W20
  refine own_cn X21 hy d30_13 (tlt (own_Plt ho hk49 hke)).2.1 ?_
  refine own_tc X21 hy hZ hown hw e21 Ft Fa At ho hT (by omega) t30_16 fun T22 X22 e22 => ?_
  refine own_cs X22 hy hZ hown (own_y0 hw) (rmID hw (cc (i + 2)) (0 : Int32) Z20 hz) e22 d30_25 own_pd0 hml fun v23 T23 L23 X23 hQ23 => ?_
  obtain ⟨rfl, N23q, e23⟩ := hQ23
  have N23 := Fr.app N20 N23q
  refine own_zy X23 hy d30_28 44 ((if0 _ _).trans (teq (by decide : ((0 : Int32) = (0 : Int32)))).1) ?_
  refine own_al X23 hy d30_44 rfl rfl ?_
  refine own_gf X23 hy hZ hown (host := "") (Or.inl (own_w hw 78 rfl)) Via.refl e23 Fa d30_45 fun T24 X24 e24 => ?_
  clear N20 X21 e21 X22 e22 N23q X23 e23
  refine own_il X24 hy d30_48 rfl ?_
  refine own_cn X24 hy d30_49 (tlt (own_Pgt ho (by omega) (by omega))).2.2.2 ?_
  refine own_ic X24 hy d30_52 ?_
  refine own_gt X24 hy d30_53 57 ?_
  exact own_rT X24 hy hrt hlk d30_57 e24 ⟨rfl, N23, Kp20, ⟨Eg, Ft, Fe, Fm, Fo, Fd, Fp, Fa⟩⟩
theorem d29_0 : decode C29 0 = .ok (.aload_n 0, 1) := by decide +kernel
theorem d29_9 : decode C29 9 = .ok (.bipush 45, 2) := by decide +kernel
theorem d29_11 : decode C29 11 = .ok (.if_icmp .ne 13, 3) := by decide +kernel
theorem d29_14 : decode C29 14 = .ok (.aload_n 0, 1) := by decide +kernel
theorem d29_24 : decode C29 24 = .ok (.aload_n 0, 1) := by decide +kernel
theorem d29_32 : decode C29 32 = .ok (.if_icmp .ge 30, 3) := by decide +kernel
theorem d29_35 : decode C29 35 = .ok (.aload_n 0, 1) := by decide +kernel
theorem d29_44 : decode C29 44 = .ok (.bipush 48, 2) := by decide +kernel
theorem d29_46 : decode C29 46 = .ok (.if_icmp .ne 16, 3) := by decide +kernel
theorem d29_49 : decode C29 49 = .ok (.aload_n 0, 1) := by decide +kernel
theorem d29_50 : decode C29 50 = .ok (.dup, 1) := by decide +kernel
theorem d29_51 : decode C29 51 = .ok (.getfield 27, 3) := by decide +kernel
theorem d29_54 : decode C29 54 = .ok (.iconst 1, 1) := by decide +kernel
theorem d29_55 : decode C29 55 = .ok (.iadd, 1) := by decide +kernel
theorem d29_56 : decode C29 56 = .ok (.putfield 27, 3) := by decide +kernel
theorem d29_59 : decode C29 59 = .ok (.goto 12, 3) := by decide +kernel
theorem d29_62 : decode C29 62 = .ok (.aload_n 0, 1) := by decide +kernel
theorem d29_63 : decode C29 63 = .ok (.invokevirtual 88, 3) := by decide +kernel
theorem d29_66 : decode C29 66 = .ok (.ifCond .ne 5, 3) := by decide +kernel
theorem d29_69 : decode C29 69 = .ok (.iconst 0, 1) := by decide +kernel
theorem d29_70 : decode C29 70 = .ok (.ireturn, 1) := by decide +kernel
theorem d29_71 : decode C29 71 = .ok (.aload_n 0, 1) := by decide +kernel
theorem d29_79 : decode C29 79 = .ok (.if_icmp .ge 36, 3) := by decide +kernel
theorem d29_82 : decode C29 82 = .ok (.aload_n 0, 1) := by decide +kernel
theorem d29_91 : decode C29 91 = .ok (.bipush 46, 2) := by decide +kernel
theorem d29_93 : decode C29 93 = .ok (.if_icmp .ne 22, 3) := by decide +kernel
theorem d29_96 : decode C29 96 = .ok (.aload_n 0, 1) := by decide +kernel
theorem d29_106 : decode C29 106 = .ok (.aload_n 0, 1) := by decide +kernel
theorem d29_107 : decode C29 107 = .ok (.invokevirtual 88, 3) := by decide +kernel
theorem d29_110 : decode C29 110 = .ok (.ifCond .ne 5, 3) := by decide +kernel
theorem d29_113 : decode C29 113 = .ok (.iconst 0, 1) := by decide +kernel
theorem d29_114 : decode C29 114 = .ok (.ireturn, 1) := by decide +kernel
theorem d29_115 : decode C29 115 = .ok (.aload_n 0, 1) := by decide +kernel
theorem d29_123 : decode C29 123 = .ok (.if_icmp .ge 95, 3) := by decide +kernel
theorem d29_126 : decode C29 126 = .ok (.aload_n 0, 1) := by decide +kernel
theorem d29_135 : decode C29 135 = .ok (.bipush 101, 2) := by decide +kernel
theorem d29_137 : decode C29 137 = .ok (.if_icmp .eq 17, 3) := by decide +kernel
theorem d29_140 : decode C29 140 = .ok (.aload_n 0, 1) := by decide +kernel
theorem d29_141 : decode C29 141 = .ok (.getfield 13, 3) := by decide +kernel
theorem d29_144 : decode C29 144 = .ok (.aload_n 0, 1) := by decide +kernel
theorem d29_145 : decode C29 145 = .ok (.getfield 27, 3) := by decide +kernel
theorem d29_148 : decode C29 148 = .ok (.caload, 1) := by decide +kernel
theorem d29_149 : decode C29 149 = .ok (.bipush 69, 2) := by decide +kernel
theorem d29_151 : decode C29 151 = .ok (.if_icmp .ne 67, 3) := by decide +kernel
theorem d29_154 : decode C29 154 = .ok (.aload_n 0, 1) := by decide +kernel
theorem d29_164 : decode C29 164 = .ok (.aload_n 0, 1) := by decide +kernel
theorem d29_172 : decode C29 172 = .ok (.if_icmp .ge 41, 3) := by decide +kernel
theorem d29_175 : decode C29 175 = .ok (.aload_n 0, 1) := by decide +kernel
theorem d29_184 : decode C29 184 = .ok (.bipush 43, 2) := by decide +kernel
theorem d29_186 : decode C29 186 = .ok (.if_icmp .eq 17, 3) := by decide +kernel
theorem d29_189 : decode C29 189 = .ok (.aload_n 0, 1) := by decide +kernel
theorem d29_190 : decode C29 190 = .ok (.getfield 13, 3) := by decide +kernel
theorem d29_193 : decode C29 193 = .ok (.aload_n 0, 1) := by decide +kernel
theorem d29_194 : decode C29 194 = .ok (.getfield 27, 3) := by decide +kernel
theorem d29_197 : decode C29 197 = .ok (.caload, 1) := by decide +kernel
theorem d29_198 : decode C29 198 = .ok (.bipush 45, 2) := by decide +kernel
theorem d29_200 : decode C29 200 = .ok (.if_icmp .ne 13, 3) := by decide +kernel
theorem d29_203 : decode C29 203 = .ok (.aload_n 0, 1) := by decide +kernel
theorem d29_213 : decode C29 213 = .ok (.aload_n 0, 1) := by decide +kernel
theorem d29_214 : decode C29 214 = .ok (.invokevirtual 88, 3) := by decide +kernel
theorem d29_217 : decode C29 217 = .ok (.ireturn, 1) := by decide +kernel
theorem d29_218 : decode C29 218 = .ok (.iconst 1, 1) := by decide +kernel
theorem d29_219 : decode C29 219 = .ok (.ireturn, 1) := by decide +kernel
theorem own_pn29 : plainName "dev/parlance/JsonGrammar" = true := by first | (simp [plainName, overriddenIn]; done) | decide +kernel
theorem own_ef29 (m : MethodId) (x0 : Addr) : entryFrame m #[(.ref x0)] 1 = mkF m 0 #[.val (.ref x0)] [] := by first | (simp [entryFrame, mkF, argsToLocals, Value.category]; done) | rfl
def QrmNum (Z : State) (g ct ob : Addr) (kc : ClassId) (tx : List Value) (cc : Nat → Int32) (oN kk M : Nat) (tf : Bool) (md dd oo : Int32)  (h0 : Heap) (n0 : Nat) (v : Option Value) (h : Heap) (L : List Loc) : Prop := Fr n0 L ∧ Keep h0 h [g] ∧ ((23 ≤ M ∧ v = some (.int 1) ∧ own_G Z h g ct ob (own_P oN kk) md dd oo (own_P oN 23)) ∨ ((16 < M ∧ M < 23) ∧ v = some (.int 1) ∧ own_G Z h g ct ob (own_P oN kk) md dd oo (own_P oN M) ∧ (kk = M ∨ (M < kk ∧ own_bad M (cc M)))) ∨ (M < 23 ∧ v = some (.int 0) ∧ own_G Z h g ct ob (own_P oN kk) md dd oo (own_P oN M)))
theorem rmNum (hw : own_HW Z a0) (Z0 : n0 ≤ h0.size) (Gq : own_G Z h0 g ct ob (own_P oN kk) md dd oo (own_P oN 15)) (g_g : n0 ≤ g) (At : Arv Z h0 ct kc .char (52 : Int32) tx (.int 0)) (hT : ∀ i, i < 49 → tx.getD (oN + i) (.int 0) = .int (cc i)) (H : own_H oN kk md M tf cc) (hM0 : 15 < M) (hk15 : 15 < kk) (hg15 : cc 15 = 45) :
  own_MF l "dev/parlance/JsonGrammar" "number" "()Z" prog_6_method_8_code 1 (some .boolean) ⟨2, 0, 0, 25⟩ #[(.ref g)] Z h0 (QrmNum Z g ct ob kc tx cc oN kk M tf md dd oo h0 n0) := by
 refine own_fst (plainFor_of_name own_pn29) (own_ef29 · g) fun p e s m below meth c s₁ hy hml hZ hown hnm hrt hlk X0 e0 => ?_
 have N0 := Fr.nil n0
 have Kp0 : Keep h0 h0 [g] := Keep.refl h0 _
 obtain ⟨⟨Eg, Ft, Fe, Fm, Fo, Fd, Fp, Fa⟩, ho, hk49, ne_ct_g⟩ := own_gi hw Gq At H
 refine own_tc X0 hy hZ hown hw e0 Ft Fa At ho hT (by decide) t29_0 fun T1 X1 e1 => ?_
 refine own_bp X1 hy d29_9 ?_
 refine own_cn X1 hy d29_11 (teq (show cc 15 = 45 from hg15)).2 ?_
 refine own_inc X1 hy hZ hown hw e1 ⟨Eg, Ft, Fe, Fm, Fo, Fd, Fp, Fa⟩ i29_14 16 fun T2 h2 X2 e2 W2 ⟨_, Ft, Fe, Fm, Fo, Fd, Fp, Fa⟩ => ?_
 replace Eg := Eg.wr W2
 replace At := At.other W2 ne_ct_g
 have Z2 := own_zw Z0 W2
 have Kp2 := Kp0.wr W2 own_m0
 have N2 := Fr.snoc X2 N0 g_g
 refine own_ae X2 hy hZ hown hw e2 Fa Fe a29_24 fun T3 X3 e3 => ?_
 rcases own_at H 16 (by decide) hM0 (by decide) with ⟨hm16, hk16, hg16⟩ | ⟨hm16, hk16⟩ | ⟨hm16, hk16, hb16⟩
 ·
  refine own_cn X3 hy d29_32 (tlt (own_Plt ho hk49 hk16)).2.1 ?_
  refine own_tc X3 hy hZ hown hw e3 Ft Fa At ho hT (by decide) t29_35 fun T4 X4 e4 => ?_
  refine own_bp X4 hy d29_44 ?_
  obtain ⟨T5, ux5, ⟨L5, X5, N5, Kp5, Z5, ⟨Eg, Ft, Fe, Fm, Fo, Fd, Fp, Fa⟩, At, -, -⟩, st5⟩ : ∃ (T' : State) (_u : Unit), (∃ L' : List Loc, Stand p l e ⟨2, 0, 0, 25⟩ s m #[(.ref g)] below meth c T' L' 0 0 ∧ Fr n0 L' ∧ Keep h0 T'.heap [g] ∧ n0 ≤ T'.heap.size ∧ own_G Z T'.heap g ct ob (own_P oN kk) md dd oo (own_P oN 17) ∧ Arv Z T'.heap ct kc .char (52 : Int32) tx (.int 0) ∧ (17 < 48 ∧ 17 ≤ M)) ∧ ∀ t, Steps p.tables e below (T'.setTop (mkF m 71 #[.val (.ref g)] [])) t → Steps p.tables e below (T4.setTop (mkF m 46 #[.val (.ref g)] [(.int 48), (.int (cc 16))])) t := by
   by_cases hz16 : (cc 16) = (48 : Int32)
   ·
    refine own_via (fun _ kz => XS.icmpNo X4.here hy.1 rfl (hb hy.2 d29_46) rfl (teq hz16).2 kz) ?_
    refine own_via (fun _ kz => XS.aloadN X4.here hy.1 rfl (hb hy.2 d29_49) rfl rfl kz) ?_
    refine own_via (fun _ kz => XS.dup X4.here hy.1 rfl (hb hy.2 d29_50) rfl rfl kz) ?_
    obtain ⟨T6, X6, e6, st6⟩ := getF X4 hy.1 hZ hown (host := "") (Or.inl (own_w hw 78 rfl)) Via.refl e4 Fa (g := (mkF m 51 #[.val (.ref g)] [(.ref g), (.ref g)])) rfl rfl (hb hy.2 d29_51)
    refine own_via (A := T6.setTop (mkF m 54 #[.val (.ref g)] [(.int (own_P oN 16)), (.ref g)])) (fun _ kz => st6 _ kz) ?_
    clear X1 e1 X2 e2 W2 X3 e3 X4 e4 st6
    refine own_via (fun _ kz => XS.iconst X6.here hy.1 rfl (hb hy.2 d29_54) kz) ?_
    refine own_via (fun _ kz => XS.iadd X6.here hy.1 rfl (hb hy.2 d29_55) rfl kz) ?_
    obtain ⟨T7, h7, X7, e7, W7, st7⟩ := putF X6 hy.1 hZ hown (host := "") (Or.inl (own_w hw 78 rfl)) Via.refl e6 Fa Eg (Or.inl (own_w hw 79 rfl)) (own_w hw 54 rfl) (ty := .int) (by decide) rfl rfl (g := (mkF m 56 #[.val (.ref g)] [(.int ((own_P oN 16) + (1 : Int32))), (.ref g)])) rfl rfl (hb hy.2 d29_56)
    replace At := At.other W7 ne_ct_g
    have Z7 := own_zw Z2 W7
    have Kp7 := Kp2.wr W7 own_m0
    obtain ⟨Eg, Ft, Fe, Fm, Fo, Fd, Fp, Fa⟩ := own_Gat hw ⟨Eg, Ft, Fe, Fm, Fo, Fd, Fp, Fa⟩ W7 (own_Ps oN 16)
    have N7 := Fr.snoc X7 N2 g_g
    refine own_via (A := T7.setTop (mkF m 59 #[.val (.ref g)] [])) (fun _ kz => st7 _ kz) ?_
    refine own_via (fun _ kz => XS.goto X7.here hy.1 rfl (pc0 := 59) (pc' := 71) rfl (hb hy.2 d29_59) (by decide) (by decide) kz) ?_
    exact ⟨T7, (), ⟨_, X7, N7, by rw [e7]; exact Kp7, by rw [e7]; exact Z7, by rw [e7]; exact ⟨Eg, Ft, Fe, Fm, Fo, Fd, Fp, Fa⟩, by rw [e7]; exact At, by decide, hm16⟩, fun _ kz => kz⟩
   ·
    rcases own_at H 17 (by decide) hm16 (by decide) with ⟨hm17, hk17, hg17⟩ | ⟨hm17, hk17⟩ | ⟨hm17, hk17, hb17⟩
    ·
     refine own_via (fun _ kz => XS.icmpYes X4.here hy.1 rfl (pc0 := 46) (pc' := 62) rfl (hb hy.2 d29_46) rfl (feq hz16).2 (by decide) (by decide) kz) ?_
     refine own_via (fun _ kz => XS.aloadN X4.here hy.1 rfl (hb hy.2 d29_62) rfl rfl kz) ?_
     obtain ⟨cq8, q8, q8'⟩ := Eg.cell
     obtain ⟨_, _, ⟨T8, L8, k8, n8⟩, -, X8, ⟨Lc8, hQ8, l8, y8, z8⟩, st8⟩ := X4.privateBack hy.1 (y := (⟨"dev/parlance/JsonGrammar", "digits", "()Z"⟩ : MethodName)) hown (mvT hZ (own_w hw 151 rfl)) (mvT hZ (own_w hw 152 rfl)) (mvT hZ (own_selp (y := (⟨"dev/parlance/JsonGrammar", "digits", "()Z"⟩ : MethodName)) (own_w hw 54 rfl) (own_w hw 153 rfl) (own_w hw 152 rfl) (by decide))) (Cond.privateMethod_at (mvP hZ (own_w hw 153 rfl) (args := #[]))) (mvT hZ (own_w hw 154 rfl)) (by decide) (backOf (W := 0) (rmD1 hw Z2 ⟨Eg, Ft, Fe, Fm, Fo, Fd, Fp, Fa⟩ g_g At hT H (by decide) ⟨hk16, hg16⟩ (Or.inr ⟨hk17, own_ldg (L := 46) hg17 (by decide)⟩)) hZ (own_w hw 154 rfl) (own_w hw 55 rfl) (by decide) (by decide)) (g := (mkF m 63 #[.val (.ref g)] [(.ref g)])) rfl (by rw [hml]; rfl) (Steps.refl _) (a := g) (by rw [e4]; exact q8) q8' (argsL := []) (rest := []) (lenOf own_pd3 rfl) rfl (by show 2 * 0 + _ ≤ _; exact Nat.le_of_eq rfl) (hb hy.2 d29_63) (fun _ _ => ⟨rfl, e4, (by decide : 0 + 0 ≤ _), (by decide : 0 + 0 ≤ _)⟩)
     dsimp only [Pt.U, Pt.locs, Pt.cells, Pt.slots] at X8 l8 y8 z8 st8 hQ8
     subst l8 y8 z8
     obtain ⟨rfl, N8q, K8q, ⟨_, Ft8, Fe8, Fm8, Fo8, Fd8, Fp8, Fa8⟩⟩ := hQ8
     have N8 := Fr.app N2 N8q
     replace Eg := Eg.keep K8q
     replace At := At.keep K8q (ninS ne_ct_g nin0)
     have Z8 := Nat.le_trans Z2 K8q.1
     have Kp8 := Kp2.trans K8q (allS own_m0 (all0))
     refine own_via (A := T8.setTop (mkF m 66 #[.val (.ref g)] [(.int 1)])) (fun _ kz => st8.trans kz) ?_
     clear X1 e1 X2 e2 W2 N2 Z2 Kp2 X3 e3 X4 e4 N8q st8
     refine own_via (fun _ kz => XS.ifYes X8.here hy.1 rfl (pc0 := 66) (pc' := 71) rfl (hb hy.2 d29_66) rfl ((if0 _ _).trans (feq (by decide : ¬ ((1 : Int32) = (0 : Int32)))).2) (by decide) (by decide) kz) ?_
     exact ⟨T8, (), ⟨_, X8, N8, Kp8, Z8, ⟨Eg, Ft8, Fe8, Fm8, Fo8, Fd8, Fp8, Fa8⟩, At, by decide, hm16⟩, fun _ kz => kz⟩
    ·
     refine own_via (fun _ kz => XS.icmpYes X4.here hy.1 rfl (pc0 := 46) (pc' := 62) rfl (hb hy.2 d29_46) rfl (feq hz16).2 (by decide) (by decide) kz) ?_
     refine own_via (fun _ kz => XS.aloadN X4.here hy.1 rfl (hb hy.2 d29_62) rfl rfl kz) ?_
     obtain ⟨cq9, q9, q9'⟩ := Eg.cell
     obtain ⟨_, _, ⟨T9, L9, k9, n9⟩, -, X9, ⟨Lc9, hQ9, l9, y9, z9⟩, st9⟩ := X4.privateBack hy.1 (y := (⟨"dev/parlance/JsonGrammar", "digits", "()Z"⟩ : MethodName)) hown (mvT hZ (own_w hw 151 rfl)) (mvT hZ (own_w hw 152 rfl)) (mvT hZ (own_selp (y := (⟨"dev/parlance/JsonGrammar", "digits", "()Z"⟩ : MethodName)) (own_w hw 54 rfl) (own_w hw 153 rfl) (own_w hw 152 rfl) (by decide))) (Cond.privateMethod_at (mvP hZ (own_w hw 153 rfl) (args := #[]))) (mvT hZ (own_w hw 154 rfl)) (by decide) (backOf (W := 0) (rmD1 hw Z2 ⟨Eg, Ft, Fe, Fm, Fo, Fd, Fp, Fa⟩ g_g At hT H (by decide) ⟨hk16, hg16⟩ (Or.inl (Nat.le_of_eq hk17))) hZ (own_w hw 154 rfl) (own_w hw 55 rfl) (by decide) (by decide)) (g := (mkF m 63 #[.val (.ref g)] [(.ref g)])) rfl (by rw [hml]; rfl) (Steps.refl _) (a := g) (by rw [e4]; exact q9) q9' (argsL := []) (rest := []) (lenOf own_pd3 rfl) rfl (by show 2 * 0 + _ ≤ _; exact Nat.le_of_eq rfl) (hb hy.2 d29_63) (fun _ _ => ⟨rfl, e4, (by decide : 0 + 0 ≤ _), (by decide : 0 + 0 ≤ _)⟩)
     dsimp only [Pt.U, Pt.locs, Pt.cells, Pt.slots] at X9 l9 y9 z9 st9 hQ9
     subst l9 y9 z9
     obtain ⟨rfl, N9q, K9q, ⟨_, Ft9, Fe9, Fm9, Fo9, Fd9, Fp9, Fa9⟩⟩ := hQ9
     have N9 := Fr.app N2 N9q
     replace Eg := Eg.keep K9q
     replace At := At.keep K9q (ninS ne_ct_g nin0)
     have Z9 := Nat.le_trans Z2 K9q.1
     have Kp9 := Kp2.trans K9q (allS own_m0 (all0))
     refine own_via (A := T9.setTop (mkF m 66 #[.val (.ref g)] [(.int 1)])) (fun _ kz => st9.trans kz) ?_
     clear X1 e1 X2 e2 W2 N2 Z2 Kp2 X3 e3 X4 e4 N9q st9
     refine own_via (fun _ kz => XS.ifYes X9.here hy.1 rfl (pc0 := 66) (pc' := 71) rfl (hb hy.2 d29_66) rfl ((if0 _ _).trans (feq (by decide : ¬ ((1 : Int32) = (0 : Int32)))).2) (by decide) (by decide) kz) ?_
     exact ⟨T9, (), ⟨_, X9, N9, Kp9, Z9, ⟨Eg, Ft9, Fe9, Fm9, Fo9, Fd9, Fp9, Fa9⟩, At, by decide, hm16⟩, fun _ kz => kz⟩
    ·
     refine own_via (fun _ kz => XS.icmpYes X4.here hy.1 rfl (pc0 := 46) (pc' := 62) rfl (hb hy.2 d29_46) rfl (feq hz16).2 (by decide) (by decide) kz) ?_
     refine own_via (fun _ kz => XS.aloadN X4.here hy.1 rfl (hb hy.2 d29_62) rfl rfl kz) ?_
     obtain ⟨cq10, q10, q10'⟩ := Eg.cell
     obtain ⟨_, _, ⟨T10, L10, k10, n10⟩, -, X10, ⟨Lc10, hQ10, l10, y10, z10⟩, st10⟩ := X4.privateBack hy.1 (y := (⟨"dev/parlance/JsonGrammar", "digits", "()Z"⟩ : MethodName)) hown (mvT hZ (own_w hw 151 rfl)) (mvT hZ (own_w hw 152 rfl)) (mvT hZ (own_selp (y := (⟨"dev/parlance/JsonGrammar", "digits", "()Z"⟩ : MethodName)) (own_w hw 54 rfl) (own_w hw 153 rfl) (own_w hw 152 rfl) (by decide))) (Cond.privateMethod_at (mvP hZ (own_w hw 153 rfl) (args := #[]))) (mvT hZ (own_w hw 154 rfl)) (by decide) (backOf (W := 0) (rmD1 hw Z2 ⟨Eg, Ft, Fe, Fm, Fo, Fd, Fp, Fa⟩ g_g At hT H (by decide) ⟨hk16, hg16⟩ (Or.inr ⟨hk17, own_bdg hb17⟩)) hZ (own_w hw 154 rfl) (own_w hw 55 rfl) (by decide) (by decide)) (g := (mkF m 63 #[.val (.ref g)] [(.ref g)])) rfl (by rw [hml]; rfl) (Steps.refl _) (a := g) (by rw [e4]; exact q10) q10' (argsL := []) (rest := []) (lenOf own_pd3 rfl) rfl (by show 2 * 0 + _ ≤ _; exact Nat.le_of_eq rfl) (hb hy.2 d29_63) (fun _ _ => ⟨rfl, e4, (by decide : 0 + 0 ≤ _), (by decide : 0 + 0 ≤ _)⟩)
     dsimp only [Pt.U, Pt.locs, Pt.cells, Pt.slots] at X10 l10 y10 z10 st10 hQ10
     subst l10 y10 z10
     obtain ⟨rfl, N10q, K10q, ⟨_, Ft10, Fe10, Fm10, Fo10, Fd10, Fp10, Fa10⟩⟩ := hQ10
     have N10 := Fr.app N2 N10q
     replace Eg := Eg.keep K10q
     replace At := At.keep K10q (ninS ne_ct_g nin0)
     have Z10 := Nat.le_trans Z2 K10q.1
     have Kp10 := Kp2.trans K10q (allS own_m0 (all0))
     refine own_via (A := T10.setTop (mkF m 66 #[.val (.ref g)] [(.int 1)])) (fun _ kz => st10.trans kz) ?_
     clear X1 e1 X2 e2 W2 N2 Z2 Kp2 X3 e3 X4 e4 N10q st10
     refine own_via (fun _ kz => XS.ifYes X10.here hy.1 rfl (pc0 := 66) (pc' := 71) rfl (hb hy.2 d29_66) rfl ((if0 _ _).trans (feq (by decide : ¬ ((1 : Int32) = (0 : Int32)))).2) (by decide) (by decide) kz) ?_
     exact ⟨T10, (), ⟨_, X10, N10, Kp10, Z10, ⟨Eg, Ft10, Fe10, Fm10, Fo10, Fd10, Fp10, Fa10⟩, At, by decide, hm16⟩, fun _ kz => kz⟩
  refine own_go (A := T5.setTop (mkF m 71 #[.val (.ref g)] [])) (fun _ kz => st5 _ kz) ?_
  refine own_ae X5 hy hZ hown hw rfl Fa Fe a29_71 fun T11 X11 e11 => ?_
  clear X1 e1 X2 e2 W2 N2 Z2 Kp2 X3 e3 X4 e4
  rcases own_at H 17 (by decide) hm16 (by decide) with ⟨hm17, hk17, hg17⟩ | ⟨hm17, hk17⟩ | ⟨hm17, hk17, hb17⟩
  ·
   refine own_cn X11 hy d29_79 (tlt (own_Plt ho hk49 hk17)).2.1 ?_
   refine own_tc X11 hy hZ hown hw e11 Ft Fa At ho hT (by decide) t29_82 fun T12 X12 e12 => ?_
   refine own_bp X12 hy d29_91 ?_
   refine own_cn X12 hy d29_93 (teq (show cc 17 = 46 from hg17)).2 ?_
   refine own_inc X12 hy hZ hown hw e12 ⟨Eg, Ft, Fe, Fm, Fo, Fd, Fp, Fa⟩ i29_96 18 fun T13 h13 X13 e13 W13 ⟨_, Ft, Fe, Fm, Fo, Fd, Fp, Fa⟩ => ?_
   replace Eg := Eg.wr W13
   replace At := At.other W13 ne_ct_g
   have Z13 := own_zw Z5 W13
   have Kp13 := Kp5.wr W13 own_m0
   have N13 := Fr.snoc X13 N5 g_g
   refine own_al X13 hy d29_106 rfl rfl ?_
   rcases own_at H 18 (by decide) hm17 (by decide) with ⟨hm18, hk18, hg18⟩ | ⟨hm18, hk18⟩ | ⟨hm18, hk18, hb18⟩
   ·
    rcases own_at H 19 (by decide) hm18 (by decide) with ⟨hm19, hk19, hg19⟩ | ⟨hm19, hk19⟩ | ⟨hm19, hk19, hb19⟩
    ·
     refine own_cp X13 hy hZ hown (own_y13 hw) (rmD1 hw Z13 ⟨Eg, Ft, Fe, Fm, Fo, Fd, Fp, Fa⟩ g_g At hT H (by decide) ⟨hk18, hg18⟩ (Or.inr ⟨hk19, own_edg hg19⟩)) e13 Eg d29_107 own_pd3 hml fun v14 T14 L14 X14 hQ14 => ?_
     obtain ⟨rfl, N14q, K14q, ⟨_, Ft14, Fe14, Fm14, Fo14, Fd14, Fp14, Fa14⟩⟩ := hQ14
     have N14 := Fr.app N13 N14q
     replace Eg := Eg.keep K14q
     replace At := At.keep K14q (ninS ne_ct_g nin0)
     have Z14 := Nat.le_trans Z13 K14q.1
     have Kp14 := Kp13.trans K14q (allS own_m0 (all0))
     clear X11 e11 X12 e12 X13 e13 W13 N13 Z13 Kp13 N14q
     refine own_zy X14 hy d29_110 115 ((if0 _ _).trans (feq (by decide : ¬ ((1 : Int32) = (0 : Int32)))).2) ?_
     refine own_ae X14 hy hZ hown hw rfl Fa14 Fe14 a29_115 fun T15 X15 e15 => ?_
     refine own_cn X15 hy d29_123 (tlt (own_Plt ho hk49 hk19)).2.1 ?_
     refine own_tc X15 hy hZ hown hw e15 Ft14 Fa14 At ho hT (by decide) t29_126 fun T16 X16 e16 => ?_
     refine own_bp X16 hy d29_135 ?_
     obtain ⟨T17, ux17, ⟨L17, X17, N17, e17⟩, st17⟩ : ∃ (T' : State) (_u : Unit), (∃ L' : List Loc, Stand p l e ⟨2, 0, 0, 25⟩ s m #[(.ref g)] below meth c T' L' 0 0 ∧ Fr n0 L' ∧ T'.heap = T14.heap) ∧ ∀ t, Steps p.tables e below (T'.setTop (mkF m 154 #[.val (.ref g)] [])) t → Steps p.tables e below (T16.setTop (mkF m 137 #[.val (.ref g)] [(.int 101), (.int (cc 19))])) t := by
      rcases hg19 with hg19 | hg19
      ·
       refine own_via (fun _ kz => XS.icmpYes X16.here hy.1 rfl (pc0 := 137) (pc' := 154) rfl (hb hy.2 d29_137) rfl (teq (show cc 19 = 101 from hg19)).1 (by decide) (by decide) kz) ?_
       exact ⟨T16, (), ⟨_, X16, N14, e16⟩, fun _ kz => kz⟩
      ·
       refine own_via (fun _ kz => XS.icmpNo X16.here hy.1 rfl (hb hy.2 d29_137) rfl (feq (by rw [show cc 19 = 69 from hg19]; decide)).1 kz) ?_
       refine own_via (fun _ kz => XS.aloadN X16.here hy.1 rfl (hb hy.2 d29_140) rfl rfl kz) ?_
       obtain ⟨T18, X18, e18, st18⟩ := getF X16 hy.1 hZ hown (host := "") (Or.inl (own_w hw 65 rfl)) Via.refl e16 Ft14 (g := (mkF m 141 #[.val (.ref g)] [(.ref g)])) rfl rfl (hb hy.2 d29_141)
       refine own_via (A := T18.setTop (mkF m 144 #[.val (.ref g)] [(.ref ct)])) (fun _ kz => st18 _ kz) ?_
       refine own_via (fun _ kz => XS.aloadN X18.here hy.1 rfl (hb hy.2 d29_144) rfl rfl kz) ?_
       obtain ⟨T19, X19, e19, st19⟩ := getF X18 hy.1 hZ hown (host := "") (Or.inl (own_w hw 78 rfl)) Via.refl e18 Fa14 (g := (mkF m 145 #[.val (.ref g)] [(.ref g), (.ref ct)])) rfl rfl (hb hy.2 d29_145)
       refine own_via (A := T19.setTop (mkF m 148 #[.val (.ref g)] [(.int (own_P oN 19)), (.ref ct)])) (fun _ kz => st19 _ kz) ?_
       clear X14 X15 e15 X16 e16 X18 st18 e18 st19
       obtain ⟨cl20, Ar20, -, S20, M20, H20, -⟩ := id At
       have hin20 : ¬ ((own_P oN 19) < 0 ∨ cl20.slots.size ≤ ((own_P oN 19)).toNatClampNeg) := inb_of S20 (own_Pin ho (by decide))
       have hat20 : cl20.slots[((own_P oN 19)).toNatClampNeg]? = some (.int (cc 19)) := H20.at hin20 (own_Prd ho hT (by decide))
       refine own_via (A := T19.setTop (mkF m 149 #[.val (.ref g)] [(.int (cc 19))])) (fun _ kz => ?_) ?_
       ·
        refine X19.caload hy.1 (j := (own_P oN 19)) (v := (.int (cc 19))) (by rw [e19]; exact Ar20.1) (State.isArrayOf_alike hZ.alike Ar20.2.1) Ar20.2.2 hin20 hat20 (g := (mkF m 148 #[.val (.ref g)] [(.int (own_P oN 19)), (.ref ct)])) rfl rfl (hb hy.2 d29_148) _ ?_
        exact kz
       refine own_via (fun _ kz => XS.bipush X19.here hy.1 rfl (hb hy.2 d29_149) kz) ?_
       refine own_via (fun _ kz => XS.icmpNo X19.here hy.1 rfl (hb hy.2 d29_151) rfl (teq (show cc 19 = 69 from hg19)).2 kz) ?_
       exact ⟨T19, (), ⟨_, X19, N14, e19⟩, fun _ kz => kz⟩
     refine own_go (A := T17.setTop (mkF m 154 #[.val (.ref g)] [])) (fun _ kz => st17 _ kz) ?_
     refine own_inc X17 hy hZ hown hw e17 ⟨Eg, Ft14, Fe14, Fm14, Fo14, Fd14, Fp14, Fa14⟩ i29_154 20 fun T21 h21 X21 e21 W21 ⟨_, Ft, Fe, Fm, Fo, Fd, Fp, Fa⟩ => ?_
     replace Eg := Eg.wr W21
     replace At := At.other W21 ne_ct_g
     have Z21 := own_zw Z14 W21
     have Kp21 := Kp14.wr W21 own_m0
     have N21 := Fr.snoc X21 N17 g_g
     refine own_ae X21 hy hZ hown hw e21 Fa Fe a29_164 fun T22 X22 e22 => ?_
     clear N14 X14 X15 e15 X16 e16 X21 e21 W21
     rcases own_at H 20 (by decide) hm19 (by decide) with ⟨hm20, hk20, hg20⟩ | ⟨hm20, hk20⟩ | ⟨hm20, hk20, hb20⟩
     ·
      refine own_cn X22 hy d29_172 (tlt (own_Plt ho hk49 hk20)).2.1 ?_
      refine own_tc X22 hy hZ hown hw e22 Ft Fa At ho hT (by decide) t29_175 fun T23 X23 e23 => ?_
      refine own_bp X23 hy d29_184 ?_
      obtain ⟨T24, ux24, ⟨L24, X24, N24, e24⟩, st24⟩ : ∃ (T' : State) (_u : Unit), (∃ L' : List Loc, Stand p l e ⟨2, 0, 0, 25⟩ s m #[(.ref g)] below meth c T' L' 0 0 ∧ Fr n0 L' ∧ T'.heap = h21) ∧ ∀ t, Steps p.tables e below (T'.setTop (mkF m 203 #[.val (.ref g)] [])) t → Steps p.tables e below (T23.setTop (mkF m 186 #[.val (.ref g)] [(.int 43), (.int (cc 20))])) t := by
       rcases hg20 with hg20 | hg20
       ·
        refine own_via (fun _ kz => XS.icmpYes X23.here hy.1 rfl (pc0 := 186) (pc' := 203) rfl (hb hy.2 d29_186) rfl (teq (show cc 20 = 43 from hg20)).1 (by decide) (by decide) kz) ?_
        exact ⟨T23, (), ⟨_, X23, N21, e23⟩, fun _ kz => kz⟩
       ·
        refine own_via (fun _ kz => XS.icmpNo X23.here hy.1 rfl (hb hy.2 d29_186) rfl (feq (by rw [show cc 20 = 45 from hg20]; decide)).1 kz) ?_
        refine own_via (A := T23.setTop (mkF m 189 #[.val (.ref g)] [])) (fun _ kz => kz) ?_
        refine own_via (fun _ kz => XS.aloadN X23.here hy.1 rfl (hb hy.2 d29_189) rfl rfl kz) ?_
        obtain ⟨T25, X25, e25, st25⟩ := getF X23 hy.1 hZ hown (host := "") (Or.inl (own_w hw 65 rfl)) Via.refl e23 Ft (g := (mkF m 190 #[.val (.ref g)] [(.ref g)])) rfl rfl (hb hy.2 d29_190)
        refine own_via (A := T25.setTop (mkF m 193 #[.val (.ref g)] [(.ref ct)])) (fun _ kz => st25 _ kz) ?_
        refine own_via (fun _ kz => XS.aloadN X25.here hy.1 rfl (hb hy.2 d29_193) rfl rfl kz) ?_
        obtain ⟨T26, X26, e26, st26⟩ := getF X25 hy.1 hZ hown (host := "") (Or.inl (own_w hw 78 rfl)) Via.refl e25 Fa (g := (mkF m 194 #[.val (.ref g)] [(.ref g), (.ref ct)])) rfl rfl (hb hy.2 d29_194)
        refine own_via (A := T26.setTop (mkF m 197 #[.val (.ref g)] [(.int (own_P oN 20)), (.ref ct)])) (fun _ kz => st26 _ kz) ?_
        clear X22 e22 X23 e23 X25 st25 e25 st26
        obtain ⟨cl27, Ar27, -, S27, M27, H27, -⟩ := id At
        have hin27 : ¬ ((own_P oN 20) < 0 ∨ cl27.slots.size ≤ ((own_P oN 20)).toNatClampNeg) := inb_of S27 (own_Pin ho (by decide))
        have hat27 : cl27.slots[((own_P oN 20)).toNatClampNeg]? = some (.int (cc 20)) := H27.at hin27 (own_Prd ho hT (by decide))
        refine own_via (A := T26.setTop (mkF m 198 #[.val (.ref g)] [(.int (cc 20))])) (fun _ kz => ?_) ?_
        ·
         refine X26.caload hy.1 (j := (own_P oN 20)) (v := (.int (cc 20))) (by rw [e26]; exact Ar27.1) (State.isArrayOf_alike hZ.alike Ar27.2.1) Ar27.2.2 hin27 hat27 (g := (mkF m 197 #[.val (.ref g)] [(.int (own_P oN 20)), (.ref ct)])) rfl rfl (hb hy.2 d29_197) _ ?_
         exact kz
        refine own_via (fun _ kz => XS.bipush X26.here hy.1 rfl (hb hy.2 d29_198) kz) ?_
        refine own_via (fun _ kz => XS.icmpNo X26.here hy.1 rfl (hb hy.2 d29_200) rfl (teq (show cc 20 = 45 from hg20)).2 kz) ?_
        exact ⟨T26, (), ⟨_, X26, N21, e26⟩, fun _ kz => kz⟩
      refine own_go (A := T24.setTop (mkF m 203 #[.val (.ref g)] [])) (fun _ kz => st24 _ kz) ?_
      refine own_inc X24 hy hZ hown hw e24 ⟨Eg, Ft, Fe, Fm, Fo, Fd, Fp, Fa⟩ i29_203 21 fun T28 h28 X28 e28 W28 ⟨_, Ft, Fe, Fm, Fo, Fd, Fp, Fa⟩ => ?_
      replace Eg := Eg.wr W28
      replace At := At.other W28 ne_ct_g
      have Z28 := own_zw Z21 W28
      have Kp28 := Kp21.wr W28 own_m0
      have N28 := Fr.snoc X28 N24 g_g
      clear N21 Z21 Kp21 X22 e22 X23 e23 W28
      refine own_al X28 hy d29_213 rfl rfl ?_
      rcases own_at H 21 (by decide) hm20 (by decide) with ⟨hm21, hk21, hg21⟩ | ⟨hm21, hk21⟩ | ⟨hm21, hk21, hb21⟩
      ·
       rcases own_at H 22 (by decide) hm21 (by decide) with ⟨hm22, hk22, hg22⟩ | ⟨hm22, hk22⟩ | ⟨hm22, hk22, hb22⟩
       ·
        rcases own_at H 23 (by decide) hm22 (by decide) with ⟨hm23, hk23, hg23⟩ | ⟨hm23, hk23⟩ | ⟨hm23, hk23, hb23⟩
        ·
         refine own_cp X28 hy hZ hown (own_y13 hw) (rmD2 hw Z28 ⟨Eg, Ft, Fe, Fm, Fo, Fd, Fp, Fa⟩ g_g At hT H (by decide) ⟨hk21, hg21⟩ ⟨hk22, hg22⟩ (Or.inr ⟨hk23, own_ldg (L := 44) hg23 (by decide)⟩)) e28 Eg d29_214 own_pd3 hml fun v29 T29 L29 X29 hQ29 => ?_
         obtain ⟨rfl, N29q, K29q, ⟨_, Ft29, Fe29, Fm29, Fo29, Fd29, Fp29, Fa29⟩⟩ := hQ29
         have N29 := Fr.app N28 N29q
         replace Eg := Eg.keep K29q
         replace At := At.keep K29q (ninS ne_ct_g nin0)
         have Z29 := Nat.le_trans Z28 K29q.1
         have Kp29 := Kp28.trans K29q (allS own_m0 (all0))
         exact own_rT X29 hy hrt hlk d29_217 rfl ⟨N29, Kp29, Or.inl ⟨hm22, rfl, ⟨Eg, Ft29, Fe29, Fm29, Fo29, Fd29, Fp29, Fa29⟩⟩⟩
        ·
         refine own_cp X28 hy hZ hown (own_y13 hw) (rmD2 hw Z28 ⟨Eg, Ft, Fe, Fm, Fo, Fd, Fp, Fa⟩ g_g At hT H (by decide) ⟨hk21, hg21⟩ ⟨hk22, hg22⟩ (Or.inl (Nat.le_of_eq hk23))) e28 Eg d29_214 own_pd3 hml fun v30 T30 L30 X30 hQ30 => ?_
         obtain ⟨rfl, N30q, K30q, ⟨_, Ft30, Fe30, Fm30, Fo30, Fd30, Fp30, Fa30⟩⟩ := hQ30
         have N30 := Fr.app N28 N30q
         replace Eg := Eg.keep K30q
         replace At := At.keep K30q (ninS ne_ct_g nin0)
         have Z30 := Nat.le_trans Z28 K30q.1
         have Kp30 := Kp28.trans K30q (allS own_m0 (all0))
         exact own_rT X30 hy hrt hlk d29_217 rfl ⟨N30, Kp30, Or.inl ⟨hm22, rfl, ⟨Eg, Ft30, Fe30, Fm30, Fo30, Fd30, Fp30, Fa30⟩⟩⟩
        ·
         refine own_cp X28 hy hZ hown (own_y13 hw) (rmD2 hw Z28 ⟨Eg, Ft, Fe, Fm, Fo, Fd, Fp, Fa⟩ g_g At hT H (by decide) ⟨hk21, hg21⟩ ⟨hk22, hg22⟩ (Or.inr ⟨hk23, own_bdg hb23⟩)) e28 Eg d29_214 own_pd3 hml fun v31 T31 L31 X31 hQ31 => ?_
         obtain ⟨rfl, N31q, K31q, ⟨_, Ft31, Fe31, Fm31, Fo31, Fd31, Fp31, Fa31⟩⟩ := hQ31
         have N31 := Fr.app N28 N31q
         replace Eg := Eg.keep K31q
         replace At := At.keep K31q (ninS ne_ct_g nin0)
         have Z31 := Nat.le_trans Z28 K31q.1
         have Kp31 := Kp28.trans K31q (allS own_m0 (all0))
         exact own_rT X31 hy hrt hlk d29_217 rfl ⟨N31, Kp31, Or.inl ⟨hm22, rfl, ⟨Eg, Ft31, Fe31, Fm31, Fo31, Fd31, Fp31, Fa31⟩⟩⟩
       ·
        refine own_cp X28 hy hZ hown (own_y13 hw) (rmD1 hw Z28 ⟨Eg, Ft, Fe, Fm, Fo, Fd, Fp, Fa⟩ g_g At hT H (by decide) ⟨hk21, hg21⟩ (Or.inl (Nat.le_of_eq hk22))) e28 Eg d29_214 own_pd3 hml fun v32 T32 L32 X32 hQ32 => ?_
        obtain ⟨rfl, N32q, K32q, ⟨_, Ft32, Fe32, Fm32, Fo32, Fd32, Fp32, Fa32⟩⟩ := hQ32
        have N32 := Fr.app N28 N32q
        replace Eg := Eg.keep K32q
        replace At := At.keep K32q (ninS ne_ct_g nin0)
        have Z32 := Nat.le_trans Z28 K32q.1
        have Kp32 := Kp28.trans K32q (allS own_m0 (all0))
        exact own_rT X32 hy hrt hlk d29_217 rfl ⟨N32, Kp32, Or.inr (Or.inl ⟨by omega, rfl, by rw [hm22]; exact ⟨Eg, Ft32, Fe32, Fm32, Fo32, Fd32, Fp32, Fa32⟩, Or.inl (by omega)⟩)⟩
       ·
        refine own_cp X28 hy hZ hown (own_y13 hw) (rmD1 hw Z28 ⟨Eg, Ft, Fe, Fm, Fo, Fd, Fp, Fa⟩ g_g At hT H (by decide) ⟨hk21, hg21⟩ (Or.inr ⟨hk22, own_bdg hb22⟩)) e28 Eg d29_214 own_pd3 hml fun v33 T33 L33 X33 hQ33 => ?_
        obtain ⟨rfl, N33q, K33q, ⟨_, Ft33, Fe33, Fm33, Fo33, Fd33, Fp33, Fa33⟩⟩ := hQ33
        have N33 := Fr.app N28 N33q
        replace Eg := Eg.keep K33q
        replace At := At.keep K33q (ninS ne_ct_g nin0)
        have Z33 := Nat.le_trans Z28 K33q.1
        have Kp33 := Kp28.trans K33q (allS own_m0 (all0))
        exact own_rT X33 hy hrt hlk d29_217 rfl ⟨N33, Kp33, Or.inr (Or.inl ⟨by omega, rfl, by rw [hm22]; exact ⟨Eg, Ft33, Fe33, Fm33, Fo33, Fd33, Fp33, Fa33⟩, Or.inr ⟨by omega, by rw [hm22]; exact hb22⟩⟩)⟩
      ·
       refine own_cp X28 hy hZ hown (own_y13 hw) (rmD0 hw Z28 ⟨Eg, Ft, Fe, Fm, Fo, Fd, Fp, Fa⟩ g_g At hT H (by decide) (Or.inl (Nat.le_of_eq hk21))) e28 Eg d29_214 own_pd3 hml fun v34 T34 L34 X34 hQ34 => ?_
       obtain ⟨rfl, N34q, K34q, ⟨_, Ft34, Fe34, Fm34, Fo34, Fd34, Fp34, Fa34⟩⟩ := hQ34
       have N34 := Fr.app N28 N34q
       replace Eg := Eg.keep K34q
       replace At := At.keep K34q (ninS ne_ct_g nin0)
       have Z34 := Nat.le_trans Z28 K34q.1
       have Kp34 := Kp28.trans K34q (allS own_m0 (all0))
       exact own_rF X34 hy hrt hlk d29_217 rfl ⟨N34, Kp34, Or.inr (Or.inr ⟨by omega, rfl, by rw [hm21]; exact ⟨Eg, Ft34, Fe34, Fm34, Fo34, Fd34, Fp34, Fa34⟩⟩)⟩
      ·
       refine own_cp X28 hy hZ hown (own_y13 hw) (rmD0 hw Z28 ⟨Eg, Ft, Fe, Fm, Fo, Fd, Fp, Fa⟩ g_g At hT H (by decide) (Or.inr ⟨hk21, own_bdg hb21⟩)) e28 Eg d29_214 own_pd3 hml fun v35 T35 L35 X35 hQ35 => ?_
       obtain ⟨rfl, N35q, K35q, ⟨_, Ft35, Fe35, Fm35, Fo35, Fd35, Fp35, Fa35⟩⟩ := hQ35
       have N35 := Fr.app N28 N35q
       replace Eg := Eg.keep K35q
       replace At := At.keep K35q (ninS ne_ct_g nin0)
       have Z35 := Nat.le_trans Z28 K35q.1
       have Kp35 := Kp28.trans K35q (allS own_m0 (all0))
       exact own_rF X35 hy hrt hlk d29_217 rfl ⟨N35, Kp35, Or.inr (Or.inr ⟨by omega, rfl, by rw [hm21]; exact ⟨Eg, Ft35, Fe35, Fm35, Fo35, Fd35, Fp35, Fa35⟩⟩)⟩
     ·
      refine own_cy X22 hy d29_172 213 (flt (own_Pge ho hk49 (Nat.le_of_eq hk20) (by decide))).2.1 ?_
      refine own_al X22 hy d29_213 rfl rfl ?_
      refine own_cp X22 hy hZ hown (own_y13 hw) (rmD0 hw Z21 ⟨Eg, Ft, Fe, Fm, Fo, Fd, Fp, Fa⟩ g_g At hT H (by decide) (Or.inl (Nat.le_of_eq hk20))) e22 Eg d29_214 own_pd3 hml fun v36 T36 L36 X36 hQ36 => ?_
      obtain ⟨rfl, N36q, K36q, ⟨_, Ft36, Fe36, Fm36, Fo36, Fd36, Fp36, Fa36⟩⟩ := hQ36
      have N36 := Fr.app N21 N36q
      replace Eg := Eg.keep K36q
      replace At := At.keep K36q (ninS ne_ct_g nin0)
      have Z36 := Nat.le_trans Z21 K36q.1
      have Kp36 := Kp21.trans K36q (allS own_m0 (all0))
      exact own_rF X36 hy hrt hlk d29_217 rfl ⟨N36, Kp36, Or.inr (Or.inr ⟨by omega, rfl, by rw [hm20]; exact ⟨Eg, Ft36, Fe36, Fm36, Fo36, Fd36, Fp36, Fa36⟩⟩)⟩
     ·
      refine own_cn X22 hy d29_172 (tlt (own_Plt ho hk49 hk20)).2.1 ?_
      refine own_tc X22 hy hZ hown hw e22 Ft Fa At ho hT (by decide) t29_175 fun T37 X37 e37 => ?_
      refine own_bp X37 hy d29_184 ?_
      refine own_cn X37 hy d29_186 (feq (own_bne hb20 (by decide))).1 ?_
      refine own_tc X37 hy hZ hown hw e37 Ft Fa At ho hT (by decide) t29_189 fun T38 X38 e38 => ?_
      refine own_bp X38 hy d29_198 ?_
      refine own_cy X38 hy d29_200 213 (feq (own_bne hb20 (by decide))).2 ?_
      refine own_al X38 hy d29_213 rfl rfl ?_
      refine own_cp X38 hy hZ hown (own_y13 hw) (rmD0 hw Z21 ⟨Eg, Ft, Fe, Fm, Fo, Fd, Fp, Fa⟩ g_g At hT H (by decide) (Or.inr ⟨hk20, own_bdg hb20⟩)) e38 Eg d29_214 own_pd3 hml fun v39 T39 L39 X39 hQ39 => ?_
      obtain ⟨rfl, N39q, K39q, ⟨_, Ft39, Fe39, Fm39, Fo39, Fd39, Fp39, Fa39⟩⟩ := hQ39
      have N39 := Fr.app N21 N39q
      replace Eg := Eg.keep K39q
      replace At := At.keep K39q (ninS ne_ct_g nin0)
      have Z39 := Nat.le_trans Z21 K39q.1
      have Kp39 := Kp21.trans K39q (allS own_m0 (all0))
      clear N21 Z21 Kp21 X22 e22 X37 e37 X38 e38 N39q
      exact own_rF X39 hy hrt hlk d29_217 rfl ⟨N39, Kp39, Or.inr (Or.inr ⟨by omega, rfl, by rw [hm20]; exact ⟨Eg, Ft39, Fe39, Fm39, Fo39, Fd39, Fp39, Fa39⟩⟩)⟩
    ·
     refine own_cp X13 hy hZ hown (own_y13 hw) (rmD1 hw Z13 ⟨Eg, Ft, Fe, Fm, Fo, Fd, Fp, Fa⟩ g_g At hT H (by decide) ⟨hk18, hg18⟩ (Or.inl (Nat.le_of_eq hk19))) e13 Eg d29_107 own_pd3 hml fun v40 T40 L40 X40 hQ40 => ?_
     obtain ⟨rfl, N40q, K40q, ⟨_, Ft40, Fe40, Fm40, Fo40, Fd40, Fp40, Fa40⟩⟩ := hQ40
     have N40 := Fr.app N13 N40q
     replace Eg := Eg.keep K40q
     replace At := At.keep K40q (ninS ne_ct_g nin0)
     have Z40 := Nat.le_trans Z13 K40q.1
     have Kp40 := Kp13.trans K40q (allS own_m0 (all0))
     clear X11 e11 X12 e12 X13 e13 W13 N13 Z13 Kp13 N40q
     refine own_zy X40 hy d29_110 115 ((if0 _ _).trans (feq (by decide : ¬ ((1 : Int32) = (0 : Int32)))).2) ?_
     refine own_ae X40 hy hZ hown hw rfl Fa40 Fe40 a29_115 fun T41 X41 e41 => ?_
     refine own_cy X41 hy d29_123 218 (flt (own_Pge ho hk49 (Nat.le_of_eq hk19) (by decide))).2.1 ?_
     refine own_ic X41 hy d29_218 ?_
     exact own_rT X41 hy hrt hlk d29_219 e41 ⟨N40, Kp40, Or.inr (Or.inl ⟨by omega, rfl, by rw [hm19]; exact ⟨Eg, Ft40, Fe40, Fm40, Fo40, Fd40, Fp40, Fa40⟩, Or.inl (by omega)⟩)⟩
    ·
     refine own_cp X13 hy hZ hown (own_y13 hw) (rmD1 hw Z13 ⟨Eg, Ft, Fe, Fm, Fo, Fd, Fp, Fa⟩ g_g At hT H (by decide) ⟨hk18, hg18⟩ (Or.inr ⟨hk19, own_bdg hb19⟩)) e13 Eg d29_107 own_pd3 hml fun v42 T42 L42 X42 hQ42 => ?_
     obtain ⟨rfl, N42q, K42q, ⟨_, Ft42, Fe42, Fm42, Fo42, Fd42, Fp42, Fa42⟩⟩ := hQ42
     have N42 := Fr.app N13 N42q
     replace Eg := Eg.keep K42q
     replace At := At.keep K42q (ninS ne_ct_g nin0)
     have Z42 := Nat.le_trans Z13 K42q.1
     have Kp42 := Kp13.trans K42q (allS own_m0 (all0))
     clear X11 e11 X12 e12 X13 e13 W13 N13 Z13 Kp13 N42q
     refine own_zy X42 hy d29_110 115 ((if0 _ _).trans (feq (by decide : ¬ ((1 : Int32) = (0 : Int32)))).2) ?_
     refine own_ae X42 hy hZ hown hw rfl Fa42 Fe42 a29_115 fun T43 X43 e43 => ?_
     refine own_cn X43 hy d29_123 (tlt (own_Plt ho hk49 hk19)).2.1 ?_
     refine own_tc X43 hy hZ hown hw e43 Ft42 Fa42 At ho hT (by decide) t29_126 fun T44 X44 e44 => ?_
     refine own_bp X44 hy d29_135 ?_
     refine own_cn X44 hy d29_137 (feq (own_bne hb19 (by decide))).1 ?_
     refine own_tc X44 hy hZ hown hw e44 Ft42 Fa42 At ho hT (by decide) t29_140 fun T45 X45 e45 => ?_
     refine own_bp X45 hy d29_149 ?_
     refine own_cy X45 hy d29_151 218 (feq (own_bne hb19 (by decide))).2 ?_
     refine own_ic X45 hy d29_218 ?_
     exact own_rT X45 hy hrt hlk d29_219 e45 ⟨N42, Kp42, Or.inr (Or.inl ⟨by omega, rfl, by rw [hm19]; exact ⟨Eg, Ft42, Fe42, Fm42, Fo42, Fd42, Fp42, Fa42⟩, Or.inr ⟨by omega, by rw [hm19]; exact hb19⟩⟩)⟩
   ·
    refine own_cp X13 hy hZ hown (own_y13 hw) (rmD0 hw Z13 ⟨Eg, Ft, Fe, Fm, Fo, Fd, Fp, Fa⟩ g_g At hT H (by decide) (Or.inl (Nat.le_of_eq hk18))) e13 Eg d29_107 own_pd3 hml fun v46 T46 L46 X46 hQ46 => ?_
    obtain ⟨rfl, N46q, K46q, ⟨_, Ft46, Fe46, Fm46, Fo46, Fd46, Fp46, Fa46⟩⟩ := hQ46
    have N46 := Fr.app N13 N46q
    replace Eg := Eg.keep K46q
    replace At := At.keep K46q (ninS ne_ct_g nin0)
    have Z46 := Nat.le_trans Z13 K46q.1
    have Kp46 := Kp13.trans K46q (allS own_m0 (all0))
    clear X11 e11 X12 e12 X13 e13 W13 N13 Z13 Kp13 N46q
    refine own_zn X46 hy d29_110 ((if0 _ _).trans (teq (by decide : ((0 : Int32) = (0 : Int32)))).2) ?_
    refine own_ic X46 hy d29_113 ?_
    exact own_rF X46 hy hrt hlk d29_114 rfl ⟨N46, Kp46, Or.inr (Or.inr ⟨by omega, rfl, by rw [hm18]; exact ⟨Eg, Ft46, Fe46, Fm46, Fo46, Fd46, Fp46, Fa46⟩⟩)⟩
   ·
    refine own_cp X13 hy hZ hown (own_y13 hw) (rmD0 hw Z13 ⟨Eg, Ft, Fe, Fm, Fo, Fd, Fp, Fa⟩ g_g At hT H (by decide) (Or.inr ⟨hk18, own_bdg hb18⟩)) e13 Eg d29_107 own_pd3 hml fun v47 T47 L47 X47 hQ47 => ?_
    obtain ⟨rfl, N47q, K47q, ⟨_, Ft47, Fe47, Fm47, Fo47, Fd47, Fp47, Fa47⟩⟩ := hQ47
    have N47 := Fr.app N13 N47q
    replace Eg := Eg.keep K47q
    replace At := At.keep K47q (ninS ne_ct_g nin0)
    have Z47 := Nat.le_trans Z13 K47q.1
    have Kp47 := Kp13.trans K47q (allS own_m0 (all0))
    clear X11 e11 X12 e12 X13 e13 W13 N13 Z13 Kp13 N47q
    refine own_zn X47 hy d29_110 ((if0 _ _).trans (teq (by decide : ((0 : Int32) = (0 : Int32)))).2) ?_
    refine own_ic X47 hy d29_113 ?_
    exact own_rF X47 hy hrt hlk d29_114 rfl ⟨N47, Kp47, Or.inr (Or.inr ⟨by omega, rfl, by rw [hm18]; exact ⟨Eg, Ft47, Fe47, Fm47, Fo47, Fd47, Fp47, Fa47⟩⟩)⟩
  ·
   refine own_cy X11 hy d29_79 115 (flt (own_Pge ho hk49 (Nat.le_of_eq hk17) (by decide))).2.1 ?_
   refine own_ae X11 hy hZ hown hw e11 Fa Fe a29_115 fun T48 X48 e48 => ?_
   refine own_cy X48 hy d29_123 218 (flt (own_Pge ho hk49 (Nat.le_of_eq hk17) (by decide))).2.1 ?_
   refine own_ic X48 hy d29_218 ?_
   exact own_rT X48 hy hrt hlk d29_219 e48 ⟨N5, Kp5, Or.inr (Or.inl ⟨by omega, rfl, by rw [hm17]; exact ⟨Eg, Ft, Fe, Fm, Fo, Fd, Fp, Fa⟩, Or.inl (by omega)⟩)⟩
  ·
   refine own_cn X11 hy d29_79 (tlt (own_Plt ho hk49 hk17)).2.1 ?_
   refine own_tc X11 hy hZ hown hw e11 Ft Fa At ho hT (by decide) t29_82 fun T49 X49 e49 => ?_
   refine own_bp X49 hy d29_91 ?_
   refine own_cy X49 hy d29_93 115 (feq (own_bne hb17 (by decide))).2 ?_
   refine own_ae X49 hy hZ hown hw e49 Fa Fe a29_115 fun T50 X50 e50 => ?_
   refine own_cn X50 hy d29_123 (tlt (own_Plt ho hk49 hk17)).2.1 ?_
   refine own_tc X50 hy hZ hown hw e50 Ft Fa At ho hT (by decide) t29_126 fun T51 X51 e51 => ?_
   refine own_bp X51 hy d29_135 ?_
   refine own_cn X51 hy d29_137 (feq (own_bne hb17 (by decide))).1 ?_
   refine own_tc X51 hy hZ hown hw e51 Ft Fa At ho hT (by decide) t29_140 fun T52 X52 e52 => ?_
   clear X11 e11 X49 e49 X50 e50 X51 e51
   refine own_bp X52 hy d29_149 ?_
   refine own_cy X52 hy d29_151 218 (feq (own_bne hb17 (by decide))).2 ?_
   refine own_ic X52 hy d29_218 ?_
   exact own_rT X52 hy hrt hlk d29_219 e52 ⟨N5, Kp5, Or.inr (Or.inl ⟨by omega, rfl, by rw [hm17]; exact ⟨Eg, Ft, Fe, Fm, Fo, Fd, Fp, Fa⟩, Or.inr ⟨by omega, by rw [hm17]; exact hb17⟩⟩)⟩
 ·
  refine own_cy X3 hy d29_32 62 (flt (own_Pge ho hk49 (Nat.le_of_eq hk16) (by decide))).2.1 ?_
  refine own_al X3 hy d29_62 rfl rfl ?_
  refine own_cp X3 hy hZ hown (own_y13 hw) (rmD0 hw Z2 ⟨Eg, Ft, Fe, Fm, Fo, Fd, Fp, Fa⟩ g_g At hT H (by decide) (Or.inl (Nat.le_of_eq hk16))) e3 Eg d29_63 own_pd3 hml fun v53 T53 L53 X53 hQ53 => ?_
  obtain ⟨rfl, N53q, K53q, ⟨_, Ft53, Fe53, Fm53, Fo53, Fd53, Fp53, Fa53⟩⟩ := hQ53
  have N53 := Fr.app N2 N53q
  replace Eg := Eg.keep K53q
  replace At := At.keep K53q (ninS ne_ct_g nin0)
  have Z53 := Nat.le_trans Z2 K53q.1
  have Kp53 := Kp2.trans K53q (allS own_m0 (all0))
  clear X1 e1 X2 e2 W2 N2 Z2 Kp2 X3 e3 N53q
  refine own_zn X53 hy d29_66 ((if0 _ _).trans (teq (by decide : ((0 : Int32) = (0 : Int32)))).2) ?_
  refine own_ic X53 hy d29_69 ?_
  exact own_rF X53 hy hrt hlk d29_70 rfl ⟨N53, Kp53, Or.inr (Or.inr ⟨by omega, rfl, by rw [hm16]; exact ⟨Eg, Ft53, Fe53, Fm53, Fo53, Fd53, Fp53, Fa53⟩⟩)⟩
 ·
  refine own_cn X3 hy d29_32 (tlt (own_Plt ho hk49 hk16)).2.1 ?_
  refine own_tc X3 hy hZ hown hw e3 Ft Fa At ho hT (by decide) t29_35 fun T54 X54 e54 => ?_
  refine own_bp X54 hy d29_44 ?_
  refine own_cy X54 hy d29_46 62 (feq (own_bne hb16 (by decide))).2 ?_
  refine own_al X54 hy d29_62 rfl rfl ?_
  refine own_cp X54 hy hZ hown (own_y13 hw) (rmD0 hw Z2 ⟨Eg, Ft, Fe, Fm, Fo, Fd, Fp, Fa⟩ g_g At hT H (by decide) (Or.inr ⟨hk16, own_bdg hb16⟩)) e54 Eg d29_63 own_pd3 hml fun v55 T55 L55 X55 hQ55 => ?_
  obtain ⟨rfl, N55q, K55q, ⟨_, Ft55, Fe55, Fm55, Fo55, Fd55, Fp55, Fa55⟩⟩ := hQ55
  have N55 := Fr.app N2 N55q
  replace Eg := Eg.keep K55q
  replace At := At.keep K55q (ninS ne_ct_g nin0)
  have Z55 := Nat.le_trans Z2 K55q.1
  have Kp55 := Kp2.trans K55q (allS own_m0 (all0))
  clear X1 e1 X2 e2 W2 N2 Z2 Kp2 X3 e3 X54 e54 N55q
  refine own_zn X55 hy d29_66 ((if0 _ _).trans (teq (by decide : ((0 : Int32) = (0 : Int32)))).2) ?_
  refine own_ic X55 hy d29_69 ?_
  exact own_rF X55 hy hrt hlk d29_70 rfl ⟨N55, Kp55, Or.inr (Or.inr ⟨by omega, rfl, by rw [hm16]; exact ⟨Eg, Ft55, Fe55, Fm55, Fo55, Fd55, Fp55, Fa55⟩⟩)⟩
theorem d31_0 : decode C31 0 = .ok (.iconst 0, 1) := by decide +kernel
theorem d31_1 : decode C31 1 = .ok (.istore_n 2, 1) := by decide +kernel
theorem d31_2 : decode C31 2 = .ok (.iload_n 2, 1) := by decide +kernel
theorem d31_3 : decode C31 3 = .ok (.aload_n 1, 1) := by decide +kernel
theorem d31_4 : decode C31 4 = .ok (.invokevirtual 91, 3) := by decide +kernel
theorem d31_7 : decode C31 7 = .ok (.if_icmp .ge 49, 3) := by decide +kernel
theorem d31_10 : decode C31 10 = .ok (.aload_n 0, 1) := by decide +kernel
theorem d31_18 : decode C31 18 = .ok (.if_icmp .eq 20, 3) := by decide +kernel
theorem d31_21 : decode C31 21 = .ok (.aload_n 0, 1) := by decide +kernel
theorem d31_30 : decode C31 30 = .ok (.aload_n 1, 1) := by decide +kernel
theorem d31_31 : decode C31 31 = .ok (.iload_n 2, 1) := by decide +kernel
theorem d31_32 : decode C31 32 = .ok (.invokevirtual 95, 3) := by decide +kernel
theorem d31_35 : decode C31 35 = .ok (.if_icmp .eq 5, 3) := by decide +kernel
theorem d31_38 : decode C31 38 = .ok (.iconst 0, 1) := by decide +kernel
theorem d31_39 : decode C31 39 = .ok (.ireturn, 1) := by decide +kernel
theorem d31_40 : decode C31 40 = .ok (.aload_n 0, 1) := by decide +kernel
theorem d31_50 : decode C31 50 = .ok (.iinc 2 1, 3) := by decide +kernel
theorem d31_53 : decode C31 53 = .ok (.goto (-51), 3) := by decide +kernel
theorem d31_56 : decode C31 56 = .ok (.iconst 1, 1) := by decide +kernel
theorem d31_57 : decode C31 57 = .ok (.ireturn, 1) := by decide +kernel
theorem own_pn31 : plainName "dev/parlance/JsonGrammar" = true := by first | (simp [plainName, overriddenIn]; done) | decide +kernel
theorem own_ef31 (m : MethodId) (x0 : Addr) (x1 : Addr) : entryFrame m #[(.ref x0), (.ref x1)] 3 = mkF m 0 #[.val (.ref x0), .val (.ref x1), .unset] [] := by first | (simp [entryFrame, mkF, argsToLocals, Value.category]; done) | rfl
def QrmLit_4 (Z : State) (g : Addr) (ct : Addr) (ob : Addr) (kc : ClassId) (tx : List Value) (cc : Nat → Int32) (oN : Nat) (kk : Nat) (M : Nat) (tf : Bool) (md : Int32) (dd : Int32) (oo : Int32) (h0 : Heap) (n0 : Nat) (v : Option Value) (h : Heap) (L : List Loc) : Prop := Fr n0 L ∧ Keep h0 h [g] ∧ ((28 ≤ M ∧ v = some (.int 1) ∧ own_G Z h g ct ob (own_P oN kk) md dd oo (own_P oN 28)) ∨ (M < 28 ∧ v = some (.int 0) ∧ own_G Z h g ct ob (own_P oN kk) md dd oo (own_P oN M)))
theorem rmLit_4 (hw : own_HW Z a0) (u0 u1 u2 u3 : Int32) (Z0 : n0 ≤ h0.size) (Gq : own_G Z h0 g ct ob (own_P oN kk) md dd oo (own_P oN 24)) (g_g : n0 ≤ g) (At : Arv Z h0 ct kc .char (52 : Int32) tx (.int 0)) (hT : ∀ i, i < 49 → tx.getD (oN + i) (.int 0) = .int (cc i)) (H : own_H oN kk md M tf cc) (hM0 : 24 ≤ M) (E1 : Exa Z h0 x1 "java/lang/String") (V1 : Fld Z h0 x1 "java/lang/String" "value" "[B" (.ref t1)) (C1 : Fld Z h0 x1 "java/lang/String" "coder" "B" (.int 0)) (K1 : Arv Z h0 t1 kb .byte (4 : Int32) [(.int u0), (.int u1), (.int u2), (.int u3)] (.int 0)) (hcs : ¬ (cs = (0 : Int32))) (S_cs : Sta Z h0 "java/lang/String" "COMPACT_STRINGS" "Z" (.int cs)) (S_fm : Sta Z h0 "jdk/internal/util/Preconditions" "SIOOBE_FORMATTER" "Ljava/util/function/BiFunction;" fm) (rfm : fm.isRef = true) (ne_x1_g : x1 ≠ g) (ne_t1_g : t1 ≠ g) (hE0 : (own_good tf 24 (cc 24) → cc 24 = u0) ∧ own_okL u0 = true ∧ nar .char ((u0 &&& (255 : Int32)).toUInt32.toUInt16.toUInt32.toInt32) = u0 ∧ nar .char u0 = u0) (hE1 : (own_good tf 25 (cc 25) → cc 25 = u1) ∧ own_okL u1 = true ∧ nar .char ((u1 &&& (255 : Int32)).toUInt32.toUInt16.toUInt32.toInt32) = u1 ∧ nar .char u1 = u1) (hE2 : (own_good tf 26 (cc 26) → cc 26 = u2) ∧ own_okL u2 = true ∧ nar .char ((u2 &&& (255 : Int32)).toUInt32.toUInt16.toUInt32.toInt32) = u2 ∧ nar .char u2 = u2) (hE3 : (own_good tf 27 (cc 27) → cc 27 = u3) ∧ own_okL u3 = true ∧ nar .char ((u3 &&& (255 : Int32)).toUInt32.toUInt16.toUInt32.toInt32) = u3 ∧ nar .char u3 = u3) :
  own_MF l "dev/parlance/JsonGrammar" "literal" "(Ljava/lang/String;)Z" prog_6_method_10_code 3 (some .boolean) ⟨4, 0, 0, 54⟩ #[(.ref g), (.ref x1)] Z h0 (QrmLit_4 Z g ct ob kc tx cc oN kk M tf md dd oo h0 n0) := by
 refine own_fst (plainFor_of_name own_pn31) (own_ef31 · g x1) fun p e s m below meth c s₁ hy hml hZ hown hnm hrt hlk X0 e0 => ?_
 have N0 := Fr.nil n0
 have Kp0 : Keep h0 h0 [g] := Keep.refl h0 _
 obtain ⟨⟨Eg, Ft, Fe, Fm, Fo, Fd, Fp, Fa⟩, ho, hk49, ne_ct_g⟩ := own_gi hw Gq At H
 refine own_ic X0 hy d31_0 ?_
 refine own_is X0 hy d31_1 (l' := #[.val (.ref g), .val (.ref x1), .val (.int 0)]) rfl ?_
 refine own_il X0 hy d31_2 rfl ?_
 refine own_al X0 hy d31_3 rfl rfl ?_
 refine own_cv X0 hy hZ hown (own_y14 hw) (rmLn_4 hw Z0 E1 V1 C1 K1 hcs S_cs) e0 E1 d31_4 own_pd9 hml fun v1 T1 L1 X1 hQ1 => ?_
 obtain ⟨rfl, N1q, e1⟩ := hQ1
 have N1 := Fr.app N0 N1q
 refine own_cn X1 hy d31_7 (tlt (by decide : ((0 : Int32) < (4 : Int32)))).2.1 ?_
 refine own_ae X1 hy hZ hown hw e1 Fa Fe a31_10 fun T2 X2 e2 => ?_
 rcases own_at H 24 (by decide) hM0 (by decide) with ⟨hm24, hk24, hg24⟩ | ⟨hm24, hk24⟩ | ⟨hm24, hk24, hb24⟩
 ·
  refine own_cn X2 hy d31_18 (feq (own_Pne ho hk49 hk24)).1 ?_
  refine own_tc X2 hy hZ hown hw e2 Ft Fa At ho hT (by decide) t31_21 fun T3 X3 e3 => ?_
  refine own_al X3 hy d31_30 rfl rfl ?_
  refine own_il X3 hy d31_31 rfl ?_
  refine own_cvg X3 hy hZ hown (own_y15 hw) (rmCA hw (0 : Int32) u0 u0 Z0 E1 V1 C1 K1 (by decide) (by decide) rfl hE0.2.2.1 hE0.2.2.2 hcs S_cs S_fm rfm) e3 E1 (S := [(.int (cc 24))]) rfl d31_32 own_pd10 hml fun v4 T4 L4 X4 hQ4 => ?_
  obtain ⟨rfl, N4q, e4⟩ := hQ4
  have N4 := Fr.app N1 N4q
  clear N1 N1q X1 e1 X2 e2 X3 e3 N4q
  refine own_cy X4 hy d31_35 40 (teq (hE0.1 hg24)).1 ?_
  refine own_inc X4 hy hZ hown hw e4 ⟨Eg, Ft, Fe, Fm, Fo, Fd, Fp, Fa⟩ i31_40 25 fun T5 h5 X5 e5 W5 ⟨_, Ft, Fe, Fm, Fo, Fd, Fp, Fa⟩ => ?_
  replace S_cs := S_cs.wr W5
  replace S_fm := S_fm.wr W5
  replace Eg := Eg.wr W5
  replace At := At.other W5 ne_ct_g
  replace E1 := E1.wr W5
  replace V1 := V1.other W5 (Or.inl ne_x1_g)
  replace C1 := C1.other W5 (Or.inl ne_x1_g)
  replace K1 := K1.other W5 ne_t1_g
  have Z5 := own_zw Z0 W5
  have Kp5 := Kp0.wr W5 own_m0
  have N5 := Fr.snoc X5 N4 g_g
  refine own_ii X5 hy d31_50 rfl (l' := #[.val (.ref g), .val (.ref x1), .val (.int 1)]) rfl ?_
  refine own_gt X5 hy d31_53 2 ?_
  refine own_il X5 hy d31_2 rfl ?_
  refine own_al X5 hy d31_3 rfl rfl ?_
  refine own_cv X5 hy hZ hown (own_y14 hw) (rmLn_4 hw Z5 E1 V1 C1 K1 hcs S_cs) e5 E1 d31_4 own_pd9 hml fun v6 T6 L6 X6 hQ6 => ?_
  obtain ⟨rfl, N6q, e6⟩ := hQ6
  have N6 := Fr.app N5 N6q
  clear N4 X4 e4 X5 e5 W5 N5 N6q
  refine own_cn X6 hy d31_7 (tlt (by decide : ((1 : Int32) < (4 : Int32)))).2.1 ?_
  refine own_ae X6 hy hZ hown hw e6 Fa Fe a31_10 fun T7 X7 e7 => ?_
  rcases own_at H 25 (by decide) hm24 (by decide) with ⟨hm25, hk25, hg25⟩ | ⟨hm25, hk25⟩ | ⟨hm25, hk25, hb25⟩
  ·
   refine own_cn X7 hy d31_18 (feq (own_Pne ho hk49 hk25)).1 ?_
   refine own_tc X7 hy hZ hown hw e7 Ft Fa At ho hT (by decide) t31_21 fun T8 X8 e8 => ?_
   refine own_al X8 hy d31_30 rfl rfl ?_
   refine own_il X8 hy d31_31 rfl ?_
   refine own_cvg X8 hy hZ hown (own_y15 hw) (rmCA hw (1 : Int32) u1 u1 Z5 E1 V1 C1 K1 (by decide) (by decide) rfl hE1.2.2.1 hE1.2.2.2 hcs S_cs S_fm rfm) e8 E1 (S := [(.int (cc 25))]) rfl d31_32 own_pd10 hml fun v9 T9 L9 X9 hQ9 => ?_
   obtain ⟨rfl, N9q, e9⟩ := hQ9
   have N9 := Fr.app N6 N9q
   clear N6 X6 e6 X7 e7 X8 e8 N9q
   refine own_cy X9 hy d31_35 40 (teq (hE1.1 hg25)).1 ?_
   refine own_inc X9 hy hZ hown hw e9 ⟨Eg, Ft, Fe, Fm, Fo, Fd, Fp, Fa⟩ i31_40 26 fun T10 h10 X10 e10 W10 ⟨_, Ft, Fe, Fm, Fo, Fd, Fp, Fa⟩ => ?_
   replace S_cs := S_cs.wr W10
   replace S_fm := S_fm.wr W10
   replace Eg := Eg.wr W10
   replace At := At.other W10 ne_ct_g
   replace E1 := E1.wr W10
   replace V1 := V1.other W10 (Or.inl ne_x1_g)
   replace C1 := C1.other W10 (Or.inl ne_x1_g)
   replace K1 := K1.other W10 ne_t1_g
   have Z10 := own_zw Z5 W10
   have Kp10 := Kp5.wr W10 own_m0
   have N10 := Fr.snoc X10 N9 g_g
   refine own_ii X10 hy d31_50 rfl (l' := #[.val (.ref g), .val (.ref x1), .val (.int 2)]) rfl ?_
   refine own_gt X10 hy d31_53 2 ?_
   refine own_il X10 hy d31_2 rfl ?_
   refine own_al X10 hy d31_3 rfl rfl ?_
   refine own_cv X10 hy hZ hown (own_y14 hw) (rmLn_4 hw Z10 E1 V1 C1 K1 hcs S_cs) e10 E1 d31_4 own_pd9 hml fun v11 T11 L11 X11 hQ11 => ?_
   obtain ⟨rfl, N11q, e11⟩ := hQ11
   have N11 := Fr.app N10 N11q
   clear Z5 Kp5 N9 X9 e9 X10 e10 W10 N10 N11q
   refine own_cn X11 hy d31_7 (tlt (by decide : ((2 : Int32) < (4 : Int32)))).2.1 ?_
   refine own_ae X11 hy hZ hown hw e11 Fa Fe a31_10 fun T12 X12 e12 => ?_
   rcases own_at H 26 (by decide) hm25 (by decide) with ⟨hm26, hk26, hg26⟩ | ⟨hm26, hk26⟩ | ⟨hm26, hk26, hb26⟩
   ·
    refine own_cn X12 hy d31_18 (feq (own_Pne ho hk49 hk26)).1 ?_
    refine own_tc X12 hy hZ hown hw e12 Ft Fa At ho hT (by decide) t31_21 fun T13 X13 e13 => ?_
    refine own_al X13 hy d31_30 rfl rfl ?_
    refine own_il X13 hy d31_31 rfl ?_
    refine own_cvg X13 hy hZ hown (own_y15 hw) (rmCA hw (2 : Int32) u2 u2 Z10 E1 V1 C1 K1 (by decide) (by decide) rfl hE2.2.2.1 hE2.2.2.2 hcs S_cs S_fm rfm) e13 E1 (S := [(.int (cc 26))]) rfl d31_32 own_pd10 hml fun v14 T14 L14 X14 hQ14 => ?_
    obtain ⟨rfl, N14q, e14⟩ := hQ14
    have N14 := Fr.app N11 N14q
    clear N11 X11 e11 X12 e12 X13 e13 N14q
    refine own_cy X14 hy d31_35 40 (teq (hE2.1 hg26)).1 ?_
    refine own_inc X14 hy hZ hown hw e14 ⟨Eg, Ft, Fe, Fm, Fo, Fd, Fp, Fa⟩ i31_40 27 fun T15 h15 X15 e15 W15 ⟨_, Ft, Fe, Fm, Fo, Fd, Fp, Fa⟩ => ?_
    replace S_cs := S_cs.wr W15
    replace S_fm := S_fm.wr W15
    replace Eg := Eg.wr W15
    replace At := At.other W15 ne_ct_g
    replace E1 := E1.wr W15
    replace V1 := V1.other W15 (Or.inl ne_x1_g)
    replace C1 := C1.other W15 (Or.inl ne_x1_g)
    replace K1 := K1.other W15 ne_t1_g
    have Z15 := own_zw Z10 W15
    have Kp15 := Kp10.wr W15 own_m0
    have N15 := Fr.snoc X15 N14 g_g
    refine own_ii X15 hy d31_50 rfl (l' := #[.val (.ref g), .val (.ref x1), .val (.int 3)]) rfl ?_
    refine own_gt X15 hy d31_53 2 ?_
    refine own_il X15 hy d31_2 rfl ?_
    refine own_al X15 hy d31_3 rfl rfl ?_
    refine own_cv X15 hy hZ hown (own_y14 hw) (rmLn_4 hw Z15 E1 V1 C1 K1 hcs S_cs) e15 E1 d31_4 own_pd9 hml fun v16 T16 L16 X16 hQ16 => ?_
    obtain ⟨rfl, N16q, e16⟩ := hQ16
    have N16 := Fr.app N15 N16q
    clear Z10 Kp10 N14 X14 e14 X15 e15 W15 N15 N16q
    refine own_cn X16 hy d31_7 (tlt (by decide : ((3 : Int32) < (4 : Int32)))).2.1 ?_
    refine own_ae X16 hy hZ hown hw e16 Fa Fe a31_10 fun T17 X17 e17 => ?_
    rcases own_at H 27 (by decide) hm26 (by decide) with ⟨hm27, hk27, hg27⟩ | ⟨hm27, hk27⟩ | ⟨hm27, hk27, hb27⟩
    ·
     refine own_cn X17 hy d31_18 (feq (own_Pne ho hk49 hk27)).1 ?_
     refine own_tc X17 hy hZ hown hw e17 Ft Fa At ho hT (by decide) t31_21 fun T18 X18 e18 => ?_
     refine own_al X18 hy d31_30 rfl rfl ?_
     refine own_il X18 hy d31_31 rfl ?_
     refine own_cvg X18 hy hZ hown (own_y15 hw) (rmCA hw (3 : Int32) u3 u3 Z15 E1 V1 C1 K1 (by decide) (by decide) rfl hE3.2.2.1 hE3.2.2.2 hcs S_cs S_fm rfm) e18 E1 (S := [(.int (cc 27))]) rfl d31_32 own_pd10 hml fun v19 T19 L19 X19 hQ19 => ?_
     obtain ⟨rfl, N19q, e19⟩ := hQ19
     have N19 := Fr.app N16 N19q
     clear N16 X16 e16 X17 e17 X18 e18 N19q
     refine own_cy X19 hy d31_35 40 (teq (hE3.1 hg27)).1 ?_
     refine own_inc X19 hy hZ hown hw e19 ⟨Eg, Ft, Fe, Fm, Fo, Fd, Fp, Fa⟩ i31_40 28 fun T20 h20 X20 e20 W20 ⟨_, Ft, Fe, Fm, Fo, Fd, Fp, Fa⟩ => ?_
     replace S_cs := S_cs.wr W20
     replace S_fm := S_fm.wr W20
     replace Eg := Eg.wr W20
     replace At := At.other W20 ne_ct_g
     replace E1 := E1.wr W20
     replace V1 := V1.other W20 (Or.inl ne_x1_g)
     replace C1 := C1.other W20 (Or.inl ne_x1_g)
     replace K1 := K1.other W20 ne_t1_g
     have Z20 := own_zw Z15 W20
     have Kp20 := Kp15.wr W20 own_m0
     have N20 := Fr.snoc X20 N19 g_g
     refine own_ii X20 hy d31_50 rfl (l' := #[.val (.ref g), .val (.ref x1), .val (.int 4)]) rfl ?_
     refine own_gt X20 hy d31_53 2 ?_
     refine own_il X20 hy d31_2 rfl ?_
     refine own_al X20 hy d31_3 rfl rfl ?_
     refine own_cv X20 hy hZ hown (own_y14 hw) (rmLn_4 hw Z20 E1 V1 C1 K1 hcs S_cs) e20 E1 d31_4 own_pd9 hml fun v21 T21 L21 X21 hQ21 => ?_
     obtain ⟨rfl, N21q, e21⟩ := hQ21
     have N21 := Fr.app N20 N21q
     clear Z15 Kp15 N19 X19 e19 X20 e20 W20 N20 N21q
     refine own_cy X21 hy d31_7 56 (flt (by decide : ¬ ((4 : Int32) < (4 : Int32)))).2.1 ?_
     refine own_ic X21 hy d31_56 ?_
     exact own_rT X21 hy hrt hlk d31_57 e21 ⟨N21, Kp20, Or.inl ⟨hm27, rfl, ⟨Eg, Ft, Fe, Fm, Fo, Fd, Fp, Fa⟩⟩⟩
    ·
     refine own_cy X17 hy d31_18 38 (teq (own_Peq hk27)).1 ?_
     refine own_ic X17 hy d31_38 ?_
     exact own_rF X17 hy hrt hlk d31_39 e17 ⟨N16, Kp15, Or.inr ⟨by omega, rfl, by rw [hm27]; exact ⟨Eg, Ft, Fe, Fm, Fo, Fd, Fp, Fa⟩⟩⟩
    ·
     refine own_cn X17 hy d31_18 (feq (own_Pne ho hk49 hk27)).1 ?_
     refine own_tc X17 hy hZ hown hw e17 Ft Fa At ho hT (by decide) t31_21 fun T22 X22 e22 => ?_
     refine own_al X22 hy d31_30 rfl rfl ?_
     refine own_il X22 hy d31_31 rfl ?_
     refine own_cvg X22 hy hZ hown (own_y15 hw) (rmCA hw (3 : Int32) u3 u3 Z15 E1 V1 C1 K1 (by decide) (by decide) rfl hE3.2.2.1 hE3.2.2.2 hcs S_cs S_fm rfm) e22 E1 (S := [(.int (cc 27))]) rfl d31_32 own_pd10 hml fun v23 T23 L23 X23 hQ23 => ?_
     obtain ⟨rfl, N23q, e23⟩ := hQ23
     have N23 := Fr.app N16 N23q
     clear N16 X16 e16 X17 e17 X22 e22 N23q
     refine own_cn X23 hy d31_35 (feq (own_bne hb27 hE3.2.1)).1 ?_
     refine own_ic X23 hy d31_38 ?_
     exact own_rF X23 hy hrt hlk d31_39 e23 ⟨N23, Kp15, Or.inr ⟨by omega, rfl, by rw [hm27]; exact ⟨Eg, Ft, Fe, Fm, Fo, Fd, Fp, Fa⟩⟩⟩
   ·
    refine own_cy X12 hy d31_18 38 (teq (own_Peq hk26)).1 ?_
    refine own_ic X12 hy d31_38 ?_
    exact own_rF X12 hy hrt hlk d31_39 e12 ⟨N11, Kp10, Or.inr ⟨by omega, rfl, by rw [hm26]; exact ⟨Eg, Ft, Fe, Fm, Fo, Fd, Fp, Fa⟩⟩⟩
   ·
    refine own_cn X12 hy d31_18 (feq (own_Pne ho hk49 hk26)).1 ?_
    refine own_tc X12 hy hZ hown hw e12 Ft Fa At ho hT (by decide) t31_21 fun T24 X24 e24 => ?_
    refine own_al X24 hy d31_30 rfl rfl ?_
    refine own_il X24 hy d31_31 rfl ?_
    refine own_cvg X24 hy hZ hown (own_y15 hw) (rmCA hw (2 : Int32) u2 u2 Z10 E1 V1 C1 K1 (by decide) (by decide) rfl hE2.2.2.1 hE2.2.2.2 hcs S_cs S_fm rfm) e24 E1 (S := [(.int (cc 26))]) rfl d31_32 own_pd10 hml fun v25 T25 L25 X25 hQ25 => ?_
    obtain ⟨rfl, N25q, e25⟩ := hQ25
    have N25 := Fr.app N11 N25q
    clear N11 X11 e11 X12 e12 X24 e24 N25q
    refine own_cn X25 hy d31_35 (feq (own_bne hb26 hE2.2.1)).1 ?_
    refine own_ic X25 hy d31_38 ?_
    exact own_rF X25 hy hrt hlk d31_39 e25 ⟨N25, Kp10, Or.inr ⟨by omega, rfl, by rw [hm26]; exact ⟨Eg, Ft, Fe, Fm, Fo, Fd, Fp, Fa⟩⟩⟩
  ·
   refine own_cy X7 hy d31_18 38 (teq (own_Peq hk25)).1 ?_
   refine own_ic X7 hy d31_38 ?_
   exact own_rF X7 hy hrt hlk d31_39 e7 ⟨N6, Kp5, Or.inr ⟨by omega, rfl, by rw [hm25]; exact ⟨Eg, Ft, Fe, Fm, Fo, Fd, Fp, Fa⟩⟩⟩
  ·
   refine own_cn X7 hy d31_18 (feq (own_Pne ho hk49 hk25)).1 ?_
   refine own_tc X7 hy hZ hown hw e7 Ft Fa At ho hT (by decide) t31_21 fun T26 X26 e26 => ?_
   refine own_al X26 hy d31_30 rfl rfl ?_
   refine own_il X26 hy d31_31 rfl ?_
   refine own_cvg X26 hy hZ hown (own_y15 hw) (rmCA hw (1 : Int32) u1 u1 Z5 E1 V1 C1 K1 (by decide) (by decide) rfl hE1.2.2.1 hE1.2.2.2 hcs S_cs S_fm rfm) e26 E1 (S := [(.int (cc 25))]) rfl d31_32 own_pd10 hml fun v27 T27 L27 X27 hQ27 => ?_
   obtain ⟨rfl, N27q, e27⟩ := hQ27
   have N27 := Fr.app N6 N27q
   clear N6 X6 e6 X7 e7 X26 e26 N27q
   refine own_cn X27 hy d31_35 (feq (own_bne hb25 hE1.2.1)).1 ?_
   refine own_ic X27 hy d31_38 ?_
   exact own_rF X27 hy hrt hlk d31_39 e27 ⟨N27, Kp5, Or.inr ⟨by omega, rfl, by rw [hm25]; exact ⟨Eg, Ft, Fe, Fm, Fo, Fd, Fp, Fa⟩⟩⟩
 ·
  refine own_cy X2 hy d31_18 38 (teq (own_Peq hk24)).1 ?_
  refine own_ic X2 hy d31_38 ?_
  exact own_rF X2 hy hrt hlk d31_39 e2 ⟨N1, Kp0, Or.inr ⟨by omega, rfl, by rw [hm24]; exact ⟨Eg, Ft, Fe, Fm, Fo, Fd, Fp, Fa⟩⟩⟩
 ·
  refine own_cn X2 hy d31_18 (feq (own_Pne ho hk49 hk24)).1 ?_
  refine own_tc X2 hy hZ hown hw e2 Ft Fa At ho hT (by decide) t31_21 fun T28 X28 e28 => ?_
  refine own_al X28 hy d31_30 rfl rfl ?_
  refine own_il X28 hy d31_31 rfl ?_
  refine own_cvg X28 hy hZ hown (own_y15 hw) (rmCA hw (0 : Int32) u0 u0 Z0 E1 V1 C1 K1 (by decide) (by decide) rfl hE0.2.2.1 hE0.2.2.2 hcs S_cs S_fm rfm) e28 E1 (S := [(.int (cc 24))]) rfl d31_32 own_pd10 hml fun v29 T29 L29 X29 hQ29 => ?_
  obtain ⟨rfl, N29q, e29⟩ := hQ29
  have N29 := Fr.app N1 N29q
  clear N1 N1q X1 e1 X2 e2 X28 e28 N29q
  refine own_cn X29 hy d31_35 (feq (own_bne hb24 hE0.2.1)).1 ?_
  refine own_ic X29 hy d31_38 ?_
  exact own_rF X29 hy hrt hlk d31_39 e29 ⟨N29, Kp0, Or.inr ⟨by omega, rfl, by rw [hm24]; exact ⟨Eg, Ft, Fe, Fm, Fo, Fd, Fp, Fa⟩⟩⟩
def QrmLit_false (Z : State) (g : Addr) (ct : Addr) (ob : Addr) (kc : ClassId) (tx : List Value) (cc : Nat → Int32) (oN : Nat) (kk : Nat) (M : Nat) (tf : Bool) (md : Int32) (dd : Int32) (oo : Int32) (h0 : Heap) (n0 : Nat) (v : Option Value) (h : Heap) (L : List Loc) : Prop := Fr n0 L ∧ Keep h0 h [g] ∧ ((46 ≤ M ∧ v = some (.int 1) ∧ own_G Z h g ct ob (own_P oN kk) md dd oo (own_P oN 46)) ∨ (M < 46 ∧ v = some (.int 0) ∧ own_G Z h g ct ob (own_P oN kk) md dd oo (own_P oN M)))
theorem rmLit_false (hw : own_HW Z a0) (Z0 : n0 ≤ h0.size) (Gq : own_G Z h0 g ct ob (own_P oN kk) md dd oo (own_P oN 41)) (g_g : n0 ≤ g) (At : Arv Z h0 ct kc .char (52 : Int32) tx (.int 0)) (hT : ∀ i, i < 49 → tx.getD (oN + i) (.int 0) = .int (cc i)) (H : own_H oN kk md M tf cc) (hM0 : 41 ≤ M) (E1 : Exa Z h0 x1 "java/lang/String") (V1 : Fld Z h0 x1 "java/lang/String" "value" "[B" (.ref t1)) (C1 : Fld Z h0 x1 "java/lang/String" "coder" "B" (.int 0)) (K1 : Arv Z h0 t1 kb .byte (5 : Int32) [(.int 102), (.int 97), (.int 108), (.int 115), (.int 101)] (.int 0)) (hcs : ¬ (cs = (0 : Int32))) (S_cs : Sta Z h0 "java/lang/String" "COMPACT_STRINGS" "Z" (.int cs)) (S_fm : Sta Z h0 "jdk/internal/util/Preconditions" "SIOOBE_FORMATTER" "Ljava/util/function/BiFunction;" fm) (rfm : fm.isRef = true) (ne_x1_g : x1 ≠ g) (ne_t1_g : t1 ≠ g) :
  own_MF l "dev/parlance/JsonGrammar" "literal" "(Ljava/lang/String;)Z" prog_6_method_10_code 3 (some .boolean) ⟨4, 0, 0, 54⟩ #[(.ref g), (.ref x1)] Z h0 (QrmLit_false Z g ct ob kc tx cc oN kk M tf md dd oo h0 n0) := by
 refine own_fst (plainFor_of_name own_pn31) (own_ef31 · g x1) fun p e s m below meth c s₁ hy hml hZ hown hnm hrt hlk X0 e0 => ?_
 have N0 := Fr.nil n0
 have Kp0 : Keep h0 h0 [g] := Keep.refl h0 _
 obtain ⟨⟨Eg, Ft, Fe, Fm, Fo, Fd, Fp, Fa⟩, ho, hk49, ne_ct_g⟩ := own_gi hw Gq At H
 refine own_ic X0 hy d31_0 ?_
 refine own_is X0 hy d31_1 (l' := #[.val (.ref g), .val (.ref x1), .val (.int 0)]) rfl ?_
 refine own_il X0 hy d31_2 rfl ?_
 refine own_al X0 hy d31_3 rfl rfl ?_
 refine own_cv X0 hy hZ hown (own_y14 hw) (rmLn_5 hw Z0 E1 V1 C1 K1 hcs S_cs) e0 E1 d31_4 own_pd9 hml fun v1 T1 L1 X1 hQ1 => ?_
 obtain ⟨rfl, N1q, e1⟩ := hQ1
 have N1 := Fr.app N0 N1q
 refine own_cn X1 hy d31_7 (tlt (by decide : ((0 : Int32) < (5 : Int32)))).2.1 ?_
 refine own_ae X1 hy hZ hown hw e1 Fa Fe a31_10 fun T2 X2 e2 => ?_
 rcases own_at H 41 (by decide) hM0 (by decide) with ⟨hm41, hk41, hg41⟩ | ⟨hm41, hk41⟩ | ⟨hm41, hk41, hb41⟩
 ·
  refine own_cn X2 hy d31_18 (feq (own_Pne ho hk49 hk41)).1 ?_
  refine own_tc X2 hy hZ hown hw e2 Ft Fa At ho hT (by decide) t31_21 fun T3 X3 e3 => ?_
  refine own_al X3 hy d31_30 rfl rfl ?_
  refine own_il X3 hy d31_31 rfl ?_
  refine own_cvg X3 hy hZ hown (own_y15 hw) (rmCA hw (0 : Int32) (102 : Int32) (102 : Int32) Z0 E1 V1 C1 K1 (by decide) (by decide) rfl (by decide) (by decide) hcs S_cs S_fm rfm) e3 E1 (S := [(.int (cc 41))]) rfl d31_32 own_pd10 hml fun v4 T4 L4 X4 hQ4 => ?_
  obtain ⟨rfl, N4q, e4⟩ := hQ4
  have N4 := Fr.app N1 N4q
  clear N1 N1q X1 e1 X2 e2 X3 e3 N4q
  refine own_cy X4 hy d31_35 40 (teq (show cc 41 = 102 from hg41)).1 ?_
  refine own_inc X4 hy hZ hown hw e4 ⟨Eg, Ft, Fe, Fm, Fo, Fd, Fp, Fa⟩ i31_40 42 fun T5 h5 X5 e5 W5 ⟨_, Ft, Fe, Fm, Fo, Fd, Fp, Fa⟩ => ?_
  replace S_cs := S_cs.wr W5
  replace S_fm := S_fm.wr W5
  replace Eg := Eg.wr W5
  replace At := At.other W5 ne_ct_g
  replace E1 := E1.wr W5
  replace V1 := V1.other W5 (Or.inl ne_x1_g)
  replace C1 := C1.other W5 (Or.inl ne_x1_g)
  replace K1 := K1.other W5 ne_t1_g
  have Z5 := own_zw Z0 W5
  have Kp5 := Kp0.wr W5 own_m0
  have N5 := Fr.snoc X5 N4 g_g
  refine own_ii X5 hy d31_50 rfl (l' := #[.val (.ref g), .val (.ref x1), .val (.int 1)]) rfl ?_
  refine own_gt X5 hy d31_53 2 ?_
  refine own_il X5 hy d31_2 rfl ?_
  refine own_al X5 hy d31_3 rfl rfl ?_
  refine own_cv X5 hy hZ hown (own_y14 hw) (rmLn_5 hw Z5 E1 V1 C1 K1 hcs S_cs) e5 E1 d31_4 own_pd9 hml fun v6 T6 L6 X6 hQ6 => ?_
  obtain ⟨rfl, N6q, e6⟩ := hQ6
  have N6 := Fr.app N5 N6q
  clear N4 X4 e4 X5 e5 W5 N5 N6q
  refine own_cn X6 hy d31_7 (tlt (by decide : ((1 : Int32) < (5 : Int32)))).2.1 ?_
  refine own_ae X6 hy hZ hown hw e6 Fa Fe a31_10 fun T7 X7 e7 => ?_
  rcases own_at H 42 (by decide) hm41 (by decide) with ⟨hm42, hk42, hg42⟩ | ⟨hm42, hk42⟩ | ⟨hm42, hk42, hb42⟩
  ·
   refine own_cn X7 hy d31_18 (feq (own_Pne ho hk49 hk42)).1 ?_
   refine own_tc X7 hy hZ hown hw e7 Ft Fa At ho hT (by decide) t31_21 fun T8 X8 e8 => ?_
   refine own_al X8 hy d31_30 rfl rfl ?_
   refine own_il X8 hy d31_31 rfl ?_
   refine own_cvg X8 hy hZ hown (own_y15 hw) (rmCA hw (1 : Int32) (97 : Int32) (97 : Int32) Z5 E1 V1 C1 K1 (by decide) (by decide) rfl (by decide) (by decide) hcs S_cs S_fm rfm) e8 E1 (S := [(.int (cc 42))]) rfl d31_32 own_pd10 hml fun v9 T9 L9 X9 hQ9 => ?_
   obtain ⟨rfl, N9q, e9⟩ := hQ9
   have N9 := Fr.app N6 N9q
   clear N6 X6 e6 X7 e7 X8 e8 N9q
   refine own_cy X9 hy d31_35 40 (teq (show cc 42 = 97 from hg42)).1 ?_
   refine own_inc X9 hy hZ hown hw e9 ⟨Eg, Ft, Fe, Fm, Fo, Fd, Fp, Fa⟩ i31_40 43 fun T10 h10 X10 e10 W10 ⟨_, Ft, Fe, Fm, Fo, Fd, Fp, Fa⟩ => ?_
   replace S_cs := S_cs.wr W10
   replace S_fm := S_fm.wr W10
   replace Eg := Eg.wr W10
   replace At := At.other W10 ne_ct_g
   replace E1 := E1.wr W10
   replace V1 := V1.other W10 (Or.inl ne_x1_g)
   replace C1 := C1.other W10 (Or.inl ne_x1_g)
   replace K1 := K1.other W10 ne_t1_g
   have Z10 := own_zw Z5 W10
   have Kp10 := Kp5.wr W10 own_m0
   have N10 := Fr.snoc X10 N9 g_g
   refine own_ii X10 hy d31_50 rfl (l' := #[.val (.ref g), .val (.ref x1), .val (.int 2)]) rfl ?_
   refine own_gt X10 hy d31_53 2 ?_
   refine own_il X10 hy d31_2 rfl ?_
   refine own_al X10 hy d31_3 rfl rfl ?_
   refine own_cv X10 hy hZ hown (own_y14 hw) (rmLn_5 hw Z10 E1 V1 C1 K1 hcs S_cs) e10 E1 d31_4 own_pd9 hml fun v11 T11 L11 X11 hQ11 => ?_
   obtain ⟨rfl, N11q, e11⟩ := hQ11
   have N11 := Fr.app N10 N11q
   clear Z5 Kp5 N9 X9 e9 X10 e10 W10 N10 N11q
   refine own_cn X11 hy d31_7 (tlt (by decide : ((2 : Int32) < (5 : Int32)))).2.1 ?_
   refine own_ae X11 hy hZ hown hw e11 Fa Fe a31_10 fun T12 X12 e12 => ?_
   rcases own_at H 43 (by decide) hm42 (by decide) with ⟨hm43, hk43, hg43⟩ | ⟨hm43, hk43⟩ | ⟨hm43, hk43, hb43⟩
   ·
    refine own_cn X12 hy d31_18 (feq (own_Pne ho hk49 hk43)).1 ?_
    refine own_tc X12 hy hZ hown hw e12 Ft Fa At ho hT (by decide) t31_21 fun T13 X13 e13 => ?_
    refine own_al X13 hy d31_30 rfl rfl ?_
    refine own_il X13 hy d31_31 rfl ?_
    refine own_cvg X13 hy hZ hown (own_y15 hw) (rmCA hw (2 : Int32) (108 : Int32) (108 : Int32) Z10 E1 V1 C1 K1 (by decide) (by decide) rfl (by decide) (by decide) hcs S_cs S_fm rfm) e13 E1 (S := [(.int (cc 43))]) rfl d31_32 own_pd10 hml fun v14 T14 L14 X14 hQ14 => ?_
    obtain ⟨rfl, N14q, e14⟩ := hQ14
    have N14 := Fr.app N11 N14q
    clear N11 X11 e11 X12 e12 X13 e13 N14q
    refine own_cy X14 hy d31_35 40 (teq (show cc 43 = 108 from hg43)).1 ?_
    refine own_inc X14 hy hZ hown hw e14 ⟨Eg, Ft, Fe, Fm, Fo, Fd, Fp, Fa⟩ i31_40 44 fun T15 h15 X15 e15 W15 ⟨_, Ft, Fe, Fm, Fo, Fd, Fp, Fa⟩ => ?_
    replace S_cs := S_cs.wr W15
    replace S_fm := S_fm.wr W15
    replace Eg := Eg.wr W15
    replace At := At.other W15 ne_ct_g
    replace E1 := E1.wr W15
    replace V1 := V1.other W15 (Or.inl ne_x1_g)
    replace C1 := C1.other W15 (Or.inl ne_x1_g)
    replace K1 := K1.other W15 ne_t1_g
    have Z15 := own_zw Z10 W15
    have Kp15 := Kp10.wr W15 own_m0
    have N15 := Fr.snoc X15 N14 g_g
    refine own_ii X15 hy d31_50 rfl (l' := #[.val (.ref g), .val (.ref x1), .val (.int 3)]) rfl ?_
    refine own_gt X15 hy d31_53 2 ?_
    refine own_il X15 hy d31_2 rfl ?_
    refine own_al X15 hy d31_3 rfl rfl ?_
    refine own_cv X15 hy hZ hown (own_y14 hw) (rmLn_5 hw Z15 E1 V1 C1 K1 hcs S_cs) e15 E1 d31_4 own_pd9 hml fun v16 T16 L16 X16 hQ16 => ?_
    obtain ⟨rfl, N16q, e16⟩ := hQ16
    have N16 := Fr.app N15 N16q
    clear Z10 Kp10 N14 X14 e14 X15 e15 W15 N15 N16q
    refine own_cn X16 hy d31_7 (tlt (by decide : ((3 : Int32) < (5 : Int32)))).2.1 ?_
    refine own_ae X16 hy hZ hown hw e16 Fa Fe a31_10 fun T17 X17 e17 => ?_
    rcases own_at H 44 (by decide) hm43 (by decide) with ⟨hm44, hk44, hg44⟩ | ⟨hm44, hk44⟩ | ⟨hm44, hk44, hb44⟩
    ·
     refine own_cn X17 hy d31_18 (feq (own_Pne ho hk49 hk44)).1 ?_
     refine own_tc X17 hy hZ hown hw e17 Ft Fa At ho hT (by decide) t31_21 fun T18 X18 e18 => ?_
     refine own_al X18 hy d31_30 rfl rfl ?_
     refine own_il X18 hy d31_31 rfl ?_
     refine own_cvg X18 hy hZ hown (own_y15 hw) (rmCA hw (3 : Int32) (115 : Int32) (115 : Int32) Z15 E1 V1 C1 K1 (by decide) (by decide) rfl (by decide) (by decide) hcs S_cs S_fm rfm) e18 E1 (S := [(.int (cc 44))]) rfl d31_32 own_pd10 hml fun v19 T19 L19 X19 hQ19 => ?_
     obtain ⟨rfl, N19q, e19⟩ := hQ19
     have N19 := Fr.app N16 N19q
     clear N16 X16 e16 X17 e17 X18 e18 N19q
     refine own_cy X19 hy d31_35 40 (teq (show cc 44 = 115 from hg44)).1 ?_
     refine own_inc X19 hy hZ hown hw e19 ⟨Eg, Ft, Fe, Fm, Fo, Fd, Fp, Fa⟩ i31_40 45 fun T20 h20 X20 e20 W20 ⟨_, Ft, Fe, Fm, Fo, Fd, Fp, Fa⟩ => ?_
     replace S_cs := S_cs.wr W20
     replace S_fm := S_fm.wr W20
     replace Eg := Eg.wr W20
     replace At := At.other W20 ne_ct_g
     replace E1 := E1.wr W20
     replace V1 := V1.other W20 (Or.inl ne_x1_g)
     replace C1 := C1.other W20 (Or.inl ne_x1_g)
     replace K1 := K1.other W20 ne_t1_g
     have Z20 := own_zw Z15 W20
     have Kp20 := Kp15.wr W20 own_m0
     have N20 := Fr.snoc X20 N19 g_g
     refine own_ii X20 hy d31_50 rfl (l' := #[.val (.ref g), .val (.ref x1), .val (.int 4)]) rfl ?_
     refine own_gt X20 hy d31_53 2 ?_
     refine own_il X20 hy d31_2 rfl ?_
     refine own_al X20 hy d31_3 rfl rfl ?_
     refine own_cv X20 hy hZ hown (own_y14 hw) (rmLn_5 hw Z20 E1 V1 C1 K1 hcs S_cs) e20 E1 d31_4 own_pd9 hml fun v21 T21 L21 X21 hQ21 => ?_
     obtain ⟨rfl, N21q, e21⟩ := hQ21
     have N21 := Fr.app N20 N21q
     clear Z15 Kp15 N19 X19 e19 X20 e20 W20 N20 N21q
     refine own_cn X21 hy d31_7 (tlt (by decide : ((4 : Int32) < (5 : Int32)))).2.1 ?_
     refine own_ae X21 hy hZ hown hw e21 Fa Fe a31_10 fun T22 X22 e22 => ?_
     rcases own_at H 45 (by decide) hm44 (by decide) with ⟨hm45, hk45, hg45⟩ | ⟨hm45, hk45⟩ | ⟨hm45, hk45, hb45⟩
     ·
      refine own_cn X22 hy d31_18 (feq (own_Pne ho hk49 hk45)).1 ?_
      refine own_tc X22 hy hZ hown hw e22 Ft Fa At ho hT (by decide) t31_21 fun T23 X23 e23 => ?_
      refine own_al X23 hy d31_30 rfl rfl ?_
      refine own_il X23 hy d31_31 rfl ?_
      refine own_cvg X23 hy hZ hown (own_y15 hw) (rmCA hw (4 : Int32) (101 : Int32) (101 : Int32) Z20 E1 V1 C1 K1 (by decide) (by decide) rfl (by decide) (by decide) hcs S_cs S_fm rfm) e23 E1 (S := [(.int (cc 45))]) rfl d31_32 own_pd10 hml fun v24 T24 L24 X24 hQ24 => ?_
      obtain ⟨rfl, N24q, e24⟩ := hQ24
      have N24 := Fr.app N21 N24q
      clear N21 X21 e21 X22 e22 X23 e23 N24q
      refine own_cy X24 hy d31_35 40 (teq (show cc 45 = 101 from hg45)).1 ?_
      refine own_inc X24 hy hZ hown hw e24 ⟨Eg, Ft, Fe, Fm, Fo, Fd, Fp, Fa⟩ i31_40 46 fun T25 h25 X25 e25 W25 ⟨_, Ft, Fe, Fm, Fo, Fd, Fp, Fa⟩ => ?_
      replace S_cs := S_cs.wr W25
      replace S_fm := S_fm.wr W25
      replace Eg := Eg.wr W25
      replace At := At.other W25 ne_ct_g
      replace E1 := E1.wr W25
      replace V1 := V1.other W25 (Or.inl ne_x1_g)
      replace C1 := C1.other W25 (Or.inl ne_x1_g)
      replace K1 := K1.other W25 ne_t1_g
      have Z25 := own_zw Z20 W25
      have Kp25 := Kp20.wr W25 own_m0
      have N25 := Fr.snoc X25 N24 g_g
      refine own_ii X25 hy d31_50 rfl (l' := #[.val (.ref g), .val (.ref x1), .val (.int 5)]) rfl ?_
      refine own_gt X25 hy d31_53 2 ?_
      refine own_il X25 hy d31_2 rfl ?_
      refine own_al X25 hy d31_3 rfl rfl ?_
      refine own_cv X25 hy hZ hown (own_y14 hw) (rmLn_5 hw Z25 E1 V1 C1 K1 hcs S_cs) e25 E1 d31_4 own_pd9 hml fun v26 T26 L26 X26 hQ26 => ?_
      obtain ⟨rfl, N26q, e26⟩ := hQ26
      have N26 := Fr.app N25 N26q
      clear Z20 Kp20 N24 X24 e24 X25 e25 W25 N25 N26q
      refine own_cy X26 hy d31_7 56 (flt (by decide : ¬ ((5 : Int32) < (5 : Int32)))).2.1 ?_
      refine own_ic X26 hy d31_56 ?_
      exact own_rT X26 hy hrt hlk d31_57 e26 ⟨N26, Kp25, Or.inl ⟨hm45, rfl, ⟨Eg, Ft, Fe, Fm, Fo, Fd, Fp, Fa⟩⟩⟩
     ·
      refine own_cy X22 hy d31_18 38 (teq (own_Peq hk45)).1 ?_
      refine own_ic X22 hy d31_38 ?_
      exact own_rF X22 hy hrt hlk d31_39 e22 ⟨N21, Kp20, Or.inr ⟨by omega, rfl, by rw [hm45]; exact ⟨Eg, Ft, Fe, Fm, Fo, Fd, Fp, Fa⟩⟩⟩
     ·
      refine own_cn X22 hy d31_18 (feq (own_Pne ho hk49 hk45)).1 ?_
      refine own_tc X22 hy hZ hown hw e22 Ft Fa At ho hT (by decide) t31_21 fun T27 X27 e27 => ?_
      refine own_al X27 hy d31_30 rfl rfl ?_
      refine own_il X27 hy d31_31 rfl ?_
      refine own_cvg X27 hy hZ hown (own_y15 hw) (rmCA hw (4 : Int32) (101 : Int32) (101 : Int32) Z20 E1 V1 C1 K1 (by decide) (by decide) rfl (by decide) (by decide) hcs S_cs S_fm rfm) e27 E1 (S := [(.int (cc 45))]) rfl d31_32 own_pd10 hml fun v28 T28 L28 X28 hQ28 => ?_
      obtain ⟨rfl, N28q, e28⟩ := hQ28
      have N28 := Fr.app N21 N28q
      clear N21 X21 e21 X22 e22 X27 e27 N28q
      refine own_cn X28 hy d31_35 (feq (own_bne hb45 (by decide))).1 ?_
      refine own_ic X28 hy d31_38 ?_
      exact own_rF X28 hy hrt hlk d31_39 e28 ⟨N28, Kp20, Or.inr ⟨by omega, rfl, by rw [hm45]; exact ⟨Eg, Ft, Fe, Fm, Fo, Fd, Fp, Fa⟩⟩⟩
    ·
     refine own_cy X17 hy d31_18 38 (teq (own_Peq hk44)).1 ?_
     refine own_ic X17 hy d31_38 ?_
     exact own_rF X17 hy hrt hlk d31_39 e17 ⟨N16, Kp15, Or.inr ⟨by omega, rfl, by rw [hm44]; exact ⟨Eg, Ft, Fe, Fm, Fo, Fd, Fp, Fa⟩⟩⟩
    ·
     refine own_cn X17 hy d31_18 (feq (own_Pne ho hk49 hk44)).1 ?_
     refine own_tc X17 hy hZ hown hw e17 Ft Fa At ho hT (by decide) t31_21 fun T29 X29 e29 => ?_
     refine own_al X29 hy d31_30 rfl rfl ?_
     refine own_il X29 hy d31_31 rfl ?_
     refine own_cvg X29 hy hZ hown (own_y15 hw) (rmCA hw (3 : Int32) (115 : Int32) (115 : Int32) Z15 E1 V1 C1 K1 (by decide) (by decide) rfl (by decide) (by decide) hcs S_cs S_fm rfm) e29 E1 (S := [(.int (cc 44))]) rfl d31_32 own_pd10 hml fun v30 T30 L30 X30 hQ30 => ?_
     obtain ⟨rfl, N30q, e30⟩ := hQ30
     have N30 := Fr.app N16 N30q
     clear N16 X16 e16 X17 e17 X29 e29 N30q
     refine own_cn X30 hy d31_35 (feq (own_bne hb44 (by decide))).1 ?_
     refine own_ic X30 hy d31_38 ?_
     exact own_rF X30 hy hrt hlk d31_39 e30 ⟨N30, Kp15, Or.inr ⟨by omega, rfl, by rw [hm44]; exact ⟨Eg, Ft, Fe, Fm, Fo, Fd, Fp, Fa⟩⟩⟩
   ·
    refine own_cy X12 hy d31_18 38 (teq (own_Peq hk43)).1 ?_
    refine own_ic X12 hy d31_38 ?_
    exact own_rF X12 hy hrt hlk d31_39 e12 ⟨N11, Kp10, Or.inr ⟨by omega, rfl, by rw [hm43]; exact ⟨Eg, Ft, Fe, Fm, Fo, Fd, Fp, Fa⟩⟩⟩
   ·
    refine own_cn X12 hy d31_18 (feq (own_Pne ho hk49 hk43)).1 ?_
    refine own_tc X12 hy hZ hown hw e12 Ft Fa At ho hT (by decide) t31_21 fun T31 X31 e31 => ?_
    refine own_al X31 hy d31_30 rfl rfl ?_
    refine own_il X31 hy d31_31 rfl ?_
    refine own_cvg X31 hy hZ hown (own_y15 hw) (rmCA hw (2 : Int32) (108 : Int32) (108 : Int32) Z10 E1 V1 C1 K1 (by decide) (by decide) rfl (by decide) (by decide) hcs S_cs S_fm rfm) e31 E1 (S := [(.int (cc 43))]) rfl d31_32 own_pd10 hml fun v32 T32 L32 X32 hQ32 => ?_
    obtain ⟨rfl, N32q, e32⟩ := hQ32
    have N32 := Fr.app N11 N32q
    clear N11 X11 e11 X12 e12 X31 e31 N32q
    refine own_cn X32 hy d31_35 (feq (own_bne hb43 (by decide))).1 ?_
    refine own_ic X32 hy d31_38 ?_
    exact own_rF X32 hy hrt hlk d31_39 e32 ⟨N32, Kp10, Or.inr ⟨by omega, rfl, by rw [hm43]; exact ⟨Eg, Ft, Fe, Fm, Fo, Fd, Fp, Fa⟩⟩⟩
  ·
   refine own_cy X7 hy d31_18 38 (teq (own_Peq hk42)).1 ?_
   refine own_ic X7 hy d31_38 ?_
   exact own_rF X7 hy hrt hlk d31_39 e7 ⟨N6, Kp5, Or.inr ⟨by omega, rfl, by rw [hm42]; exact ⟨Eg, Ft, Fe, Fm, Fo, Fd, Fp, Fa⟩⟩⟩
  ·
   refine own_cn X7 hy d31_18 (feq (own_Pne ho hk49 hk42)).1 ?_
   refine own_tc X7 hy hZ hown hw e7 Ft Fa At ho hT (by decide) t31_21 fun T33 X33 e33 => ?_
   refine own_al X33 hy d31_30 rfl rfl ?_
   refine own_il X33 hy d31_31 rfl ?_
   refine own_cvg X33 hy hZ hown (own_y15 hw) (rmCA hw (1 : Int32) (97 : Int32) (97 : Int32) Z5 E1 V1 C1 K1 (by decide) (by decide) rfl (by decide) (by decide) hcs S_cs S_fm rfm) e33 E1 (S := [(.int (cc 42))]) rfl d31_32 own_pd10 hml fun v34 T34 L34 X34 hQ34 => ?_
   obtain ⟨rfl, N34q, e34⟩ := hQ34
   have N34 := Fr.app N6 N34q
   clear N6 X6 e6 X7 e7 X33 e33 N34q
   refine own_cn X34 hy d31_35 (feq (own_bne hb42 (by decide))).1 ?_
   refine own_ic X34 hy d31_38 ?_
   exact own_rF X34 hy hrt hlk d31_39 e34 ⟨N34, Kp5, Or.inr ⟨by omega, rfl, by rw [hm42]; exact ⟨Eg, Ft, Fe, Fm, Fo, Fd, Fp, Fa⟩⟩⟩
 ·
  refine own_cy X2 hy d31_18 38 (teq (own_Peq hk41)).1 ?_
  refine own_ic X2 hy d31_38 ?_
  exact own_rF X2 hy hrt hlk d31_39 e2 ⟨N1, Kp0, Or.inr ⟨by omega, rfl, by rw [hm41]; exact ⟨Eg, Ft, Fe, Fm, Fo, Fd, Fp, Fa⟩⟩⟩
 ·
  refine own_cn X2 hy d31_18 (feq (own_Pne ho hk49 hk41)).1 ?_
  refine own_tc X2 hy hZ hown hw e2 Ft Fa At ho hT (by decide) t31_21 fun T35 X35 e35 => ?_
  refine own_al X35 hy d31_30 rfl rfl ?_
  refine own_il X35 hy d31_31 rfl ?_
  refine own_cvg X35 hy hZ hown (own_y15 hw) (rmCA hw (0 : Int32) (102 : Int32) (102 : Int32) Z0 E1 V1 C1 K1 (by decide) (by decide) rfl (by decide) (by decide) hcs S_cs S_fm rfm) e35 E1 (S := [(.int (cc 41))]) rfl d31_32 own_pd10 hml fun v36 T36 L36 X36 hQ36 => ?_
  obtain ⟨rfl, N36q, e36⟩ := hQ36
  have N36 := Fr.app N1 N36q
  clear N1 N1q X1 e1 X2 e2 X35 e35 N36q
  refine own_cn X36 hy d31_35 (feq (own_bne hb41 (by decide))).1 ?_
  refine own_ic X36 hy d31_38 ?_
  exact own_rF X36 hy hrt hlk d31_39 e36 ⟨N36, Kp0, Or.inr ⟨by omega, rfl, by rw [hm41]; exact ⟨Eg, Ft, Fe, Fm, Fo, Fd, Fp, Fa⟩⟩⟩
theorem d16_0 : decode C16 0 = .ok (.aload_n 0, 1) := by decide +kernel
theorem d16_1 : decode C16 1 = .ok (.getfield 24, 3) := by decide +kernel
theorem d16_4 : decode C16 4 = .ok (.aload_n 0, 1) := by decide +kernel
theorem d16_5 : decode C16 5 = .ok (.getfield 21, 3) := by decide +kernel
theorem d16_8 : decode C16 8 = .ok (.if_icmp .ne 5, 3) := by decide +kernel
theorem d16_13 : decode C16 13 = .ok (.aload_n 0, 1) := by decide +kernel
theorem d16_14 : decode C16 14 = .ok (.getfield 24, 3) := by decide +kernel
theorem d16_17 : decode C16 17 = .ok (.aload_n 0, 1) := by decide +kernel
theorem d16_18 : decode C16 18 = .ok (.getfield 7, 3) := by decide +kernel
theorem d16_21 : decode C16 21 = .ok (.arraylength, 1) := by decide +kernel
theorem d16_22 : decode C16 22 = .ok (.if_icmp .ne 20, 3) := by decide +kernel
theorem d16_42 : decode C16 42 = .ok (.aload_n 0, 1) := by decide +kernel
theorem d16_43 : decode C16 43 = .ok (.getfield 7, 3) := by decide +kernel
theorem d16_46 : decode C16 46 = .ok (.aload_n 0, 1) := by decide +kernel
theorem d16_47 : decode C16 47 = .ok (.dup, 1) := by decide +kernel
theorem d16_48 : decode C16 48 = .ok (.getfield 24, 3) := by decide +kernel
theorem d16_51 : decode C16 51 = .ok (.dup_x1, 1) := by decide +kernel
theorem d16_52 : decode C16 52 = .ok (.iconst 1, 1) := by decide +kernel
theorem d16_53 : decode C16 53 = .ok (.iadd, 1) := by decide +kernel
theorem d16_54 : decode C16 54 = .ok (.putfield 24, 3) := by decide +kernel
theorem d16_57 : decode C16 57 = .ok (.iload_n 1, 1) := by decide +kernel
theorem d16_58 : decode C16 58 = .ok (.bastore, 1) := by decide +kernel
theorem d16_59 : decode C16 59 = .ok (.aload_n 0, 1) := by decide +kernel
theorem d16_60 : decode C16 60 = .ok (.iconst 1, 1) := by decide +kernel
theorem d16_61 : decode C16 61 = .ok (.putfield 37, 3) := by decide +kernel
theorem d16_64 : decode C16 64 = .ok (.aload_n 0, 1) := by decide +kernel
theorem d16_74 : decode C16 74 = .ok (.iconst 1, 1) := by decide +kernel
theorem d16_75 : decode C16 75 = .ok (.ireturn, 1) := by decide +kernel
theorem own_pn16 : plainName "dev/parlance/JsonGrammar" = true := by first | (simp [plainName, overriddenIn]; done) | decide +kernel
theorem own_ef16 (m : MethodId) (x0 : Addr) (x1 : Int32) : entryFrame m #[(.ref x0), (.int x1)] 2 = mkF m 0 #[.val (.ref x0), .val (.int x1)] [] := by first | (simp [entryFrame, mkF, argsToLocals, Value.category]; done) | rfl
def QrmOp_0_1 (Z : State) (g ct ob : Addr) (kc : ClassId) (tx : List Value) (cc : Nat → Int32) (oN kk M : Nat) (tf : Bool) (md oo : Int32) (ko : ClassId) (w0 w1 w2 w3 w4 w5 w6 w7 w8 w9 w10 w11 w12 w13 w14 w15 : Value) (i : Nat) (h0 : Heap) (n0 : Nat) (v : Option Value) (h : Heap) (L : List Loc) : Prop := v = some (.int 1) ∧ Fr n0 L ∧ Keep h0 h [g, ob] ∧ own_G Z h g ct ob (own_P oN kk) md (1 : Int32) (1 : Int32) (own_P oN (i + 1)) ∧ Arv Z h ob ko .boolean (16 : Int32) [(.int 1), w1, w2, w3, w4, w5, w6, w7, w8, w9, w10, w11, w12, w13, w14, w15] (.int 0)
theorem rmOp_0_1 (hw : own_HW Z a0) (Z0 : n0 ≤ h0.size) (Gq : own_G Z h0 g ct ob (own_P oN kk) md (0 : Int32) oo (own_P oN i)) (g_g : n0 ≤ g) (At : Arv Z h0 ct kc .char (52 : Int32) tx (.int 0)) (hT : ∀ i, i < 49 → tx.getD (oN + i) (.int 0) = .int (cc i)) (H : own_H oN kk md M tf cc) (Ao : Arv Z h0 ob ko .boolean (16 : Int32) [w0, w1, w2, w3, w4, w5, w6, w7, w8, w9, w10, w11, w12, w13, w14, w15] (.int 0)) (g_ob : n0 ≤ ob) (hd : ¬ (0 : Int32) = md) :
  own_MF l "dev/parlance/JsonGrammar" "open" "(Z)Z" prog_6_method_5_code 2 (some .boolean) ⟨0, 0, 0, 0⟩ #[(.ref g), (.int 1)] Z h0 (QrmOp_0_1 Z g ct ob kc tx cc oN kk M tf md oo ko w0 w1 w2 w3 w4 w5 w6 w7 w8 w9 w10 w11 w12 w13 w14 w15 i h0 n0) := by
 refine own_fst (plainFor_of_name own_pn16) (own_ef16 · g (1 : Int32)) fun p e s m below meth c s₁ hy hml hZ hown hnm hrt hlk X0 e0 => ?_
 have N0 := Fr.nil n0
 have Kp0 : Keep h0 h0 [g, ob] := Keep.refl h0 _
 obtain ⟨⟨Eg, Ft, Fe, Fm, Fo, Fd, Fp, Fa⟩, ho, hk49, ne_ct_g⟩ := own_gi hw Gq At H
 have ne_ob_g : ob ≠ g := Ne.symm (own_neA Eg (own_w hw 54 rfl) Ao)
 have ne_ct_ob : ct ≠ ob := arv_ne At Ao (Or.inl (by decide))
 refine own_al X0 hy d16_0 rfl rfl ?_
 refine own_gf X0 hy hZ hown (host := "") (Or.inl (own_w hw 76 rfl)) Via.refl e0 Fd d16_1 fun T2 X2 e2 => ?_
 refine own_al X2 hy d16_4 rfl rfl ?_
 refine own_gf X2 hy hZ hown (host := "") (Or.inl (own_w hw 69 rfl)) Via.refl e2 Fm d16_5 fun T3 X3 e3 => ?_
 refine own_cy X3 hy d16_8 13 (feq hd).2 ?_
 refine own_al X3 hy d16_13 rfl rfl ?_
 refine own_gf X3 hy hZ hown (host := "") (Or.inl (own_w hw 76 rfl)) Via.refl e3 Fd d16_14 fun T5 X5 e5 => ?_
 refine own_al X5 hy d16_17 rfl rfl ?_
 refine own_gf X5 hy hZ hown (host := "") (Or.inl (own_w hw 63 rfl)) Via.refl e5 Fo d16_18 fun T6 X6 e6 => ?_
 refine own_ln X6 hy hZ e6 Ao d16_21 ?_
 refine own_cy X6 hy d16_22 42 (feq (by decide : ¬ ((0 : Int32) = (16 : Int32)))).2 ?_
 refine own_al X6 hy d16_42 rfl rfl ?_
 refine own_gf X6 hy hZ hown (host := "") (Or.inl (own_w hw 63 rfl)) Via.refl e6 Fo d16_43 fun T8 X8 e8 => ?_
 clear X2 e2 X3 e3 X5 e5 X6 e6
 refine own_al X8 hy d16_46 rfl rfl ?_
 refine own_dp X8 hy d16_47 rfl ?_
 refine own_gf X8 hy hZ hown (host := "") (Or.inl (own_w hw 76 rfl)) Via.refl e8 Fd d16_48 fun T9 X9 e9 => ?_
 refine own_dx X9 hy d16_51 rfl rfl ?_
 refine own_ic X9 hy d16_52 ?_
 refine own_ad X9 hy d16_53 ?_
 refine own_pf X9 hy hZ hown (host := "") (Or.inl (own_w hw 76 rfl)) Via.refl e9 Fd Eg (Or.inl (own_w hw 77 rfl)) (own_w hw 54 rfl) (ty := .int) (by decide) rfl rfl d16_54 fun T10 h10 X10 e10 W10 => ?_
 replace At := At.other W10 ne_ct_g
 replace Ao := Ao.other W10 ne_ob_g
 have Z10 := own_zw Z0 W10
 have Kp10 := Kp0.wr W10 own_m0
 obtain ⟨Eg, Ft, Fe, Fm, Fo, Fd, Fp, Fa⟩ := own_Gde hw ⟨Eg, Ft, Fe, Fm, Fo, Fd, Fp, Fa⟩ W10 rfl
 have N10 := Fr.snoc X10 N0 g_g
 refine own_il X10 hy d16_57 rfl ?_
 obtain ⟨cl11, Ar11, q11, S11, M11, H11, G11⟩ := id Ao
 have hin11 : ¬ ((0 : Int32) < 0 ∨ cl11.slots.size ≤ ((0 : Int32)).toNatClampNeg) := inb_of S11 ⟨by decide, by decide⟩
 obtain ⟨T11, h11, X11, e11, W11, st11⟩ := stZ X10 hy.1 hZ e10 Ar11 (j := (0 : Int32)) hin11 (g := (mkF m 58 #[.val (.ref g), .val (.int 1)] [(.int 1), (.int 0), (.ref ob)])) rfl rfl (hb hy.2 d16_58)
 have Aw11 := Arv.set Ar11 q11 S11 M11 H11 G11 (fits_nar_bool _) W11 0 rfl (Nat.le_of_ble_eq_true rfl)
 replace Eg := Eg.wr W11
 replace Ft := Ft.other W11 (Or.inl (Ne.symm ne_ob_g))
 replace Fe := Fe.other W11 (Or.inl (Ne.symm ne_ob_g))
 replace Fm := Fm.other W11 (Or.inl (Ne.symm ne_ob_g))
 replace Fo := Fo.other W11 (Or.inl (Ne.symm ne_ob_g))
 replace Fd := Fd.other W11 (Or.inl (Ne.symm ne_ob_g))
 replace Fp := Fp.other W11 (Or.inl (Ne.symm ne_ob_g))
 replace Fa := Fa.other W11 (Or.inl (Ne.symm ne_ob_g))
 replace At := At.other W11 ne_ct_ob
 have Z11 := own_zw Z10 W11
 have Kp11 := Kp10.wr W11 own_m1
 have Av_ob : Arv Z h11 ob ko .boolean (16 : Int32) [(.int (nar .boolean (1 : Int32))), w1, w2, w3, w4, w5, w6, w7, w8, w9, w10, w11, w12, w13, w14, w15] (.int 0) := Aw11
 have N11 := Fr.snoc X11 N10 g_ob
 refine own_go (A := T11.setTop (mkF m 59 #[.val (.ref g), .val (.int 1)] [])) (fun _ kz => st11 _ kz) ?_
 clear X8 e8 X9 e9 X10 e10 W10 N10 Z10 Kp10 st11
 have AoN : Arv Z h11 ob ko .boolean (16 : Int32) [(.int 1), w1, w2, w3, w4, w5, w6, w7, w8, w9, w10, w11, w12, w13, w14, w15] (.int 0) := Av_ob
 refine own_al X11 hy d16_59 rfl rfl ?_
 refine own_ic X11 hy d16_60 ?_
 refine own_pn X11 hy hZ hown (own_w hw 95 rfl) Via.refl e11 Fp Eg (Or.inl (own_w hw 96 rfl)) (own_w hw 54 rfl) (ty := .boolean) (v' := (.int 1)) (by decide) rfl (by first | exact fits_nar_bool _ | decide) d16_61 fun T12 h12 X12 e12 W12 => ?_
 replace At := At.other W12 ne_ct_g
 replace AoN := AoN.other W12 ne_ob_g
 have Z12 := own_zw Z11 W12
 have Kp12 := Kp11.wr W12 own_m0
 obtain ⟨Eg, Ft, Fe, Fm, Fo, Fd, Fp, Fa⟩ := own_Gop hw ⟨Eg, Ft, Fe, Fm, Fo, Fd, Fp, Fa⟩ W12 rfl
 have N12 := Fr.snoc X12 N11 g_g
 refine own_inc X12 hy hZ hown hw e12 ⟨Eg, Ft, Fe, Fm, Fo, Fd, Fp, Fa⟩ i16_64 (i + 1) fun T13 h13 X13 e13 W13 ⟨_, Ft, Fe, Fm, Fo, Fd, Fp, Fa⟩ => ?_
 replace Eg := Eg.wr W13
 replace At := At.other W13 ne_ct_g
 replace AoN := AoN.other W13 ne_ob_g
 have Z13 := own_zw Z12 W13
 have Kp13 := Kp12.wr W13 own_m0
 have N13 := Fr.snoc X13 N12 g_g
 clear X11 e11 X12 e12 W12 N12 Z12 Kp12 W13
 refine own_ic X13 hy d16_74 ?_
 exact own_rT X13 hy hrt hlk d16_75 e13 ⟨rfl, N13, Kp13, ⟨Eg, Ft, Fe, Fm, Fo, Fd, Fp, Fa⟩, AoN⟩
def QrmOp_1_0 (Z : State) (g ct ob : Addr) (kc : ClassId) (tx : List Value) (cc : Nat → Int32) (oN kk M : Nat) (tf : Bool) (md oo : Int32) (ko : ClassId) (w0 w1 w2 w3 w4 w5 w6 w7 w8 w9 w10 w11 w12 w13 w14 w15 : Value) (i : Nat) (h0 : Heap) (n0 : Nat) (v : Option Value) (h : Heap) (L : List Loc) : Prop := v = some (.int 1) ∧ Fr n0 L ∧ Keep h0 h [g, ob] ∧ own_G Z h g ct ob (own_P oN kk) md (2 : Int32) (1 : Int32) (own_P oN (i + 1)) ∧ Arv Z h ob ko .boolean (16 : Int32) [w0, (.int 0), w2, w3, w4, w5, w6, w7, w8, w9, w10, w11, w12, w13, w14, w15] (.int 0)
theorem rmOp_1_0 (hw : own_HW Z a0) (Z0 : n0 ≤ h0.size) (Gq : own_G Z h0 g ct ob (own_P oN kk) md (1 : Int32) oo (own_P oN i)) (g_g : n0 ≤ g) (At : Arv Z h0 ct kc .char (52 : Int32) tx (.int 0)) (hT : ∀ i, i < 49 → tx.getD (oN + i) (.int 0) = .int (cc i)) (H : own_H oN kk md M tf cc) (Ao : Arv Z h0 ob ko .boolean (16 : Int32) [w0, w1, w2, w3, w4, w5, w6, w7, w8, w9, w10, w11, w12, w13, w14, w15] (.int 0)) (g_ob : n0 ≤ ob) (hd : ¬ (1 : Int32) = md) :
  own_MF l "dev/parlance/JsonGrammar" "open" "(Z)Z" prog_6_method_5_code 2 (some .boolean) ⟨0, 0, 0, 0⟩ #[(.ref g), (.int 0)] Z h0 (QrmOp_1_0 Z g ct ob kc tx cc oN kk M tf md oo ko w0 w1 w2 w3 w4 w5 w6 w7 w8 w9 w10 w11 w12 w13 w14 w15 i h0 n0) := by
 refine own_fst (plainFor_of_name own_pn16) (own_ef16 · g (0 : Int32)) fun p e s m below meth c s₁ hy hml hZ hown hnm hrt hlk X0 e0 => ?_
 have N0 := Fr.nil n0
 have Kp0 : Keep h0 h0 [g, ob] := Keep.refl h0 _
 obtain ⟨⟨Eg, Ft, Fe, Fm, Fo, Fd, Fp, Fa⟩, ho, hk49, ne_ct_g⟩ := own_gi hw Gq At H
 have ne_ob_g : ob ≠ g := Ne.symm (own_neA Eg (own_w hw 54 rfl) Ao)
 have ne_ct_ob : ct ≠ ob := arv_ne At Ao (Or.inl (by decide))
 refine own_al X0 hy d16_0 rfl rfl ?_
 refine own_gf X0 hy hZ hown (host := "") (Or.inl (own_w hw 76 rfl)) Via.refl e0 Fd d16_1 fun T2 X2 e2 => ?_
 refine own_al X2 hy d16_4 rfl rfl ?_
 refine own_gf X2 hy hZ hown (host := "") (Or.inl (own_w hw 69 rfl)) Via.refl e2 Fm d16_5 fun T3 X3 e3 => ?_
 refine own_cy X3 hy d16_8 13 (feq hd).2 ?_
 refine own_al X3 hy d16_13 rfl rfl ?_
 refine own_gf X3 hy hZ hown (host := "") (Or.inl (own_w hw 76 rfl)) Via.refl e3 Fd d16_14 fun T5 X5 e5 => ?_
 refine own_al X5 hy d16_17 rfl rfl ?_
 refine own_gf X5 hy hZ hown (host := "") (Or.inl (own_w hw 63 rfl)) Via.refl e5 Fo d16_18 fun T6 X6 e6 => ?_
 refine own_ln X6 hy hZ e6 Ao d16_21 ?_
 refine own_cy X6 hy d16_22 42 (feq (by decide : ¬ ((1 : Int32) = (16 : Int32)))).2 ?_
 refine own_al X6 hy d16_42 rfl rfl ?_
 refine own_gf X6 hy hZ hown (host := "") (Or.inl (own_w hw 63 rfl)) Via.refl e6 Fo d16_43 fun T8 X8 e8 => ?_
 clear X2 e2 X3 e3 X5 e5 X6 e6
 refine own_al X8 hy d16_46 rfl rfl ?_
 refine own_dp X8 hy d16_47 rfl ?_
 refine own_gf X8 hy hZ hown (host := "") (Or.inl (own_w hw 76 rfl)) Via.refl e8 Fd d16_48 fun T9 X9 e9 => ?_
 refine own_dx X9 hy d16_51 rfl rfl ?_
 refine own_ic X9 hy d16_52 ?_
 refine own_ad X9 hy d16_53 ?_
 refine own_pf X9 hy hZ hown (host := "") (Or.inl (own_w hw 76 rfl)) Via.refl e9 Fd Eg (Or.inl (own_w hw 77 rfl)) (own_w hw 54 rfl) (ty := .int) (by decide) rfl rfl d16_54 fun T10 h10 X10 e10 W10 => ?_
 replace At := At.other W10 ne_ct_g
 replace Ao := Ao.other W10 ne_ob_g
 have Z10 := own_zw Z0 W10
 have Kp10 := Kp0.wr W10 own_m0
 obtain ⟨Eg, Ft, Fe, Fm, Fo, Fd, Fp, Fa⟩ := own_Gde hw ⟨Eg, Ft, Fe, Fm, Fo, Fd, Fp, Fa⟩ W10 rfl
 have N10 := Fr.snoc X10 N0 g_g
 refine own_il X10 hy d16_57 rfl ?_
 obtain ⟨cl11, Ar11, q11, S11, M11, H11, G11⟩ := id Ao
 have hin11 : ¬ ((1 : Int32) < 0 ∨ cl11.slots.size ≤ ((1 : Int32)).toNatClampNeg) := inb_of S11 ⟨by decide, by decide⟩
 obtain ⟨T11, h11, X11, e11, W11, st11⟩ := stZ X10 hy.1 hZ e10 Ar11 (j := (1 : Int32)) hin11 (g := (mkF m 58 #[.val (.ref g), .val (.int 0)] [(.int 0), (.int 1), (.ref ob)])) rfl rfl (hb hy.2 d16_58)
 have Aw11 := Arv.set Ar11 q11 S11 M11 H11 G11 (fits_nar_bool _) W11 1 rfl (Nat.le_of_ble_eq_true rfl)
 replace Eg := Eg.wr W11
 replace Ft := Ft.other W11 (Or.inl (Ne.symm ne_ob_g))
 replace Fe := Fe.other W11 (Or.inl (Ne.symm ne_ob_g))
 replace Fm := Fm.other W11 (Or.inl (Ne.symm ne_ob_g))
 replace Fo := Fo.other W11 (Or.inl (Ne.symm ne_ob_g))
 replace Fd := Fd.other W11 (Or.inl (Ne.symm ne_ob_g))
 replace Fp := Fp.other W11 (Or.inl (Ne.symm ne_ob_g))
 replace Fa := Fa.other W11 (Or.inl (Ne.symm ne_ob_g))
 replace At := At.other W11 ne_ct_ob
 have Z11 := own_zw Z10 W11
 have Kp11 := Kp10.wr W11 own_m1
 have Av_ob : Arv Z h11 ob ko .boolean (16 : Int32) [w0, (.int (nar .boolean (0 : Int32))), w2, w3, w4, w5, w6, w7, w8, w9, w10, w11, w12, w13, w14, w15] (.int 0) := Aw11
 have N11 := Fr.snoc X11 N10 g_ob
 refine own_go (A := T11.setTop (mkF m 59 #[.val (.ref g), .val (.int 0)] [])) (fun _ kz => st11 _ kz) ?_
 clear X8 e8 X9 e9 X10 e10 W10 N10 Z10 Kp10 st11
 have AoN : Arv Z h11 ob ko .boolean (16 : Int32) [w0, (.int 0), w2, w3, w4, w5, w6, w7, w8, w9, w10, w11, w12, w13, w14, w15] (.int 0) := Av_ob
 refine own_al X11 hy d16_59 rfl rfl ?_
 refine own_ic X11 hy d16_60 ?_
 refine own_pn X11 hy hZ hown (own_w hw 95 rfl) Via.refl e11 Fp Eg (Or.inl (own_w hw 96 rfl)) (own_w hw 54 rfl) (ty := .boolean) (v' := (.int 1)) (by decide) rfl (by first | exact fits_nar_bool _ | decide) d16_61 fun T12 h12 X12 e12 W12 => ?_
 replace At := At.other W12 ne_ct_g
 replace AoN := AoN.other W12 ne_ob_g
 have Z12 := own_zw Z11 W12
 have Kp12 := Kp11.wr W12 own_m0
 obtain ⟨Eg, Ft, Fe, Fm, Fo, Fd, Fp, Fa⟩ := own_Gop hw ⟨Eg, Ft, Fe, Fm, Fo, Fd, Fp, Fa⟩ W12 rfl
 have N12 := Fr.snoc X12 N11 g_g
 refine own_inc X12 hy hZ hown hw e12 ⟨Eg, Ft, Fe, Fm, Fo, Fd, Fp, Fa⟩ i16_64 (i + 1) fun T13 h13 X13 e13 W13 ⟨_, Ft, Fe, Fm, Fo, Fd, Fp, Fa⟩ => ?_
 replace Eg := Eg.wr W13
 replace At := At.other W13 ne_ct_g
 replace AoN := AoN.other W13 ne_ob_g
 have Z13 := own_zw Z12 W13
 have Kp13 := Kp12.wr W13 own_m0
 have N13 := Fr.snoc X13 N12 g_g
 clear X11 e11 X12 e12 W12 N12 Z12 Kp12 W13
 refine own_ic X13 hy d16_74 ?_
 exact own_rT X13 hy hrt hlk d16_75 e13 ⟨rfl, N13, Kp13, ⟨Eg, Ft, Fe, Fm, Fo, Fd, Fp, Fa⟩, AoN⟩
def QrmOp_2_1 (Z : State) (g ct ob : Addr) (kc : ClassId) (tx : List Value) (cc : Nat → Int32) (oN kk M : Nat) (tf : Bool) (md oo : Int32) (ko : ClassId) (w0 w1 w2 w3 w4 w5 w6 w7 w8 w9 w10 w11 w12 w13 w14 w15 : Value) (i : Nat) (h0 : Heap) (n0 : Nat) (v : Option Value) (h : Heap) (L : List Loc) : Prop := v = some (.int 1) ∧ Fr n0 L ∧ Keep h0 h [g, ob] ∧ own_G Z h g ct ob (own_P oN kk) md (3 : Int32) (1 : Int32) (own_P oN (i + 1)) ∧ Arv Z h ob ko .boolean (16 : Int32) [w0, w1, (.int 1), w3, w4, w5, w6, w7, w8, w9, w10, w11, w12, w13, w14, w15] (.int 0)
theorem rmOp_2_1 (hw : own_HW Z a0) (Z0 : n0 ≤ h0.size) (Gq : own_G Z h0 g ct ob (own_P oN kk) md (2 : Int32) oo (own_P oN i)) (g_g : n0 ≤ g) (At : Arv Z h0 ct kc .char (52 : Int32) tx (.int 0)) (hT : ∀ i, i < 49 → tx.getD (oN + i) (.int 0) = .int (cc i)) (H : own_H oN kk md M tf cc) (Ao : Arv Z h0 ob ko .boolean (16 : Int32) [w0, w1, w2, w3, w4, w5, w6, w7, w8, w9, w10, w11, w12, w13, w14, w15] (.int 0)) (g_ob : n0 ≤ ob) (hd : ¬ (2 : Int32) = md) :
  own_MF l "dev/parlance/JsonGrammar" "open" "(Z)Z" prog_6_method_5_code 2 (some .boolean) ⟨0, 0, 0, 0⟩ #[(.ref g), (.int 1)] Z h0 (QrmOp_2_1 Z g ct ob kc tx cc oN kk M tf md oo ko w0 w1 w2 w3 w4 w5 w6 w7 w8 w9 w10 w11 w12 w13 w14 w15 i h0 n0) := by
 refine own_fst (plainFor_of_name own_pn16) (own_ef16 · g (1 : Int32)) fun p e s m below meth c s₁ hy hml hZ hown hnm hrt hlk X0 e0 => ?_
 have N0 := Fr.nil n0
 have Kp0 : Keep h0 h0 [g, ob] := Keep.refl h0 _
 obtain ⟨⟨Eg, Ft, Fe, Fm, Fo, Fd, Fp, Fa⟩, ho, hk49, ne_ct_g⟩ := own_gi hw Gq At H
 have ne_ob_g : ob ≠ g := Ne.symm (own_neA Eg (own_w hw 54 rfl) Ao)
 have ne_ct_ob : ct ≠ ob := arv_ne At Ao (Or.inl (by decide))
 refine own_al X0 hy d16_0 rfl rfl ?_
 refine own_gf X0 hy hZ hown (host := "") (Or.inl (own_w hw 76 rfl)) Via.refl e0 Fd d16_1 fun T2 X2 e2 => ?_
 refine own_al X2 hy d16_4 rfl rfl ?_
 refine own_gf X2 hy hZ hown (host := "") (Or.inl (own_w hw 69 rfl)) Via.refl e2 Fm d16_5 fun T3 X3 e3 => ?_
 refine own_cy X3 hy d16_8 13 (feq hd).2 ?_
 refine own_al X3 hy d16_13 rfl rfl ?_
 refine own_gf X3 hy hZ hown (host := "") (Or.inl (own_w hw 76 rfl)) Via.refl e3 Fd d16_14 fun T5 X5 e5 => ?_
 refine own_al X5 hy d16_17 rfl rfl ?_
 refine own_gf X5 hy hZ hown (host := "") (Or.inl (own_w hw 63 rfl)) Via.refl e5 Fo d16_18 fun T6 X6 e6 => ?_
 refine own_ln X6 hy hZ e6 Ao d16_21 ?_
 refine own_cy X6 hy d16_22 42 (feq (by decide : ¬ ((2 : Int32) = (16 : Int32)))).2 ?_
 refine own_al X6 hy d16_42 rfl rfl ?_
 refine own_gf X6 hy hZ hown (host := "") (Or.inl (own_w hw 63 rfl)) Via.refl e6 Fo d16_43 fun T8 X8 e8 => ?_
 clear X2 e2 X3 e3 X5 e5 X6 e6
 refine own_al X8 hy d16_46 rfl rfl ?_
 refine own_dp X8 hy d16_47 rfl ?_
 refine own_gf X8 hy hZ hown (host := "") (Or.inl (own_w hw 76 rfl)) Via.refl e8 Fd d16_48 fun T9 X9 e9 => ?_
 refine own_dx X9 hy d16_51 rfl rfl ?_
 refine own_ic X9 hy d16_52 ?_
 refine own_ad X9 hy d16_53 ?_
 refine own_pf X9 hy hZ hown (host := "") (Or.inl (own_w hw 76 rfl)) Via.refl e9 Fd Eg (Or.inl (own_w hw 77 rfl)) (own_w hw 54 rfl) (ty := .int) (by decide) rfl rfl d16_54 fun T10 h10 X10 e10 W10 => ?_
 replace At := At.other W10 ne_ct_g
 replace Ao := Ao.other W10 ne_ob_g
 have Z10 := own_zw Z0 W10
 have Kp10 := Kp0.wr W10 own_m0
 obtain ⟨Eg, Ft, Fe, Fm, Fo, Fd, Fp, Fa⟩ := own_Gde hw ⟨Eg, Ft, Fe, Fm, Fo, Fd, Fp, Fa⟩ W10 rfl
 have N10 := Fr.snoc X10 N0 g_g
 refine own_il X10 hy d16_57 rfl ?_
 obtain ⟨cl11, Ar11, q11, S11, M11, H11, G11⟩ := id Ao
 have hin11 : ¬ ((2 : Int32) < 0 ∨ cl11.slots.size ≤ ((2 : Int32)).toNatClampNeg) := inb_of S11 ⟨by decide, by decide⟩
 obtain ⟨T11, h11, X11, e11, W11, st11⟩ := stZ X10 hy.1 hZ e10 Ar11 (j := (2 : Int32)) hin11 (g := (mkF m 58 #[.val (.ref g), .val (.int 1)] [(.int 1), (.int 2), (.ref ob)])) rfl rfl (hb hy.2 d16_58)
 have Aw11 := Arv.set Ar11 q11 S11 M11 H11 G11 (fits_nar_bool _) W11 2 rfl (Nat.le_of_ble_eq_true rfl)
 replace Eg := Eg.wr W11
 replace Ft := Ft.other W11 (Or.inl (Ne.symm ne_ob_g))
 replace Fe := Fe.other W11 (Or.inl (Ne.symm ne_ob_g))
 replace Fm := Fm.other W11 (Or.inl (Ne.symm ne_ob_g))
 replace Fo := Fo.other W11 (Or.inl (Ne.symm ne_ob_g))
 replace Fd := Fd.other W11 (Or.inl (Ne.symm ne_ob_g))
 replace Fp := Fp.other W11 (Or.inl (Ne.symm ne_ob_g))
 replace Fa := Fa.other W11 (Or.inl (Ne.symm ne_ob_g))
 replace At := At.other W11 ne_ct_ob
 have Z11 := own_zw Z10 W11
 have Kp11 := Kp10.wr W11 own_m1
 have Av_ob : Arv Z h11 ob ko .boolean (16 : Int32) [w0, w1, (.int (nar .boolean (1 : Int32))), w3, w4, w5, w6, w7, w8, w9, w10, w11, w12, w13, w14, w15] (.int 0) := Aw11
 have N11 := Fr.snoc X11 N10 g_ob
 refine own_go (A := T11.setTop (mkF m 59 #[.val (.ref g), .val (.int 1)] [])) (fun _ kz => st11 _ kz) ?_
 clear X8 e8 X9 e9 X10 e10 W10 N10 Z10 Kp10 st11
 have AoN : Arv Z h11 ob ko .boolean (16 : Int32) [w0, w1, (.int 1), w3, w4, w5, w6, w7, w8, w9, w10, w11, w12, w13, w14, w15] (.int 0) := Av_ob
 refine own_al X11 hy d16_59 rfl rfl ?_
 refine own_ic X11 hy d16_60 ?_
 refine own_pn X11 hy hZ hown (own_w hw 95 rfl) Via.refl e11 Fp Eg (Or.inl (own_w hw 96 rfl)) (own_w hw 54 rfl) (ty := .boolean) (v' := (.int 1)) (by decide) rfl (by first | exact fits_nar_bool _ | decide) d16_61 fun T12 h12 X12 e12 W12 => ?_
 replace At := At.other W12 ne_ct_g
 replace AoN := AoN.other W12 ne_ob_g
 have Z12 := own_zw Z11 W12
 have Kp12 := Kp11.wr W12 own_m0
 obtain ⟨Eg, Ft, Fe, Fm, Fo, Fd, Fp, Fa⟩ := own_Gop hw ⟨Eg, Ft, Fe, Fm, Fo, Fd, Fp, Fa⟩ W12 rfl
 have N12 := Fr.snoc X12 N11 g_g
 refine own_inc X12 hy hZ hown hw e12 ⟨Eg, Ft, Fe, Fm, Fo, Fd, Fp, Fa⟩ i16_64 (i + 1) fun T13 h13 X13 e13 W13 ⟨_, Ft, Fe, Fm, Fo, Fd, Fp, Fa⟩ => ?_
 replace Eg := Eg.wr W13
 replace At := At.other W13 ne_ct_g
 replace AoN := AoN.other W13 ne_ob_g
 have Z13 := own_zw Z12 W13
 have Kp13 := Kp12.wr W13 own_m0
 have N13 := Fr.snoc X13 N12 g_g
 clear X11 e11 X12 e12 W12 N12 Z12 Kp12 W13
 refine own_ic X13 hy d16_74 ?_
 exact own_rT X13 hy hrt hlk d16_75 e13 ⟨rfl, N13, Kp13, ⟨Eg, Ft, Fe, Fm, Fo, Fd, Fp, Fa⟩, AoN⟩
def QrmOp_2_0 (Z : State) (g ct ob : Addr) (kc : ClassId) (tx : List Value) (cc : Nat → Int32) (oN kk M : Nat) (tf : Bool) (md oo : Int32) (ko : ClassId) (w0 w1 w2 w3 w4 w5 w6 w7 w8 w9 w10 w11 w12 w13 w14 w15 : Value) (i : Nat) (h0 : Heap) (n0 : Nat) (v : Option Value) (h : Heap) (L : List Loc) : Prop := v = some (.int 1) ∧ Fr n0 L ∧ Keep h0 h [g, ob] ∧ own_G Z h g ct ob (own_P oN kk) md (3 : Int32) (1 : Int32) (own_P oN (i + 1)) ∧ Arv Z h ob ko .boolean (16 : Int32) [w0, w1, (.int 0), w3, w4, w5, w6, w7, w8, w9, w10, w11, w12, w13, w14, w15] (.int 0)
theorem rmOp_2_0 (hw : own_HW Z a0) (Z0 : n0 ≤ h0.size) (Gq : own_G Z h0 g ct ob (own_P oN kk) md (2 : Int32) oo (own_P oN i)) (g_g : n0 ≤ g) (At : Arv Z h0 ct kc .char (52 : Int32) tx (.int 0)) (hT : ∀ i, i < 49 → tx.getD (oN + i) (.int 0) = .int (cc i)) (H : own_H oN kk md M tf cc) (Ao : Arv Z h0 ob ko .boolean (16 : Int32) [w0, w1, w2, w3, w4, w5, w6, w7, w8, w9, w10, w11, w12, w13, w14, w15] (.int 0)) (g_ob : n0 ≤ ob) (hd : ¬ (2 : Int32) = md) :
  own_MF l "dev/parlance/JsonGrammar" "open" "(Z)Z" prog_6_method_5_code 2 (some .boolean) ⟨0, 0, 0, 0⟩ #[(.ref g), (.int 0)] Z h0 (QrmOp_2_0 Z g ct ob kc tx cc oN kk M tf md oo ko w0 w1 w2 w3 w4 w5 w6 w7 w8 w9 w10 w11 w12 w13 w14 w15 i h0 n0) := by
 refine own_fst (plainFor_of_name own_pn16) (own_ef16 · g (0 : Int32)) fun p e s m below meth c s₁ hy hml hZ hown hnm hrt hlk X0 e0 => ?_
 have N0 := Fr.nil n0
 have Kp0 : Keep h0 h0 [g, ob] := Keep.refl h0 _
 obtain ⟨⟨Eg, Ft, Fe, Fm, Fo, Fd, Fp, Fa⟩, ho, hk49, ne_ct_g⟩ := own_gi hw Gq At H
 have ne_ob_g : ob ≠ g := Ne.symm (own_neA Eg (own_w hw 54 rfl) Ao)
 have ne_ct_ob : ct ≠ ob := arv_ne At Ao (Or.inl (by decide))
 refine own_al X0 hy d16_0 rfl rfl ?_
 refine own_gf X0 hy hZ hown (host := "") (Or.inl (own_w hw 76 rfl)) Via.refl e0 Fd d16_1 fun T2 X2 e2 => ?_
 refine own_al X2 hy d16_4 rfl rfl ?_
 refine own_gf X2 hy hZ hown (host := "") (Or.inl (own_w hw 69 rfl)) Via.refl e2 Fm d16_5 fun T3 X3 e3 => ?_
 refine own_cy X3 hy d16_8 13 (feq hd).2 ?_
 refine own_al X3 hy d16_13 rfl rfl ?_
 refine own_gf X3 hy hZ hown (host := "") (Or.inl (own_w hw 76 rfl)) Via.refl e3 Fd d16_14 fun T5 X5 e5 => ?_
 refine own_al X5 hy d16_17 rfl rfl ?_
 refine own_gf X5 hy hZ hown (host := "") (Or.inl (own_w hw 63 rfl)) Via.refl e5 Fo d16_18 fun T6 X6 e6 => ?_
 refine own_ln X6 hy hZ e6 Ao d16_21 ?_
 refine own_cy X6 hy d16_22 42 (feq (by decide : ¬ ((2 : Int32) = (16 : Int32)))).2 ?_
 refine own_al X6 hy d16_42 rfl rfl ?_
 refine own_gf X6 hy hZ hown (host := "") (Or.inl (own_w hw 63 rfl)) Via.refl e6 Fo d16_43 fun T8 X8 e8 => ?_
 clear X2 e2 X3 e3 X5 e5 X6 e6
 refine own_al X8 hy d16_46 rfl rfl ?_
 refine own_dp X8 hy d16_47 rfl ?_
 refine own_gf X8 hy hZ hown (host := "") (Or.inl (own_w hw 76 rfl)) Via.refl e8 Fd d16_48 fun T9 X9 e9 => ?_
 refine own_dx X9 hy d16_51 rfl rfl ?_
 refine own_ic X9 hy d16_52 ?_
 refine own_ad X9 hy d16_53 ?_
 refine own_pf X9 hy hZ hown (host := "") (Or.inl (own_w hw 76 rfl)) Via.refl e9 Fd Eg (Or.inl (own_w hw 77 rfl)) (own_w hw 54 rfl) (ty := .int) (by decide) rfl rfl d16_54 fun T10 h10 X10 e10 W10 => ?_
 replace At := At.other W10 ne_ct_g
 replace Ao := Ao.other W10 ne_ob_g
 have Z10 := own_zw Z0 W10
 have Kp10 := Kp0.wr W10 own_m0
 obtain ⟨Eg, Ft, Fe, Fm, Fo, Fd, Fp, Fa⟩ := own_Gde hw ⟨Eg, Ft, Fe, Fm, Fo, Fd, Fp, Fa⟩ W10 rfl
 have N10 := Fr.snoc X10 N0 g_g
 refine own_il X10 hy d16_57 rfl ?_
 obtain ⟨cl11, Ar11, q11, S11, M11, H11, G11⟩ := id Ao
 have hin11 : ¬ ((2 : Int32) < 0 ∨ cl11.slots.size ≤ ((2 : Int32)).toNatClampNeg) := inb_of S11 ⟨by decide, by decide⟩
 obtain ⟨T11, h11, X11, e11, W11, st11⟩ := stZ X10 hy.1 hZ e10 Ar11 (j := (2 : Int32)) hin11 (g := (mkF m 58 #[.val (.ref g), .val (.int 0)] [(.int 0), (.int 2), (.ref ob)])) rfl rfl (hb hy.2 d16_58)
 have Aw11 := Arv.set Ar11 q11 S11 M11 H11 G11 (fits_nar_bool _) W11 2 rfl (Nat.le_of_ble_eq_true rfl)
 replace Eg := Eg.wr W11
 replace Ft := Ft.other W11 (Or.inl (Ne.symm ne_ob_g))
 replace Fe := Fe.other W11 (Or.inl (Ne.symm ne_ob_g))
 replace Fm := Fm.other W11 (Or.inl (Ne.symm ne_ob_g))
 replace Fo := Fo.other W11 (Or.inl (Ne.symm ne_ob_g))
 replace Fd := Fd.other W11 (Or.inl (Ne.symm ne_ob_g))
 replace Fp := Fp.other W11 (Or.inl (Ne.symm ne_ob_g))
 replace Fa := Fa.other W11 (Or.inl (Ne.symm ne_ob_g))
 replace At := At.other W11 ne_ct_ob
 have Z11 := own_zw Z10 W11
 have Kp11 := Kp10.wr W11 own_m1
 have Av_ob : Arv Z h11 ob ko .boolean (16 : Int32) [w0, w1, (.int (nar .boolean (0 : Int32))), w3, w4, w5, w6, w7, w8, w9, w10, w11, w12, w13, w14, w15] (.int 0) := Aw11
 have N11 := Fr.snoc X11 N10 g_ob
 refine own_go (A := T11.setTop (mkF m 59 #[.val (.ref g), .val (.int 0)] [])) (fun _ kz => st11 _ kz) ?_
 clear X8 e8 X9 e9 X10 e10 W10 N10 Z10 Kp10 st11
 have AoN : Arv Z h11 ob ko .boolean (16 : Int32) [w0, w1, (.int 0), w3, w4, w5, w6, w7, w8, w9, w10, w11, w12, w13, w14, w15] (.int 0) := Av_ob
 refine own_al X11 hy d16_59 rfl rfl ?_
 refine own_ic X11 hy d16_60 ?_
 refine own_pn X11 hy hZ hown (own_w hw 95 rfl) Via.refl e11 Fp Eg (Or.inl (own_w hw 96 rfl)) (own_w hw 54 rfl) (ty := .boolean) (v' := (.int 1)) (by decide) rfl (by first | exact fits_nar_bool _ | decide) d16_61 fun T12 h12 X12 e12 W12 => ?_
 replace At := At.other W12 ne_ct_g
 replace AoN := AoN.other W12 ne_ob_g
 have Z12 := own_zw Z11 W12
 have Kp12 := Kp11.wr W12 own_m0
 obtain ⟨Eg, Ft, Fe, Fm, Fo, Fd, Fp, Fa⟩ := own_Gop hw ⟨Eg, Ft, Fe, Fm, Fo, Fd, Fp, Fa⟩ W12 rfl
 have N12 := Fr.snoc X12 N11 g_g
 refine own_inc X12 hy hZ hown hw e12 ⟨Eg, Ft, Fe, Fm, Fo, Fd, Fp, Fa⟩ i16_64 (i + 1) fun T13 h13 X13 e13 W13 ⟨_, Ft, Fe, Fm, Fo, Fd, Fp, Fa⟩ => ?_
 replace Eg := Eg.wr W13
 replace At := At.other W13 ne_ct_g
 replace AoN := AoN.other W13 ne_ob_g
 have Z13 := own_zw Z12 W13
 have Kp13 := Kp12.wr W13 own_m0
 have N13 := Fr.snoc X13 N12 g_g
 clear X11 e11 X12 e12 W12 N12 Z12 Kp12 W13
 refine own_ic X13 hy d16_74 ?_
 exact own_rT X13 hy hrt hlk d16_75 e13 ⟨rfl, N13, Kp13, ⟨Eg, Ft, Fe, Fm, Fo, Fd, Fp, Fa⟩, AoN⟩
theorem d16_11 : decode C16 11 = .ok (.iconst 0, 1) := by decide +kernel
theorem d16_12 : decode C16 12 = .ok (.ireturn, 1) := by decide +kernel
def QrmOpD_1 (Z : State)  (h0 : Heap) (n0 : Nat) (v : Option Value) (h : Heap) (L : List Loc) : Prop := v = some (.int 0) ∧ Fr n0 L ∧ h = h0
theorem rmOpD_1 (hw : own_HW Z a0) (oj : Int32) (Z0 : n0 ≤ h0.size) (Gq : own_G Z h0 g ct ob (own_P oN kk) md (1 : Int32) oo (own_P oN i)) (g_g : n0 ≤ g) (At : Arv Z h0 ct kc .char (52 : Int32) tx (.int 0)) (hT : ∀ i, i < 49 → tx.getD (oN + i) (.int 0) = .int (cc i)) (H : own_H oN kk md M tf cc) (hd : (1 : Int32) = md) :
  own_MF l "dev/parlance/JsonGrammar" "open" "(Z)Z" prog_6_method_5_code 2 (some .boolean) ⟨0, 0, 0, 0⟩ #[(.ref g), (.int oj)] Z h0 (QrmOpD_1 Z  h0 n0) := by
 refine own_fst (plainFor_of_name own_pn16) (own_ef16 · g oj) fun p e s m below meth c s₁ hy hml hZ hown hnm hrt hlk X0 e0 => ?_
 have N0 := Fr.nil n0
 obtain ⟨⟨Eg, Ft, Fe, Fm, Fo, Fd, Fp, Fa⟩, ho, hk49, ne_ct_g⟩ := own_gi hw Gq At H
 refine own_al X0 hy d16_0 rfl rfl ?_
 refine own_gf X0 hy hZ hown (host := "") (Or.inl (own_w hw 76 rfl)) Via.refl e0 Fd d16_1 fun T2 X2 e2 => ?_
 refine own_al X2 hy d16_4 rfl rfl ?_
 refine own_gf X2 hy hZ hown (host := "") (Or.inl (own_w hw 69 rfl)) Via.refl e2 Fm d16_5 fun T3 X3 e3 => ?_
 refine own_cn X3 hy d16_8 (teq hd).2 ?_
 refine own_ic X3 hy d16_11 ?_
 exact own_rF X3 hy hrt hlk d16_12 e3 ⟨rfl, N0, rfl⟩
def QrmOpD_2 (Z : State)  (h0 : Heap) (n0 : Nat) (v : Option Value) (h : Heap) (L : List Loc) : Prop := v = some (.int 0) ∧ Fr n0 L ∧ h = h0
theorem rmOpD_2 (hw : own_HW Z a0) (oj : Int32) (Z0 : n0 ≤ h0.size) (Gq : own_G Z h0 g ct ob (own_P oN kk) md (2 : Int32) oo (own_P oN i)) (g_g : n0 ≤ g) (At : Arv Z h0 ct kc .char (52 : Int32) tx (.int 0)) (hT : ∀ i, i < 49 → tx.getD (oN + i) (.int 0) = .int (cc i)) (H : own_H oN kk md M tf cc) (hd : (2 : Int32) = md) :
  own_MF l "dev/parlance/JsonGrammar" "open" "(Z)Z" prog_6_method_5_code 2 (some .boolean) ⟨0, 0, 0, 0⟩ #[(.ref g), (.int oj)] Z h0 (QrmOpD_2 Z  h0 n0) := by
 refine own_fst (plainFor_of_name own_pn16) (own_ef16 · g oj) fun p e s m below meth c s₁ hy hml hZ hown hnm hrt hlk X0 e0 => ?_
 have N0 := Fr.nil n0
 obtain ⟨⟨Eg, Ft, Fe, Fm, Fo, Fd, Fp, Fa⟩, ho, hk49, ne_ct_g⟩ := own_gi hw Gq At H
 refine own_al X0 hy d16_0 rfl rfl ?_
 refine own_gf X0 hy hZ hown (host := "") (Or.inl (own_w hw 76 rfl)) Via.refl e0 Fd d16_1 fun T2 X2 e2 => ?_
 refine own_al X2 hy d16_4 rfl rfl ?_
 refine own_gf X2 hy hZ hown (host := "") (Or.inl (own_w hw 69 rfl)) Via.refl e2 Fm d16_5 fun T3 X3 e3 => ?_
 refine own_cn X3 hy d16_8 (teq hd).2 ?_
 refine own_ic X3 hy d16_11 ?_
 exact own_rF X3 hy hrt hlk d16_12 e3 ⟨rfl, N0, rfl⟩
theorem d18_0 : decode C18 0 = .ok (.aload_n 0, 1) := by decide +kernel
theorem d18_10 : decode C18 10 = .ok (.aload_n 0, 1) := by decide +kernel
theorem d18_18 : decode C18 18 = .ok (.if_icmp .ge 69, 3) := by decide +kernel
theorem d18_21 : decode C18 21 = .ok (.aload_n 0, 1) := by decide +kernel
theorem d18_30 : decode C18 30 = .ok (.bipush 34, 2) := by decide +kernel
theorem d18_32 : decode C18 32 = .ok (.if_icmp .eq 55, 3) := by decide +kernel
theorem d18_35 : decode C18 35 = .ok (.aload_n 0, 1) := by decide +kernel
theorem d18_44 : decode C18 44 = .ok (.bipush 32, 2) := by decide +kernel
theorem d18_46 : decode C18 46 = .ok (.if_icmp .ge 5, 3) := by decide +kernel
theorem d18_49 : decode C18 49 = .ok (.iconst 0, 1) := by decide +kernel
theorem d18_50 : decode C18 50 = .ok (.ireturn, 1) := by decide +kernel
theorem d18_87 : decode C18 87 = .ok (.aload_n 0, 1) := by decide +kernel
theorem d18_95 : decode C18 95 = .ok (.if_icmp .ne 5, 3) := by decide +kernel
theorem d18_98 : decode C18 98 = .ok (.iconst 0, 1) := by decide +kernel
theorem d18_99 : decode C18 99 = .ok (.ireturn, 1) := by decide +kernel
theorem d18_100 : decode C18 100 = .ok (.aload_n 0, 1) := by decide +kernel
theorem d18_110 : decode C18 110 = .ok (.iconst 1, 1) := by decide +kernel
theorem d18_111 : decode C18 111 = .ok (.ireturn, 1) := by decide +kernel
theorem own_pn18 : plainName "dev/parlance/JsonGrammar" = true := by first | (simp [plainName, overriddenIn]; done) | decide +kernel
theorem own_ef18 (m : MethodId) (x0 : Addr) : entryFrame m #[(.ref x0)] 1 = mkF m 0 #[.val (.ref x0)] [] := by first | (simp [entryFrame, mkF, argsToLocals, Value.category]; done) | rfl
def QrmStr2 (Z : State) (g : Addr) (ct : Addr) (ob : Addr) (kc : ClassId) (tx : List Value) (cc : Nat → Int32) (oN : Nat) (kk : Nat) (M : Nat) (tf : Bool) (md : Int32) (dd : Int32) (oo : Int32) (h0 : Heap) (n0 : Nat) (v : Option Value) (h : Heap) (L : List Loc) : Prop := Fr n0 L ∧ Keep h0 h [g] ∧ ((40 ≤ M ∧ v = some (.int 1) ∧ own_G Z h g ct ob (own_P oN kk) md dd oo (own_P oN 40)) ∨ (M < 40 ∧ v = some (.int 0) ∧ own_G Z h g ct ob (own_P oN kk) md dd oo (own_P oN M)))
theorem rmStr2 (hw : own_HW Z a0) (Z0 : n0 ≤ h0.size) (Gq : own_G Z h0 g ct ob (own_P oN kk) md dd oo (own_P oN 38)) (g_g : n0 ≤ g) (At : Arv Z h0 ct kc .char (52 : Int32) tx (.int 0)) (hT : ∀ i, i < 49 → tx.getD (oN + i) (.int 0) = .int (cc i)) (H : own_H oN kk md M tf cc) (hM0 : 38 < M) :
  own_MF l "dev/parlance/JsonGrammar" "string" "()Z" prog_6_method_6_code 1 (some .boolean) ⟨0, 0, 0, 0⟩ #[(.ref g)] Z h0 (QrmStr2 Z g ct ob kc tx cc oN kk M tf md dd oo h0 n0) := by
 refine own_fst (plainFor_of_name own_pn18) (own_ef18 · g) fun p e s m below meth c s₁ hy hml hZ hown hnm hrt hlk X0 e0 => ?_
 have N0 := Fr.nil n0
 have Kp0 : Keep h0 h0 [g] := Keep.refl h0 _
 obtain ⟨⟨Eg, Ft, Fe, Fm, Fo, Fd, Fp, Fa⟩, ho, hk49, ne_ct_g⟩ := own_gi hw Gq At H
 refine own_inc X0 hy hZ hown hw e0 ⟨Eg, Ft, Fe, Fm, Fo, Fd, Fp, Fa⟩ i18_0 39 fun T1 h1 X1 e1 W1 ⟨_, Ft, Fe, Fm, Fo, Fd, Fp, Fa⟩ => ?_
 replace Eg := Eg.wr W1
 replace At := At.other W1 ne_ct_g
 have Z1 := own_zw Z0 W1
 have Kp1 := Kp0.wr W1 own_m0
 have N1 := Fr.snoc X1 N0 g_g
 refine own_ae X1 hy hZ hown hw e1 Fa Fe a18_10 fun T2 X2 e2 => ?_
 rcases own_at H 39 (by decide) hM0 (by decide) with ⟨hm39, hk39, hg39⟩ | ⟨hm39, hk39⟩ | ⟨hm39, hk39, hb39⟩
 ·
  refine own_cn X2 hy d18_18 (tlt (own_Plt ho hk49 hk39)).2.1 ?_
  refine own_tc X2 hy hZ hown hw e2 Ft Fa At ho hT (by decide) t18_21 fun T3 X3 e3 => ?_
  refine own_bp X3 hy d18_30 ?_
  refine own_cy X3 hy d18_32 87 (teq (show cc 39 = 34 from hg39)).1 ?_
  refine own_ae X3 hy hZ hown hw e3 Fa Fe a18_87 fun T4 X4 e4 => ?_
  refine own_cy X4 hy d18_95 100 (feq (own_Pne ho hk49 hk39)).2 ?_
  refine own_inc X4 hy hZ hown hw e4 ⟨Eg, Ft, Fe, Fm, Fo, Fd, Fp, Fa⟩ i18_100 40 fun T5 h5 X5 e5 W5 ⟨_, Ft, Fe, Fm, Fo, Fd, Fp, Fa⟩ => ?_
  replace Eg := Eg.wr W5
  replace At := At.other W5 ne_ct_g
  have Z5 := own_zw Z1 W5
  have Kp5 := Kp1.wr W5 own_m0
  have N5 := Fr.snoc X5 N1 g_g
  clear X1 e1 W1 N1 Z1 Kp1 X2 e2 X3 e3 X4 e4 W5
  refine own_ic X5 hy d18_110 ?_
  exact own_rT X5 hy hrt hlk d18_111 e5 ⟨N5, Kp5, Or.inl ⟨hm39, rfl, ⟨Eg, Ft, Fe, Fm, Fo, Fd, Fp, Fa⟩⟩⟩
 ·
  refine own_cy X2 hy d18_18 87 (flt (own_Pge ho hk49 (Nat.le_of_eq hk39) (by decide))).2.1 ?_
  refine own_ae X2 hy hZ hown hw e2 Fa Fe a18_87 fun T6 X6 e6 => ?_
  refine own_cn X6 hy d18_95 (teq (own_Peq hk39)).2 ?_
  refine own_ic X6 hy d18_98 ?_
  exact own_rF X6 hy hrt hlk d18_99 e6 ⟨N1, Kp1, Or.inr ⟨by omega, rfl, by rw [hm39]; exact ⟨Eg, Ft, Fe, Fm, Fo, Fd, Fp, Fa⟩⟩⟩
 ·
  refine own_cn X2 hy d18_18 (tlt (own_Plt ho hk49 hk39)).2.1 ?_
  refine own_tc X2 hy hZ hown hw e2 Ft Fa At ho hT (by decide) t18_21 fun T7 X7 e7 => ?_
  refine own_bp X7 hy d18_30 ?_
  refine own_cn X7 hy d18_32 (feq (own_bne hb39 (by decide))).1 ?_
  refine own_tc X7 hy hZ hown hw e7 Ft Fa At ho hT (by decide) t18_35 fun T8 X8 e8 => ?_
  refine own_bp X8 hy d18_44 ?_
  refine own_cn X8 hy d18_46 (tlt (own_blt hb39 (by decide))).2.1 ?_
  refine own_ic X8 hy d18_49 ?_
  exact own_rF X8 hy hrt hlk d18_50 e8 ⟨N1, Kp1, Or.inr ⟨by omega, rfl, by rw [hm39]; exact ⟨Eg, Ft, Fe, Fm, Fo, Fd, Fp, Fa⟩⟩⟩
theorem d19_0 : decode C19 0 = .ok (.aload_n 0, 1) := by decide +kernel
theorem d19_10 : decode C19 10 = .ok (.aload_n 0, 1) := by decide +kernel
theorem d19_18 : decode C19 18 = .ok (.if_icmp .ge 15, 3) := by decide +kernel
theorem d19_21 : decode C19 21 = .ok (.aload_n 0, 1) := by decide +kernel
theorem d19_30 : decode C19 30 = .ok (.goto 4, 3) := by decide +kernel
theorem d19_33 : decode C19 33 = .ok (.iconst 0, 1) := by decide +kernel
theorem d19_34 : decode C19 34 = .ok (.istore_n 1, 1) := by decide +kernel
theorem d19_35 : decode C19 35 = .ok (.iload_n 1, 1) := by decide +kernel
theorem d19_36 : decode C19 36 = .ok (.bipush 117, 2) := by decide +kernel
theorem d19_38 : decode C19 38 = .ok (.if_icmp .ne 7, 3) := by decide +kernel
theorem d19_45 : decode C19 45 = .ok (.iconst 0, 1) := by decide +kernel
theorem d19_46 : decode C19 46 = .ok (.istore_n 2, 1) := by decide +kernel
theorem d19_47 : decode C19 47 = .ok (.iload_n 2, 1) := by decide +kernel
theorem d19_48 : decode C19 48 = .ok (.ifCond .ne 14, 3) := by decide +kernel
theorem d19_51 : decode C19 51 = .ok (.ldc 77, 2) := by decide +kernel
theorem d19_53 : decode C19 53 = .ok (.iload_n 1, 1) := by decide +kernel
theorem d19_54 : decode C19 54 = .ok (.invokevirtual 79, 3) := by decide +kernel
theorem d19_57 : decode C19 57 = .ok (.ifCond .ge 5, 3) := by decide +kernel
theorem d19_60 : decode C19 60 = .ok (.iconst 0, 1) := by decide +kernel
theorem d19_61 : decode C19 61 = .ok (.ireturn, 1) := by decide +kernel
theorem d19_62 : decode C19 62 = .ok (.aload_n 0, 1) := by decide +kernel
theorem d19_72 : decode C19 72 = .ok (.iload_n 2, 1) := by decide +kernel
theorem d19_73 : decode C19 73 = .ok (.ifCond .le 45, 3) := by decide +kernel
theorem d19_118 : decode C19 118 = .ok (.iload_n 2, 1) := by decide +kernel
theorem d19_119 : decode C19 119 = .ok (.ifCond .ne 7, 3) := by decide +kernel
theorem d19_122 : decode C19 122 = .ok (.iconst 1, 1) := by decide +kernel
theorem d19_123 : decode C19 123 = .ok (.goto 4, 3) := by decide +kernel
theorem d19_127 : decode C19 127 = .ok (.ireturn, 1) := by decide +kernel
theorem own_pn19 : plainName "dev/parlance/JsonGrammar" = true := by first | (simp [plainName, overriddenIn]; done) | decide +kernel
theorem own_ef19 (m : MethodId) (x0 : Addr) : entryFrame m #[(.ref x0)] 3 = mkF m 0 #[.val (.ref x0), .unset, .unset] [] := by first | (simp [entryFrame, mkF, argsToLocals, Value.category]; done) | rfl
def QrmEs_3 (Z : State) (g : Addr) (ct : Addr) (ob : Addr) (kc : ClassId) (tx : List Value) (cc : Nat → Int32) (oN : Nat) (kk : Nat) (M : Nat) (tf : Bool) (md : Int32) (dd : Int32) (oo : Int32) (h0 : Heap) (n0 : Nat) (v : Option Value) (h : Heap) (L : List Loc) : Prop := Fr n0 L ∧ Keep h0 h [g] ∧ ((5 ≤ M ∧ v = some (.int 1) ∧ own_G Z h g ct ob (own_P oN kk) md dd oo (own_P oN 5)) ∨ (M < 5 ∧ v = some (.int 0) ∧ own_G Z h g ct ob (own_P oN kk) md dd oo (own_P oN M)))
theorem rmEs_3 (hw : own_HW Z a0) (Z0 : n0 ≤ h0.size) (Gq : own_G Z h0 g ct ob (own_P oN kk) md dd oo (own_P oN 3)) (g_g : n0 ≤ g) (At : Arv Z h0 ct kc .char (52 : Int32) tx (.int 0)) (hT : ∀ i, i < 49 → tx.getD (oN + i) (.int 0) = .int (cc i)) (H : own_H oN kk md M tf cc) (hM0 : 3 < M) (hcs : ¬ (cs = (0 : Int32))) (S_cs : Sta Z h0 "java/lang/String" "COMPACT_STRINGS" "Z" (.int cs)) :
  own_MC l "dev/parlance/JsonGrammar" "escape" "()Z" prog_6_method_7_code 3 (some .boolean) ⟨4, 2, 36, 60⟩ #[(.ref g)] Z h0 (QrmEs_3 Z g ct ob kc tx cc oN kk M tf md dd oo h0 n0) := by
 refine own_fsC (plainFor_of_name own_pn19) (own_ef19 · g) fun p e s m below meth c s₁ hy hml hZ hown hnm hrt hlk X0 e0 hS hk hIn => ?_
 have N0 := Fr.nil n0
 have Kp0 : Keep h0 h0 [g] := Keep.refl h0 _
 obtain ⟨⟨Eg, Ft, Fe, Fm, Fo, Fd, Fp, Fa⟩, ho, hk49, ne_ct_g⟩ := own_gi hw Gq At H
 refine own_inc X0 hy hZ hown hw e0 ⟨Eg, Ft, Fe, Fm, Fo, Fd, Fp, Fa⟩ i19_0 4 fun T1 h1 X1 e1 W1 ⟨_, Ft, Fe, Fm, Fo, Fd, Fp, Fa⟩ => ?_
 replace hIn := own_In.wr hIn W1 (own_sf hZ Eg)
 replace S_cs := S_cs.wr W1
 replace Eg := Eg.wr W1
 replace At := At.other W1 ne_ct_g
 have Z1 := own_zw Z0 W1
 have Kp1 := Kp0.wr W1 own_m0
 replace hk := own_zw hk W1
 have N1 := Fr.snoc X1 N0 g_g
 refine own_ae X1 hy hZ hown hw e1 Fa Fe a19_10 fun T2 X2 e2 => ?_
 rcases own_at H 4 (by decide) hM0 (by decide) with ⟨hm4, hk4, hg4⟩ | ⟨hm4, hk4⟩ | ⟨hm4, hk4, hb4⟩
 ·
  refine own_cn X2 hy d19_18 (tlt (own_Plt ho hk49 hk4)).2.1 ?_
  refine own_tc X2 hy hZ hown hw e2 Ft Fa At ho hT (by decide) t19_21 fun T3 X3 e3 => ?_
  refine own_gt X3 hy d19_30 34 ?_
  refine own_is X3 hy d19_34 (l' := #[.val (.ref g), .val (.int (cc 4)), .unset]) rfl ?_
  refine own_ky X3 hy d19_35 d19_36 d19_38 rfl 45 (feq (own_e117 hg4)).2 ?_
  refine own_ic X3 hy d19_45 ?_
  refine own_is X3 hy d19_46 (l' := #[.val (.ref g), .val (.int (cc 4)), .val (.int 0)]) rfl ?_
  refine own_il X3 hy d19_47 rfl ?_
  refine own_zn X3 hy d19_48 ((if0 _ _).trans (teq (by decide : ((0 : Int32) = (0 : Int32)))).2) ?_
  obtain ⟨b4, T4, h4, ks4, t4, kc4, X4, e4, E4, hS, hkq, hZ, hown, Ex_b4, Fc_b4, Fv_b4, Av_t4, -, -, hCr4, -, -, st4⟩ := ldcCH (EL := consts_1) X3 hy.1 hZ hown (own_w hw 109 rfl) (own_wS hw) e3 hS hk (own_EW hw) (List.mem_of_getElem? (i := 3) rfl) hIn (vs := [(.int 34), (.int 92), (.int 47), (.int 98), (.int 102), (.int 110), (.int 114), (.int 116)]) (z := (8 : Int32)) ⟨by decide +kernel, by decide +kernel⟩ (by decide) (by decide +kernel) (g := (mkF m 51 #[.val (.ref g), .val (.int (cc 4)), .val (.int 0)] [])) rfl (hb hy.2 d19_51) (n := 32) (by decide +kernel) (by decide) (by decide) (by decide)
  replace S_cs := S_cs.ext E4
  replace Eg := Eg.ext E4
  replace Ft := Ft.ext E4
  replace Fe := Fe.ext E4
  replace Fm := Fm.ext E4
  replace Fo := Fo.ext E4
  replace Fd := Fd.ext E4
  replace Fp := Fp.ext E4
  replace Fa := Fa.ext E4
  replace At := At.ext E4
  have Z4 := Nat.le_trans Z1 E4.1
  have Kp4 := Kp1.ext E4
  replace hk := Nat.le_trans hk E4.1
  replace hk := hkq
  have hIn : own_In Z T4.vm h4 := hCr4.1
  refine own_go (A := T4.setTop (mkF m 53 #[.val (.ref g), .val (.int (cc 4)), .val (.int 0)] [(.ref b4)])) (fun _ kz => st4 _ kz) ?_
  clear X1 e1 W1 Z1 Kp1 X2 e2 X3 e3 st4
  refine own_il X4 hy d19_53 rfl ?_
  refine own_cvg X4 hy hZ hown (own_y16 hw) (rmI1Y hw (cc 4) Z4 Ex_b4 Fv_b4 Fc_b4 Av_t4 (own_e255 hg4).1 (own_e255 hg4).2.1 (own_ey hg4) hcs S_cs) e4 Ex_b4 (S := []) rfl d19_54 own_pd11 hml fun v5 T5 L5 X5 hQ5 => ?_
  obtain ⟨rr5, rfl, hrr5, N5q, e5⟩ := hQ5
  have N5 := Fr.app N1 N5q
  refine own_zy X5 hy d19_57 62 ((if0 _ _).trans (flt hrr5).2.1) ?_
  refine own_inc X5 hy hZ hown hw e5 ⟨Eg, Ft, Fe, Fm, Fo, Fd, Fp, Fa⟩ i19_62 5 fun T6 h6 X6 e6 W6 ⟨_, Ft, Fe, Fm, Fo, Fd, Fp, Fa⟩ => ?_
  replace hIn := own_In.wr hIn W6 (own_sf hZ Eg)
  replace S_cs := S_cs.wr W6
  replace Eg := Eg.wr W6
  replace At := At.other W6 ne_ct_g
  have Z6 := own_zw Z4 W6
  have Kp6 := Kp4.wr W6 own_m0
  replace hk := own_zw hk W6
  have N6 := Fr.snoc X6 N5 g_g
  clear N1 X4 e4 N5 N5q X5 e5 W6
  refine own_il X6 hy d19_72 rfl ?_
  refine own_zy X6 hy d19_73 118 ((if0 _ _).trans (flt (by decide : ¬ ((0 : Int32) < (0 : Int32)))).2.2.2) ?_
  refine own_il X6 hy d19_118 rfl ?_
  refine own_zn X6 hy d19_119 ((if0 _ _).trans (teq (by decide : ((0 : Int32) = (0 : Int32)))).2) ?_
  refine own_ic X6 hy d19_122 ?_
  refine own_gt X6 hy d19_123 127 ?_
  exact own_rTC X6 hy hS hk hrt hlk d19_127 hZ hw hIn e6 ⟨N6, Kp6, Or.inl ⟨hm4, rfl, ⟨Eg, Ft, Fe, Fm, Fo, Fd, Fp, Fa⟩⟩⟩
 ·
  refine own_cy X2 hy d19_18 33 (flt (own_Pge ho hk49 (Nat.le_of_eq hk4) (by decide))).2.1 ?_
  refine own_ic X2 hy d19_33 ?_
  refine own_is X2 hy d19_34 (l' := #[.val (.ref g), .val (.int 0), .unset]) rfl ?_
  refine own_ky X2 hy d19_35 d19_36 d19_38 rfl 45 (feq (by decide : ¬ ((0 : Int32) = (117 : Int32)))).2 ?_
  refine own_ic X2 hy d19_45 ?_
  refine own_is X2 hy d19_46 (l' := #[.val (.ref g), .val (.int 0), .val (.int 0)]) rfl ?_
  refine own_il X2 hy d19_47 rfl ?_
  refine own_zn X2 hy d19_48 ((if0 _ _).trans (teq (by decide : ((0 : Int32) = (0 : Int32)))).2) ?_
  obtain ⟨b7, T7, h7, ks7, t7, kc7, X7, e7, E7, hS, hkq, hZ, hown, Ex_b7, Fc_b7, Fv_b7, Av_t7, -, -, hCr7, -, -, st7⟩ := ldcCH (EL := consts_1) X2 hy.1 hZ hown (own_w hw 109 rfl) (own_wS hw) e2 hS hk (own_EW hw) (List.mem_of_getElem? (i := 3) rfl) hIn (vs := [(.int 34), (.int 92), (.int 47), (.int 98), (.int 102), (.int 110), (.int 114), (.int 116)]) (z := (8 : Int32)) ⟨by decide +kernel, by decide +kernel⟩ (by decide) (by decide +kernel) (g := (mkF m 51 #[.val (.ref g), .val (.int 0), .val (.int 0)] [])) rfl (hb hy.2 d19_51) (n := 32) (by decide +kernel) (by decide) (by decide) (by decide)
  replace S_cs := S_cs.ext E7
  replace Eg := Eg.ext E7
  replace Ft := Ft.ext E7
  replace Fe := Fe.ext E7
  replace Fm := Fm.ext E7
  replace Fo := Fo.ext E7
  replace Fd := Fd.ext E7
  replace Fp := Fp.ext E7
  replace Fa := Fa.ext E7
  replace At := At.ext E7
  have Z7 := Nat.le_trans Z1 E7.1
  have Kp7 := Kp1.ext E7
  replace hk := Nat.le_trans hk E7.1
  replace hk := hkq
  have hIn : own_In Z T7.vm h7 := hCr7.1
  refine own_go (A := T7.setTop (mkF m 53 #[.val (.ref g), .val (.int 0), .val (.int 0)] [(.ref b7)])) (fun _ kz => st7 _ kz) ?_
  clear X1 e1 W1 Z1 Kp1 X2 e2 st7
  refine own_il X7 hy d19_53 rfl ?_
  refine own_cvg X7 hy hZ hown (own_y16 hw) (rmI1N hw (0 : Int32) Z7 Ex_b7 Fv_b7 Fc_b7 Av_t7 (by decide) (by decide) own_0ny hcs S_cs) e7 Ex_b7 (S := []) rfl d19_54 own_pd11 hml fun v8 T8 L8 X8 hQ8 => ?_
  obtain ⟨rfl, N8q, e8⟩ := hQ8
  have N8 := Fr.app N1 N8q
  refine own_zn X8 hy d19_57 ((if0 _ _).trans (tlt (by decide : ((-1 : Int32) < (0 : Int32)))).2.1) ?_
  refine own_ic X8 hy d19_60 ?_
  exact own_rFC X8 hy hS hk hrt hlk d19_61 hZ hw hIn e8 ⟨N8, Kp7, Or.inr ⟨by omega, rfl, by rw [hm4]; exact ⟨Eg, Ft, Fe, Fm, Fo, Fd, Fp, Fa⟩⟩⟩
 ·
  refine own_cn X2 hy d19_18 (tlt (own_Plt ho hk49 hk4)).2.1 ?_
  refine own_tc X2 hy hZ hown hw e2 Ft Fa At ho hT (by decide) t19_21 fun T9 X9 e9 => ?_
  refine own_gt X9 hy d19_30 34 ?_
  refine own_is X9 hy d19_34 (l' := #[.val (.ref g), .val (.int (cc 4)), .unset]) rfl ?_
  refine own_ky X9 hy d19_35 d19_36 d19_38 rfl 45 (feq (own_bne hb4 (by decide))).2 ?_
  refine own_ic X9 hy d19_45 ?_
  refine own_is X9 hy d19_46 (l' := #[.val (.ref g), .val (.int (cc 4)), .val (.int 0)]) rfl ?_
  refine own_il X9 hy d19_47 rfl ?_
  refine own_zn X9 hy d19_48 ((if0 _ _).trans (teq (by decide : ((0 : Int32) = (0 : Int32)))).2) ?_
  obtain ⟨b10, T10, h10, ks10, t10, kc10, X10, e10, E10, hS, hkq, hZ, hown, Ex_b10, Fc_b10, Fv_b10, Av_t10, -, -, hCr10, -, -, st10⟩ := ldcCH (EL := consts_1) X9 hy.1 hZ hown (own_w hw 109 rfl) (own_wS hw) e9 hS hk (own_EW hw) (List.mem_of_getElem? (i := 3) rfl) hIn (vs := [(.int 34), (.int 92), (.int 47), (.int 98), (.int 102), (.int 110), (.int 114), (.int 116)]) (z := (8 : Int32)) ⟨by decide +kernel, by decide +kernel⟩ (by decide) (by decide +kernel) (g := (mkF m 51 #[.val (.ref g), .val (.int (cc 4)), .val (.int 0)] [])) rfl (hb hy.2 d19_51) (n := 32) (by decide +kernel) (by decide) (by decide) (by decide)
  replace S_cs := S_cs.ext E10
  replace Eg := Eg.ext E10
  replace Ft := Ft.ext E10
  replace Fe := Fe.ext E10
  replace Fm := Fm.ext E10
  replace Fo := Fo.ext E10
  replace Fd := Fd.ext E10
  replace Fp := Fp.ext E10
  replace Fa := Fa.ext E10
  replace At := At.ext E10
  have Z10 := Nat.le_trans Z1 E10.1
  have Kp10 := Kp1.ext E10
  replace hk := Nat.le_trans hk E10.1
  replace hk := hkq
  have hIn : own_In Z T10.vm h10 := hCr10.1
  refine own_go (A := T10.setTop (mkF m 53 #[.val (.ref g), .val (.int (cc 4)), .val (.int 0)] [(.ref b10)])) (fun _ kz => st10 _ kz) ?_
  clear X1 e1 W1 Z1 Kp1 X2 e2 X9 e9 st10
  refine own_il X10 hy d19_53 rfl ?_
  refine own_cvg X10 hy hZ hown (own_y16 hw) (rmI1N hw (cc 4) Z10 Ex_b10 Fv_b10 Fc_b10 Av_t10 (own_b255 hb4).1 (own_b255 hb4).2.1 (own_bny hb4) hcs S_cs) e10 Ex_b10 (S := []) rfl d19_54 own_pd11 hml fun v11 T11 L11 X11 hQ11 => ?_
  obtain ⟨rfl, N11q, e11⟩ := hQ11
  have N11 := Fr.app N1 N11q
  refine own_zn X11 hy d19_57 ((if0 _ _).trans (tlt (by decide : ((-1 : Int32) < (0 : Int32)))).2.1) ?_
  refine own_ic X11 hy d19_60 ?_
  exact own_rFC X11 hy hS hk hrt hlk d19_61 hZ hw hIn e11 ⟨N11, Kp10, Or.inr ⟨by omega, rfl, by rw [hm4]; exact ⟨Eg, Ft, Fe, Fm, Fo, Fd, Fp, Fa⟩⟩⟩
theorem d19_41 : decode C19 41 = .ok (.iconst 4, 1) := by decide +kernel
theorem d19_42 : decode C19 42 = .ok (.goto 4, 3) := by decide +kernel
theorem d19_76 : decode C19 76 = .ok (.aload_n 0, 1) := by decide +kernel
theorem d19_84 : decode C19 84 = .ok (.if_icmp .ge 34, 3) := by decide +kernel
theorem d19_87 : decode C19 87 = .ok (.aload_n 0, 1) := by decide +kernel
theorem d19_96 : decode C19 96 = .ok (.invokestatic 85, 3) := by decide +kernel
theorem d19_99 : decode C19 99 = .ok (.ifCond .eq 19, 3) := by decide +kernel
theorem d19_102 : decode C19 102 = .ok (.aload_n 0, 1) := by decide +kernel
theorem d19_112 : decode C19 112 = .ok (.iinc 2 (-1), 3) := by decide +kernel
theorem d19_115 : decode C19 115 = .ok (.goto (-43), 3) := by decide +kernel
theorem d19_126 : decode C19 126 = .ok (.iconst 0, 1) := by decide +kernel
def QrmEs_5 (Z : State) (g : Addr) (ct : Addr) (ob : Addr) (kc : ClassId) (tx : List Value) (cc : Nat → Int32) (oN : Nat) (kk : Nat) (M : Nat) (tf : Bool) (md : Int32) (dd : Int32) (oo : Int32) (h0 : Heap) (n0 : Nat) (v : Option Value) (h : Heap) (L : List Loc) : Prop := Fr n0 L ∧ Keep h0 h [g] ∧ ((11 ≤ M ∧ v = some (.int 1) ∧ own_G Z h g ct ob (own_P oN kk) md dd oo (own_P oN 11)) ∨ (M < 11 ∧ v = some (.int 0) ∧ own_G Z h g ct ob (own_P oN kk) md dd oo (own_P oN M)))
theorem rmEs_5 (hw : own_HW Z a0) (Z0 : n0 ≤ h0.size) (Gq : own_G Z h0 g ct ob (own_P oN kk) md dd oo (own_P oN 5)) (g_g : n0 ≤ g) (At : Arv Z h0 ct kc .char (52 : Int32) tx (.int 0)) (hT : ∀ i, i < 49 → tx.getD (oN + i) (.int 0) = .int (cc i)) (H : own_H oN kk md M tf cc) (hM0 : 5 < M) (hcs : ¬ (cs = (0 : Int32))) (S_cs : Sta Z h0 "java/lang/String" "COMPACT_STRINGS" "Z" (.int cs)) :
  own_MC l "dev/parlance/JsonGrammar" "escape" "()Z" prog_6_method_7_code 3 (some .boolean) ⟨4, 2, 36, 60⟩ #[(.ref g)] Z h0 (QrmEs_5 Z g ct ob kc tx cc oN kk M tf md dd oo h0 n0) := by
 refine own_fsC (plainFor_of_name own_pn19) (own_ef19 · g) fun p e s m below meth c s₁ hy hml hZ hown hnm hrt hlk X0 e0 hS hk hIn => ?_
 have N0 := Fr.nil n0
 have Kp0 : Keep h0 h0 [g] := Keep.refl h0 _
 obtain ⟨⟨Eg, Ft, Fe, Fm, Fo, Fd, Fp, Fa⟩, ho, hk49, ne_ct_g⟩ := own_gi hw Gq At H
 refine own_inc X0 hy hZ hown hw e0 ⟨Eg, Ft, Fe, Fm, Fo, Fd, Fp, Fa⟩ i19_0 6 fun T1 h1 X1 e1 W1 ⟨_, Ft, Fe, Fm, Fo, Fd, Fp, Fa⟩ => ?_
 replace hIn := own_In.wr hIn W1 (own_sf hZ Eg)
 replace S_cs := S_cs.wr W1
 replace Eg := Eg.wr W1
 replace At := At.other W1 ne_ct_g
 have Z1 := own_zw Z0 W1
 have Kp1 := Kp0.wr W1 own_m0
 replace hk := own_zw hk W1
 have N1 := Fr.snoc X1 N0 g_g
 refine own_ae X1 hy hZ hown hw e1 Fa Fe a19_10 fun T2 X2 e2 => ?_
 rcases own_at H 6 (by decide) hM0 (by decide) with ⟨hm6, hk6, hg6⟩ | ⟨hm6, hk6⟩ | ⟨hm6, hk6, hb6⟩
 ·
  refine own_cn X2 hy d19_18 (tlt (own_Plt ho hk49 hk6)).2.1 ?_
  refine own_tc X2 hy hZ hown hw e2 Ft Fa At ho hT (by decide) t19_21 fun T3 X3 e3 => ?_
  refine own_gt X3 hy d19_30 34 ?_
  refine own_is X3 hy d19_34 (l' := #[.val (.ref g), .val (.int (cc 6)), .unset]) rfl ?_
  refine own_kn X3 hy d19_35 d19_36 d19_38 rfl (teq (show cc 6 = 117 from hg6)).2 ?_
  refine own_ic X3 hy d19_41 ?_
  refine own_gt X3 hy d19_42 46 ?_
  refine own_is X3 hy d19_46 (l' := #[.val (.ref g), .val (.int (cc 6)), .val (.int 4)]) rfl ?_
  refine own_il X3 hy d19_47 rfl ?_
  refine own_zy X3 hy d19_48 62 ((if0 _ _).trans (feq (by decide : ¬ ((4 : Int32) = (0 : Int32)))).2) ?_
  refine own_inc X3 hy hZ hown hw e3 ⟨Eg, Ft, Fe, Fm, Fo, Fd, Fp, Fa⟩ i19_62 7 fun T4 h4 X4 e4 W4 ⟨_, Ft, Fe, Fm, Fo, Fd, Fp, Fa⟩ => ?_
  replace hIn := own_In.wr hIn W4 (own_sf hZ Eg)
  replace S_cs := S_cs.wr W4
  replace Eg := Eg.wr W4
  replace At := At.other W4 ne_ct_g
  have Z4 := own_zw Z1 W4
  have Kp4 := Kp1.wr W4 own_m0
  replace hk := own_zw hk W4
  have N4 := Fr.snoc X4 N1 g_g
  clear X1 e1 W1 N1 Z1 Kp1 X2 e2 X3 e3 W4
  refine own_il X4 hy d19_72 rfl ?_
  refine own_zn X4 hy d19_73 ((if0 _ _).trans (tlt (by decide : ((0 : Int32) < (4 : Int32)))).2.2.2) ?_
  refine own_ae X4 hy hZ hown hw e4 Fa Fe a19_76 fun T5 X5 e5 => ?_
  rcases own_at H 7 (by decide) hm6 (by decide) with ⟨hm7, hk7, hg7⟩ | ⟨hm7, hk7⟩ | ⟨hm7, hk7, hb7⟩
  ·
   refine own_cn X5 hy d19_84 (tlt (own_Plt ho hk49 hk7)).2.1 ?_
   refine own_tc X5 hy hZ hown hw e5 Ft Fa At ho hT (by decide) t19_87 fun T6 X6 e6 => ?_
   refine own_cs X6 hy hZ hown (own_y17 hw) (rmHX hw (cc 7) (1 : Int32) Z4 hg7) e6 d19_96 own_pd0 hml fun v7 T7 L7 X7 hQ7 => ?_
   obtain ⟨rfl, N7q, e7⟩ := hQ7
   have N7 := Fr.app N4 N7q
   clear X4 e4 N4 X5 e5 X6 e6 N7q
   refine own_zn X7 hy d19_99 ((if0 _ _).trans (feq (by decide : ¬ ((1 : Int32) = (0 : Int32)))).1) ?_
   refine own_inc X7 hy hZ hown hw e7 ⟨Eg, Ft, Fe, Fm, Fo, Fd, Fp, Fa⟩ i19_102 8 fun T8 h8 X8 e8 W8 ⟨_, Ft, Fe, Fm, Fo, Fd, Fp, Fa⟩ => ?_
   replace hIn := own_In.wr hIn W8 (own_sf hZ Eg)
   replace S_cs := S_cs.wr W8
   replace Eg := Eg.wr W8
   replace At := At.other W8 ne_ct_g
   have Z8 := own_zw Z4 W8
   have Kp8 := Kp4.wr W8 own_m0
   replace hk := own_zw hk W8
   have N8 := Fr.snoc X8 N7 g_g
   refine own_ii X8 hy d19_112 rfl (l' := #[.val (.ref g), .val (.int (cc 6)), .val (.int 3)]) rfl ?_
   refine own_gt X8 hy d19_115 72 ?_
   refine own_il X8 hy d19_72 rfl ?_
   refine own_zn X8 hy d19_73 ((if0 _ _).trans (tlt (by decide : ((0 : Int32) < (3 : Int32)))).2.2.2) ?_
   refine own_ae X8 hy hZ hown hw e8 Fa Fe a19_76 fun T9 X9 e9 => ?_
   clear Z4 Kp4 N7 X7 e7 X8 e8 W8
   rcases own_at H 8 (by decide) hm7 (by decide) with ⟨hm8, hk8, hg8⟩ | ⟨hm8, hk8⟩ | ⟨hm8, hk8, hb8⟩
   ·
    refine own_cn X9 hy d19_84 (tlt (own_Plt ho hk49 hk8)).2.1 ?_
    refine own_tc X9 hy hZ hown hw e9 Ft Fa At ho hT (by decide) t19_87 fun T10 X10 e10 => ?_
    refine own_cs X10 hy hZ hown (own_y17 hw) (rmHX hw (cc 8) (1 : Int32) Z8 hg8) e10 d19_96 own_pd0 hml fun v11 T11 L11 X11 hQ11 => ?_
    obtain ⟨rfl, N11q, e11⟩ := hQ11
    have N11 := Fr.app N8 N11q
    refine own_zn X11 hy d19_99 ((if0 _ _).trans (feq (by decide : ¬ ((1 : Int32) = (0 : Int32)))).1) ?_
    refine own_inc X11 hy hZ hown hw e11 ⟨Eg, Ft, Fe, Fm, Fo, Fd, Fp, Fa⟩ i19_102 9 fun T12 h12 X12 e12 W12 ⟨_, Ft, Fe, Fm, Fo, Fd, Fp, Fa⟩ => ?_
    replace hIn := own_In.wr hIn W12 (own_sf hZ Eg)
    replace S_cs := S_cs.wr W12
    replace Eg := Eg.wr W12
    replace At := At.other W12 ne_ct_g
    have Z12 := own_zw Z8 W12
    have Kp12 := Kp8.wr W12 own_m0
    replace hk := own_zw hk W12
    have N12 := Fr.snoc X12 N11 g_g
    clear N8 Z8 Kp8 X9 e9 X10 e10 N11 N11q X11 e11 W12
    refine own_ii X12 hy d19_112 rfl (l' := #[.val (.ref g), .val (.int (cc 6)), .val (.int 2)]) rfl ?_
    refine own_gt X12 hy d19_115 72 ?_
    refine own_il X12 hy d19_72 rfl ?_
    refine own_zn X12 hy d19_73 ((if0 _ _).trans (tlt (by decide : ((0 : Int32) < (2 : Int32)))).2.2.2) ?_
    refine own_ae X12 hy hZ hown hw e12 Fa Fe a19_76 fun T13 X13 e13 => ?_
    rcases own_at H 9 (by decide) hm8 (by decide) with ⟨hm9, hk9, hg9⟩ | ⟨hm9, hk9⟩ | ⟨hm9, hk9, hb9⟩
    ·
     refine own_cn X13 hy d19_84 (tlt (own_Plt ho hk49 hk9)).2.1 ?_
     refine own_tc X13 hy hZ hown hw e13 Ft Fa At ho hT (by decide) t19_87 fun T14 X14 e14 => ?_
     refine own_cs X14 hy hZ hown (own_y17 hw) (rmHX hw (cc 9) (1 : Int32) Z12 hg9) e14 d19_96 own_pd0 hml fun v15 T15 L15 X15 hQ15 => ?_
     obtain ⟨rfl, N15q, e15⟩ := hQ15
     have N15 := Fr.app N12 N15q
     clear X12 e12 N12 X13 e13 X14 e14 N15q
     refine own_zn X15 hy d19_99 ((if0 _ _).trans (feq (by decide : ¬ ((1 : Int32) = (0 : Int32)))).1) ?_
     refine own_inc X15 hy hZ hown hw e15 ⟨Eg, Ft, Fe, Fm, Fo, Fd, Fp, Fa⟩ i19_102 10 fun T16 h16 X16 e16 W16 ⟨_, Ft, Fe, Fm, Fo, Fd, Fp, Fa⟩ => ?_
     replace hIn := own_In.wr hIn W16 (own_sf hZ Eg)
     replace S_cs := S_cs.wr W16
     replace Eg := Eg.wr W16
     replace At := At.other W16 ne_ct_g
     have Z16 := own_zw Z12 W16
     have Kp16 := Kp12.wr W16 own_m0
     replace hk := own_zw hk W16
     have N16 := Fr.snoc X16 N15 g_g
     refine own_ii X16 hy d19_112 rfl (l' := #[.val (.ref g), .val (.int (cc 6)), .val (.int 1)]) rfl ?_
     refine own_gt X16 hy d19_115 72 ?_
     refine own_il X16 hy d19_72 rfl ?_
     refine own_zn X16 hy d19_73 ((if0 _ _).trans (tlt (by decide : ((0 : Int32) < (1 : Int32)))).2.2.2) ?_
     refine own_ae X16 hy hZ hown hw e16 Fa Fe a19_76 fun T17 X17 e17 => ?_
     clear Z12 Kp12 N15 X15 e15 X16 e16 W16
     rcases own_at H 10 (by decide) hm9 (by decide) with ⟨hm10, hk10, hg10⟩ | ⟨hm10, hk10⟩ | ⟨hm10, hk10, hb10⟩
     ·
      refine own_cn X17 hy d19_84 (tlt (own_Plt ho hk49 hk10)).2.1 ?_
      refine own_tc X17 hy hZ hown hw e17 Ft Fa At ho hT (by decide) t19_87 fun T18 X18 e18 => ?_
      refine own_cs X18 hy hZ hown (own_y17 hw) (rmHX hw (cc 10) (1 : Int32) Z16 hg10) e18 d19_96 own_pd0 hml fun v19 T19 L19 X19 hQ19 => ?_
      obtain ⟨rfl, N19q, e19⟩ := hQ19
      have N19 := Fr.app N16 N19q
      refine own_zn X19 hy d19_99 ((if0 _ _).trans (feq (by decide : ¬ ((1 : Int32) = (0 : Int32)))).1) ?_
      refine own_inc X19 hy hZ hown hw e19 ⟨Eg, Ft, Fe, Fm, Fo, Fd, Fp, Fa⟩ i19_102 11 fun T20 h20 X20 e20 W20 ⟨_, Ft, Fe, Fm, Fo, Fd, Fp, Fa⟩ => ?_
      replace hIn := own_In.wr hIn W20 (own_sf hZ Eg)
      replace S_cs := S_cs.wr W20
      replace Eg := Eg.wr W20
      replace At := At.other W20 ne_ct_g
      have Z20 := own_zw Z16 W20
      have Kp20 := Kp16.wr W20 own_m0
      replace hk := own_zw hk W20
      have N20 := Fr.snoc X20 N19 g_g
      clear N16 Z16 Kp16 X17 e17 X18 e18 N19 N19q X19 e19 W20
      refine own_ii X20 hy d19_112 rfl (l' := #[.val (.ref g), .val (.int (cc 6)), .val (.int 0)]) rfl ?_
      refine own_gt X20 hy d19_115 72 ?_
      refine own_il X20 hy d19_72 rfl ?_
      refine own_zy X20 hy d19_73 118 ((if0 _ _).trans (flt (by decide : ¬ ((0 : Int32) < (0 : Int32)))).2.2.2) ?_
      refine own_il X20 hy d19_118 rfl ?_
      refine own_zn X20 hy d19_119 ((if0 _ _).trans (teq (by decide : ((0 : Int32) = (0 : Int32)))).2) ?_
      refine own_ic X20 hy d19_122 ?_
      refine own_gt X20 hy d19_123 127 ?_
      exact own_rTC X20 hy hS hk hrt hlk d19_127 hZ hw hIn e20 ⟨N20, Kp20, Or.inl ⟨hm10, rfl, ⟨Eg, Ft, Fe, Fm, Fo, Fd, Fp, Fa⟩⟩⟩
     ·
      refine own_cy X17 hy d19_84 118 (flt (own_Pge ho hk49 (Nat.le_of_eq hk10) (by decide))).2.1 ?_
      refine own_il X17 hy d19_118 rfl ?_
      refine own_zy X17 hy d19_119 126 ((if0 _ _).trans (feq (by decide : ¬ ((1 : Int32) = (0 : Int32)))).2) ?_
      refine own_ic X17 hy d19_126 ?_
      exact own_rFC X17 hy hS hk hrt hlk d19_127 hZ hw hIn e17 ⟨N16, Kp16, Or.inr ⟨by omega, rfl, by rw [hm10]; exact ⟨Eg, Ft, Fe, Fm, Fo, Fd, Fp, Fa⟩⟩⟩
     ·
      refine own_cn X17 hy d19_84 (tlt (own_Plt ho hk49 hk10)).2.1 ?_
      refine own_tc X17 hy hZ hown hw e17 Ft Fa At ho hT (by decide) t19_87 fun T21 X21 e21 => ?_
      refine own_cs X21 hy hZ hown (own_y17 hw) (rmHX hw (cc 10) (0 : Int32) Z16 (own_bhx hb10)) e21 d19_96 own_pd0 hml fun v22 T22 L22 X22 hQ22 => ?_
      obtain ⟨rfl, N22q, e22⟩ := hQ22
      have N22 := Fr.app N16 N22q
      refine own_zy X22 hy d19_99 118 ((if0 _ _).trans (teq (by decide : ((0 : Int32) = (0 : Int32)))).1) ?_
      refine own_il X22 hy d19_118 rfl ?_
      refine own_zy X22 hy d19_119 126 ((if0 _ _).trans (feq (by decide : ¬ ((1 : Int32) = (0 : Int32)))).2) ?_
      refine own_ic X22 hy d19_126 ?_
      exact own_rFC X22 hy hS hk hrt hlk d19_127 hZ hw hIn e22 ⟨N22, Kp16, Or.inr ⟨by omega, rfl, by rw [hm10]; exact ⟨Eg, Ft, Fe, Fm, Fo, Fd, Fp, Fa⟩⟩⟩
    ·
     refine own_cy X13 hy d19_84 118 (flt (own_Pge ho hk49 (Nat.le_of_eq hk9) (by decide))).2.1 ?_
     refine own_il X13 hy d19_118 rfl ?_
     refine own_zy X13 hy d19_119 126 ((if0 _ _).trans (feq (by decide : ¬ ((2 : Int32) = (0 : Int32)))).2) ?_
     refine own_ic X13 hy d19_126 ?_
     exact own_rFC X13 hy hS hk hrt hlk d19_127 hZ hw hIn e13 ⟨N12, Kp12, Or.inr ⟨by omega, rfl, by rw [hm9]; exact ⟨Eg, Ft, Fe, Fm, Fo, Fd, Fp, Fa⟩⟩⟩
    ·
     refine own_cn X13 hy d19_84 (tlt (own_Plt ho hk49 hk9)).2.1 ?_
     refine own_tc X13 hy hZ hown hw e13 Ft Fa At ho hT (by decide) t19_87 fun T23 X23 e23 => ?_
     refine own_cs X23 hy hZ hown (own_y17 hw) (rmHX hw (cc 9) (0 : Int32) Z12 (own_bhx hb9)) e23 d19_96 own_pd0 hml fun v24 T24 L24 X24 hQ24 => ?_
     obtain ⟨rfl, N24q, e24⟩ := hQ24
     have N24 := Fr.app N12 N24q
     clear X12 e12 N12 X13 e13 X23 e23 N24q
     refine own_zy X24 hy d19_99 118 ((if0 _ _).trans (teq (by decide : ((0 : Int32) = (0 : Int32)))).1) ?_
     refine own_il X24 hy d19_118 rfl ?_
     refine own_zy X24 hy d19_119 126 ((if0 _ _).trans (feq (by decide : ¬ ((2 : Int32) = (0 : Int32)))).2) ?_
     refine own_ic X24 hy d19_126 ?_
     exact own_rFC X24 hy hS hk hrt hlk d19_127 hZ hw hIn e24 ⟨N24, Kp12, Or.inr ⟨by omega, rfl, by rw [hm9]; exact ⟨Eg, Ft, Fe, Fm, Fo, Fd, Fp, Fa⟩⟩⟩
   ·
    refine own_cy X9 hy d19_84 118 (flt (own_Pge ho hk49 (Nat.le_of_eq hk8) (by decide))).2.1 ?_
    refine own_il X9 hy d19_118 rfl ?_
    refine own_zy X9 hy d19_119 126 ((if0 _ _).trans (feq (by decide : ¬ ((3 : Int32) = (0 : Int32)))).2) ?_
    refine own_ic X9 hy d19_126 ?_
    exact own_rFC X9 hy hS hk hrt hlk d19_127 hZ hw hIn e9 ⟨N8, Kp8, Or.inr ⟨by omega, rfl, by rw [hm8]; exact ⟨Eg, Ft, Fe, Fm, Fo, Fd, Fp, Fa⟩⟩⟩
   ·
    refine own_cn X9 hy d19_84 (tlt (own_Plt ho hk49 hk8)).2.1 ?_
    refine own_tc X9 hy hZ hown hw e9 Ft Fa At ho hT (by decide) t19_87 fun T25 X25 e25 => ?_
    refine own_cs X25 hy hZ hown (own_y17 hw) (rmHX hw (cc 8) (0 : Int32) Z8 (own_bhx hb8)) e25 d19_96 own_pd0 hml fun v26 T26 L26 X26 hQ26 => ?_
    obtain ⟨rfl, N26q, e26⟩ := hQ26
    have N26 := Fr.app N8 N26q
    refine own_zy X26 hy d19_99 118 ((if0 _ _).trans (teq (by decide : ((0 : Int32) = (0 : Int32)))).1) ?_
    refine own_il X26 hy d19_118 rfl ?_
    refine own_zy X26 hy d19_119 126 ((if0 _ _).trans (feq (by decide : ¬ ((3 : Int32) = (0 : Int32)))).2) ?_
    refine own_ic X26 hy d19_126 ?_
    exact own_rFC X26 hy hS hk hrt hlk d19_127 hZ hw hIn e26 ⟨N26, Kp8, Or.inr ⟨by omega, rfl, by rw [hm8]; exact ⟨Eg, Ft, Fe, Fm, Fo, Fd, Fp, Fa⟩⟩⟩
  ·
   refine own_cy X5 hy d19_84 118 (flt (own_Pge ho hk49 (Nat.le_of_eq hk7) (by decide))).2.1 ?_
   refine own_il X5 hy d19_118 rfl ?_
   refine own_zy X5 hy d19_119 126 ((if0 _ _).trans (feq (by decide : ¬ ((4 : Int32) = (0 : Int32)))).2) ?_
   refine own_ic X5 hy d19_126 ?_
   exact own_rFC X5 hy hS hk hrt hlk d19_127 hZ hw hIn e5 ⟨N4, Kp4, Or.inr ⟨by omega, rfl, by rw [hm7]; exact ⟨Eg, Ft, Fe, Fm, Fo, Fd, Fp, Fa⟩⟩⟩
  ·
   refine own_cn X5 hy d19_84 (tlt (own_Plt ho hk49 hk7)).2.1 ?_
   refine own_tc X5 hy hZ hown hw e5 Ft Fa At ho hT (by decide) t19_87 fun T27 X27 e27 => ?_
   refine own_cs X27 hy hZ hown (own_y17 hw) (rmHX hw (cc 7) (0 : Int32) Z4 (own_bhx hb7)) e27 d19_96 own_pd0 hml fun v28 T28 L28 X28 hQ28 => ?_
   obtain ⟨rfl, N28q, e28⟩ := hQ28
   have N28 := Fr.app N4 N28q
   clear X4 e4 N4 X5 e5 X27 e27 N28q
   refine own_zy X28 hy d19_99 118 ((if0 _ _).trans (teq (by decide : ((0 : Int32) = (0 : Int32)))).1) ?_
   refine own_il X28 hy d19_118 rfl ?_
   refine own_zy X28 hy d19_119 126 ((if0 _ _).trans (feq (by decide : ¬ ((4 : Int32) = (0 : Int32)))).2) ?_
   refine own_ic X28 hy d19_126 ?_
   exact own_rFC X28 hy hS hk hrt hlk d19_127 hZ hw hIn e28 ⟨N28, Kp4, Or.inr ⟨by omega, rfl, by rw [hm7]; exact ⟨Eg, Ft, Fe, Fm, Fo, Fd, Fp, Fa⟩⟩⟩
 ·
  refine own_cy X2 hy d19_18 33 (flt (own_Pge ho hk49 (Nat.le_of_eq hk6) (by decide))).2.1 ?_
  refine own_ic X2 hy d19_33 ?_
  refine own_is X2 hy d19_34 (l' := #[.val (.ref g), .val (.int 0), .unset]) rfl ?_
  refine own_ky X2 hy d19_35 d19_36 d19_38 rfl 45 (feq (by decide : ¬ ((0 : Int32) = (117 : Int32)))).2 ?_
  refine own_ic X2 hy d19_45 ?_
  refine own_is X2 hy d19_46 (l' := #[.val (.ref g), .val (.int 0), .val (.int 0)]) rfl ?_
  refine own_il X2 hy d19_47 rfl ?_
  refine own_zn X2 hy d19_48 ((if0 _ _).trans (teq (by decide : ((0 : Int32) = (0 : Int32)))).2) ?_
  obtain ⟨b29, T29, h29, ks29, t29, kc29, X29, e29, E29, hS, hkq, hZ, hown, Ex_b29, Fc_b29, Fv_b29, Av_t29, -, -, hCr29, -, -, st29⟩ := ldcCH (EL := consts_1) X2 hy.1 hZ hown (own_w hw 109 rfl) (own_wS hw) e2 hS hk (own_EW hw) (List.mem_of_getElem? (i := 3) rfl) hIn (vs := [(.int 34), (.int 92), (.int 47), (.int 98), (.int 102), (.int 110), (.int 114), (.int 116)]) (z := (8 : Int32)) ⟨by decide +kernel, by decide +kernel⟩ (by decide) (by decide +kernel) (g := (mkF m 51 #[.val (.ref g), .val (.int 0), .val (.int 0)] [])) rfl (hb hy.2 d19_51) (n := 32) (by decide +kernel) (by decide) (by decide) (by decide)
  replace S_cs := S_cs.ext E29
  replace Eg := Eg.ext E29
  replace Ft := Ft.ext E29
  replace Fe := Fe.ext E29
  replace Fm := Fm.ext E29
  replace Fo := Fo.ext E29
  replace Fd := Fd.ext E29
  replace Fp := Fp.ext E29
  replace Fa := Fa.ext E29
  replace At := At.ext E29
  have Z29 := Nat.le_trans Z1 E29.1
  have Kp29 := Kp1.ext E29
  replace hk := Nat.le_trans hk E29.1
  replace hk := hkq
  have hIn : own_In Z T29.vm h29 := hCr29.1
  refine own_go (A := T29.setTop (mkF m 53 #[.val (.ref g), .val (.int 0), .val (.int 0)] [(.ref b29)])) (fun _ kz => st29 _ kz) ?_
  clear X1 e1 W1 Z1 Kp1 X2 e2 st29
  refine own_il X29 hy d19_53 rfl ?_
  refine own_cvg X29 hy hZ hown (own_y16 hw) (rmI1N hw (0 : Int32) Z29 Ex_b29 Fv_b29 Fc_b29 Av_t29 (by decide) (by decide) own_0ny hcs S_cs) e29 Ex_b29 (S := []) rfl d19_54 own_pd11 hml fun v30 T30 L30 X30 hQ30 => ?_
  obtain ⟨rfl, N30q, e30⟩ := hQ30
  have N30 := Fr.app N1 N30q
  refine own_zn X30 hy d19_57 ((if0 _ _).trans (tlt (by decide : ((-1 : Int32) < (0 : Int32)))).2.1) ?_
  refine own_ic X30 hy d19_60 ?_
  exact own_rFC X30 hy hS hk hrt hlk d19_61 hZ hw hIn e30 ⟨N30, Kp29, Or.inr ⟨by omega, rfl, by rw [hm6]; exact ⟨Eg, Ft, Fe, Fm, Fo, Fd, Fp, Fa⟩⟩⟩
 ·
  refine own_cn X2 hy d19_18 (tlt (own_Plt ho hk49 hk6)).2.1 ?_
  refine own_tc X2 hy hZ hown hw e2 Ft Fa At ho hT (by decide) t19_21 fun T31 X31 e31 => ?_
  refine own_gt X31 hy d19_30 34 ?_
  refine own_is X31 hy d19_34 (l' := #[.val (.ref g), .val (.int (cc 6)), .unset]) rfl ?_
  refine own_ky X31 hy d19_35 d19_36 d19_38 rfl 45 (feq (own_bne hb6 (by decide))).2 ?_
  refine own_ic X31 hy d19_45 ?_
  refine own_is X31 hy d19_46 (l' := #[.val (.ref g), .val (.int (cc 6)), .val (.int 0)]) rfl ?_
  refine own_il X31 hy d19_47 rfl ?_
  refine own_zn X31 hy d19_48 ((if0 _ _).trans (teq (by decide : ((0 : Int32) = (0 : Int32)))).2) ?_
  obtain ⟨b32, T32, h32, ks32, t32, kc32, X32, e32, E32, hS, hkq, hZ, hown, Ex_b32, Fc_b32, Fv_b32, Av_t32, -, -, hCr32, -, -, st32⟩ := ldcCH (EL := consts_1) X31 hy.1 hZ hown (own_w hw 109 rfl) (own_wS hw) e31 hS hk (own_EW hw) (List.mem_of_getElem? (i := 3) rfl) hIn (vs := [(.int 34), (.int 92), (.int 47), (.int 98), (.int 102), (.int 110), (.int 114), (.int 116)]) (z := (8 : Int32)) ⟨by decide +kernel, by decide +kernel⟩ (by decide) (by decide +kernel) (g := (mkF m 51 #[.val (.ref g), .val (.int (cc 6)), .val (.int 0)] [])) rfl (hb hy.2 d19_51) (n := 32) (by decide +kernel) (by decide) (by decide) (by decide)
  replace S_cs := S_cs.ext E32
  replace Eg := Eg.ext E32
  replace Ft := Ft.ext E32
  replace Fe := Fe.ext E32
  replace Fm := Fm.ext E32
  replace Fo := Fo.ext E32
  replace Fd := Fd.ext E32
  replace Fp := Fp.ext E32
  replace Fa := Fa.ext E32
  replace At := At.ext E32
  have Z32 := Nat.le_trans Z1 E32.1
  have Kp32 := Kp1.ext E32
  replace hk := Nat.le_trans hk E32.1
  replace hk := hkq
  have hIn : own_In Z T32.vm h32 := hCr32.1
  refine own_go (A := T32.setTop (mkF m 53 #[.val (.ref g), .val (.int (cc 6)), .val (.int 0)] [(.ref b32)])) (fun _ kz => st32 _ kz) ?_
  clear X1 e1 W1 Z1 Kp1 X2 e2 X31 e31 st32
  refine own_il X32 hy d19_53 rfl ?_
  refine own_cvg X32 hy hZ hown (own_y16 hw) (rmI1N hw (cc 6) Z32 Ex_b32 Fv_b32 Fc_b32 Av_t32 (own_b255 hb6).1 (own_b255 hb6).2.1 (own_bny hb6) hcs S_cs) e32 Ex_b32 (S := []) rfl d19_54 own_pd11 hml fun v33 T33 L33 X33 hQ33 => ?_
  obtain ⟨rfl, N33q, e33⟩ := hQ33
  have N33 := Fr.app N1 N33q
  refine own_zn X33 hy d19_57 ((if0 _ _).trans (tlt (by decide : ((-1 : Int32) < (0 : Int32)))).2.1) ?_
  refine own_ic X33 hy d19_60 ?_
  exact own_rFC X33 hy hS hk hrt hlk d19_61 hZ hw hIn e33 ⟨N33, Kp32, Or.inr ⟨by omega, rfl, by rw [hm6]; exact ⟨Eg, Ft, Fe, Fm, Fo, Fd, Fp, Fa⟩⟩⟩
theorem d18_51 : decode C18 51 = .ok (.aload_n 0, 1) := by decide +kernel
theorem d18_60 : decode C18 60 = .ok (.bipush 92, 2) := by decide +kernel
theorem d18_62 : decode C18 62 = .ok (.if_icmp .eq 16, 3) := by decide +kernel
theorem d18_65 : decode C18 65 = .ok (.aload_n 0, 1) := by decide +kernel
theorem d18_75 : decode C18 75 = .ok (.goto (-65), 3) := by decide +kernel
theorem d18_78 : decode C18 78 = .ok (.aload_n 0, 1) := by decide +kernel
theorem d18_79 : decode C18 79 = .ok (.invokevirtual 74, 3) := by decide +kernel
theorem d18_82 : decode C18 82 = .ok (.ifCond .ne (-72), 3) := by decide +kernel
theorem d18_85 : decode C18 85 = .ok (.iconst 0, 1) := by decide +kernel
theorem d18_86 : decode C18 86 = .ok (.ireturn, 1) := by decide +kernel
def QrmStr1 (Z : State) (g : Addr) (ct : Addr) (ob : Addr) (kc : ClassId) (tx : List Value) (cc : Nat → Int32) (oN : Nat) (kk : Nat) (M : Nat) (tf : Bool) (md : Int32) (dd : Int32) (oo : Int32) (h0 : Heap) (n0 : Nat) (v : Option Value) (h : Heap) (L : List Loc) : Prop := Fr n0 L ∧ Keep h0 h [g] ∧ ((12 ≤ M ∧ v = some (.int 1) ∧ own_G Z h g ct ob (own_P oN kk) md dd oo (own_P oN 12)) ∨ (M < 12 ∧ v = some (.int 0) ∧ own_G Z h g ct ob (own_P oN kk) md dd oo (own_P oN M)))
theorem rmStr1 (hw : own_HW Z a0) (Z0 : n0 ≤ h0.size) (Gq : own_G Z h0 g ct ob (own_P oN kk) md dd oo (own_P oN 1)) (g_g : n0 ≤ g) (At : Arv Z h0 ct kc .char (52 : Int32) tx (.int 0)) (hT : ∀ i, i < 49 → tx.getD (oN + i) (.int 0) = .int (cc i)) (H : own_H oN kk md M tf cc) (hM0 : 1 < M) (hcs : ¬ (cs = (0 : Int32))) (S_cs : Sta Z h0 "java/lang/String" "COMPACT_STRINGS" "Z" (.int cs)) :
  own_MC l "dev/parlance/JsonGrammar" "string" "()Z" prog_6_method_6_code 1 (some .boolean) ⟨5, 4, 72, 74⟩ #[(.ref g)] Z h0 (QrmStr1 Z g ct ob kc tx cc oN kk M tf md dd oo h0 n0) := by
 refine own_fsC (plainFor_of_name own_pn18) (own_ef18 · g) fun p e s m below meth c s₁ hy hml hZ hown hnm hrt hlk X0 e0 hS hk hIn => ?_
 have N0 := Fr.nil n0
 have Kp0 : Keep h0 h0 [g] := Keep.refl h0 _
 obtain ⟨⟨Eg, Ft, Fe, Fm, Fo, Fd, Fp, Fa⟩, ho, hk49, ne_ct_g⟩ := own_gi hw Gq At H
 refine own_inc X0 hy hZ hown hw e0 ⟨Eg, Ft, Fe, Fm, Fo, Fd, Fp, Fa⟩ i18_0 2 fun T1 h1 X1 e1 W1 ⟨_, Ft, Fe, Fm, Fo, Fd, Fp, Fa⟩ => ?_
 replace hIn := own_In.wr hIn W1 (own_sf hZ Eg)
 replace S_cs := S_cs.wr W1
 replace Eg := Eg.wr W1
 replace At := At.other W1 ne_ct_g
 have Z1 := own_zw Z0 W1
 have Kp1 := Kp0.wr W1 own_m0
 replace hk := own_zw hk W1
 have N1 := Fr.snoc X1 N0 g_g
 refine own_ae X1 hy hZ hown hw e1 Fa Fe a18_10 fun T2 X2 e2 => ?_
 rcases own_at H 2 (by decide) hM0 (by decide) with ⟨hm2, hk2, hg2⟩ | ⟨hm2, hk2⟩ | ⟨hm2, hk2, hb2⟩
 ·
  refine own_cn X2 hy d18_18 (tlt (own_Plt ho hk49 hk2)).2.1 ?_
  refine own_tc X2 hy hZ hown hw e2 Ft Fa At ho hT (by decide) t18_21 fun T3 X3 e3 => ?_
  refine own_bp X3 hy d18_30 ?_
  refine own_cn X3 hy d18_32 (feq hg2.2.1).1 ?_
  refine own_tc X3 hy hZ hown hw e3 Ft Fa At ho hT (by decide) t18_35 fun T4 X4 e4 => ?_
  refine own_bp X4 hy d18_44 ?_
  refine own_cy X4 hy d18_46 51 (flt hg2.1).2.1 ?_
  refine own_tc X4 hy hZ hown hw e4 Ft Fa At ho hT (by decide) t18_51 fun T5 X5 e5 => ?_
  clear X1 e1 W1 X2 e2 X3 e3 X4 e4
  refine own_bp X5 hy d18_60 ?_
  refine own_cn X5 hy d18_62 (feq hg2.2.2).1 ?_
  refine own_inc X5 hy hZ hown hw e5 ⟨Eg, Ft, Fe, Fm, Fo, Fd, Fp, Fa⟩ i18_65 3 fun T6 h6 X6 e6 W6 ⟨_, Ft, Fe, Fm, Fo, Fd, Fp, Fa⟩ => ?_
  replace hIn := own_In.wr hIn W6 (own_sf hZ Eg)
  replace S_cs := S_cs.wr W6
  replace Eg := Eg.wr W6
  replace At := At.other W6 ne_ct_g
  have Z6 := own_zw Z1 W6
  have Kp6 := Kp1.wr W6 own_m0
  replace hk := own_zw hk W6
  have N6 := Fr.snoc X6 N1 g_g
  refine own_gt X6 hy d18_75 10 ?_
  refine own_ae X6 hy hZ hown hw e6 Fa Fe a18_10 fun T7 X7 e7 => ?_
  clear N1 Z1 Kp1 X5 e5 X6 e6 W6
  rcases own_at H 3 (by decide) hm2 (by decide) with ⟨hm3, hk3, hg3⟩ | ⟨hm3, hk3⟩ | ⟨hm3, hk3, hb3⟩
  ·
   refine own_cn X7 hy d18_18 (tlt (own_Plt ho hk49 hk3)).2.1 ?_
   refine own_tc X7 hy hZ hown hw e7 Ft Fa At ho hT (by decide) t18_21 fun T8 X8 e8 => ?_
   refine own_bp X8 hy d18_30 ?_
   refine own_cn X8 hy d18_32 (feq (by rw [show cc 3 = 92 from hg3]; decide)).1 ?_
   refine own_tc X8 hy hZ hown hw e8 Ft Fa At ho hT (by decide) t18_35 fun T9 X9 e9 => ?_
   refine own_bp X9 hy d18_44 ?_
   refine own_cy X9 hy d18_46 51 (flt (by rw [show cc 3 = 92 from hg3]; decide)).2.1 ?_
   refine own_tc X9 hy hZ hown hw e9 Ft Fa At ho hT (by decide) t18_51 fun T10 X10 e10 => ?_
   refine own_bp X10 hy d18_60 ?_
   refine own_cy X10 hy d18_62 78 (teq (show cc 3 = 92 from hg3)).1 ?_
   refine own_al X10 hy d18_78 rfl rfl ?_
   refine own_cpS X10 hy hZ hown hw hIn hS hk (own_y18 hw) (rmEs_3 hw Z6 ⟨Eg, Ft, Fe, Fm, Fo, Fd, Fp, Fa⟩ g_g At hT H hm3 hcs S_cs) e10 Eg d18_79 own_pd3 hml fun v11 T11 L11 X11 hQ11 hS hk hZ hown hIn => ?_
   obtain ⟨N11q, K11q, hD11⟩ := hQ11
   have N11 := Fr.app N6 N11q
   rcases hD11 with ⟨hm4, rfl, ⟨-, Ft11, Fe11, Fm11, Fo11, Fd11, Fp11, Fa11⟩⟩ | ⟨hMf, rfl, ⟨-, Ft11, Fe11, Fm11, Fo11, Fd11, Fp11, Fa11⟩⟩
   ·
    replace S_cs := own_staKeep S_cs K11q (allS (own_ns Eg) all0)
    replace Eg := Eg.keep K11q
    replace At := At.keep K11q (ninS ne_ct_g nin0)
    have Z11 := Nat.le_trans Z6 K11q.1
    have Kp11 := Kp6.trans K11q (allS own_m0 (all0))
    clear N6 Z6 Kp6 X7 e7 X8 e8 X9 e9 X10 e10
    refine own_zy X11 hy d18_82 10 ((if0 _ _).trans (feq (by decide : ¬ ((1 : Int32) = (0 : Int32)))).2) ?_
    refine own_ae X11 hy hZ hown hw rfl Fa11 Fe11 a18_10 fun T12 X12 e12 => ?_
    rcases own_at H 5 (by decide) hm4 (by decide) with ⟨hm5, hk5, hg5⟩ | ⟨hm5, hk5⟩ | ⟨hm5, hk5, hb5⟩
    ·
     refine own_cn X12 hy d18_18 (tlt (own_Plt ho hk49 hk5)).2.1 ?_
     refine own_tc X12 hy hZ hown hw e12 Ft11 Fa11 At ho hT (by decide) t18_21 fun T13 X13 e13 => ?_
     refine own_bp X13 hy d18_30 ?_
     refine own_cn X13 hy d18_32 (feq (by rw [show cc 5 = 92 from hg5]; decide)).1 ?_
     refine own_tc X13 hy hZ hown hw e13 Ft11 Fa11 At ho hT (by decide) t18_35 fun T14 X14 e14 => ?_
     refine own_bp X14 hy d18_44 ?_
     refine own_cy X14 hy d18_46 51 (flt (by rw [show cc 5 = 92 from hg5]; decide)).2.1 ?_
     refine own_tc X14 hy hZ hown hw e14 Ft11 Fa11 At ho hT (by decide) t18_51 fun T15 X15 e15 => ?_
     refine own_bp X15 hy d18_60 ?_
     refine own_cy X15 hy d18_62 78 (teq (show cc 5 = 92 from hg5)).1 ?_
     refine own_al X15 hy d18_78 rfl rfl ?_
     refine own_cpS X15 hy hZ hown hw hIn hS hk (own_y18 hw) (rmEs_5 hw Z11 ⟨Eg, Ft11, Fe11, Fm11, Fo11, Fd11, Fp11, Fa11⟩ g_g At hT H hm5 hcs S_cs) e15 Eg d18_79 own_pd3 hml fun v16 T16 L16 X16 hQ16 hS hk hZ hown hIn => ?_
     obtain ⟨N16q, K16q, hD16⟩ := hQ16
     have N16 := Fr.app N11 N16q
     rcases hD16 with ⟨hm10, rfl, ⟨-, Ft16, Fe16, Fm16, Fo16, Fd16, Fp16, Fa16⟩⟩ | ⟨hMf, rfl, ⟨-, Ft16, Fe16, Fm16, Fo16, Fd16, Fp16, Fa16⟩⟩
     ·
      replace S_cs := own_staKeep S_cs K16q (allS (own_ns Eg) all0)
      replace Eg := Eg.keep K16q
      replace At := At.keep K16q (ninS ne_ct_g nin0)
      have Z16 := Nat.le_trans Z11 K16q.1
      have Kp16 := Kp11.trans K16q (allS own_m0 (all0))
      clear X11 X12 e12 X13 e13 X14 e14 X15 e15
      refine own_zy X16 hy d18_82 10 ((if0 _ _).trans (feq (by decide : ¬ ((1 : Int32) = (0 : Int32)))).2) ?_
      refine own_ae X16 hy hZ hown hw rfl Fa16 Fe16 a18_10 fun T17 X17 e17 => ?_
      rcases own_at H 11 (by decide) hm10 (by decide) with ⟨hm11, hk11, hg11⟩ | ⟨hm11, hk11⟩ | ⟨hm11, hk11, hb11⟩
      ·
       refine own_cn X17 hy d18_18 (tlt (own_Plt ho hk49 hk11)).2.1 ?_
       refine own_tc X17 hy hZ hown hw e17 Ft16 Fa16 At ho hT (by decide) t18_21 fun T18 X18 e18 => ?_
       refine own_bp X18 hy d18_30 ?_
       refine own_cy X18 hy d18_32 87 (teq (show cc 11 = 34 from hg11)).1 ?_
       refine own_ae X18 hy hZ hown hw e18 Fa16 Fe16 a18_87 fun T19 X19 e19 => ?_
       refine own_cy X19 hy d18_95 100 (feq (own_Pne ho hk49 hk11)).2 ?_
       refine own_inc X19 hy hZ hown hw e19 ⟨Eg, Ft16, Fe16, Fm16, Fo16, Fd16, Fp16, Fa16⟩ i18_100 12 fun T20 h20 X20 e20 W20 ⟨_, Ft, Fe, Fm, Fo, Fd, Fp, Fa⟩ => ?_
       replace hIn := own_In.wr hIn W20 (own_sf hZ Eg)
       replace S_cs := S_cs.wr W20
       replace Eg := Eg.wr W20
       replace At := At.other W20 ne_ct_g
       have Z20 := own_zw Z16 W20
       have Kp20 := Kp16.wr W20 own_m0
       replace hk := own_zw hk W20
       have N20 := Fr.snoc X20 N16 g_g
       clear X16 X17 e17 X18 e18 X19 e19 W20
       refine own_ic X20 hy d18_110 ?_
       exact own_rTC X20 hy hS hk hrt hlk d18_111 hZ hw hIn e20 ⟨N20, Kp20, Or.inl ⟨hm11, rfl, ⟨Eg, Ft, Fe, Fm, Fo, Fd, Fp, Fa⟩⟩⟩
      ·
       refine own_cy X17 hy d18_18 87 (flt (own_Pge ho hk49 (Nat.le_of_eq hk11) (by decide))).2.1 ?_
       refine own_ae X17 hy hZ hown hw e17 Fa16 Fe16 a18_87 fun T21 X21 e21 => ?_
       refine own_cn X21 hy d18_95 (teq (own_Peq hk11)).2 ?_
       refine own_ic X21 hy d18_98 ?_
       exact own_rFC X21 hy hS hk hrt hlk d18_99 hZ hw hIn e21 ⟨N16, Kp16, Or.inr ⟨by omega, rfl, by rw [hm11]; exact ⟨Eg, Ft16, Fe16, Fm16, Fo16, Fd16, Fp16, Fa16⟩⟩⟩
      ·
       refine own_cn X17 hy d18_18 (tlt (own_Plt ho hk49 hk11)).2.1 ?_
       refine own_tc X17 hy hZ hown hw e17 Ft16 Fa16 At ho hT (by decide) t18_21 fun T22 X22 e22 => ?_
       refine own_bp X22 hy d18_30 ?_
       refine own_cn X22 hy d18_32 (feq (own_bne hb11 (by decide))).1 ?_
       refine own_tc X22 hy hZ hown hw e22 Ft16 Fa16 At ho hT (by decide) t18_35 fun T23 X23 e23 => ?_
       refine own_bp X23 hy d18_44 ?_
       refine own_cn X23 hy d18_46 (tlt (own_blt hb11 (by decide))).2.1 ?_
       refine own_ic X23 hy d18_49 ?_
       exact own_rFC X23 hy hS hk hrt hlk d18_50 hZ hw hIn e23 ⟨N16, Kp16, Or.inr ⟨by omega, rfl, by rw [hm11]; exact ⟨Eg, Ft16, Fe16, Fm16, Fo16, Fd16, Fp16, Fa16⟩⟩⟩
     ·
      replace S_cs := own_staKeep S_cs K16q (allS (own_ns Eg) all0)
      replace Eg := Eg.keep K16q
      replace At := At.keep K16q (ninS ne_ct_g nin0)
      have Z16 := Nat.le_trans Z11 K16q.1
      have Kp16 := Kp11.trans K16q (allS own_m0 (all0))
      clear X11 X12 e12 X13 e13 X14 e14 X15 e15
      refine own_zn X16 hy d18_82 ((if0 _ _).trans (teq (by decide : ((0 : Int32) = (0 : Int32)))).2) ?_
      refine own_ic X16 hy d18_85 ?_
      exact own_rFC X16 hy hS hk hrt hlk d18_86 hZ hw hIn rfl ⟨N16, Kp16, Or.inr ⟨by omega, rfl, ⟨Eg, Ft16, Fe16, Fm16, Fo16, Fd16, Fp16, Fa16⟩⟩⟩
    ·
     refine own_cy X12 hy d18_18 87 (flt (own_Pge ho hk49 (Nat.le_of_eq hk5) (by decide))).2.1 ?_
     refine own_ae X12 hy hZ hown hw e12 Fa11 Fe11 a18_87 fun T24 X24 e24 => ?_
     refine own_cn X24 hy d18_95 (teq (own_Peq hk5)).2 ?_
     refine own_ic X24 hy d18_98 ?_
     exact own_rFC X24 hy hS hk hrt hlk d18_99 hZ hw hIn e24 ⟨N11, Kp11, Or.inr ⟨by omega, rfl, by rw [hm5]; exact ⟨Eg, Ft11, Fe11, Fm11, Fo11, Fd11, Fp11, Fa11⟩⟩⟩
    ·
     refine own_cn X12 hy d18_18 (tlt (own_Plt ho hk49 hk5)).2.1 ?_
     refine own_tc X12 hy hZ hown hw e12 Ft11 Fa11 At ho hT (by decide) t18_21 fun T25 X25 e25 => ?_
     refine own_bp X25 hy d18_30 ?_
     refine own_cn X25 hy d18_32 (feq (own_bne hb5 (by decide))).1 ?_
     refine own_tc X25 hy hZ hown hw e25 Ft11 Fa11 At ho hT (by decide) t18_35 fun T26 X26 e26 => ?_
     refine own_bp X26 hy d18_44 ?_
     refine own_cn X26 hy d18_46 (tlt (own_blt hb5 (by decide))).2.1 ?_
     refine own_ic X26 hy d18_49 ?_
     exact own_rFC X26 hy hS hk hrt hlk d18_50 hZ hw hIn e26 ⟨N11, Kp11, Or.inr ⟨by omega, rfl, by rw [hm5]; exact ⟨Eg, Ft11, Fe11, Fm11, Fo11, Fd11, Fp11, Fa11⟩⟩⟩
   ·
    replace S_cs := own_staKeep S_cs K11q (allS (own_ns Eg) all0)
    replace Eg := Eg.keep K11q
    replace At := At.keep K11q (ninS ne_ct_g nin0)
    have Z11 := Nat.le_trans Z6 K11q.1
    have Kp11 := Kp6.trans K11q (allS own_m0 (all0))
    clear N6 Z6 Kp6 X7 e7 X8 e8 X9 e9 X10 e10
    refine own_zn X11 hy d18_82 ((if0 _ _).trans (teq (by decide : ((0 : Int32) = (0 : Int32)))).2) ?_
    refine own_ic X11 hy d18_85 ?_
    exact own_rFC X11 hy hS hk hrt hlk d18_86 hZ hw hIn rfl ⟨N11, Kp11, Or.inr ⟨by omega, rfl, ⟨Eg, Ft11, Fe11, Fm11, Fo11, Fd11, Fp11, Fa11⟩⟩⟩
  ·
   refine own_cy X7 hy d18_18 87 (flt (own_Pge ho hk49 (Nat.le_of_eq hk3) (by decide))).2.1 ?_
   refine own_ae X7 hy hZ hown hw e7 Fa Fe a18_87 fun T27 X27 e27 => ?_
   refine own_cn X27 hy d18_95 (teq (own_Peq hk3)).2 ?_
   refine own_ic X27 hy d18_98 ?_
   exact own_rFC X27 hy hS hk hrt hlk d18_99 hZ hw hIn e27 ⟨N6, Kp6, Or.inr ⟨by omega, rfl, by rw [hm3]; exact ⟨Eg, Ft, Fe, Fm, Fo, Fd, Fp, Fa⟩⟩⟩
  ·
   refine own_cn X7 hy d18_18 (tlt (own_Plt ho hk49 hk3)).2.1 ?_
   refine own_tc X7 hy hZ hown hw e7 Ft Fa At ho hT (by decide) t18_21 fun T28 X28 e28 => ?_
   refine own_bp X28 hy d18_30 ?_
   refine own_cn X28 hy d18_32 (feq (own_bne hb3 (by decide))).1 ?_
   refine own_tc X28 hy hZ hown hw e28 Ft Fa At ho hT (by decide) t18_35 fun T29 X29 e29 => ?_
   refine own_bp X29 hy d18_44 ?_
   refine own_cn X29 hy d18_46 (tlt (own_blt hb3 (by decide))).2.1 ?_
   refine own_ic X29 hy d18_49 ?_
   exact own_rFC X29 hy hS hk hrt hlk d18_50 hZ hw hIn e29 ⟨N6, Kp6, Or.inr ⟨by omega, rfl, by rw [hm3]; exact ⟨Eg, Ft, Fe, Fm, Fo, Fd, Fp, Fa⟩⟩⟩
 ·
  refine own_cy X2 hy d18_18 87 (flt (own_Pge ho hk49 (Nat.le_of_eq hk2) (by decide))).2.1 ?_
  refine own_ae X2 hy hZ hown hw e2 Fa Fe a18_87 fun T30 X30 e30 => ?_
  refine own_cn X30 hy d18_95 (teq (own_Peq hk2)).2 ?_
  refine own_ic X30 hy d18_98 ?_
  exact own_rFC X30 hy hS hk hrt hlk d18_99 hZ hw hIn e30 ⟨N1, Kp1, Or.inr ⟨by omega, rfl, by rw [hm2]; exact ⟨Eg, Ft, Fe, Fm, Fo, Fd, Fp, Fa⟩⟩⟩
 ·
  refine own_cn X2 hy d18_18 (tlt (own_Plt ho hk49 hk2)).2.1 ?_
  refine own_tc X2 hy hZ hown hw e2 Ft Fa At ho hT (by decide) t18_21 fun T31 X31 e31 => ?_
  refine own_bp X31 hy d18_30 ?_
  refine own_cn X31 hy d18_32 (feq (own_bne hb2 (by decide))).1 ?_
  refine own_tc X31 hy hZ hown hw e31 Ft Fa At ho hT (by decide) t18_35 fun T32 X32 e32 => ?_
  refine own_bp X32 hy d18_44 ?_
  refine own_cn X32 hy d18_46 (tlt (own_blt hb2 (by decide))).2.1 ?_
  refine own_ic X32 hy d18_49 ?_
  exact own_rFC X32 hy hS hk hrt hlk d18_50 hZ hw hIn e32 ⟨N1, Kp1, Or.inr ⟨by omega, rfl, by rw [hm2]; exact ⟨Eg, Ft, Fe, Fm, Fo, Fd, Fp, Fa⟩⟩⟩
theorem d13_0 : decode C13 0 = .ok (.aload_n 0, 1) := by decide +kernel
theorem d13_1 : decode C13 1 = .ok (.invokevirtual 34, 3) := by decide +kernel
theorem d13_4 : decode C13 4 = .ok (.aload_n 0, 1) := by decide +kernel
theorem d13_12 : decode C13 12 = .ok (.if_icmp .ge 15, 3) := by decide +kernel
theorem d13_15 : decode C13 15 = .ok (.aload_n 0, 1) := by decide +kernel
theorem d13_24 : decode C13 24 = .ok (.goto 4, 3) := by decide +kernel
theorem d13_27 : decode C13 27 = .ok (.iconst 0, 1) := by decide +kernel
theorem d13_28 : decode C13 28 = .ok (.istore_n 1, 1) := by decide +kernel
theorem d13_29 : decode C13 29 = .ok (.iload_n 1, 1) := by decide +kernel
theorem d13_30 : decode C13 30 = .ok (.bipush 123, 2) := by decide +kernel
theorem d13_32 : decode C13 32 = .ok (.if_icmp .eq 9, 3) := by decide +kernel
theorem d13_35 : decode C13 35 = .ok (.iload_n 1, 1) := by decide +kernel
theorem d13_36 : decode C13 36 = .ok (.bipush 91, 2) := by decide +kernel
theorem d13_38 : decode C13 38 = .ok (.if_icmp .ne 22, 3) := by decide +kernel
theorem d13_41 : decode C13 41 = .ok (.aload_n 0, 1) := by decide +kernel
theorem d13_42 : decode C13 42 = .ok (.iload_n 1, 1) := by decide +kernel
theorem d13_43 : decode C13 43 = .ok (.bipush 123, 2) := by decide +kernel
theorem d13_45 : decode C13 45 = .ok (.if_icmp .ne 7, 3) := by decide +kernel
theorem d13_48 : decode C13 48 = .ok (.iconst 1, 1) := by decide +kernel
theorem d13_49 : decode C13 49 = .ok (.goto 4, 3) := by decide +kernel
theorem d13_53 : decode C13 53 = .ok (.invokevirtual 44, 3) := by decide +kernel
theorem d13_56 : decode C13 56 = .ok (.istore_n 2, 1) := by decide +kernel
theorem d13_57 : decode C13 57 = .ok (.goto 88, 3) := by decide +kernel
theorem d13_60 : decode C13 60 = .ok (.iload_n 1, 1) := by decide +kernel
theorem d13_61 : decode C13 61 = .ok (.bipush 34, 2) := by decide +kernel
theorem d13_63 : decode C13 63 = .ok (.if_icmp .ne 11, 3) := by decide +kernel
theorem d13_74 : decode C13 74 = .ok (.iload_n 1, 1) := by decide +kernel
theorem d13_75 : decode C13 75 = .ok (.bipush 45, 2) := by decide +kernel
theorem d13_77 : decode C13 77 = .ok (.if_icmp .eq 10, 3) := by decide +kernel
theorem d13_80 : decode C13 80 = .ok (.iload_n 1, 1) := by decide +kernel
theorem d13_81 : decode C13 81 = .ok (.invokestatic 51, 3) := by decide +kernel
theorem d13_84 : decode C13 84 = .ok (.ifCond .eq 11, 3) := by decide +kernel
theorem d13_95 : decode C13 95 = .ok (.iload_n 1, 1) := by decide +kernel
theorem d13_96 : decode C13 96 = .ok (.bipush 116, 2) := by decide +kernel
theorem d13_98 : decode C13 98 = .ok (.if_icmp .ne 13, 3) := by decide +kernel
theorem d13_111 : decode C13 111 = .ok (.iload_n 1, 1) := by decide +kernel
theorem d13_112 : decode C13 112 = .ok (.bipush 102, 2) := by decide +kernel
theorem d13_114 : decode C13 114 = .ok (.if_icmp .ne 13, 3) := by decide +kernel
theorem d13_127 : decode C13 127 = .ok (.iload_n 1, 1) := by decide +kernel
theorem d13_128 : decode C13 128 = .ok (.bipush 110, 2) := by decide +kernel
theorem d13_130 : decode C13 130 = .ok (.if_icmp .ne 13, 3) := by decide +kernel
theorem d13_143 : decode C13 143 = .ok (.iconst 0, 1) := by decide +kernel
theorem d13_144 : decode C13 144 = .ok (.istore_n 2, 1) := by decide +kernel
theorem d13_145 : decode C13 145 = .ok (.iload_n 2, 1) := by decide +kernel
theorem d13_146 : decode C13 146 = .ok (.ireturn, 1) := by decide +kernel
theorem own_pn13 : plainName "dev/parlance/JsonGrammar" = true := by first | (simp [plainName, overriddenIn]; done) | decide +kernel
theorem own_ef13 (m : MethodId) (x0 : Addr) : entryFrame m #[(.ref x0)] 3 = mkF m 0 #[.val (.ref x0), .unset, .unset] [] := by first | (simp [entryFrame, mkF, argsToLocals, Value.category]; done) | rfl
def QrmV0 (Z : State) (g : Addr) (ct : Addr) (ob : Addr) (kc : ClassId) (tx : List Value) (cc : Nat → Int32) (oN : Nat) (kk : Nat) (M : Nat) (tf : Bool) (md : Int32) (oo : Int32) (ko : ClassId) (w0 : Value) (w1 : Value) (w2 : Value) (w3 : Value) (w4 : Value) (w5 : Value) (w6 : Value) (w7 : Value) (w8 : Value) (w9 : Value) (w10 : Value) (w11 : Value) (w12 : Value) (w13 : Value) (w14 : Value) (w15 : Value) (h0 : Heap) (n0 : Nat) (v : Option Value) (h : Heap) (L : List Loc) : Prop := Fr n0 L ∧ Keep h0 h [g, ob] ∧ ((1 ≤ M ∧ v = some (.int 1) ∧ own_G Z h g ct ob (own_P oN kk) md (1 : Int32) (1 : Int32) (own_P oN 1) ∧ Arv Z h ob ko .boolean (16 : Int32) [(.int 1), w1, w2, w3, w4, w5, w6, w7, w8, w9, w10, w11, w12, w13, w14, w15] (.int 0)) ∨ (M < 1 ∧ v = some (.int 0) ∧ own_G Z h g ct ob (own_P oN kk) md (0 : Int32) oo (own_P oN M) ∧ Arv Z h ob ko .boolean (16 : Int32) [w0, w1, w2, w3, w4, w5, w6, w7, w8, w9, w10, w11, w12, w13, w14, w15] (.int 0)))
theorem rmV0 (hw : own_HW Z a0) (Z0 : n0 ≤ h0.size) (Gq : own_G Z h0 g ct ob (own_P oN kk) md (0 : Int32) oo (own_P oN 0)) (g_g : n0 ≤ g) (At : Arv Z h0 ct kc .char (52 : Int32) tx (.int 0)) (hT : ∀ i, i < 49 → tx.getD (oN + i) (.int 0) = .int (cc i)) (H : own_H oN kk md M tf cc) (Ao : Arv Z h0 ob ko .boolean (16 : Int32) [w0, w1, w2, w3, w4, w5, w6, w7, w8, w9, w10, w11, w12, w13, w14, w15] (.int 0)) (g_ob : n0 ≤ ob) :
  own_MF l "dev/parlance/JsonGrammar" "value" "()Z" prog_6_method_3_code 3 (some .boolean) ⟨1, 0, 0, 13⟩ #[(.ref g)] Z h0 (QrmV0 Z g ct ob kc tx cc oN kk M tf md oo ko w0 w1 w2 w3 w4 w5 w6 w7 w8 w9 w10 w11 w12 w13 w14 w15 h0 n0) := by
 refine own_fst (plainFor_of_name own_pn13) (own_ef13 · g) fun p e s m below meth c s₁ hy hml hZ hown hnm hrt hlk X0 e0 => ?_
 have N0 := Fr.nil n0
 have Kp0 : Keep h0 h0 [g, ob] := Keep.refl h0 _
 obtain ⟨⟨Eg, Ft, Fe, Fm, Fo, Fd, Fp, Fa⟩, ho, hk49, ne_ct_g⟩ := own_gi hw Gq At H
 have ne_ob_g : ob ≠ g := Ne.symm (own_neA Eg (own_w hw 54 rfl) Ao)
 have ne_ct_ob : ct ≠ ob := arv_ne At Ao (Or.inl (by decide))
 refine own_al X0 hy d13_0 rfl rfl ?_
 rcases own_at H 0 (by decide) (Nat.zero_le _) (by decide) with ⟨hm0, hk0, hg0⟩ | ⟨hm0, hk0⟩ | ⟨hm0, hk0, hb0⟩
 ·
  refine own_cp X0 hy hZ hown (own_y19 hw) (rmSk0 hw Z0 ⟨Eg, Ft, Fe, Fm, Fo, Fd, Fp, Fa⟩ g_g At hT H (by decide) (Or.inr ⟨hk0, own_lws (L := 123) hg0 (by decide)⟩)) e0 Eg d13_1 own_pd12 hml fun v1 T1 L1 X1 hQ1 => ?_
  obtain ⟨rfl, N1q, e1⟩ := hQ1
  have N1 := Fr.app N0 N1q
  refine own_ae X1 hy hZ hown hw e1 Fa Fe a13_4 fun T2 X2 e2 => ?_
  refine own_cn X2 hy d13_12 (tlt (own_Plt ho hk49 hk0)).2.1 ?_
  refine own_tc X2 hy hZ hown hw e2 Ft Fa At ho hT (by decide) t13_15 fun T3 X3 e3 => ?_
  refine own_gt X3 hy d13_24 28 ?_
  refine own_is X3 hy d13_28 (l' := #[.val (.ref g), .val (.int (cc 0)), .unset]) rfl ?_
  refine own_ky X3 hy d13_29 d13_30 d13_32 rfl 41 (teq (show cc 0 = 123 from hg0)).1 ?_
  refine own_al X3 hy d13_41 rfl rfl ?_
  refine own_kn X3 hy d13_42 d13_43 d13_45 rfl (teq (show cc 0 = 123 from hg0)).2 ?_
  refine own_ic X3 hy d13_48 ?_
  refine own_gt X3 hy d13_49 53 ?_
  refine own_cpg X3 hy hZ hown (own_y20 hw) (rmOp_0_1 hw Z0 ⟨Eg, Ft, Fe, Fm, Fo, Fd, Fp, Fa⟩ g_g At hT H Ao g_ob (own_md0 H)) e3 Eg (S := []) rfl d13_53 own_pd13 hml fun v4 T4 L4 X4 hQ4 => ?_
  obtain ⟨rfl, N4q, K4q, ⟨_, Ft4, Fe4, Fm4, Fo4, Fd4, Fp4, Fa4⟩, Ao4⟩ := hQ4
  have N4 := Fr.app N1 N4q
  replace Eg := Eg.keep K4q
  replace At := At.keep K4q (ninS ne_ct_g (ninS ne_ct_ob nin0))
  have Z4 := Nat.le_trans Z0 K4q.1
  have Kp4 := Kp0.trans K4q (allS own_m0 (allS own_m1 (all0)))
  clear N1 N1q X1 e1 X2 e2 X3 e3 N4q
  refine own_is X4 hy d13_56 (l' := #[.val (.ref g), .val (.int (cc 0)), .val (.int 1)]) rfl ?_
  refine own_gt X4 hy d13_57 145 ?_
  refine own_il X4 hy d13_145 rfl ?_
  exact own_rT X4 hy hrt hlk d13_146 rfl ⟨N4, Kp4, Or.inl ⟨hm0, rfl, ⟨Eg, Ft4, Fe4, Fm4, Fo4, Fd4, Fp4, Fa4⟩, Ao4⟩⟩
 ·
  refine own_cp X0 hy hZ hown (own_y19 hw) (rmSk0 hw Z0 ⟨Eg, Ft, Fe, Fm, Fo, Fd, Fp, Fa⟩ g_g At hT H (by decide) (Or.inl (Nat.le_of_eq hk0))) e0 Eg d13_1 own_pd12 hml fun v5 T5 L5 X5 hQ5 => ?_
  obtain ⟨rfl, N5q, e5⟩ := hQ5
  have N5 := Fr.app N0 N5q
  refine own_ae X5 hy hZ hown hw e5 Fa Fe a13_4 fun T6 X6 e6 => ?_
  refine own_cy X6 hy d13_12 27 (flt (own_Pge ho hk49 (Nat.le_of_eq hk0) (by decide))).2.1 ?_
  refine own_ic X6 hy d13_27 ?_
  refine own_is X6 hy d13_28 (l' := #[.val (.ref g), .val (.int 0), .unset]) rfl ?_
  refine own_kn X6 hy d13_29 d13_30 d13_32 rfl (feq (by decide : ¬ ((0 : Int32) = (123 : Int32)))).1 ?_
  refine own_ky X6 hy d13_35 d13_36 d13_38 rfl 60 (feq (by decide : ¬ ((0 : Int32) = (91 : Int32)))).2 ?_
  refine own_ky X6 hy d13_60 d13_61 d13_63 rfl 74 (feq (by decide : ¬ ((0 : Int32) = (34 : Int32)))).2 ?_
  refine own_kn X6 hy d13_74 d13_75 d13_77 rfl (feq (by decide : ¬ ((0 : Int32) = (45 : Int32)))).1 ?_
  refine own_il X6 hy d13_80 rfl ?_
  refine own_cs X6 hy hZ hown (own_y0 hw) (rmID hw (0 : Int32) (0 : Int32) Z0 (by decide)) e6 d13_81 own_pd0 hml fun v7 T7 L7 X7 hQ7 => ?_
  obtain ⟨rfl, N7q, e7⟩ := hQ7
  have N7 := Fr.app N5 N7q
  refine own_zy X7 hy d13_84 95 ((if0 _ _).trans (teq (by decide : ((0 : Int32) = (0 : Int32)))).1) ?_
  refine own_ky X7 hy d13_95 d13_96 d13_98 rfl 111 (feq (by decide : ¬ ((0 : Int32) = (116 : Int32)))).2 ?_
  refine own_ky X7 hy d13_111 d13_112 d13_114 rfl 127 (feq (by decide : ¬ ((0 : Int32) = (102 : Int32)))).2 ?_
  refine own_ky X7 hy d13_127 d13_128 d13_130 rfl 143 (feq (by decide : ¬ ((0 : Int32) = (110 : Int32)))).2 ?_
  refine own_ic X7 hy d13_143 ?_
  refine own_is X7 hy d13_144 (l' := #[.val (.ref g), .val (.int 0), .val (.int 0)]) rfl ?_
  refine own_il X7 hy d13_145 rfl ?_
  exact own_rF X7 hy hrt hlk d13_146 e7 ⟨N7, Kp0, Or.inr ⟨by omega, rfl, by rw [hm0]; exact ⟨Eg, Ft, Fe, Fm, Fo, Fd, Fp, Fa⟩, Ao⟩⟩
 ·
  refine own_cp X0 hy hZ hown (own_y19 hw) (rmSk0 hw Z0 ⟨Eg, Ft, Fe, Fm, Fo, Fd, Fp, Fa⟩ g_g At hT H (by decide) (Or.inr ⟨hk0, own_bws hb0⟩)) e0 Eg d13_1 own_pd12 hml fun v8 T8 L8 X8 hQ8 => ?_
  obtain ⟨rfl, N8q, e8⟩ := hQ8
  have N8 := Fr.app N0 N8q
  refine own_ae X8 hy hZ hown hw e8 Fa Fe a13_4 fun T9 X9 e9 => ?_
  refine own_cn X9 hy d13_12 (tlt (own_Plt ho hk49 hk0)).2.1 ?_
  refine own_tc X9 hy hZ hown hw e9 Ft Fa At ho hT (by decide) t13_15 fun T10 X10 e10 => ?_
  refine own_gt X10 hy d13_24 28 ?_
  refine own_is X10 hy d13_28 (l' := #[.val (.ref g), .val (.int (cc 0)), .unset]) rfl ?_
  refine own_kn X10 hy d13_29 d13_30 d13_32 rfl (feq (own_bne hb0 (by decide))).1 ?_
  refine own_ky X10 hy d13_35 d13_36 d13_38 rfl 60 (feq (own_bne hb0 (by decide))).2 ?_
  refine own_ky X10 hy d13_60 d13_61 d13_63 rfl 74 (feq (own_bne hb0 (by decide))).2 ?_
  refine own_kn X10 hy d13_74 d13_75 d13_77 rfl (feq (own_bne hb0 (by decide))).1 ?_
  refine own_il X10 hy d13_80 rfl ?_
  refine own_cs X10 hy hZ hown (own_y0 hw) (rmID hw (cc 0) (0 : Int32) Z0 (own_bdg hb0)) e10 d13_81 own_pd0 hml fun v11 T11 L11 X11 hQ11 => ?_
  obtain ⟨rfl, N11q, e11⟩ := hQ11
  have N11 := Fr.app N8 N11q
  clear N8 N8q X8 e8 X9 e9 X10 e10 N11q
  refine own_zy X11 hy d13_84 95 ((if0 _ _).trans (teq (by decide : ((0 : Int32) = (0 : Int32)))).1) ?_
  refine own_ky X11 hy d13_95 d13_96 d13_98 rfl 111 (feq (own_bne hb0 (by decide))).2 ?_
  refine own_ky X11 hy d13_111 d13_112 d13_114 rfl 127 (feq (own_bne hb0 (by decide))).2 ?_
  refine own_ky X11 hy d13_127 d13_128 d13_130 rfl 143 (feq (own_bne hb0 (by decide))).2 ?_
  refine own_ic X11 hy d13_143 ?_
  refine own_is X11 hy d13_144 (l' := #[.val (.ref g), .val (.int (cc 0)), .val (.int 0)]) rfl ?_
  refine own_il X11 hy d13_145 rfl ?_
  exact own_rF X11 hy hrt hlk d13_146 e11 ⟨N11, Kp0, Or.inr ⟨by omega, rfl, by rw [hm0]; exact ⟨Eg, Ft, Fe, Fm, Fo, Fd, Fp, Fa⟩, Ao⟩⟩
theorem d13_52 : decode C13 52 = .ok (.iconst 0, 1) := by decide +kernel
def QrmV14 (Z : State) (g : Addr) (ct : Addr) (ob : Addr) (kc : ClassId) (tx : List Value) (cc : Nat → Int32) (oN : Nat) (kk : Nat) (M : Nat) (tf : Bool) (md : Int32) (oo : Int32) (ko : ClassId) (w0 : Value) (w1 : Value) (w2 : Value) (w3 : Value) (w4 : Value) (w5 : Value) (w6 : Value) (w7 : Value) (w8 : Value) (w9 : Value) (w10 : Value) (w11 : Value) (w12 : Value) (w13 : Value) (w14 : Value) (w15 : Value) (h0 : Heap) (n0 : Nat) (v : Option Value) (h : Heap) (L : List Loc) : Prop := Fr n0 L ∧ Keep h0 h [g, ob] ∧ ((15 ≤ M ∧ v = some (.int 1) ∧ own_G Z h g ct ob (own_P oN kk) md (2 : Int32) (1 : Int32) (own_P oN 15) ∧ Arv Z h ob ko .boolean (16 : Int32) [w0, (.int 0), w2, w3, w4, w5, w6, w7, w8, w9, w10, w11, w12, w13, w14, w15] (.int 0)) ∨ (M < 15 ∧ v = some (.int 0) ∧ own_G Z h g ct ob (own_P oN kk) md (1 : Int32) oo (own_P oN M) ∧ Arv Z h ob ko .boolean (16 : Int32) [w0, w1, w2, w3, w4, w5, w6, w7, w8, w9, w10, w11, w12, w13, w14, w15] (.int 0)))
theorem rmV14 (hw : own_HW Z a0) (Z0 : n0 ≤ h0.size) (Gq : own_G Z h0 g ct ob (own_P oN kk) md (1 : Int32) oo (own_P oN 14)) (g_g : n0 ≤ g) (At : Arv Z h0 ct kc .char (52 : Int32) tx (.int 0)) (hT : ∀ i, i < 49 → tx.getD (oN + i) (.int 0) = .int (cc i)) (H : own_H oN kk md M tf cc) (Ao : Arv Z h0 ob ko .boolean (16 : Int32) [w0, w1, w2, w3, w4, w5, w6, w7, w8, w9, w10, w11, w12, w13, w14, w15] (.int 0)) (g_ob : n0 ≤ ob) (hM0 : 14 ≤ M) :
  own_MF l "dev/parlance/JsonGrammar" "value" "()Z" prog_6_method_3_code 3 (some .boolean) ⟨1, 0, 0, 13⟩ #[(.ref g)] Z h0 (QrmV14 Z g ct ob kc tx cc oN kk M tf md oo ko w0 w1 w2 w3 w4 w5 w6 w7 w8 w9 w10 w11 w12 w13 w14 w15 h0 n0) := by
 refine own_fst (plainFor_of_name own_pn13) (own_ef13 · g) fun p e s m below meth c s₁ hy hml hZ hown hnm hrt hlk X0 e0 => ?_
 have N0 := Fr.nil n0
 have Kp0 : Keep h0 h0 [g, ob] := Keep.refl h0 _
 obtain ⟨⟨Eg, Ft, Fe, Fm, Fo, Fd, Fp, Fa⟩, ho, hk49, ne_ct_g⟩ := own_gi hw Gq At H
 have ne_ob_g : ob ≠ g := Ne.symm (own_neA Eg (own_w hw 54 rfl) Ao)
 have ne_ct_ob : ct ≠ ob := arv_ne At Ao (Or.inl (by decide))
 refine own_al X0 hy d13_0 rfl rfl ?_
 rcases H.2.2.2.2.2 14 (by decide) hM0 with ⟨hm14, hk14, hg14, hd14⟩ | ⟨hm14, hk14⟩ | ⟨hm14, hk14, hb14⟩ | ⟨hm14, hk14, hg14, hd14⟩
 ·
  refine own_cp X0 hy hZ hown (own_y19 hw) (rmSk0 hw Z0 ⟨Eg, Ft, Fe, Fm, Fo, Fd, Fp, Fa⟩ g_g At hT H (by decide) (Or.inr ⟨hk14, own_lws (L := 91) hg14 (by decide)⟩)) e0 Eg d13_1 own_pd12 hml fun v1 T1 L1 X1 hQ1 => ?_
  obtain ⟨rfl, N1q, e1⟩ := hQ1
  have N1 := Fr.app N0 N1q
  refine own_ae X1 hy hZ hown hw e1 Fa Fe a13_4 fun T2 X2 e2 => ?_
  refine own_cn X2 hy d13_12 (tlt (own_Plt ho hk49 hk14)).2.1 ?_
  refine own_tc X2 hy hZ hown hw e2 Ft Fa At ho hT (by decide) t13_15 fun T3 X3 e3 => ?_
  refine own_gt X3 hy d13_24 28 ?_
  refine own_is X3 hy d13_28 (l' := #[.val (.ref g), .val (.int (cc 14)), .unset]) rfl ?_
  refine own_kn X3 hy d13_29 d13_30 d13_32 rfl (feq (by rw [show cc 14 = 91 from hg14]; decide)).1 ?_
  refine own_kn X3 hy d13_35 d13_36 d13_38 rfl (teq (show cc 14 = 91 from hg14)).2 ?_
  refine own_al X3 hy d13_41 rfl rfl ?_
  refine own_ky X3 hy d13_42 d13_43 d13_45 rfl 52 (feq (by rw [show cc 14 = 91 from hg14]; decide)).2 ?_
  refine own_ic X3 hy d13_52 ?_
  refine own_cpg X3 hy hZ hown (own_y20 hw) (rmOp_1_0 hw Z0 ⟨Eg, Ft, Fe, Fm, Fo, Fd, Fp, Fa⟩ g_g At hT H Ao g_ob (own_nd14 hd14)) e3 Eg (S := []) rfl d13_53 own_pd13 hml fun v4 T4 L4 X4 hQ4 => ?_
  obtain ⟨rfl, N4q, K4q, ⟨_, Ft4, Fe4, Fm4, Fo4, Fd4, Fp4, Fa4⟩, Ao4⟩ := hQ4
  have N4 := Fr.app N1 N4q
  replace Eg := Eg.keep K4q
  replace At := At.keep K4q (ninS ne_ct_g (ninS ne_ct_ob nin0))
  have Z4 := Nat.le_trans Z0 K4q.1
  have Kp4 := Kp0.trans K4q (allS own_m0 (allS own_m1 (all0)))
  clear N1 N1q X1 e1 X2 e2 X3 e3 N4q
  refine own_is X4 hy d13_56 (l' := #[.val (.ref g), .val (.int (cc 14)), .val (.int 1)]) rfl ?_
  refine own_gt X4 hy d13_57 145 ?_
  refine own_il X4 hy d13_145 rfl ?_
  exact own_rT X4 hy hrt hlk d13_146 rfl ⟨N4, Kp4, Or.inl ⟨hm14, rfl, ⟨Eg, Ft4, Fe4, Fm4, Fo4, Fd4, Fp4, Fa4⟩, Ao4⟩⟩
 ·
  refine own_cp X0 hy hZ hown (own_y19 hw) (rmSk0 hw Z0 ⟨Eg, Ft, Fe, Fm, Fo, Fd, Fp, Fa⟩ g_g At hT H (by decide) (Or.inl (Nat.le_of_eq hk14))) e0 Eg d13_1 own_pd12 hml fun v5 T5 L5 X5 hQ5 => ?_
  obtain ⟨rfl, N5q, e5⟩ := hQ5
  have N5 := Fr.app N0 N5q
  refine own_ae X5 hy hZ hown hw e5 Fa Fe a13_4 fun T6 X6 e6 => ?_
  refine own_cy X6 hy d13_12 27 (flt (own_Pge ho hk49 (Nat.le_of_eq hk14) (by decide))).2.1 ?_
  refine own_ic X6 hy d13_27 ?_
  refine own_is X6 hy d13_28 (l' := #[.val (.ref g), .val (.int 0), .unset]) rfl ?_
  refine own_kn X6 hy d13_29 d13_30 d13_32 rfl (feq (by decide : ¬ ((0 : Int32) = (123 : Int32)))).1 ?_
  refine own_ky X6 hy d13_35 d13_36 d13_38 rfl 60 (feq (by decide : ¬ ((0 : Int32) = (91 : Int32)))).2 ?_
  refine own_ky X6 hy d13_60 d13_61 d13_63 rfl 74 (feq (by decide : ¬ ((0 : Int32) = (34 : Int32)))).2 ?_
  refine own_kn X6 hy d13_74 d13_75 d13_77 rfl (feq (by decide : ¬ ((0 : Int32) = (45 : Int32)))).1 ?_
  refine own_il X6 hy d13_80 rfl ?_
  refine own_cs X6 hy hZ hown (own_y0 hw) (rmID hw (0 : Int32) (0 : Int32) Z0 (by decide)) e6 d13_81 own_pd0 hml fun v7 T7 L7 X7 hQ7 => ?_
  obtain ⟨rfl, N7q, e7⟩ := hQ7
  have N7 := Fr.app N5 N7q
  refine own_zy X7 hy d13_84 95 ((if0 _ _).trans (teq (by decide : ((0 : Int32) = (0 : Int32)))).1) ?_
  refine own_ky X7 hy d13_95 d13_96 d13_98 rfl 111 (feq (by decide : ¬ ((0 : Int32) = (116 : Int32)))).2 ?_
  refine own_ky X7 hy d13_111 d13_112 d13_114 rfl 127 (feq (by decide : ¬ ((0 : Int32) = (102 : Int32)))).2 ?_
  refine own_ky X7 hy d13_127 d13_128 d13_130 rfl 143 (feq (by decide : ¬ ((0 : Int32) = (110 : Int32)))).2 ?_
  refine own_ic X7 hy d13_143 ?_
  refine own_is X7 hy d13_144 (l' := #[.val (.ref g), .val (.int 0), .val (.int 0)]) rfl ?_
  refine own_il X7 hy d13_145 rfl ?_
  exact own_rF X7 hy hrt hlk d13_146 e7 ⟨N7, Kp0, Or.inr ⟨by omega, rfl, by rw [hm14]; exact ⟨Eg, Ft, Fe, Fm, Fo, Fd, Fp, Fa⟩, Ao⟩⟩
 ·
  refine own_cp X0 hy hZ hown (own_y19 hw) (rmSk0 hw Z0 ⟨Eg, Ft, Fe, Fm, Fo, Fd, Fp, Fa⟩ g_g At hT H (by decide) (Or.inr ⟨hk14, own_bws hb14⟩)) e0 Eg d13_1 own_pd12 hml fun v8 T8 L8 X8 hQ8 => ?_
  obtain ⟨rfl, N8q, e8⟩ := hQ8
  have N8 := Fr.app N0 N8q
  refine own_ae X8 hy hZ hown hw e8 Fa Fe a13_4 fun T9 X9 e9 => ?_
  refine own_cn X9 hy d13_12 (tlt (own_Plt ho hk49 hk14)).2.1 ?_
  refine own_tc X9 hy hZ hown hw e9 Ft Fa At ho hT (by decide) t13_15 fun T10 X10 e10 => ?_
  refine own_gt X10 hy d13_24 28 ?_
  refine own_is X10 hy d13_28 (l' := #[.val (.ref g), .val (.int (cc 14)), .unset]) rfl ?_
  refine own_kn X10 hy d13_29 d13_30 d13_32 rfl (feq (own_bne hb14 (by decide))).1 ?_
  refine own_ky X10 hy d13_35 d13_36 d13_38 rfl 60 (feq (own_bne hb14 (by decide))).2 ?_
  refine own_ky X10 hy d13_60 d13_61 d13_63 rfl 74 (feq (own_bne hb14 (by decide))).2 ?_
  refine own_kn X10 hy d13_74 d13_75 d13_77 rfl (feq (own_bne hb14 (by decide))).1 ?_
  refine own_il X10 hy d13_80 rfl ?_
  refine own_cs X10 hy hZ hown (own_y0 hw) (rmID hw (cc 14) (0 : Int32) Z0 (own_bdg hb14)) e10 d13_81 own_pd0 hml fun v11 T11 L11 X11 hQ11 => ?_
  obtain ⟨rfl, N11q, e11⟩ := hQ11
  have N11 := Fr.app N8 N11q
  clear N8 N8q X8 e8 X9 e9 X10 e10 N11q
  refine own_zy X11 hy d13_84 95 ((if0 _ _).trans (teq (by decide : ((0 : Int32) = (0 : Int32)))).1) ?_
  refine own_ky X11 hy d13_95 d13_96 d13_98 rfl 111 (feq (own_bne hb14 (by decide))).2 ?_
  refine own_ky X11 hy d13_111 d13_112 d13_114 rfl 127 (feq (own_bne hb14 (by decide))).2 ?_
  refine own_ky X11 hy d13_127 d13_128 d13_130 rfl 143 (feq (own_bne hb14 (by decide))).2 ?_
  refine own_ic X11 hy d13_143 ?_
  refine own_is X11 hy d13_144 (l' := #[.val (.ref g), .val (.int (cc 14)), .val (.int 0)]) rfl ?_
  refine own_il X11 hy d13_145 rfl ?_
  exact own_rF X11 hy hrt hlk d13_146 e11 ⟨N11, Kp0, Or.inr ⟨by omega, rfl, by rw [hm14]; exact ⟨Eg, Ft, Fe, Fm, Fo, Fd, Fp, Fa⟩, Ao⟩⟩
 ·
  refine own_cp X0 hy hZ hown (own_y19 hw) (rmSk0 hw Z0 ⟨Eg, Ft, Fe, Fm, Fo, Fd, Fp, Fa⟩ g_g At hT H (by decide) (Or.inr ⟨hk14, own_lws (L := 91) hg14 (by decide)⟩)) e0 Eg d13_1 own_pd12 hml fun v12 T12 L12 X12 hQ12 => ?_
  obtain ⟨rfl, N12q, e12⟩ := hQ12
  have N12 := Fr.app N0 N12q
  refine own_ae X12 hy hZ hown hw e12 Fa Fe a13_4 fun T13 X13 e13 => ?_
  refine own_cn X13 hy d13_12 (tlt (own_Plt ho hk49 hk14)).2.1 ?_
  refine own_tc X13 hy hZ hown hw e13 Ft Fa At ho hT (by decide) t13_15 fun T14 X14 e14 => ?_
  refine own_gt X14 hy d13_24 28 ?_
  refine own_is X14 hy d13_28 (l' := #[.val (.ref g), .val (.int (cc 14)), .unset]) rfl ?_
  refine own_kn X14 hy d13_29 d13_30 d13_32 rfl (feq (by rw [show cc 14 = 91 from hg14]; decide)).1 ?_
  refine own_kn X14 hy d13_35 d13_36 d13_38 rfl (teq (show cc 14 = 91 from hg14)).2 ?_
  refine own_al X14 hy d13_41 rfl rfl ?_
  refine own_ky X14 hy d13_42 d13_43 d13_45 rfl 52 (feq (by rw [show cc 14 = 91 from hg14]; decide)).2 ?_
  refine own_ic X14 hy d13_52 ?_
  refine own_cpg X14 hy hZ hown (own_y20 hw) (rmOpD_1 hw (0 : Int32) Z0 ⟨Eg, Ft, Fe, Fm, Fo, Fd, Fp, Fa⟩ g_g At hT H (own_d14 hd14)) e14 Eg (S := []) rfl d13_53 own_pd13 hml fun v15 T15 L15 X15 hQ15 => ?_
  obtain ⟨rfl, N15q, e15⟩ := hQ15
  have N15 := Fr.app N12 N15q
  clear N12 N12q X12 e12 X13 e13 X14 e14 N15q
  refine own_is X15 hy d13_56 (l' := #[.val (.ref g), .val (.int (cc 14)), .val (.int 0)]) rfl ?_
  refine own_gt X15 hy d13_57 145 ?_
  refine own_il X15 hy d13_145 rfl ?_
  exact own_rF X15 hy hrt hlk d13_146 e15 ⟨N15, Kp0, Or.inr ⟨by omega, rfl, by rw [hm14]; exact ⟨Eg, Ft, Fe, Fm, Fo, Fd, Fp, Fa⟩, Ao⟩⟩
def QrmV29 (Z : State) (g : Addr) (ct : Addr) (ob : Addr) (kc : ClassId) (tx : List Value) (cc : Nat → Int32) (oN : Nat) (kk : Nat) (M : Nat) (tf : Bool) (md : Int32) (oo : Int32) (ko : ClassId) (w0 : Value) (w1 : Value) (w2 : Value) (w3 : Value) (w4 : Value) (w5 : Value) (w6 : Value) (w7 : Value) (w8 : Value) (w9 : Value) (w10 : Value) (w11 : Value) (w12 : Value) (w13 : Value) (w14 : Value) (w15 : Value) (h0 : Heap) (n0 : Nat) (v : Option Value) (h : Heap) (L : List Loc) : Prop := Fr n0 L ∧ Keep h0 h [g, ob] ∧ ((31 ≤ M ∧ v = some (.int 1) ∧ own_G Z h g ct ob (own_P oN kk) md (3 : Int32) (1 : Int32) (own_P oN 31) ∧ Arv Z h ob ko .boolean (16 : Int32) [w0, w1, (.int 1), w3, w4, w5, w6, w7, w8, w9, w10, w11, w12, w13, w14, w15] (.int 0)) ∨ (M < 31 ∧ v = some (.int 0) ∧ own_G Z h g ct ob (own_P oN kk) md (2 : Int32) oo (own_P oN M) ∧ Arv Z h ob ko .boolean (16 : Int32) [w0, w1, w2, w3, w4, w5, w6, w7, w8, w9, w10, w11, w12, w13, w14, w15] (.int 0)))
theorem rmV29 (hw : own_HW Z a0) (Z0 : n0 ≤ h0.size) (Gq : own_G Z h0 g ct ob (own_P oN kk) md (2 : Int32) oo (own_P oN 29)) (g_g : n0 ≤ g) (At : Arv Z h0 ct kc .char (52 : Int32) tx (.int 0)) (hT : ∀ i, i < 49 → tx.getD (oN + i) (.int 0) = .int (cc i)) (H : own_H oN kk md M tf cc) (Ao : Arv Z h0 ob ko .boolean (16 : Int32) [w0, w1, w2, w3, w4, w5, w6, w7, w8, w9, w10, w11, w12, w13, w14, w15] (.int 0)) (g_ob : n0 ≤ ob) (hM0 : 29 ≤ M) :
  own_MF l "dev/parlance/JsonGrammar" "value" "()Z" prog_6_method_3_code 3 (some .boolean) ⟨1, 0, 0, 13⟩ #[(.ref g)] Z h0 (QrmV29 Z g ct ob kc tx cc oN kk M tf md oo ko w0 w1 w2 w3 w4 w5 w6 w7 w8 w9 w10 w11 w12 w13 w14 w15 h0 n0) := by
 refine own_fst (plainFor_of_name own_pn13) (own_ef13 · g) fun p e s m below meth c s₁ hy hml hZ hown hnm hrt hlk X0 e0 => ?_
 have N0 := Fr.nil n0
 have Kp0 : Keep h0 h0 [g, ob] := Keep.refl h0 _
 obtain ⟨⟨Eg, Ft, Fe, Fm, Fo, Fd, Fp, Fa⟩, ho, hk49, ne_ct_g⟩ := own_gi hw Gq At H
 have ne_ob_g : ob ≠ g := Ne.symm (own_neA Eg (own_w hw 54 rfl) Ao)
 have ne_ct_ob : ct ≠ ob := arv_ne At Ao (Or.inl (by decide))
 refine own_al X0 hy d13_0 rfl rfl ?_
 rcases own_at H 29 (by decide) hM0 (by decide) with ⟨hm29, hk29, hg29⟩ | ⟨hm29, hk29⟩ | ⟨hm29, hk29, hb29⟩
 ·
  rcases H.2.2.2.2.2 30 (by decide) hm29 with ⟨hm30, hk30, hg30, hd30⟩ | ⟨hm30, hk30⟩ | ⟨hm30, hk30, hb30⟩ | ⟨hm30, hk30, hg30, hd30⟩
  ·
   refine own_cp X0 hy hZ hown (own_y19 hw) (rmSk1 hw Z0 ⟨Eg, Ft, Fe, Fm, Fo, Fd, Fp, Fa⟩ g_g At hT H (by decide) hk29 hg29 (Or.inr ⟨hk30, own_lws (L := 123) hg30 (by decide)⟩)) e0 Eg d13_1 own_pd12 hml fun v1 T1 L1 X1 hQ1 => ?_
   obtain ⟨rfl, N1q, K1q, ⟨_, Ft1, Fe1, Fm1, Fo1, Fd1, Fp1, Fa1⟩⟩ := hQ1
   have N1 := Fr.app N0 N1q
   replace Eg := Eg.keep K1q
   replace At := At.keep K1q (ninS ne_ct_g nin0)
   replace Ao := Ao.keep K1q (ninS ne_ob_g nin0)
   have Z1 := Nat.le_trans Z0 K1q.1
   have Kp1 := Kp0.trans K1q (allS own_m0 (all0))
   refine own_ae X1 hy hZ hown hw rfl Fa1 Fe1 a13_4 fun T2 X2 e2 => ?_
   refine own_cn X2 hy d13_12 (tlt (own_Plt ho hk49 hk30)).2.1 ?_
   refine own_tc X2 hy hZ hown hw e2 Ft1 Fa1 At ho hT (by decide) t13_15 fun T3 X3 e3 => ?_
   refine own_gt X3 hy d13_24 28 ?_
   refine own_is X3 hy d13_28 (l' := #[.val (.ref g), .val (.int (cc 30)), .unset]) rfl ?_
   refine own_ky X3 hy d13_29 d13_30 d13_32 rfl 41 (teq (show cc 30 = 123 from hg30)).1 ?_
   refine own_al X3 hy d13_41 rfl rfl ?_
   refine own_kn X3 hy d13_42 d13_43 d13_45 rfl (teq (show cc 30 = 123 from hg30)).2 ?_
   refine own_ic X3 hy d13_48 ?_
   refine own_gt X3 hy d13_49 53 ?_
   refine own_cpg X3 hy hZ hown (own_y20 hw) (rmOp_2_1 hw Z1 ⟨Eg, Ft1, Fe1, Fm1, Fo1, Fd1, Fp1, Fa1⟩ g_g At hT H Ao g_ob (own_nd30 hd30)) e3 Eg (S := []) rfl d13_53 own_pd13 hml fun v4 T4 L4 X4 hQ4 => ?_
   obtain ⟨rfl, N4q, K4q, ⟨_, Ft4, Fe4, Fm4, Fo4, Fd4, Fp4, Fa4⟩, Ao4⟩ := hQ4
   have N4 := Fr.app N1 N4q
   replace Eg := Eg.keep K4q
   replace At := At.keep K4q (ninS ne_ct_g (ninS ne_ct_ob nin0))
   have Z4 := Nat.le_trans Z1 K4q.1
   have Kp4 := Kp1.trans K4q (allS own_m0 (allS own_m1 (all0)))
   clear N1 N1q X1 X2 e2 X3 e3 N4q
   refine own_is X4 hy d13_56 (l' := #[.val (.ref g), .val (.int (cc 30)), .val (.int 1)]) rfl ?_
   refine own_gt X4 hy d13_57 145 ?_
   refine own_il X4 hy d13_145 rfl ?_
   exact own_rT X4 hy hrt hlk d13_146 rfl ⟨N4, Kp4, Or.inl ⟨hm30, rfl, ⟨Eg, Ft4, Fe4, Fm4, Fo4, Fd4, Fp4, Fa4⟩, Ao4⟩⟩
  ·
   refine own_cp X0 hy hZ hown (own_y19 hw) (rmSk1 hw Z0 ⟨Eg, Ft, Fe, Fm, Fo, Fd, Fp, Fa⟩ g_g At hT H (by decide) hk29 hg29 (Or.inl (Nat.le_of_eq hk30))) e0 Eg d13_1 own_pd12 hml fun v5 T5 L5 X5 hQ5 => ?_
   obtain ⟨rfl, N5q, K5q, ⟨_, Ft5, Fe5, Fm5, Fo5, Fd5, Fp5, Fa5⟩⟩ := hQ5
   have N5 := Fr.app N0 N5q
   replace Eg := Eg.keep K5q
   replace At := At.keep K5q (ninS ne_ct_g nin0)
   replace Ao := Ao.keep K5q (ninS ne_ob_g nin0)
   have Z5 := Nat.le_trans Z0 K5q.1
   have Kp5 := Kp0.trans K5q (allS own_m0 (all0))
   refine own_ae X5 hy hZ hown hw rfl Fa5 Fe5 a13_4 fun T6 X6 e6 => ?_
   refine own_cy X6 hy d13_12 27 (flt (own_Pge ho hk49 (Nat.le_of_eq hk30) (by decide))).2.1 ?_
   refine own_ic X6 hy d13_27 ?_
   refine own_is X6 hy d13_28 (l' := #[.val (.ref g), .val (.int 0), .unset]) rfl ?_
   refine own_kn X6 hy d13_29 d13_30 d13_32 rfl (feq (by decide : ¬ ((0 : Int32) = (123 : Int32)))).1 ?_
   refine own_ky X6 hy d13_35 d13_36 d13_38 rfl 60 (feq (by decide : ¬ ((0 : Int32) = (91 : Int32)))).2 ?_
   refine own_ky X6 hy d13_60 d13_61 d13_63 rfl 74 (feq (by decide : ¬ ((0 : Int32) = (34 : Int32)))).2 ?_
   refine own_kn X6 hy d13_74 d13_75 d13_77 rfl (feq (by decide : ¬ ((0 : Int32) = (45 : Int32)))).1 ?_
   refine own_il X6 hy d13_80 rfl ?_
   refine own_cs X6 hy hZ hown (own_y0 hw) (rmID hw (0 : Int32) (0 : Int32) Z5 (by decide)) e6 d13_81 own_pd0 hml fun v7 T7 L7 X7 hQ7 => ?_
   obtain ⟨rfl, N7q, e7⟩ := hQ7
   have N7 := Fr.app N5 N7q
   refine own_zy X7 hy d13_84 95 ((if0 _ _).trans (teq (by decide : ((0 : Int32) = (0 : Int32)))).1) ?_
   refine own_ky X7 hy d13_95 d13_96 d13_98 rfl 111 (feq (by decide : ¬ ((0 : Int32) = (116 : Int32)))).2 ?_
   refine own_ky X7 hy d13_111 d13_112 d13_114 rfl 127 (feq (by decide : ¬ ((0 : Int32) = (102 : Int32)))).2 ?_
   refine own_ky X7 hy d13_127 d13_128 d13_130 rfl 143 (feq (by decide : ¬ ((0 : Int32) = (110 : Int32)))).2 ?_
   refine own_ic X7 hy d13_143 ?_
   refine own_is X7 hy d13_144 (l' := #[.val (.ref g), .val (.int 0), .val (.int 0)]) rfl ?_
   refine own_il X7 hy d13_145 rfl ?_
   exact own_rF X7 hy hrt hlk d13_146 e7 ⟨N7, Kp5, Or.inr ⟨by omega, rfl, by rw [hm30]; exact ⟨Eg, Ft5, Fe5, Fm5, Fo5, Fd5, Fp5, Fa5⟩, Ao⟩⟩
  ·
   refine own_cp X0 hy hZ hown (own_y19 hw) (rmSk1 hw Z0 ⟨Eg, Ft, Fe, Fm, Fo, Fd, Fp, Fa⟩ g_g At hT H (by decide) hk29 hg29 (Or.inr ⟨hk30, own_bws hb30⟩)) e0 Eg d13_1 own_pd12 hml fun v8 T8 L8 X8 hQ8 => ?_
   obtain ⟨rfl, N8q, K8q, ⟨_, Ft8, Fe8, Fm8, Fo8, Fd8, Fp8, Fa8⟩⟩ := hQ8
   have N8 := Fr.app N0 N8q
   replace Eg := Eg.keep K8q
   replace At := At.keep K8q (ninS ne_ct_g nin0)
   replace Ao := Ao.keep K8q (ninS ne_ob_g nin0)
   have Z8 := Nat.le_trans Z0 K8q.1
   have Kp8 := Kp0.trans K8q (allS own_m0 (all0))
   refine own_ae X8 hy hZ hown hw rfl Fa8 Fe8 a13_4 fun T9 X9 e9 => ?_
   refine own_cn X9 hy d13_12 (tlt (own_Plt ho hk49 hk30)).2.1 ?_
   refine own_tc X9 hy hZ hown hw e9 Ft8 Fa8 At ho hT (by decide) t13_15 fun T10 X10 e10 => ?_
   refine own_gt X10 hy d13_24 28 ?_
   refine own_is X10 hy d13_28 (l' := #[.val (.ref g), .val (.int (cc 30)), .unset]) rfl ?_
   refine own_kn X10 hy d13_29 d13_30 d13_32 rfl (feq (own_bne hb30 (by decide))).1 ?_
   refine own_ky X10 hy d13_35 d13_36 d13_38 rfl 60 (feq (own_bne hb30 (by decide))).2 ?_
   refine own_ky X10 hy d13_60 d13_61 d13_63 rfl 74 (feq (own_bne hb30 (by decide))).2 ?_
   refine own_kn X10 hy d13_74 d13_75 d13_77 rfl (feq (own_bne hb30 (by decide))).1 ?_
   refine own_il X10 hy d13_80 rfl ?_
   refine own_cs X10 hy hZ hown (own_y0 hw) (rmID hw (cc 30) (0 : Int32) Z8 (own_bdg hb30)) e10 d13_81 own_pd0 hml fun v11 T11 L11 X11 hQ11 => ?_
   obtain ⟨rfl, N11q, e11⟩ := hQ11
   have N11 := Fr.app N8 N11q
   clear N8 N8q X8 X9 e9 X10 e10 N11q
   refine own_zy X11 hy d13_84 95 ((if0 _ _).trans (teq (by decide : ((0 : Int32) = (0 : Int32)))).1) ?_
   refine own_ky X11 hy d13_95 d13_96 d13_98 rfl 111 (feq (own_bne hb30 (by decide))).2 ?_
   refine own_ky X11 hy d13_111 d13_112 d13_114 rfl 127 (feq (own_bne hb30 (by decide))).2 ?_
   refine own_ky X11 hy d13_127 d13_128 d13_130 rfl 143 (feq (own_bne hb30 (by decide))).2 ?_
   refine own_ic X11 hy d13_143 ?_
   refine own_is X11 hy d13_144 (l' := #[.val (.ref g), .val (.int (cc 30)), .val (.int 0)]) rfl ?_
   refine own_il X11 hy d13_145 rfl ?_
   exact own_rF X11 hy hrt hlk d13_146 e11 ⟨N11, Kp8, Or.inr ⟨by omega, rfl, by rw [hm30]; exact ⟨Eg, Ft8, Fe8, Fm8, Fo8, Fd8, Fp8, Fa8⟩, Ao⟩⟩
  ·
   refine own_cp X0 hy hZ hown (own_y19 hw) (rmSk1 hw Z0 ⟨Eg, Ft, Fe, Fm, Fo, Fd, Fp, Fa⟩ g_g At hT H (by decide) hk29 hg29 (Or.inr ⟨hk30, own_lws (L := 123) hg30 (by decide)⟩)) e0 Eg d13_1 own_pd12 hml fun v12 T12 L12 X12 hQ12 => ?_
   obtain ⟨rfl, N12q, K12q, ⟨_, Ft12, Fe12, Fm12, Fo12, Fd12, Fp12, Fa12⟩⟩ := hQ12
   have N12 := Fr.app N0 N12q
   replace Eg := Eg.keep K12q
   replace At := At.keep K12q (ninS ne_ct_g nin0)
   replace Ao := Ao.keep K12q (ninS ne_ob_g nin0)
   have Z12 := Nat.le_trans Z0 K12q.1
   have Kp12 := Kp0.trans K12q (allS own_m0 (all0))
   refine own_ae X12 hy hZ hown hw rfl Fa12 Fe12 a13_4 fun T13 X13 e13 => ?_
   refine own_cn X13 hy d13_12 (tlt (own_Plt ho hk49 hk30)).2.1 ?_
   refine own_tc X13 hy hZ hown hw e13 Ft12 Fa12 At ho hT (by decide) t13_15 fun T14 X14 e14 => ?_
   refine own_gt X14 hy d13_24 28 ?_
   refine own_is X14 hy d13_28 (l' := #[.val (.ref g), .val (.int (cc 30)), .unset]) rfl ?_
   refine own_ky X14 hy d13_29 d13_30 d13_32 rfl 41 (teq (show cc 30 = 123 from hg30)).1 ?_
   refine own_al X14 hy d13_41 rfl rfl ?_
   refine own_kn X14 hy d13_42 d13_43 d13_45 rfl (teq (show cc 30 = 123 from hg30)).2 ?_
   refine own_ic X14 hy d13_48 ?_
   refine own_gt X14 hy d13_49 53 ?_
   refine own_cpg X14 hy hZ hown (own_y20 hw) (rmOpD_2 hw (1 : Int32) Z12 ⟨Eg, Ft12, Fe12, Fm12, Fo12, Fd12, Fp12, Fa12⟩ g_g At hT H (own_d30 hd30)) e14 Eg (S := []) rfl d13_53 own_pd13 hml fun v15 T15 L15 X15 hQ15 => ?_
   obtain ⟨rfl, N15q, e15⟩ := hQ15
   have N15 := Fr.app N12 N15q
   clear N12 N12q X12 X13 e13 X14 e14 N15q
   refine own_is X15 hy d13_56 (l' := #[.val (.ref g), .val (.int (cc 30)), .val (.int 0)]) rfl ?_
   refine own_gt X15 hy d13_57 145 ?_
   refine own_il X15 hy d13_145 rfl ?_
   exact own_rF X15 hy hrt hlk d13_146 e15 ⟨N15, Kp12, Or.inr ⟨by omega, rfl, by rw [hm30]; exact ⟨Eg, Ft12, Fe12, Fm12, Fo12, Fd12, Fp12, Fa12⟩, Ao⟩⟩
 ·
  refine own_cp X0 hy hZ hown (own_y19 hw) (rmSk0 hw Z0 ⟨Eg, Ft, Fe, Fm, Fo, Fd, Fp, Fa⟩ g_g At hT H (by decide) (Or.inl (Nat.le_of_eq hk29))) e0 Eg d13_1 own_pd12 hml fun v16 T16 L16 X16 hQ16 => ?_
  obtain ⟨rfl, N16q, e16⟩ := hQ16
  have N16 := Fr.app N0 N16q
  refine own_ae X16 hy hZ hown hw e16 Fa Fe a13_4 fun T17 X17 e17 => ?_
  refine own_cy X17 hy d13_12 27 (flt (own_Pge ho hk49 (Nat.le_of_eq hk29) (by decide))).2.1 ?_
  refine own_ic X17 hy d13_27 ?_
  refine own_is X17 hy d13_28 (l' := #[.val (.ref g), .val (.int 0), .unset]) rfl ?_
  refine own_kn X17 hy d13_29 d13_30 d13_32 rfl (feq (by decide : ¬ ((0 : Int32) = (123 : Int32)))).1 ?_
  refine own_ky X17 hy d13_35 d13_36 d13_38 rfl 60 (feq (by decide : ¬ ((0 : Int32) = (91 : Int32)))).2 ?_
  refine own_ky X17 hy d13_60 d13_61 d13_63 rfl 74 (feq (by decide : ¬ ((0 : Int32) = (34 : Int32)))).2 ?_
  refine own_kn X17 hy d13_74 d13_75 d13_77 rfl (feq (by decide : ¬ ((0 : Int32) = (45 : Int32)))).1 ?_
  refine own_il X17 hy d13_80 rfl ?_
  refine own_cs X17 hy hZ hown (own_y0 hw) (rmID hw (0 : Int32) (0 : Int32) Z0 (by decide)) e17 d13_81 own_pd0 hml fun v18 T18 L18 X18 hQ18 => ?_
  obtain ⟨rfl, N18q, e18⟩ := hQ18
  have N18 := Fr.app N16 N18q
  refine own_zy X18 hy d13_84 95 ((if0 _ _).trans (teq (by decide : ((0 : Int32) = (0 : Int32)))).1) ?_
  refine own_ky X18 hy d13_95 d13_96 d13_98 rfl 111 (feq (by decide : ¬ ((0 : Int32) = (116 : Int32)))).2 ?_
  refine own_ky X18 hy d13_111 d13_112 d13_114 rfl 127 (feq (by decide : ¬ ((0 : Int32) = (102 : Int32)))).2 ?_
  refine own_ky X18 hy d13_127 d13_128 d13_130 rfl 143 (feq (by decide : ¬ ((0 : Int32) = (110 : Int32)))).2 ?_
  refine own_ic X18 hy d13_143 ?_
  refine own_is X18 hy d13_144 (l' := #[.val (.ref g), .val (.int 0), .val (.int 0)]) rfl ?_
  refine own_il X18 hy d13_145 rfl ?_
  exact own_rF X18 hy hrt hlk d13_146 e18 ⟨N18, Kp0, Or.inr ⟨by omega, rfl, by rw [hm29]; exact ⟨Eg, Ft, Fe, Fm, Fo, Fd, Fp, Fa⟩, Ao⟩⟩
 ·
  refine own_cp X0 hy hZ hown (own_y19 hw) (rmSk0 hw Z0 ⟨Eg, Ft, Fe, Fm, Fo, Fd, Fp, Fa⟩ g_g At hT H (by decide) (Or.inr ⟨hk29, own_bws hb29⟩)) e0 Eg d13_1 own_pd12 hml fun v19 T19 L19 X19 hQ19 => ?_
  obtain ⟨rfl, N19q, e19⟩ := hQ19
  have N19 := Fr.app N0 N19q
  refine own_ae X19 hy hZ hown hw e19 Fa Fe a13_4 fun T20 X20 e20 => ?_
  refine own_cn X20 hy d13_12 (tlt (own_Plt ho hk49 hk29)).2.1 ?_
  refine own_tc X20 hy hZ hown hw e20 Ft Fa At ho hT (by decide) t13_15 fun T21 X21 e21 => ?_
  refine own_gt X21 hy d13_24 28 ?_
  refine own_is X21 hy d13_28 (l' := #[.val (.ref g), .val (.int (cc 29)), .unset]) rfl ?_
  refine own_kn X21 hy d13_29 d13_30 d13_32 rfl (feq (own_bne hb29 (by decide))).1 ?_
  refine own_ky X21 hy d13_35 d13_36 d13_38 rfl 60 (feq (own_bne hb29 (by decide))).2 ?_
  refine own_ky X21 hy d13_60 d13_61 d13_63 rfl 74 (feq (own_bne hb29 (by decide))).2 ?_
  refine own_kn X21 hy d13_74 d13_75 d13_77 rfl (feq (own_bne hb29 (by decide))).1 ?_
  refine own_il X21 hy d13_80 rfl ?_
  refine own_cs X21 hy hZ hown (own_y0 hw) (rmID hw (cc 29) (0 : Int32) Z0 (own_bdg hb29)) e21 d13_81 own_pd0 hml fun v22 T22 L22 X22 hQ22 => ?_
  obtain ⟨rfl, N22q, e22⟩ := hQ22
  have N22 := Fr.app N19 N22q
  clear N19 N19q X19 e19 X20 e20 X21 e21 N22q
  refine own_zy X22 hy d13_84 95 ((if0 _ _).trans (teq (by decide : ((0 : Int32) = (0 : Int32)))).1) ?_
  refine own_ky X22 hy d13_95 d13_96 d13_98 rfl 111 (feq (own_bne hb29 (by decide))).2 ?_
  refine own_ky X22 hy d13_111 d13_112 d13_114 rfl 127 (feq (own_bne hb29 (by decide))).2 ?_
  refine own_ky X22 hy d13_127 d13_128 d13_130 rfl 143 (feq (own_bne hb29 (by decide))).2 ?_
  refine own_ic X22 hy d13_143 ?_
  refine own_is X22 hy d13_144 (l' := #[.val (.ref g), .val (.int (cc 29)), .val (.int 0)]) rfl ?_
  refine own_il X22 hy d13_145 rfl ?_
  exact own_rF X22 hy hrt hlk d13_146 e22 ⟨N22, Kp0, Or.inr ⟨by omega, rfl, by rw [hm29]; exact ⟨Eg, Ft, Fe, Fm, Fo, Fd, Fp, Fa⟩, Ao⟩⟩
def QrmV34 (Z : State) (g : Addr) (ct : Addr) (ob : Addr) (kc : ClassId) (tx : List Value) (cc : Nat → Int32) (oN : Nat) (kk : Nat) (M : Nat) (tf : Bool) (md : Int32) (oo : Int32) (ko : ClassId) (w0 : Value) (w1 : Value) (w2 : Value) (w3 : Value) (w4 : Value) (w5 : Value) (w6 : Value) (w7 : Value) (w8 : Value) (w9 : Value) (w10 : Value) (w11 : Value) (w12 : Value) (w13 : Value) (w14 : Value) (w15 : Value) (h0 : Heap) (n0 : Nat) (v : Option Value) (h : Heap) (L : List Loc) : Prop := Fr n0 L ∧ Keep h0 h [g, ob] ∧ ((35 ≤ M ∧ v = some (.int 1) ∧ own_G Z h g ct ob (own_P oN kk) md (3 : Int32) (1 : Int32) (own_P oN 35) ∧ Arv Z h ob ko .boolean (16 : Int32) [w0, w1, (.int 0), w3, w4, w5, w6, w7, w8, w9, w10, w11, w12, w13, w14, w15] (.int 0)) ∨ (M < 35 ∧ v = some (.int 0) ∧ own_G Z h g ct ob (own_P oN kk) md (2 : Int32) oo (own_P oN M) ∧ Arv Z h ob ko .boolean (16 : Int32) [w0, w1, w2, w3, w4, w5, w6, w7, w8, w9, w10, w11, w12, w13, w14, w15] (.int 0)))
theorem rmV34 (hw : own_HW Z a0) (Z0 : n0 ≤ h0.size) (Gq : own_G Z h0 g ct ob (own_P oN kk) md (2 : Int32) oo (own_P oN 34)) (g_g : n0 ≤ g) (At : Arv Z h0 ct kc .char (52 : Int32) tx (.int 0)) (hT : ∀ i, i < 49 → tx.getD (oN + i) (.int 0) = .int (cc i)) (H : own_H oN kk md M tf cc) (Ao : Arv Z h0 ob ko .boolean (16 : Int32) [w0, w1, w2, w3, w4, w5, w6, w7, w8, w9, w10, w11, w12, w13, w14, w15] (.int 0)) (g_ob : n0 ≤ ob) (hM0 : 34 ≤ M) (hd30 : ¬ own_deep md 30) :
  own_MF l "dev/parlance/JsonGrammar" "value" "()Z" prog_6_method_3_code 3 (some .boolean) ⟨1, 0, 0, 13⟩ #[(.ref g)] Z h0 (QrmV34 Z g ct ob kc tx cc oN kk M tf md oo ko w0 w1 w2 w3 w4 w5 w6 w7 w8 w9 w10 w11 w12 w13 w14 w15 h0 n0) := by
 refine own_fst (plainFor_of_name own_pn13) (own_ef13 · g) fun p e s m below meth c s₁ hy hml hZ hown hnm hrt hlk X0 e0 => ?_
 have N0 := Fr.nil n0
 have Kp0 : Keep h0 h0 [g, ob] := Keep.refl h0 _
 obtain ⟨⟨Eg, Ft, Fe, Fm, Fo, Fd, Fp, Fa⟩, ho, hk49, ne_ct_g⟩ := own_gi hw Gq At H
 have ne_ob_g : ob ≠ g := Ne.symm (own_neA Eg (own_w hw 54 rfl) Ao)
 have ne_ct_ob : ct ≠ ob := arv_ne At Ao (Or.inl (by decide))
 refine own_al X0 hy d13_0 rfl rfl ?_
 rcases own_at H 34 (by decide) hM0 (by decide) with ⟨hm34, hk34, hg34⟩ | ⟨hm34, hk34⟩ | ⟨hm34, hk34, hb34⟩
 ·
  refine own_cp X0 hy hZ hown (own_y19 hw) (rmSk0 hw Z0 ⟨Eg, Ft, Fe, Fm, Fo, Fd, Fp, Fa⟩ g_g At hT H (by decide) (Or.inr ⟨hk34, own_lws (L := 91) hg34 (by decide)⟩)) e0 Eg d13_1 own_pd12 hml fun v1 T1 L1 X1 hQ1 => ?_
  obtain ⟨rfl, N1q, e1⟩ := hQ1
  have N1 := Fr.app N0 N1q
  refine own_ae X1 hy hZ hown hw e1 Fa Fe a13_4 fun T2 X2 e2 => ?_
  refine own_cn X2 hy d13_12 (tlt (own_Plt ho hk49 hk34)).2.1 ?_
  refine own_tc X2 hy hZ hown hw e2 Ft Fa At ho hT (by decide) t13_15 fun T3 X3 e3 => ?_
  refine own_gt X3 hy d13_24 28 ?_
  refine own_is X3 hy d13_28 (l' := #[.val (.ref g), .val (.int (cc 34)), .unset]) rfl ?_
  refine own_kn X3 hy d13_29 d13_30 d13_32 rfl (feq (by rw [show cc 34 = 91 from hg34]; decide)).1 ?_
  refine own_kn X3 hy d13_35 d13_36 d13_38 rfl (teq (show cc 34 = 91 from hg34)).2 ?_
  refine own_al X3 hy d13_41 rfl rfl ?_
  refine own_ky X3 hy d13_42 d13_43 d13_45 rfl 52 (feq (by rw [show cc 34 = 91 from hg34]; decide)).2 ?_
  refine own_ic X3 hy d13_52 ?_
  refine own_cpg X3 hy hZ hown (own_y20 hw) (rmOp_2_0 hw Z0 ⟨Eg, Ft, Fe, Fm, Fo, Fd, Fp, Fa⟩ g_g At hT H Ao g_ob (own_nd30 hd30)) e3 Eg (S := []) rfl d13_53 own_pd13 hml fun v4 T4 L4 X4 hQ4 => ?_
  obtain ⟨rfl, N4q, K4q, ⟨_, Ft4, Fe4, Fm4, Fo4, Fd4, Fp4, Fa4⟩, Ao4⟩ := hQ4
  have N4 := Fr.app N1 N4q
  replace Eg := Eg.keep K4q
  replace At := At.keep K4q (ninS ne_ct_g (ninS ne_ct_ob nin0))
  have Z4 := Nat.le_trans Z0 K4q.1
  have Kp4 := Kp0.trans K4q (allS own_m0 (allS own_m1 (all0)))
  clear N1 N1q X1 e1 X2 e2 X3 e3 N4q
  refine own_is X4 hy d13_56 (l' := #[.val (.ref g), .val (.int (cc 34)), .val (.int 1)]) rfl ?_
  refine own_gt X4 hy d13_57 145 ?_
  refine own_il X4 hy d13_145 rfl ?_
  exact own_rT X4 hy hrt hlk d13_146 rfl ⟨N4, Kp4, Or.inl ⟨hm34, rfl, ⟨Eg, Ft4, Fe4, Fm4, Fo4, Fd4, Fp4, Fa4⟩, Ao4⟩⟩
 ·
  refine own_cp X0 hy hZ hown (own_y19 hw) (rmSk0 hw Z0 ⟨Eg, Ft, Fe, Fm, Fo, Fd, Fp, Fa⟩ g_g At hT H (by decide) (Or.inl (Nat.le_of_eq hk34))) e0 Eg d13_1 own_pd12 hml fun v5 T5 L5 X5 hQ5 => ?_
  obtain ⟨rfl, N5q, e5⟩ := hQ5
  have N5 := Fr.app N0 N5q
  refine own_ae X5 hy hZ hown hw e5 Fa Fe a13_4 fun T6 X6 e6 => ?_
  refine own_cy X6 hy d13_12 27 (flt (own_Pge ho hk49 (Nat.le_of_eq hk34) (by decide))).2.1 ?_
  refine own_ic X6 hy d13_27 ?_
  refine own_is X6 hy d13_28 (l' := #[.val (.ref g), .val (.int 0), .unset]) rfl ?_
  refine own_kn X6 hy d13_29 d13_30 d13_32 rfl (feq (by decide : ¬ ((0 : Int32) = (123 : Int32)))).1 ?_
  refine own_ky X6 hy d13_35 d13_36 d13_38 rfl 60 (feq (by decide : ¬ ((0 : Int32) = (91 : Int32)))).2 ?_
  refine own_ky X6 hy d13_60 d13_61 d13_63 rfl 74 (feq (by decide : ¬ ((0 : Int32) = (34 : Int32)))).2 ?_
  refine own_kn X6 hy d13_74 d13_75 d13_77 rfl (feq (by decide : ¬ ((0 : Int32) = (45 : Int32)))).1 ?_
  refine own_il X6 hy d13_80 rfl ?_
  refine own_cs X6 hy hZ hown (own_y0 hw) (rmID hw (0 : Int32) (0 : Int32) Z0 (by decide)) e6 d13_81 own_pd0 hml fun v7 T7 L7 X7 hQ7 => ?_
  obtain ⟨rfl, N7q, e7⟩ := hQ7
  have N7 := Fr.app N5 N7q
  refine own_zy X7 hy d13_84 95 ((if0 _ _).trans (teq (by decide : ((0 : Int32) = (0 : Int32)))).1) ?_
  refine own_ky X7 hy d13_95 d13_96 d13_98 rfl 111 (feq (by decide : ¬ ((0 : Int32) = (116 : Int32)))).2 ?_
  refine own_ky X7 hy d13_111 d13_112 d13_114 rfl 127 (feq (by decide : ¬ ((0 : Int32) = (102 : Int32)))).2 ?_
  refine own_ky X7 hy d13_127 d13_128 d13_130 rfl 143 (feq (by decide : ¬ ((0 : Int32) = (110 : Int32)))).2 ?_
  refine own_ic X7 hy d13_143 ?_
  refine own_is X7 hy d13_144 (l' := #[.val (.ref g), .val (.int 0), .val (.int 0)]) rfl ?_
  refine own_il X7 hy d13_145 rfl ?_
  exact own_rF X7 hy hrt hlk d13_146 e7 ⟨N7, Kp0, Or.inr ⟨by omega, rfl, by rw [hm34]; exact ⟨Eg, Ft, Fe, Fm, Fo, Fd, Fp, Fa⟩, Ao⟩⟩
 ·
  refine own_cp X0 hy hZ hown (own_y19 hw) (rmSk0 hw Z0 ⟨Eg, Ft, Fe, Fm, Fo, Fd, Fp, Fa⟩ g_g At hT H (by decide) (Or.inr ⟨hk34, own_bws hb34⟩)) e0 Eg d13_1 own_pd12 hml fun v8 T8 L8 X8 hQ8 => ?_
  obtain ⟨rfl, N8q, e8⟩ := hQ8
  have N8 := Fr.app N0 N8q
  refine own_ae X8 hy hZ hown hw e8 Fa Fe a13_4 fun T9 X9 e9 => ?_
  refine own_cn X9 hy d13_12 (tlt (own_Plt ho hk49 hk34)).2.1 ?_
  refine own_tc X9 hy hZ hown hw e9 Ft Fa At ho hT (by decide) t13_15 fun T10 X10 e10 => ?_
  refine own_gt X10 hy d13_24 28 ?_
  refine own_is X10 hy d13_28 (l' := #[.val (.ref g), .val (.int (cc 34)), .unset]) rfl ?_
  refine own_kn X10 hy d13_29 d13_30 d13_32 rfl (feq (own_bne hb34 (by decide))).1 ?_
  refine own_ky X10 hy d13_35 d13_36 d13_38 rfl 60 (feq (own_bne hb34 (by decide))).2 ?_
  refine own_ky X10 hy d13_60 d13_61 d13_63 rfl 74 (feq (own_bne hb34 (by decide))).2 ?_
  refine own_kn X10 hy d13_74 d13_75 d13_77 rfl (feq (own_bne hb34 (by decide))).1 ?_
  refine own_il X10 hy d13_80 rfl ?_
  refine own_cs X10 hy hZ hown (own_y0 hw) (rmID hw (cc 34) (0 : Int32) Z0 (own_bdg hb34)) e10 d13_81 own_pd0 hml fun v11 T11 L11 X11 hQ11 => ?_
  obtain ⟨rfl, N11q, e11⟩ := hQ11
  have N11 := Fr.app N8 N11q
  clear N8 N8q X8 e8 X9 e9 X10 e10 N11q
  refine own_zy X11 hy d13_84 95 ((if0 _ _).trans (teq (by decide : ((0 : Int32) = (0 : Int32)))).1) ?_
  refine own_ky X11 hy d13_95 d13_96 d13_98 rfl 111 (feq (own_bne hb34 (by decide))).2 ?_
  refine own_ky X11 hy d13_111 d13_112 d13_114 rfl 127 (feq (own_bne hb34 (by decide))).2 ?_
  refine own_ky X11 hy d13_127 d13_128 d13_130 rfl 143 (feq (own_bne hb34 (by decide))).2 ?_
  refine own_ic X11 hy d13_143 ?_
  refine own_is X11 hy d13_144 (l' := #[.val (.ref g), .val (.int (cc 34)), .val (.int 0)]) rfl ?_
  refine own_il X11 hy d13_145 rfl ?_
  exact own_rF X11 hy hrt hlk d13_146 e11 ⟨N11, Kp0, Or.inr ⟨by omega, rfl, by rw [hm34]; exact ⟨Eg, Ft, Fe, Fm, Fo, Fd, Fp, Fa⟩, Ao⟩⟩
theorem d13_87 : decode C13 87 = .ok (.aload_n 0, 1) := by decide +kernel
theorem d13_88 : decode C13 88 = .ok (.invokevirtual 55, 3) := by decide +kernel
theorem d13_91 : decode C13 91 = .ok (.istore_n 2, 1) := by decide +kernel
theorem d13_92 : decode C13 92 = .ok (.goto 53, 3) := by decide +kernel
def QrmV15 (Z : State) (g ct ob : Addr) (kc : ClassId) (tx : List Value) (cc : Nat → Int32) (oN kk M : Nat) (tf : Bool) (md dd oo : Int32)  (h0 : Heap) (n0 : Nat) (v : Option Value) (h : Heap) (L : List Loc) : Prop := Fr n0 L ∧ Keep h0 h [g] ∧ ((23 ≤ M ∧ v = some (.int 1) ∧ own_G Z h g ct ob (own_P oN kk) md dd oo (own_P oN 23)) ∨ ((16 < M ∧ M < 23) ∧ v = some (.int 1) ∧ own_G Z h g ct ob (own_P oN kk) md dd oo (own_P oN M) ∧ (kk = M ∨ (M < kk ∧ own_bad M (cc M)))) ∨ (M < 23 ∧ v = some (.int 0) ∧ own_G Z h g ct ob (own_P oN kk) md dd oo (own_P oN M)))
theorem rmV15 (hw : own_HW Z a0) (Z0 : n0 ≤ h0.size) (Gq : own_G Z h0 g ct ob (own_P oN kk) md dd oo (own_P oN 15)) (g_g : n0 ≤ g) (At : Arv Z h0 ct kc .char (52 : Int32) tx (.int 0)) (hT : ∀ i, i < 49 → tx.getD (oN + i) (.int 0) = .int (cc i)) (H : own_H oN kk md M tf cc) (hM0 : 15 ≤ M) :
  own_MF l "dev/parlance/JsonGrammar" "value" "()Z" prog_6_method_3_code 3 (some .boolean) ⟨3, 0, 0, 37⟩ #[(.ref g)] Z h0 (QrmV15 Z g ct ob kc tx cc oN kk M tf md dd oo h0 n0) := by
 refine own_fst (plainFor_of_name own_pn13) (own_ef13 · g) fun p e s m below meth c s₁ hy hml hZ hown hnm hrt hlk X0 e0 => ?_
 have N0 := Fr.nil n0
 have Kp0 : Keep h0 h0 [g] := Keep.refl h0 _
 obtain ⟨⟨Eg, Ft, Fe, Fm, Fo, Fd, Fp, Fa⟩, ho, hk49, ne_ct_g⟩ := own_gi hw Gq At H
 refine own_al X0 hy d13_0 rfl rfl ?_
 rcases own_at H 15 (by decide) hM0 (by decide) with ⟨hm15, hk15, hg15⟩ | ⟨hm15, hk15⟩ | ⟨hm15, hk15, hb15⟩
 ·
  refine own_cp X0 hy hZ hown (own_y19 hw) (rmSk0 hw Z0 ⟨Eg, Ft, Fe, Fm, Fo, Fd, Fp, Fa⟩ g_g At hT H (by decide) (Or.inr ⟨hk15, own_lws (L := 45) hg15 (by decide)⟩)) e0 Eg d13_1 own_pd12 hml fun v1 T1 L1 X1 hQ1 => ?_
  obtain ⟨rfl, N1q, e1⟩ := hQ1
  have N1 := Fr.app N0 N1q
  refine own_ae X1 hy hZ hown hw e1 Fa Fe a13_4 fun T2 X2 e2 => ?_
  refine own_cn X2 hy d13_12 (tlt (own_Plt ho hk49 hk15)).2.1 ?_
  refine own_tc X2 hy hZ hown hw e2 Ft Fa At ho hT (by decide) t13_15 fun T3 X3 e3 => ?_
  refine own_gt X3 hy d13_24 28 ?_
  refine own_is X3 hy d13_28 (l' := #[.val (.ref g), .val (.int (cc 15)), .unset]) rfl ?_
  refine own_kn X3 hy d13_29 d13_30 d13_32 rfl (feq (by rw [show cc 15 = 45 from hg15]; decide)).1 ?_
  refine own_ky X3 hy d13_35 d13_36 d13_38 rfl 60 (feq (by rw [show cc 15 = 45 from hg15]; decide)).2 ?_
  refine own_ky X3 hy d13_60 d13_61 d13_63 rfl 74 (feq (by rw [show cc 15 = 45 from hg15]; decide)).2 ?_
  refine own_ky X3 hy d13_74 d13_75 d13_77 rfl 87 (teq (show cc 15 = 45 from hg15)).1 ?_
  refine own_al X3 hy d13_87 rfl rfl ?_
  refine own_cp X3 hy hZ hown (own_y21 hw) (rmNum hw Z0 ⟨Eg, Ft, Fe, Fm, Fo, Fd, Fp, Fa⟩ g_g At hT H hm15 hk15 hg15) e3 Eg d13_88 own_pd3 hml fun v4 T4 L4 X4 hQ4 => ?_
  obtain ⟨N4q, K4q, hD4⟩ := hQ4
  have N4 := Fr.app N1 N4q
  rcases hD4 with ⟨hm22, rfl, ⟨-, Ft4, Fe4, Fm4, Fo4, Fd4, Fp4, Fa4⟩⟩ | ⟨hMf, rfl, ⟨-, Ft4, Fe4, Fm4, Fo4, Fd4, Fp4, Fa4⟩, hSt⟩ | ⟨hMf, rfl, ⟨-, Ft4, Fe4, Fm4, Fo4, Fd4, Fp4, Fa4⟩⟩
  ·
   replace Eg := Eg.keep K4q
   replace At := At.keep K4q (ninS ne_ct_g nin0)
   have Z4 := Nat.le_trans Z0 K4q.1
   have Kp4 := Kp0.trans K4q (allS own_m0 (all0))
   clear N1 N1q X1 e1 X2 e2 X3 e3
   refine own_is X4 hy d13_91 (l' := #[.val (.ref g), .val (.int (cc 15)), .val (.int 1)]) rfl ?_
   refine own_gt X4 hy d13_92 145 ?_
   refine own_il X4 hy d13_145 rfl ?_
   exact own_rT X4 hy hrt hlk d13_146 rfl ⟨N4, Kp4, Or.inl ⟨hm22, rfl, ⟨Eg, Ft4, Fe4, Fm4, Fo4, Fd4, Fp4, Fa4⟩⟩⟩
  ·
   replace Eg := Eg.keep K4q
   replace At := At.keep K4q (ninS ne_ct_g nin0)
   have Z4 := Nat.le_trans Z0 K4q.1
   have Kp4 := Kp0.trans K4q (allS own_m0 (all0))
   clear N1 N1q X1 e1 X2 e2 X3 e3
   rcases hSt with hkM | ⟨hkM, hbM⟩
   ·
    refine own_is X4 hy d13_91 (l' := #[.val (.ref g), .val (.int (cc 15)), .val (.int 1)]) rfl ?_
    refine own_gt X4 hy d13_92 145 ?_
    refine own_il X4 hy d13_145 rfl ?_
    exact own_rT X4 hy hrt hlk d13_146 rfl ⟨N4, Kp4, Or.inr (Or.inl ⟨by omega, rfl, ⟨Eg, Ft4, Fe4, Fm4, Fo4, Fd4, Fp4, Fa4⟩, Or.inl hkM⟩)⟩
   ·
    refine own_is X4 hy d13_91 (l' := #[.val (.ref g), .val (.int (cc 15)), .val (.int 1)]) rfl ?_
    refine own_gt X4 hy d13_92 145 ?_
    refine own_il X4 hy d13_145 rfl ?_
    exact own_rT X4 hy hrt hlk d13_146 rfl ⟨N4, Kp4, Or.inr (Or.inl ⟨by omega, rfl, ⟨Eg, Ft4, Fe4, Fm4, Fo4, Fd4, Fp4, Fa4⟩, Or.inr ⟨hkM, hbM⟩⟩)⟩
  ·
   replace Eg := Eg.keep K4q
   replace At := At.keep K4q (ninS ne_ct_g nin0)
   have Z4 := Nat.le_trans Z0 K4q.1
   have Kp4 := Kp0.trans K4q (allS own_m0 (all0))
   clear N1 N1q X1 e1 X2 e2 X3 e3
   refine own_is X4 hy d13_91 (l' := #[.val (.ref g), .val (.int (cc 15)), .val (.int 0)]) rfl ?_
   refine own_gt X4 hy d13_92 145 ?_
   refine own_il X4 hy d13_145 rfl ?_
   exact own_rF X4 hy hrt hlk d13_146 rfl ⟨N4, Kp4, Or.inr (Or.inr ⟨by omega, rfl, ⟨Eg, Ft4, Fe4, Fm4, Fo4, Fd4, Fp4, Fa4⟩⟩)⟩
 ·
  refine own_cp X0 hy hZ hown (own_y19 hw) (rmSk0 hw Z0 ⟨Eg, Ft, Fe, Fm, Fo, Fd, Fp, Fa⟩ g_g At hT H (by decide) (Or.inl (Nat.le_of_eq hk15))) e0 Eg d13_1 own_pd12 hml fun v5 T5 L5 X5 hQ5 => ?_
  obtain ⟨rfl, N5q, e5⟩ := hQ5
  have N5 := Fr.app N0 N5q
  refine own_ae X5 hy hZ hown hw e5 Fa Fe a13_4 fun T6 X6 e6 => ?_
  refine own_cy X6 hy d13_12 27 (flt (own_Pge ho hk49 (Nat.le_of_eq hk15) (by decide))).2.1 ?_
  refine own_ic X6 hy d13_27 ?_
  refine own_is X6 hy d13_28 (l' := #[.val (.ref g), .val (.int 0), .unset]) rfl ?_
  refine own_kn X6 hy d13_29 d13_30 d13_32 rfl (feq (by decide : ¬ ((0 : Int32) = (123 : Int32)))).1 ?_
  refine own_ky X6 hy d13_35 d13_36 d13_38 rfl 60 (feq (by decide : ¬ ((0 : Int32) = (91 : Int32)))).2 ?_
  refine own_ky X6 hy d13_60 d13_61 d13_63 rfl 74 (feq (by decide : ¬ ((0 : Int32) = (34 : Int32)))).2 ?_
  refine own_kn X6 hy d13_74 d13_75 d13_77 rfl (feq (by decide : ¬ ((0 : Int32) = (45 : Int32)))).1 ?_
  refine own_il X6 hy d13_80 rfl ?_
  refine own_cs X6 hy hZ hown (own_y0 hw) (rmID hw (0 : Int32) (0 : Int32) Z0 (by decide)) e6 d13_81 own_pd0 hml fun v7 T7 L7 X7 hQ7 => ?_
  obtain ⟨rfl, N7q, e7⟩ := hQ7
  have N7 := Fr.app N5 N7q
  refine own_zy X7 hy d13_84 95 ((if0 _ _).trans (teq (by decide : ((0 : Int32) = (0 : Int32)))).1) ?_
  refine own_ky X7 hy d13_95 d13_96 d13_98 rfl 111 (feq (by decide : ¬ ((0 : Int32) = (116 : Int32)))).2 ?_
  refine own_ky X7 hy d13_111 d13_112 d13_114 rfl 127 (feq (by decide : ¬ ((0 : Int32) = (102 : Int32)))).2 ?_
  refine own_ky X7 hy d13_127 d13_128 d13_130 rfl 143 (feq (by decide : ¬ ((0 : Int32) = (110 : Int32)))).2 ?_
  refine own_ic X7 hy d13_143 ?_
  refine own_is X7 hy d13_144 (l' := #[.val (.ref g), .val (.int 0), .val (.int 0)]) rfl ?_
  refine own_il X7 hy d13_145 rfl ?_
  exact own_rF X7 hy hrt hlk d13_146 e7 ⟨N7, Kp0, Or.inr (Or.inr ⟨by omega, rfl, by rw [hm15]; exact ⟨Eg, Ft, Fe, Fm, Fo, Fd, Fp, Fa⟩⟩)⟩
 ·
  refine own_cp X0 hy hZ hown (own_y19 hw) (rmSk0 hw Z0 ⟨Eg, Ft, Fe, Fm, Fo, Fd, Fp, Fa⟩ g_g At hT H (by decide) (Or.inr ⟨hk15, own_bws hb15⟩)) e0 Eg d13_1 own_pd12 hml fun v8 T8 L8 X8 hQ8 => ?_
  obtain ⟨rfl, N8q, e8⟩ := hQ8
  have N8 := Fr.app N0 N8q
  refine own_ae X8 hy hZ hown hw e8 Fa Fe a13_4 fun T9 X9 e9 => ?_
  refine own_cn X9 hy d13_12 (tlt (own_Plt ho hk49 hk15)).2.1 ?_
  refine own_tc X9 hy hZ hown hw e9 Ft Fa At ho hT (by decide) t13_15 fun T10 X10 e10 => ?_
  refine own_gt X10 hy d13_24 28 ?_
  refine own_is X10 hy d13_28 (l' := #[.val (.ref g), .val (.int (cc 15)), .unset]) rfl ?_
  refine own_kn X10 hy d13_29 d13_30 d13_32 rfl (feq (own_bne hb15 (by decide))).1 ?_
  refine own_ky X10 hy d13_35 d13_36 d13_38 rfl 60 (feq (own_bne hb15 (by decide))).2 ?_
  refine own_ky X10 hy d13_60 d13_61 d13_63 rfl 74 (feq (own_bne hb15 (by decide))).2 ?_
  refine own_kn X10 hy d13_74 d13_75 d13_77 rfl (feq (own_bne hb15 (by decide))).1 ?_
  refine own_il X10 hy d13_80 rfl ?_
  refine own_cs X10 hy hZ hown (own_y0 hw) (rmID hw (cc 15) (0 : Int32) Z0 (own_bdg hb15)) e10 d13_81 own_pd0 hml fun v11 T11 L11 X11 hQ11 => ?_
  obtain ⟨rfl, N11q, e11⟩ := hQ11
  have N11 := Fr.app N8 N11q
  clear N8 N8q X8 e8 X9 e9 X10 e10 N11q
  refine own_zy X11 hy d13_84 95 ((if0 _ _).trans (teq (by decide : ((0 : Int32) = (0 : Int32)))).1) ?_
  refine own_ky X11 hy d13_95 d13_96 d13_98 rfl 111 (feq (own_bne hb15 (by decide))).2 ?_
  refine own_ky X11 hy d13_111 d13_112 d13_114 rfl 127 (feq (own_bne hb15 (by decide))).2 ?_
  refine own_ky X11 hy d13_127 d13_128 d13_130 rfl 143 (feq (own_bne hb15 (by decide))).2 ?_
  refine own_ic X11 hy d13_143 ?_
  refine own_is X11 hy d13_144 (l' := #[.val (.ref g), .val (.int (cc 15)), .val (.int 0)]) rfl ?_
  refine own_il X11 hy d13_145 rfl ?_
  exact own_rF X11 hy hrt hlk d13_146 e11 ⟨N11, Kp0, Or.inr (Or.inr ⟨by omega, rfl, by rw [hm15]; exact ⟨Eg, Ft, Fe, Fm, Fo, Fd, Fp, Fa⟩⟩)⟩
theorem d13_101 : decode C13 101 = .ok (.aload_n 0, 1) := by decide +kernel
theorem d13_102 : decode C13 102 = .ok (.ldc 58, 2) := by decide +kernel
theorem d13_104 : decode C13 104 = .ok (.invokevirtual 60, 3) := by decide +kernel
theorem d13_107 : decode C13 107 = .ok (.istore_n 2, 1) := by decide +kernel
theorem d13_108 : decode C13 108 = .ok (.goto 37, 3) := by decide +kernel
theorem d13_133 : decode C13 133 = .ok (.aload_n 0, 1) := by decide +kernel
theorem d13_134 : decode C13 134 = .ok (.ldc 66, 2) := by decide +kernel
theorem d13_136 : decode C13 136 = .ok (.invokevirtual 60, 3) := by decide +kernel
theorem d13_139 : decode C13 139 = .ok (.istore_n 2, 1) := by decide +kernel
theorem d13_140 : decode C13 140 = .ok (.goto 5, 3) := by decide +kernel
def QrmV24 (Z : State) (g : Addr) (ct : Addr) (ob : Addr) (kc : ClassId) (tx : List Value) (cc : Nat → Int32) (oN : Nat) (kk : Nat) (M : Nat) (tf : Bool) (md : Int32) (dd : Int32) (oo : Int32) (h0 : Heap) (n0 : Nat) (v : Option Value) (h : Heap) (L : List Loc) : Prop := Fr n0 L ∧ Keep h0 h [g] ∧ ((28 ≤ M ∧ v = some (.int 1) ∧ own_G Z h g ct ob (own_P oN kk) md dd oo (own_P oN 28)) ∨ (M < 28 ∧ v = some (.int 0) ∧ own_G Z h g ct ob (own_P oN kk) md dd oo (own_P oN M)))
theorem rmV24 (hw : own_HW Z a0) (Z0 : n0 ≤ h0.size) (Gq : own_G Z h0 g ct ob (own_P oN kk) md dd oo (own_P oN 24)) (g_g : n0 ≤ g) (At : Arv Z h0 ct kc .char (52 : Int32) tx (.int 0)) (hT : ∀ i, i < 49 → tx.getD (oN + i) (.int 0) = .int (cc i)) (H : own_H oN kk md M tf cc) (hM0 : 24 ≤ M) (hcs : ¬ (cs = (0 : Int32))) (S_cs : Sta Z h0 "java/lang/String" "COMPACT_STRINGS" "Z" (.int cs)) (S_fm : Sta Z h0 "jdk/internal/util/Preconditions" "SIOOBE_FORMATTER" "Ljava/util/function/BiFunction;" fm) (rfm : fm.isRef = true) :
  own_MC l "dev/parlance/JsonGrammar" "value" "()Z" prog_6_method_3_code 3 (some .boolean) ⟨5, 2, 20, 68⟩ #[(.ref g)] Z h0 (QrmV24 Z g ct ob kc tx cc oN kk M tf md dd oo h0 n0) := by
 refine own_fsC (plainFor_of_name own_pn13) (own_ef13 · g) fun p e s m below meth c s₁ hy hml hZ hown hnm hrt hlk X0 e0 hS hk hIn => ?_
 have N0 := Fr.nil n0
 have Kp0 : Keep h0 h0 [g] := Keep.refl h0 _
 obtain ⟨⟨Eg, Ft, Fe, Fm, Fo, Fd, Fp, Fa⟩, ho, hk49, ne_ct_g⟩ := own_gi hw Gq At H
 rcases Bool.eq_false_or_eq_true tf with htf | htf
 ·
  refine own_al X0 hy d13_0 rfl rfl ?_
  rcases own_at H 24 (by decide) hM0 (by decide) with ⟨hm24, hk24, hg24⟩ | ⟨hm24, hk24⟩ | ⟨hm24, hk24, hb24⟩
  ·
   refine own_cp X0 hy hZ hown (own_y19 hw) (rmSk0 hw Z0 ⟨Eg, Ft, Fe, Fm, Fo, Fd, Fp, Fa⟩ g_g At hT H (by decide) (Or.inr ⟨hk24, own_lws (L := 116) (by rw [show cc 24 = cond tf 116 110 from hg24, htf]; rfl) (by decide)⟩)) e0 Eg d13_1 own_pd12 hml fun v1 T1 L1 X1 hQ1 => ?_
   obtain ⟨rfl, N1q, e1⟩ := hQ1
   have N1 := Fr.app N0 N1q
   refine own_ae X1 hy hZ hown hw e1 Fa Fe a13_4 fun T2 X2 e2 => ?_
   refine own_cn X2 hy d13_12 (tlt (own_Plt ho hk49 hk24)).2.1 ?_
   refine own_tc X2 hy hZ hown hw e2 Ft Fa At ho hT (by decide) t13_15 fun T3 X3 e3 => ?_
   refine own_gt X3 hy d13_24 28 ?_
   refine own_is X3 hy d13_28 (l' := #[.val (.ref g), .val (.int (cc 24)), .unset]) rfl ?_
   refine own_kn X3 hy d13_29 d13_30 d13_32 rfl (feq (by rw [show cc 24 = cond tf 116 110 from hg24, htf]; decide)).1 ?_
   refine own_ky X3 hy d13_35 d13_36 d13_38 rfl 60 (feq (by rw [show cc 24 = cond tf 116 110 from hg24, htf]; decide)).2 ?_
   refine own_ky X3 hy d13_60 d13_61 d13_63 rfl 74 (feq (by rw [show cc 24 = cond tf 116 110 from hg24, htf]; decide)).2 ?_
   refine own_kn X3 hy d13_74 d13_75 d13_77 rfl (feq (by rw [show cc 24 = cond tf 116 110 from hg24, htf]; decide)).1 ?_
   refine own_il X3 hy d13_80 rfl ?_
   refine own_cs X3 hy hZ hown (own_y0 hw) (rmID hw (cc 24) (0 : Int32) Z0 (own_ldg (L := 116) (by rw [show cc 24 = cond tf 116 110 from hg24, htf]; rfl) (by decide))) e3 d13_81 own_pd0 hml fun v4 T4 L4 X4 hQ4 => ?_
   obtain ⟨rfl, N4q, e4⟩ := hQ4
   have N4 := Fr.app N1 N4q
   clear N1 N1q X1 e1 X2 e2 X3 e3 N4q
   refine own_zy X4 hy d13_84 95 ((if0 _ _).trans (teq (by decide : ((0 : Int32) = (0 : Int32)))).1) ?_
   refine own_kn X4 hy d13_95 d13_96 d13_98 rfl (teq (by rw [show cc 24 = cond tf 116 110 from hg24, htf]; rfl)).2 ?_
   refine own_al X4 hy d13_101 rfl rfl ?_
   obtain ⟨b5, T5, h5, ks5, t5, kc5, X5, e5, E5, hS, hkq, hZ, hown, Ex_b5, Fc_b5, Fv_b5, Av_t5, -, -, hCr5, -, -, st5⟩ := ldcCH (EL := consts_1) X4 hy.1 hZ hown (own_w hw 155 rfl) (own_wS hw) e4 hS hk (own_EW hw) (List.mem_of_getElem? (i := 0) rfl) hIn (vs := [(.int 116), (.int 114), (.int 117), (.int 101)]) (z := (4 : Int32)) ⟨by decide +kernel, by decide +kernel⟩ (by decide) (by decide +kernel) (g := (mkF m 102 #[.val (.ref g), .val (.int (cc 24)), .unset] [(.ref g)])) rfl (hb hy.2 d13_102) (n := 16) (by decide +kernel) (by decide) (by decide) (by decide)
   replace S_cs := S_cs.ext E5
   replace S_fm := S_fm.ext E5
   replace Eg := Eg.ext E5
   replace Ft := Ft.ext E5
   replace Fe := Fe.ext E5
   replace Fm := Fm.ext E5
   replace Fo := Fo.ext E5
   replace Fd := Fd.ext E5
   replace Fp := Fp.ext E5
   replace Fa := Fa.ext E5
   replace At := At.ext E5
   have Z5 := Nat.le_trans Z0 E5.1
   have Kp5 := Kp0.ext E5
   replace hk := Nat.le_trans hk E5.1
   replace hk := hkq
   have hIn : own_In Z T5.vm h5 := hCr5.1
   refine own_go (A := T5.setTop (mkF m 104 #[.val (.ref g), .val (.int (cc 24)), .unset] [(.ref b5), (.ref g)])) (fun _ kz => st5 _ kz) ?_
   have nxg : b5 ≠ g := Exa.ne Ex_b5 Eg (by decide)
   have ntg : t5 ≠ g := Ne.symm (own_neA Eg (own_w hw 54 rfl) Av_t5)
   refine own_cpg X5 hy hZ hown (own_y22 hw) (rmLit_4 hw (116 : Int32) (114 : Int32) (117 : Int32) (101 : Int32) Z5 ⟨Eg, Ft, Fe, Fm, Fo, Fd, Fp, Fa⟩ g_g At hT H hM0 Ex_b5 Fv_b5 Fc_b5 Av_t5 hcs S_cs S_fm rfm nxg ntg ⟨fun q => by have q2 : cc 24 = cond tf 116 110 := q; rw [htf] at q2; exact q2, by decide, by decide, by decide⟩ ⟨fun q => by have q2 : cc 25 = cond tf 114 117 := q; rw [htf] at q2; exact q2, by decide, by decide, by decide⟩ ⟨fun q => by have q2 : cc 26 = cond tf 117 108 := q; rw [htf] at q2; exact q2, by decide, by decide, by decide⟩ ⟨fun q => by have q2 : cc 27 = cond tf 101 108 := q; rw [htf] at q2; exact q2, by decide, by decide, by decide⟩) e5 Eg (S := []) rfl d13_104 own_pd14 hml fun v6 T6 L6 X6 hQ6 => ?_
   obtain ⟨N6q, K6q, hD6⟩ := hQ6
   have N6 := Fr.app N4 N6q
   rcases hD6 with ⟨hm27, rfl, ⟨-, Ft6, Fe6, Fm6, Fo6, Fd6, Fp6, Fa6⟩⟩ | ⟨hMf, rfl, ⟨-, Ft6, Fe6, Fm6, Fo6, Fd6, Fp6, Fa6⟩⟩
   ·
    replace hIn := own_In.keep hIn K6q (allS (own_sf hZ Eg) all0)
    replace S_cs := own_staKeep S_cs K6q (allS (own_ns Eg) all0)
    replace S_fm := own_staKeep S_fm K6q (allS (own_ns Eg) all0)
    replace Eg := Eg.keep K6q
    replace At := At.keep K6q (ninS ne_ct_g nin0)
    have Z6 := Nat.le_trans Z5 K6q.1
    have Kp6 := Kp5.trans K6q (allS own_m0 (all0))
    replace hk := Nat.le_trans hk K6q.1
    refine own_is X6 hy d13_107 (l' := #[.val (.ref g), .val (.int (cc 24)), .val (.int 1)]) rfl ?_
    refine own_gt X6 hy d13_108 145 ?_
    refine own_il X6 hy d13_145 rfl ?_
    exact own_rTC X6 hy hS hk hrt hlk d13_146 hZ hw hIn rfl ⟨N6, Kp6, Or.inl ⟨hm27, rfl, ⟨Eg, Ft6, Fe6, Fm6, Fo6, Fd6, Fp6, Fa6⟩⟩⟩
   ·
    replace hIn := own_In.keep hIn K6q (allS (own_sf hZ Eg) all0)
    replace S_cs := own_staKeep S_cs K6q (allS (own_ns Eg) all0)
    replace S_fm := own_staKeep S_fm K6q (allS (own_ns Eg) all0)
    replace Eg := Eg.keep K6q
    replace At := At.keep K6q (ninS ne_ct_g nin0)
    have Z6 := Nat.le_trans Z5 K6q.1
    have Kp6 := Kp5.trans K6q (allS own_m0 (all0))
    replace hk := Nat.le_trans hk K6q.1
    refine own_is X6 hy d13_107 (l' := #[.val (.ref g), .val (.int (cc 24)), .val (.int 0)]) rfl ?_
    refine own_gt X6 hy d13_108 145 ?_
    refine own_il X6 hy d13_145 rfl ?_
    exact own_rFC X6 hy hS hk hrt hlk d13_146 hZ hw hIn rfl ⟨N6, Kp6, Or.inr ⟨by omega, rfl, ⟨Eg, Ft6, Fe6, Fm6, Fo6, Fd6, Fp6, Fa6⟩⟩⟩
  ·
   refine own_cp X0 hy hZ hown (own_y19 hw) (rmSk0 hw Z0 ⟨Eg, Ft, Fe, Fm, Fo, Fd, Fp, Fa⟩ g_g At hT H (by decide) (Or.inl (Nat.le_of_eq hk24))) e0 Eg d13_1 own_pd12 hml fun v7 T7 L7 X7 hQ7 => ?_
   obtain ⟨rfl, N7q, e7⟩ := hQ7
   have N7 := Fr.app N0 N7q
   refine own_ae X7 hy hZ hown hw e7 Fa Fe a13_4 fun T8 X8 e8 => ?_
   refine own_cy X8 hy d13_12 27 (flt (own_Pge ho hk49 (Nat.le_of_eq hk24) (by decide))).2.1 ?_
   refine own_ic X8 hy d13_27 ?_
   refine own_is X8 hy d13_28 (l' := #[.val (.ref g), .val (.int 0), .unset]) rfl ?_
   refine own_kn X8 hy d13_29 d13_30 d13_32 rfl (feq (by decide : ¬ ((0 : Int32) = (123 : Int32)))).1 ?_
   refine own_ky X8 hy d13_35 d13_36 d13_38 rfl 60 (feq (by decide : ¬ ((0 : Int32) = (91 : Int32)))).2 ?_
   refine own_ky X8 hy d13_60 d13_61 d13_63 rfl 74 (feq (by decide : ¬ ((0 : Int32) = (34 : Int32)))).2 ?_
   refine own_kn X8 hy d13_74 d13_75 d13_77 rfl (feq (by decide : ¬ ((0 : Int32) = (45 : Int32)))).1 ?_
   refine own_il X8 hy d13_80 rfl ?_
   refine own_cs X8 hy hZ hown (own_y0 hw) (rmID hw (0 : Int32) (0 : Int32) Z0 (by decide)) e8 d13_81 own_pd0 hml fun v9 T9 L9 X9 hQ9 => ?_
   obtain ⟨rfl, N9q, e9⟩ := hQ9
   have N9 := Fr.app N7 N9q
   refine own_zy X9 hy d13_84 95 ((if0 _ _).trans (teq (by decide : ((0 : Int32) = (0 : Int32)))).1) ?_
   refine own_ky X9 hy d13_95 d13_96 d13_98 rfl 111 (feq (by decide : ¬ ((0 : Int32) = (116 : Int32)))).2 ?_
   refine own_ky X9 hy d13_111 d13_112 d13_114 rfl 127 (feq (by decide : ¬ ((0 : Int32) = (102 : Int32)))).2 ?_
   refine own_ky X9 hy d13_127 d13_128 d13_130 rfl 143 (feq (by decide : ¬ ((0 : Int32) = (110 : Int32)))).2 ?_
   refine own_ic X9 hy d13_143 ?_
   refine own_is X9 hy d13_144 (l' := #[.val (.ref g), .val (.int 0), .val (.int 0)]) rfl ?_
   refine own_il X9 hy d13_145 rfl ?_
   exact own_rFC X9 hy hS hk hrt hlk d13_146 hZ hw hIn e9 ⟨N9, Kp0, Or.inr ⟨by omega, rfl, by rw [hm24]; exact ⟨Eg, Ft, Fe, Fm, Fo, Fd, Fp, Fa⟩⟩⟩
  ·
   refine own_cp X0 hy hZ hown (own_y19 hw) (rmSk0 hw Z0 ⟨Eg, Ft, Fe, Fm, Fo, Fd, Fp, Fa⟩ g_g At hT H (by decide) (Or.inr ⟨hk24, own_bws hb24⟩)) e0 Eg d13_1 own_pd12 hml fun v10 T10 L10 X10 hQ10 => ?_
   obtain ⟨rfl, N10q, e10⟩ := hQ10
   have N10 := Fr.app N0 N10q
   refine own_ae X10 hy hZ hown hw e10 Fa Fe a13_4 fun T11 X11 e11 => ?_
   refine own_cn X11 hy d13_12 (tlt (own_Plt ho hk49 hk24)).2.1 ?_
   refine own_tc X11 hy hZ hown hw e11 Ft Fa At ho hT (by decide) t13_15 fun T12 X12 e12 => ?_
   refine own_gt X12 hy d13_24 28 ?_
   refine own_is X12 hy d13_28 (l' := #[.val (.ref g), .val (.int (cc 24)), .unset]) rfl ?_
   refine own_kn X12 hy d13_29 d13_30 d13_32 rfl (feq (own_bne hb24 (by decide))).1 ?_
   refine own_ky X12 hy d13_35 d13_36 d13_38 rfl 60 (feq (own_bne hb24 (by decide))).2 ?_
   refine own_ky X12 hy d13_60 d13_61 d13_63 rfl 74 (feq (own_bne hb24 (by decide))).2 ?_
   refine own_kn X12 hy d13_74 d13_75 d13_77 rfl (feq (own_bne hb24 (by decide))).1 ?_
   refine own_il X12 hy d13_80 rfl ?_
   refine own_cs X12 hy hZ hown (own_y0 hw) (rmID hw (cc 24) (0 : Int32) Z0 (own_bdg hb24)) e12 d13_81 own_pd0 hml fun v13 T13 L13 X13 hQ13 => ?_
   obtain ⟨rfl, N13q, e13⟩ := hQ13
   have N13 := Fr.app N10 N13q
   clear N10 N10q X10 e10 X11 e11 X12 e12 N13q
   refine own_zy X13 hy d13_84 95 ((if0 _ _).trans (teq (by decide : ((0 : Int32) = (0 : Int32)))).1) ?_
   refine own_ky X13 hy d13_95 d13_96 d13_98 rfl 111 (feq (own_bne hb24 (by decide))).2 ?_
   refine own_ky X13 hy d13_111 d13_112 d13_114 rfl 127 (feq (own_bne hb24 (by decide))).2 ?_
   refine own_ky X13 hy d13_127 d13_128 d13_130 rfl 143 (feq (own_bne hb24 (by decide))).2 ?_
   refine own_ic X13 hy d13_143 ?_
   refine own_is X13 hy d13_144 (l' := #[.val (.ref g), .val (.int (cc 24)), .val (.int 0)]) rfl ?_
   refine own_il X13 hy d13_145 rfl ?_
   exact own_rFC X13 hy hS hk hrt hlk d13_146 hZ hw hIn e13 ⟨N13, Kp0, Or.inr ⟨by omega, rfl, by rw [hm24]; exact ⟨Eg, Ft, Fe, Fm, Fo, Fd, Fp, Fa⟩⟩⟩
 ·
  refine own_al X0 hy d13_0 rfl rfl ?_
  rcases own_at H 24 (by decide) hM0 (by decide) with ⟨hm24, hk24, hg24⟩ | ⟨hm24, hk24⟩ | ⟨hm24, hk24, hb24⟩
  ·
   refine own_cp X0 hy hZ hown (own_y19 hw) (rmSk0 hw Z0 ⟨Eg, Ft, Fe, Fm, Fo, Fd, Fp, Fa⟩ g_g At hT H (by decide) (Or.inr ⟨hk24, own_lws (L := 110) (by rw [show cc 24 = cond tf 116 110 from hg24, htf]; rfl) (by decide)⟩)) e0 Eg d13_1 own_pd12 hml fun v14 T14 L14 X14 hQ14 => ?_
   obtain ⟨rfl, N14q, e14⟩ := hQ14
   have N14 := Fr.app N0 N14q
   refine own_ae X14 hy hZ hown hw e14 Fa Fe a13_4 fun T15 X15 e15 => ?_
   refine own_cn X15 hy d13_12 (tlt (own_Plt ho hk49 hk24)).2.1 ?_
   refine own_tc X15 hy hZ hown hw e15 Ft Fa At ho hT (by decide) t13_15 fun T16 X16 e16 => ?_
   refine own_gt X16 hy d13_24 28 ?_
   refine own_is X16 hy d13_28 (l' := #[.val (.ref g), .val (.int (cc 24)), .unset]) rfl ?_
   refine own_kn X16 hy d13_29 d13_30 d13_32 rfl (feq (by rw [show cc 24 = cond tf 116 110 from hg24, htf]; decide)).1 ?_
   refine own_ky X16 hy d13_35 d13_36 d13_38 rfl 60 (feq (by rw [show cc 24 = cond tf 116 110 from hg24, htf]; decide)).2 ?_
   refine own_ky X16 hy d13_60 d13_61 d13_63 rfl 74 (feq (by rw [show cc 24 = cond tf 116 110 from hg24, htf]; decide)).2 ?_
   refine own_kn X16 hy d13_74 d13_75 d13_77 rfl (feq (by rw [show cc 24 = cond tf 116 110 from hg24, htf]; decide)).1 ?_
   refine own_il X16 hy d13_80 rfl ?_
   refine own_cs X16 hy hZ hown (own_y0 hw) (rmID hw (cc 24) (0 : Int32) Z0 (own_ldg (L := 110) (by rw [show cc 24 = cond tf 116 110 from hg24, htf]; rfl) (by decide))) e16 d13_81 own_pd0 hml fun v17 T17 L17 X17 hQ17 => ?_
   obtain ⟨rfl, N17q, e17⟩ := hQ17
   have N17 := Fr.app N14 N17q
   clear N14 N14q X14 e14 X15 e15 X16 e16 N17q
   refine own_zy X17 hy d13_84 95 ((if0 _ _).trans (teq (by decide : ((0 : Int32) = (0 : Int32)))).1) ?_
   refine own_ky X17 hy d13_95 d13_96 d13_98 rfl 111 (feq (by rw [show cc 24 = cond tf 116 110 from hg24, htf]; decide)).2 ?_
   refine own_ky X17 hy d13_111 d13_112 d13_114 rfl 127 (feq (by rw [show cc 24 = cond tf 116 110 from hg24, htf]; decide)).2 ?_
   refine own_kn X17 hy d13_127 d13_128 d13_130 rfl (teq (by rw [show cc 24 = cond tf 116 110 from hg24, htf]; rfl)).2 ?_
   refine own_al X17 hy d13_133 rfl rfl ?_
   obtain ⟨b18, T18, h18, ks18, t18, kc18, X18, e18, E18, hS, hkq, hZ, hown, Ex_b18, Fc_b18, Fv_b18, Av_t18, -, -, hCr18, -, -, st18⟩ := ldcCH (EL := consts_1) X17 hy.1 hZ hown (own_w hw 163 rfl) (own_wS hw) e17 hS hk (own_EW hw) (List.mem_of_getElem? (i := 2) rfl) hIn (vs := [(.int 110), (.int 117), (.int 108), (.int 108)]) (z := (4 : Int32)) ⟨by decide +kernel, by decide +kernel⟩ (by decide) (by decide +kernel) (g := (mkF m 134 #[.val (.ref g), .val (.int (cc 24)), .unset] [(.ref g)])) rfl (hb hy.2 d13_134) (n := 16) (by decide +kernel) (by decide) (by decide) (by decide)
   replace S_cs := S_cs.ext E18
   replace S_fm := S_fm.ext E18
   replace Eg := Eg.ext E18
   replace Ft := Ft.ext E18
   replace Fe := Fe.ext E18
   replace Fm := Fm.ext E18
   replace Fo := Fo.ext E18
   replace Fd := Fd.ext E18
   replace Fp := Fp.ext E18
   replace Fa := Fa.ext E18
   replace At := At.ext E18
   have Z18 := Nat.le_trans Z0 E18.1
   have Kp18 := Kp0.ext E18
   replace hk := Nat.le_trans hk E18.1
   replace hk := hkq
   have hIn : own_In Z T18.vm h18 := hCr18.1
   refine own_go (A := T18.setTop (mkF m 136 #[.val (.ref g), .val (.int (cc 24)), .unset] [(.ref b18), (.ref g)])) (fun _ kz => st18 _ kz) ?_
   have nxg : b18 ≠ g := Exa.ne Ex_b18 Eg (by decide)
   have ntg : t18 ≠ g := Ne.symm (own_neA Eg (own_w hw 54 rfl) Av_t18)
   refine own_cpg X18 hy hZ hown (own_y22 hw) (rmLit_4 hw (110 : Int32) (117 : Int32) (108 : Int32) (108 : Int32) Z18 ⟨Eg, Ft, Fe, Fm, Fo, Fd, Fp, Fa⟩ g_g At hT H hM0 Ex_b18 Fv_b18 Fc_b18 Av_t18 hcs S_cs S_fm rfm nxg ntg ⟨fun q => by have q2 : cc 24 = cond tf 116 110 := q; rw [htf] at q2; exact q2, by decide, by decide, by decide⟩ ⟨fun q => by have q2 : cc 25 = cond tf 114 117 := q; rw [htf] at q2; exact q2, by decide, by decide, by decide⟩ ⟨fun q => by have q2 : cc 26 = cond tf 117 108 := q; rw [htf] at q2; exact q2, by decide, by decide, by decide⟩ ⟨fun q => by have q2 : cc 27 = cond tf 101 108 := q; rw [htf] at q2; exact q2, by decide, by decide, by decide⟩) e18 Eg (S := []) rfl d13_136 own_pd14 hml fun v19 T19 L19 X19 hQ19 => ?_
   obtain ⟨N19q, K19q, hD19⟩ := hQ19
   have N19 := Fr.app N17 N19q
   rcases hD19 with ⟨hm27, rfl, ⟨-, Ft19, Fe19, Fm19, Fo19, Fd19, Fp19, Fa19⟩⟩ | ⟨hMf, rfl, ⟨-, Ft19, Fe19, Fm19, Fo19, Fd19, Fp19, Fa19⟩⟩
   ·
    replace hIn := own_In.keep hIn K19q (allS (own_sf hZ Eg) all0)
    replace S_cs := own_staKeep S_cs K19q (allS (own_ns Eg) all0)
    replace S_fm := own_staKeep S_fm K19q (allS (own_ns Eg) all0)
    replace Eg := Eg.keep K19q
    replace At := At.keep K19q (ninS ne_ct_g nin0)
    have Z19 := Nat.le_trans Z18 K19q.1
    have Kp19 := Kp18.trans K19q (allS own_m0 (all0))
    replace hk := Nat.le_trans hk K19q.1
    refine own_is X19 hy d13_139 (l' := #[.val (.ref g), .val (.int (cc 24)), .val (.int 1)]) rfl ?_
    refine own_gt X19 hy d13_140 145 ?_
    refine own_il X19 hy d13_145 rfl ?_
    exact own_rTC X19 hy hS hk hrt hlk d13_146 hZ hw hIn rfl ⟨N19, Kp19, Or.inl ⟨hm27, rfl, ⟨Eg, Ft19, Fe19, Fm19, Fo19, Fd19, Fp19, Fa19⟩⟩⟩
   ·
    replace hIn := own_In.keep hIn K19q (allS (own_sf hZ Eg) all0)
    replace S_cs := own_staKeep S_cs K19q (allS (own_ns Eg) all0)
    replace S_fm := own_staKeep S_fm K19q (allS (own_ns Eg) all0)
    replace Eg := Eg.keep K19q
    replace At := At.keep K19q (ninS ne_ct_g nin0)
    have Z19 := Nat.le_trans Z18 K19q.1
    have Kp19 := Kp18.trans K19q (allS own_m0 (all0))
    replace hk := Nat.le_trans hk K19q.1
    refine own_is X19 hy d13_139 (l' := #[.val (.ref g), .val (.int (cc 24)), .val (.int 0)]) rfl ?_
    refine own_gt X19 hy d13_140 145 ?_
    refine own_il X19 hy d13_145 rfl ?_
    exact own_rFC X19 hy hS hk hrt hlk d13_146 hZ hw hIn rfl ⟨N19, Kp19, Or.inr ⟨by omega, rfl, ⟨Eg, Ft19, Fe19, Fm19, Fo19, Fd19, Fp19, Fa19⟩⟩⟩
  ·
   refine own_cp X0 hy hZ hown (own_y19 hw) (rmSk0 hw Z0 ⟨Eg, Ft, Fe, Fm, Fo, Fd, Fp, Fa⟩ g_g At hT H (by decide) (Or.inl (Nat.le_of_eq hk24))) e0 Eg d13_1 own_pd12 hml fun v20 T20 L20 X20 hQ20 => ?_
   obtain ⟨rfl, N20q, e20⟩ := hQ20
   have N20 := Fr.app N0 N20q
   refine own_ae X20 hy hZ hown hw e20 Fa Fe a13_4 fun T21 X21 e21 => ?_
   refine own_cy X21 hy d13_12 27 (flt (own_Pge ho hk49 (Nat.le_of_eq hk24) (by decide))).2.1 ?_
   refine own_ic X21 hy d13_27 ?_
   refine own_is X21 hy d13_28 (l' := #[.val (.ref g), .val (.int 0), .unset]) rfl ?_
   refine own_kn X21 hy d13_29 d13_30 d13_32 rfl (feq (by decide : ¬ ((0 : Int32) = (123 : Int32)))).1 ?_
   refine own_ky X21 hy d13_35 d13_36 d13_38 rfl 60 (feq (by decide : ¬ ((0 : Int32) = (91 : Int32)))).2 ?_
   refine own_ky X21 hy d13_60 d13_61 d13_63 rfl 74 (feq (by decide : ¬ ((0 : Int32) = (34 : Int32)))).2 ?_
   refine own_kn X21 hy d13_74 d13_75 d13_77 rfl (feq (by decide : ¬ ((0 : Int32) = (45 : Int32)))).1 ?_
   refine own_il X21 hy d13_80 rfl ?_
   refine own_cs X21 hy hZ hown (own_y0 hw) (rmID hw (0 : Int32) (0 : Int32) Z0 (by decide)) e21 d13_81 own_pd0 hml fun v22 T22 L22 X22 hQ22 => ?_
   obtain ⟨rfl, N22q, e22⟩ := hQ22
   have N22 := Fr.app N20 N22q
   refine own_zy X22 hy d13_84 95 ((if0 _ _).trans (teq (by decide : ((0 : Int32) = (0 : Int32)))).1) ?_
   refine own_ky X22 hy d13_95 d13_96 d13_98 rfl 111 (feq (by decide : ¬ ((0 : Int32) = (116 : Int32)))).2 ?_
   refine own_ky X22 hy d13_111 d13_112 d13_114 rfl 127 (feq (by decide : ¬ ((0 : Int32) = (102 : Int32)))).2 ?_
   refine own_ky X22 hy d13_127 d13_128 d13_130 rfl 143 (feq (by decide : ¬ ((0 : Int32) = (110 : Int32)))).2 ?_
   refine own_ic X22 hy d13_143 ?_
   refine own_is X22 hy d13_144 (l' := #[.val (.ref g), .val (.int 0), .val (.int 0)]) rfl ?_
   refine own_il X22 hy d13_145 rfl ?_
   exact own_rFC X22 hy hS hk hrt hlk d13_146 hZ hw hIn e22 ⟨N22, Kp0, Or.inr ⟨by omega, rfl, by rw [hm24]; exact ⟨Eg, Ft, Fe, Fm, Fo, Fd, Fp, Fa⟩⟩⟩
  ·
   refine own_cp X0 hy hZ hown (own_y19 hw) (rmSk0 hw Z0 ⟨Eg, Ft, Fe, Fm, Fo, Fd, Fp, Fa⟩ g_g At hT H (by decide) (Or.inr ⟨hk24, own_bws hb24⟩)) e0 Eg d13_1 own_pd12 hml fun v23 T23 L23 X23 hQ23 => ?_
   obtain ⟨rfl, N23q, e23⟩ := hQ23
   have N23 := Fr.app N0 N23q
   refine own_ae X23 hy hZ hown hw e23 Fa Fe a13_4 fun T24 X24 e24 => ?_
   refine own_cn X24 hy d13_12 (tlt (own_Plt ho hk49 hk24)).2.1 ?_
   refine own_tc X24 hy hZ hown hw e24 Ft Fa At ho hT (by decide) t13_15 fun T25 X25 e25 => ?_
   refine own_gt X25 hy d13_24 28 ?_
   refine own_is X25 hy d13_28 (l' := #[.val (.ref g), .val (.int (cc 24)), .unset]) rfl ?_
   refine own_kn X25 hy d13_29 d13_30 d13_32 rfl (feq (own_bne hb24 (by decide))).1 ?_
   refine own_ky X25 hy d13_35 d13_36 d13_38 rfl 60 (feq (own_bne hb24 (by decide))).2 ?_
   refine own_ky X25 hy d13_60 d13_61 d13_63 rfl 74 (feq (own_bne hb24 (by decide))).2 ?_
   refine own_kn X25 hy d13_74 d13_75 d13_77 rfl (feq (own_bne hb24 (by decide))).1 ?_
   refine own_il X25 hy d13_80 rfl ?_
   refine own_cs X25 hy hZ hown (own_y0 hw) (rmID hw (cc 24) (0 : Int32) Z0 (own_bdg hb24)) e25 d13_81 own_pd0 hml fun v26 T26 L26 X26 hQ26 => ?_
   obtain ⟨rfl, N26q, e26⟩ := hQ26
   have N26 := Fr.app N23 N26q
   clear N23 N23q X23 e23 X24 e24 X25 e25 N26q
   refine own_zy X26 hy d13_84 95 ((if0 _ _).trans (teq (by decide : ((0 : Int32) = (0 : Int32)))).1) ?_
   refine own_ky X26 hy d13_95 d13_96 d13_98 rfl 111 (feq (own_bne hb24 (by decide))).2 ?_
   refine own_ky X26 hy d13_111 d13_112 d13_114 rfl 127 (feq (own_bne hb24 (by decide))).2 ?_
   refine own_ky X26 hy d13_127 d13_128 d13_130 rfl 143 (feq (own_bne hb24 (by decide))).2 ?_
   refine own_ic X26 hy d13_143 ?_
   refine own_is X26 hy d13_144 (l' := #[.val (.ref g), .val (.int (cc 24)), .val (.int 0)]) rfl ?_
   refine own_il X26 hy d13_145 rfl ?_
   exact own_rFC X26 hy hS hk hrt hlk d13_146 hZ hw hIn e26 ⟨N26, Kp0, Or.inr ⟨by omega, rfl, by rw [hm24]; exact ⟨Eg, Ft, Fe, Fm, Fo, Fd, Fp, Fa⟩⟩⟩
theorem d13_117 : decode C13 117 = .ok (.aload_n 0, 1) := by decide +kernel
theorem d13_118 : decode C13 118 = .ok (.ldc 64, 2) := by decide +kernel
theorem d13_120 : decode C13 120 = .ok (.invokevirtual 60, 3) := by decide +kernel
theorem d13_123 : decode C13 123 = .ok (.istore_n 2, 1) := by decide +kernel
theorem d13_124 : decode C13 124 = .ok (.goto 21, 3) := by decide +kernel
def QrmV41 (Z : State) (g : Addr) (ct : Addr) (ob : Addr) (kc : ClassId) (tx : List Value) (cc : Nat → Int32) (oN : Nat) (kk : Nat) (M : Nat) (tf : Bool) (md : Int32) (dd : Int32) (oo : Int32) (h0 : Heap) (n0 : Nat) (v : Option Value) (h : Heap) (L : List Loc) : Prop := Fr n0 L ∧ Keep h0 h [g] ∧ ((46 ≤ M ∧ v = some (.int 1) ∧ own_G Z h g ct ob (own_P oN kk) md dd oo (own_P oN 46)) ∨ (M < 46 ∧ v = some (.int 0) ∧ own_G Z h g ct ob (own_P oN kk) md dd oo (own_P oN M)))
theorem rmV41 (hw : own_HW Z a0) (Z0 : n0 ≤ h0.size) (Gq : own_G Z h0 g ct ob (own_P oN kk) md dd oo (own_P oN 41)) (g_g : n0 ≤ g) (At : Arv Z h0 ct kc .char (52 : Int32) tx (.int 0)) (hT : ∀ i, i < 49 → tx.getD (oN + i) (.int 0) = .int (cc i)) (H : own_H oN kk md M tf cc) (hM0 : 41 ≤ M) (hcs : ¬ (cs = (0 : Int32))) (S_cs : Sta Z h0 "java/lang/String" "COMPACT_STRINGS" "Z" (.int cs)) (S_fm : Sta Z h0 "jdk/internal/util/Preconditions" "SIOOBE_FORMATTER" "Ljava/util/function/BiFunction;" fm) (rfm : fm.isRef = true) :
  own_MC l "dev/parlance/JsonGrammar" "value" "()Z" prog_6_method_3_code 3 (some .boolean) ⟨5, 2, 24, 68⟩ #[(.ref g)] Z h0 (QrmV41 Z g ct ob kc tx cc oN kk M tf md dd oo h0 n0) := by
 refine own_fsC (plainFor_of_name own_pn13) (own_ef13 · g) fun p e s m below meth c s₁ hy hml hZ hown hnm hrt hlk X0 e0 hS hk hIn => ?_
 have N0 := Fr.nil n0
 have Kp0 : Keep h0 h0 [g] := Keep.refl h0 _
 obtain ⟨⟨Eg, Ft, Fe, Fm, Fo, Fd, Fp, Fa⟩, ho, hk49, ne_ct_g⟩ := own_gi hw Gq At H
 refine own_al X0 hy d13_0 rfl rfl ?_
 rcases own_at H 41 (by decide) hM0 (by decide) with ⟨hm41, hk41, hg41⟩ | ⟨hm41, hk41⟩ | ⟨hm41, hk41, hb41⟩
 ·
  refine own_cp X0 hy hZ hown (own_y19 hw) (rmSk0 hw Z0 ⟨Eg, Ft, Fe, Fm, Fo, Fd, Fp, Fa⟩ g_g At hT H (by decide) (Or.inr ⟨hk41, own_lws (L := 102) hg41 (by decide)⟩)) e0 Eg d13_1 own_pd12 hml fun v1 T1 L1 X1 hQ1 => ?_
  obtain ⟨rfl, N1q, e1⟩ := hQ1
  have N1 := Fr.app N0 N1q
  refine own_ae X1 hy hZ hown hw e1 Fa Fe a13_4 fun T2 X2 e2 => ?_
  refine own_cn X2 hy d13_12 (tlt (own_Plt ho hk49 hk41)).2.1 ?_
  refine own_tc X2 hy hZ hown hw e2 Ft Fa At ho hT (by decide) t13_15 fun T3 X3 e3 => ?_
  refine own_gt X3 hy d13_24 28 ?_
  refine own_is X3 hy d13_28 (l' := #[.val (.ref g), .val (.int (cc 41)), .unset]) rfl ?_
  refine own_kn X3 hy d13_29 d13_30 d13_32 rfl (feq (by rw [show cc 41 = 102 from hg41]; decide)).1 ?_
  refine own_ky X3 hy d13_35 d13_36 d13_38 rfl 60 (feq (by rw [show cc 41 = 102 from hg41]; decide)).2 ?_
  refine own_ky X3 hy d13_60 d13_61 d13_63 rfl 74 (feq (by rw [show cc 41 = 102 from hg41]; decide)).2 ?_
  refine own_kn X3 hy d13_74 d13_75 d13_77 rfl (feq (by rw [show cc 41 = 102 from hg41]; decide)).1 ?_
  refine own_il X3 hy d13_80 rfl ?_
  refine own_cs X3 hy hZ hown (own_y0 hw) (rmID hw (cc 41) (0 : Int32) Z0 (own_ldg (L := 102) hg41 (by decide))) e3 d13_81 own_pd0 hml fun v4 T4 L4 X4 hQ4 => ?_
  obtain ⟨rfl, N4q, e4⟩ := hQ4
  have N4 := Fr.app N1 N4q
  clear N1 N1q X1 e1 X2 e2 X3 e3 N4q
  refine own_zy X4 hy d13_84 95 ((if0 _ _).trans (teq (by decide : ((0 : Int32) = (0 : Int32)))).1) ?_
  refine own_ky X4 hy d13_95 d13_96 d13_98 rfl 111 (feq (by rw [show cc 41 = 102 from hg41]; decide)).2 ?_
  refine own_kn X4 hy d13_111 d13_112 d13_114 rfl (teq (show cc 41 = 102 from hg41)).2 ?_
  refine own_al X4 hy d13_117 rfl rfl ?_
  obtain ⟨b5, T5, h5, ks5, t5, kc5, X5, e5, E5, hS, hkq, hZ, hown, Ex_b5, Fc_b5, Fv_b5, Av_t5, -, -, hCr5, -, -, st5⟩ := ldcCH (EL := consts_1) X4 hy.1 hZ hown (own_w hw 162 rfl) (own_wS hw) e4 hS hk (own_EW hw) (List.mem_of_getElem? (i := 1) rfl) hIn (vs := [(.int 102), (.int 97), (.int 108), (.int 115), (.int 101)]) (z := (5 : Int32)) ⟨by decide +kernel, by decide +kernel⟩ (by decide) (by decide +kernel) (g := (mkF m 118 #[.val (.ref g), .val (.int (cc 41)), .unset] [(.ref g)])) rfl (hb hy.2 d13_118) (n := 20) (by decide +kernel) (by decide) (by decide) (by decide)
  replace S_cs := S_cs.ext E5
  replace S_fm := S_fm.ext E5
  replace Eg := Eg.ext E5
  replace Ft := Ft.ext E5
  replace Fe := Fe.ext E5
  replace Fm := Fm.ext E5
  replace Fo := Fo.ext E5
  replace Fd := Fd.ext E5
  replace Fp := Fp.ext E5
  replace Fa := Fa.ext E5
  replace At := At.ext E5
  have Z5 := Nat.le_trans Z0 E5.1
  have Kp5 := Kp0.ext E5
  replace hk := Nat.le_trans hk E5.1
  replace hk := hkq
  have hIn : own_In Z T5.vm h5 := hCr5.1
  refine own_go (A := T5.setTop (mkF m 120 #[.val (.ref g), .val (.int (cc 41)), .unset] [(.ref b5), (.ref g)])) (fun _ kz => st5 _ kz) ?_
  have nxg : b5 ≠ g := Exa.ne Ex_b5 Eg (by decide)
  have ntg : t5 ≠ g := Ne.symm (own_neA Eg (own_w hw 54 rfl) Av_t5)
  refine own_cpg X5 hy hZ hown (own_y22 hw) (rmLit_false hw Z5 ⟨Eg, Ft, Fe, Fm, Fo, Fd, Fp, Fa⟩ g_g At hT H hM0 Ex_b5 Fv_b5 Fc_b5 Av_t5 hcs S_cs S_fm rfm nxg ntg) e5 Eg (S := []) rfl d13_120 own_pd14 hml fun v6 T6 L6 X6 hQ6 => ?_
  obtain ⟨N6q, K6q, hD6⟩ := hQ6
  have N6 := Fr.app N4 N6q
  rcases hD6 with ⟨hm45, rfl, ⟨-, Ft6, Fe6, Fm6, Fo6, Fd6, Fp6, Fa6⟩⟩ | ⟨hMf, rfl, ⟨-, Ft6, Fe6, Fm6, Fo6, Fd6, Fp6, Fa6⟩⟩
  ·
   replace hIn := own_In.keep hIn K6q (allS (own_sf hZ Eg) all0)
   replace S_cs := own_staKeep S_cs K6q (allS (own_ns Eg) all0)
   replace S_fm := own_staKeep S_fm K6q (allS (own_ns Eg) all0)
   replace Eg := Eg.keep K6q
   replace At := At.keep K6q (ninS ne_ct_g nin0)
   have Z6 := Nat.le_trans Z5 K6q.1
   have Kp6 := Kp5.trans K6q (allS own_m0 (all0))
   replace hk := Nat.le_trans hk K6q.1
   refine own_is X6 hy d13_123 (l' := #[.val (.ref g), .val (.int (cc 41)), .val (.int 1)]) rfl ?_
   refine own_gt X6 hy d13_124 145 ?_
   refine own_il X6 hy d13_145 rfl ?_
   exact own_rTC X6 hy hS hk hrt hlk d13_146 hZ hw hIn rfl ⟨N6, Kp6, Or.inl ⟨hm45, rfl, ⟨Eg, Ft6, Fe6, Fm6, Fo6, Fd6, Fp6, Fa6⟩⟩⟩
  ·
   replace hIn := own_In.keep hIn K6q (allS (own_sf hZ Eg) all0)
   replace S_cs := own_staKeep S_cs K6q (allS (own_ns Eg) all0)
   replace S_fm := own_staKeep S_fm K6q (allS (own_ns Eg) all0)
   replace Eg := Eg.keep K6q
   replace At := At.keep K6q (ninS ne_ct_g nin0)
   have Z6 := Nat.le_trans Z5 K6q.1
   have Kp6 := Kp5.trans K6q (allS own_m0 (all0))
   replace hk := Nat.le_trans hk K6q.1
   refine own_is X6 hy d13_123 (l' := #[.val (.ref g), .val (.int (cc 41)), .val (.int 0)]) rfl ?_
   refine own_gt X6 hy d13_124 145 ?_
   refine own_il X6 hy d13_145 rfl ?_
   exact own_rFC X6 hy hS hk hrt hlk d13_146 hZ hw hIn rfl ⟨N6, Kp6, Or.inr ⟨by omega, rfl, ⟨Eg, Ft6, Fe6, Fm6, Fo6, Fd6, Fp6, Fa6⟩⟩⟩
 ·
  refine own_cp X0 hy hZ hown (own_y19 hw) (rmSk0 hw Z0 ⟨Eg, Ft, Fe, Fm, Fo, Fd, Fp, Fa⟩ g_g At hT H (by decide) (Or.inl (Nat.le_of_eq hk41))) e0 Eg d13_1 own_pd12 hml fun v7 T7 L7 X7 hQ7 => ?_
  obtain ⟨rfl, N7q, e7⟩ := hQ7
  have N7 := Fr.app N0 N7q
  refine own_ae X7 hy hZ hown hw e7 Fa Fe a13_4 fun T8 X8 e8 => ?_
  refine own_cy X8 hy d13_12 27 (flt (own_Pge ho hk49 (Nat.le_of_eq hk41) (by decide))).2.1 ?_
  refine own_ic X8 hy d13_27 ?_
  refine own_is X8 hy d13_28 (l' := #[.val (.ref g), .val (.int 0), .unset]) rfl ?_
  refine own_kn X8 hy d13_29 d13_30 d13_32 rfl (feq (by decide : ¬ ((0 : Int32) = (123 : Int32)))).1 ?_
  refine own_ky X8 hy d13_35 d13_36 d13_38 rfl 60 (feq (by decide : ¬ ((0 : Int32) = (91 : Int32)))).2 ?_
  refine own_ky X8 hy d13_60 d13_61 d13_63 rfl 74 (feq (by decide : ¬ ((0 : Int32) = (34 : Int32)))).2 ?_
  refine own_kn X8 hy d13_74 d13_75 d13_77 rfl (feq (by decide : ¬ ((0 : Int32) = (45 : Int32)))).1 ?_
  refine own_il X8 hy d13_80 rfl ?_
  refine own_cs X8 hy hZ hown (own_y0 hw) (rmID hw (0 : Int32) (0 : Int32) Z0 (by decide)) e8 d13_81 own_pd0 hml fun v9 T9 L9 X9 hQ9 => ?_
  obtain ⟨rfl, N9q, e9⟩ := hQ9
  have N9 := Fr.app N7 N9q
  refine own_zy X9 hy d13_84 95 ((if0 _ _).trans (teq (by decide : ((0 : Int32) = (0 : Int32)))).1) ?_
  refine own_ky X9 hy d13_95 d13_96 d13_98 rfl 111 (feq (by decide : ¬ ((0 : Int32) = (116 : Int32)))).2 ?_
  refine own_ky X9 hy d13_111 d13_112 d13_114 rfl 127 (feq (by decide : ¬ ((0 : Int32) = (102 : Int32)))).2 ?_
  refine own_ky X9 hy d13_127 d13_128 d13_130 rfl 143 (feq (by decide : ¬ ((0 : Int32) = (110 : Int32)))).2 ?_
  refine own_ic X9 hy d13_143 ?_
  refine own_is X9 hy d13_144 (l' := #[.val (.ref g), .val (.int 0), .val (.int 0)]) rfl ?_
  refine own_il X9 hy d13_145 rfl ?_
  exact own_rFC X9 hy hS hk hrt hlk d13_146 hZ hw hIn e9 ⟨N9, Kp0, Or.inr ⟨by omega, rfl, by rw [hm41]; exact ⟨Eg, Ft, Fe, Fm, Fo, Fd, Fp, Fa⟩⟩⟩
 ·
  refine own_cp X0 hy hZ hown (own_y19 hw) (rmSk0 hw Z0 ⟨Eg, Ft, Fe, Fm, Fo, Fd, Fp, Fa⟩ g_g At hT H (by decide) (Or.inr ⟨hk41, own_bws hb41⟩)) e0 Eg d13_1 own_pd12 hml fun v10 T10 L10 X10 hQ10 => ?_
  obtain ⟨rfl, N10q, e10⟩ := hQ10
  have N10 := Fr.app N0 N10q
  refine own_ae X10 hy hZ hown hw e10 Fa Fe a13_4 fun T11 X11 e11 => ?_
  refine own_cn X11 hy d13_12 (tlt (own_Plt ho hk49 hk41)).2.1 ?_
  refine own_tc X11 hy hZ hown hw e11 Ft Fa At ho hT (by decide) t13_15 fun T12 X12 e12 => ?_
  refine own_gt X12 hy d13_24 28 ?_
  refine own_is X12 hy d13_28 (l' := #[.val (.ref g), .val (.int (cc 41)), .unset]) rfl ?_
  refine own_kn X12 hy d13_29 d13_30 d13_32 rfl (feq (own_bne hb41 (by decide))).1 ?_
  refine own_ky X12 hy d13_35 d13_36 d13_38 rfl 60 (feq (own_bne hb41 (by decide))).2 ?_
  refine own_ky X12 hy d13_60 d13_61 d13_63 rfl 74 (feq (own_bne hb41 (by decide))).2 ?_
  refine own_kn X12 hy d13_74 d13_75 d13_77 rfl (feq (own_bne hb41 (by decide))).1 ?_
  refine own_il X12 hy d13_80 rfl ?_
  refine own_cs X12 hy hZ hown (own_y0 hw) (rmID hw (cc 41) (0 : Int32) Z0 (own_bdg hb41)) e12 d13_81 own_pd0 hml fun v13 T13 L13 X13 hQ13 => ?_
  obtain ⟨rfl, N13q, e13⟩ := hQ13
  have N13 := Fr.app N10 N13q
  clear N10 N10q X10 e10 X11 e11 X12 e12 N13q
  refine own_zy X13 hy d13_84 95 ((if0 _ _).trans (teq (by decide : ((0 : Int32) = (0 : Int32)))).1) ?_
  refine own_ky X13 hy d13_95 d13_96 d13_98 rfl 111 (feq (own_bne hb41 (by decide))).2 ?_
  refine own_ky X13 hy d13_111 d13_112 d13_114 rfl 127 (feq (own_bne hb41 (by decide))).2 ?_
  refine own_ky X13 hy d13_127 d13_128 d13_130 rfl 143 (feq (own_bne hb41 (by decide))).2 ?_
  refine own_ic X13 hy d13_143 ?_
  refine own_is X13 hy d13_144 (l' := #[.val (.ref g), .val (.int (cc 41)), .val (.int 0)]) rfl ?_
  refine own_il X13 hy d13_145 rfl ?_
  exact own_rFC X13 hy hS hk hrt hlk d13_146 hZ hw hIn e13 ⟨N13, Kp0, Or.inr ⟨by omega, rfl, by rw [hm41]; exact ⟨Eg, Ft, Fe, Fm, Fo, Fd, Fp, Fa⟩⟩⟩
theorem d17_0 : decode C17 0 = .ok (.aload_n 0, 1) := by decide +kernel
theorem d17_1 : decode C17 1 = .ok (.invokevirtual 34, 3) := by decide +kernel
theorem d17_4 : decode C17 4 = .ok (.aload_n 0, 1) := by decide +kernel
theorem d17_12 : decode C17 12 = .ok (.if_icmp .eq 24, 3) := by decide +kernel
theorem d17_15 : decode C17 15 = .ok (.aload_n 0, 1) := by decide +kernel
theorem d17_24 : decode C17 24 = .ok (.bipush 34, 2) := by decide +kernel
theorem d17_26 : decode C17 26 = .ok (.if_icmp .ne 10, 3) := by decide +kernel
theorem d17_29 : decode C17 29 = .ok (.aload_n 0, 1) := by decide +kernel
theorem d17_30 : decode C17 30 = .ok (.invokevirtual 48, 3) := by decide +kernel
theorem d17_33 : decode C17 33 = .ok (.ifCond .ne 5, 3) := by decide +kernel
theorem d17_36 : decode C17 36 = .ok (.iconst 0, 1) := by decide +kernel
theorem d17_37 : decode C17 37 = .ok (.ireturn, 1) := by decide +kernel
theorem d17_38 : decode C17 38 = .ok (.aload_n 0, 1) := by decide +kernel
theorem d17_39 : decode C17 39 = .ok (.invokevirtual 34, 3) := by decide +kernel
theorem d17_42 : decode C17 42 = .ok (.aload_n 0, 1) := by decide +kernel
theorem d17_50 : decode C17 50 = .ok (.if_icmp .eq 17, 3) := by decide +kernel
theorem d17_53 : decode C17 53 = .ok (.aload_n 0, 1) := by decide +kernel
theorem d17_62 : decode C17 62 = .ok (.bipush 58, 2) := by decide +kernel
theorem d17_64 : decode C17 64 = .ok (.if_icmp .eq 5, 3) := by decide +kernel
theorem d17_67 : decode C17 67 = .ok (.iconst 0, 1) := by decide +kernel
theorem d17_68 : decode C17 68 = .ok (.ireturn, 1) := by decide +kernel
theorem d17_69 : decode C17 69 = .ok (.aload_n 0, 1) := by decide +kernel
theorem d17_79 : decode C17 79 = .ok (.aload_n 0, 1) := by decide +kernel
theorem d17_80 : decode C17 80 = .ok (.invokevirtual 30, 3) := by decide +kernel
theorem d17_83 : decode C17 83 = .ok (.ireturn, 1) := by decide +kernel
theorem own_pn17 : plainName "dev/parlance/JsonGrammar" = true := by first | (simp [plainName, overriddenIn]; done) | decide +kernel
theorem own_ef17 (m : MethodId) (x0 : Addr) : entryFrame m #[(.ref x0)] 1 = mkF m 0 #[.val (.ref x0)] [] := by first | (simp [entryFrame, mkF, argsToLocals, Value.category]; done) | rfl
def QrmM1 (Z : State) (g : Addr) (ct : Addr) (ob : Addr) (kc : ClassId) (tx : List Value) (cc : Nat → Int32) (oN : Nat) (kk : Nat) (M : Nat) (tf : Bool) (md : Int32) (oo : Int32) (ko : ClassId) (w0 : Value) (w1 : Value) (w2 : Value) (w3 : Value) (w4 : Value) (w5 : Value) (w6 : Value) (w7 : Value) (w8 : Value) (w9 : Value) (w10 : Value) (w11 : Value) (w12 : Value) (w13 : Value) (w14 : Value) (w15 : Value) (h0 : Heap) (n0 : Nat) (v : Option Value) (h : Heap) (L : List Loc) : Prop := Fr n0 L ∧ Keep h0 h [g, ob] ∧ ((15 ≤ M ∧ v = some (.int 1) ∧ own_G Z h g ct ob (own_P oN kk) md (2 : Int32) (1 : Int32) (own_P oN 15) ∧ Arv Z h ob ko .boolean (16 : Int32) [w0, (.int 0), w2, w3, w4, w5, w6, w7, w8, w9, w10, w11, w12, w13, w14, w15] (.int 0)) ∨ (M < 15 ∧ v = some (.int 0) ∧ own_G Z h g ct ob (own_P oN kk) md (1 : Int32) oo (own_P oN M) ∧ Arv Z h ob ko .boolean (16 : Int32) [w0, w1, w2, w3, w4, w5, w6, w7, w8, w9, w10, w11, w12, w13, w14, w15] (.int 0)))
theorem rmM1 (hw : own_HW Z a0) (Z0 : n0 ≤ h0.size) (Gq : own_G Z h0 g ct ob (own_P oN kk) md (1 : Int32) oo (own_P oN 1)) (g_g : n0 ≤ g) (At : Arv Z h0 ct kc .char (52 : Int32) tx (.int 0)) (hT : ∀ i, i < 49 → tx.getD (oN + i) (.int 0) = .int (cc i)) (H : own_H oN kk md M tf cc) (Ao : Arv Z h0 ob ko .boolean (16 : Int32) [w0, w1, w2, w3, w4, w5, w6, w7, w8, w9, w10, w11, w12, w13, w14, w15] (.int 0)) (g_ob : n0 ≤ ob) (hM0 : 1 ≤ M) (hcs : ¬ (cs = (0 : Int32))) (S_cs : Sta Z h0 "java/lang/String" "COMPACT_STRINGS" "Z" (.int cs)) :
  own_MC l "dev/parlance/JsonGrammar" "member" "()Z" prog_6_method_4_code 1 (some .boolean) ⟨6, 4, 72, 87⟩ #[(.ref g)] Z h0 (QrmM1 Z g ct ob kc tx cc oN kk M tf md oo ko w0 w1 w2 w3 w4 w5 w6 w7 w8 w9 w10 w11 w12 w13 w14 w15 h0 n0) := by
 refine own_fsC (plainFor_of_name own_pn17) (own_ef17 · g) fun p e s m below meth c s₁ hy hml hZ hown hnm hrt hlk X0 e0 hS hk hIn => ?_
 have N0 := Fr.nil n0
 have Kp0 : Keep h0 h0 [g, ob] := Keep.refl h0 _
 obtain ⟨⟨Eg, Ft, Fe, Fm, Fo, Fd, Fp, Fa⟩, ho, hk49, ne_ct_g⟩ := own_gi hw Gq At H
 have ne_ob_g : ob ≠ g := Ne.symm (own_neA Eg (own_w hw 54 rfl) Ao)
 have ne_ct_ob : ct ≠ ob := arv_ne At Ao (Or.inl (by decide))
 refine own_al X0 hy d17_0 rfl rfl ?_
 rcases own_at H 1 (by decide) hM0 (by decide) with ⟨hm1, hk1, hg1⟩ | ⟨hm1, hk1⟩ | ⟨hm1, hk1, hb1⟩
 ·
  refine own_cp X0 hy hZ hown (own_y19 hw) (rmSk0 hw Z0 ⟨Eg, Ft, Fe, Fm, Fo, Fd, Fp, Fa⟩ g_g At hT H (by decide) (Or.inr ⟨hk1, own_lws (L := 34) hg1 (by decide)⟩)) e0 Eg d17_1 own_pd12 hml fun v1 T1 L1 X1 hQ1 => ?_
  obtain ⟨rfl, N1q, e1⟩ := hQ1
  have N1 := Fr.app N0 N1q
  refine own_ae X1 hy hZ hown hw e1 Fa Fe a17_4 fun T2 X2 e2 => ?_
  refine own_cn X2 hy d17_12 (feq (own_Pne ho hk49 hk1)).1 ?_
  refine own_tc X2 hy hZ hown hw e2 Ft Fa At ho hT (by decide) t17_15 fun T3 X3 e3 => ?_
  refine own_bp X3 hy d17_24 ?_
  refine own_cn X3 hy d17_26 (teq (show cc 1 = 34 from hg1)).2 ?_
  refine own_al X3 hy d17_29 rfl rfl ?_
  refine own_cpS X3 hy hZ hown hw hIn hS hk (own_y23 hw) (rmStr1 hw Z0 ⟨Eg, Ft, Fe, Fm, Fo, Fd, Fp, Fa⟩ g_g At hT H hm1 hcs S_cs) e3 Eg d17_30 own_pd3 hml fun v4 T4 L4 X4 hQ4 hS hk hZ hown hIn => ?_
  obtain ⟨N4q, K4q, hD4⟩ := hQ4
  have N4 := Fr.app N1 N4q
  rcases hD4 with ⟨hm11, rfl, ⟨-, Ft4, Fe4, Fm4, Fo4, Fd4, Fp4, Fa4⟩⟩ | ⟨hMf, rfl, ⟨-, Ft4, Fe4, Fm4, Fo4, Fd4, Fp4, Fa4⟩⟩
  ·
   replace S_cs := own_staKeep S_cs K4q (allS (own_ns Eg) all0)
   replace Eg := Eg.keep K4q
   replace At := At.keep K4q (ninS ne_ct_g nin0)
   replace Ao := Ao.keep K4q (ninS ne_ob_g nin0)
   have Z4 := Nat.le_trans Z0 K4q.1
   have Kp4 := Kp0.trans K4q (allS own_m0 (all0))
   clear N1 N1q X1 e1 X2 e2 X3 e3
   refine own_zy X4 hy d17_33 38 ((if0 _ _).trans (feq (by decide : ¬ ((1 : Int32) = (0 : Int32)))).2) ?_
   refine own_al X4 hy d17_38 rfl rfl ?_
   rcases own_at H 12 (by decide) hm11 (by decide) with ⟨hm12, hk12, hg12⟩ | ⟨hm12, hk12⟩ | ⟨hm12, hk12, hb12⟩
   ·
    rcases own_at H 13 (by decide) hm12 (by decide) with ⟨hm13, hk13, hg13⟩ | ⟨hm13, hk13⟩ | ⟨hm13, hk13, hb13⟩
    ·
     refine own_cp X4 hy hZ hown (own_y19 hw) (rmSk1 hw Z4 ⟨Eg, Ft4, Fe4, Fm4, Fo4, Fd4, Fp4, Fa4⟩ g_g At hT H (by decide) hk12 hg12 (Or.inr ⟨hk13, own_lws (L := 58) hg13 (by decide)⟩)) rfl Eg d17_39 own_pd12 hml fun v5 T5 L5 X5 hQ5 => ?_
     obtain ⟨rfl, N5q, K5q, ⟨_, Ft5, Fe5, Fm5, Fo5, Fd5, Fp5, Fa5⟩⟩ := hQ5
     have N5 := Fr.app N4 N5q
     replace hIn := own_In.keep hIn K5q (allS (own_sf hZ Eg) all0)
     replace S_cs := own_staKeep S_cs K5q (allS (own_ns Eg) all0)
     replace Eg := Eg.keep K5q
     replace At := At.keep K5q (ninS ne_ct_g nin0)
     replace Ao := Ao.keep K5q (ninS ne_ob_g nin0)
     have Z5 := Nat.le_trans Z4 K5q.1
     have Kp5 := Kp4.trans K5q (allS own_m0 (all0))
     replace hk := Nat.le_trans hk K5q.1
     refine own_ae X5 hy hZ hown hw rfl Fa5 Fe5 a17_42 fun T6 X6 e6 => ?_
     refine own_cn X6 hy d17_50 (feq (own_Pne ho hk49 hk13)).1 ?_
     refine own_tc X6 hy hZ hown hw e6 Ft5 Fa5 At ho hT (by decide) t17_53 fun T7 X7 e7 => ?_
     refine own_bp X7 hy d17_62 ?_
     refine own_cy X7 hy d17_64 69 (teq (show cc 13 = 58 from hg13)).1 ?_
     refine own_inc X7 hy hZ hown hw e7 ⟨Eg, Ft5, Fe5, Fm5, Fo5, Fd5, Fp5, Fa5⟩ i17_69 14 fun T8 h8 X8 e8 W8 ⟨_, Ft, Fe, Fm, Fo, Fd, Fp, Fa⟩ => ?_
     replace hIn := own_In.wr hIn W8 (own_sf hZ Eg)
     replace S_cs := S_cs.wr W8
     replace Eg := Eg.wr W8
     replace At := At.other W8 ne_ct_g
     replace Ao := Ao.other W8 ne_ob_g
     have Z8 := own_zw Z5 W8
     have Kp8 := Kp5.wr W8 own_m0
     replace hk := own_zw hk W8
     have N8 := Fr.snoc X8 N5 g_g
     clear X4 N5 N5q X5 X6 e6 X7 e7 W8
     refine own_al X8 hy d17_79 rfl rfl ?_
     refine own_cp X8 hy hZ hown (own_y24 hw) (rmV14 hw Z8 ⟨Eg, Ft, Fe, Fm, Fo, Fd, Fp, Fa⟩ g_g At hT H Ao g_ob hm13) e8 Eg d17_80 own_pd3 hml fun v9 T9 L9 X9 hQ9 => ?_
     obtain ⟨N9q, K9q, hD9⟩ := hQ9
     have N9 := Fr.app N8 N9q
     rcases hD9 with ⟨hm14, rfl, ⟨-, Ft9, Fe9, Fm9, Fo9, Fd9, Fp9, Fa9⟩, AoC9⟩ | ⟨hMf, rfl, ⟨-, Ft9, Fe9, Fm9, Fo9, Fd9, Fp9, Fa9⟩, AoC9⟩
     ·
      replace hIn := own_In.keep hIn K9q (allS (own_sf hZ Eg) (allS (own_safeA hZ.alike Ao (by decide)) all0))
      replace S_cs := own_staKeep S_cs K9q (allS (own_ns Eg) (allS (own_nsA Ao) all0))
      replace Eg := Eg.keep K9q
      replace At := At.keep K9q (ninS ne_ct_g (ninS ne_ct_ob nin0))
      have Z9 := Nat.le_trans Z8 K9q.1
      have Kp9 := Kp8.trans K9q (allS own_m0 (allS own_m1 (all0)))
      replace hk := Nat.le_trans hk K9q.1
      exact own_rTC X9 hy hS hk hrt hlk d17_83 hZ hw hIn rfl ⟨N9, Kp9, Or.inl ⟨hm14, rfl, ⟨Eg, Ft9, Fe9, Fm9, Fo9, Fd9, Fp9, Fa9⟩, AoC9⟩⟩
     ·
      replace hIn := own_In.keep hIn K9q (allS (own_sf hZ Eg) (allS (own_safeA hZ.alike Ao (by decide)) all0))
      replace S_cs := own_staKeep S_cs K9q (allS (own_ns Eg) (allS (own_nsA Ao) all0))
      replace Eg := Eg.keep K9q
      replace At := At.keep K9q (ninS ne_ct_g (ninS ne_ct_ob nin0))
      have Z9 := Nat.le_trans Z8 K9q.1
      have Kp9 := Kp8.trans K9q (allS own_m0 (allS own_m1 (all0)))
      replace hk := Nat.le_trans hk K9q.1
      exact own_rFC X9 hy hS hk hrt hlk d17_83 hZ hw hIn rfl ⟨N9, Kp9, Or.inr ⟨by omega, rfl, ⟨Eg, Ft9, Fe9, Fm9, Fo9, Fd9, Fp9, Fa9⟩, AoC9⟩⟩
    ·
     refine own_cp X4 hy hZ hown (own_y19 hw) (rmSk1 hw Z4 ⟨Eg, Ft4, Fe4, Fm4, Fo4, Fd4, Fp4, Fa4⟩ g_g At hT H (by decide) hk12 hg12 (Or.inl (Nat.le_of_eq hk13))) rfl Eg d17_39 own_pd12 hml fun v10 T10 L10 X10 hQ10 => ?_
     obtain ⟨rfl, N10q, K10q, ⟨_, Ft10, Fe10, Fm10, Fo10, Fd10, Fp10, Fa10⟩⟩ := hQ10
     have N10 := Fr.app N4 N10q
     replace hIn := own_In.keep hIn K10q (allS (own_sf hZ Eg) all0)
     replace S_cs := own_staKeep S_cs K10q (allS (own_ns Eg) all0)
     replace Eg := Eg.keep K10q
     replace At := At.keep K10q (ninS ne_ct_g nin0)
     replace Ao := Ao.keep K10q (ninS ne_ob_g nin0)
     have Z10 := Nat.le_trans Z4 K10q.1
     have Kp10 := Kp4.trans K10q (allS own_m0 (all0))
     replace hk := Nat.le_trans hk K10q.1
     refine own_ae X10 hy hZ hown hw rfl Fa10 Fe10 a17_42 fun T11 X11 e11 => ?_
     refine own_cy X11 hy d17_50 67 (teq (own_Peq hk13)).1 ?_
     refine own_ic X11 hy d17_67 ?_
     exact own_rFC X11 hy hS hk hrt hlk d17_68 hZ hw hIn e11 ⟨N10, Kp10, Or.inr ⟨by omega, rfl, by rw [hm13]; exact ⟨Eg, Ft10, Fe10, Fm10, Fo10, Fd10, Fp10, Fa10⟩, Ao⟩⟩
    ·
     refine own_cp X4 hy hZ hown (own_y19 hw) (rmSk1 hw Z4 ⟨Eg, Ft4, Fe4, Fm4, Fo4, Fd4, Fp4, Fa4⟩ g_g At hT H (by decide) hk12 hg12 (Or.inr ⟨hk13, own_bws hb13⟩)) rfl Eg d17_39 own_pd12 hml fun v12 T12 L12 X12 hQ12 => ?_
     obtain ⟨rfl, N12q, K12q, ⟨_, Ft12, Fe12, Fm12, Fo12, Fd12, Fp12, Fa12⟩⟩ := hQ12
     have N12 := Fr.app N4 N12q
     replace hIn := own_In.keep hIn K12q (allS (own_sf hZ Eg) all0)
     replace S_cs := own_staKeep S_cs K12q (allS (own_ns Eg) all0)
     replace Eg := Eg.keep K12q
     replace At := At.keep K12q (ninS ne_ct_g nin0)
     replace Ao := Ao.keep K12q (ninS ne_ob_g nin0)
     have Z12 := Nat.le_trans Z4 K12q.1
     have Kp12 := Kp4.trans K12q (allS own_m0 (all0))
     replace hk := Nat.le_trans hk K12q.1
     refine own_ae X12 hy hZ hown hw rfl Fa12 Fe12 a17_42 fun T13 X13 e13 => ?_
     refine own_cn X13 hy d17_50 (feq (own_Pne ho hk49 hk13)).1 ?_
     refine own_tc X13 hy hZ hown hw e13 Ft12 Fa12 At ho hT (by decide) t17_53 fun T14 X14 e14 => ?_
     refine own_bp X14 hy d17_62 ?_
     refine own_cn X14 hy d17_64 (feq (own_bne hb13 (by decide))).1 ?_
     refine own_ic X14 hy d17_67 ?_
     exact own_rFC X14 hy hS hk hrt hlk d17_68 hZ hw hIn e14 ⟨N12, Kp12, Or.inr ⟨by omega, rfl, by rw [hm13]; exact ⟨Eg, Ft12, Fe12, Fm12, Fo12, Fd12, Fp12, Fa12⟩, Ao⟩⟩
   ·
    refine own_cp X4 hy hZ hown (own_y19 hw) (rmSk0 hw Z4 ⟨Eg, Ft4, Fe4, Fm4, Fo4, Fd4, Fp4, Fa4⟩ g_g At hT H (by decide) (Or.inl (Nat.le_of_eq hk12))) rfl Eg d17_39 own_pd12 hml fun v15 T15 L15 X15 hQ15 => ?_
    obtain ⟨rfl, N15q, e15⟩ := hQ15
    have N15 := Fr.app N4 N15q
    refine own_ae X15 hy hZ hown hw e15 Fa4 Fe4 a17_42 fun T16 X16 e16 => ?_
    refine own_cy X16 hy d17_50 67 (teq (own_Peq hk12)).1 ?_
    refine own_ic X16 hy d17_67 ?_
    exact own_rFC X16 hy hS hk hrt hlk d17_68 hZ hw hIn e16 ⟨N15, Kp4, Or.inr ⟨by omega, rfl, by rw [hm12]; exact ⟨Eg, Ft4, Fe4, Fm4, Fo4, Fd4, Fp4, Fa4⟩, Ao⟩⟩
   ·
    refine own_cp X4 hy hZ hown (own_y19 hw) (rmSk0 hw Z4 ⟨Eg, Ft4, Fe4, Fm4, Fo4, Fd4, Fp4, Fa4⟩ g_g At hT H (by decide) (Or.inr ⟨hk12, own_bws hb12⟩)) rfl Eg d17_39 own_pd12 hml fun v17 T17 L17 X17 hQ17 => ?_
    obtain ⟨rfl, N17q, e17⟩ := hQ17
    have N17 := Fr.app N4 N17q
    refine own_ae X17 hy hZ hown hw e17 Fa4 Fe4 a17_42 fun T18 X18 e18 => ?_
    refine own_cn X18 hy d17_50 (feq (own_Pne ho hk49 hk12)).1 ?_
    refine own_tc X18 hy hZ hown hw e18 Ft4 Fa4 At ho hT (by decide) t17_53 fun T19 X19 e19 => ?_
    refine own_bp X19 hy d17_62 ?_
    refine own_cn X19 hy d17_64 (feq (own_bne hb12 (by decide))).1 ?_
    refine own_ic X19 hy d17_67 ?_
    exact own_rFC X19 hy hS hk hrt hlk d17_68 hZ hw hIn e19 ⟨N17, Kp4, Or.inr ⟨by omega, rfl, by rw [hm12]; exact ⟨Eg, Ft4, Fe4, Fm4, Fo4, Fd4, Fp4, Fa4⟩, Ao⟩⟩
  ·
   replace S_cs := own_staKeep S_cs K4q (allS (own_ns Eg) all0)
   replace Eg := Eg.keep K4q
   replace At := At.keep K4q (ninS ne_ct_g nin0)
   replace Ao := Ao.keep K4q (ninS ne_ob_g nin0)
   have Z4 := Nat.le_trans Z0 K4q.1
   have Kp4 := Kp0.trans K4q (allS own_m0 (all0))
   clear N1 N1q X1 e1 X2 e2 X3 e3
   refine own_zn X4 hy d17_33 ((if0 _ _).trans (teq (by decide : ((0 : Int32) = (0 : Int32)))).2) ?_
   refine own_ic X4 hy d17_36 ?_
   exact own_rFC X4 hy hS hk hrt hlk d17_37 hZ hw hIn rfl ⟨N4, Kp4, Or.inr ⟨by omega, rfl, ⟨Eg, Ft4, Fe4, Fm4, Fo4, Fd4, Fp4, Fa4⟩, Ao⟩⟩
 ·
  refine own_cp X0 hy hZ hown (own_y19 hw) (rmSk0 hw Z0 ⟨Eg, Ft, Fe, Fm, Fo, Fd, Fp, Fa⟩ g_g At hT H (by decide) (Or.inl (Nat.le_of_eq hk1))) e0 Eg d17_1 own_pd12 hml fun v20 T20 L20 X20 hQ20 => ?_
  obtain ⟨rfl, N20q, e20⟩ := hQ20
  have N20 := Fr.app N0 N20q
  refine own_ae X20 hy hZ hown hw e20 Fa Fe a17_4 fun T21 X21 e21 => ?_
  refine own_cy X21 hy d17_12 36 (teq (own_Peq hk1)).1 ?_
  refine own_ic X21 hy d17_36 ?_
  exact own_rFC X21 hy hS hk hrt hlk d17_37 hZ hw hIn e21 ⟨N20, Kp0, Or.inr ⟨by omega, rfl, by rw [hm1]; exact ⟨Eg, Ft, Fe, Fm, Fo, Fd, Fp, Fa⟩, Ao⟩⟩
 ·
  refine own_cp X0 hy hZ hown (own_y19 hw) (rmSk0 hw Z0 ⟨Eg, Ft, Fe, Fm, Fo, Fd, Fp, Fa⟩ g_g At hT H (by decide) (Or.inr ⟨hk1, own_bws hb1⟩)) e0 Eg d17_1 own_pd12 hml fun v22 T22 L22 X22 hQ22 => ?_
  obtain ⟨rfl, N22q, e22⟩ := hQ22
  have N22 := Fr.app N0 N22q
  refine own_ae X22 hy hZ hown hw e22 Fa Fe a17_4 fun T23 X23 e23 => ?_
  refine own_cn X23 hy d17_12 (feq (own_Pne ho hk49 hk1)).1 ?_
  refine own_tc X23 hy hZ hown hw e23 Ft Fa At ho hT (by decide) t17_15 fun T24 X24 e24 => ?_
  refine own_bp X24 hy d17_24 ?_
  refine own_cy X24 hy d17_26 36 (feq (own_bne hb1 (by decide))).2 ?_
  refine own_ic X24 hy d17_36 ?_
  exact own_rFC X24 hy hS hk hrt hlk d17_37 hZ hw hIn e24 ⟨N22, Kp0, Or.inr ⟨by omega, rfl, by rw [hm1]; exact ⟨Eg, Ft, Fe, Fm, Fo, Fd, Fp, Fa⟩, Ao⟩⟩
def QrmM38 (Z : State) (g : Addr) (ct : Addr) (ob : Addr) (kc : ClassId) (tx : List Value) (cc : Nat → Int32) (oN : Nat) (kk : Nat) (M : Nat) (tf : Bool) (md : Int32) (dd : Int32) (oo : Int32) (h0 : Heap) (n0 : Nat) (v : Option Value) (h : Heap) (L : List Loc) : Prop := Fr n0 L ∧ Keep h0 h [g] ∧ ((46 ≤ M ∧ v = some (.int 1) ∧ own_G Z h g ct ob (own_P oN kk) md dd oo (own_P oN 46)) ∨ (M < 46 ∧ v = some (.int 0) ∧ own_G Z h g ct ob (own_P oN kk) md dd oo (own_P oN M)))
theorem rmM38 (hw : own_HW Z a0) (Z0 : n0 ≤ h0.size) (Gq : own_G Z h0 g ct ob (own_P oN kk) md dd oo (own_P oN 38)) (g_g : n0 ≤ g) (At : Arv Z h0 ct kc .char (52 : Int32) tx (.int 0)) (hT : ∀ i, i < 49 → tx.getD (oN + i) (.int 0) = .int (cc i)) (H : own_H oN kk md M tf cc) (hM0 : 38 ≤ M) (hcs : ¬ (cs = (0 : Int32))) (S_cs : Sta Z h0 "java/lang/String" "COMPACT_STRINGS" "Z" (.int cs)) (S_fm : Sta Z h0 "jdk/internal/util/Preconditions" "SIOOBE_FORMATTER" "Ljava/util/function/BiFunction;" fm) (rfm : fm.isRef = true) :
  own_MC l "dev/parlance/JsonGrammar" "member" "()Z" prog_6_method_4_code 1 (some .boolean) ⟨6, 2, 24, 82⟩ #[(.ref g)] Z h0 (QrmM38 Z g ct ob kc tx cc oN kk M tf md dd oo h0 n0) := by
 refine own_fsC (plainFor_of_name own_pn17) (own_ef17 · g) fun p e s m below meth c s₁ hy hml hZ hown hnm hrt hlk X0 e0 hS hk hIn => ?_
 have N0 := Fr.nil n0
 have Kp0 : Keep h0 h0 [g] := Keep.refl h0 _
 obtain ⟨⟨Eg, Ft, Fe, Fm, Fo, Fd, Fp, Fa⟩, ho, hk49, ne_ct_g⟩ := own_gi hw Gq At H
 refine own_al X0 hy d17_0 rfl rfl ?_
 rcases own_at H 38 (by decide) hM0 (by decide) with ⟨hm38, hk38, hg38⟩ | ⟨hm38, hk38⟩ | ⟨hm38, hk38, hb38⟩
 ·
  refine own_cp X0 hy hZ hown (own_y19 hw) (rmSk0 hw Z0 ⟨Eg, Ft, Fe, Fm, Fo, Fd, Fp, Fa⟩ g_g At hT H (by decide) (Or.inr ⟨hk38, own_lws (L := 34) hg38 (by decide)⟩)) e0 Eg d17_1 own_pd12 hml fun v1 T1 L1 X1 hQ1 => ?_
  obtain ⟨rfl, N1q, e1⟩ := hQ1
  have N1 := Fr.app N0 N1q
  refine own_ae X1 hy hZ hown hw e1 Fa Fe a17_4 fun T2 X2 e2 => ?_
  refine own_cn X2 hy d17_12 (feq (own_Pne ho hk49 hk38)).1 ?_
  refine own_tc X2 hy hZ hown hw e2 Ft Fa At ho hT (by decide) t17_15 fun T3 X3 e3 => ?_
  refine own_bp X3 hy d17_24 ?_
  refine own_cn X3 hy d17_26 (teq (show cc 38 = 34 from hg38)).2 ?_
  refine own_al X3 hy d17_29 rfl rfl ?_
  refine own_cp X3 hy hZ hown (own_y23 hw) (rmStr2 hw Z0 ⟨Eg, Ft, Fe, Fm, Fo, Fd, Fp, Fa⟩ g_g At hT H hm38) e3 Eg d17_30 own_pd3 hml fun v4 T4 L4 X4 hQ4 => ?_
  obtain ⟨N4q, K4q, hD4⟩ := hQ4
  have N4 := Fr.app N1 N4q
  rcases hD4 with ⟨hm39, rfl, ⟨-, Ft4, Fe4, Fm4, Fo4, Fd4, Fp4, Fa4⟩⟩ | ⟨hMf, rfl, ⟨-, Ft4, Fe4, Fm4, Fo4, Fd4, Fp4, Fa4⟩⟩
  ·
   replace hIn := own_In.keep hIn K4q (allS (own_sf hZ Eg) all0)
   replace S_cs := own_staKeep S_cs K4q (allS (own_ns Eg) all0)
   replace S_fm := own_staKeep S_fm K4q (allS (own_ns Eg) all0)
   replace Eg := Eg.keep K4q
   replace At := At.keep K4q (ninS ne_ct_g nin0)
   have Z4 := Nat.le_trans Z0 K4q.1
   have Kp4 := Kp0.trans K4q (allS own_m0 (all0))
   replace hk := Nat.le_trans hk K4q.1
   clear N1 N1q X1 e1 X2 e2 X3 e3
   refine own_zy X4 hy d17_33 38 ((if0 _ _).trans (feq (by decide : ¬ ((1 : Int32) = (0 : Int32)))).2) ?_
   refine own_al X4 hy d17_38 rfl rfl ?_
   rcases own_at H 40 (by decide) hm39 (by decide) with ⟨hm40, hk40, hg40⟩ | ⟨hm40, hk40⟩ | ⟨hm40, hk40, hb40⟩
   ·
    refine own_cp X4 hy hZ hown (own_y19 hw) (rmSk0 hw Z4 ⟨Eg, Ft4, Fe4, Fm4, Fo4, Fd4, Fp4, Fa4⟩ g_g At hT H (by decide) (Or.inr ⟨hk40, own_lws (L := 58) hg40 (by decide)⟩)) rfl Eg d17_39 own_pd12 hml fun v5 T5 L5 X5 hQ5 => ?_
    obtain ⟨rfl, N5q, e5⟩ := hQ5
    have N5 := Fr.app N4 N5q
    refine own_ae X5 hy hZ hown hw e5 Fa4 Fe4 a17_42 fun T6 X6 e6 => ?_
    refine own_cn X6 hy d17_50 (feq (own_Pne ho hk49 hk40)).1 ?_
    refine own_tc X6 hy hZ hown hw e6 Ft4 Fa4 At ho hT (by decide) t17_53 fun T7 X7 e7 => ?_
    refine own_bp X7 hy d17_62 ?_
    refine own_cy X7 hy d17_64 69 (teq (show cc 40 = 58 from hg40)).1 ?_
    refine own_inc X7 hy hZ hown hw e7 ⟨Eg, Ft4, Fe4, Fm4, Fo4, Fd4, Fp4, Fa4⟩ i17_69 41 fun T8 h8 X8 e8 W8 ⟨_, Ft, Fe, Fm, Fo, Fd, Fp, Fa⟩ => ?_
    replace hIn := own_In.wr hIn W8 (own_sf hZ Eg)
    replace S_cs := S_cs.wr W8
    replace S_fm := S_fm.wr W8
    replace Eg := Eg.wr W8
    replace At := At.other W8 ne_ct_g
    have Z8 := own_zw Z4 W8
    have Kp8 := Kp4.wr W8 own_m0
    replace hk := own_zw hk W8
    have N8 := Fr.snoc X8 N5 g_g
    clear X4 N5 N5q X5 e5 X6 e6 X7 e7 W8
    refine own_al X8 hy d17_79 rfl rfl ?_
    refine own_cpS X8 hy hZ hown hw hIn hS hk (own_y24 hw) (rmV41 hw Z8 ⟨Eg, Ft, Fe, Fm, Fo, Fd, Fp, Fa⟩ g_g At hT H hm40 hcs S_cs S_fm rfm) e8 Eg d17_80 own_pd3 hml fun v9 T9 L9 X9 hQ9 hS hk hZ hown hIn => ?_
    obtain ⟨N9q, K9q, hD9⟩ := hQ9
    have N9 := Fr.app N8 N9q
    rcases hD9 with ⟨hm45, rfl, ⟨-, Ft9, Fe9, Fm9, Fo9, Fd9, Fp9, Fa9⟩⟩ | ⟨hMf, rfl, ⟨-, Ft9, Fe9, Fm9, Fo9, Fd9, Fp9, Fa9⟩⟩
    ·
     replace S_cs := own_staKeep S_cs K9q (allS (own_ns Eg) all0)
     replace S_fm := own_staKeep S_fm K9q (allS (own_ns Eg) all0)
     replace Eg := Eg.keep K9q
     replace At := At.keep K9q (ninS ne_ct_g nin0)
     have Z9 := Nat.le_trans Z8 K9q.1
     have Kp9 := Kp8.trans K9q (allS own_m0 (all0))
     exact own_rTC X9 hy hS hk hrt hlk d17_83 hZ hw hIn rfl ⟨N9, Kp9, Or.inl ⟨hm45, rfl, ⟨Eg, Ft9, Fe9, Fm9, Fo9, Fd9, Fp9, Fa9⟩⟩⟩
    ·
     replace S_cs := own_staKeep S_cs K9q (allS (own_ns Eg) all0)
     replace S_fm := own_staKeep S_fm K9q (allS (own_ns Eg) all0)
     replace Eg := Eg.keep K9q
     replace At := At.keep K9q (ninS ne_ct_g nin0)
     have Z9 := Nat.le_trans Z8 K9q.1
     have Kp9 := Kp8.trans K9q (allS own_m0 (all0))
     exact own_rFC X9 hy hS hk hrt hlk d17_83 hZ hw hIn rfl ⟨N9, Kp9, Or.inr ⟨by omega, rfl, ⟨Eg, Ft9, Fe9, Fm9, Fo9, Fd9, Fp9, Fa9⟩⟩⟩
   ·
    refine own_cp X4 hy hZ hown (own_y19 hw) (rmSk0 hw Z4 ⟨Eg, Ft4, Fe4, Fm4, Fo4, Fd4, Fp4, Fa4⟩ g_g At hT H (by decide) (Or.inl (Nat.le_of_eq hk40))) rfl Eg d17_39 own_pd12 hml fun v10 T10 L10 X10 hQ10 => ?_
    obtain ⟨rfl, N10q, e10⟩ := hQ10
    have N10 := Fr.app N4 N10q
    refine own_ae X10 hy hZ hown hw e10 Fa4 Fe4 a17_42 fun T11 X11 e11 => ?_
    refine own_cy X11 hy d17_50 67 (teq (own_Peq hk40)).1 ?_
    refine own_ic X11 hy d17_67 ?_
    exact own_rFC X11 hy hS hk hrt hlk d17_68 hZ hw hIn e11 ⟨N10, Kp4, Or.inr ⟨by omega, rfl, by rw [hm40]; exact ⟨Eg, Ft4, Fe4, Fm4, Fo4, Fd4, Fp4, Fa4⟩⟩⟩
   ·
    refine own_cp X4 hy hZ hown (own_y19 hw) (rmSk0 hw Z4 ⟨Eg, Ft4, Fe4, Fm4, Fo4, Fd4, Fp4, Fa4⟩ g_g At hT H (by decide) (Or.inr ⟨hk40, own_bws hb40⟩)) rfl Eg d17_39 own_pd12 hml fun v12 T12 L12 X12 hQ12 => ?_
    obtain ⟨rfl, N12q, e12⟩ := hQ12
    have N12 := Fr.app N4 N12q
    refine own_ae X12 hy hZ hown hw e12 Fa4 Fe4 a17_42 fun T13 X13 e13 => ?_
    refine own_cn X13 hy d17_50 (feq (own_Pne ho hk49 hk40)).1 ?_
    refine own_tc X13 hy hZ hown hw e13 Ft4 Fa4 At ho hT (by decide) t17_53 fun T14 X14 e14 => ?_
    refine own_bp X14 hy d17_62 ?_
    refine own_cn X14 hy d17_64 (feq (own_bne hb40 (by decide))).1 ?_
    refine own_ic X14 hy d17_67 ?_
    exact own_rFC X14 hy hS hk hrt hlk d17_68 hZ hw hIn e14 ⟨N12, Kp4, Or.inr ⟨by omega, rfl, by rw [hm40]; exact ⟨Eg, Ft4, Fe4, Fm4, Fo4, Fd4, Fp4, Fa4⟩⟩⟩
  ·
   replace hIn := own_In.keep hIn K4q (allS (own_sf hZ Eg) all0)
   replace S_cs := own_staKeep S_cs K4q (allS (own_ns Eg) all0)
   replace S_fm := own_staKeep S_fm K4q (allS (own_ns Eg) all0)
   replace Eg := Eg.keep K4q
   replace At := At.keep K4q (ninS ne_ct_g nin0)
   have Z4 := Nat.le_trans Z0 K4q.1
   have Kp4 := Kp0.trans K4q (allS own_m0 (all0))
   replace hk := Nat.le_trans hk K4q.1
   clear N1 N1q X1 e1 X2 e2 X3 e3
   refine own_zn X4 hy d17_33 ((if0 _ _).trans (teq (by decide : ((0 : Int32) = (0 : Int32)))).2) ?_
   refine own_ic X4 hy d17_36 ?_
   exact own_rFC X4 hy hS hk hrt hlk d17_37 hZ hw hIn rfl ⟨N4, Kp4, Or.inr ⟨by omega, rfl, ⟨Eg, Ft4, Fe4, Fm4, Fo4, Fd4, Fp4, Fa4⟩⟩⟩
 ·
  refine own_cp X0 hy hZ hown (own_y19 hw) (rmSk0 hw Z0 ⟨Eg, Ft, Fe, Fm, Fo, Fd, Fp, Fa⟩ g_g At hT H (by decide) (Or.inl (Nat.le_of_eq hk38))) e0 Eg d17_1 own_pd12 hml fun v15 T15 L15 X15 hQ15 => ?_
  obtain ⟨rfl, N15q, e15⟩ := hQ15
  have N15 := Fr.app N0 N15q
  refine own_ae X15 hy hZ hown hw e15 Fa Fe a17_4 fun T16 X16 e16 => ?_
  refine own_cy X16 hy d17_12 36 (teq (own_Peq hk38)).1 ?_
  refine own_ic X16 hy d17_36 ?_
  exact own_rFC X16 hy hS hk hrt hlk d17_37 hZ hw hIn e16 ⟨N15, Kp0, Or.inr ⟨by omega, rfl, by rw [hm38]; exact ⟨Eg, Ft, Fe, Fm, Fo, Fd, Fp, Fa⟩⟩⟩
 ·
  refine own_cp X0 hy hZ hown (own_y19 hw) (rmSk0 hw Z0 ⟨Eg, Ft, Fe, Fm, Fo, Fd, Fp, Fa⟩ g_g At hT H (by decide) (Or.inr ⟨hk38, own_bws hb38⟩)) e0 Eg d17_1 own_pd12 hml fun v17 T17 L17 X17 hQ17 => ?_
  obtain ⟨rfl, N17q, e17⟩ := hQ17
  have N17 := Fr.app N0 N17q
  refine own_ae X17 hy hZ hown hw e17 Fa Fe a17_4 fun T18 X18 e18 => ?_
  refine own_cn X18 hy d17_12 (feq (own_Pne ho hk49 hk38)).1 ?_
  refine own_tc X18 hy hZ hown hw e18 Ft Fa At ho hT (by decide) t17_15 fun T19 X19 e19 => ?_
  refine own_bp X19 hy d17_24 ?_
  refine own_cy X19 hy d17_26 36 (feq (own_bne hb38 (by decide))).2 ?_
  refine own_ic X19 hy d17_36 ?_
  exact own_rFC X19 hy hS hk hrt hlk d17_37 hZ hw hIn e19 ⟨N17, Kp0, Or.inr ⟨by omega, rfl, by rw [hm38]; exact ⟨Eg, Ft, Fe, Fm, Fo, Fd, Fp, Fa⟩⟩⟩
def QrmBv (Z : State)  (h0 : Heap) (n0 : Nat) (v : Option Value) (h : Heap) (L : List Loc) : Prop := v = some (.int 0) ∧ Fr n0 L ∧ h = h0
theorem rmBv (hw : own_HW Z a0) (Z0 : n0 ≤ h0.size) (Gq : own_G Z h0 g ct ob (own_P oN kk) md dd oo (own_P oN M)) (g_g : n0 ≤ g) (At : Arv Z h0 ct kc .char (52 : Int32) tx (.int 0)) (hT : ∀ i, i < 49 → tx.getD (oN + i) (.int 0) = .int (cc i)) (H : own_H oN kk md M tf cc) (hst : (kk = M ∨ (M < kk ∧ own_bad M (cc M)))) :
  own_MF l "dev/parlance/JsonGrammar" "value" "()Z" prog_6_method_3_code 3 (some .boolean) ⟨1, 0, 0, 12⟩ #[(.ref g)] Z h0 (QrmBv Z  h0 n0) := by
 refine own_fst (plainFor_of_name own_pn13) (own_ef13 · g) fun p e s m below meth c s₁ hy hml hZ hown hnm hrt hlk X0 e0 => ?_
 have N0 := Fr.nil n0
 obtain ⟨⟨Eg, Ft, Fe, Fm, Fo, Fd, Fp, Fa⟩, ho, hk49, ne_ct_g⟩ := own_gi hw Gq At H
 have hM48 := H.2.2.1
 rcases hst with hkM | ⟨hkM, hbM⟩
 ·
  refine own_al X0 hy d13_0 rfl rfl ?_
  refine own_cp X0 hy hZ hown (own_y19 hw) (rmSk0 hw Z0 ⟨Eg, Ft, Fe, Fm, Fo, Fd, Fp, Fa⟩ g_g At hT H (by omega) (Or.inl (Nat.le_of_eq hkM))) e0 Eg d13_1 own_pd12 hml fun v1 T1 L1 X1 hQ1 => ?_
  obtain ⟨rfl, N1q, e1⟩ := hQ1
  have N1 := Fr.app N0 N1q
  refine own_ae X1 hy hZ hown hw e1 Fa Fe a13_4 fun T2 X2 e2 => ?_
  refine own_cy X2 hy d13_12 27 (flt (own_Pge ho hk49 (Nat.le_of_eq hkM) (by omega))).2.1 ?_
  refine own_ic X2 hy d13_27 ?_
  refine own_is X2 hy d13_28 (l' := #[.val (.ref g), .val (.int 0), .unset]) rfl ?_
  refine own_kn X2 hy d13_29 d13_30 d13_32 rfl (feq (by decide : ¬ ((0 : Int32) = (123 : Int32)))).1 ?_
  refine own_ky X2 hy d13_35 d13_36 d13_38 rfl 60 (feq (by decide : ¬ ((0 : Int32) = (91 : Int32)))).2 ?_
  refine own_ky X2 hy d13_60 d13_61 d13_63 rfl 74 (feq (by decide : ¬ ((0 : Int32) = (34 : Int32)))).2 ?_
  refine own_kn X2 hy d13_74 d13_75 d13_77 rfl (feq (by decide : ¬ ((0 : Int32) = (45 : Int32)))).1 ?_
  refine own_il X2 hy d13_80 rfl ?_
  refine own_cs X2 hy hZ hown (own_y0 hw) (rmID hw (0 : Int32) (0 : Int32) Z0 (by decide)) e2 d13_81 own_pd0 hml fun v3 T3 L3 X3 hQ3 => ?_
  obtain ⟨rfl, N3q, e3⟩ := hQ3
  have N3 := Fr.app N1 N3q
  refine own_zy X3 hy d13_84 95 ((if0 _ _).trans (teq (by decide : ((0 : Int32) = (0 : Int32)))).1) ?_
  refine own_ky X3 hy d13_95 d13_96 d13_98 rfl 111 (feq (by decide : ¬ ((0 : Int32) = (116 : Int32)))).2 ?_
  refine own_ky X3 hy d13_111 d13_112 d13_114 rfl 127 (feq (by decide : ¬ ((0 : Int32) = (102 : Int32)))).2 ?_
  refine own_ky X3 hy d13_127 d13_128 d13_130 rfl 143 (feq (by decide : ¬ ((0 : Int32) = (110 : Int32)))).2 ?_
  refine own_ic X3 hy d13_143 ?_
  refine own_is X3 hy d13_144 (l' := #[.val (.ref g), .val (.int 0), .val (.int 0)]) rfl ?_
  refine own_il X3 hy d13_145 rfl ?_
  exact own_rF X3 hy hrt hlk d13_146 e3 ⟨rfl, N3, rfl⟩
 ·
  refine own_al X0 hy d13_0 rfl rfl ?_
  refine own_cp X0 hy hZ hown (own_y19 hw) (rmSk0 hw Z0 ⟨Eg, Ft, Fe, Fm, Fo, Fd, Fp, Fa⟩ g_g At hT H (by omega) (Or.inr ⟨hkM, own_bws hbM⟩)) e0 Eg d13_1 own_pd12 hml fun v4 T4 L4 X4 hQ4 => ?_
  obtain ⟨rfl, N4q, e4⟩ := hQ4
  have N4 := Fr.app N0 N4q
  refine own_ae X4 hy hZ hown hw e4 Fa Fe a13_4 fun T5 X5 e5 => ?_
  refine own_cn X5 hy d13_12 (tlt (own_Plt ho hk49 hkM)).2.1 ?_
  refine own_tc X5 hy hZ hown hw e5 Ft Fa At ho hT (by omega) t13_15 fun T6 X6 e6 => ?_
  refine own_gt X6 hy d13_24 28 ?_
  refine own_is X6 hy d13_28 (l' := #[.val (.ref g), .val (.int (cc M)), .unset]) rfl ?_
  refine own_kn X6 hy d13_29 d13_30 d13_32 rfl (feq (own_bne hbM (by decide))).1 ?_
  refine own_ky X6 hy d13_35 d13_36 d13_38 rfl 60 (feq (own_bne hbM (by decide))).2 ?_
  refine own_ky X6 hy d13_60 d13_61 d13_63 rfl 74 (feq (own_bne hbM (by decide))).2 ?_
  refine own_kn X6 hy d13_74 d13_75 d13_77 rfl (feq (own_bne hbM (by decide))).1 ?_
  refine own_il X6 hy d13_80 rfl ?_
  refine own_cs X6 hy hZ hown (own_y0 hw) (rmID hw (cc M) (0 : Int32) Z0 (own_bdg hbM)) e6 d13_81 own_pd0 hml fun v7 T7 L7 X7 hQ7 => ?_
  obtain ⟨rfl, N7q, e7⟩ := hQ7
  have N7 := Fr.app N4 N7q
  clear N4 N4q X4 e4 X5 e5 X6 e6 N7q
  refine own_zy X7 hy d13_84 95 ((if0 _ _).trans (teq (by decide : ((0 : Int32) = (0 : Int32)))).1) ?_
  refine own_ky X7 hy d13_95 d13_96 d13_98 rfl 111 (feq (own_bne hbM (by decide))).2 ?_
  refine own_ky X7 hy d13_111 d13_112 d13_114 rfl 127 (feq (own_bne hbM (by decide))).2 ?_
  refine own_ky X7 hy d13_127 d13_128 d13_130 rfl 143 (feq (own_bne hbM (by decide))).2 ?_
  refine own_ic X7 hy d13_143 ?_
  refine own_is X7 hy d13_144 (l' := #[.val (.ref g), .val (.int (cc M)), .val (.int 0)]) rfl ?_
  refine own_il X7 hy d13_145 rfl ?_
  exact own_rF X7 hy hrt hlk d13_146 e7 ⟨rfl, N7, rfl⟩
def QrmBm (Z : State)  (h0 : Heap) (n0 : Nat) (v : Option Value) (h : Heap) (L : List Loc) : Prop := v = some (.int 0) ∧ Fr n0 L ∧ h = h0
theorem rmBm (hw : own_HW Z a0) (Z0 : n0 ≤ h0.size) (Gq : own_G Z h0 g ct ob (own_P oN kk) md dd oo (own_P oN M)) (g_g : n0 ≤ g) (At : Arv Z h0 ct kc .char (52 : Int32) tx (.int 0)) (hT : ∀ i, i < 49 → tx.getD (oN + i) (.int 0) = .int (cc i)) (H : own_H oN kk md M tf cc) (hst : (kk = M ∨ (M < kk ∧ own_bad M (cc M)))) :
  own_MF l "dev/parlance/JsonGrammar" "member" "()Z" prog_6_method_4_code 1 (some .boolean) ⟨1, 0, 0, 12⟩ #[(.ref g)] Z h0 (QrmBm Z  h0 n0) := by
 refine own_fst (plainFor_of_name own_pn17) (own_ef17 · g) fun p e s m below meth c s₁ hy hml hZ hown hnm hrt hlk X0 e0 => ?_
 have N0 := Fr.nil n0
 obtain ⟨⟨Eg, Ft, Fe, Fm, Fo, Fd, Fp, Fa⟩, ho, hk49, ne_ct_g⟩ := own_gi hw Gq At H
 have hM48 := H.2.2.1
 rcases hst with hkM | ⟨hkM, hbM⟩
 ·
  refine own_al X0 hy d17_0 rfl rfl ?_
  refine own_cp X0 hy hZ hown (own_y19 hw) (rmSk0 hw Z0 ⟨Eg, Ft, Fe, Fm, Fo, Fd, Fp, Fa⟩ g_g At hT H (by omega) (Or.inl (Nat.le_of_eq hkM))) e0 Eg d17_1 own_pd12 hml fun v1 T1 L1 X1 hQ1 => ?_
  obtain ⟨rfl, N1q, e1⟩ := hQ1
  have N1 := Fr.app N0 N1q
  refine own_ae X1 hy hZ hown hw e1 Fa Fe a17_4 fun T2 X2 e2 => ?_
  refine own_cy X2 hy d17_12 36 (teq (own_Peq hkM)).1 ?_
  refine own_ic X2 hy d17_36 ?_
  exact own_rF X2 hy hrt hlk d17_37 e2 ⟨rfl, N1, rfl⟩
 ·
  refine own_al X0 hy d17_0 rfl rfl ?_
  refine own_cp X0 hy hZ hown (own_y19 hw) (rmSk0 hw Z0 ⟨Eg, Ft, Fe, Fm, Fo, Fd, Fp, Fa⟩ g_g At hT H (by omega) (Or.inr ⟨hkM, own_bws hbM⟩)) e0 Eg d17_1 own_pd12 hml fun v3 T3 L3 X3 hQ3 => ?_
  obtain ⟨rfl, N3q, e3⟩ := hQ3
  have N3 := Fr.app N0 N3q
  refine own_ae X3 hy hZ hown hw e3 Fa Fe a17_4 fun T4 X4 e4 => ?_
  refine own_cn X4 hy d17_12 (feq (own_Pne ho hk49 hkM)).1 ?_
  refine own_tc X4 hy hZ hown hw e4 Ft Fa At ho hT (by omega) t17_15 fun T5 X5 e5 => ?_
  refine own_bp X5 hy d17_24 ?_
  refine own_cy X5 hy d17_26 36 (feq (own_bne hbM (by decide))).2 ?_
  refine own_ic X5 hy d17_36 ?_
  exact own_rF X5 hy hrt hlk d17_37 e5 ⟨rfl, N3, rfl⟩
theorem d12_15 : decode C12 15 = .ok (.iload_n 2, 1) := by decide +kernel
theorem d12_16 : decode C12 16 = .ok (.ifCond .eq 156, 3) := by decide +kernel
theorem d12_26 : decode C12 26 = .ok (.aload_n 0, 1) := by decide +kernel
theorem d12_27 : decode C12 27 = .ok (.invokevirtual 34, 3) := by decide +kernel
theorem d12_30 : decode C12 30 = .ok (.aload_n 0, 1) := by decide +kernel
theorem d12_31 : decode C12 31 = .ok (.getfield 7, 3) := by decide +kernel
theorem d12_34 : decode C12 34 = .ok (.aload_n 0, 1) := by decide +kernel
theorem d12_35 : decode C12 35 = .ok (.getfield 24, 3) := by decide +kernel
theorem d12_38 : decode C12 38 = .ok (.iconst 1, 1) := by decide +kernel
theorem d12_39 : decode C12 39 = .ok (.isub, 1) := by decide +kernel
theorem d12_40 : decode C12 40 = .ok (.baload, 1) := by decide +kernel
theorem d12_41 : decode C12 41 = .ok (.istore_n 3, 1) := by decide +kernel
theorem d12_42 : decode C12 42 = .ok (.aload_n 0, 1) := by decide +kernel
theorem d12_50 : decode C12 50 = .ok (.if_icmp .ge 15, 3) := by decide +kernel
theorem d12_53 : decode C12 53 = .ok (.aload_n 0, 1) := by decide +kernel
theorem d12_62 : decode C12 62 = .ok (.goto 4, 3) := by decide +kernel
theorem d12_65 : decode C12 65 = .ok (.iconst 0, 1) := by decide +kernel
theorem d12_66 : decode C12 66 = .ok (.istore 4, 2) := by decide +kernel
theorem d12_68 : decode C12 68 = .ok (.iload 4, 2) := by decide +kernel
theorem d12_70 : decode C12 70 = .ok (.iload_n 3, 1) := by decide +kernel
theorem d12_71 : decode C12 71 = .ok (.ifCond .eq 8, 3) := by decide +kernel
theorem d12_74 : decode C12 74 = .ok (.bipush 125, 2) := by decide +kernel
theorem d12_76 : decode C12 76 = .ok (.goto 5, 3) := by decide +kernel
theorem d12_81 : decode C12 81 = .ok (.if_icmp .ne 31, 3) := by decide +kernel
theorem d12_112 : decode C12 112 = .ok (.aload_n 0, 1) := by decide +kernel
theorem d12_113 : decode C12 113 = .ok (.getfield 37, 3) := by decide +kernel
theorem d12_116 : decode C12 116 = .ok (.ifCond .ne 10, 3) := by decide +kernel
theorem d12_126 : decode C12 126 = .ok (.aload_n 0, 1) := by decide +kernel
theorem d12_127 : decode C12 127 = .ok (.getfield 37, 3) := by decide +kernel
theorem d12_130 : decode C12 130 = .ok (.ifCond .ne 13, 3) := by decide +kernel
theorem d12_143 : decode C12 143 = .ok (.aload_n 0, 1) := by decide +kernel
theorem d12_144 : decode C12 144 = .ok (.iconst 0, 1) := by decide +kernel
theorem d12_145 : decode C12 145 = .ok (.putfield 37, 3) := by decide +kernel
theorem d12_148 : decode C12 148 = .ok (.iload_n 3, 1) := by decide +kernel
theorem d12_149 : decode C12 149 = .ok (.ifCond .eq 10, 3) := by decide +kernel
theorem d12_152 : decode C12 152 = .ok (.aload_n 0, 1) := by decide +kernel
theorem d12_153 : decode C12 153 = .ok (.invokevirtual 41, 3) := by decide +kernel
theorem d12_156 : decode C12 156 = .ok (.goto 7, 3) := by decide +kernel
theorem d12_163 : decode C12 163 = .ok (.istore_n 2, 1) := by decide +kernel
theorem d12_164 : decode C12 164 = .ok (.goto 5, 3) := by decide +kernel
theorem d12_169 : decode C12 169 = .ok (.goto (-154), 3) := by decide +kernel
theorem d12_172 : decode C12 172 = .ok (.iload_n 2, 1) := by decide +kernel
theorem d12_173 : decode C12 173 = .ok (.ifCond .eq 7, 3) := by decide +kernel
theorem d12_180 : decode C12 180 = .ok (.aload_n 0, 1) := by decide +kernel
theorem d12_181 : decode C12 181 = .ok (.getfield 27, 3) := by decide +kernel
theorem own_bsA (hw : own_HW Z a0) {p : Program} {e : Env} {s : State} {m : MethodId} {args : Array Value} {below : List Frame} {meth : Method} {c : Code} {T0 : State} {locs : List Loc} {cells slots : Nat} {P : State → Outcome → Prop} (X0 : Stand p l e ⟨7, 8, 116, 102⟩ s m args below meth c T0 locs cells slots) (hy : own_Y p c prog_6_method_2_code) (hZ : Z.Warmed39 s.vm) (hown : s.vm.findClass "dev/parlance/JsonGrammar" = some m.cls) (hml : c.maxLocals = 5) (e0 : T0.heap = h0) (Z0 : n0 ≤ h0.size) (N0 : Fr n0 locs) {p0 : Int32} (Gq : own_G Z h0 g ct ob (own_P oN kk) md (1 : Int32) (1 : Int32) (own_P oN M)) (g_g : n0 ≤ g) (At : Arv Z h0 ct kc .char (52 : Int32) tx (.int 0)) (hT : ∀ i, i < 49 → tx.getD (oN + i) (.int 0) = .int (cc i)) (H : own_H oN kk md M tf cc) (Ao : Arv Z h0 ob ko .boolean (16 : Int32) [(.int 1), w1, w2, w3, w4, w5, w6, w7, w8, w9, w10, w11, w12, w13, w14, w15] (.int 0)) (hst0 : (kk = M ∨ (M < kk ∧ own_bad M (cc M)))) (hcb : cells ≤ 8) (hsb : slots ≤ 116) (kd : ∀ T' locs' Ls', Stand p l e ⟨7, 8, 116, 102⟩ s m args below meth c T' locs' cells slots → Keep h0 T'.heap [g] → Fr n0 locs' → ∃ t o, Steps p.tables e below (T'.setTop (mkF m 184 Ls' [(.int (own_P oN M))])) t ∧ P t o) : ∃ t o, Steps p.tables e below (T0.setTop (mkF m 26 #[.val (.ref g), .val (.int p0), .val (.int 1), .unset, .unset] [])) t ∧ P t o := by
 have Kp0 : Keep h0 h0 [g] := Keep.refl h0 _
 obtain ⟨⟨Eg, Ft, Fe, Fm, Fo, Fd, Fp, Fa⟩, ho, hk49, ne_ct_g⟩ := own_gi hw Gq At H
 have hM48 := H.2.2.1
 have hst := hst0
 have ne_ob_g : ob ≠ g := Ne.symm (own_neA Eg (own_w hw 54 rfl) Ao)
 rcases hst with hkM | ⟨hkM, hbM⟩
 ·
  refine own_al X0 hy d12_26 rfl rfl ?_
  refine own_cp X0 hy hZ hown (own_y19 hw) (rmSk0 hw Z0 ⟨Eg, Ft, Fe, Fm, Fo, Fd, Fp, Fa⟩ g_g At hT H (by omega) (Or.inl (Nat.le_of_eq hkM))) e0 Eg d12_27 own_pd12 hml fun v1 T1 L1 X1 hQ1 => ?_
  obtain ⟨rfl, N1q, e1⟩ := hQ1
  have N1 := Fr.app N0 N1q
  refine own_al X1 hy d12_30 rfl rfl ?_
  refine own_gf X1 hy hZ hown (host := "") (Or.inl (own_w hw 63 rfl)) Via.refl e1 Fo d12_31 fun T3 X3 e3 => ?_
  refine own_al X3 hy d12_34 rfl rfl ?_
  refine own_gf X3 hy hZ hown (host := "") (Or.inl (own_w hw 76 rfl)) Via.refl e3 Fd d12_35 fun T4 X4 e4 => ?_
  refine own_ic X4 hy d12_38 ?_
  refine own_sb X4 hy d12_39 ?_
  refine own_bz X4 hy hZ e4 Ao ⟨by decide, by decide⟩ (v := (.int 1)) rfl d12_40 ?_
  refine own_is X4 hy d12_41 (l' := #[.val (.ref g), .val (.int p0), .val (.int 1), .val (.int 1), .unset]) rfl ?_
  refine own_ae X4 hy hZ hown hw e4 Fa Fe a12_42 fun T6 X6 e6 => ?_
  refine own_cy X6 hy d12_50 65 (flt (own_Pge ho hk49 (Nat.le_of_eq hkM) (by omega))).2.1 ?_
  refine own_ic X6 hy d12_65 ?_
  refine own_it X6 hy d12_66 (l' := #[.val (.ref g), .val (.int p0), .val (.int 1), .val (.int 1), .val (.int 0)]) rfl ?_
  refine own_iw X6 hy d12_68 rfl ?_
  refine own_il X6 hy d12_70 rfl ?_
  refine own_zn X6 hy d12_71 ((if0 _ _).trans (feq (by decide : ¬ ((1 : Int32) = (0 : Int32)))).1) ?_
  refine own_bp X6 hy d12_74 ?_
  refine own_gt X6 hy d12_76 81 ?_
  refine own_cy X6 hy d12_81 112 (feq (by decide : ¬ ((0 : Int32) = (125 : Int32)))).2 ?_
  refine own_al X6 hy d12_112 rfl rfl ?_
  refine own_gf X6 hy hZ hown (host := "") (Or.inl (own_w hw 95 rfl)) Via.refl e6 Fp d12_113 fun T7 X7 e7 => ?_
  clear N1q X1 e1 X3 e3 X4 e4 X6 e6
  refine own_zy X7 hy d12_116 126 ((if0 _ _).trans (feq (by decide : ¬ ((1 : Int32) = (0 : Int32)))).2) ?_
  refine own_al X7 hy d12_126 rfl rfl ?_
  refine own_gf X7 hy hZ hown (host := "") (Or.inl (own_w hw 95 rfl)) Via.refl e7 Fp d12_127 fun T8 X8 e8 => ?_
  refine own_zy X8 hy d12_130 143 ((if0 _ _).trans (feq (by decide : ¬ ((1 : Int32) = (0 : Int32)))).2) ?_
  refine own_al X8 hy d12_143 rfl rfl ?_
  refine own_ic X8 hy d12_144 ?_
  refine own_pn X8 hy hZ hown (own_w hw 95 rfl) Via.refl e8 Fp Eg (Or.inl (own_w hw 96 rfl)) (own_w hw 54 rfl) (ty := .boolean) (v' := (.int 0)) (by decide) rfl (by first | exact fits_nar_bool _ | decide) d12_145 fun T9 h9 X9 e9 W9 => ?_
  replace At := At.other W9 ne_ct_g
  replace Ao := Ao.other W9 ne_ob_g
  have Z9 := own_zw Z0 W9
  have Kp9 := Kp0.wr W9 own_m0
  obtain ⟨Eg, Ft, Fe, Fm, Fo, Fd, Fp, Fa⟩ := own_Gop hw ⟨Eg, Ft, Fe, Fm, Fo, Fd, Fp, Fa⟩ W9 rfl
  have N9 := Fr.snoc X9 N1 g_g
  refine own_il X9 hy d12_148 rfl ?_
  refine own_zn X9 hy d12_149 ((if0 _ _).trans (feq (by decide : ¬ ((1 : Int32) = (0 : Int32)))).1) ?_
  refine own_al X9 hy d12_152 rfl rfl ?_
  refine own_cp X9 hy hZ hown (own_y25 hw) (rmBm hw Z9 ⟨Eg, Ft, Fe, Fm, Fo, Fd, Fp, Fa⟩ g_g At hT H hst0) e9 Eg d12_153 own_pd3 hml fun v10 T10 L10 X10 hQ10 => ?_
  obtain ⟨rfl, N10q, e10⟩ := hQ10
  have N10 := Fr.app N9 N10q
  clear N1 X7 e7 X8 e8 X9 e9 W9 N9 N10q
  refine own_gt X10 hy d12_156 163 ?_
  refine own_is X10 hy d12_163 (l' := #[.val (.ref g), .val (.int p0), .val (.int 0), .val (.int 1), .val (.int 0)]) rfl ?_
  refine own_gt X10 hy d12_164 169 ?_
  refine own_gt X10 hy d12_169 15 ?_
  refine own_il X10 hy d12_15 rfl ?_
  refine own_zy X10 hy d12_16 172 ((if0 _ _).trans (teq (by decide : ((0 : Int32) = (0 : Int32)))).1) ?_
  refine own_il X10 hy d12_172 rfl ?_
  refine own_zy X10 hy d12_173 180 ((if0 _ _).trans (teq (by decide : ((0 : Int32) = (0 : Int32)))).1) ?_
  refine own_al X10 hy d12_180 rfl rfl ?_
  refine own_gf X10 hy hZ hown (host := "") (Or.inl (own_w hw 78 rfl)) Via.refl e10 Fa d12_181 fun T11 X11 e11 => ?_
  exact kd _ _ _ X11 (by rw [e11]; exact Kp9) N10
 ·
  refine own_al X0 hy d12_26 rfl rfl ?_
  refine own_cp X0 hy hZ hown (own_y19 hw) (rmSk0 hw Z0 ⟨Eg, Ft, Fe, Fm, Fo, Fd, Fp, Fa⟩ g_g At hT H (by omega) (Or.inr ⟨hkM, own_bws hbM⟩)) e0 Eg d12_27 own_pd12 hml fun v12 T12 L12 X12 hQ12 => ?_
  obtain ⟨rfl, N12q, e12⟩ := hQ12
  have N12 := Fr.app N0 N12q
  refine own_al X12 hy d12_30 rfl rfl ?_
  refine own_gf X12 hy hZ hown (host := "") (Or.inl (own_w hw 63 rfl)) Via.refl e12 Fo d12_31 fun T14 X14 e14 => ?_
  refine own_al X14 hy d12_34 rfl rfl ?_
  refine own_gf X14 hy hZ hown (host := "") (Or.inl (own_w hw 76 rfl)) Via.refl e14 Fd d12_35 fun T15 X15 e15 => ?_
  refine own_ic X15 hy d12_38 ?_
  refine own_sb X15 hy d12_39 ?_
  refine own_bz X15 hy hZ e15 Ao ⟨by decide, by decide⟩ (v := (.int 1)) rfl d12_40 ?_
  refine own_is X15 hy d12_41 (l' := #[.val (.ref g), .val (.int p0), .val (.int 1), .val (.int 1), .unset]) rfl ?_
  refine own_ae X15 hy hZ hown hw e15 Fa Fe a12_42 fun T17 X17 e17 => ?_
  refine own_cn X17 hy d12_50 (tlt (own_Plt ho hk49 hkM)).2.1 ?_
  refine own_tc X17 hy hZ hown hw e17 Ft Fa At ho hT (by omega) t12_53 fun T18 X18 e18 => ?_
  clear N12q X12 e12 X14 e14 X15 e15 X17 e17
  refine own_gt X18 hy d12_62 66 ?_
  refine own_it X18 hy d12_66 (l' := #[.val (.ref g), .val (.int p0), .val (.int 1), .val (.int 1), .val (.int (cc M))]) rfl ?_
  refine own_iw X18 hy d12_68 rfl ?_
  refine own_il X18 hy d12_70 rfl ?_
  refine own_zn X18 hy d12_71 ((if0 _ _).trans (feq (by decide : ¬ ((1 : Int32) = (0 : Int32)))).1) ?_
  refine own_bp X18 hy d12_74 ?_
  refine own_gt X18 hy d12_76 81 ?_
  refine own_cy X18 hy d12_81 112 (feq (own_bne hbM (by decide))).2 ?_
  refine own_al X18 hy d12_112 rfl rfl ?_
  refine own_gf X18 hy hZ hown (host := "") (Or.inl (own_w hw 95 rfl)) Via.refl e18 Fp d12_113 fun T19 X19 e19 => ?_
  refine own_zy X19 hy d12_116 126 ((if0 _ _).trans (feq (by decide : ¬ ((1 : Int32) = (0 : Int32)))).2) ?_
  refine own_al X19 hy d12_126 rfl rfl ?_
  refine own_gf X19 hy hZ hown (host := "") (Or.inl (own_w hw 95 rfl)) Via.refl e19 Fp d12_127 fun T20 X20 e20 => ?_
  refine own_zy X20 hy d12_130 143 ((if0 _ _).trans (feq (by decide : ¬ ((1 : Int32) = (0 : Int32)))).2) ?_
  refine own_al X20 hy d12_143 rfl rfl ?_
  refine own_ic X20 hy d12_144 ?_
  refine own_pn X20 hy hZ hown (own_w hw 95 rfl) Via.refl e20 Fp Eg (Or.inl (own_w hw 96 rfl)) (own_w hw 54 rfl) (ty := .boolean) (v' := (.int 0)) (by decide) rfl (by first | exact fits_nar_bool _ | decide) d12_145 fun T21 h21 X21 e21 W21 => ?_
  replace At := At.other W21 ne_ct_g
  replace Ao := Ao.other W21 ne_ob_g
  have Z21 := own_zw Z0 W21
  have Kp21 := Kp0.wr W21 own_m0
  obtain ⟨Eg, Ft, Fe, Fm, Fo, Fd, Fp, Fa⟩ := own_Gop hw ⟨Eg, Ft, Fe, Fm, Fo, Fd, Fp, Fa⟩ W21 rfl
  have N21 := Fr.snoc X21 N12 g_g
  clear N12 X18 e18 X19 e19 X20 e20 W21
  refine own_il X21 hy d12_148 rfl ?_
  refine own_zn X21 hy d12_149 ((if0 _ _).trans (feq (by decide : ¬ ((1 : Int32) = (0 : Int32)))).1) ?_
  refine own_al X21 hy d12_152 rfl rfl ?_
  refine own_cp X21 hy hZ hown (own_y25 hw) (rmBm hw Z21 ⟨Eg, Ft, Fe, Fm, Fo, Fd, Fp, Fa⟩ g_g At hT H hst0) e21 Eg d12_153 own_pd3 hml fun v22 T22 L22 X22 hQ22 => ?_
  obtain ⟨rfl, N22q, e22⟩ := hQ22
  have N22 := Fr.app N21 N22q
  refine own_gt X22 hy d12_156 163 ?_
  refine own_is X22 hy d12_163 (l' := #[.val (.ref g), .val (.int p0), .val (.int 0), .val (.int 1), .val (.int (cc M))]) rfl ?_
  refine own_gt X22 hy d12_164 169 ?_
  refine own_gt X22 hy d12_169 15 ?_
  refine own_il X22 hy d12_15 rfl ?_
  refine own_zy X22 hy d12_16 172 ((if0 _ _).trans (teq (by decide : ((0 : Int32) = (0 : Int32)))).1) ?_
  refine own_il X22 hy d12_172 rfl ?_
  refine own_zy X22 hy d12_173 180 ((if0 _ _).trans (teq (by decide : ((0 : Int32) = (0 : Int32)))).1) ?_
  refine own_al X22 hy d12_180 rfl rfl ?_
  refine own_gf X22 hy hZ hown (host := "") (Or.inl (own_w hw 78 rfl)) Via.refl e22 Fa d12_181 fun T23 X23 e23 => ?_
  exact kd _ _ _ X23 (by rw [e23]; exact Kp21) N22
theorem d12_79 : decode C12 79 = .ok (.bipush 93, 2) := by decide +kernel
theorem d12_159 : decode C12 159 = .ok (.aload_n 0, 1) := by decide +kernel
theorem d12_160 : decode C12 160 = .ok (.invokevirtual 30, 3) := by decide +kernel
theorem own_bsB (hw : own_HW Z a0) {p : Program} {e : Env} {s : State} {m : MethodId} {args : Array Value} {below : List Frame} {meth : Method} {c : Code} {T0 : State} {locs : List Loc} {cells slots : Nat} {P : State → Outcome → Prop} (X0 : Stand p l e ⟨7, 8, 116, 102⟩ s m args below meth c T0 locs cells slots) (hy : own_Y p c prog_6_method_2_code) (hZ : Z.Warmed39 s.vm) (hown : s.vm.findClass "dev/parlance/JsonGrammar" = some m.cls) (hml : c.maxLocals = 5) (e0 : T0.heap = h0) (Z0 : n0 ≤ h0.size) (N0 : Fr n0 locs) {p0 q3 q4 : Int32} (Gq : own_G Z h0 g ct ob (own_P oN kk) md (2 : Int32) (1 : Int32) (own_P oN M)) (g_g : n0 ≤ g) (At : Arv Z h0 ct kc .char (52 : Int32) tx (.int 0)) (hT : ∀ i, i < 49 → tx.getD (oN + i) (.int 0) = .int (cc i)) (H : own_H oN kk md M tf cc) (Ao : Arv Z h0 ob ko .boolean (16 : Int32) [w0, (.int 0), w2, w3, w4, w5, w6, w7, w8, w9, w10, w11, w12, w13, w14, w15] (.int 0)) (hst0 : (kk = M ∨ (M < kk ∧ own_bad M (cc M)))) (hcb : cells ≤ 8) (hsb : slots ≤ 116) (kd : ∀ T' locs' Ls', Stand p l e ⟨7, 8, 116, 102⟩ s m args below meth c T' locs' cells slots → Keep h0 T'.heap [g] → Fr n0 locs' → ∃ t o, Steps p.tables e below (T'.setTop (mkF m 184 Ls' [(.int (own_P oN M))])) t ∧ P t o) : ∃ t o, Steps p.tables e below (T0.setTop (mkF m 26 #[.val (.ref g), .val (.int p0), .val (.int 1), .val (.int q3), .val (.int q4)] [])) t ∧ P t o := by
 have Kp0 : Keep h0 h0 [g] := Keep.refl h0 _
 obtain ⟨⟨Eg, Ft, Fe, Fm, Fo, Fd, Fp, Fa⟩, ho, hk49, ne_ct_g⟩ := own_gi hw Gq At H
 have hM48 := H.2.2.1
 have hst := hst0
 have ne_ob_g : ob ≠ g := Ne.symm (own_neA Eg (own_w hw 54 rfl) Ao)
 rcases hst with hkM | ⟨hkM, hbM⟩
 ·
  refine own_al X0 hy d12_26 rfl rfl ?_
  refine own_cp X0 hy hZ hown (own_y19 hw) (rmSk0 hw Z0 ⟨Eg, Ft, Fe, Fm, Fo, Fd, Fp, Fa⟩ g_g At hT H (by omega) (Or.inl (Nat.le_of_eq hkM))) e0 Eg d12_27 own_pd12 hml fun v1 T1 L1 X1 hQ1 => ?_
  obtain ⟨rfl, N1q, e1⟩ := hQ1
  have N1 := Fr.app N0 N1q
  refine own_al X1 hy d12_30 rfl rfl ?_
  refine own_gf X1 hy hZ hown (host := "") (Or.inl (own_w hw 63 rfl)) Via.refl e1 Fo d12_31 fun T3 X3 e3 => ?_
  refine own_al X3 hy d12_34 rfl rfl ?_
  refine own_gf X3 hy hZ hown (host := "") (Or.inl (own_w hw 76 rfl)) Via.refl e3 Fd d12_35 fun T4 X4 e4 => ?_
  refine own_ic X4 hy d12_38 ?_
  refine own_sb X4 hy d12_39 ?_
  refine own_bz X4 hy hZ e4 Ao ⟨by decide, by decide⟩ (v := (.int 0)) rfl d12_40 ?_
  refine own_is X4 hy d12_41 (l' := #[.val (.ref g), .val (.int p0), .val (.int 1), .val (.int 0), .val (.int q4)]) rfl ?_
  refine own_ae X4 hy hZ hown hw e4 Fa Fe a12_42 fun T6 X6 e6 => ?_
  refine own_cy X6 hy d12_50 65 (flt (own_Pge ho hk49 (Nat.le_of_eq hkM) (by omega))).2.1 ?_
  refine own_ic X6 hy d12_65 ?_
  refine own_it X6 hy d12_66 (l' := #[.val (.ref g), .val (.int p0), .val (.int 1), .val (.int 0), .val (.int 0)]) rfl ?_
  refine own_iw X6 hy d12_68 rfl ?_
  refine own_il X6 hy d12_70 rfl ?_
  refine own_zy X6 hy d12_71 79 ((if0 _ _).trans (teq (by decide : ((0 : Int32) = (0 : Int32)))).1) ?_
  refine own_bp X6 hy d12_79 ?_
  refine own_cy X6 hy d12_81 112 (feq (by decide : ¬ ((0 : Int32) = (93 : Int32)))).2 ?_
  refine own_al X6 hy d12_112 rfl rfl ?_
  refine own_gf X6 hy hZ hown (host := "") (Or.inl (own_w hw 95 rfl)) Via.refl e6 Fp d12_113 fun T7 X7 e7 => ?_
  clear N1q X1 e1 X3 e3 X4 e4 X6 e6
  refine own_zy X7 hy d12_116 126 ((if0 _ _).trans (feq (by decide : ¬ ((1 : Int32) = (0 : Int32)))).2) ?_
  refine own_al X7 hy d12_126 rfl rfl ?_
  refine own_gf X7 hy hZ hown (host := "") (Or.inl (own_w hw 95 rfl)) Via.refl e7 Fp d12_127 fun T8 X8 e8 => ?_
  refine own_zy X8 hy d12_130 143 ((if0 _ _).trans (feq (by decide : ¬ ((1 : Int32) = (0 : Int32)))).2) ?_
  refine own_al X8 hy d12_143 rfl rfl ?_
  refine own_ic X8 hy d12_144 ?_
  refine own_pn X8 hy hZ hown (own_w hw 95 rfl) Via.refl e8 Fp Eg (Or.inl (own_w hw 96 rfl)) (own_w hw 54 rfl) (ty := .boolean) (v' := (.int 0)) (by decide) rfl (by first | exact fits_nar_bool _ | decide) d12_145 fun T9 h9 X9 e9 W9 => ?_
  replace At := At.other W9 ne_ct_g
  replace Ao := Ao.other W9 ne_ob_g
  have Z9 := own_zw Z0 W9
  have Kp9 := Kp0.wr W9 own_m0
  obtain ⟨Eg, Ft, Fe, Fm, Fo, Fd, Fp, Fa⟩ := own_Gop hw ⟨Eg, Ft, Fe, Fm, Fo, Fd, Fp, Fa⟩ W9 rfl
  have N9 := Fr.snoc X9 N1 g_g
  refine own_il X9 hy d12_148 rfl ?_
  refine own_zy X9 hy d12_149 159 ((if0 _ _).trans (teq (by decide : ((0 : Int32) = (0 : Int32)))).1) ?_
  refine own_al X9 hy d12_159 rfl rfl ?_
  refine own_cp X9 hy hZ hown (own_y24 hw) (rmBv hw Z9 ⟨Eg, Ft, Fe, Fm, Fo, Fd, Fp, Fa⟩ g_g At hT H hst0) e9 Eg d12_160 own_pd3 hml fun v10 T10 L10 X10 hQ10 => ?_
  obtain ⟨rfl, N10q, e10⟩ := hQ10
  have N10 := Fr.app N9 N10q
  clear N1 X7 e7 X8 e8 X9 e9 W9 N9 N10q
  refine own_is X10 hy d12_163 (l' := #[.val (.ref g), .val (.int p0), .val (.int 0), .val (.int 0), .val (.int 0)]) rfl ?_
  refine own_gt X10 hy d12_164 169 ?_
  refine own_gt X10 hy d12_169 15 ?_
  refine own_il X10 hy d12_15 rfl ?_
  refine own_zy X10 hy d12_16 172 ((if0 _ _).trans (teq (by decide : ((0 : Int32) = (0 : Int32)))).1) ?_
  refine own_il X10 hy d12_172 rfl ?_
  refine own_zy X10 hy d12_173 180 ((if0 _ _).trans (teq (by decide : ((0 : Int32) = (0 : Int32)))).1) ?_
  refine own_al X10 hy d12_180 rfl rfl ?_
  refine own_gf X10 hy hZ hown (host := "") (Or.inl (own_w hw 78 rfl)) Via.refl e10 Fa d12_181 fun T11 X11 e11 => ?_
  exact kd _ _ _ X11 (by rw [e11]; exact Kp9) N10
 ·
  refine own_al X0 hy d12_26 rfl rfl ?_
  refine own_cp X0 hy hZ hown (own_y19 hw) (rmSk0 hw Z0 ⟨Eg, Ft, Fe, Fm, Fo, Fd, Fp, Fa⟩ g_g At hT H (by omega) (Or.inr ⟨hkM, own_bws hbM⟩)) e0 Eg d12_27 own_pd12 hml fun v12 T12 L12 X12 hQ12 => ?_
  obtain ⟨rfl, N12q, e12⟩ := hQ12
  have N12 := Fr.app N0 N12q
  refine own_al X12 hy d12_30 rfl rfl ?_
  refine own_gf X12 hy hZ hown (host := "") (Or.inl (own_w hw 63 rfl)) Via.refl e12 Fo d12_31 fun T14 X14 e14 => ?_
  refine own_al X14 hy d12_34 rfl rfl ?_
  refine own_gf X14 hy hZ hown (host := "") (Or.inl (own_w hw 76 rfl)) Via.refl e14 Fd d12_35 fun T15 X15 e15 => ?_
  refine own_ic X15 hy d12_38 ?_
  refine own_sb X15 hy d12_39 ?_
  refine own_bz X15 hy hZ e15 Ao ⟨by decide, by decide⟩ (v := (.int 0)) rfl d12_40 ?_
  refine own_is X15 hy d12_41 (l' := #[.val (.ref g), .val (.int p0), .val (.int 1), .val (.int 0), .val (.int q4)]) rfl ?_
  refine own_ae X15 hy hZ hown hw e15 Fa Fe a12_42 fun T17 X17 e17 => ?_
  refine own_cn X17 hy d12_50 (tlt (own_Plt ho hk49 hkM)).2.1 ?_
  refine own_tc X17 hy hZ hown hw e17 Ft Fa At ho hT (by omega) t12_53 fun T18 X18 e18 => ?_
  clear N12q X12 e12 X14 e14 X15 e15 X17 e17
  refine own_gt X18 hy d12_62 66 ?_
  refine own_it X18 hy d12_66 (l' := #[.val (.ref g), .val (.int p0), .val (.int 1), .val (.int 0), .val (.int (cc M))]) rfl ?_
  refine own_iw X18 hy d12_68 rfl ?_
  refine own_il X18 hy d12_70 rfl ?_
  refine own_zy X18 hy d12_71 79 ((if0 _ _).trans (teq (by decide : ((0 : Int32) = (0 : Int32)))).1) ?_
  refine own_bp X18 hy d12_79 ?_
  refine own_cy X18 hy d12_81 112 (feq (own_bne hbM (by decide))).2 ?_
  refine own_al X18 hy d12_112 rfl rfl ?_
  refine own_gf X18 hy hZ hown (host := "") (Or.inl (own_w hw 95 rfl)) Via.refl e18 Fp d12_113 fun T19 X19 e19 => ?_
  refine own_zy X19 hy d12_116 126 ((if0 _ _).trans (feq (by decide : ¬ ((1 : Int32) = (0 : Int32)))).2) ?_
  refine own_al X19 hy d12_126 rfl rfl ?_
  refine own_gf X19 hy hZ hown (host := "") (Or.inl (own_w hw 95 rfl)) Via.refl e19 Fp d12_127 fun T20 X20 e20 => ?_
  refine own_zy X20 hy d12_130 143 ((if0 _ _).trans (feq (by decide : ¬ ((1 : Int32) = (0 : Int32)))).2) ?_
  refine own_al X20 hy d12_143 rfl rfl ?_
  refine own_ic X20 hy d12_144 ?_
  refine own_pn X20 hy hZ hown (own_w hw 95 rfl) Via.refl e20 Fp Eg (Or.inl (own_w hw 96 rfl)) (own_w hw 54 rfl) (ty := .boolean) (v' := (.int 0)) (by decide) rfl (by first | exact fits_nar_bool _ | decide) d12_145 fun T21 h21 X21 e21 W21 => ?_
  replace At := At.other W21 ne_ct_g
  replace Ao := Ao.other W21 ne_ob_g
  have Z21 := own_zw Z0 W21
  have Kp21 := Kp0.wr W21 own_m0
  obtain ⟨Eg, Ft, Fe, Fm, Fo, Fd, Fp, Fa⟩ := own_Gop hw ⟨Eg, Ft, Fe, Fm, Fo, Fd, Fp, Fa⟩ W21 rfl
  have N21 := Fr.snoc X21 N12 g_g
  clear N12 X18 e18 X19 e19 X20 e20 W21
  refine own_il X21 hy d12_148 rfl ?_
  refine own_zy X21 hy d12_149 159 ((if0 _ _).trans (teq (by decide : ((0 : Int32) = (0 : Int32)))).1) ?_
  refine own_al X21 hy d12_159 rfl rfl ?_
  refine own_cp X21 hy hZ hown (own_y24 hw) (rmBv hw Z21 ⟨Eg, Ft, Fe, Fm, Fo, Fd, Fp, Fa⟩ g_g At hT H hst0) e21 Eg d12_160 own_pd3 hml fun v22 T22 L22 X22 hQ22 => ?_
  obtain ⟨rfl, N22q, e22⟩ := hQ22
  have N22 := Fr.app N21 N22q
  refine own_is X22 hy d12_163 (l' := #[.val (.ref g), .val (.int p0), .val (.int 0), .val (.int 0), .val (.int (cc M))]) rfl ?_
  refine own_gt X22 hy d12_164 169 ?_
  refine own_gt X22 hy d12_169 15 ?_
  refine own_il X22 hy d12_15 rfl ?_
  refine own_zy X22 hy d12_16 172 ((if0 _ _).trans (teq (by decide : ((0 : Int32) = (0 : Int32)))).1) ?_
  refine own_il X22 hy d12_172 rfl ?_
  refine own_zy X22 hy d12_173 180 ((if0 _ _).trans (teq (by decide : ((0 : Int32) = (0 : Int32)))).1) ?_
  refine own_al X22 hy d12_180 rfl rfl ?_
  refine own_gf X22 hy hZ hown (host := "") (Or.inl (own_w hw 78 rfl)) Via.refl e22 Fa d12_181 fun T23 X23 e23 => ?_
  exact kd _ _ _ X23 (by rw [e23]; exact Kp21) N22
theorem d12_119 : decode C12 119 = .ok (.iload 4, 2) := by decide +kernel
theorem d12_121 : decode C12 121 = .ok (.bipush 44, 2) := by decide +kernel
theorem d12_123 : decode C12 123 = .ok (.if_icmp .ne 44, 3) := by decide +kernel
theorem d12_167 : decode C12 167 = .ok (.iconst 0, 1) := by decide +kernel
theorem d12_168 : decode C12 168 = .ok (.istore_n 2, 1) := by decide +kernel
theorem own_bsC (hw : own_HW Z a0) {p : Program} {e : Env} {s : State} {m : MethodId} {args : Array Value} {below : List Frame} {meth : Method} {c : Code} {T0 : State} {locs : List Loc} {cells slots : Nat} {P : State → Outcome → Prop} (X0 : Stand p l e ⟨7, 8, 116, 102⟩ s m args below meth c T0 locs cells slots) (hy : own_Y p c prog_6_method_2_code) (hZ : Z.Warmed39 s.vm) (hown : s.vm.findClass "dev/parlance/JsonGrammar" = some m.cls) (hml : c.maxLocals = 5) (e0 : T0.heap = h0) (Z0 : n0 ≤ h0.size) (N0 : Fr n0 locs) {p0 q3 q4 : Int32} (Gq : own_G Z h0 g ct ob (own_P oN kk) md (2 : Int32) (0 : Int32) (own_P oN M)) (g_g : n0 ≤ g) (At : Arv Z h0 ct kc .char (52 : Int32) tx (.int 0)) (hT : ∀ i, i < 49 → tx.getD (oN + i) (.int 0) = .int (cc i)) (H : own_H oN kk md M tf cc) (Ao : Arv Z h0 ob ko .boolean (16 : Int32) [w0, (.int 0), w2, w3, w4, w5, w6, w7, w8, w9, w10, w11, w12, w13, w14, w15] (.int 0)) (hst0 : (kk = M ∨ (M < kk ∧ own_bad M (cc M)))) (hcb : cells ≤ 8) (hsb : slots ≤ 116) (kd : ∀ T' locs' Ls', Stand p l e ⟨7, 8, 116, 102⟩ s m args below meth c T' locs' cells slots → Keep h0 T'.heap [g] → Fr n0 locs' → ∃ t o, Steps p.tables e below (T'.setTop (mkF m 184 Ls' [(.int (own_P oN M))])) t ∧ P t o) : ∃ t o, Steps p.tables e below (T0.setTop (mkF m 26 #[.val (.ref g), .val (.int p0), .val (.int 1), .val (.int q3), .val (.int q4)] [])) t ∧ P t o := by
 have Kp0 : Keep h0 h0 [g] := Keep.refl h0 _
 obtain ⟨⟨Eg, Ft, Fe, Fm, Fo, Fd, Fp, Fa⟩, ho, hk49, ne_ct_g⟩ := own_gi hw Gq At H
 have hM48 := H.2.2.1
 have hst := hst0
 have ne_ob_g : ob ≠ g := Ne.symm (own_neA Eg (own_w hw 54 rfl) Ao)
 rcases hst with hkM | ⟨hkM, hbM⟩
 ·
  refine own_al X0 hy d12_26 rfl rfl ?_
  refine own_cp X0 hy hZ hown (own_y19 hw) (rmSk0 hw Z0 ⟨Eg, Ft, Fe, Fm, Fo, Fd, Fp, Fa⟩ g_g At hT H (by omega) (Or.inl (Nat.le_of_eq hkM))) e0 Eg d12_27 own_pd12 hml fun v1 T1 L1 X1 hQ1 => ?_
  obtain ⟨rfl, N1q, e1⟩ := hQ1
  have N1 := Fr.app N0 N1q
  refine own_al X1 hy d12_30 rfl rfl ?_
  refine own_gf X1 hy hZ hown (host := "") (Or.inl (own_w hw 63 rfl)) Via.refl e1 Fo d12_31 fun T3 X3 e3 => ?_
  refine own_al X3 hy d12_34 rfl rfl ?_
  refine own_gf X3 hy hZ hown (host := "") (Or.inl (own_w hw 76 rfl)) Via.refl e3 Fd d12_35 fun T4 X4 e4 => ?_
  refine own_ic X4 hy d12_38 ?_
  refine own_sb X4 hy d12_39 ?_
  refine own_bz X4 hy hZ e4 Ao ⟨by decide, by decide⟩ (v := (.int 0)) rfl d12_40 ?_
  refine own_is X4 hy d12_41 (l' := #[.val (.ref g), .val (.int p0), .val (.int 1), .val (.int 0), .val (.int q4)]) rfl ?_
  refine own_ae X4 hy hZ hown hw e4 Fa Fe a12_42 fun T6 X6 e6 => ?_
  refine own_cy X6 hy d12_50 65 (flt (own_Pge ho hk49 (Nat.le_of_eq hkM) (by omega))).2.1 ?_
  refine own_ic X6 hy d12_65 ?_
  refine own_it X6 hy d12_66 (l' := #[.val (.ref g), .val (.int p0), .val (.int 1), .val (.int 0), .val (.int 0)]) rfl ?_
  refine own_iw X6 hy d12_68 rfl ?_
  refine own_il X6 hy d12_70 rfl ?_
  refine own_zy X6 hy d12_71 79 ((if0 _ _).trans (teq (by decide : ((0 : Int32) = (0 : Int32)))).1) ?_
  refine own_bp X6 hy d12_79 ?_
  refine own_cy X6 hy d12_81 112 (feq (by decide : ¬ ((0 : Int32) = (93 : Int32)))).2 ?_
  refine own_al X6 hy d12_112 rfl rfl ?_
  refine own_gf X6 hy hZ hown (host := "") (Or.inl (own_w hw 95 rfl)) Via.refl e6 Fp d12_113 fun T7 X7 e7 => ?_
  clear N1q X1 e1 X3 e3 X4 e4 X6 e6
  refine own_zn X7 hy d12_116 ((if0 _ _).trans (teq (by decide : ((0 : Int32) = (0 : Int32)))).2) ?_
  refine own_iw X7 hy d12_119 rfl ?_
  refine own_bp X7 hy d12_121 ?_
  refine own_cy X7 hy d12_123 167 (feq (by decide : ¬ ((0 : Int32) = (44 : Int32)))).2 ?_
  refine own_ic X7 hy d12_167 ?_
  refine own_is X7 hy d12_168 (l' := #[.val (.ref g), .val (.int p0), .val (.int 0), .val (.int 0), .val (.int 0)]) rfl ?_
  refine own_gt X7 hy d12_169 15 ?_
  refine own_il X7 hy d12_15 rfl ?_
  refine own_zy X7 hy d12_16 172 ((if0 _ _).trans (teq (by decide : ((0 : Int32) = (0 : Int32)))).1) ?_
  refine own_il X7 hy d12_172 rfl ?_
  refine own_zy X7 hy d12_173 180 ((if0 _ _).trans (teq (by decide : ((0 : Int32) = (0 : Int32)))).1) ?_
  refine own_al X7 hy d12_180 rfl rfl ?_
  refine own_gf X7 hy hZ hown (host := "") (Or.inl (own_w hw 78 rfl)) Via.refl e7 Fa d12_181 fun T8 X8 e8 => ?_
  exact kd _ _ _ X8 (by rw [e8]; exact Kp0) N1
 ·
  refine own_al X0 hy d12_26 rfl rfl ?_
  refine own_cp X0 hy hZ hown (own_y19 hw) (rmSk0 hw Z0 ⟨Eg, Ft, Fe, Fm, Fo, Fd, Fp, Fa⟩ g_g At hT H (by omega) (Or.inr ⟨hkM, own_bws hbM⟩)) e0 Eg d12_27 own_pd12 hml fun v9 T9 L9 X9 hQ9 => ?_
  obtain ⟨rfl, N9q, e9⟩ := hQ9
  have N9 := Fr.app N0 N9q
  refine own_al X9 hy d12_30 rfl rfl ?_
  refine own_gf X9 hy hZ hown (host := "") (Or.inl (own_w hw 63 rfl)) Via.refl e9 Fo d12_31 fun T11 X11 e11 => ?_
  refine own_al X11 hy d12_34 rfl rfl ?_
  refine own_gf X11 hy hZ hown (host := "") (Or.inl (own_w hw 76 rfl)) Via.refl e11 Fd d12_35 fun T12 X12 e12 => ?_
  refine own_ic X12 hy d12_38 ?_
  refine own_sb X12 hy d12_39 ?_
  refine own_bz X12 hy hZ e12 Ao ⟨by decide, by decide⟩ (v := (.int 0)) rfl d12_40 ?_
  refine own_is X12 hy d12_41 (l' := #[.val (.ref g), .val (.int p0), .val (.int 1), .val (.int 0), .val (.int q4)]) rfl ?_
  refine own_ae X12 hy hZ hown hw e12 Fa Fe a12_42 fun T14 X14 e14 => ?_
  refine own_cn X14 hy d12_50 (tlt (own_Plt ho hk49 hkM)).2.1 ?_
  refine own_tc X14 hy hZ hown hw e14 Ft Fa At ho hT (by omega) t12_53 fun T15 X15 e15 => ?_
  clear N9q X9 e9 X11 e11 X12 e12 X14 e14
  refine own_gt X15 hy d12_62 66 ?_
  refine own_it X15 hy d12_66 (l' := #[.val (.ref g), .val (.int p0), .val (.int 1), .val (.int 0), .val (.int (cc M))]) rfl ?_
  refine own_iw X15 hy d12_68 rfl ?_
  refine own_il X15 hy d12_70 rfl ?_
  refine own_zy X15 hy d12_71 79 ((if0 _ _).trans (teq (by decide : ((0 : Int32) = (0 : Int32)))).1) ?_
  refine own_bp X15 hy d12_79 ?_
  refine own_cy X15 hy d12_81 112 (feq (own_bne hbM (by decide))).2 ?_
  refine own_al X15 hy d12_112 rfl rfl ?_
  refine own_gf X15 hy hZ hown (host := "") (Or.inl (own_w hw 95 rfl)) Via.refl e15 Fp d12_113 fun T16 X16 e16 => ?_
  refine own_zn X16 hy d12_116 ((if0 _ _).trans (teq (by decide : ((0 : Int32) = (0 : Int32)))).2) ?_
  refine own_iw X16 hy d12_119 rfl ?_
  refine own_bp X16 hy d12_121 ?_
  refine own_cy X16 hy d12_123 167 (feq (own_bne hbM (by decide))).2 ?_
  refine own_ic X16 hy d12_167 ?_
  refine own_is X16 hy d12_168 (l' := #[.val (.ref g), .val (.int p0), .val (.int 0), .val (.int 0), .val (.int (cc M))]) rfl ?_
  refine own_gt X16 hy d12_169 15 ?_
  refine own_il X16 hy d12_15 rfl ?_
  refine own_zy X16 hy d12_16 172 ((if0 _ _).trans (teq (by decide : ((0 : Int32) = (0 : Int32)))).1) ?_
  refine own_il X16 hy d12_172 rfl ?_
  refine own_zy X16 hy d12_173 180 ((if0 _ _).trans (teq (by decide : ((0 : Int32) = (0 : Int32)))).1) ?_
  refine own_al X16 hy d12_180 rfl rfl ?_
  refine own_gf X16 hy hZ hown (host := "") (Or.inl (own_w hw 78 rfl)) Via.refl e16 Fa d12_181 fun T17 X17 e17 => ?_
  exact kd _ _ _ X17 (by rw [e17]; exact Kp0) N9
theorem own_bsD (hw : own_HW Z a0) {p : Program} {e : Env} {s : State} {m : MethodId} {args : Array Value} {below : List Frame} {meth : Method} {c : Code} {T0 : State} {locs : List Loc} {cells slots : Nat} {P : State → Outcome → Prop} (X0 : Stand p l e ⟨7, 8, 116, 102⟩ s m args below meth c T0 locs cells slots) (hy : own_Y p c prog_6_method_2_code) (hZ : Z.Warmed39 s.vm) (hown : s.vm.findClass "dev/parlance/JsonGrammar" = some m.cls) (hml : c.maxLocals = 5) (e0 : T0.heap = h0) (Z0 : n0 ≤ h0.size) (N0 : Fr n0 locs) {p0 q3 q4 : Int32} (Gq : own_G Z h0 g ct ob (own_P oN kk) md (3 : Int32) (1 : Int32) (own_P oN M)) (g_g : n0 ≤ g) (At : Arv Z h0 ct kc .char (52 : Int32) tx (.int 0)) (hT : ∀ i, i < 49 → tx.getD (oN + i) (.int 0) = .int (cc i)) (H : own_H oN kk md M tf cc) (Ao : Arv Z h0 ob ko .boolean (16 : Int32) [w0, w1, (.int 1), w3, w4, w5, w6, w7, w8, w9, w10, w11, w12, w13, w14, w15] (.int 0)) (hst0 : (kk = M ∨ (M < kk ∧ own_bad M (cc M)))) (hcb : cells ≤ 8) (hsb : slots ≤ 116) (kd : ∀ T' locs' Ls', Stand p l e ⟨7, 8, 116, 102⟩ s m args below meth c T' locs' cells slots → Keep h0 T'.heap [g] → Fr n0 locs' → ∃ t o, Steps p.tables e below (T'.setTop (mkF m 184 Ls' [(.int (own_P oN M))])) t ∧ P t o) : ∃ t o, Steps p.tables e below (T0.setTop (mkF m 26 #[.val (.ref g), .val (.int p0), .val (.int 1), .val (.int q3), .val (.int q4)] [])) t ∧ P t o := by
 have Kp0 : Keep h0 h0 [g] := Keep.refl h0 _
 obtain ⟨⟨Eg, Ft, Fe, Fm, Fo, Fd, Fp, Fa⟩, ho, hk49, ne_ct_g⟩ := own_gi hw Gq At H
 have hM48 := H.2.2.1
 have hst := hst0
 have ne_ob_g : ob ≠ g := Ne.symm (own_neA Eg (own_w hw 54 rfl) Ao)
 rcases hst with hkM | ⟨hkM, hbM⟩
 ·
  refine own_al X0 hy d12_26 rfl rfl ?_
  refine own_cp X0 hy hZ hown (own_y19 hw) (rmSk0 hw Z0 ⟨Eg, Ft, Fe, Fm, Fo, Fd, Fp, Fa⟩ g_g At hT H (by omega) (Or.inl (Nat.le_of_eq hkM))) e0 Eg d12_27 own_pd12 hml fun v1 T1 L1 X1 hQ1 => ?_
  obtain ⟨rfl, N1q, e1⟩ := hQ1
  have N1 := Fr.app N0 N1q
  refine own_al X1 hy d12_30 rfl rfl ?_
  refine own_gf X1 hy hZ hown (host := "") (Or.inl (own_w hw 63 rfl)) Via.refl e1 Fo d12_31 fun T3 X3 e3 => ?_
  refine own_al X3 hy d12_34 rfl rfl ?_
  refine own_gf X3 hy hZ hown (host := "") (Or.inl (own_w hw 76 rfl)) Via.refl e3 Fd d12_35 fun T4 X4 e4 => ?_
  refine own_ic X4 hy d12_38 ?_
  refine own_sb X4 hy d12_39 ?_
  refine own_bz X4 hy hZ e4 Ao ⟨by decide, by decide⟩ (v := (.int 1)) rfl d12_40 ?_
  refine own_is X4 hy d12_41 (l' := #[.val (.ref g), .val (.int p0), .val (.int 1), .val (.int 1), .val (.int q4)]) rfl ?_
  refine own_ae X4 hy hZ hown hw e4 Fa Fe a12_42 fun T6 X6 e6 => ?_
  refine own_cy X6 hy d12_50 65 (flt (own_Pge ho hk49 (Nat.le_of_eq hkM) (by omega))).2.1 ?_
  refine own_ic X6 hy d12_65 ?_
  refine own_it X6 hy d12_66 (l' := #[.val (.ref g), .val (.int p0), .val (.int 1), .val (.int 1), .val (.int 0)]) rfl ?_
  refine own_iw X6 hy d12_68 rfl ?_
  refine own_il X6 hy d12_70 rfl ?_
  refine own_zn X6 hy d12_71 ((if0 _ _).trans (feq (by decide : ¬ ((1 : Int32) = (0 : Int32)))).1) ?_
  refine own_bp X6 hy d12_74 ?_
  refine own_gt X6 hy d12_76 81 ?_
  refine own_cy X6 hy d12_81 112 (feq (by decide : ¬ ((0 : Int32) = (125 : Int32)))).2 ?_
  refine own_al X6 hy d12_112 rfl rfl ?_
  refine own_gf X6 hy hZ hown (host := "") (Or.inl (own_w hw 95 rfl)) Via.refl e6 Fp d12_113 fun T7 X7 e7 => ?_
  clear N1q X1 e1 X3 e3 X4 e4 X6 e6
  refine own_zy X7 hy d12_116 126 ((if0 _ _).trans (feq (by decide : ¬ ((1 : Int32) = (0 : Int32)))).2) ?_
  refine own_al X7 hy d12_126 rfl rfl ?_
  refine own_gf X7 hy hZ hown (host := "") (Or.inl (own_w hw 95 rfl)) Via.refl e7 Fp d12_127 fun T8 X8 e8 => ?_
  refine own_zy X8 hy d12_130 143 ((if0 _ _).trans (feq (by decide : ¬ ((1 : Int32) = (0 : Int32)))).2) ?_
  refine own_al X8 hy d12_143 rfl rfl ?_
  refine own_ic X8 hy d12_144 ?_
  refine own_pn X8 hy hZ hown (own_w hw 95 rfl) Via.refl e8 Fp Eg (Or.inl (own_w hw 96 rfl)) (own_w hw 54 rfl) (ty := .boolean) (v' := (.int 0)) (by decide) rfl (by first | exact fits_nar_bool _ | decide) d12_145 fun T9 h9 X9 e9 W9 => ?_
  replace At := At.other W9 ne_ct_g
  replace Ao := Ao.other W9 ne_ob_g
  have Z9 := own_zw Z0 W9
  have Kp9 := Kp0.wr W9 own_m0
  obtain ⟨Eg, Ft, Fe, Fm, Fo, Fd, Fp, Fa⟩ := own_Gop hw ⟨Eg, Ft, Fe, Fm, Fo, Fd, Fp, Fa⟩ W9 rfl
  have N9 := Fr.snoc X9 N1 g_g
  refine own_il X9 hy d12_148 rfl ?_
  refine own_zn X9 hy d12_149 ((if0 _ _).trans (feq (by decide : ¬ ((1 : Int32) = (0 : Int32)))).1) ?_
  refine own_al X9 hy d12_152 rfl rfl ?_
  refine own_cp X9 hy hZ hown (own_y25 hw) (rmBm hw Z9 ⟨Eg, Ft, Fe, Fm, Fo, Fd, Fp, Fa⟩ g_g At hT H hst0) e9 Eg d12_153 own_pd3 hml fun v10 T10 L10 X10 hQ10 => ?_
  obtain ⟨rfl, N10q, e10⟩ := hQ10
  have N10 := Fr.app N9 N10q
  clear N1 X7 e7 X8 e8 X9 e9 W9 N9 N10q
  refine own_gt X10 hy d12_156 163 ?_
  refine own_is X10 hy d12_163 (l' := #[.val (.ref g), .val (.int p0), .val (.int 0), .val (.int 1), .val (.int 0)]) rfl ?_
  refine own_gt X10 hy d12_164 169 ?_
  refine own_gt X10 hy d12_169 15 ?_
  refine own_il X10 hy d12_15 rfl ?_
  refine own_zy X10 hy d12_16 172 ((if0 _ _).trans (teq (by decide : ((0 : Int32) = (0 : Int32)))).1) ?_
  refine own_il X10 hy d12_172 rfl ?_
  refine own_zy X10 hy d12_173 180 ((if0 _ _).trans (teq (by decide : ((0 : Int32) = (0 : Int32)))).1) ?_
  refine own_al X10 hy d12_180 rfl rfl ?_
  refine own_gf X10 hy hZ hown (host := "") (Or.inl (own_w hw 78 rfl)) Via.refl e10 Fa d12_181 fun T11 X11 e11 => ?_
  exact kd _ _ _ X11 (by rw [e11]; exact Kp9) N10
 ·
  refine own_al X0 hy d12_26 rfl rfl ?_
  refine own_cp X0 hy hZ hown (own_y19 hw) (rmSk0 hw Z0 ⟨Eg, Ft, Fe, Fm, Fo, Fd, Fp, Fa⟩ g_g At hT H (by omega) (Or.inr ⟨hkM, own_bws hbM⟩)) e0 Eg d12_27 own_pd12 hml fun v12 T12 L12 X12 hQ12 => ?_
  obtain ⟨rfl, N12q, e12⟩ := hQ12
  have N12 := Fr.app N0 N12q
  refine own_al X12 hy d12_30 rfl rfl ?_
  refine own_gf X12 hy hZ hown (host := "") (Or.inl (own_w hw 63 rfl)) Via.refl e12 Fo d12_31 fun T14 X14 e14 => ?_
  refine own_al X14 hy d12_34 rfl rfl ?_
  refine own_gf X14 hy hZ hown (host := "") (Or.inl (own_w hw 76 rfl)) Via.refl e14 Fd d12_35 fun T15 X15 e15 => ?_
  refine own_ic X15 hy d12_38 ?_
  refine own_sb X15 hy d12_39 ?_
  refine own_bz X15 hy hZ e15 Ao ⟨by decide, by decide⟩ (v := (.int 1)) rfl d12_40 ?_
  refine own_is X15 hy d12_41 (l' := #[.val (.ref g), .val (.int p0), .val (.int 1), .val (.int 1), .val (.int q4)]) rfl ?_
  refine own_ae X15 hy hZ hown hw e15 Fa Fe a12_42 fun T17 X17 e17 => ?_
  refine own_cn X17 hy d12_50 (tlt (own_Plt ho hk49 hkM)).2.1 ?_
  refine own_tc X17 hy hZ hown hw e17 Ft Fa At ho hT (by omega) t12_53 fun T18 X18 e18 => ?_
  clear N12q X12 e12 X14 e14 X15 e15 X17 e17
  refine own_gt X18 hy d12_62 66 ?_
  refine own_it X18 hy d12_66 (l' := #[.val (.ref g), .val (.int p0), .val (.int 1), .val (.int 1), .val (.int (cc M))]) rfl ?_
  refine own_iw X18 hy d12_68 rfl ?_
  refine own_il X18 hy d12_70 rfl ?_
  refine own_zn X18 hy d12_71 ((if0 _ _).trans (feq (by decide : ¬ ((1 : Int32) = (0 : Int32)))).1) ?_
  refine own_bp X18 hy d12_74 ?_
  refine own_gt X18 hy d12_76 81 ?_
  refine own_cy X18 hy d12_81 112 (feq (own_bne hbM (by decide))).2 ?_
  refine own_al X18 hy d12_112 rfl rfl ?_
  refine own_gf X18 hy hZ hown (host := "") (Or.inl (own_w hw 95 rfl)) Via.refl e18 Fp d12_113 fun T19 X19 e19 => ?_
  refine own_zy X19 hy d12_116 126 ((if0 _ _).trans (feq (by decide : ¬ ((1 : Int32) = (0 : Int32)))).2) ?_
  refine own_al X19 hy d12_126 rfl rfl ?_
  refine own_gf X19 hy hZ hown (host := "") (Or.inl (own_w hw 95 rfl)) Via.refl e19 Fp d12_127 fun T20 X20 e20 => ?_
  refine own_zy X20 hy d12_130 143 ((if0 _ _).trans (feq (by decide : ¬ ((1 : Int32) = (0 : Int32)))).2) ?_
  refine own_al X20 hy d12_143 rfl rfl ?_
  refine own_ic X20 hy d12_144 ?_
  refine own_pn X20 hy hZ hown (own_w hw 95 rfl) Via.refl e20 Fp Eg (Or.inl (own_w hw 96 rfl)) (own_w hw 54 rfl) (ty := .boolean) (v' := (.int 0)) (by decide) rfl (by first | exact fits_nar_bool _ | decide) d12_145 fun T21 h21 X21 e21 W21 => ?_
  replace At := At.other W21 ne_ct_g
  replace Ao := Ao.other W21 ne_ob_g
  have Z21 := own_zw Z0 W21
  have Kp21 := Kp0.wr W21 own_m0
  obtain ⟨Eg, Ft, Fe, Fm, Fo, Fd, Fp, Fa⟩ := own_Gop hw ⟨Eg, Ft, Fe, Fm, Fo, Fd, Fp, Fa⟩ W21 rfl
  have N21 := Fr.snoc X21 N12 g_g
  clear N12 X18 e18 X19 e19 X20 e20 W21
  refine own_il X21 hy d12_148 rfl ?_
  refine own_zn X21 hy d12_149 ((if0 _ _).trans (feq (by decide : ¬ ((1 : Int32) = (0 : Int32)))).1) ?_
  refine own_al X21 hy d12_152 rfl rfl ?_
  refine own_cp X21 hy hZ hown (own_y25 hw) (rmBm hw Z21 ⟨Eg, Ft, Fe, Fm, Fo, Fd, Fp, Fa⟩ g_g At hT H hst0) e21 Eg d12_153 own_pd3 hml fun v22 T22 L22 X22 hQ22 => ?_
  obtain ⟨rfl, N22q, e22⟩ := hQ22
  have N22 := Fr.app N21 N22q
  refine own_gt X22 hy d12_156 163 ?_
  refine own_is X22 hy d12_163 (l' := #[.val (.ref g), .val (.int p0), .val (.int 0), .val (.int 1), .val (.int (cc M))]) rfl ?_
  refine own_gt X22 hy d12_164 169 ?_
  refine own_gt X22 hy d12_169 15 ?_
  refine own_il X22 hy d12_15 rfl ?_
  refine own_zy X22 hy d12_16 172 ((if0 _ _).trans (teq (by decide : ((0 : Int32) = (0 : Int32)))).1) ?_
  refine own_il X22 hy d12_172 rfl ?_
  refine own_zy X22 hy d12_173 180 ((if0 _ _).trans (teq (by decide : ((0 : Int32) = (0 : Int32)))).1) ?_
  refine own_al X22 hy d12_180 rfl rfl ?_
  refine own_gf X22 hy hZ hown (host := "") (Or.inl (own_w hw 78 rfl)) Via.refl e22 Fa d12_181 fun T23 X23 e23 => ?_
  exact kd _ _ _ X23 (by rw [e23]; exact Kp21) N22
theorem own_bsE (hw : own_HW Z a0) {p : Program} {e : Env} {s : State} {m : MethodId} {args : Array Value} {below : List Frame} {meth : Method} {c : Code} {T0 : State} {locs : List Loc} {cells slots : Nat} {P : State → Outcome → Prop} (X0 : Stand p l e ⟨7, 8, 116, 102⟩ s m args below meth c T0 locs cells slots) (hy : own_Y p c prog_6_method_2_code) (hZ : Z.Warmed39 s.vm) (hown : s.vm.findClass "dev/parlance/JsonGrammar" = some m.cls) (hml : c.maxLocals = 5) (e0 : T0.heap = h0) (Z0 : n0 ≤ h0.size) (N0 : Fr n0 locs) {p0 q3 q4 : Int32} (Gq : own_G Z h0 g ct ob (own_P oN kk) md (3 : Int32) (1 : Int32) (own_P oN M)) (g_g : n0 ≤ g) (At : Arv Z h0 ct kc .char (52 : Int32) tx (.int 0)) (hT : ∀ i, i < 49 → tx.getD (oN + i) (.int 0) = .int (cc i)) (H : own_H oN kk md M tf cc) (Ao : Arv Z h0 ob ko .boolean (16 : Int32) [w0, w1, (.int 0), w3, w4, w5, w6, w7, w8, w9, w10, w11, w12, w13, w14, w15] (.int 0)) (hst0 : (kk = M ∨ (M < kk ∧ own_bad M (cc M)))) (hcb : cells ≤ 8) (hsb : slots ≤ 116) (kd : ∀ T' locs' Ls', Stand p l e ⟨7, 8, 116, 102⟩ s m args below meth c T' locs' cells slots → Keep h0 T'.heap [g] → Fr n0 locs' → ∃ t o, Steps p.tables e below (T'.setTop (mkF m 184 Ls' [(.int (own_P oN M))])) t ∧ P t o) : ∃ t o, Steps p.tables e below (T0.setTop (mkF m 26 #[.val (.ref g), .val (.int p0), .val (.int 1), .val (.int q3), .val (.int q4)] [])) t ∧ P t o := by
 have Kp0 : Keep h0 h0 [g] := Keep.refl h0 _
 obtain ⟨⟨Eg, Ft, Fe, Fm, Fo, Fd, Fp, Fa⟩, ho, hk49, ne_ct_g⟩ := own_gi hw Gq At H
 have hM48 := H.2.2.1
 have hst := hst0
 have ne_ob_g : ob ≠ g := Ne.symm (own_neA Eg (own_w hw 54 rfl) Ao)
 rcases hst with hkM | ⟨hkM, hbM⟩
 ·
  refine own_al X0 hy d12_26 rfl rfl ?_
  refine own_cp X0 hy hZ hown (own_y19 hw) (rmSk0 hw Z0 ⟨Eg, Ft, Fe, Fm, Fo, Fd, Fp, Fa⟩ g_g At hT H (by omega) (Or.inl (Nat.le_of_eq hkM))) e0 Eg d12_27 own_pd12 hml fun v1 T1 L1 X1 hQ1 => ?_
  obtain ⟨rfl, N1q, e1⟩ := hQ1
  have N1 := Fr.app N0 N1q
  refine own_al X1 hy d12_30 rfl rfl ?_
  refine own_gf X1 hy hZ hown (host := "") (Or.inl (own_w hw 63 rfl)) Via.refl e1 Fo d12_31 fun T3 X3 e3 => ?_
  refine own_al X3 hy d12_34 rfl rfl ?_
  refine own_gf X3 hy hZ hown (host := "") (Or.inl (own_w hw 76 rfl)) Via.refl e3 Fd d12_35 fun T4 X4 e4 => ?_
  refine own_ic X4 hy d12_38 ?_
  refine own_sb X4 hy d12_39 ?_
  refine own_bz X4 hy hZ e4 Ao ⟨by decide, by decide⟩ (v := (.int 0)) rfl d12_40 ?_
  refine own_is X4 hy d12_41 (l' := #[.val (.ref g), .val (.int p0), .val (.int 1), .val (.int 0), .val (.int q4)]) rfl ?_
  refine own_ae X4 hy hZ hown hw e4 Fa Fe a12_42 fun T6 X6 e6 => ?_
  refine own_cy X6 hy d12_50 65 (flt (own_Pge ho hk49 (Nat.le_of_eq hkM) (by omega))).2.1 ?_
  refine own_ic X6 hy d12_65 ?_
  refine own_it X6 hy d12_66 (l' := #[.val (.ref g), .val (.int p0), .val (.int 1), .val (.int 0), .val (.int 0)]) rfl ?_
  refine own_iw X6 hy d12_68 rfl ?_
  refine own_il X6 hy d12_70 rfl ?_
  refine own_zy X6 hy d12_71 79 ((if0 _ _).trans (teq (by decide : ((0 : Int32) = (0 : Int32)))).1) ?_
  refine own_bp X6 hy d12_79 ?_
  refine own_cy X6 hy d12_81 112 (feq (by decide : ¬ ((0 : Int32) = (93 : Int32)))).2 ?_
  refine own_al X6 hy d12_112 rfl rfl ?_
  refine own_gf X6 hy hZ hown (host := "") (Or.inl (own_w hw 95 rfl)) Via.refl e6 Fp d12_113 fun T7 X7 e7 => ?_
  clear N1q X1 e1 X3 e3 X4 e4 X6 e6
  refine own_zy X7 hy d12_116 126 ((if0 _ _).trans (feq (by decide : ¬ ((1 : Int32) = (0 : Int32)))).2) ?_
  refine own_al X7 hy d12_126 rfl rfl ?_
  refine own_gf X7 hy hZ hown (host := "") (Or.inl (own_w hw 95 rfl)) Via.refl e7 Fp d12_127 fun T8 X8 e8 => ?_
  refine own_zy X8 hy d12_130 143 ((if0 _ _).trans (feq (by decide : ¬ ((1 : Int32) = (0 : Int32)))).2) ?_
  refine own_al X8 hy d12_143 rfl rfl ?_
  refine own_ic X8 hy d12_144 ?_
  refine own_pn X8 hy hZ hown (own_w hw 95 rfl) Via.refl e8 Fp Eg (Or.inl (own_w hw 96 rfl)) (own_w hw 54 rfl) (ty := .boolean) (v' := (.int 0)) (by decide) rfl (by first | exact fits_nar_bool _ | decide) d12_145 fun T9 h9 X9 e9 W9 => ?_
  replace At := At.other W9 ne_ct_g
  replace Ao := Ao.other W9 ne_ob_g
  have Z9 := own_zw Z0 W9
  have Kp9 := Kp0.wr W9 own_m0
  obtain ⟨Eg, Ft, Fe, Fm, Fo, Fd, Fp, Fa⟩ := own_Gop hw ⟨Eg, Ft, Fe, Fm, Fo, Fd, Fp, Fa⟩ W9 rfl
  have N9 := Fr.snoc X9 N1 g_g
  refine own_il X9 hy d12_148 rfl ?_
  refine own_zy X9 hy d12_149 159 ((if0 _ _).trans (teq (by decide : ((0 : Int32) = (0 : Int32)))).1) ?_
  refine own_al X9 hy d12_159 rfl rfl ?_
  refine own_cp X9 hy hZ hown (own_y24 hw) (rmBv hw Z9 ⟨Eg, Ft, Fe, Fm, Fo, Fd, Fp, Fa⟩ g_g At hT H hst0) e9 Eg d12_160 own_pd3 hml fun v10 T10 L10 X10 hQ10 => ?_
  obtain ⟨rfl, N10q, e10⟩ := hQ10
  have N10 := Fr.app N9 N10q
  clear N1 X7 e7 X8 e8 X9 e9 W9 N9 N10q
  refine own_is X10 hy d12_163 (l' := #[.val (.ref g), .val (.int p0), .val (.int 0), .val (.int 0), .val (.int 0)]) rfl ?_
  refine own_gt X10 hy d12_164 169 ?_
  refine own_gt X10 hy d12_169 15 ?_
  refine own_il X10 hy d12_15 rfl ?_
  refine own_zy X10 hy d12_16 172 ((if0 _ _).trans (teq (by decide : ((0 : Int32) = (0 : Int32)))).1) ?_
  refine own_il X10 hy d12_172 rfl ?_
  refine own_zy X10 hy d12_173 180 ((if0 _ _).trans (teq (by decide : ((0 : Int32) = (0 : Int32)))).1) ?_
  refine own_al X10 hy d12_180 rfl rfl ?_
  refine own_gf X10 hy hZ hown (host := "") (Or.inl (own_w hw 78 rfl)) Via.refl e10 Fa d12_181 fun T11 X11 e11 => ?_
  exact kd _ _ _ X11 (by rw [e11]; exact Kp9) N10
 ·
  refine own_al X0 hy d12_26 rfl rfl ?_
  refine own_cp X0 hy hZ hown (own_y19 hw) (rmSk0 hw Z0 ⟨Eg, Ft, Fe, Fm, Fo, Fd, Fp, Fa⟩ g_g At hT H (by omega) (Or.inr ⟨hkM, own_bws hbM⟩)) e0 Eg d12_27 own_pd12 hml fun v12 T12 L12 X12 hQ12 => ?_
  obtain ⟨rfl, N12q, e12⟩ := hQ12
  have N12 := Fr.app N0 N12q
  refine own_al X12 hy d12_30 rfl rfl ?_
  refine own_gf X12 hy hZ hown (host := "") (Or.inl (own_w hw 63 rfl)) Via.refl e12 Fo d12_31 fun T14 X14 e14 => ?_
  refine own_al X14 hy d12_34 rfl rfl ?_
  refine own_gf X14 hy hZ hown (host := "") (Or.inl (own_w hw 76 rfl)) Via.refl e14 Fd d12_35 fun T15 X15 e15 => ?_
  refine own_ic X15 hy d12_38 ?_
  refine own_sb X15 hy d12_39 ?_
  refine own_bz X15 hy hZ e15 Ao ⟨by decide, by decide⟩ (v := (.int 0)) rfl d12_40 ?_
  refine own_is X15 hy d12_41 (l' := #[.val (.ref g), .val (.int p0), .val (.int 1), .val (.int 0), .val (.int q4)]) rfl ?_
  refine own_ae X15 hy hZ hown hw e15 Fa Fe a12_42 fun T17 X17 e17 => ?_
  refine own_cn X17 hy d12_50 (tlt (own_Plt ho hk49 hkM)).2.1 ?_
  refine own_tc X17 hy hZ hown hw e17 Ft Fa At ho hT (by omega) t12_53 fun T18 X18 e18 => ?_
  clear N12q X12 e12 X14 e14 X15 e15 X17 e17
  refine own_gt X18 hy d12_62 66 ?_
  refine own_it X18 hy d12_66 (l' := #[.val (.ref g), .val (.int p0), .val (.int 1), .val (.int 0), .val (.int (cc M))]) rfl ?_
  refine own_iw X18 hy d12_68 rfl ?_
  refine own_il X18 hy d12_70 rfl ?_
  refine own_zy X18 hy d12_71 79 ((if0 _ _).trans (teq (by decide : ((0 : Int32) = (0 : Int32)))).1) ?_
  refine own_bp X18 hy d12_79 ?_
  refine own_cy X18 hy d12_81 112 (feq (own_bne hbM (by decide))).2 ?_
  refine own_al X18 hy d12_112 rfl rfl ?_
  refine own_gf X18 hy hZ hown (host := "") (Or.inl (own_w hw 95 rfl)) Via.refl e18 Fp d12_113 fun T19 X19 e19 => ?_
  refine own_zy X19 hy d12_116 126 ((if0 _ _).trans (feq (by decide : ¬ ((1 : Int32) = (0 : Int32)))).2) ?_
  refine own_al X19 hy d12_126 rfl rfl ?_
  refine own_gf X19 hy hZ hown (host := "") (Or.inl (own_w hw 95 rfl)) Via.refl e19 Fp d12_127 fun T20 X20 e20 => ?_
  refine own_zy X20 hy d12_130 143 ((if0 _ _).trans (feq (by decide : ¬ ((1 : Int32) = (0 : Int32)))).2) ?_
  refine own_al X20 hy d12_143 rfl rfl ?_
  refine own_ic X20 hy d12_144 ?_
  refine own_pn X20 hy hZ hown (own_w hw 95 rfl) Via.refl e20 Fp Eg (Or.inl (own_w hw 96 rfl)) (own_w hw 54 rfl) (ty := .boolean) (v' := (.int 0)) (by decide) rfl (by first | exact fits_nar_bool _ | decide) d12_145 fun T21 h21 X21 e21 W21 => ?_
  replace At := At.other W21 ne_ct_g
  replace Ao := Ao.other W21 ne_ob_g
  have Z21 := own_zw Z0 W21
  have Kp21 := Kp0.wr W21 own_m0
  obtain ⟨Eg, Ft, Fe, Fm, Fo, Fd, Fp, Fa⟩ := own_Gop hw ⟨Eg, Ft, Fe, Fm, Fo, Fd, Fp, Fa⟩ W21 rfl
  have N21 := Fr.snoc X21 N12 g_g
  clear N12 X18 e18 X19 e19 X20 e20 W21
  refine own_il X21 hy d12_148 rfl ?_
  refine own_zy X21 hy d12_149 159 ((if0 _ _).trans (teq (by decide : ((0 : Int32) = (0 : Int32)))).1) ?_
  refine own_al X21 hy d12_159 rfl rfl ?_
  refine own_cp X21 hy hZ hown (own_y24 hw) (rmBv hw Z21 ⟨Eg, Ft, Fe, Fm, Fo, Fd, Fp, Fa⟩ g_g At hT H hst0) e21 Eg d12_160 own_pd3 hml fun v22 T22 L22 X22 hQ22 => ?_
  obtain ⟨rfl, N22q, e22⟩ := hQ22
  have N22 := Fr.app N21 N22q
  refine own_is X22 hy d12_163 (l' := #[.val (.ref g), .val (.int p0), .val (.int 0), .val (.int 0), .val (.int (cc M))]) rfl ?_
  refine own_gt X22 hy d12_164 169 ?_
  refine own_gt X22 hy d12_169 15 ?_
  refine own_il X22 hy d12_15 rfl ?_
  refine own_zy X22 hy d12_16 172 ((if0 _ _).trans (teq (by decide : ((0 : Int32) = (0 : Int32)))).1) ?_
  refine own_il X22 hy d12_172 rfl ?_
  refine own_zy X22 hy d12_173 180 ((if0 _ _).trans (teq (by decide : ((0 : Int32) = (0 : Int32)))).1) ?_
  refine own_al X22 hy d12_180 rfl rfl ?_
  refine own_gf X22 hy hZ hown (host := "") (Or.inl (own_w hw 78 rfl)) Via.refl e22 Fa d12_181 fun T23 X23 e23 => ?_
  exact kd _ _ _ X23 (by rw [e23]; exact Kp21) N22
theorem own_bsF (hw : own_HW Z a0) {p : Program} {e : Env} {s : State} {m : MethodId} {args : Array Value} {below : List Frame} {meth : Method} {c : Code} {T0 : State} {locs : List Loc} {cells slots : Nat} {P : State → Outcome → Prop} (X0 : Stand p l e ⟨7, 8, 116, 102⟩ s m args below meth c T0 locs cells slots) (hy : own_Y p c prog_6_method_2_code) (hZ : Z.Warmed39 s.vm) (hown : s.vm.findClass "dev/parlance/JsonGrammar" = some m.cls) (hml : c.maxLocals = 5) (e0 : T0.heap = h0) (Z0 : n0 ≤ h0.size) (N0 : Fr n0 locs) {p0 q3 q4 : Int32} (Gq : own_G Z h0 g ct ob (own_P oN kk) md (1 : Int32) (0 : Int32) (own_P oN M)) (g_g : n0 ≤ g) (At : Arv Z h0 ct kc .char (52 : Int32) tx (.int 0)) (hT : ∀ i, i < 49 → tx.getD (oN + i) (.int 0) = .int (cc i)) (H : own_H oN kk md M tf cc) (Ao : Arv Z h0 ob ko .boolean (16 : Int32) [(.int 1), w1, w2, w3, w4, w5, w6, w7, w8, w9, w10, w11, w12, w13, w14, w15] (.int 0)) (hst0 : (kk = M ∨ (M < kk ∧ own_bad M (cc M)))) (hcb : cells ≤ 8) (hsb : slots ≤ 116) (kd : ∀ T' locs' Ls', Stand p l e ⟨7, 8, 116, 102⟩ s m args below meth c T' locs' cells slots → Keep h0 T'.heap [g] → Fr n0 locs' → ∃ t o, Steps p.tables e below (T'.setTop (mkF m 184 Ls' [(.int (own_P oN M))])) t ∧ P t o) : ∃ t o, Steps p.tables e below (T0.setTop (mkF m 26 #[.val (.ref g), .val (.int p0), .val (.int 1), .val (.int q3), .val (.int q4)] [])) t ∧ P t o := by
 have Kp0 : Keep h0 h0 [g] := Keep.refl h0 _
 obtain ⟨⟨Eg, Ft, Fe, Fm, Fo, Fd, Fp, Fa⟩, ho, hk49, ne_ct_g⟩ := own_gi hw Gq At H
 have hM48 := H.2.2.1
 have hst := hst0
 have ne_ob_g : ob ≠ g := Ne.symm (own_neA Eg (own_w hw 54 rfl) Ao)
 rcases hst with hkM | ⟨hkM, hbM⟩
 ·
  refine own_al X0 hy d12_26 rfl rfl ?_
  refine own_cp X0 hy hZ hown (own_y19 hw) (rmSk0 hw Z0 ⟨Eg, Ft, Fe, Fm, Fo, Fd, Fp, Fa⟩ g_g At hT H (by omega) (Or.inl (Nat.le_of_eq hkM))) e0 Eg d12_27 own_pd12 hml fun v1 T1 L1 X1 hQ1 => ?_
  obtain ⟨rfl, N1q, e1⟩ := hQ1
  have N1 := Fr.app N0 N1q
  refine own_al X1 hy d12_30 rfl rfl ?_
  refine own_gf X1 hy hZ hown (host := "") (Or.inl (own_w hw 63 rfl)) Via.refl e1 Fo d12_31 fun T3 X3 e3 => ?_
  refine own_al X3 hy d12_34 rfl rfl ?_
  refine own_gf X3 hy hZ hown (host := "") (Or.inl (own_w hw 76 rfl)) Via.refl e3 Fd d12_35 fun T4 X4 e4 => ?_
  refine own_ic X4 hy d12_38 ?_
  refine own_sb X4 hy d12_39 ?_
  refine own_bz X4 hy hZ e4 Ao ⟨by decide, by decide⟩ (v := (.int 1)) rfl d12_40 ?_
  refine own_is X4 hy d12_41 (l' := #[.val (.ref g), .val (.int p0), .val (.int 1), .val (.int 1), .val (.int q4)]) rfl ?_
  refine own_ae X4 hy hZ hown hw e4 Fa Fe a12_42 fun T6 X6 e6 => ?_
  refine own_cy X6 hy d12_50 65 (flt (own_Pge ho hk49 (Nat.le_of_eq hkM) (by omega))).2.1 ?_
  refine own_ic X6 hy d12_65 ?_
  refine own_it X6 hy d12_66 (l' := #[.val (.ref g), .val (.int p0), .val (.int 1), .val (.int 1), .val (.int 0)]) rfl ?_
  refine own_iw X6 hy d12_68 rfl ?_
  refine own_il X6 hy d12_70 rfl ?_
  refine own_zn X6 hy d12_71 ((if0 _ _).trans (feq (by decide : ¬ ((1 : Int32) = (0 : Int32)))).1) ?_
  refine own_bp X6 hy d12_74 ?_
  refine own_gt X6 hy d12_76 81 ?_
  refine own_cy X6 hy d12_81 112 (feq (by decide : ¬ ((0 : Int32) = (125 : Int32)))).2 ?_
  refine own_al X6 hy d12_112 rfl rfl ?_
  refine own_gf X6 hy hZ hown (host := "") (Or.inl (own_w hw 95 rfl)) Via.refl e6 Fp d12_113 fun T7 X7 e7 => ?_
  clear N1q X1 e1 X3 e3 X4 e4 X6 e6
  refine own_zn X7 hy d12_116 ((if0 _ _).trans (teq (by decide : ((0 : Int32) = (0 : Int32)))).2) ?_
  refine own_iw X7 hy d12_119 rfl ?_
  refine own_bp X7 hy d12_121 ?_
  refine own_cy X7 hy d12_123 167 (feq (by decide : ¬ ((0 : Int32) = (44 : Int32)))).2 ?_
  refine own_ic X7 hy d12_167 ?_
  refine own_is X7 hy d12_168 (l' := #[.val (.ref g), .val (.int p0), .val (.int 0), .val (.int 1), .val (.int 0)]) rfl ?_
  refine own_gt X7 hy d12_169 15 ?_
  refine own_il X7 hy d12_15 rfl ?_
  refine own_zy X7 hy d12_16 172 ((if0 _ _).trans (teq (by decide : ((0 : Int32) = (0 : Int32)))).1) ?_
  refine own_il X7 hy d12_172 rfl ?_
  refine own_zy X7 hy d12_173 180 ((if0 _ _).trans (teq (by decide : ((0 : Int32) = (0 : Int32)))).1) ?_
  refine own_al X7 hy d12_180 rfl rfl ?_
  refine own_gf X7 hy hZ hown (host := "") (Or.inl (own_w hw 78 rfl)) Via.refl e7 Fa d12_181 fun T8 X8 e8 => ?_
  exact kd _ _ _ X8 (by rw [e8]; exact Kp0) N1
 ·
  refine own_al X0 hy d12_26 rfl rfl ?_
  refine own_cp X0 hy hZ hown (own_y19 hw) (rmSk0 hw Z0 ⟨Eg, Ft, Fe, Fm, Fo, Fd, Fp, Fa⟩ g_g At hT H (by omega) (Or.inr ⟨hkM, own_bws hbM⟩)) e0 Eg d12_27 own_pd12 hml fun v9 T9 L9 X9 hQ9 => ?_
  obtain ⟨rfl, N9q, e9⟩ := hQ9
  have N9 := Fr.app N0 N9q
  refine own_al X9 hy d12_30 rfl rfl ?_
  refine own_gf X9 hy hZ hown (host := "") (Or.inl (own_w hw 63 rfl)) Via.refl e9 Fo d12_31 fun T11 X11 e11 => ?_
  refine own_al X11 hy d12_34 rfl rfl ?_
  refine own_gf X11 hy hZ hown (host := "") (Or.inl (own_w hw 76 rfl)) Via.refl e11 Fd d12_35 fun T12 X12 e12 => ?_
  refine own_ic X12 hy d12_38 ?_
  refine own_sb X12 hy d12_39 ?_
  refine own_bz X12 hy hZ e12 Ao ⟨by decide, by decide⟩ (v := (.int 1)) rfl d12_40 ?_
  refine own_is X12 hy d12_41 (l' := #[.val (.ref g), .val (.int p0), .val (.int 1), .val (.int 1), .val (.int q4)]) rfl ?_
  refine own_ae X12 hy hZ hown hw e12 Fa Fe a12_42 fun T14 X14 e14 => ?_
  refine own_cn X14 hy d12_50 (tlt (own_Plt ho hk49 hkM)).2.1 ?_
  refine own_tc X14 hy hZ hown hw e14 Ft Fa At ho hT (by omega) t12_53 fun T15 X15 e15 => ?_
  clear N9q X9 e9 X11 e11 X12 e12 X14 e14
  refine own_gt X15 hy d12_62 66 ?_
  refine own_it X15 hy d12_66 (l' := #[.val (.ref g), .val (.int p0), .val (.int 1), .val (.int 1), .val (.int (cc M))]) rfl ?_
  refine own_iw X15 hy d12_68 rfl ?_
  refine own_il X15 hy d12_70 rfl ?_
  refine own_zn X15 hy d12_71 ((if0 _ _).trans (feq (by decide : ¬ ((1 : Int32) = (0 : Int32)))).1) ?_
  refine own_bp X15 hy d12_74 ?_
  refine own_gt X15 hy d12_76 81 ?_
  refine own_cy X15 hy d12_81 112 (feq (own_bne hbM (by decide))).2 ?_
  refine own_al X15 hy d12_112 rfl rfl ?_
  refine own_gf X15 hy hZ hown (host := "") (Or.inl (own_w hw 95 rfl)) Via.refl e15 Fp d12_113 fun T16 X16 e16 => ?_
  refine own_zn X16 hy d12_116 ((if0 _ _).trans (teq (by decide : ((0 : Int32) = (0 : Int32)))).2) ?_
  refine own_iw X16 hy d12_119 rfl ?_
  refine own_bp X16 hy d12_121 ?_
  refine own_cy X16 hy d12_123 167 (feq (own_bne hbM (by decide))).2 ?_
  refine own_ic X16 hy d12_167 ?_
  refine own_is X16 hy d12_168 (l' := #[.val (.ref g), .val (.int p0), .val (.int 0), .val (.int 1), .val (.int (cc M))]) rfl ?_
  refine own_gt X16 hy d12_169 15 ?_
  refine own_il X16 hy d12_15 rfl ?_
  refine own_zy X16 hy d12_16 172 ((if0 _ _).trans (teq (by decide : ((0 : Int32) = (0 : Int32)))).1) ?_
  refine own_il X16 hy d12_172 rfl ?_
  refine own_zy X16 hy d12_173 180 ((if0 _ _).trans (teq (by decide : ((0 : Int32) = (0 : Int32)))).1) ?_
  refine own_al X16 hy d12_180 rfl rfl ?_
  refine own_gf X16 hy hZ hown (host := "") (Or.inl (own_w hw 78 rfl)) Via.refl e16 Fa d12_181 fun T17 X17 e17 => ?_
  exact kd _ _ _ X17 (by rw [e17]; exact Kp0) N9
def own_KD (p : Program) (l : Launch) (e : Env) (s : State) (m : MethodId) (args : Array Value) (below : List Frame) (meth : Method) (c : Code) (Z : State) (g ct ob : Addr) (kc ko : ClassId) (tx : List Value) (oN kk M : Nat) (md cs : Int32) (fm : Value) (h0 : Heap) (n0 : Nat) (P : State → Outcome → Prop) (v : Int32) (C : Prop) : Prop := ∀ T' vm' k' locs' Ls', Stand p l e ⟨7, 8, 116, 102⟩ (s.setVm vm') m args below meth c T' locs' 8 116 → s.Since vm' k' → k' ≤ T'.heap.size → Z.Warmed39 (s.setVm vm').vm → (s.setVm vm').vm.findClass "dev/parlance/JsonGrammar" = some m.cls → own_In Z vm' T'.heap → Keep h0 T'.heap [g, ob] → Fr n0 locs' → C → ∃ t o, Steps p.tables e below (T'.setTop (mkF m 184 Ls' [(.int v)])) t ∧ P t o
def own_KN (p : Program) (l : Launch) (e : Env) (s : State) (m : MethodId) (args : Array Value) (below : List Frame) (meth : Method) (c : Code) (Z : State) (g ct ob : Addr) (kc ko : ClassId) (tx : List Value) (oN kk M : Nat) (md cs : Int32) (fm : Value) (h0 : Heap) (n0 : Nat) (P : State → Outcome → Prop) (p0 : Int32) (X1 : Nat) (d1 o1 : Int32) (vs1 : List Value) (cl sl : Nat) : Prop := ∀ T' vm' k' locs' q3 q4, Stand p l e ⟨7, 8, 116, 102⟩ (s.setVm vm') m args below meth c T' locs' cl sl → s.Since vm' k' → k' ≤ T'.heap.size → Z.Warmed39 (s.setVm vm').vm → (s.setVm vm').vm.findClass "dev/parlance/JsonGrammar" = some m.cls → own_In Z vm' T'.heap → Keep h0 T'.heap [g, ob] → Fr n0 locs' → X1 ≤ M → own_G Z T'.heap g ct ob (own_P oN kk) md d1 o1 (own_P oN X1) → Arv Z T'.heap ob ko .boolean (16 : Int32) vs1 (.int 0) → Arv Z T'.heap ct kc .char (52 : Int32) tx (.int 0) → Sta Z T'.heap "java/lang/String" "COMPACT_STRINGS" "Z" (.int cs) → Sta Z T'.heap "jdk/internal/util/Preconditions" "SIOOBE_FORMATTER" "Ljava/util/function/BiFunction;" fm → ∃ t o, Steps p.tables e below (T'.setTop (mkF m 15 #[.val (.ref g), .val (.int p0), .val (.int 1), .val (.int q3), .val (.int q4)] [])) t ∧ P t o
theorem d12_19 : decode C12 19 = .ok (.aload_n 0, 1) := by decide +kernel
theorem d12_20 : decode C12 20 = .ok (.getfield 24, 3) := by decide +kernel
theorem d12_23 : decode C12 23 = .ok (.ifCond .le 149, 3) := by decide +kernel
theorem own_bsI1 (hw : own_HW Z a0) {p : Program} {e : Env} {s : State} {vm0 : Vm} {m : MethodId} {args : Array Value} {below : List Frame} {meth : Method} {c : Code} {T0 : State} {locs : List Loc} {P : State → Outcome → Prop} (X0 : Stand p l e ⟨7, 8, 116, 102⟩ (s.setVm vm0) m args below meth c T0 locs 0 0) (hy : own_Y p c prog_6_method_2_code) (hZ : Z.Warmed39 (s.setVm vm0).vm) (hown : (s.setVm vm0).vm.findClass "dev/parlance/JsonGrammar" = some m.cls) (hml : c.maxLocals = 5) (e0 : T0.heap = h0) (Z0 : n0 ≤ h0.size) (N0 : Fr n0 locs) (hIn : own_In Z vm0 h0) {k0 : Nat} (hS : s.Since vm0 k0) (hk : k0 ≤ h0.size) {p0 : Int32} (Gq : own_G Z h0 g ct ob (own_P oN kk) md (1 : Int32) (1 : Int32) (own_P oN 1)) (g_g : n0 ≤ g) (At : Arv Z h0 ct kc .char (52 : Int32) tx (.int 0)) (hT : ∀ i, i < 49 → tx.getD (oN + i) (.int 0) = .int (cc i)) (H : own_H oN kk md M tf cc) (Ao : Arv Z h0 ob ko .boolean (16 : Int32) [(.int 1), (.int 0), (.int 0), (.int 0), (.int 0), (.int 0), (.int 0), (.int 0), (.int 0), (.int 0), (.int 0), (.int 0), (.int 0), (.int 0), (.int 0), (.int 0)] (.int 0)) (g_ob : n0 ≤ ob) (hcs : ¬ (cs = (0 : Int32))) (S_cs : Sta Z h0 "java/lang/String" "COMPACT_STRINGS" "Z" (.int cs)) (S_fm : Sta Z h0 "jdk/internal/util/Preconditions" "SIOOBE_FORMATTER" "Ljava/util/function/BiFunction;" fm) (rfm : fm.isRef = true) (hm0 : 1 ≤ M) (kd : own_KD p l e s m args below meth c Z g ct ob kc ko tx oN kk M md cs fm h0 n0 P (own_P oN M) (M < 48)) (kn : own_KN p l e s m args below meth c Z g ct ob kc ko tx oN kk M md cs fm h0 n0 P p0 15 (2 : Int32) (1 : Int32) [(.int 1), (.int 0), (.int 0), (.int 0), (.int 0), (.int 0), (.int 0), (.int 0), (.int 0), (.int 0), (.int 0), (.int 0), (.int 0), (.int 0), (.int 0), (.int 0)] 4 72) : ∃ t o, Steps p.tables e below (T0.setTop (mkF m 15 #[.val (.ref g), .val (.int p0), .val (.int 1), .unset, .unset] [])) t ∧ P t o := by
 have Kp0 : Keep h0 h0 [g, ob] := Keep.refl h0 _
 obtain ⟨⟨Eg, Ft, Fe, Fm, Fo, Fd, Fp, Fa⟩, ho, hk49, ne_ct_g⟩ := own_gi hw Gq At H
 have ne_ob_g : ob ≠ g := Ne.symm (own_neA Eg (own_w hw 54 rfl) Ao)
 have ne_ct_ob : ct ≠ ob := arv_ne At Ao (Or.inl (by decide))
 refine own_il X0 hy d12_15 rfl ?_
 refine own_zn X0 hy d12_16 ((if0 _ _).trans (feq (by decide : ¬ ((1 : Int32) = (0 : Int32)))).1) ?_
 refine own_al X0 hy d12_19 rfl rfl ?_
 refine own_gf X0 hy hZ hown (host := "") (Or.inl (own_w hw 76 rfl)) Via.refl e0 Fd d12_20 fun T1 X1 e1 => ?_
 refine own_zn X1 hy d12_23 ((if0 _ _).trans (tlt (by decide : ((0 : Int32) < (1 : Int32)))).2.2.2) ?_
 rcases own_at H 1 (by decide) hm0 (by decide) with ⟨hm1, hk1, hg1⟩ | ⟨hm1, hk1⟩ | ⟨hm1, hk1, hb1⟩
 ·
  refine own_al X1 hy d12_26 rfl rfl ?_
  refine own_cp X1 hy hZ hown (own_y19 hw) (rmSk0 hw Z0 ⟨Eg, Ft, Fe, Fm, Fo, Fd, Fp, Fa⟩ g_g At hT H (by decide) (Or.inr ⟨hk1, own_lws (L := 34) hg1 (by decide)⟩)) e1 Eg d12_27 own_pd12 hml fun v2 T2 L2 X2 hQ2 => ?_
  obtain ⟨rfl, N2q, e2⟩ := hQ2
  have N2 := Fr.app N0 N2q
  refine own_al X2 hy d12_30 rfl rfl ?_
  refine own_gf X2 hy hZ hown (host := "") (Or.inl (own_w hw 63 rfl)) Via.refl e2 Fo d12_31 fun T4 X4 e4 => ?_
  refine own_al X4 hy d12_34 rfl rfl ?_
  refine own_gf X4 hy hZ hown (host := "") (Or.inl (own_w hw 76 rfl)) Via.refl e4 Fd d12_35 fun T5 X5 e5 => ?_
  refine own_ic X5 hy d12_38 ?_
  refine own_sb X5 hy d12_39 ?_
  refine own_bz X5 hy hZ e5 Ao ⟨by decide, by decide⟩ (v := (.int 1)) rfl d12_40 ?_
  refine own_is X5 hy d12_41 (l' := #[.val (.ref g), .val (.int p0), .val (.int 1), .val (.int 1), .unset]) rfl ?_
  refine own_ae X5 hy hZ hown hw e5 Fa Fe a12_42 fun T7 X7 e7 => ?_
  clear X1 e1 N2q X2 e2 X4 e4 X5 e5
  refine own_cn X7 hy d12_50 (tlt (own_Plt ho hk49 hk1)).2.1 ?_
  refine own_tc X7 hy hZ hown hw e7 Ft Fa At ho hT (by decide) t12_53 fun T8 X8 e8 => ?_
  refine own_gt X8 hy d12_62 66 ?_
  refine own_it X8 hy d12_66 (l' := #[.val (.ref g), .val (.int p0), .val (.int 1), .val (.int 1), .val (.int (cc 1))]) rfl ?_
  refine own_iw X8 hy d12_68 rfl ?_
  refine own_il X8 hy d12_70 rfl ?_
  refine own_zn X8 hy d12_71 ((if0 _ _).trans (feq (by decide : ¬ ((1 : Int32) = (0 : Int32)))).1) ?_
  refine own_bp X8 hy d12_74 ?_
  refine own_gt X8 hy d12_76 81 ?_
  refine own_cy X8 hy d12_81 112 (feq (by rw [show cc 1 = 34 from hg1]; decide)).2 ?_
  refine own_al X8 hy d12_112 rfl rfl ?_
  refine own_gf X8 hy hZ hown (host := "") (Or.inl (own_w hw 95 rfl)) Via.refl e8 Fp d12_113 fun T9 X9 e9 => ?_
  refine own_zy X9 hy d12_116 126 ((if0 _ _).trans (feq (by decide : ¬ ((1 : Int32) = (0 : Int32)))).2) ?_
  refine own_al X9 hy d12_126 rfl rfl ?_
  refine own_gf X9 hy hZ hown (host := "") (Or.inl (own_w hw 95 rfl)) Via.refl e9 Fp d12_127 fun T10 X10 e10 => ?_
  refine own_zy X10 hy d12_130 143 ((if0 _ _).trans (feq (by decide : ¬ ((1 : Int32) = (0 : Int32)))).2) ?_
  refine own_al X10 hy d12_143 rfl rfl ?_
  refine own_ic X10 hy d12_144 ?_
  refine own_pn X10 hy hZ hown (own_w hw 95 rfl) Via.refl e10 Fp Eg (Or.inl (own_w hw 96 rfl)) (own_w hw 54 rfl) (ty := .boolean) (v' := (.int 0)) (by decide) rfl (by first | exact fits_nar_bool _ | decide) d12_145 fun T11 h11 X11 e11 W11 => ?_
  replace hIn := own_In.wr hIn W11 (own_sf hZ Eg)
  replace S_cs := S_cs.wr W11
  replace S_fm := S_fm.wr W11
  replace At := At.other W11 ne_ct_g
  replace Ao := Ao.other W11 ne_ob_g
  have Z11 := own_zw Z0 W11
  have Kp11 := Kp0.wr W11 own_m0
  replace hk := own_zw hk W11
  obtain ⟨Eg, Ft, Fe, Fm, Fo, Fd, Fp, Fa⟩ := own_Gop hw ⟨Eg, Ft, Fe, Fm, Fo, Fd, Fp, Fa⟩ W11 rfl
  have N11 := Fr.snoc X11 N2 g_g
  clear N2 X7 e7 X8 e8 X9 e9 X10 e10 W11
  refine own_il X11 hy d12_148 rfl ?_
  refine own_zn X11 hy d12_149 ((if0 _ _).trans (feq (by decide : ¬ ((1 : Int32) = (0 : Int32)))).1) ?_
  refine own_al X11 hy d12_152 rfl rfl ?_
  refine own_cpS X11 hy hZ hown hw hIn hS hk (own_y25 hw) (rmM1 hw Z11 ⟨Eg, Ft, Fe, Fm, Fo, Fd, Fp, Fa⟩ g_g At hT H Ao g_ob hm0 hcs S_cs) e11 Eg d12_153 own_pd3 hml fun v12 T12 L12 X12 hQ12 hS hk hZ hown hIn => ?_
  obtain ⟨N12q, K12q, hD12⟩ := hQ12
  have N12 := Fr.app N11 N12q
  rcases hD12 with ⟨hm14, rfl, ⟨-, Ft12, Fe12, Fm12, Fo12, Fd12, Fp12, Fa12⟩, AoC12⟩ | ⟨hMf, rfl, ⟨-, Ft12, Fe12, Fm12, Fo12, Fd12, Fp12, Fa12⟩, AoC12⟩
  ·
   replace S_cs := own_staKeep S_cs K12q (allS (own_ns Eg) (allS (own_nsA Ao) all0))
   replace S_fm := own_staKeep S_fm K12q (allS (own_ns Eg) (allS (own_nsA Ao) all0))
   replace Eg := Eg.keep K12q
   replace At := At.keep K12q (ninS ne_ct_g (ninS ne_ct_ob nin0))
   have Z12 := Nat.le_trans Z11 K12q.1
   have Kp12 := Kp11.trans K12q (allS own_m0 (allS own_m1 (all0)))
   refine own_gt X12 hy d12_156 163 ?_
   refine own_is X12 hy d12_163 (l' := #[.val (.ref g), .val (.int p0), .val (.int 1), .val (.int 1), .val (.int (cc 1))]) rfl ?_
   refine own_gt X12 hy d12_164 169 ?_
   refine own_gt X12 hy d12_169 15 ?_
   exact kn T12 _ _ _ _ _ X12 hS (hk) hZ hown (hIn) (Kp12) N12 hm14 (⟨Eg, Ft12, Fe12, Fm12, Fo12, Fd12, Fp12, Fa12⟩) (AoC12) (At) (S_cs) (S_fm)
  ·
   replace S_cs := own_staKeep S_cs K12q (allS (own_ns Eg) (allS (own_nsA Ao) all0))
   replace S_fm := own_staKeep S_fm K12q (allS (own_ns Eg) (allS (own_nsA Ao) all0))
   replace Eg := Eg.keep K12q
   replace At := At.keep K12q (ninS ne_ct_g (ninS ne_ct_ob nin0))
   have Z12 := Nat.le_trans Z11 K12q.1
   have Kp12 := Kp11.trans K12q (allS own_m0 (allS own_m1 (all0)))
   refine own_gt X12 hy d12_156 163 ?_
   refine own_is X12 hy d12_163 (l' := #[.val (.ref g), .val (.int p0), .val (.int 0), .val (.int 1), .val (.int (cc 1))]) rfl ?_
   refine own_gt X12 hy d12_164 169 ?_
   refine own_gt X12 hy d12_169 15 ?_
   refine own_il X12 hy d12_15 rfl ?_
   refine own_zy X12 hy d12_16 172 ((if0 _ _).trans (teq (by decide : ((0 : Int32) = (0 : Int32)))).1) ?_
   refine own_il X12 hy d12_172 rfl ?_
   refine own_zy X12 hy d12_173 180 ((if0 _ _).trans (teq (by decide : ((0 : Int32) = (0 : Int32)))).1) ?_
   refine own_al X12 hy d12_180 rfl rfl ?_
   refine own_gf X12 hy hZ hown (host := "") (Or.inl (own_w hw 78 rfl)) Via.refl rfl Fa12 d12_181 fun T13 X13 e13 => ?_
   exact kd T13 _ _ _ _ (X13.more (by decide) (by decide)) hS (by rw [e13]; exact hk) hZ hown (by rw [e13]; exact hIn) (by rw [e13]; exact Kp12) N12 (by omega)
 ·
  exact own_bsA hw X1 hy hZ hown hml e1 Z0 N0 (by rw [hm1]; exact ⟨Eg, Ft, Fe, Fm, Fo, Fd, Fp, Fa⟩) g_g At hT H Ao (Or.inl (by omega)) (by decide) (by decide) (fun T' locs' Ls' X' K' N' => kd T' _ _ _ _ (X'.more (by decide) (by decide)) hS (Nat.le_trans hk K'.1) hZ hown (own_In.keep hIn K' (allS (own_sf hZ Eg) all0)) (Kp0.trans K' (allS own_m0 all0)) N' (by omega))
 ·
  exact own_bsA hw X1 hy hZ hown hml e1 Z0 N0 (by rw [hm1]; exact ⟨Eg, Ft, Fe, Fm, Fo, Fd, Fp, Fa⟩) g_g At hT H Ao (Or.inr ⟨by omega, by rw [hm1]; exact hb1⟩) (by decide) (by decide) (fun T' locs' Ls' X' K' N' => kd T' _ _ _ _ (X'.more (by decide) (by decide)) hS (Nat.le_trans hk K'.1) hZ hown (own_In.keep hIn K' (allS (own_sf hZ Eg) all0)) (Kp0.trans K' (allS own_m0 all0)) N' (by omega))
theorem own_bsI15 (hw : own_HW Z a0) {p : Program} {e : Env} {s : State} {vm0 : Vm} {m : MethodId} {args : Array Value} {below : List Frame} {meth : Method} {c : Code} {T0 : State} {locs : List Loc} {P : State → Outcome → Prop} (X0 : Stand p l e ⟨7, 8, 116, 102⟩ (s.setVm vm0) m args below meth c T0 locs 4 72) (hy : own_Y p c prog_6_method_2_code) (hZ : Z.Warmed39 (s.setVm vm0).vm) (hown : (s.setVm vm0).vm.findClass "dev/parlance/JsonGrammar" = some m.cls) (hml : c.maxLocals = 5) (e0 : T0.heap = h0) (Z0 : n0 ≤ h0.size) (N0 : Fr n0 locs) (hIn : own_In Z vm0 h0) {k0 : Nat} (hS : s.Since vm0 k0) (hk : k0 ≤ h0.size) {p0 q3 q4 : Int32} (Gq : own_G Z h0 g ct ob (own_P oN kk) md (2 : Int32) (1 : Int32) (own_P oN 15)) (g_g : n0 ≤ g) (At : Arv Z h0 ct kc .char (52 : Int32) tx (.int 0)) (hT : ∀ i, i < 49 → tx.getD (oN + i) (.int 0) = .int (cc i)) (H : own_H oN kk md M tf cc) (Ao : Arv Z h0 ob ko .boolean (16 : Int32) [(.int 1), (.int 0), (.int 0), (.int 0), (.int 0), (.int 0), (.int 0), (.int 0), (.int 0), (.int 0), (.int 0), (.int 0), (.int 0), (.int 0), (.int 0), (.int 0)] (.int 0)) (g_ob : n0 ≤ ob) (hcs : ¬ (cs = (0 : Int32))) (S_cs : Sta Z h0 "java/lang/String" "COMPACT_STRINGS" "Z" (.int cs)) (S_fm : Sta Z h0 "jdk/internal/util/Preconditions" "SIOOBE_FORMATTER" "Ljava/util/function/BiFunction;" fm) (rfm : fm.isRef = true) (hm14 : 15 ≤ M) (kd : own_KD p l e s m args below meth c Z g ct ob kc ko tx oN kk M md cs fm h0 n0 P (own_P oN M) (M < 48)) (kn : own_KN p l e s m args below meth c Z g ct ob kc ko tx oN kk M md cs fm h0 n0 P p0 23 (2 : Int32) (0 : Int32) [(.int 1), (.int 0), (.int 0), (.int 0), (.int 0), (.int 0), (.int 0), (.int 0), (.int 0), (.int 0), (.int 0), (.int 0), (.int 0), (.int 0), (.int 0), (.int 0)] 4 72) : ∃ t o, Steps p.tables e below (T0.setTop (mkF m 15 #[.val (.ref g), .val (.int p0), .val (.int 1), .val (.int q3), .val (.int q4)] [])) t ∧ P t o := by
 have Kp0 : Keep h0 h0 [g, ob] := Keep.refl h0 _
 obtain ⟨⟨Eg, Ft, Fe, Fm, Fo, Fd, Fp, Fa⟩, ho, hk49, ne_ct_g⟩ := own_gi hw Gq At H
 have ne_ob_g : ob ≠ g := Ne.symm (own_neA Eg (own_w hw 54 rfl) Ao)
 have ne_ct_ob : ct ≠ ob := arv_ne At Ao (Or.inl (by decide))
 refine own_il X0 hy d12_15 rfl ?_
 refine own_zn X0 hy d12_16 ((if0 _ _).trans (feq (by decide : ¬ ((1 : Int32) = (0 : Int32)))).1) ?_
 refine own_al X0 hy d12_19 rfl rfl ?_
 refine own_gf X0 hy hZ hown (host := "") (Or.inl (own_w hw 76 rfl)) Via.refl e0 Fd d12_20 fun T1 X1 e1 => ?_
 refine own_zn X1 hy d12_23 ((if0 _ _).trans (tlt (by decide : ((0 : Int32) < (2 : Int32)))).2.2.2) ?_
 rcases own_at H 15 (by decide) hm14 (by decide) with ⟨hm15, hk15, hg15⟩ | ⟨hm15, hk15⟩ | ⟨hm15, hk15, hb15⟩
 ·
  refine own_al X1 hy d12_26 rfl rfl ?_
  refine own_cp X1 hy hZ hown (own_y19 hw) (rmSk0 hw Z0 ⟨Eg, Ft, Fe, Fm, Fo, Fd, Fp, Fa⟩ g_g At hT H (by decide) (Or.inr ⟨hk15, own_lws (L := 45) hg15 (by decide)⟩)) e1 Eg d12_27 own_pd12 hml fun v2 T2 L2 X2 hQ2 => ?_
  obtain ⟨rfl, N2q, e2⟩ := hQ2
  have N2 := Fr.app N0 N2q
  refine own_al X2 hy d12_30 rfl rfl ?_
  refine own_gf X2 hy hZ hown (host := "") (Or.inl (own_w hw 63 rfl)) Via.refl e2 Fo d12_31 fun T4 X4 e4 => ?_
  refine own_al X4 hy d12_34 rfl rfl ?_
  refine own_gf X4 hy hZ hown (host := "") (Or.inl (own_w hw 76 rfl)) Via.refl e4 Fd d12_35 fun T5 X5 e5 => ?_
  refine own_ic X5 hy d12_38 ?_
  refine own_sb X5 hy d12_39 ?_
  refine own_bz X5 hy hZ e5 Ao ⟨by decide, by decide⟩ (v := (.int 0)) rfl d12_40 ?_
  refine own_is X5 hy d12_41 (l' := #[.val (.ref g), .val (.int p0), .val (.int 1), .val (.int 0), .val (.int q4)]) rfl ?_
  refine own_ae X5 hy hZ hown hw e5 Fa Fe a12_42 fun T7 X7 e7 => ?_
  clear X1 e1 N2q X2 e2 X4 e4 X5 e5
  refine own_cn X7 hy d12_50 (tlt (own_Plt ho hk49 hk15)).2.1 ?_
  refine own_tc X7 hy hZ hown hw e7 Ft Fa At ho hT (by decide) t12_53 fun T8 X8 e8 => ?_
  refine own_gt X8 hy d12_62 66 ?_
  refine own_it X8 hy d12_66 (l' := #[.val (.ref g), .val (.int p0), .val (.int 1), .val (.int 0), .val (.int (cc 15))]) rfl ?_
  refine own_iw X8 hy d12_68 rfl ?_
  refine own_il X8 hy d12_70 rfl ?_
  refine own_zy X8 hy d12_71 79 ((if0 _ _).trans (teq (by decide : ((0 : Int32) = (0 : Int32)))).1) ?_
  refine own_bp X8 hy d12_79 ?_
  refine own_cy X8 hy d12_81 112 (feq (by rw [show cc 15 = 45 from hg15]; decide)).2 ?_
  refine own_al X8 hy d12_112 rfl rfl ?_
  refine own_gf X8 hy hZ hown (host := "") (Or.inl (own_w hw 95 rfl)) Via.refl e8 Fp d12_113 fun T9 X9 e9 => ?_
  refine own_zy X9 hy d12_116 126 ((if0 _ _).trans (feq (by decide : ¬ ((1 : Int32) = (0 : Int32)))).2) ?_
  refine own_al X9 hy d12_126 rfl rfl ?_
  refine own_gf X9 hy hZ hown (host := "") (Or.inl (own_w hw 95 rfl)) Via.refl e9 Fp d12_127 fun T10 X10 e10 => ?_
  refine own_zy X10 hy d12_130 143 ((if0 _ _).trans (feq (by decide : ¬ ((1 : Int32) = (0 : Int32)))).2) ?_
  refine own_al X10 hy d12_143 rfl rfl ?_
  refine own_ic X10 hy d12_144 ?_
  refine own_pn X10 hy hZ hown (own_w hw 95 rfl) Via.refl e10 Fp Eg (Or.inl (own_w hw 96 rfl)) (own_w hw 54 rfl) (ty := .boolean) (v' := (.int 0)) (by decide) rfl (by first | exact fits_nar_bool _ | decide) d12_145 fun T11 h11 X11 e11 W11 => ?_
  replace hIn := own_In.wr hIn W11 (own_sf hZ Eg)
  replace S_cs := S_cs.wr W11
  replace S_fm := S_fm.wr W11
  replace At := At.other W11 ne_ct_g
  replace Ao := Ao.other W11 ne_ob_g
  have Z11 := own_zw Z0 W11
  have Kp11 := Kp0.wr W11 own_m0
  replace hk := own_zw hk W11
  obtain ⟨Eg, Ft, Fe, Fm, Fo, Fd, Fp, Fa⟩ := own_Gop hw ⟨Eg, Ft, Fe, Fm, Fo, Fd, Fp, Fa⟩ W11 rfl
  have N11 := Fr.snoc X11 N2 g_g
  clear N2 X7 e7 X8 e8 X9 e9 X10 e10 W11
  refine own_il X11 hy d12_148 rfl ?_
  refine own_zy X11 hy d12_149 159 ((if0 _ _).trans (teq (by decide : ((0 : Int32) = (0 : Int32)))).1) ?_
  refine own_al X11 hy d12_159 rfl rfl ?_
  refine own_cp X11 hy hZ hown (own_y24 hw) (rmV15 hw Z11 ⟨Eg, Ft, Fe, Fm, Fo, Fd, Fp, Fa⟩ g_g At hT H hm14) e11 Eg d12_160 own_pd3 hml fun v12 T12 L12 X12 hQ12 => ?_
  obtain ⟨N12q, K12q, hD12⟩ := hQ12
  have N12 := Fr.app N11 N12q
  rcases hD12 with ⟨hm22, rfl, ⟨-, Ft12, Fe12, Fm12, Fo12, Fd12, Fp12, Fa12⟩⟩ | ⟨hMf, rfl, ⟨-, Ft12, Fe12, Fm12, Fo12, Fd12, Fp12, Fa12⟩, hSt⟩ | ⟨hMf, rfl, ⟨-, Ft12, Fe12, Fm12, Fo12, Fd12, Fp12, Fa12⟩⟩
  ·
   replace hIn := own_In.keep hIn K12q (allS (own_sf hZ Eg) all0)
   replace S_cs := own_staKeep S_cs K12q (allS (own_ns Eg) all0)
   replace S_fm := own_staKeep S_fm K12q (allS (own_ns Eg) all0)
   replace Eg := Eg.keep K12q
   replace At := At.keep K12q (ninS ne_ct_g nin0)
   replace Ao := Ao.keep K12q (ninS ne_ob_g nin0)
   have Z12 := Nat.le_trans Z11 K12q.1
   have Kp12 := Kp11.trans K12q (allS own_m0 (all0))
   replace hk := Nat.le_trans hk K12q.1
   refine own_is X12 hy d12_163 (l' := #[.val (.ref g), .val (.int p0), .val (.int 1), .val (.int 0), .val (.int (cc 15))]) rfl ?_
   refine own_gt X12 hy d12_164 169 ?_
   refine own_gt X12 hy d12_169 15 ?_
   exact kn T12 _ _ _ _ _ X12 hS (hk) hZ hown (hIn) (Kp12) N12 hm22 (⟨Eg, Ft12, Fe12, Fm12, Fo12, Fd12, Fp12, Fa12⟩) (Ao) (At) (S_cs) (S_fm)
  ·
   replace hIn := own_In.keep hIn K12q (allS (own_sf hZ Eg) all0)
   replace S_cs := own_staKeep S_cs K12q (allS (own_ns Eg) all0)
   replace S_fm := own_staKeep S_fm K12q (allS (own_ns Eg) all0)
   replace Eg := Eg.keep K12q
   replace At := At.keep K12q (ninS ne_ct_g nin0)
   replace Ao := Ao.keep K12q (ninS ne_ob_g nin0)
   have Z12 := Nat.le_trans Z11 K12q.1
   have Kp12 := Kp11.trans K12q (allS own_m0 (all0))
   replace hk := Nat.le_trans hk K12q.1
   rcases hSt with hkM | ⟨hkM, hbM⟩
   ·
    refine own_is X12 hy d12_163 (l' := #[.val (.ref g), .val (.int p0), .val (.int 1), .val (.int 0), .val (.int (cc 15))]) rfl ?_
    refine own_gt X12 hy d12_164 169 ?_
    refine own_gt X12 hy d12_169 15 ?_
    refine own_il X12 hy d12_15 rfl ?_
    refine own_zn X12 hy d12_16 ((if0 _ _).trans (feq (by decide : ¬ ((1 : Int32) = (0 : Int32)))).1) ?_
    refine own_al X12 hy d12_19 rfl rfl ?_
    refine own_gf X12 hy hZ hown (host := "") (Or.inl (own_w hw 76 rfl)) Via.refl rfl Fd12 d12_20 fun T13 X13 e13 => ?_
    refine own_zn X13 hy d12_23 ((if0 _ _).trans (tlt (by decide : ((0 : Int32) < (2 : Int32)))).2.2.2) ?_
    exact own_bsC hw X13 hy hZ hown hml e13 Z12 N12 ⟨Eg, Ft12, Fe12, Fm12, Fo12, Fd12, Fp12, Fa12⟩ g_g At hT H Ao (Or.inl hkM) (by decide) (by decide) (fun T' locs' Ls' X' K' N' => kd T' _ _ _ _ (X'.more (by decide) (by decide)) hS (Nat.le_trans hk K'.1) hZ hown (own_In.keep hIn K' (allS (own_sf hZ Eg) all0)) (Kp12.trans K' (allS own_m0 all0)) N' (by omega))
   ·
    refine own_is X12 hy d12_163 (l' := #[.val (.ref g), .val (.int p0), .val (.int 1), .val (.int 0), .val (.int (cc 15))]) rfl ?_
    refine own_gt X12 hy d12_164 169 ?_
    refine own_gt X12 hy d12_169 15 ?_
    refine own_il X12 hy d12_15 rfl ?_
    refine own_zn X12 hy d12_16 ((if0 _ _).trans (feq (by decide : ¬ ((1 : Int32) = (0 : Int32)))).1) ?_
    refine own_al X12 hy d12_19 rfl rfl ?_
    refine own_gf X12 hy hZ hown (host := "") (Or.inl (own_w hw 76 rfl)) Via.refl rfl Fd12 d12_20 fun T14 X14 e14 => ?_
    refine own_zn X14 hy d12_23 ((if0 _ _).trans (tlt (by decide : ((0 : Int32) < (2 : Int32)))).2.2.2) ?_
    exact own_bsC hw X14 hy hZ hown hml e14 Z12 N12 ⟨Eg, Ft12, Fe12, Fm12, Fo12, Fd12, Fp12, Fa12⟩ g_g At hT H Ao (Or.inr ⟨hkM, hbM⟩) (by decide) (by decide) (fun T' locs' Ls' X' K' N' => kd T' _ _ _ _ (X'.more (by decide) (by decide)) hS (Nat.le_trans hk K'.1) hZ hown (own_In.keep hIn K' (allS (own_sf hZ Eg) all0)) (Kp12.trans K' (allS own_m0 all0)) N' (by omega))
  ·
   replace hIn := own_In.keep hIn K12q (allS (own_sf hZ Eg) all0)
   replace S_cs := own_staKeep S_cs K12q (allS (own_ns Eg) all0)
   replace S_fm := own_staKeep S_fm K12q (allS (own_ns Eg) all0)
   replace Eg := Eg.keep K12q
   replace At := At.keep K12q (ninS ne_ct_g nin0)
   replace Ao := Ao.keep K12q (ninS ne_ob_g nin0)
   have Z12 := Nat.le_trans Z11 K12q.1
   have Kp12 := Kp11.trans K12q (allS own_m0 (all0))
   replace hk := Nat.le_trans hk K12q.1
   refine own_is X12 hy d12_163 (l' := #[.val (.ref g), .val (.int p0), .val (.int 0), .val (.int 0), .val (.int (cc 15))]) rfl ?_
   refine own_gt X12 hy d12_164 169 ?_
   refine own_gt X12 hy d12_169 15 ?_
   refine own_il X12 hy d12_15 rfl ?_
   refine own_zy X12 hy d12_16 172 ((if0 _ _).trans (teq (by decide : ((0 : Int32) = (0 : Int32)))).1) ?_
   refine own_il X12 hy d12_172 rfl ?_
   refine own_zy X12 hy d12_173 180 ((if0 _ _).trans (teq (by decide : ((0 : Int32) = (0 : Int32)))).1) ?_
   refine own_al X12 hy d12_180 rfl rfl ?_
   refine own_gf X12 hy hZ hown (host := "") (Or.inl (own_w hw 78 rfl)) Via.refl rfl Fa12 d12_181 fun T15 X15 e15 => ?_
   exact kd T15 _ _ _ _ (X15.more (by decide) (by decide)) hS (by rw [e15]; exact hk) hZ hown (by rw [e15]; exact hIn) (by rw [e15]; exact Kp12) N12 (by omega)
 ·
  exact own_bsB hw X1 hy hZ hown hml e1 Z0 N0 (by rw [hm15]; exact ⟨Eg, Ft, Fe, Fm, Fo, Fd, Fp, Fa⟩) g_g At hT H Ao (Or.inl (by omega)) (by decide) (by decide) (fun T' locs' Ls' X' K' N' => kd T' _ _ _ _ (X'.more (by decide) (by decide)) hS (Nat.le_trans hk K'.1) hZ hown (own_In.keep hIn K' (allS (own_sf hZ Eg) all0)) (Kp0.trans K' (allS own_m0 all0)) N' (by omega))
 ·
  exact own_bsB hw X1 hy hZ hown hml e1 Z0 N0 (by rw [hm15]; exact ⟨Eg, Ft, Fe, Fm, Fo, Fd, Fp, Fa⟩) g_g At hT H Ao (Or.inr ⟨by omega, by rw [hm15]; exact hb15⟩) (by decide) (by decide) (fun T' locs' Ls' X' K' N' => kd T' _ _ _ _ (X'.more (by decide) (by decide)) hS (Nat.le_trans hk K'.1) hZ hown (own_In.keep hIn K' (allS (own_sf hZ Eg) all0)) (Kp0.trans K' (allS own_m0 all0)) N' (by omega))
theorem d12_133 : decode C12 133 = .ok (.aload_n 0, 1) := by decide +kernel
theorem own_bsI23 (hw : own_HW Z a0) {p : Program} {e : Env} {s : State} {vm0 : Vm} {m : MethodId} {args : Array Value} {below : List Frame} {meth : Method} {c : Code} {T0 : State} {locs : List Loc} {P : State → Outcome → Prop} (X0 : Stand p l e ⟨7, 8, 116, 102⟩ (s.setVm vm0) m args below meth c T0 locs 4 72) (hy : own_Y p c prog_6_method_2_code) (hZ : Z.Warmed39 (s.setVm vm0).vm) (hown : (s.setVm vm0).vm.findClass "dev/parlance/JsonGrammar" = some m.cls) (hml : c.maxLocals = 5) (e0 : T0.heap = h0) (Z0 : n0 ≤ h0.size) (N0 : Fr n0 locs) (hIn : own_In Z vm0 h0) {k0 : Nat} (hS : s.Since vm0 k0) (hk : k0 ≤ h0.size) {p0 q3 q4 : Int32} (Gq : own_G Z h0 g ct ob (own_P oN kk) md (2 : Int32) (0 : Int32) (own_P oN 23)) (g_g : n0 ≤ g) (At : Arv Z h0 ct kc .char (52 : Int32) tx (.int 0)) (hT : ∀ i, i < 49 → tx.getD (oN + i) (.int 0) = .int (cc i)) (H : own_H oN kk md M tf cc) (Ao : Arv Z h0 ob ko .boolean (16 : Int32) [(.int 1), (.int 0), (.int 0), (.int 0), (.int 0), (.int 0), (.int 0), (.int 0), (.int 0), (.int 0), (.int 0), (.int 0), (.int 0), (.int 0), (.int 0), (.int 0)] (.int 0)) (g_ob : n0 ≤ ob) (hcs : ¬ (cs = (0 : Int32))) (S_cs : Sta Z h0 "java/lang/String" "COMPACT_STRINGS" "Z" (.int cs)) (S_fm : Sta Z h0 "jdk/internal/util/Preconditions" "SIOOBE_FORMATTER" "Ljava/util/function/BiFunction;" fm) (rfm : fm.isRef = true) (hm22 : 23 ≤ M) (kd : own_KD p l e s m args below meth c Z g ct ob kc ko tx oN kk M md cs fm h0 n0 P (own_P oN M) (M < 48)) (kn : own_KN p l e s m args below meth c Z g ct ob kc ko tx oN kk M md cs fm h0 n0 P p0 28 (2 : Int32) (0 : Int32) [(.int 1), (.int 0), (.int 0), (.int 0), (.int 0), (.int 0), (.int 0), (.int 0), (.int 0), (.int 0), (.int 0), (.int 0), (.int 0), (.int 0), (.int 0), (.int 0)] 6 92) : ∃ t o, Steps p.tables e below (T0.setTop (mkF m 15 #[.val (.ref g), .val (.int p0), .val (.int 1), .val (.int q3), .val (.int q4)] [])) t ∧ P t o := by
 have Kp0 : Keep h0 h0 [g, ob] := Keep.refl h0 _
 obtain ⟨⟨Eg, Ft, Fe, Fm, Fo, Fd, Fp, Fa⟩, ho, hk49, ne_ct_g⟩ := own_gi hw Gq At H
 have ne_ob_g : ob ≠ g := Ne.symm (own_neA Eg (own_w hw 54 rfl) Ao)
 have ne_ct_ob : ct ≠ ob := arv_ne At Ao (Or.inl (by decide))
 refine own_il X0 hy d12_15 rfl ?_
 refine own_zn X0 hy d12_16 ((if0 _ _).trans (feq (by decide : ¬ ((1 : Int32) = (0 : Int32)))).1) ?_
 refine own_al X0 hy d12_19 rfl rfl ?_
 refine own_gf X0 hy hZ hown (host := "") (Or.inl (own_w hw 76 rfl)) Via.refl e0 Fd d12_20 fun T1 X1 e1 => ?_
 refine own_zn X1 hy d12_23 ((if0 _ _).trans (tlt (by decide : ((0 : Int32) < (2 : Int32)))).2.2.2) ?_
 rcases own_at H 23 (by decide) hm22 (by decide) with ⟨hm23, hk23, hg23⟩ | ⟨hm23, hk23⟩ | ⟨hm23, hk23, hb23⟩
 ·
  refine own_al X1 hy d12_26 rfl rfl ?_
  refine own_cp X1 hy hZ hown (own_y19 hw) (rmSk0 hw Z0 ⟨Eg, Ft, Fe, Fm, Fo, Fd, Fp, Fa⟩ g_g At hT H (by decide) (Or.inr ⟨hk23, own_lws (L := 44) hg23 (by decide)⟩)) e1 Eg d12_27 own_pd12 hml fun v2 T2 L2 X2 hQ2 => ?_
  obtain ⟨rfl, N2q, e2⟩ := hQ2
  have N2 := Fr.app N0 N2q
  refine own_al X2 hy d12_30 rfl rfl ?_
  refine own_gf X2 hy hZ hown (host := "") (Or.inl (own_w hw 63 rfl)) Via.refl e2 Fo d12_31 fun T4 X4 e4 => ?_
  refine own_al X4 hy d12_34 rfl rfl ?_
  refine own_gf X4 hy hZ hown (host := "") (Or.inl (own_w hw 76 rfl)) Via.refl e4 Fd d12_35 fun T5 X5 e5 => ?_
  refine own_ic X5 hy d12_38 ?_
  refine own_sb X5 hy d12_39 ?_
  refine own_bz X5 hy hZ e5 Ao ⟨by decide, by decide⟩ (v := (.int 0)) rfl d12_40 ?_
  refine own_is X5 hy d12_41 (l' := #[.val (.ref g), .val (.int p0), .val (.int 1), .val (.int 0), .val (.int q4)]) rfl ?_
  refine own_ae X5 hy hZ hown hw e5 Fa Fe a12_42 fun T7 X7 e7 => ?_
  clear X1 e1 N2q X2 e2 X4 e4 X5 e5
  refine own_cn X7 hy d12_50 (tlt (own_Plt ho hk49 hk23)).2.1 ?_
  refine own_tc X7 hy hZ hown hw e7 Ft Fa At ho hT (by decide) t12_53 fun T8 X8 e8 => ?_
  refine own_gt X8 hy d12_62 66 ?_
  refine own_it X8 hy d12_66 (l' := #[.val (.ref g), .val (.int p0), .val (.int 1), .val (.int 0), .val (.int (cc 23))]) rfl ?_
  refine own_iw X8 hy d12_68 rfl ?_
  refine own_il X8 hy d12_70 rfl ?_
  refine own_zy X8 hy d12_71 79 ((if0 _ _).trans (teq (by decide : ((0 : Int32) = (0 : Int32)))).1) ?_
  refine own_bp X8 hy d12_79 ?_
  refine own_cy X8 hy d12_81 112 (feq (by rw [show cc 23 = 44 from hg23]; decide)).2 ?_
  refine own_al X8 hy d12_112 rfl rfl ?_
  refine own_gf X8 hy hZ hown (host := "") (Or.inl (own_w hw 95 rfl)) Via.refl e8 Fp d12_113 fun T9 X9 e9 => ?_
  refine own_zn X9 hy d12_116 ((if0 _ _).trans (teq (by decide : ((0 : Int32) = (0 : Int32)))).2) ?_
  refine own_iw X9 hy d12_119 rfl ?_
  refine own_bp X9 hy d12_121 ?_
  refine own_cn X9 hy d12_123 (teq (show cc 23 = 44 from hg23)).2 ?_
  refine own_al X9 hy d12_126 rfl rfl ?_
  refine own_gf X9 hy hZ hown (host := "") (Or.inl (own_w hw 95 rfl)) Via.refl e9 Fp d12_127 fun T10 X10 e10 => ?_
  refine own_zn X10 hy d12_130 ((if0 _ _).trans (teq (by decide : ((0 : Int32) = (0 : Int32)))).2) ?_
  refine own_inc X10 hy hZ hown hw e10 ⟨Eg, Ft, Fe, Fm, Fo, Fd, Fp, Fa⟩ i12_133 24 fun T11 h11 X11 e11 W11 ⟨_, Ft, Fe, Fm, Fo, Fd, Fp, Fa⟩ => ?_
  replace hIn := own_In.wr hIn W11 (own_sf hZ Eg)
  replace S_cs := S_cs.wr W11
  replace S_fm := S_fm.wr W11
  replace Eg := Eg.wr W11
  replace At := At.other W11 ne_ct_g
  replace Ao := Ao.other W11 ne_ob_g
  have Z11 := own_zw Z0 W11
  have Kp11 := Kp0.wr W11 own_m0
  replace hk := own_zw hk W11
  have N11 := Fr.snoc X11 N2 g_g
  clear N2 X7 e7 X8 e8 X9 e9 X10 e10 W11
  refine own_al X11 hy d12_143 rfl rfl ?_
  refine own_ic X11 hy d12_144 ?_
  refine own_pn X11 hy hZ hown (own_w hw 95 rfl) Via.refl e11 Fp Eg (Or.inl (own_w hw 96 rfl)) (own_w hw 54 rfl) (ty := .boolean) (v' := (.int 0)) (by decide) rfl (by first | exact fits_nar_bool _ | decide) d12_145 fun T12 h12 X12 e12 W12 => ?_
  replace hIn := own_In.wr hIn W12 (own_sf hZ Eg)
  replace S_cs := S_cs.wr W12
  replace S_fm := S_fm.wr W12
  replace At := At.other W12 ne_ct_g
  replace Ao := Ao.other W12 ne_ob_g
  have Z12 := own_zw Z11 W12
  have Kp12 := Kp11.wr W12 own_m0
  replace hk := own_zw hk W12
  obtain ⟨Eg, Ft, Fe, Fm, Fo, Fd, Fp, Fa⟩ := own_Gop hw ⟨Eg, Ft, Fe, Fm, Fo, Fd, Fp, Fa⟩ W12 rfl
  have N12 := Fr.snoc X12 N11 g_g
  refine own_il X12 hy d12_148 rfl ?_
  refine own_zy X12 hy d12_149 159 ((if0 _ _).trans (teq (by decide : ((0 : Int32) = (0 : Int32)))).1) ?_
  refine own_al X12 hy d12_159 rfl rfl ?_
  refine own_cpS X12 hy hZ hown hw hIn hS hk (own_y24 hw) (rmV24 hw Z12 ⟨Eg, Ft, Fe, Fm, Fo, Fd, Fp, Fa⟩ g_g At hT H hm23 hcs S_cs S_fm rfm) e12 Eg d12_160 own_pd3 hml fun v13 T13 L13 X13 hQ13 hS hk hZ hown hIn => ?_
  obtain ⟨N13q, K13q, hD13⟩ := hQ13
  have N13 := Fr.app N12 N13q
  rcases hD13 with ⟨hm27, rfl, ⟨-, Ft13, Fe13, Fm13, Fo13, Fd13, Fp13, Fa13⟩⟩ | ⟨hMf, rfl, ⟨-, Ft13, Fe13, Fm13, Fo13, Fd13, Fp13, Fa13⟩⟩
  ·
   replace S_cs := own_staKeep S_cs K13q (allS (own_ns Eg) all0)
   replace S_fm := own_staKeep S_fm K13q (allS (own_ns Eg) all0)
   replace Eg := Eg.keep K13q
   replace At := At.keep K13q (ninS ne_ct_g nin0)
   replace Ao := Ao.keep K13q (ninS ne_ob_g nin0)
   have Z13 := Nat.le_trans Z12 K13q.1
   have Kp13 := Kp12.trans K13q (allS own_m0 (all0))
   clear X11 e11 N11 Z11 Kp11 X12 e12 W12 N12 Z12 Kp12
   refine own_is X13 hy d12_163 (l' := #[.val (.ref g), .val (.int p0), .val (.int 1), .val (.int 0), .val (.int (cc 23))]) rfl ?_
   refine own_gt X13 hy d12_164 169 ?_
   refine own_gt X13 hy d12_169 15 ?_
   exact kn T13 _ _ _ _ _ X13 hS (hk) hZ hown (hIn) (Kp13) N13 hm27 (⟨Eg, Ft13, Fe13, Fm13, Fo13, Fd13, Fp13, Fa13⟩) (Ao) (At) (S_cs) (S_fm)
  ·
   replace S_cs := own_staKeep S_cs K13q (allS (own_ns Eg) all0)
   replace S_fm := own_staKeep S_fm K13q (allS (own_ns Eg) all0)
   replace Eg := Eg.keep K13q
   replace At := At.keep K13q (ninS ne_ct_g nin0)
   replace Ao := Ao.keep K13q (ninS ne_ob_g nin0)
   have Z13 := Nat.le_trans Z12 K13q.1
   have Kp13 := Kp12.trans K13q (allS own_m0 (all0))
   clear X11 e11 N11 Z11 Kp11 X12 e12 W12 N12 Z12 Kp12
   refine own_is X13 hy d12_163 (l' := #[.val (.ref g), .val (.int p0), .val (.int 0), .val (.int 0), .val (.int (cc 23))]) rfl ?_
   refine own_gt X13 hy d12_164 169 ?_
   refine own_gt X13 hy d12_169 15 ?_
   refine own_il X13 hy d12_15 rfl ?_
   refine own_zy X13 hy d12_16 172 ((if0 _ _).trans (teq (by decide : ((0 : Int32) = (0 : Int32)))).1) ?_
   refine own_il X13 hy d12_172 rfl ?_
   refine own_zy X13 hy d12_173 180 ((if0 _ _).trans (teq (by decide : ((0 : Int32) = (0 : Int32)))).1) ?_
   refine own_al X13 hy d12_180 rfl rfl ?_
   refine own_gf X13 hy hZ hown (host := "") (Or.inl (own_w hw 78 rfl)) Via.refl rfl Fa13 d12_181 fun T14 X14 e14 => ?_
   exact kd T14 _ _ _ _ (X14.more (by decide) (by decide)) hS (by rw [e14]; exact hk) hZ hown (by rw [e14]; exact hIn) (by rw [e14]; exact Kp13) N13 (by omega)
 ·
  exact own_bsC hw X1 hy hZ hown hml e1 Z0 N0 (by rw [hm23]; exact ⟨Eg, Ft, Fe, Fm, Fo, Fd, Fp, Fa⟩) g_g At hT H Ao (Or.inl (by omega)) (by decide) (by decide) (fun T' locs' Ls' X' K' N' => kd T' _ _ _ _ (X'.more (by decide) (by decide)) hS (Nat.le_trans hk K'.1) hZ hown (own_In.keep hIn K' (allS (own_sf hZ Eg) all0)) (Kp0.trans K' (allS own_m0 all0)) N' (by omega))
 ·
  exact own_bsC hw X1 hy hZ hown hml e1 Z0 N0 (by rw [hm23]; exact ⟨Eg, Ft, Fe, Fm, Fo, Fd, Fp, Fa⟩) g_g At hT H Ao (Or.inr ⟨by omega, by rw [hm23]; exact hb23⟩) (by decide) (by decide) (fun T' locs' Ls' X' K' N' => kd T' _ _ _ _ (X'.more (by decide) (by decide)) hS (Nat.le_trans hk K'.1) hZ hown (own_In.keep hIn K' (allS (own_sf hZ Eg) all0)) (Kp0.trans K' (allS own_m0 all0)) N' (by omega))
theorem own_bsI28 (hw : own_HW Z a0) {p : Program} {e : Env} {s : State} {vm0 : Vm} {m : MethodId} {args : Array Value} {below : List Frame} {meth : Method} {c : Code} {T0 : State} {locs : List Loc} {P : State → Outcome → Prop} (X0 : Stand p l e ⟨7, 8, 116, 102⟩ (s.setVm vm0) m args below meth c T0 locs 6 92) (hy : own_Y p c prog_6_method_2_code) (hZ : Z.Warmed39 (s.setVm vm0).vm) (hown : (s.setVm vm0).vm.findClass "dev/parlance/JsonGrammar" = some m.cls) (hml : c.maxLocals = 5) (e0 : T0.heap = h0) (Z0 : n0 ≤ h0.size) (N0 : Fr n0 locs) (hIn : own_In Z vm0 h0) {k0 : Nat} (hS : s.Since vm0 k0) (hk : k0 ≤ h0.size) {p0 q3 q4 : Int32} (Gq : own_G Z h0 g ct ob (own_P oN kk) md (2 : Int32) (0 : Int32) (own_P oN 28)) (g_g : n0 ≤ g) (At : Arv Z h0 ct kc .char (52 : Int32) tx (.int 0)) (hT : ∀ i, i < 49 → tx.getD (oN + i) (.int 0) = .int (cc i)) (H : own_H oN kk md M tf cc) (Ao : Arv Z h0 ob ko .boolean (16 : Int32) [(.int 1), (.int 0), (.int 0), (.int 0), (.int 0), (.int 0), (.int 0), (.int 0), (.int 0), (.int 0), (.int 0), (.int 0), (.int 0), (.int 0), (.int 0), (.int 0)] (.int 0)) (g_ob : n0 ≤ ob) (hcs : ¬ (cs = (0 : Int32))) (S_cs : Sta Z h0 "java/lang/String" "COMPACT_STRINGS" "Z" (.int cs)) (S_fm : Sta Z h0 "jdk/internal/util/Preconditions" "SIOOBE_FORMATTER" "Ljava/util/function/BiFunction;" fm) (rfm : fm.isRef = true) (hm27 : 28 ≤ M) (kd : own_KD p l e s m args below meth c Z g ct ob kc ko tx oN kk M md cs fm h0 n0 P (own_P oN M) (M < 48)) (kn : own_KN p l e s m args below meth c Z g ct ob kc ko tx oN kk M md cs fm h0 n0 P p0 31 (3 : Int32) (1 : Int32) [(.int 1), (.int 0), (.int 1), (.int 0), (.int 0), (.int 0), (.int 0), (.int 0), (.int 0), (.int 0), (.int 0), (.int 0), (.int 0), (.int 0), (.int 0), (.int 0)] 6 92) : ∃ t o, Steps p.tables e below (T0.setTop (mkF m 15 #[.val (.ref g), .val (.int p0), .val (.int 1), .val (.int q3), .val (.int q4)] [])) t ∧ P t o := by
 have Kp0 : Keep h0 h0 [g, ob] := Keep.refl h0 _
 obtain ⟨⟨Eg, Ft, Fe, Fm, Fo, Fd, Fp, Fa⟩, ho, hk49, ne_ct_g⟩ := own_gi hw Gq At H
 have ne_ob_g : ob ≠ g := Ne.symm (own_neA Eg (own_w hw 54 rfl) Ao)
 have ne_ct_ob : ct ≠ ob := arv_ne At Ao (Or.inl (by decide))
 refine own_il X0 hy d12_15 rfl ?_
 refine own_zn X0 hy d12_16 ((if0 _ _).trans (feq (by decide : ¬ ((1 : Int32) = (0 : Int32)))).1) ?_
 refine own_al X0 hy d12_19 rfl rfl ?_
 refine own_gf X0 hy hZ hown (host := "") (Or.inl (own_w hw 76 rfl)) Via.refl e0 Fd d12_20 fun T1 X1 e1 => ?_
 refine own_zn X1 hy d12_23 ((if0 _ _).trans (tlt (by decide : ((0 : Int32) < (2 : Int32)))).2.2.2) ?_
 rcases own_at H 28 (by decide) hm27 (by decide) with ⟨hm28, hk28, hg28⟩ | ⟨hm28, hk28⟩ | ⟨hm28, hk28, hb28⟩
 ·
  refine own_al X1 hy d12_26 rfl rfl ?_
  refine own_cp X1 hy hZ hown (own_y19 hw) (rmSk0 hw Z0 ⟨Eg, Ft, Fe, Fm, Fo, Fd, Fp, Fa⟩ g_g At hT H (by decide) (Or.inr ⟨hk28, own_lws (L := 44) hg28 (by decide)⟩)) e1 Eg d12_27 own_pd12 hml fun v2 T2 L2 X2 hQ2 => ?_
  obtain ⟨rfl, N2q, e2⟩ := hQ2
  have N2 := Fr.app N0 N2q
  refine own_al X2 hy d12_30 rfl rfl ?_
  refine own_gf X2 hy hZ hown (host := "") (Or.inl (own_w hw 63 rfl)) Via.refl e2 Fo d12_31 fun T4 X4 e4 => ?_
  refine own_al X4 hy d12_34 rfl rfl ?_
  refine own_gf X4 hy hZ hown (host := "") (Or.inl (own_w hw 76 rfl)) Via.refl e4 Fd d12_35 fun T5 X5 e5 => ?_
  refine own_ic X5 hy d12_38 ?_
  refine own_sb X5 hy d12_39 ?_
  refine own_bz X5 hy hZ e5 Ao ⟨by decide, by decide⟩ (v := (.int 0)) rfl d12_40 ?_
  refine own_is X5 hy d12_41 (l' := #[.val (.ref g), .val (.int p0), .val (.int 1), .val (.int 0), .val (.int q4)]) rfl ?_
  refine own_ae X5 hy hZ hown hw e5 Fa Fe a12_42 fun T7 X7 e7 => ?_
  clear X1 e1 N2q X2 e2 X4 e4 X5 e5
  refine own_cn X7 hy d12_50 (tlt (own_Plt ho hk49 hk28)).2.1 ?_
  refine own_tc X7 hy hZ hown hw e7 Ft Fa At ho hT (by decide) t12_53 fun T8 X8 e8 => ?_
  refine own_gt X8 hy d12_62 66 ?_
  refine own_it X8 hy d12_66 (l' := #[.val (.ref g), .val (.int p0), .val (.int 1), .val (.int 0), .val (.int (cc 28))]) rfl ?_
  refine own_iw X8 hy d12_68 rfl ?_
  refine own_il X8 hy d12_70 rfl ?_
  refine own_zy X8 hy d12_71 79 ((if0 _ _).trans (teq (by decide : ((0 : Int32) = (0 : Int32)))).1) ?_
  refine own_bp X8 hy d12_79 ?_
  refine own_cy X8 hy d12_81 112 (feq (by rw [show cc 28 = 44 from hg28]; decide)).2 ?_
  refine own_al X8 hy d12_112 rfl rfl ?_
  refine own_gf X8 hy hZ hown (host := "") (Or.inl (own_w hw 95 rfl)) Via.refl e8 Fp d12_113 fun T9 X9 e9 => ?_
  refine own_zn X9 hy d12_116 ((if0 _ _).trans (teq (by decide : ((0 : Int32) = (0 : Int32)))).2) ?_
  refine own_iw X9 hy d12_119 rfl ?_
  refine own_bp X9 hy d12_121 ?_
  refine own_cn X9 hy d12_123 (teq (show cc 28 = 44 from hg28)).2 ?_
  refine own_al X9 hy d12_126 rfl rfl ?_
  refine own_gf X9 hy hZ hown (host := "") (Or.inl (own_w hw 95 rfl)) Via.refl e9 Fp d12_127 fun T10 X10 e10 => ?_
  refine own_zn X10 hy d12_130 ((if0 _ _).trans (teq (by decide : ((0 : Int32) = (0 : Int32)))).2) ?_
  refine own_inc X10 hy hZ hown hw e10 ⟨Eg, Ft, Fe, Fm, Fo, Fd, Fp, Fa⟩ i12_133 29 fun T11 h11 X11 e11 W11 ⟨_, Ft, Fe, Fm, Fo, Fd, Fp, Fa⟩ => ?_
  replace hIn := own_In.wr hIn W11 (own_sf hZ Eg)
  replace S_cs := S_cs.wr W11
  replace S_fm := S_fm.wr W11
  replace Eg := Eg.wr W11
  replace At := At.other W11 ne_ct_g
  replace Ao := Ao.other W11 ne_ob_g
  have Z11 := own_zw Z0 W11
  have Kp11 := Kp0.wr W11 own_m0
  replace hk := own_zw hk W11
  have N11 := Fr.snoc X11 N2 g_g
  clear N2 X7 e7 X8 e8 X9 e9 X10 e10 W11
  refine own_al X11 hy d12_143 rfl rfl ?_
  refine own_ic X11 hy d12_144 ?_
  refine own_pn X11 hy hZ hown (own_w hw 95 rfl) Via.refl e11 Fp Eg (Or.inl (own_w hw 96 rfl)) (own_w hw 54 rfl) (ty := .boolean) (v' := (.int 0)) (by decide) rfl (by first | exact fits_nar_bool _ | decide) d12_145 fun T12 h12 X12 e12 W12 => ?_
  replace hIn := own_In.wr hIn W12 (own_sf hZ Eg)
  replace S_cs := S_cs.wr W12
  replace S_fm := S_fm.wr W12
  replace At := At.other W12 ne_ct_g
  replace Ao := Ao.other W12 ne_ob_g
  have Z12 := own_zw Z11 W12
  have Kp12 := Kp11.wr W12 own_m0
  replace hk := own_zw hk W12
  obtain ⟨Eg, Ft, Fe, Fm, Fo, Fd, Fp, Fa⟩ := own_Gop hw ⟨Eg, Ft, Fe, Fm, Fo, Fd, Fp, Fa⟩ W12 rfl
  have N12 := Fr.snoc X12 N11 g_g
  refine own_il X12 hy d12_148 rfl ?_
  refine own_zy X12 hy d12_149 159 ((if0 _ _).trans (teq (by decide : ((0 : Int32) = (0 : Int32)))).1) ?_
  refine own_al X12 hy d12_159 rfl rfl ?_
  refine own_cp X12 hy hZ hown (own_y24 hw) (rmV29 hw Z12 ⟨Eg, Ft, Fe, Fm, Fo, Fd, Fp, Fa⟩ g_g At hT H Ao g_ob hm28) e12 Eg d12_160 own_pd3 hml fun v13 T13 L13 X13 hQ13 => ?_
  obtain ⟨N13q, K13q, hD13⟩ := hQ13
  have N13 := Fr.app N12 N13q
  rcases hD13 with ⟨hm30, rfl, ⟨-, Ft13, Fe13, Fm13, Fo13, Fd13, Fp13, Fa13⟩, AoC13⟩ | ⟨hMf, rfl, ⟨-, Ft13, Fe13, Fm13, Fo13, Fd13, Fp13, Fa13⟩, AoC13⟩
  ·
   replace hIn := own_In.keep hIn K13q (allS (own_sf hZ Eg) (allS (own_safeA hZ.alike Ao (by decide)) all0))
   replace S_cs := own_staKeep S_cs K13q (allS (own_ns Eg) (allS (own_nsA Ao) all0))
   replace S_fm := own_staKeep S_fm K13q (allS (own_ns Eg) (allS (own_nsA Ao) all0))
   replace Eg := Eg.keep K13q
   replace At := At.keep K13q (ninS ne_ct_g (ninS ne_ct_ob nin0))
   have Z13 := Nat.le_trans Z12 K13q.1
   have Kp13 := Kp12.trans K13q (allS own_m0 (allS own_m1 (all0)))
   replace hk := Nat.le_trans hk K13q.1
   clear X11 e11 N11 Z11 Kp11 X12 e12 W12 N12 Z12 Kp12
   refine own_is X13 hy d12_163 (l' := #[.val (.ref g), .val (.int p0), .val (.int 1), .val (.int 0), .val (.int (cc 28))]) rfl ?_
   refine own_gt X13 hy d12_164 169 ?_
   refine own_gt X13 hy d12_169 15 ?_
   exact kn T13 _ _ _ _ _ X13 hS (hk) hZ hown (hIn) (Kp13) N13 hm30 (⟨Eg, Ft13, Fe13, Fm13, Fo13, Fd13, Fp13, Fa13⟩) (AoC13) (At) (S_cs) (S_fm)
  ·
   replace hIn := own_In.keep hIn K13q (allS (own_sf hZ Eg) (allS (own_safeA hZ.alike Ao (by decide)) all0))
   replace S_cs := own_staKeep S_cs K13q (allS (own_ns Eg) (allS (own_nsA Ao) all0))
   replace S_fm := own_staKeep S_fm K13q (allS (own_ns Eg) (allS (own_nsA Ao) all0))
   replace Eg := Eg.keep K13q
   replace At := At.keep K13q (ninS ne_ct_g (ninS ne_ct_ob nin0))
   have Z13 := Nat.le_trans Z12 K13q.1
   have Kp13 := Kp12.trans K13q (allS own_m0 (allS own_m1 (all0)))
   replace hk := Nat.le_trans hk K13q.1
   clear X11 e11 N11 Z11 Kp11 X12 e12 W12 N12 Z12 Kp12
   refine own_is X13 hy d12_163 (l' := #[.val (.ref g), .val (.int p0), .val (.int 0), .val (.int 0), .val (.int (cc 28))]) rfl ?_
   refine own_gt X13 hy d12_164 169 ?_
   refine own_gt X13 hy d12_169 15 ?_
   refine own_il X13 hy d12_15 rfl ?_
   refine own_zy X13 hy d12_16 172 ((if0 _ _).trans (teq (by decide : ((0 : Int32) = (0 : Int32)))).1) ?_
   refine own_il X13 hy d12_172 rfl ?_
   refine own_zy X13 hy d12_173 180 ((if0 _ _).trans (teq (by decide : ((0 : Int32) = (0 : Int32)))).1) ?_
   refine own_al X13 hy d12_180 rfl rfl ?_
   refine own_gf X13 hy hZ hown (host := "") (Or.inl (own_w hw 78 rfl)) Via.refl rfl Fa13 d12_181 fun T14 X14 e14 => ?_
   exact kd T14 _ _ _ _ (X14.more (by decide) (by decide)) hS (by rw [e14]; exact hk) hZ hown (by rw [e14]; exact hIn) (by rw [e14]; exact Kp13) N13 (by omega)
 ·
  exact own_bsC hw X1 hy hZ hown hml e1 Z0 N0 (by rw [hm28]; exact ⟨Eg, Ft, Fe, Fm, Fo, Fd, Fp, Fa⟩) g_g At hT H Ao (Or.inl (by omega)) (by decide) (by decide) (fun T' locs' Ls' X' K' N' => kd T' _ _ _ _ (X'.more (by decide) (by decide)) hS (Nat.le_trans hk K'.1) hZ hown (own_In.keep hIn K' (allS (own_sf hZ Eg) all0)) (Kp0.trans K' (allS own_m0 all0)) N' (by omega))
 ·
  exact own_bsC hw X1 hy hZ hown hml e1 Z0 N0 (by rw [hm28]; exact ⟨Eg, Ft, Fe, Fm, Fo, Fd, Fp, Fa⟩) g_g At hT H Ao (Or.inr ⟨by omega, by rw [hm28]; exact hb28⟩) (by decide) (by decide) (fun T' locs' Ls' X' K' N' => kd T' _ _ _ _ (X'.more (by decide) (by decide)) hS (Nat.le_trans hk K'.1) hZ hown (own_In.keep hIn K' (allS (own_sf hZ Eg) all0)) (Kp0.trans K' (allS own_m0 all0)) N' (by omega))
theorem d12_84 : decode C12 84 = .ok (.aload_n 0, 1) := by decide +kernel
theorem d12_94 : decode C12 94 = .ok (.aload_n 0, 1) := by decide +kernel
theorem d12_95 : decode C12 95 = .ok (.dup, 1) := by decide +kernel
theorem d12_96 : decode C12 96 = .ok (.getfield 24, 3) := by decide +kernel
theorem d12_99 : decode C12 99 = .ok (.iconst 1, 1) := by decide +kernel
theorem d12_100 : decode C12 100 = .ok (.isub, 1) := by decide +kernel
theorem d12_101 : decode C12 101 = .ok (.putfield 24, 3) := by decide +kernel
theorem d12_104 : decode C12 104 = .ok (.aload_n 0, 1) := by decide +kernel
theorem d12_105 : decode C12 105 = .ok (.iconst 0, 1) := by decide +kernel
theorem d12_106 : decode C12 106 = .ok (.putfield 37, 3) := by decide +kernel
theorem d12_109 : decode C12 109 = .ok (.goto 60, 3) := by decide +kernel
theorem own_bsI31 (hw : own_HW Z a0) {p : Program} {e : Env} {s : State} {vm0 : Vm} {m : MethodId} {args : Array Value} {below : List Frame} {meth : Method} {c : Code} {T0 : State} {locs : List Loc} {P : State → Outcome → Prop} (X0 : Stand p l e ⟨7, 8, 116, 102⟩ (s.setVm vm0) m args below meth c T0 locs 6 92) (hy : own_Y p c prog_6_method_2_code) (hZ : Z.Warmed39 (s.setVm vm0).vm) (hown : (s.setVm vm0).vm.findClass "dev/parlance/JsonGrammar" = some m.cls) (hml : c.maxLocals = 5) (e0 : T0.heap = h0) (Z0 : n0 ≤ h0.size) (N0 : Fr n0 locs) (hIn : own_In Z vm0 h0) {k0 : Nat} (hS : s.Since vm0 k0) (hk : k0 ≤ h0.size) {p0 q3 q4 : Int32} (Gq : own_G Z h0 g ct ob (own_P oN kk) md (3 : Int32) (1 : Int32) (own_P oN 31)) (g_g : n0 ≤ g) (At : Arv Z h0 ct kc .char (52 : Int32) tx (.int 0)) (hT : ∀ i, i < 49 → tx.getD (oN + i) (.int 0) = .int (cc i)) (H : own_H oN kk md M tf cc) (Ao : Arv Z h0 ob ko .boolean (16 : Int32) [(.int 1), (.int 0), (.int 1), (.int 0), (.int 0), (.int 0), (.int 0), (.int 0), (.int 0), (.int 0), (.int 0), (.int 0), (.int 0), (.int 0), (.int 0), (.int 0)] (.int 0)) (g_ob : n0 ≤ ob) (hcs : ¬ (cs = (0 : Int32))) (S_cs : Sta Z h0 "java/lang/String" "COMPACT_STRINGS" "Z" (.int cs)) (S_fm : Sta Z h0 "jdk/internal/util/Preconditions" "SIOOBE_FORMATTER" "Ljava/util/function/BiFunction;" fm) (rfm : fm.isRef = true) (hm30 : 31 ≤ M) (kd : own_KD p l e s m args below meth c Z g ct ob kc ko tx oN kk M md cs fm h0 n0 P (own_P oN M) (M < 48)) (kn : own_KN p l e s m args below meth c Z g ct ob kc ko tx oN kk M md cs fm h0 n0 P p0 33 (2 : Int32) (0 : Int32) [(.int 1), (.int 0), (.int 1), (.int 0), (.int 0), (.int 0), (.int 0), (.int 0), (.int 0), (.int 0), (.int 0), (.int 0), (.int 0), (.int 0), (.int 0), (.int 0)] 6 92) : ∃ t o, Steps p.tables e below (T0.setTop (mkF m 15 #[.val (.ref g), .val (.int p0), .val (.int 1), .val (.int q3), .val (.int q4)] [])) t ∧ P t o := by
 have Kp0 : Keep h0 h0 [g, ob] := Keep.refl h0 _
 obtain ⟨⟨Eg, Ft, Fe, Fm, Fo, Fd, Fp, Fa⟩, ho, hk49, ne_ct_g⟩ := own_gi hw Gq At H
 have ne_ob_g : ob ≠ g := Ne.symm (own_neA Eg (own_w hw 54 rfl) Ao)
 have ne_ct_ob : ct ≠ ob := arv_ne At Ao (Or.inl (by decide))
 refine own_il X0 hy d12_15 rfl ?_
 refine own_zn X0 hy d12_16 ((if0 _ _).trans (feq (by decide : ¬ ((1 : Int32) = (0 : Int32)))).1) ?_
 refine own_al X0 hy d12_19 rfl rfl ?_
 refine own_gf X0 hy hZ hown (host := "") (Or.inl (own_w hw 76 rfl)) Via.refl e0 Fd d12_20 fun T1 X1 e1 => ?_
 refine own_zn X1 hy d12_23 ((if0 _ _).trans (tlt (by decide : ((0 : Int32) < (3 : Int32)))).2.2.2) ?_
 rcases own_at H 31 (by decide) hm30 (by decide) with ⟨hm31, hk31, hg31⟩ | ⟨hm31, hk31⟩ | ⟨hm31, hk31, hb31⟩
 ·
  rcases own_at H 32 (by decide) hm31 (by decide) with ⟨hm32, hk32, hg32⟩ | ⟨hm32, hk32⟩ | ⟨hm32, hk32, hb32⟩
  ·
   refine own_al X1 hy d12_26 rfl rfl ?_
   refine own_cp X1 hy hZ hown (own_y19 hw) (rmSk1 hw Z0 ⟨Eg, Ft, Fe, Fm, Fo, Fd, Fp, Fa⟩ g_g At hT H (by decide) hk31 hg31 (Or.inr ⟨hk32, own_lws (L := 125) hg32 (by decide)⟩)) e1 Eg d12_27 own_pd12 hml fun v2 T2 L2 X2 hQ2 => ?_
   obtain ⟨rfl, N2q, K2q, ⟨_, Ft2, Fe2, Fm2, Fo2, Fd2, Fp2, Fa2⟩⟩ := hQ2
   have N2 := Fr.app N0 N2q
   replace hIn := own_In.keep hIn K2q (allS (own_sf hZ Eg) all0)
   replace S_cs := own_staKeep S_cs K2q (allS (own_ns Eg) all0)
   replace S_fm := own_staKeep S_fm K2q (allS (own_ns Eg) all0)
   replace Eg := Eg.keep K2q
   replace At := At.keep K2q (ninS ne_ct_g nin0)
   replace Ao := Ao.keep K2q (ninS ne_ob_g nin0)
   have Z2 := Nat.le_trans Z0 K2q.1
   have Kp2 := Kp0.trans K2q (allS own_m0 (all0))
   replace hk := Nat.le_trans hk K2q.1
   refine own_al X2 hy d12_30 rfl rfl ?_
   refine own_gf X2 hy hZ hown (host := "") (Or.inl (own_w hw 63 rfl)) Via.refl rfl Fo2 d12_31 fun T4 X4 e4 => ?_
   refine own_al X4 hy d12_34 rfl rfl ?_
   refine own_gf X4 hy hZ hown (host := "") (Or.inl (own_w hw 76 rfl)) Via.refl e4 Fd2 d12_35 fun T5 X5 e5 => ?_
   refine own_ic X5 hy d12_38 ?_
   refine own_sb X5 hy d12_39 ?_
   refine own_bz X5 hy hZ e5 Ao ⟨by decide, by decide⟩ (v := (.int 1)) rfl d12_40 ?_
   refine own_is X5 hy d12_41 (l' := #[.val (.ref g), .val (.int p0), .val (.int 1), .val (.int 1), .val (.int q4)]) rfl ?_
   refine own_ae X5 hy hZ hown hw e5 Fa2 Fe2 a12_42 fun T7 X7 e7 => ?_
   clear X1 e1 N2q X2 X4 e4 X5 e5
   refine own_cn X7 hy d12_50 (tlt (own_Plt ho hk49 hk32)).2.1 ?_
   refine own_tc X7 hy hZ hown hw e7 Ft2 Fa2 At ho hT (by decide) t12_53 fun T8 X8 e8 => ?_
   refine own_gt X8 hy d12_62 66 ?_
   refine own_it X8 hy d12_66 (l' := #[.val (.ref g), .val (.int p0), .val (.int 1), .val (.int 1), .val (.int (cc 32))]) rfl ?_
   refine own_iw X8 hy d12_68 rfl ?_
   refine own_il X8 hy d12_70 rfl ?_
   refine own_zn X8 hy d12_71 ((if0 _ _).trans (feq (by decide : ¬ ((1 : Int32) = (0 : Int32)))).1) ?_
   refine own_bp X8 hy d12_74 ?_
   refine own_gt X8 hy d12_76 81 ?_
   refine own_cn X8 hy d12_81 (teq (show cc 32 = 125 from hg32)).2 ?_
   refine own_inc X8 hy hZ hown hw e8 ⟨Eg, Ft2, Fe2, Fm2, Fo2, Fd2, Fp2, Fa2⟩ i12_84 33 fun T9 h9 X9 e9 W9 ⟨_, Ft, Fe, Fm, Fo, Fd, Fp, Fa⟩ => ?_
   replace hIn := own_In.wr hIn W9 (own_sf hZ Eg)
   replace S_cs := S_cs.wr W9
   replace S_fm := S_fm.wr W9
   replace Eg := Eg.wr W9
   replace At := At.other W9 ne_ct_g
   replace Ao := Ao.other W9 ne_ob_g
   have Z9 := own_zw Z2 W9
   have Kp9 := Kp2.wr W9 own_m0
   replace hk := own_zw hk W9
   have N9 := Fr.snoc X9 N2 g_g
   refine own_al X9 hy d12_94 rfl rfl ?_
   refine own_dp X9 hy d12_95 rfl ?_
   refine own_gf X9 hy hZ hown (host := "") (Or.inl (own_w hw 76 rfl)) Via.refl e9 Fd d12_96 fun T10 X10 e10 => ?_
   clear N2 X7 e7 X8 e8 X9 e9 W9
   refine own_ic X10 hy d12_99 ?_
   refine own_sb X10 hy d12_100 ?_
   refine own_pf X10 hy hZ hown (host := "") (Or.inl (own_w hw 76 rfl)) Via.refl e10 Fd Eg (Or.inl (own_w hw 77 rfl)) (own_w hw 54 rfl) (ty := .int) (by decide) rfl rfl d12_101 fun T11 h11 X11 e11 W11 => ?_
   replace hIn := own_In.wr hIn W11 (own_sf hZ Eg)
   replace S_cs := S_cs.wr W11
   replace S_fm := S_fm.wr W11
   replace At := At.other W11 ne_ct_g
   replace Ao := Ao.other W11 ne_ob_g
   have Z11 := own_zw Z9 W11
   have Kp11 := Kp9.wr W11 own_m0
   replace hk := own_zw hk W11
   obtain ⟨Eg, Ft, Fe, Fm, Fo, Fd, Fp, Fa⟩ := own_Gde hw ⟨Eg, Ft, Fe, Fm, Fo, Fd, Fp, Fa⟩ W11 rfl
   have N11 := Fr.snoc X11 N9 g_g
   refine own_al X11 hy d12_104 rfl rfl ?_
   refine own_ic X11 hy d12_105 ?_
   refine own_pn X11 hy hZ hown (own_w hw 95 rfl) Via.refl e11 Fp Eg (Or.inl (own_w hw 96 rfl)) (own_w hw 54 rfl) (ty := .boolean) (v' := (.int 0)) (by decide) rfl (by first | exact fits_nar_bool _ | decide) d12_106 fun T12 h12 X12 e12 W12 => ?_
   replace hIn := own_In.wr hIn W12 (own_sf hZ Eg)
   replace S_cs := S_cs.wr W12
   replace S_fm := S_fm.wr W12
   replace At := At.other W12 ne_ct_g
   replace Ao := Ao.other W12 ne_ob_g
   have Z12 := own_zw Z11 W12
   have Kp12 := Kp11.wr W12 own_m0
   replace hk := own_zw hk W12
   obtain ⟨Eg, Ft, Fe, Fm, Fo, Fd, Fp, Fa⟩ := own_Gop hw ⟨Eg, Ft, Fe, Fm, Fo, Fd, Fp, Fa⟩ W12 rfl
   have N12 := Fr.snoc X12 N11 g_g
   clear N9 Z9 Kp9 X10 e10 X11 e11 W11 N11 Z11 Kp11 W12
   refine own_gt X12 hy d12_109 169 ?_
   refine own_gt X12 hy d12_169 15 ?_
   exact kn T12 _ _ _ _ _ X12 hS (by rw [e12]; exact hk) hZ hown (by rw [e12]; exact hIn) (by rw [e12]; exact Kp12) N12 hm32 (by rw [e12]; exact ⟨Eg, Ft, Fe, Fm, Fo, Fd, Fp, Fa⟩) (by rw [e12]; exact Ao) (by rw [e12]; exact At) (by rw [e12]; exact S_cs) (by rw [e12]; exact S_fm)
  ·
   refine own_al X1 hy d12_26 rfl rfl ?_
   refine own_cp X1 hy hZ hown (own_y19 hw) (rmSk1 hw Z0 ⟨Eg, Ft, Fe, Fm, Fo, Fd, Fp, Fa⟩ g_g At hT H (by decide) hk31 hg31 (Or.inl (Nat.le_of_eq hk32))) e1 Eg d12_27 own_pd12 hml fun v13 T13 L13 X13 hQ13 => ?_
   obtain ⟨rfl, N13q, K13q, ⟨_, Ft13, Fe13, Fm13, Fo13, Fd13, Fp13, Fa13⟩⟩ := hQ13
   have N13 := Fr.app N0 N13q
   replace hIn := own_In.keep hIn K13q (allS (own_sf hZ Eg) all0)
   replace S_cs := own_staKeep S_cs K13q (allS (own_ns Eg) all0)
   replace S_fm := own_staKeep S_fm K13q (allS (own_ns Eg) all0)
   replace Eg := Eg.keep K13q
   replace At := At.keep K13q (ninS ne_ct_g nin0)
   replace Ao := Ao.keep K13q (ninS ne_ob_g nin0)
   have Z13 := Nat.le_trans Z0 K13q.1
   have Kp13 := Kp0.trans K13q (allS own_m0 (all0))
   replace hk := Nat.le_trans hk K13q.1
   refine own_al X13 hy d12_30 rfl rfl ?_
   refine own_gf X13 hy hZ hown (host := "") (Or.inl (own_w hw 63 rfl)) Via.refl rfl Fo13 d12_31 fun T15 X15 e15 => ?_
   refine own_al X15 hy d12_34 rfl rfl ?_
   refine own_gf X15 hy hZ hown (host := "") (Or.inl (own_w hw 76 rfl)) Via.refl e15 Fd13 d12_35 fun T16 X16 e16 => ?_
   refine own_ic X16 hy d12_38 ?_
   refine own_sb X16 hy d12_39 ?_
   refine own_bz X16 hy hZ e16 Ao ⟨by decide, by decide⟩ (v := (.int 1)) rfl d12_40 ?_
   refine own_is X16 hy d12_41 (l' := #[.val (.ref g), .val (.int p0), .val (.int 1), .val (.int 1), .val (.int q4)]) rfl ?_
   refine own_ae X16 hy hZ hown hw e16 Fa13 Fe13 a12_42 fun T18 X18 e18 => ?_
   clear X1 e1 N13q X13 X15 e15 X16 e16
   refine own_cy X18 hy d12_50 65 (flt (own_Pge ho hk49 (Nat.le_of_eq hk32) (by decide))).2.1 ?_
   refine own_ic X18 hy d12_65 ?_
   refine own_it X18 hy d12_66 (l' := #[.val (.ref g), .val (.int p0), .val (.int 1), .val (.int 1), .val (.int 0)]) rfl ?_
   refine own_iw X18 hy d12_68 rfl ?_
   refine own_il X18 hy d12_70 rfl ?_
   refine own_zn X18 hy d12_71 ((if0 _ _).trans (feq (by decide : ¬ ((1 : Int32) = (0 : Int32)))).1) ?_
   refine own_bp X18 hy d12_74 ?_
   refine own_gt X18 hy d12_76 81 ?_
   refine own_cy X18 hy d12_81 112 (feq (by decide : ¬ ((0 : Int32) = (125 : Int32)))).2 ?_
   refine own_al X18 hy d12_112 rfl rfl ?_
   refine own_gf X18 hy hZ hown (host := "") (Or.inl (own_w hw 95 rfl)) Via.refl e18 Fp13 d12_113 fun T19 X19 e19 => ?_
   refine own_zy X19 hy d12_116 126 ((if0 _ _).trans (feq (by decide : ¬ ((1 : Int32) = (0 : Int32)))).2) ?_
   refine own_al X19 hy d12_126 rfl rfl ?_
   refine own_gf X19 hy hZ hown (host := "") (Or.inl (own_w hw 95 rfl)) Via.refl e19 Fp13 d12_127 fun T20 X20 e20 => ?_
   refine own_zy X20 hy d12_130 143 ((if0 _ _).trans (feq (by decide : ¬ ((1 : Int32) = (0 : Int32)))).2) ?_
   refine own_al X20 hy d12_143 rfl rfl ?_
   refine own_ic X20 hy d12_144 ?_
   refine own_pn X20 hy hZ hown (own_w hw 95 rfl) Via.refl e20 Fp13 Eg (Or.inl (own_w hw 96 rfl)) (own_w hw 54 rfl) (ty := .boolean) (v' := (.int 0)) (by decide) rfl (by first | exact fits_nar_bool _ | decide) d12_145 fun T21 h21 X21 e21 W21 => ?_
   replace hIn := own_In.wr hIn W21 (own_sf hZ Eg)
   replace S_cs := S_cs.wr W21
   replace S_fm := S_fm.wr W21
   replace At := At.other W21 ne_ct_g
   replace Ao := Ao.other W21 ne_ob_g
   have Z21 := own_zw Z13 W21
   have Kp21 := Kp13.wr W21 own_m0
   replace hk := own_zw hk W21
   obtain ⟨Eg, Ft, Fe, Fm, Fo, Fd, Fp, Fa⟩ := own_Gop hw ⟨Eg, Ft13, Fe13, Fm13, Fo13, Fd13, Fp13, Fa13⟩ W21 rfl
   have N21 := Fr.snoc X21 N13 g_g
   clear N13 X18 e18 X19 e19 X20 e20 W21
   refine own_il X21 hy d12_148 rfl ?_
   refine own_zn X21 hy d12_149 ((if0 _ _).trans (feq (by decide : ¬ ((1 : Int32) = (0 : Int32)))).1) ?_
   refine own_al X21 hy d12_152 rfl rfl ?_
   refine own_cp X21 hy hZ hown (own_y25 hw) (rmBm hw Z21 (by rw [hm32]; exact ⟨Eg, Ft, Fe, Fm, Fo, Fd, Fp, Fa⟩) g_g At hT H (Or.inl (by omega))) e21 Eg d12_153 own_pd3 hml fun v22 T22 L22 X22 hQ22 => ?_
   obtain ⟨rfl, N22q, e22⟩ := hQ22
   have N22 := Fr.app N21 N22q
   refine own_gt X22 hy d12_156 163 ?_
   refine own_is X22 hy d12_163 (l' := #[.val (.ref g), .val (.int p0), .val (.int 0), .val (.int 1), .val (.int 0)]) rfl ?_
   refine own_gt X22 hy d12_164 169 ?_
   refine own_gt X22 hy d12_169 15 ?_
   refine own_il X22 hy d12_15 rfl ?_
   refine own_zy X22 hy d12_16 172 ((if0 _ _).trans (teq (by decide : ((0 : Int32) = (0 : Int32)))).1) ?_
   refine own_il X22 hy d12_172 rfl ?_
   refine own_zy X22 hy d12_173 180 ((if0 _ _).trans (teq (by decide : ((0 : Int32) = (0 : Int32)))).1) ?_
   refine own_al X22 hy d12_180 rfl rfl ?_
   refine own_gf X22 hy hZ hown (host := "") (Or.inl (own_w hw 78 rfl)) Via.refl e22 Fa d12_181 fun T23 X23 e23 => ?_
   refine own_go (A := T23.setTop (mkF m 184 #[.val (.ref g), .val (.int p0), .val (.int 0), .val (.int 1), .val (.int 0)] [(.int (own_P oN M))])) (fun _ kz => by rw [hm32] at kz; exact kz) ?_
   exact kd T23 _ _ _ _ (X23.more (by decide) (by decide)) hS (by rw [e23]; exact hk) hZ hown (by rw [e23]; exact hIn) (by rw [e23]; exact Kp21) N22 (by omega)
  ·
   refine own_al X1 hy d12_26 rfl rfl ?_
   refine own_cp X1 hy hZ hown (own_y19 hw) (rmSk1 hw Z0 ⟨Eg, Ft, Fe, Fm, Fo, Fd, Fp, Fa⟩ g_g At hT H (by decide) hk31 hg31 (Or.inr ⟨hk32, own_bws hb32⟩)) e1 Eg d12_27 own_pd12 hml fun v24 T24 L24 X24 hQ24 => ?_
   obtain ⟨rfl, N24q, K24q, ⟨_, Ft24, Fe24, Fm24, Fo24, Fd24, Fp24, Fa24⟩⟩ := hQ24
   have N24 := Fr.app N0 N24q
   replace hIn := own_In.keep hIn K24q (allS (own_sf hZ Eg) all0)
   replace S_cs := own_staKeep S_cs K24q (allS (own_ns Eg) all0)
   replace S_fm := own_staKeep S_fm K24q (allS (own_ns Eg) all0)
   replace Eg := Eg.keep K24q
   replace At := At.keep K24q (ninS ne_ct_g nin0)
   replace Ao := Ao.keep K24q (ninS ne_ob_g nin0)
   have Z24 := Nat.le_trans Z0 K24q.1
   have Kp24 := Kp0.trans K24q (allS own_m0 (all0))
   replace hk := Nat.le_trans hk K24q.1
   refine own_al X24 hy d12_30 rfl rfl ?_
   refine own_gf X24 hy hZ hown (host := "") (Or.inl (own_w hw 63 rfl)) Via.refl rfl Fo24 d12_31 fun T26 X26 e26 => ?_
   refine own_al X26 hy d12_34 rfl rfl ?_
   refine own_gf X26 hy hZ hown (host := "") (Or.inl (own_w hw 76 rfl)) Via.refl e26 Fd24 d12_35 fun T27 X27 e27 => ?_
   refine own_ic X27 hy d12_38 ?_
   refine own_sb X27 hy d12_39 ?_
   refine own_bz X27 hy hZ e27 Ao ⟨by decide, by decide⟩ (v := (.int 1)) rfl d12_40 ?_
   refine own_is X27 hy d12_41 (l' := #[.val (.ref g), .val (.int p0), .val (.int 1), .val (.int 1), .val (.int q4)]) rfl ?_
   refine own_ae X27 hy hZ hown hw e27 Fa24 Fe24 a12_42 fun T29 X29 e29 => ?_
   clear X1 e1 N24q X24 X26 e26 X27 e27
   refine own_cn X29 hy d12_50 (tlt (own_Plt ho hk49 hk32)).2.1 ?_
   refine own_tc X29 hy hZ hown hw e29 Ft24 Fa24 At ho hT (by decide) t12_53 fun T30 X30 e30 => ?_
   refine own_gt X30 hy d12_62 66 ?_
   refine own_it X30 hy d12_66 (l' := #[.val (.ref g), .val (.int p0), .val (.int 1), .val (.int 1), .val (.int (cc 32))]) rfl ?_
   refine own_iw X30 hy d12_68 rfl ?_
   refine own_il X30 hy d12_70 rfl ?_
   refine own_zn X30 hy d12_71 ((if0 _ _).trans (feq (by decide : ¬ ((1 : Int32) = (0 : Int32)))).1) ?_
   refine own_bp X30 hy d12_74 ?_
   refine own_gt X30 hy d12_76 81 ?_
   refine own_cy X30 hy d12_81 112 (feq (own_bne hb32 (by decide))).2 ?_
   refine own_al X30 hy d12_112 rfl rfl ?_
   refine own_gf X30 hy hZ hown (host := "") (Or.inl (own_w hw 95 rfl)) Via.refl e30 Fp24 d12_113 fun T31 X31 e31 => ?_
   refine own_zy X31 hy d12_116 126 ((if0 _ _).trans (feq (by decide : ¬ ((1 : Int32) = (0 : Int32)))).2) ?_
   refine own_al X31 hy d12_126 rfl rfl ?_
   refine own_gf X31 hy hZ hown (host := "") (Or.inl (own_w hw 95 rfl)) Via.refl e31 Fp24 d12_127 fun T32 X32 e32 => ?_
   refine own_zy X32 hy d12_130 143 ((if0 _ _).trans (feq (by decide : ¬ ((1 : Int32) = (0 : Int32)))).2) ?_
   refine own_al X32 hy d12_143 rfl rfl ?_
   refine own_ic X32 hy d12_144 ?_
   refine own_pn X32 hy hZ hown (own_w hw 95 rfl) Via.refl e32 Fp24 Eg (Or.inl (own_w hw 96 rfl)) (own_w hw 54 rfl) (ty := .boolean) (v' := (.int 0)) (by decide) rfl (by first | exact fits_nar_bool _ | decide) d12_145 fun T33 h33 X33 e33 W33 => ?_
   replace hIn := own_In.wr hIn W33 (own_sf hZ Eg)
   replace S_cs := S_cs.wr W33
   replace S_fm := S_fm.wr W33
   replace At := At.other W33 ne_ct_g
   replace Ao := Ao.other W33 ne_ob_g
   have Z33 := own_zw Z24 W33
   have Kp33 := Kp24.wr W33 own_m0
   replace hk := own_zw hk W33
   obtain ⟨Eg, Ft, Fe, Fm, Fo, Fd, Fp, Fa⟩ := own_Gop hw ⟨Eg, Ft24, Fe24, Fm24, Fo24, Fd24, Fp24, Fa24⟩ W33 rfl
   have N33 := Fr.snoc X33 N24 g_g
   clear N24 X29 e29 X30 e30 X31 e31 X32 e32 W33
   refine own_il X33 hy d12_148 rfl ?_
   refine own_zn X33 hy d12_149 ((if0 _ _).trans (feq (by decide : ¬ ((1 : Int32) = (0 : Int32)))).1) ?_
   refine own_al X33 hy d12_152 rfl rfl ?_
   refine own_cp X33 hy hZ hown (own_y25 hw) (rmBm hw Z33 (by rw [hm32]; exact ⟨Eg, Ft, Fe, Fm, Fo, Fd, Fp, Fa⟩) g_g At hT H (Or.inr ⟨by omega, by rw [hm32]; exact hb32⟩)) e33 Eg d12_153 own_pd3 hml fun v34 T34 L34 X34 hQ34 => ?_
   obtain ⟨rfl, N34q, e34⟩ := hQ34
   have N34 := Fr.app N33 N34q
   refine own_gt X34 hy d12_156 163 ?_
   refine own_is X34 hy d12_163 (l' := #[.val (.ref g), .val (.int p0), .val (.int 0), .val (.int 1), .val (.int (cc 32))]) rfl ?_
   refine own_gt X34 hy d12_164 169 ?_
   refine own_gt X34 hy d12_169 15 ?_
   refine own_il X34 hy d12_15 rfl ?_
   refine own_zy X34 hy d12_16 172 ((if0 _ _).trans (teq (by decide : ((0 : Int32) = (0 : Int32)))).1) ?_
   refine own_il X34 hy d12_172 rfl ?_
   refine own_zy X34 hy d12_173 180 ((if0 _ _).trans (teq (by decide : ((0 : Int32) = (0 : Int32)))).1) ?_
   refine own_al X34 hy d12_180 rfl rfl ?_
   refine own_gf X34 hy hZ hown (host := "") (Or.inl (own_w hw 78 rfl)) Via.refl e34 Fa d12_181 fun T35 X35 e35 => ?_
   refine own_go (A := T35.setTop (mkF m 184 #[.val (.ref g), .val (.int p0), .val (.int 0), .val (.int 1), .val (.int (cc 32))] [(.int (own_P oN M))])) (fun _ kz => by rw [hm32] at kz; exact kz) ?_
   exact kd T35 _ _ _ _ (X35.more (by decide) (by decide)) hS (by rw [e35]; exact hk) hZ hown (by rw [e35]; exact hIn) (by rw [e35]; exact Kp33) N34 (by omega)
 ·
  exact own_bsD hw X1 hy hZ hown hml e1 Z0 N0 (by rw [hm31]; exact ⟨Eg, Ft, Fe, Fm, Fo, Fd, Fp, Fa⟩) g_g At hT H Ao (Or.inl (by omega)) (by decide) (by decide) (fun T' locs' Ls' X' K' N' => kd T' _ _ _ _ (X'.more (by decide) (by decide)) hS (Nat.le_trans hk K'.1) hZ hown (own_In.keep hIn K' (allS (own_sf hZ Eg) all0)) (Kp0.trans K' (allS own_m0 all0)) N' (by omega))
 ·
  exact own_bsD hw X1 hy hZ hown hml e1 Z0 N0 (by rw [hm31]; exact ⟨Eg, Ft, Fe, Fm, Fo, Fd, Fp, Fa⟩) g_g At hT H Ao (Or.inr ⟨by omega, by rw [hm31]; exact hb31⟩) (by decide) (by decide) (fun T' locs' Ls' X' K' N' => kd T' _ _ _ _ (X'.more (by decide) (by decide)) hS (Nat.le_trans hk K'.1) hZ hown (own_In.keep hIn K' (allS (own_sf hZ Eg) all0)) (Kp0.trans K' (allS own_m0 all0)) N' (by omega))
theorem own_bsI33 (hw : own_HW Z a0) {p : Program} {e : Env} {s : State} {vm0 : Vm} {m : MethodId} {args : Array Value} {below : List Frame} {meth : Method} {c : Code} {T0 : State} {locs : List Loc} {P : State → Outcome → Prop} (X0 : Stand p l e ⟨7, 8, 116, 102⟩ (s.setVm vm0) m args below meth c T0 locs 6 92) (hy : own_Y p c prog_6_method_2_code) (hZ : Z.Warmed39 (s.setVm vm0).vm) (hown : (s.setVm vm0).vm.findClass "dev/parlance/JsonGrammar" = some m.cls) (hml : c.maxLocals = 5) (e0 : T0.heap = h0) (Z0 : n0 ≤ h0.size) (N0 : Fr n0 locs) (hIn : own_In Z vm0 h0) {k0 : Nat} (hS : s.Since vm0 k0) (hk : k0 ≤ h0.size) {p0 q3 q4 : Int32} (Gq : own_G Z h0 g ct ob (own_P oN kk) md (2 : Int32) (0 : Int32) (own_P oN 33)) (g_g : n0 ≤ g) (At : Arv Z h0 ct kc .char (52 : Int32) tx (.int 0)) (hT : ∀ i, i < 49 → tx.getD (oN + i) (.int 0) = .int (cc i)) (H : own_H oN kk md M tf cc) (Ao : Arv Z h0 ob ko .boolean (16 : Int32) [(.int 1), (.int 0), (.int 1), (.int 0), (.int 0), (.int 0), (.int 0), (.int 0), (.int 0), (.int 0), (.int 0), (.int 0), (.int 0), (.int 0), (.int 0), (.int 0)] (.int 0)) (g_ob : n0 ≤ ob) (hcs : ¬ (cs = (0 : Int32))) (S_cs : Sta Z h0 "java/lang/String" "COMPACT_STRINGS" "Z" (.int cs)) (S_fm : Sta Z h0 "jdk/internal/util/Preconditions" "SIOOBE_FORMATTER" "Ljava/util/function/BiFunction;" fm) (rfm : fm.isRef = true) (hm32 : 33 ≤ M) (kd : own_KD p l e s m args below meth c Z g ct ob kc ko tx oN kk M md cs fm h0 n0 P (own_P oN M) (M < 48)) (kn : own_KN p l e s m args below meth c Z g ct ob kc ko tx oN kk M md cs fm h0 n0 P p0 35 (3 : Int32) (1 : Int32) [(.int 1), (.int 0), (.int 0), (.int 0), (.int 0), (.int 0), (.int 0), (.int 0), (.int 0), (.int 0), (.int 0), (.int 0), (.int 0), (.int 0), (.int 0), (.int 0)] 6 92) : ∃ t o, Steps p.tables e below (T0.setTop (mkF m 15 #[.val (.ref g), .val (.int p0), .val (.int 1), .val (.int q3), .val (.int q4)] [])) t ∧ P t o := by
 have Kp0 : Keep h0 h0 [g, ob] := Keep.refl h0 _
 obtain ⟨⟨Eg, Ft, Fe, Fm, Fo, Fd, Fp, Fa⟩, ho, hk49, ne_ct_g⟩ := own_gi hw Gq At H
 have ne_ob_g : ob ≠ g := Ne.symm (own_neA Eg (own_w hw 54 rfl) Ao)
 have ne_ct_ob : ct ≠ ob := arv_ne At Ao (Or.inl (by decide))
 refine own_il X0 hy d12_15 rfl ?_
 refine own_zn X0 hy d12_16 ((if0 _ _).trans (feq (by decide : ¬ ((1 : Int32) = (0 : Int32)))).1) ?_
 refine own_al X0 hy d12_19 rfl rfl ?_
 refine own_gf X0 hy hZ hown (host := "") (Or.inl (own_w hw 76 rfl)) Via.refl e0 Fd d12_20 fun T1 X1 e1 => ?_
 refine own_zn X1 hy d12_23 ((if0 _ _).trans (tlt (by decide : ((0 : Int32) < (2 : Int32)))).2.2.2) ?_
 rcases own_at H 33 (by decide) hm32 (by decide) with ⟨hm33, hk33, hg33⟩ | ⟨hm33, hk33⟩ | ⟨hm33, hk33, hb33⟩
 ·
  refine own_al X1 hy d12_26 rfl rfl ?_
  refine own_cp X1 hy hZ hown (own_y19 hw) (rmSk0 hw Z0 ⟨Eg, Ft, Fe, Fm, Fo, Fd, Fp, Fa⟩ g_g At hT H (by decide) (Or.inr ⟨hk33, own_lws (L := 44) hg33 (by decide)⟩)) e1 Eg d12_27 own_pd12 hml fun v2 T2 L2 X2 hQ2 => ?_
  obtain ⟨rfl, N2q, e2⟩ := hQ2
  have N2 := Fr.app N0 N2q
  refine own_al X2 hy d12_30 rfl rfl ?_
  refine own_gf X2 hy hZ hown (host := "") (Or.inl (own_w hw 63 rfl)) Via.refl e2 Fo d12_31 fun T4 X4 e4 => ?_
  refine own_al X4 hy d12_34 rfl rfl ?_
  refine own_gf X4 hy hZ hown (host := "") (Or.inl (own_w hw 76 rfl)) Via.refl e4 Fd d12_35 fun T5 X5 e5 => ?_
  refine own_ic X5 hy d12_38 ?_
  refine own_sb X5 hy d12_39 ?_
  refine own_bz X5 hy hZ e5 Ao ⟨by decide, by decide⟩ (v := (.int 0)) rfl d12_40 ?_
  refine own_is X5 hy d12_41 (l' := #[.val (.ref g), .val (.int p0), .val (.int 1), .val (.int 0), .val (.int q4)]) rfl ?_
  refine own_ae X5 hy hZ hown hw e5 Fa Fe a12_42 fun T7 X7 e7 => ?_
  clear X1 e1 N2q X2 e2 X4 e4 X5 e5
  refine own_cn X7 hy d12_50 (tlt (own_Plt ho hk49 hk33)).2.1 ?_
  refine own_tc X7 hy hZ hown hw e7 Ft Fa At ho hT (by decide) t12_53 fun T8 X8 e8 => ?_
  refine own_gt X8 hy d12_62 66 ?_
  refine own_it X8 hy d12_66 (l' := #[.val (.ref g), .val (.int p0), .val (.int 1), .val (.int 0), .val (.int (cc 33))]) rfl ?_
  refine own_iw X8 hy d12_68 rfl ?_
  refine own_il X8 hy d12_70 rfl ?_
  refine own_zy X8 hy d12_71 79 ((if0 _ _).trans (teq (by decide : ((0 : Int32) = (0 : Int32)))).1) ?_
  refine own_bp X8 hy d12_79 ?_
  refine own_cy X8 hy d12_81 112 (feq (by rw [show cc 33 = 44 from hg33]; decide)).2 ?_
  refine own_al X8 hy d12_112 rfl rfl ?_
  refine own_gf X8 hy hZ hown (host := "") (Or.inl (own_w hw 95 rfl)) Via.refl e8 Fp d12_113 fun T9 X9 e9 => ?_
  refine own_zn X9 hy d12_116 ((if0 _ _).trans (teq (by decide : ((0 : Int32) = (0 : Int32)))).2) ?_
  refine own_iw X9 hy d12_119 rfl ?_
  refine own_bp X9 hy d12_121 ?_
  refine own_cn X9 hy d12_123 (teq (show cc 33 = 44 from hg33)).2 ?_
  refine own_al X9 hy d12_126 rfl rfl ?_
  refine own_gf X9 hy hZ hown (host := "") (Or.inl (own_w hw 95 rfl)) Via.refl e9 Fp d12_127 fun T10 X10 e10 => ?_
  refine own_zn X10 hy d12_130 ((if0 _ _).trans (teq (by decide : ((0 : Int32) = (0 : Int32)))).2) ?_
  refine own_inc X10 hy hZ hown hw e10 ⟨Eg, Ft, Fe, Fm, Fo, Fd, Fp, Fa⟩ i12_133 34 fun T11 h11 X11 e11 W11 ⟨_, Ft, Fe, Fm, Fo, Fd, Fp, Fa⟩ => ?_
  replace hIn := own_In.wr hIn W11 (own_sf hZ Eg)
  replace S_cs := S_cs.wr W11
  replace S_fm := S_fm.wr W11
  replace Eg := Eg.wr W11
  replace At := At.other W11 ne_ct_g
  replace Ao := Ao.other W11 ne_ob_g
  have Z11 := own_zw Z0 W11
  have Kp11 := Kp0.wr W11 own_m0
  replace hk := own_zw hk W11
  have N11 := Fr.snoc X11 N2 g_g
  clear N2 X7 e7 X8 e8 X9 e9 X10 e10 W11
  refine own_al X11 hy d12_143 rfl rfl ?_
  refine own_ic X11 hy d12_144 ?_
  refine own_pn X11 hy hZ hown (own_w hw 95 rfl) Via.refl e11 Fp Eg (Or.inl (own_w hw 96 rfl)) (own_w hw 54 rfl) (ty := .boolean) (v' := (.int 0)) (by decide) rfl (by first | exact fits_nar_bool _ | decide) d12_145 fun T12 h12 X12 e12 W12 => ?_
  replace hIn := own_In.wr hIn W12 (own_sf hZ Eg)
  replace S_cs := S_cs.wr W12
  replace S_fm := S_fm.wr W12
  replace At := At.other W12 ne_ct_g
  replace Ao := Ao.other W12 ne_ob_g
  have Z12 := own_zw Z11 W12
  have Kp12 := Kp11.wr W12 own_m0
  replace hk := own_zw hk W12
  obtain ⟨Eg, Ft, Fe, Fm, Fo, Fd, Fp, Fa⟩ := own_Gop hw ⟨Eg, Ft, Fe, Fm, Fo, Fd, Fp, Fa⟩ W12 rfl
  have N12 := Fr.snoc X12 N11 g_g
  refine own_il X12 hy d12_148 rfl ?_
  refine own_zy X12 hy d12_149 159 ((if0 _ _).trans (teq (by decide : ((0 : Int32) = (0 : Int32)))).1) ?_
  refine own_al X12 hy d12_159 rfl rfl ?_
  refine own_cp X12 hy hZ hown (own_y24 hw) (rmV34 hw Z12 ⟨Eg, Ft, Fe, Fm, Fo, Fd, Fp, Fa⟩ g_g At hT H Ao g_ob hm33 (own_nd30M H (by omega))) e12 Eg d12_160 own_pd3 hml fun v13 T13 L13 X13 hQ13 => ?_
  obtain ⟨N13q, K13q, hD13⟩ := hQ13
  have N13 := Fr.app N12 N13q
  rcases hD13 with ⟨hm34, rfl, ⟨-, Ft13, Fe13, Fm13, Fo13, Fd13, Fp13, Fa13⟩, AoC13⟩ | ⟨hMf, rfl, ⟨-, Ft13, Fe13, Fm13, Fo13, Fd13, Fp13, Fa13⟩, AoC13⟩
  ·
   replace hIn := own_In.keep hIn K13q (allS (own_sf hZ Eg) (allS (own_safeA hZ.alike Ao (by decide)) all0))
   replace S_cs := own_staKeep S_cs K13q (allS (own_ns Eg) (allS (own_nsA Ao) all0))
   replace S_fm := own_staKeep S_fm K13q (allS (own_ns Eg) (allS (own_nsA Ao) all0))
   replace Eg := Eg.keep K13q
   replace At := At.keep K13q (ninS ne_ct_g (ninS ne_ct_ob nin0))
   have Z13 := Nat.le_trans Z12 K13q.1
   have Kp13 := Kp12.trans K13q (allS own_m0 (allS own_m1 (all0)))
   replace hk := Nat.le_trans hk K13q.1
   clear X11 e11 N11 Z11 Kp11 X12 e12 W12 N12 Z12 Kp12
   refine own_is X13 hy d12_163 (l' := #[.val (.ref g), .val (.int p0), .val (.int 1), .val (.int 0), .val (.int (cc 33))]) rfl ?_
   refine own_gt X13 hy d12_164 169 ?_
   refine own_gt X13 hy d12_169 15 ?_
   exact kn T13 _ _ _ _ _ X13 hS (hk) hZ hown (hIn) (Kp13) N13 hm34 (⟨Eg, Ft13, Fe13, Fm13, Fo13, Fd13, Fp13, Fa13⟩) (AoC13) (At) (S_cs) (S_fm)
  ·
   replace hIn := own_In.keep hIn K13q (allS (own_sf hZ Eg) (allS (own_safeA hZ.alike Ao (by decide)) all0))
   replace S_cs := own_staKeep S_cs K13q (allS (own_ns Eg) (allS (own_nsA Ao) all0))
   replace S_fm := own_staKeep S_fm K13q (allS (own_ns Eg) (allS (own_nsA Ao) all0))
   replace Eg := Eg.keep K13q
   replace At := At.keep K13q (ninS ne_ct_g (ninS ne_ct_ob nin0))
   have Z13 := Nat.le_trans Z12 K13q.1
   have Kp13 := Kp12.trans K13q (allS own_m0 (allS own_m1 (all0)))
   replace hk := Nat.le_trans hk K13q.1
   clear X11 e11 N11 Z11 Kp11 X12 e12 W12 N12 Z12 Kp12
   refine own_is X13 hy d12_163 (l' := #[.val (.ref g), .val (.int p0), .val (.int 0), .val (.int 0), .val (.int (cc 33))]) rfl ?_
   refine own_gt X13 hy d12_164 169 ?_
   refine own_gt X13 hy d12_169 15 ?_
   refine own_il X13 hy d12_15 rfl ?_
   refine own_zy X13 hy d12_16 172 ((if0 _ _).trans (teq (by decide : ((0 : Int32) = (0 : Int32)))).1) ?_
   refine own_il X13 hy d12_172 rfl ?_
   refine own_zy X13 hy d12_173 180 ((if0 _ _).trans (teq (by decide : ((0 : Int32) = (0 : Int32)))).1) ?_
   refine own_al X13 hy d12_180 rfl rfl ?_
   refine own_gf X13 hy hZ hown (host := "") (Or.inl (own_w hw 78 rfl)) Via.refl rfl Fa13 d12_181 fun T14 X14 e14 => ?_
   exact kd T14 _ _ _ _ (X14.more (by decide) (by decide)) hS (by rw [e14]; exact hk) hZ hown (by rw [e14]; exact hIn) (by rw [e14]; exact Kp13) N13 (by omega)
 ·
  exact own_bsC hw X1 hy hZ hown hml e1 Z0 N0 (by rw [hm33]; exact ⟨Eg, Ft, Fe, Fm, Fo, Fd, Fp, Fa⟩) g_g At hT H Ao (Or.inl (by omega)) (by decide) (by decide) (fun T' locs' Ls' X' K' N' => kd T' _ _ _ _ (X'.more (by decide) (by decide)) hS (Nat.le_trans hk K'.1) hZ hown (own_In.keep hIn K' (allS (own_sf hZ Eg) all0)) (Kp0.trans K' (allS own_m0 all0)) N' (by omega))
 ·
  exact own_bsC hw X1 hy hZ hown hml e1 Z0 N0 (by rw [hm33]; exact ⟨Eg, Ft, Fe, Fm, Fo, Fd, Fp, Fa⟩) g_g At hT H Ao (Or.inr ⟨by omega, by rw [hm33]; exact hb33⟩) (by decide) (by decide) (fun T' locs' Ls' X' K' N' => kd T' _ _ _ _ (X'.more (by decide) (by decide)) hS (Nat.le_trans hk K'.1) hZ hown (own_In.keep hIn K' (allS (own_sf hZ Eg) all0)) (Kp0.trans K' (allS own_m0 all0)) N' (by omega))
theorem own_bsI35 (hw : own_HW Z a0) {p : Program} {e : Env} {s : State} {vm0 : Vm} {m : MethodId} {args : Array Value} {below : List Frame} {meth : Method} {c : Code} {T0 : State} {locs : List Loc} {P : State → Outcome → Prop} (X0 : Stand p l e ⟨7, 8, 116, 102⟩ (s.setVm vm0) m args below meth c T0 locs 6 92) (hy : own_Y p c prog_6_method_2_code) (hZ : Z.Warmed39 (s.setVm vm0).vm) (hown : (s.setVm vm0).vm.findClass "dev/parlance/JsonGrammar" = some m.cls) (hml : c.maxLocals = 5) (e0 : T0.heap = h0) (Z0 : n0 ≤ h0.size) (N0 : Fr n0 locs) (hIn : own_In Z vm0 h0) {k0 : Nat} (hS : s.Since vm0 k0) (hk : k0 ≤ h0.size) {p0 q3 q4 : Int32} (Gq : own_G Z h0 g ct ob (own_P oN kk) md (3 : Int32) (1 : Int32) (own_P oN 35)) (g_g : n0 ≤ g) (At : Arv Z h0 ct kc .char (52 : Int32) tx (.int 0)) (hT : ∀ i, i < 49 → tx.getD (oN + i) (.int 0) = .int (cc i)) (H : own_H oN kk md M tf cc) (Ao : Arv Z h0 ob ko .boolean (16 : Int32) [(.int 1), (.int 0), (.int 0), (.int 0), (.int 0), (.int 0), (.int 0), (.int 0), (.int 0), (.int 0), (.int 0), (.int 0), (.int 0), (.int 0), (.int 0), (.int 0)] (.int 0)) (g_ob : n0 ≤ ob) (hcs : ¬ (cs = (0 : Int32))) (S_cs : Sta Z h0 "java/lang/String" "COMPACT_STRINGS" "Z" (.int cs)) (S_fm : Sta Z h0 "jdk/internal/util/Preconditions" "SIOOBE_FORMATTER" "Ljava/util/function/BiFunction;" fm) (rfm : fm.isRef = true) (hm34 : 35 ≤ M) (kd : own_KD p l e s m args below meth c Z g ct ob kc ko tx oN kk M md cs fm h0 n0 P (own_P oN M) (M < 48)) (kn : own_KN p l e s m args below meth c Z g ct ob kc ko tx oN kk M md cs fm h0 n0 P p0 36 (2 : Int32) (0 : Int32) [(.int 1), (.int 0), (.int 0), (.int 0), (.int 0), (.int 0), (.int 0), (.int 0), (.int 0), (.int 0), (.int 0), (.int 0), (.int 0), (.int 0), (.int 0), (.int 0)] 6 92) : ∃ t o, Steps p.tables e below (T0.setTop (mkF m 15 #[.val (.ref g), .val (.int p0), .val (.int 1), .val (.int q3), .val (.int q4)] [])) t ∧ P t o := by
 have Kp0 : Keep h0 h0 [g, ob] := Keep.refl h0 _
 obtain ⟨⟨Eg, Ft, Fe, Fm, Fo, Fd, Fp, Fa⟩, ho, hk49, ne_ct_g⟩ := own_gi hw Gq At H
 have ne_ob_g : ob ≠ g := Ne.symm (own_neA Eg (own_w hw 54 rfl) Ao)
 have ne_ct_ob : ct ≠ ob := arv_ne At Ao (Or.inl (by decide))
 refine own_il X0 hy d12_15 rfl ?_
 refine own_zn X0 hy d12_16 ((if0 _ _).trans (feq (by decide : ¬ ((1 : Int32) = (0 : Int32)))).1) ?_
 refine own_al X0 hy d12_19 rfl rfl ?_
 refine own_gf X0 hy hZ hown (host := "") (Or.inl (own_w hw 76 rfl)) Via.refl e0 Fd d12_20 fun T1 X1 e1 => ?_
 refine own_zn X1 hy d12_23 ((if0 _ _).trans (tlt (by decide : ((0 : Int32) < (3 : Int32)))).2.2.2) ?_
 rcases own_at H 35 (by decide) hm34 (by decide) with ⟨hm35, hk35, hg35⟩ | ⟨hm35, hk35⟩ | ⟨hm35, hk35, hb35⟩
 ·
  refine own_al X1 hy d12_26 rfl rfl ?_
  refine own_cp X1 hy hZ hown (own_y19 hw) (rmSk0 hw Z0 ⟨Eg, Ft, Fe, Fm, Fo, Fd, Fp, Fa⟩ g_g At hT H (by decide) (Or.inr ⟨hk35, own_lws (L := 93) hg35 (by decide)⟩)) e1 Eg d12_27 own_pd12 hml fun v2 T2 L2 X2 hQ2 => ?_
  obtain ⟨rfl, N2q, e2⟩ := hQ2
  have N2 := Fr.app N0 N2q
  refine own_al X2 hy d12_30 rfl rfl ?_
  refine own_gf X2 hy hZ hown (host := "") (Or.inl (own_w hw 63 rfl)) Via.refl e2 Fo d12_31 fun T4 X4 e4 => ?_
  refine own_al X4 hy d12_34 rfl rfl ?_
  refine own_gf X4 hy hZ hown (host := "") (Or.inl (own_w hw 76 rfl)) Via.refl e4 Fd d12_35 fun T5 X5 e5 => ?_
  refine own_ic X5 hy d12_38 ?_
  refine own_sb X5 hy d12_39 ?_
  refine own_bz X5 hy hZ e5 Ao ⟨by decide, by decide⟩ (v := (.int 0)) rfl d12_40 ?_
  refine own_is X5 hy d12_41 (l' := #[.val (.ref g), .val (.int p0), .val (.int 1), .val (.int 0), .val (.int q4)]) rfl ?_
  refine own_ae X5 hy hZ hown hw e5 Fa Fe a12_42 fun T7 X7 e7 => ?_
  clear X1 e1 N2q X2 e2 X4 e4 X5 e5
  refine own_cn X7 hy d12_50 (tlt (own_Plt ho hk49 hk35)).2.1 ?_
  refine own_tc X7 hy hZ hown hw e7 Ft Fa At ho hT (by decide) t12_53 fun T8 X8 e8 => ?_
  refine own_gt X8 hy d12_62 66 ?_
  refine own_it X8 hy d12_66 (l' := #[.val (.ref g), .val (.int p0), .val (.int 1), .val (.int 0), .val (.int (cc 35))]) rfl ?_
  refine own_iw X8 hy d12_68 rfl ?_
  refine own_il X8 hy d12_70 rfl ?_
  refine own_zy X8 hy d12_71 79 ((if0 _ _).trans (teq (by decide : ((0 : Int32) = (0 : Int32)))).1) ?_
  refine own_bp X8 hy d12_79 ?_
  refine own_cn X8 hy d12_81 (teq (show cc 35 = 93 from hg35)).2 ?_
  refine own_inc X8 hy hZ hown hw e8 ⟨Eg, Ft, Fe, Fm, Fo, Fd, Fp, Fa⟩ i12_84 36 fun T9 h9 X9 e9 W9 ⟨_, Ft, Fe, Fm, Fo, Fd, Fp, Fa⟩ => ?_
  replace hIn := own_In.wr hIn W9 (own_sf hZ Eg)
  replace S_cs := S_cs.wr W9
  replace S_fm := S_fm.wr W9
  replace Eg := Eg.wr W9
  replace At := At.other W9 ne_ct_g
  replace Ao := Ao.other W9 ne_ob_g
  have Z9 := own_zw Z0 W9
  have Kp9 := Kp0.wr W9 own_m0
  replace hk := own_zw hk W9
  have N9 := Fr.snoc X9 N2 g_g
  refine own_al X9 hy d12_94 rfl rfl ?_
  refine own_dp X9 hy d12_95 rfl ?_
  refine own_gf X9 hy hZ hown (host := "") (Or.inl (own_w hw 76 rfl)) Via.refl e9 Fd d12_96 fun T10 X10 e10 => ?_
  clear N2 X7 e7 X8 e8 X9 e9 W9
  refine own_ic X10 hy d12_99 ?_
  refine own_sb X10 hy d12_100 ?_
  refine own_pf X10 hy hZ hown (host := "") (Or.inl (own_w hw 76 rfl)) Via.refl e10 Fd Eg (Or.inl (own_w hw 77 rfl)) (own_w hw 54 rfl) (ty := .int) (by decide) rfl rfl d12_101 fun T11 h11 X11 e11 W11 => ?_
  replace hIn := own_In.wr hIn W11 (own_sf hZ Eg)
  replace S_cs := S_cs.wr W11
  replace S_fm := S_fm.wr W11
  replace At := At.other W11 ne_ct_g
  replace Ao := Ao.other W11 ne_ob_g
  have Z11 := own_zw Z9 W11
  have Kp11 := Kp9.wr W11 own_m0
  replace hk := own_zw hk W11
  obtain ⟨Eg, Ft, Fe, Fm, Fo, Fd, Fp, Fa⟩ := own_Gde hw ⟨Eg, Ft, Fe, Fm, Fo, Fd, Fp, Fa⟩ W11 rfl
  have N11 := Fr.snoc X11 N9 g_g
  refine own_al X11 hy d12_104 rfl rfl ?_
  refine own_ic X11 hy d12_105 ?_
  refine own_pn X11 hy hZ hown (own_w hw 95 rfl) Via.refl e11 Fp Eg (Or.inl (own_w hw 96 rfl)) (own_w hw 54 rfl) (ty := .boolean) (v' := (.int 0)) (by decide) rfl (by first | exact fits_nar_bool _ | decide) d12_106 fun T12 h12 X12 e12 W12 => ?_
  replace hIn := own_In.wr hIn W12 (own_sf hZ Eg)
  replace S_cs := S_cs.wr W12
  replace S_fm := S_fm.wr W12
  replace At := At.other W12 ne_ct_g
  replace Ao := Ao.other W12 ne_ob_g
  have Z12 := own_zw Z11 W12
  have Kp12 := Kp11.wr W12 own_m0
  replace hk := own_zw hk W12
  obtain ⟨Eg, Ft, Fe, Fm, Fo, Fd, Fp, Fa⟩ := own_Gop hw ⟨Eg, Ft, Fe, Fm, Fo, Fd, Fp, Fa⟩ W12 rfl
  have N12 := Fr.snoc X12 N11 g_g
  clear N9 Z9 Kp9 X10 e10 X11 e11 W11 N11 Z11 Kp11 W12
  refine own_gt X12 hy d12_109 169 ?_
  refine own_gt X12 hy d12_169 15 ?_
  exact kn T12 _ _ _ _ _ X12 hS (by rw [e12]; exact hk) hZ hown (by rw [e12]; exact hIn) (by rw [e12]; exact Kp12) N12 hm35 (by rw [e12]; exact ⟨Eg, Ft, Fe, Fm, Fo, Fd, Fp, Fa⟩) (by rw [e12]; exact Ao) (by rw [e12]; exact At) (by rw [e12]; exact S_cs) (by rw [e12]; exact S_fm)
 ·
  exact own_bsE hw X1 hy hZ hown hml e1 Z0 N0 (by rw [hm35]; exact ⟨Eg, Ft, Fe, Fm, Fo, Fd, Fp, Fa⟩) g_g At hT H Ao (Or.inl (by omega)) (by decide) (by decide) (fun T' locs' Ls' X' K' N' => kd T' _ _ _ _ (X'.more (by decide) (by decide)) hS (Nat.le_trans hk K'.1) hZ hown (own_In.keep hIn K' (allS (own_sf hZ Eg) all0)) (Kp0.trans K' (allS own_m0 all0)) N' (by omega))
 ·
  exact own_bsE hw X1 hy hZ hown hml e1 Z0 N0 (by rw [hm35]; exact ⟨Eg, Ft, Fe, Fm, Fo, Fd, Fp, Fa⟩) g_g At hT H Ao (Or.inr ⟨by omega, by rw [hm35]; exact hb35⟩) (by decide) (by decide) (fun T' locs' Ls' X' K' N' => kd T' _ _ _ _ (X'.more (by decide) (by decide)) hS (Nat.le_trans hk K'.1) hZ hown (own_In.keep hIn K' (allS (own_sf hZ Eg) all0)) (Kp0.trans K' (allS own_m0 all0)) N' (by omega))
theorem own_bsI36 (hw : own_HW Z a0) {p : Program} {e : Env} {s : State} {vm0 : Vm} {m : MethodId} {args : Array Value} {below : List Frame} {meth : Method} {c : Code} {T0 : State} {locs : List Loc} {P : State → Outcome → Prop} (X0 : Stand p l e ⟨7, 8, 116, 102⟩ (s.setVm vm0) m args below meth c T0 locs 6 92) (hy : own_Y p c prog_6_method_2_code) (hZ : Z.Warmed39 (s.setVm vm0).vm) (hown : (s.setVm vm0).vm.findClass "dev/parlance/JsonGrammar" = some m.cls) (hml : c.maxLocals = 5) (e0 : T0.heap = h0) (Z0 : n0 ≤ h0.size) (N0 : Fr n0 locs) (hIn : own_In Z vm0 h0) {k0 : Nat} (hS : s.Since vm0 k0) (hk : k0 ≤ h0.size) {p0 q3 q4 : Int32} (Gq : own_G Z h0 g ct ob (own_P oN kk) md (2 : Int32) (0 : Int32) (own_P oN 36)) (g_g : n0 ≤ g) (At : Arv Z h0 ct kc .char (52 : Int32) tx (.int 0)) (hT : ∀ i, i < 49 → tx.getD (oN + i) (.int 0) = .int (cc i)) (H : own_H oN kk md M tf cc) (Ao : Arv Z h0 ob ko .boolean (16 : Int32) [(.int 1), (.int 0), (.int 0), (.int 0), (.int 0), (.int 0), (.int 0), (.int 0), (.int 0), (.int 0), (.int 0), (.int 0), (.int 0), (.int 0), (.int 0), (.int 0)] (.int 0)) (g_ob : n0 ≤ ob) (hcs : ¬ (cs = (0 : Int32))) (S_cs : Sta Z h0 "java/lang/String" "COMPACT_STRINGS" "Z" (.int cs)) (S_fm : Sta Z h0 "jdk/internal/util/Preconditions" "SIOOBE_FORMATTER" "Ljava/util/function/BiFunction;" fm) (rfm : fm.isRef = true) (hm35 : 36 ≤ M) (kd : own_KD p l e s m args below meth c Z g ct ob kc ko tx oN kk M md cs fm h0 n0 P (own_P oN M) (M < 48)) (kn : own_KN p l e s m args below meth c Z g ct ob kc ko tx oN kk M md cs fm h0 n0 P p0 37 (1 : Int32) (0 : Int32) [(.int 1), (.int 0), (.int 0), (.int 0), (.int 0), (.int 0), (.int 0), (.int 0), (.int 0), (.int 0), (.int 0), (.int 0), (.int 0), (.int 0), (.int 0), (.int 0)] 6 92) : ∃ t o, Steps p.tables e below (T0.setTop (mkF m 15 #[.val (.ref g), .val (.int p0), .val (.int 1), .val (.int q3), .val (.int q4)] [])) t ∧ P t o := by
 have Kp0 : Keep h0 h0 [g, ob] := Keep.refl h0 _
 obtain ⟨⟨Eg, Ft, Fe, Fm, Fo, Fd, Fp, Fa⟩, ho, hk49, ne_ct_g⟩ := own_gi hw Gq At H
 have ne_ob_g : ob ≠ g := Ne.symm (own_neA Eg (own_w hw 54 rfl) Ao)
 have ne_ct_ob : ct ≠ ob := arv_ne At Ao (Or.inl (by decide))
 refine own_il X0 hy d12_15 rfl ?_
 refine own_zn X0 hy d12_16 ((if0 _ _).trans (feq (by decide : ¬ ((1 : Int32) = (0 : Int32)))).1) ?_
 refine own_al X0 hy d12_19 rfl rfl ?_
 refine own_gf X0 hy hZ hown (host := "") (Or.inl (own_w hw 76 rfl)) Via.refl e0 Fd d12_20 fun T1 X1 e1 => ?_
 refine own_zn X1 hy d12_23 ((if0 _ _).trans (tlt (by decide : ((0 : Int32) < (2 : Int32)))).2.2.2) ?_
 rcases own_at H 36 (by decide) hm35 (by decide) with ⟨hm36, hk36, hg36⟩ | ⟨hm36, hk36⟩ | ⟨hm36, hk36, hb36⟩
 ·
  refine own_al X1 hy d12_26 rfl rfl ?_
  refine own_cp X1 hy hZ hown (own_y19 hw) (rmSk0 hw Z0 ⟨Eg, Ft, Fe, Fm, Fo, Fd, Fp, Fa⟩ g_g At hT H (by decide) (Or.inr ⟨hk36, own_lws (L := 93) hg36 (by decide)⟩)) e1 Eg d12_27 own_pd12 hml fun v2 T2 L2 X2 hQ2 => ?_
  obtain ⟨rfl, N2q, e2⟩ := hQ2
  have N2 := Fr.app N0 N2q
  refine own_al X2 hy d12_30 rfl rfl ?_
  refine own_gf X2 hy hZ hown (host := "") (Or.inl (own_w hw 63 rfl)) Via.refl e2 Fo d12_31 fun T4 X4 e4 => ?_
  refine own_al X4 hy d12_34 rfl rfl ?_
  refine own_gf X4 hy hZ hown (host := "") (Or.inl (own_w hw 76 rfl)) Via.refl e4 Fd d12_35 fun T5 X5 e5 => ?_
  refine own_ic X5 hy d12_38 ?_
  refine own_sb X5 hy d12_39 ?_
  refine own_bz X5 hy hZ e5 Ao ⟨by decide, by decide⟩ (v := (.int 0)) rfl d12_40 ?_
  refine own_is X5 hy d12_41 (l' := #[.val (.ref g), .val (.int p0), .val (.int 1), .val (.int 0), .val (.int q4)]) rfl ?_
  refine own_ae X5 hy hZ hown hw e5 Fa Fe a12_42 fun T7 X7 e7 => ?_
  clear X1 e1 N2q X2 e2 X4 e4 X5 e5
  refine own_cn X7 hy d12_50 (tlt (own_Plt ho hk49 hk36)).2.1 ?_
  refine own_tc X7 hy hZ hown hw e7 Ft Fa At ho hT (by decide) t12_53 fun T8 X8 e8 => ?_
  refine own_gt X8 hy d12_62 66 ?_
  refine own_it X8 hy d12_66 (l' := #[.val (.ref g), .val (.int p0), .val (.int 1), .val (.int 0), .val (.int (cc 36))]) rfl ?_
  refine own_iw X8 hy d12_68 rfl ?_
  refine own_il X8 hy d12_70 rfl ?_
  refine own_zy X8 hy d12_71 79 ((if0 _ _).trans (teq (by decide : ((0 : Int32) = (0 : Int32)))).1) ?_
  refine own_bp X8 hy d12_79 ?_
  refine own_cn X8 hy d12_81 (teq (show cc 36 = 93 from hg36)).2 ?_
  refine own_inc X8 hy hZ hown hw e8 ⟨Eg, Ft, Fe, Fm, Fo, Fd, Fp, Fa⟩ i12_84 37 fun T9 h9 X9 e9 W9 ⟨_, Ft, Fe, Fm, Fo, Fd, Fp, Fa⟩ => ?_
  replace hIn := own_In.wr hIn W9 (own_sf hZ Eg)
  replace S_cs := S_cs.wr W9
  replace S_fm := S_fm.wr W9
  replace Eg := Eg.wr W9
  replace At := At.other W9 ne_ct_g
  replace Ao := Ao.other W9 ne_ob_g
  have Z9 := own_zw Z0 W9
  have Kp9 := Kp0.wr W9 own_m0
  replace hk := own_zw hk W9
  have N9 := Fr.snoc X9 N2 g_g
  refine own_al X9 hy d12_94 rfl rfl ?_
  refine own_dp X9 hy d12_95 rfl ?_
  refine own_gf X9 hy hZ hown (host := "") (Or.inl (own_w hw 76 rfl)) Via.refl e9 Fd d12_96 fun T10 X10 e10 => ?_
  clear N2 X7 e7 X8 e8 X9 e9 W9
  refine own_ic X10 hy d12_99 ?_
  refine own_sb X10 hy d12_100 ?_
  refine own_pf X10 hy hZ hown (host := "") (Or.inl (own_w hw 76 rfl)) Via.refl e10 Fd Eg (Or.inl (own_w hw 77 rfl)) (own_w hw 54 rfl) (ty := .int) (by decide) rfl rfl d12_101 fun T11 h11 X11 e11 W11 => ?_
  replace hIn := own_In.wr hIn W11 (own_sf hZ Eg)
  replace S_cs := S_cs.wr W11
  replace S_fm := S_fm.wr W11
  replace At := At.other W11 ne_ct_g
  replace Ao := Ao.other W11 ne_ob_g
  have Z11 := own_zw Z9 W11
  have Kp11 := Kp9.wr W11 own_m0
  replace hk := own_zw hk W11
  obtain ⟨Eg, Ft, Fe, Fm, Fo, Fd, Fp, Fa⟩ := own_Gde hw ⟨Eg, Ft, Fe, Fm, Fo, Fd, Fp, Fa⟩ W11 rfl
  have N11 := Fr.snoc X11 N9 g_g
  refine own_al X11 hy d12_104 rfl rfl ?_
  refine own_ic X11 hy d12_105 ?_
  refine own_pn X11 hy hZ hown (own_w hw 95 rfl) Via.refl e11 Fp Eg (Or.inl (own_w hw 96 rfl)) (own_w hw 54 rfl) (ty := .boolean) (v' := (.int 0)) (by decide) rfl (by first | exact fits_nar_bool _ | decide) d12_106 fun T12 h12 X12 e12 W12 => ?_
  replace hIn := own_In.wr hIn W12 (own_sf hZ Eg)
  replace S_cs := S_cs.wr W12
  replace S_fm := S_fm.wr W12
  replace At := At.other W12 ne_ct_g
  replace Ao := Ao.other W12 ne_ob_g
  have Z12 := own_zw Z11 W12
  have Kp12 := Kp11.wr W12 own_m0
  replace hk := own_zw hk W12
  obtain ⟨Eg, Ft, Fe, Fm, Fo, Fd, Fp, Fa⟩ := own_Gop hw ⟨Eg, Ft, Fe, Fm, Fo, Fd, Fp, Fa⟩ W12 rfl
  have N12 := Fr.snoc X12 N11 g_g
  clear N9 Z9 Kp9 X10 e10 X11 e11 W11 N11 Z11 Kp11 W12
  refine own_gt X12 hy d12_109 169 ?_
  refine own_gt X12 hy d12_169 15 ?_
  exact kn T12 _ _ _ _ _ X12 hS (by rw [e12]; exact hk) hZ hown (by rw [e12]; exact hIn) (by rw [e12]; exact Kp12) N12 hm36 (by rw [e12]; exact ⟨Eg, Ft, Fe, Fm, Fo, Fd, Fp, Fa⟩) (by rw [e12]; exact Ao) (by rw [e12]; exact At) (by rw [e12]; exact S_cs) (by rw [e12]; exact S_fm)
 ·
  exact own_bsC hw X1 hy hZ hown hml e1 Z0 N0 (by rw [hm36]; exact ⟨Eg, Ft, Fe, Fm, Fo, Fd, Fp, Fa⟩) g_g At hT H Ao (Or.inl (by omega)) (by decide) (by decide) (fun T' locs' Ls' X' K' N' => kd T' _ _ _ _ (X'.more (by decide) (by decide)) hS (Nat.le_trans hk K'.1) hZ hown (own_In.keep hIn K' (allS (own_sf hZ Eg) all0)) (Kp0.trans K' (allS own_m0 all0)) N' (by omega))
 ·
  exact own_bsC hw X1 hy hZ hown hml e1 Z0 N0 (by rw [hm36]; exact ⟨Eg, Ft, Fe, Fm, Fo, Fd, Fp, Fa⟩) g_g At hT H Ao (Or.inr ⟨by omega, by rw [hm36]; exact hb36⟩) (by decide) (by decide) (fun T' locs' Ls' X' K' N' => kd T' _ _ _ _ (X'.more (by decide) (by decide)) hS (Nat.le_trans hk K'.1) hZ hown (own_In.keep hIn K' (allS (own_sf hZ Eg) all0)) (Kp0.trans K' (allS own_m0 all0)) N' (by omega))
theorem own_bsI37 (hw : own_HW Z a0) {p : Program} {e : Env} {s : State} {vm0 : Vm} {m : MethodId} {args : Array Value} {below : List Frame} {meth : Method} {c : Code} {T0 : State} {locs : List Loc} {P : State → Outcome → Prop} (X0 : Stand p l e ⟨7, 8, 116, 102⟩ (s.setVm vm0) m args below meth c T0 locs 6 92) (hy : own_Y p c prog_6_method_2_code) (hZ : Z.Warmed39 (s.setVm vm0).vm) (hown : (s.setVm vm0).vm.findClass "dev/parlance/JsonGrammar" = some m.cls) (hml : c.maxLocals = 5) (e0 : T0.heap = h0) (Z0 : n0 ≤ h0.size) (N0 : Fr n0 locs) (hIn : own_In Z vm0 h0) {k0 : Nat} (hS : s.Since vm0 k0) (hk : k0 ≤ h0.size) {p0 q3 q4 : Int32} (Gq : own_G Z h0 g ct ob (own_P oN kk) md (1 : Int32) (0 : Int32) (own_P oN 37)) (g_g : n0 ≤ g) (At : Arv Z h0 ct kc .char (52 : Int32) tx (.int 0)) (hT : ∀ i, i < 49 → tx.getD (oN + i) (.int 0) = .int (cc i)) (H : own_H oN kk md M tf cc) (Ao : Arv Z h0 ob ko .boolean (16 : Int32) [(.int 1), (.int 0), (.int 0), (.int 0), (.int 0), (.int 0), (.int 0), (.int 0), (.int 0), (.int 0), (.int 0), (.int 0), (.int 0), (.int 0), (.int 0), (.int 0)] (.int 0)) (g_ob : n0 ≤ ob) (hcs : ¬ (cs = (0 : Int32))) (S_cs : Sta Z h0 "java/lang/String" "COMPACT_STRINGS" "Z" (.int cs)) (S_fm : Sta Z h0 "jdk/internal/util/Preconditions" "SIOOBE_FORMATTER" "Ljava/util/function/BiFunction;" fm) (rfm : fm.isRef = true) (hm36 : 37 ≤ M) (kd : own_KD p l e s m args below meth c Z g ct ob kc ko tx oN kk M md cs fm h0 n0 P (own_P oN M) (M < 48)) (kn : own_KN p l e s m args below meth c Z g ct ob kc ko tx oN kk M md cs fm h0 n0 P p0 46 (1 : Int32) (0 : Int32) [(.int 1), (.int 0), (.int 0), (.int 0), (.int 0), (.int 0), (.int 0), (.int 0), (.int 0), (.int 0), (.int 0), (.int 0), (.int 0), (.int 0), (.int 0), (.int 0)] 8 116) : ∃ t o, Steps p.tables e below (T0.setTop (mkF m 15 #[.val (.ref g), .val (.int p0), .val (.int 1), .val (.int q3), .val (.int q4)] [])) t ∧ P t o := by
 have Kp0 : Keep h0 h0 [g, ob] := Keep.refl h0 _
 obtain ⟨⟨Eg, Ft, Fe, Fm, Fo, Fd, Fp, Fa⟩, ho, hk49, ne_ct_g⟩ := own_gi hw Gq At H
 have ne_ob_g : ob ≠ g := Ne.symm (own_neA Eg (own_w hw 54 rfl) Ao)
 have ne_ct_ob : ct ≠ ob := arv_ne At Ao (Or.inl (by decide))
 refine own_il X0 hy d12_15 rfl ?_
 refine own_zn X0 hy d12_16 ((if0 _ _).trans (feq (by decide : ¬ ((1 : Int32) = (0 : Int32)))).1) ?_
 refine own_al X0 hy d12_19 rfl rfl ?_
 refine own_gf X0 hy hZ hown (host := "") (Or.inl (own_w hw 76 rfl)) Via.refl e0 Fd d12_20 fun T1 X1 e1 => ?_
 refine own_zn X1 hy d12_23 ((if0 _ _).trans (tlt (by decide : ((0 : Int32) < (1 : Int32)))).2.2.2) ?_
 rcases own_at H 37 (by decide) hm36 (by decide) with ⟨hm37, hk37, hg37⟩ | ⟨hm37, hk37⟩ | ⟨hm37, hk37, hb37⟩
 ·
  refine own_al X1 hy d12_26 rfl rfl ?_
  refine own_cp X1 hy hZ hown (own_y19 hw) (rmSk0 hw Z0 ⟨Eg, Ft, Fe, Fm, Fo, Fd, Fp, Fa⟩ g_g At hT H (by decide) (Or.inr ⟨hk37, own_lws (L := 44) hg37 (by decide)⟩)) e1 Eg d12_27 own_pd12 hml fun v2 T2 L2 X2 hQ2 => ?_
  obtain ⟨rfl, N2q, e2⟩ := hQ2
  have N2 := Fr.app N0 N2q
  refine own_al X2 hy d12_30 rfl rfl ?_
  refine own_gf X2 hy hZ hown (host := "") (Or.inl (own_w hw 63 rfl)) Via.refl e2 Fo d12_31 fun T4 X4 e4 => ?_
  refine own_al X4 hy d12_34 rfl rfl ?_
  refine own_gf X4 hy hZ hown (host := "") (Or.inl (own_w hw 76 rfl)) Via.refl e4 Fd d12_35 fun T5 X5 e5 => ?_
  refine own_ic X5 hy d12_38 ?_
  refine own_sb X5 hy d12_39 ?_
  refine own_bz X5 hy hZ e5 Ao ⟨by decide, by decide⟩ (v := (.int 1)) rfl d12_40 ?_
  refine own_is X5 hy d12_41 (l' := #[.val (.ref g), .val (.int p0), .val (.int 1), .val (.int 1), .val (.int q4)]) rfl ?_
  refine own_ae X5 hy hZ hown hw e5 Fa Fe a12_42 fun T7 X7 e7 => ?_
  clear X1 e1 N2q X2 e2 X4 e4 X5 e5
  refine own_cn X7 hy d12_50 (tlt (own_Plt ho hk49 hk37)).2.1 ?_
  refine own_tc X7 hy hZ hown hw e7 Ft Fa At ho hT (by decide) t12_53 fun T8 X8 e8 => ?_
  refine own_gt X8 hy d12_62 66 ?_
  refine own_it X8 hy d12_66 (l' := #[.val (.ref g), .val (.int p0), .val (.int 1), .val (.int 1), .val (.int (cc 37))]) rfl ?_
  refine own_iw X8 hy d12_68 rfl ?_
  refine own_il X8 hy d12_70 rfl ?_
  refine own_zn X8 hy d12_71 ((if0 _ _).trans (feq (by decide : ¬ ((1 : Int32) = (0 : Int32)))).1) ?_
  refine own_bp X8 hy d12_74 ?_
  refine own_gt X8 hy d12_76 81 ?_
  refine own_cy X8 hy d12_81 112 (feq (by rw [show cc 37 = 44 from hg37]; decide)).2 ?_
  refine own_al X8 hy d12_112 rfl rfl ?_
  refine own_gf X8 hy hZ hown (host := "") (Or.inl (own_w hw 95 rfl)) Via.refl e8 Fp d12_113 fun T9 X9 e9 => ?_
  refine own_zn X9 hy d12_116 ((if0 _ _).trans (teq (by decide : ((0 : Int32) = (0 : Int32)))).2) ?_
  refine own_iw X9 hy d12_119 rfl ?_
  refine own_bp X9 hy d12_121 ?_
  refine own_cn X9 hy d12_123 (teq (show cc 37 = 44 from hg37)).2 ?_
  refine own_al X9 hy d12_126 rfl rfl ?_
  refine own_gf X9 hy hZ hown (host := "") (Or.inl (own_w hw 95 rfl)) Via.refl e9 Fp d12_127 fun T10 X10 e10 => ?_
  refine own_zn X10 hy d12_130 ((if0 _ _).trans (teq (by decide : ((0 : Int32) = (0 : Int32)))).2) ?_
  refine own_inc X10 hy hZ hown hw e10 ⟨Eg, Ft, Fe, Fm, Fo, Fd, Fp, Fa⟩ i12_133 38 fun T11 h11 X11 e11 W11 ⟨_, Ft, Fe, Fm, Fo, Fd, Fp, Fa⟩ => ?_
  replace hIn := own_In.wr hIn W11 (own_sf hZ Eg)
  replace S_cs := S_cs.wr W11
  replace S_fm := S_fm.wr W11
  replace Eg := Eg.wr W11
  replace At := At.other W11 ne_ct_g
  replace Ao := Ao.other W11 ne_ob_g
  have Z11 := own_zw Z0 W11
  have Kp11 := Kp0.wr W11 own_m0
  replace hk := own_zw hk W11
  have N11 := Fr.snoc X11 N2 g_g
  clear N2 X7 e7 X8 e8 X9 e9 X10 e10 W11
  refine own_al X11 hy d12_143 rfl rfl ?_
  refine own_ic X11 hy d12_144 ?_
  refine own_pn X11 hy hZ hown (own_w hw 95 rfl) Via.refl e11 Fp Eg (Or.inl (own_w hw 96 rfl)) (own_w hw 54 rfl) (ty := .boolean) (v' := (.int 0)) (by decide) rfl (by first | exact fits_nar_bool _ | decide) d12_145 fun T12 h12 X12 e12 W12 => ?_
  replace hIn := own_In.wr hIn W12 (own_sf hZ Eg)
  replace S_cs := S_cs.wr W12
  replace S_fm := S_fm.wr W12
  replace At := At.other W12 ne_ct_g
  replace Ao := Ao.other W12 ne_ob_g
  have Z12 := own_zw Z11 W12
  have Kp12 := Kp11.wr W12 own_m0
  replace hk := own_zw hk W12
  obtain ⟨Eg, Ft, Fe, Fm, Fo, Fd, Fp, Fa⟩ := own_Gop hw ⟨Eg, Ft, Fe, Fm, Fo, Fd, Fp, Fa⟩ W12 rfl
  have N12 := Fr.snoc X12 N11 g_g
  refine own_il X12 hy d12_148 rfl ?_
  refine own_zn X12 hy d12_149 ((if0 _ _).trans (feq (by decide : ¬ ((1 : Int32) = (0 : Int32)))).1) ?_
  refine own_al X12 hy d12_152 rfl rfl ?_
  refine own_cpS X12 hy hZ hown hw hIn hS hk (own_y25 hw) (rmM38 hw Z12 ⟨Eg, Ft, Fe, Fm, Fo, Fd, Fp, Fa⟩ g_g At hT H hm37 hcs S_cs S_fm rfm) e12 Eg d12_153 own_pd3 hml fun v13 T13 L13 X13 hQ13 hS hk hZ hown hIn => ?_
  obtain ⟨N13q, K13q, hD13⟩ := hQ13
  have N13 := Fr.app N12 N13q
  rcases hD13 with ⟨hm45, rfl, ⟨-, Ft13, Fe13, Fm13, Fo13, Fd13, Fp13, Fa13⟩⟩ | ⟨hMf, rfl, ⟨-, Ft13, Fe13, Fm13, Fo13, Fd13, Fp13, Fa13⟩⟩
  ·
   replace S_cs := own_staKeep S_cs K13q (allS (own_ns Eg) all0)
   replace S_fm := own_staKeep S_fm K13q (allS (own_ns Eg) all0)
   replace Eg := Eg.keep K13q
   replace At := At.keep K13q (ninS ne_ct_g nin0)
   replace Ao := Ao.keep K13q (ninS ne_ob_g nin0)
   have Z13 := Nat.le_trans Z12 K13q.1
   have Kp13 := Kp12.trans K13q (allS own_m0 (all0))
   clear X11 e11 N11 Z11 Kp11 X12 e12 W12 N12 Z12 Kp12
   refine own_gt X13 hy d12_156 163 ?_
   refine own_is X13 hy d12_163 (l' := #[.val (.ref g), .val (.int p0), .val (.int 1), .val (.int 1), .val (.int (cc 37))]) rfl ?_
   refine own_gt X13 hy d12_164 169 ?_
   refine own_gt X13 hy d12_169 15 ?_
   exact kn T13 _ _ _ _ _ X13 hS (hk) hZ hown (hIn) (Kp13) N13 hm45 (⟨Eg, Ft13, Fe13, Fm13, Fo13, Fd13, Fp13, Fa13⟩) (Ao) (At) (S_cs) (S_fm)
  ·
   replace S_cs := own_staKeep S_cs K13q (allS (own_ns Eg) all0)
   replace S_fm := own_staKeep S_fm K13q (allS (own_ns Eg) all0)
   replace Eg := Eg.keep K13q
   replace At := At.keep K13q (ninS ne_ct_g nin0)
   replace Ao := Ao.keep K13q (ninS ne_ob_g nin0)
   have Z13 := Nat.le_trans Z12 K13q.1
   have Kp13 := Kp12.trans K13q (allS own_m0 (all0))
   clear X11 e11 N11 Z11 Kp11 X12 e12 W12 N12 Z12 Kp12
   refine own_gt X13 hy d12_156 163 ?_
   refine own_is X13 hy d12_163 (l' := #[.val (.ref g), .val (.int p0), .val (.int 0), .val (.int 1), .val (.int (cc 37))]) rfl ?_
   refine own_gt X13 hy d12_164 169 ?_
   refine own_gt X13 hy d12_169 15 ?_
   refine own_il X13 hy d12_15 rfl ?_
   refine own_zy X13 hy d12_16 172 ((if0 _ _).trans (teq (by decide : ((0 : Int32) = (0 : Int32)))).1) ?_
   refine own_il X13 hy d12_172 rfl ?_
   refine own_zy X13 hy d12_173 180 ((if0 _ _).trans (teq (by decide : ((0 : Int32) = (0 : Int32)))).1) ?_
   refine own_al X13 hy d12_180 rfl rfl ?_
   refine own_gf X13 hy hZ hown (host := "") (Or.inl (own_w hw 78 rfl)) Via.refl rfl Fa13 d12_181 fun T14 X14 e14 => ?_
   exact kd T14 _ _ _ _ (X14.more (by decide) (by decide)) hS (by rw [e14]; exact hk) hZ hown (by rw [e14]; exact hIn) (by rw [e14]; exact Kp13) N13 (by omega)
 ·
  exact own_bsF hw X1 hy hZ hown hml e1 Z0 N0 (by rw [hm37]; exact ⟨Eg, Ft, Fe, Fm, Fo, Fd, Fp, Fa⟩) g_g At hT H Ao (Or.inl (by omega)) (by decide) (by decide) (fun T' locs' Ls' X' K' N' => kd T' _ _ _ _ (X'.more (by decide) (by decide)) hS (Nat.le_trans hk K'.1) hZ hown (own_In.keep hIn K' (allS (own_sf hZ Eg) all0)) (Kp0.trans K' (allS own_m0 all0)) N' (by omega))
 ·
  exact own_bsF hw X1 hy hZ hown hml e1 Z0 N0 (by rw [hm37]; exact ⟨Eg, Ft, Fe, Fm, Fo, Fd, Fp, Fa⟩) g_g At hT H Ao (Or.inr ⟨by omega, by rw [hm37]; exact hb37⟩) (by decide) (by decide) (fun T' locs' Ls' X' K' N' => kd T' _ _ _ _ (X'.more (by decide) (by decide)) hS (Nat.le_trans hk K'.1) hZ hown (own_In.keep hIn K' (allS (own_sf hZ Eg) all0)) (Kp0.trans K' (allS own_m0 all0)) N' (by omega))
theorem d12_176 : decode C12 176 = .ok (.iconst (-1), 1) := by decide +kernel
theorem d12_177 : decode C12 177 = .ok (.goto 7, 3) := by decide +kernel
theorem own_bsI46 (hw : own_HW Z a0) {p : Program} {e : Env} {s : State} {vm0 : Vm} {m : MethodId} {args : Array Value} {below : List Frame} {meth : Method} {c : Code} {T0 : State} {locs : List Loc} {P : State → Outcome → Prop} (X0 : Stand p l e ⟨7, 8, 116, 102⟩ (s.setVm vm0) m args below meth c T0 locs 8 116) (hy : own_Y p c prog_6_method_2_code) (hZ : Z.Warmed39 (s.setVm vm0).vm) (hown : (s.setVm vm0).vm.findClass "dev/parlance/JsonGrammar" = some m.cls) (hml : c.maxLocals = 5) (e0 : T0.heap = h0) (Z0 : n0 ≤ h0.size) (N0 : Fr n0 locs) (hIn : own_In Z vm0 h0) {k0 : Nat} (hS : s.Since vm0 k0) (hk : k0 ≤ h0.size) {p0 q3 q4 : Int32} (Gq : own_G Z h0 g ct ob (own_P oN kk) md (1 : Int32) (0 : Int32) (own_P oN 46)) (g_g : n0 ≤ g) (At : Arv Z h0 ct kc .char (52 : Int32) tx (.int 0)) (hT : ∀ i, i < 49 → tx.getD (oN + i) (.int 0) = .int (cc i)) (H : own_H oN kk md M tf cc) (Ao : Arv Z h0 ob ko .boolean (16 : Int32) [(.int 1), (.int 0), (.int 0), (.int 0), (.int 0), (.int 0), (.int 0), (.int 0), (.int 0), (.int 0), (.int 0), (.int 0), (.int 0), (.int 0), (.int 0), (.int 0)] (.int 0)) (g_ob : n0 ≤ ob) (hcs : ¬ (cs = (0 : Int32))) (S_cs : Sta Z h0 "java/lang/String" "COMPACT_STRINGS" "Z" (.int cs)) (S_fm : Sta Z h0 "jdk/internal/util/Preconditions" "SIOOBE_FORMATTER" "Ljava/util/function/BiFunction;" fm) (rfm : fm.isRef = true) (hm45 : 46 ≤ M) (kd : own_KD p l e s m args below meth c Z g ct ob kc ko tx oN kk M md cs fm h0 n0 P (own_P oN M) (M < 48)) (km : own_KD p l e s m args below meth c Z g ct ob kc ko tx oN kk M md cs fm h0 n0 P (-1) (48 ≤ M)) : ∃ t o, Steps p.tables e below (T0.setTop (mkF m 15 #[.val (.ref g), .val (.int p0), .val (.int 1), .val (.int q3), .val (.int q4)] [])) t ∧ P t o := by
 have Kp0 : Keep h0 h0 [g, ob] := Keep.refl h0 _
 obtain ⟨⟨Eg, Ft, Fe, Fm, Fo, Fd, Fp, Fa⟩, ho, hk49, ne_ct_g⟩ := own_gi hw Gq At H
 have ne_ob_g : ob ≠ g := Ne.symm (own_neA Eg (own_w hw 54 rfl) Ao)
 have ne_ct_ob : ct ≠ ob := arv_ne At Ao (Or.inl (by decide))
 refine own_il X0 hy d12_15 rfl ?_
 refine own_zn X0 hy d12_16 ((if0 _ _).trans (feq (by decide : ¬ ((1 : Int32) = (0 : Int32)))).1) ?_
 refine own_al X0 hy d12_19 rfl rfl ?_
 refine own_gf X0 hy hZ hown (host := "") (Or.inl (own_w hw 76 rfl)) Via.refl e0 Fd d12_20 fun T1 X1 e1 => ?_
 refine own_zn X1 hy d12_23 ((if0 _ _).trans (tlt (by decide : ((0 : Int32) < (1 : Int32)))).2.2.2) ?_
 rcases own_at H 46 (by decide) hm45 (by decide) with ⟨hm46, hk46, hg46⟩ | ⟨hm46, hk46⟩ | ⟨hm46, hk46, hb46⟩
 ·
  rcases own_at H 47 (by decide) hm46 (by decide) with ⟨hm47, hk47, hg47⟩ | ⟨hm47, hk47⟩ | ⟨hm47, hk47, hb47⟩
  ·
   refine own_al X1 hy d12_26 rfl rfl ?_
   refine own_cp X1 hy hZ hown (own_y19 hw) (rmSk1 hw Z0 ⟨Eg, Ft, Fe, Fm, Fo, Fd, Fp, Fa⟩ g_g At hT H (by decide) hk46 hg46 (Or.inr ⟨hk47, own_lws (L := 125) hg47 (by decide)⟩)) e1 Eg d12_27 own_pd12 hml fun v2 T2 L2 X2 hQ2 => ?_
   obtain ⟨rfl, N2q, K2q, ⟨_, Ft2, Fe2, Fm2, Fo2, Fd2, Fp2, Fa2⟩⟩ := hQ2
   have N2 := Fr.app N0 N2q
   replace hIn := own_In.keep hIn K2q (allS (own_sf hZ Eg) all0)
   replace S_cs := own_staKeep S_cs K2q (allS (own_ns Eg) all0)
   replace S_fm := own_staKeep S_fm K2q (allS (own_ns Eg) all0)
   replace Eg := Eg.keep K2q
   replace At := At.keep K2q (ninS ne_ct_g nin0)
   replace Ao := Ao.keep K2q (ninS ne_ob_g nin0)
   have Z2 := Nat.le_trans Z0 K2q.1
   have Kp2 := Kp0.trans K2q (allS own_m0 (all0))
   replace hk := Nat.le_trans hk K2q.1
   refine own_al X2 hy d12_30 rfl rfl ?_
   refine own_gf X2 hy hZ hown (host := "") (Or.inl (own_w hw 63 rfl)) Via.refl rfl Fo2 d12_31 fun T4 X4 e4 => ?_
   refine own_al X4 hy d12_34 rfl rfl ?_
   refine own_gf X4 hy hZ hown (host := "") (Or.inl (own_w hw 76 rfl)) Via.refl e4 Fd2 d12_35 fun T5 X5 e5 => ?_
   refine own_ic X5 hy d12_38 ?_
   refine own_sb X5 hy d12_39 ?_
   refine own_bz X5 hy hZ e5 Ao ⟨by decide, by decide⟩ (v := (.int 1)) rfl d12_40 ?_
   refine own_is X5 hy d12_41 (l' := #[.val (.ref g), .val (.int p0), .val (.int 1), .val (.int 1), .val (.int q4)]) rfl ?_
   refine own_ae X5 hy hZ hown hw e5 Fa2 Fe2 a12_42 fun T7 X7 e7 => ?_
   clear X1 e1 N2q X2 X4 e4 X5 e5
   refine own_cn X7 hy d12_50 (tlt (own_Plt ho hk49 hk47)).2.1 ?_
   refine own_tc X7 hy hZ hown hw e7 Ft2 Fa2 At ho hT (by decide) t12_53 fun T8 X8 e8 => ?_
   refine own_gt X8 hy d12_62 66 ?_
   refine own_it X8 hy d12_66 (l' := #[.val (.ref g), .val (.int p0), .val (.int 1), .val (.int 1), .val (.int (cc 47))]) rfl ?_
   refine own_iw X8 hy d12_68 rfl ?_
   refine own_il X8 hy d12_70 rfl ?_
   refine own_zn X8 hy d12_71 ((if0 _ _).trans (feq (by decide : ¬ ((1 : Int32) = (0 : Int32)))).1) ?_
   refine own_bp X8 hy d12_74 ?_
   refine own_gt X8 hy d12_76 81 ?_
   refine own_cn X8 hy d12_81 (teq (show cc 47 = 125 from hg47)).2 ?_
   refine own_inc X8 hy hZ hown hw e8 ⟨Eg, Ft2, Fe2, Fm2, Fo2, Fd2, Fp2, Fa2⟩ i12_84 48 fun T9 h9 X9 e9 W9 ⟨_, Ft, Fe, Fm, Fo, Fd, Fp, Fa⟩ => ?_
   replace hIn := own_In.wr hIn W9 (own_sf hZ Eg)
   replace S_cs := S_cs.wr W9
   replace S_fm := S_fm.wr W9
   replace Eg := Eg.wr W9
   replace At := At.other W9 ne_ct_g
   replace Ao := Ao.other W9 ne_ob_g
   have Z9 := own_zw Z2 W9
   have Kp9 := Kp2.wr W9 own_m0
   replace hk := own_zw hk W9
   have N9 := Fr.snoc X9 N2 g_g
   refine own_al X9 hy d12_94 rfl rfl ?_
   refine own_dp X9 hy d12_95 rfl ?_
   refine own_gf X9 hy hZ hown (host := "") (Or.inl (own_w hw 76 rfl)) Via.refl e9 Fd d12_96 fun T10 X10 e10 => ?_
   clear N2 X7 e7 X8 e8 X9 e9 W9
   refine own_ic X10 hy d12_99 ?_
   refine own_sb X10 hy d12_100 ?_
   refine own_pf X10 hy hZ hown (host := "") (Or.inl (own_w hw 76 rfl)) Via.refl e10 Fd Eg (Or.inl (own_w hw 77 rfl)) (own_w hw 54 rfl) (ty := .int) (by decide) rfl rfl d12_101 fun T11 h11 X11 e11 W11 => ?_
   replace hIn := own_In.wr hIn W11 (own_sf hZ Eg)
   replace S_cs := S_cs.wr W11
   replace S_fm := S_fm.wr W11
   replace At := At.other W11 ne_ct_g
   replace Ao := Ao.other W11 ne_ob_g
   have Z11 := own_zw Z9 W11
   have Kp11 := Kp9.wr W11 own_m0
   replace hk := own_zw hk W11
   obtain ⟨Eg, Ft, Fe, Fm, Fo, Fd, Fp, Fa⟩ := own_Gde hw ⟨Eg, Ft, Fe, Fm, Fo, Fd, Fp, Fa⟩ W11 rfl
   have N11 := Fr.snoc X11 N9 g_g
   refine own_al X11 hy d12_104 rfl rfl ?_
   refine own_ic X11 hy d12_105 ?_
   refine own_pn X11 hy hZ hown (own_w hw 95 rfl) Via.refl e11 Fp Eg (Or.inl (own_w hw 96 rfl)) (own_w hw 54 rfl) (ty := .boolean) (v' := (.int 0)) (by decide) rfl (by first | exact fits_nar_bool _ | decide) d12_106 fun T12 h12 X12 e12 W12 => ?_
   replace hIn := own_In.wr hIn W12 (own_sf hZ Eg)
   replace S_cs := S_cs.wr W12
   replace S_fm := S_fm.wr W12
   replace At := At.other W12 ne_ct_g
   replace Ao := Ao.other W12 ne_ob_g
   have Z12 := own_zw Z11 W12
   have Kp12 := Kp11.wr W12 own_m0
   replace hk := own_zw hk W12
   obtain ⟨Eg, Ft, Fe, Fm, Fo, Fd, Fp, Fa⟩ := own_Gop hw ⟨Eg, Ft, Fe, Fm, Fo, Fd, Fp, Fa⟩ W12 rfl
   have N12 := Fr.snoc X12 N11 g_g
   clear N9 Z9 Kp9 X10 e10 X11 e11 W11 N11 Z11 Kp11 W12
   refine own_gt X12 hy d12_109 169 ?_
   refine own_gt X12 hy d12_169 15 ?_
   refine own_il X12 hy d12_15 rfl ?_
   refine own_zn X12 hy d12_16 ((if0 _ _).trans (feq (by decide : ¬ ((1 : Int32) = (0 : Int32)))).1) ?_
   refine own_al X12 hy d12_19 rfl rfl ?_
   refine own_gf X12 hy hZ hown (host := "") (Or.inl (own_w hw 76 rfl)) Via.refl e12 Fd d12_20 fun T13 X13 e13 => ?_
   refine own_zy X13 hy d12_23 172 ((if0 _ _).trans (flt (by decide : ¬ ((0 : Int32) < (0 : Int32)))).2.2.2) ?_
   refine own_il X13 hy d12_172 rfl ?_
   refine own_zn X13 hy d12_173 ((if0 _ _).trans (feq (by decide : ¬ ((1 : Int32) = (0 : Int32)))).1) ?_
   refine own_ic X13 hy d12_176 ?_
   refine own_gt X13 hy d12_177 184 ?_
   exact km T13 _ _ _ _ (X13.more (by decide) (by decide)) hS (by rw [e13]; exact hk) hZ hown (by rw [e13]; exact hIn) (by rw [e13]; exact Kp12) N12 hm47
  ·
   refine own_al X1 hy d12_26 rfl rfl ?_
   refine own_cp X1 hy hZ hown (own_y19 hw) (rmSk1 hw Z0 ⟨Eg, Ft, Fe, Fm, Fo, Fd, Fp, Fa⟩ g_g At hT H (by decide) hk46 hg46 (Or.inl (Nat.le_of_eq hk47))) e1 Eg d12_27 own_pd12 hml fun v14 T14 L14 X14 hQ14 => ?_
   obtain ⟨rfl, N14q, K14q, ⟨_, Ft14, Fe14, Fm14, Fo14, Fd14, Fp14, Fa14⟩⟩ := hQ14
   have N14 := Fr.app N0 N14q
   replace hIn := own_In.keep hIn K14q (allS (own_sf hZ Eg) all0)
   replace S_cs := own_staKeep S_cs K14q (allS (own_ns Eg) all0)
   replace S_fm := own_staKeep S_fm K14q (allS (own_ns Eg) all0)
   replace Eg := Eg.keep K14q
   replace At := At.keep K14q (ninS ne_ct_g nin0)
   replace Ao := Ao.keep K14q (ninS ne_ob_g nin0)
   have Z14 := Nat.le_trans Z0 K14q.1
   have Kp14 := Kp0.trans K14q (allS own_m0 (all0))
   replace hk := Nat.le_trans hk K14q.1
   refine own_al X14 hy d12_30 rfl rfl ?_
   refine own_gf X14 hy hZ hown (host := "") (Or.inl (own_w hw 63 rfl)) Via.refl rfl Fo14 d12_31 fun T16 X16 e16 => ?_
   refine own_al X16 hy d12_34 rfl rfl ?_
   refine own_gf X16 hy hZ hown (host := "") (Or.inl (own_w hw 76 rfl)) Via.refl e16 Fd14 d12_35 fun T17 X17 e17 => ?_
   refine own_ic X17 hy d12_38 ?_
   refine own_sb X17 hy d12_39 ?_
   refine own_bz X17 hy hZ e17 Ao ⟨by decide, by decide⟩ (v := (.int 1)) rfl d12_40 ?_
   refine own_is X17 hy d12_41 (l' := #[.val (.ref g), .val (.int p0), .val (.int 1), .val (.int 1), .val (.int q4)]) rfl ?_
   refine own_ae X17 hy hZ hown hw e17 Fa14 Fe14 a12_42 fun T19 X19 e19 => ?_
   clear X1 e1 N14q X14 X16 e16 X17 e17
   refine own_cy X19 hy d12_50 65 (flt (own_Pge ho hk49 (Nat.le_of_eq hk47) (by decide))).2.1 ?_
   refine own_ic X19 hy d12_65 ?_
   refine own_it X19 hy d12_66 (l' := #[.val (.ref g), .val (.int p0), .val (.int 1), .val (.int 1), .val (.int 0)]) rfl ?_
   refine own_iw X19 hy d12_68 rfl ?_
   refine own_il X19 hy d12_70 rfl ?_
   refine own_zn X19 hy d12_71 ((if0 _ _).trans (feq (by decide : ¬ ((1 : Int32) = (0 : Int32)))).1) ?_
   refine own_bp X19 hy d12_74 ?_
   refine own_gt X19 hy d12_76 81 ?_
   refine own_cy X19 hy d12_81 112 (feq (by decide : ¬ ((0 : Int32) = (125 : Int32)))).2 ?_
   refine own_al X19 hy d12_112 rfl rfl ?_
   refine own_gf X19 hy hZ hown (host := "") (Or.inl (own_w hw 95 rfl)) Via.refl e19 Fp14 d12_113 fun T20 X20 e20 => ?_
   refine own_zn X20 hy d12_116 ((if0 _ _).trans (teq (by decide : ((0 : Int32) = (0 : Int32)))).2) ?_
   refine own_iw X20 hy d12_119 rfl ?_
   refine own_bp X20 hy d12_121 ?_
   refine own_cy X20 hy d12_123 167 (feq (by decide : ¬ ((0 : Int32) = (44 : Int32)))).2 ?_
   refine own_ic X20 hy d12_167 ?_
   refine own_is X20 hy d12_168 (l' := #[.val (.ref g), .val (.int p0), .val (.int 0), .val (.int 1), .val (.int 0)]) rfl ?_
   refine own_gt X20 hy d12_169 15 ?_
   refine own_il X20 hy d12_15 rfl ?_
   refine own_zy X20 hy d12_16 172 ((if0 _ _).trans (teq (by decide : ((0 : Int32) = (0 : Int32)))).1) ?_
   refine own_il X20 hy d12_172 rfl ?_
   refine own_zy X20 hy d12_173 180 ((if0 _ _).trans (teq (by decide : ((0 : Int32) = (0 : Int32)))).1) ?_
   refine own_al X20 hy d12_180 rfl rfl ?_
   refine own_gf X20 hy hZ hown (host := "") (Or.inl (own_w hw 78 rfl)) Via.refl e20 Fa14 d12_181 fun T21 X21 e21 => ?_
   refine own_go (A := T21.setTop (mkF m 184 #[.val (.ref g), .val (.int p0), .val (.int 0), .val (.int 1), .val (.int 0)] [(.int (own_P oN M))])) (fun _ kz => by rw [hm47] at kz; exact kz) ?_
   exact kd T21 _ _ _ _ (X21.more (by decide) (by decide)) hS (by rw [e21]; exact hk) hZ hown (by rw [e21]; exact hIn) (by rw [e21]; exact Kp14) N14 (by omega)
  ·
   refine own_al X1 hy d12_26 rfl rfl ?_
   refine own_cp X1 hy hZ hown (own_y19 hw) (rmSk1 hw Z0 ⟨Eg, Ft, Fe, Fm, Fo, Fd, Fp, Fa⟩ g_g At hT H (by decide) hk46 hg46 (Or.inr ⟨hk47, own_bws hb47⟩)) e1 Eg d12_27 own_pd12 hml fun v22 T22 L22 X22 hQ22 => ?_
   obtain ⟨rfl, N22q, K22q, ⟨_, Ft22, Fe22, Fm22, Fo22, Fd22, Fp22, Fa22⟩⟩ := hQ22
   have N22 := Fr.app N0 N22q
   replace hIn := own_In.keep hIn K22q (allS (own_sf hZ Eg) all0)
   replace S_cs := own_staKeep S_cs K22q (allS (own_ns Eg) all0)
   replace S_fm := own_staKeep S_fm K22q (allS (own_ns Eg) all0)
   replace Eg := Eg.keep K22q
   replace At := At.keep K22q (ninS ne_ct_g nin0)
   replace Ao := Ao.keep K22q (ninS ne_ob_g nin0)
   have Z22 := Nat.le_trans Z0 K22q.1
   have Kp22 := Kp0.trans K22q (allS own_m0 (all0))
   replace hk := Nat.le_trans hk K22q.1
   refine own_al X22 hy d12_30 rfl rfl ?_
   refine own_gf X22 hy hZ hown (host := "") (Or.inl (own_w hw 63 rfl)) Via.refl rfl Fo22 d12_31 fun T24 X24 e24 => ?_
   refine own_al X24 hy d12_34 rfl rfl ?_
   refine own_gf X24 hy hZ hown (host := "") (Or.inl (own_w hw 76 rfl)) Via.refl e24 Fd22 d12_35 fun T25 X25 e25 => ?_
   refine own_ic X25 hy d12_38 ?_
   refine own_sb X25 hy d12_39 ?_
   refine own_bz X25 hy hZ e25 Ao ⟨by decide, by decide⟩ (v := (.int 1)) rfl d12_40 ?_
   refine own_is X25 hy d12_41 (l' := #[.val (.ref g), .val (.int p0), .val (.int 1), .val (.int 1), .val (.int q4)]) rfl ?_
   refine own_ae X25 hy hZ hown hw e25 Fa22 Fe22 a12_42 fun T27 X27 e27 => ?_
   clear X1 e1 N22q X22 X24 e24 X25 e25
   refine own_cn X27 hy d12_50 (tlt (own_Plt ho hk49 hk47)).2.1 ?_
   refine own_tc X27 hy hZ hown hw e27 Ft22 Fa22 At ho hT (by decide) t12_53 fun T28 X28 e28 => ?_
   refine own_gt X28 hy d12_62 66 ?_
   refine own_it X28 hy d12_66 (l' := #[.val (.ref g), .val (.int p0), .val (.int 1), .val (.int 1), .val (.int (cc 47))]) rfl ?_
   refine own_iw X28 hy d12_68 rfl ?_
   refine own_il X28 hy d12_70 rfl ?_
   refine own_zn X28 hy d12_71 ((if0 _ _).trans (feq (by decide : ¬ ((1 : Int32) = (0 : Int32)))).1) ?_
   refine own_bp X28 hy d12_74 ?_
   refine own_gt X28 hy d12_76 81 ?_
   refine own_cy X28 hy d12_81 112 (feq (own_bne hb47 (by decide))).2 ?_
   refine own_al X28 hy d12_112 rfl rfl ?_
   refine own_gf X28 hy hZ hown (host := "") (Or.inl (own_w hw 95 rfl)) Via.refl e28 Fp22 d12_113 fun T29 X29 e29 => ?_
   refine own_zn X29 hy d12_116 ((if0 _ _).trans (teq (by decide : ((0 : Int32) = (0 : Int32)))).2) ?_
   refine own_iw X29 hy d12_119 rfl ?_
   refine own_bp X29 hy d12_121 ?_
   refine own_cy X29 hy d12_123 167 (feq (own_bne hb47 (by decide))).2 ?_
   refine own_ic X29 hy d12_167 ?_
   refine own_is X29 hy d12_168 (l' := #[.val (.ref g), .val (.int p0), .val (.int 0), .val (.int 1), .val (.int (cc 47))]) rfl ?_
   refine own_gt X29 hy d12_169 15 ?_
   refine own_il X29 hy d12_15 rfl ?_
   refine own_zy X29 hy d12_16 172 ((if0 _ _).trans (teq (by decide : ((0 : Int32) = (0 : Int32)))).1) ?_
   refine own_il X29 hy d12_172 rfl ?_
   refine own_zy X29 hy d12_173 180 ((if0 _ _).trans (teq (by decide : ((0 : Int32) = (0 : Int32)))).1) ?_
   refine own_al X29 hy d12_180 rfl rfl ?_
   refine own_gf X29 hy hZ hown (host := "") (Or.inl (own_w hw 78 rfl)) Via.refl e29 Fa22 d12_181 fun T30 X30 e30 => ?_
   refine own_go (A := T30.setTop (mkF m 184 #[.val (.ref g), .val (.int p0), .val (.int 0), .val (.int 1), .val (.int (cc 47))] [(.int (own_P oN M))])) (fun _ kz => by rw [hm47] at kz; exact kz) ?_
   exact kd T30 _ _ _ _ (X30.more (by decide) (by decide)) hS (by rw [e30]; exact hk) hZ hown (by rw [e30]; exact hIn) (by rw [e30]; exact Kp22) N22 (by omega)
 ·
  exact own_bsF hw X1 hy hZ hown hml e1 Z0 N0 (by rw [hm46]; exact ⟨Eg, Ft, Fe, Fm, Fo, Fd, Fp, Fa⟩) g_g At hT H Ao (Or.inl (by omega)) (by decide) (by decide) (fun T' locs' Ls' X' K' N' => kd T' _ _ _ _ (X'.more (by decide) (by decide)) hS (Nat.le_trans hk K'.1) hZ hown (own_In.keep hIn K' (allS (own_sf hZ Eg) all0)) (Kp0.trans K' (allS own_m0 all0)) N' (by omega))
 ·
  exact own_bsF hw X1 hy hZ hown hml e1 Z0 N0 (by rw [hm46]; exact ⟨Eg, Ft, Fe, Fm, Fo, Fd, Fp, Fa⟩) g_g At hT H Ao (Or.inr ⟨by omega, by rw [hm46]; exact hb46⟩) (by decide) (by decide) (fun T' locs' Ls' X' K' N' => kd T' _ _ _ _ (X'.more (by decide) (by decide)) hS (Nat.le_trans hk K'.1) hZ hown (own_In.keep hIn K' (allS (own_sf hZ Eg) all0)) (Kp0.trans K' (allS own_m0 all0)) N' (by omega))
theorem d12_0 : decode C12 0 = .ok (.aload_n 0, 1) := by decide +kernel
theorem d12_1 : decode C12 1 = .ok (.iconst 0, 1) := by decide +kernel
theorem d12_2 : decode C12 2 = .ok (.putfield 24, 3) := by decide +kernel
theorem d12_5 : decode C12 5 = .ok (.aload_n 0, 1) := by decide +kernel
theorem d12_6 : decode C12 6 = .ok (.iload_n 1, 1) := by decide +kernel
theorem d12_7 : decode C12 7 = .ok (.putfield 27, 3) := by decide +kernel
theorem d12_10 : decode C12 10 = .ok (.aload_n 0, 1) := by decide +kernel
theorem d12_11 : decode C12 11 = .ok (.invokevirtual 30, 3) := by decide +kernel
theorem d12_14 : decode C12 14 = .ok (.istore_n 2, 1) := by decide +kernel
theorem d12_184 : decode C12 184 = .ok (.ireturn, 1) := by decide +kernel
theorem own_pn12 : plainName "dev/parlance/JsonGrammar" = true := by first | (simp [plainName, overriddenIn]; done) | decide +kernel
theorem own_ef12 (m : MethodId) (x0 : Addr) (x1 : Int32) : entryFrame m #[(.ref x0), (.int x1)] 5 = mkF m 0 #[.val (.ref x0), .val (.int x1), .unset, .unset, .unset] [] := by first | (simp [entryFrame, mkF, argsToLocals, Value.category]; done) | rfl
def QrmBk (Z : State) (g : Addr) (ob : Addr) (oN : Nat) (M : Nat) (h0 : Heap) (n0 : Nat) (v : Option Value) (h : Heap) (L : List Loc) : Prop := Fr n0 L ∧ Keep h0 h [g, ob] ∧ ((48 ≤ M ∧ v = some (.int (-1))) ∨ (M < 48 ∧ v = some (.int (own_P oN M))))
theorem rmBk (hw : own_HW Z a0) (Z0 : n0 ≤ h0.size) (Gq : own_G Z h0 g ct ob (own_P oN kk) md dd oo aa) (g_g : n0 ≤ g) (At : Arv Z h0 ct kc .char (52 : Int32) tx (.int 0)) (hT : ∀ i, i < 49 → tx.getD (oN + i) (.int 0) = .int (cc i)) (H : own_H oN kk md M tf cc) (Ao : Arv Z h0 ob ko .boolean (16 : Int32) [(.int 0), (.int 0), (.int 0), (.int 0), (.int 0), (.int 0), (.int 0), (.int 0), (.int 0), (.int 0), (.int 0), (.int 0), (.int 0), (.int 0), (.int 0), (.int 0)] (.int 0)) (g_ob : n0 ≤ ob) (hcs : ¬ (cs = (0 : Int32))) (S_cs : Sta Z h0 "java/lang/String" "COMPACT_STRINGS" "Z" (.int cs)) (S_fm : Sta Z h0 "jdk/internal/util/Preconditions" "SIOOBE_FORMATTER" "Ljava/util/function/BiFunction;" fm) (rfm : fm.isRef = true) :
  own_MC l "dev/parlance/JsonGrammar" "breaksAt" "(I)I" prog_6_method_2_code 5 (some .int) ⟨7, 8, 116, 102⟩ #[(.ref g), (.int (own_P oN 0))] Z h0 (QrmBk Z g ob oN M h0 n0) := by
 refine own_fsC (plainFor_of_name own_pn12) (own_ef12 · g (own_P oN 0)) fun p e s m below meth c s₁ hy hml hZ hown hnm hrt hlk X0 e0 hS hk hIn => ?_
 have N0 := Fr.nil n0
 have Kp0 : Keep h0 h0 [g, ob] := Keep.refl h0 _
 obtain ⟨⟨Eg, Ft, Fe, Fm, Fo, Fd, Fp, Fa⟩, ho, hk49, ne_ct_g⟩ := own_gi hw Gq At H
 have ne_ob_g : ob ≠ g := Ne.symm (own_neA Eg (own_w hw 54 rfl) Ao)
 have ne_ct_ob : ct ≠ ob := arv_ne At Ao (Or.inl (by decide))
 refine own_al X0 hy d12_0 rfl rfl ?_
 refine own_ic X0 hy d12_1 ?_
 refine own_pf X0 hy hZ hown (host := "") (Or.inl (own_w hw 76 rfl)) Via.refl e0 Fd Eg (Or.inl (own_w hw 77 rfl)) (own_w hw 54 rfl) (ty := .int) (by decide) rfl rfl d12_2 fun T1 h1 X1 e1 W1 => ?_
 replace hIn := own_In.wr hIn W1 (own_sf hZ Eg)
 replace S_cs := S_cs.wr W1
 replace S_fm := S_fm.wr W1
 replace At := At.other W1 ne_ct_g
 replace Ao := Ao.other W1 ne_ob_g
 have Z1 := own_zw Z0 W1
 have Kp1 := Kp0.wr W1 own_m0
 replace hk := own_zw hk W1
 obtain ⟨Eg, Ft, Fe, Fm, Fo, Fd, Fp, Fa⟩ := own_Gde hw ⟨Eg, Ft, Fe, Fm, Fo, Fd, Fp, Fa⟩ W1 rfl
 have N1 := Fr.snoc X1 N0 g_g
 refine own_al X1 hy d12_5 rfl rfl ?_
 refine own_il X1 hy d12_6 rfl ?_
 refine own_pf X1 hy hZ hown (host := "") (Or.inl (own_w hw 78 rfl)) Via.refl e1 Fa Eg (Or.inl (own_w hw 79 rfl)) (own_w hw 54 rfl) (ty := .int) (by decide) rfl rfl d12_7 fun T2 h2 X2 e2 W2 => ?_
 replace hIn := own_In.wr hIn W2 (own_sf hZ Eg)
 replace S_cs := S_cs.wr W2
 replace S_fm := S_fm.wr W2
 replace At := At.other W2 ne_ct_g
 replace Ao := Ao.other W2 ne_ob_g
 have Z2 := own_zw Z1 W2
 have Kp2 := Kp1.wr W2 own_m0
 replace hk := own_zw hk W2
 obtain ⟨Eg, Ft, Fe, Fm, Fo, Fd, Fp, Fa⟩ := own_Gat hw ⟨Eg, Ft, Fe, Fm, Fo, Fd, Fp, Fa⟩ W2 rfl
 have N2 := Fr.snoc X2 N1 g_g
 refine own_al X2 hy d12_10 rfl rfl ?_
 refine own_cp X2 hy hZ hown (own_y24 hw) (rmV0 hw Z2 ⟨Eg, Ft, Fe, Fm, Fo, Fd, Fp, Fa⟩ g_g At hT H Ao g_ob) e2 Eg d12_11 own_pd3 hml fun v3 T3 L3 X3 hQ3 => ?_
 obtain ⟨N3q, K3q, hD3⟩ := hQ3
 have N3 := Fr.app N2 N3q
 rcases hD3 with ⟨hm0, rfl, ⟨-, Ft3, Fe3, Fm3, Fo3, Fd3, Fp3, Fa3⟩, AoC3⟩ | ⟨hMf, rfl, ⟨-, Ft3, Fe3, Fm3, Fo3, Fd3, Fp3, Fa3⟩, AoC3⟩
 ·
  replace hIn := own_In.keep hIn K3q (allS (own_sf hZ Eg) (allS (own_safeA hZ.alike Ao (by decide)) all0))
  replace S_cs := own_staKeep S_cs K3q (allS (own_ns Eg) (allS (own_nsA Ao) all0))
  replace S_fm := own_staKeep S_fm K3q (allS (own_ns Eg) (allS (own_nsA Ao) all0))
  replace Eg := Eg.keep K3q
  replace At := At.keep K3q (ninS ne_ct_g (ninS ne_ct_ob nin0))
  have Z3 := Nat.le_trans Z2 K3q.1
  have Kp3 := Kp2.trans K3q (allS own_m0 (allS own_m1 (all0)))
  replace hk := Nat.le_trans hk K3q.1
  clear X1 e1 W1 N1 Z1 Kp1 X2 e2 W2 N2 Z2 Kp2
  refine own_is X3 hy d12_14 (l' := #[.val (.ref g), .val (.int (own_P oN 0)), .val (.int 1), .unset, .unset]) rfl ?_
  refine own_bsI1 hw X3 hy hZ hown hml rfl Z3 N3 hIn hS hk ⟨Eg, Ft3, Fe3, Fm3, Fo3, Fd3, Fp3, Fa3⟩ g_g At hT H AoC3 g_ob hcs S_cs S_fm rfm hm0 ?_ ?_
  ·
   intro T' vm' k' locs' Ls' X' hS' hk' hZ' hown' hIn' K' N' hlt
   exact own_rIC X' hy hS' hk' hrt hlk d12_184 hZ' hw hIn' rfl ⟨N', Kp3.trans K' (allS own_m0 (allS own_m1 all0)), Or.inr ⟨hlt, rfl⟩⟩
  ·
   intro T4 vm4 k4 L4 a4 b4 X4 hS hk hZ hown hIn K4 N4 hm14 Gq4 Ao4 At4 Sc4 Sf4
   have Kp4 : Keep h0 T4.heap [g, ob] := Kp3.trans K4 (allS own_m0 (allS own_m1 all0))
   have Z4 : n0 ≤ T4.heap.size := Nat.le_trans Z3 K4.1
   refine own_bsI15 hw X4 hy hZ hown hml rfl Z4 N4 hIn hS hk Gq4 g_g At4 hT H Ao4 g_ob hcs Sc4 Sf4 rfm hm14 ?_ ?_
   ·
    intro T' vm' k' locs' Ls' X' hS' hk' hZ' hown' hIn' K' N' hlt
    exact own_rIC X' hy hS' hk' hrt hlk d12_184 hZ' hw hIn' rfl ⟨N', Kp4.trans K' (allS own_m0 (allS own_m1 all0)), Or.inr ⟨hlt, rfl⟩⟩
   ·
    intro T5 vm5 k5 L5 a5 b5 X5 hS hk hZ hown hIn K5 N5 hm22 Gq5 Ao5 At5 Sc5 Sf5
    have Kp5 : Keep h0 T5.heap [g, ob] := Kp4.trans K5 (allS own_m0 (allS own_m1 all0))
    have Z5 : n0 ≤ T5.heap.size := Nat.le_trans Z4 K5.1
    refine own_bsI23 hw X5 hy hZ hown hml rfl Z5 N5 hIn hS hk Gq5 g_g At5 hT H Ao5 g_ob hcs Sc5 Sf5 rfm hm22 ?_ ?_
    ·
     intro T' vm' k' locs' Ls' X' hS' hk' hZ' hown' hIn' K' N' hlt
     exact own_rIC X' hy hS' hk' hrt hlk d12_184 hZ' hw hIn' rfl ⟨N', Kp5.trans K' (allS own_m0 (allS own_m1 all0)), Or.inr ⟨hlt, rfl⟩⟩
    ·
     intro T6 vm6 k6 L6 a6 b6 X6 hS hk hZ hown hIn K6 N6 hm27 Gq6 Ao6 At6 Sc6 Sf6
     have Kp6 : Keep h0 T6.heap [g, ob] := Kp5.trans K6 (allS own_m0 (allS own_m1 all0))
     have Z6 : n0 ≤ T6.heap.size := Nat.le_trans Z5 K6.1
     refine own_bsI28 hw X6 hy hZ hown hml rfl Z6 N6 hIn hS hk Gq6 g_g At6 hT H Ao6 g_ob hcs Sc6 Sf6 rfm hm27 ?_ ?_
     ·
      intro T' vm' k' locs' Ls' X' hS' hk' hZ' hown' hIn' K' N' hlt
      exact own_rIC X' hy hS' hk' hrt hlk d12_184 hZ' hw hIn' rfl ⟨N', Kp6.trans K' (allS own_m0 (allS own_m1 all0)), Or.inr ⟨hlt, rfl⟩⟩
     ·
      intro T7 vm7 k7 L7 a7 b7 X7 hS hk hZ hown hIn K7 N7 hm30 Gq7 Ao7 At7 Sc7 Sf7
      have Kp7 : Keep h0 T7.heap [g, ob] := Kp6.trans K7 (allS own_m0 (allS own_m1 all0))
      have Z7 : n0 ≤ T7.heap.size := Nat.le_trans Z6 K7.1
      refine own_bsI31 hw X7 hy hZ hown hml rfl Z7 N7 hIn hS hk Gq7 g_g At7 hT H Ao7 g_ob hcs Sc7 Sf7 rfm hm30 ?_ ?_
      ·
       intro T' vm' k' locs' Ls' X' hS' hk' hZ' hown' hIn' K' N' hlt
       exact own_rIC X' hy hS' hk' hrt hlk d12_184 hZ' hw hIn' rfl ⟨N', Kp7.trans K' (allS own_m0 (allS own_m1 all0)), Or.inr ⟨hlt, rfl⟩⟩
      ·
       intro T8 vm8 k8 L8 a8 b8 X8 hS hk hZ hown hIn K8 N8 hm32 Gq8 Ao8 At8 Sc8 Sf8
       have Kp8 : Keep h0 T8.heap [g, ob] := Kp7.trans K8 (allS own_m0 (allS own_m1 all0))
       have Z8 : n0 ≤ T8.heap.size := Nat.le_trans Z7 K8.1
       refine own_bsI33 hw X8 hy hZ hown hml rfl Z8 N8 hIn hS hk Gq8 g_g At8 hT H Ao8 g_ob hcs Sc8 Sf8 rfm hm32 ?_ ?_
       ·
        intro T' vm' k' locs' Ls' X' hS' hk' hZ' hown' hIn' K' N' hlt
        exact own_rIC X' hy hS' hk' hrt hlk d12_184 hZ' hw hIn' rfl ⟨N', Kp8.trans K' (allS own_m0 (allS own_m1 all0)), Or.inr ⟨hlt, rfl⟩⟩
       ·
        intro T9 vm9 k9 L9 a9 b9 X9 hS hk hZ hown hIn K9 N9 hm34 Gq9 Ao9 At9 Sc9 Sf9
        have Kp9 : Keep h0 T9.heap [g, ob] := Kp8.trans K9 (allS own_m0 (allS own_m1 all0))
        have Z9 : n0 ≤ T9.heap.size := Nat.le_trans Z8 K9.1
        refine own_bsI35 hw X9 hy hZ hown hml rfl Z9 N9 hIn hS hk Gq9 g_g At9 hT H Ao9 g_ob hcs Sc9 Sf9 rfm hm34 ?_ ?_
        ·
         intro T' vm' k' locs' Ls' X' hS' hk' hZ' hown' hIn' K' N' hlt
         exact own_rIC X' hy hS' hk' hrt hlk d12_184 hZ' hw hIn' rfl ⟨N', Kp9.trans K' (allS own_m0 (allS own_m1 all0)), Or.inr ⟨hlt, rfl⟩⟩
        ·
         intro T10 vm10 k10 L10 a10 b10 X10 hS hk hZ hown hIn K10 N10 hm35 Gq10 Ao10 At10 Sc10 Sf10
         have Kp10 : Keep h0 T10.heap [g, ob] := Kp9.trans K10 (allS own_m0 (allS own_m1 all0))
         have Z10 : n0 ≤ T10.heap.size := Nat.le_trans Z9 K10.1
         refine own_bsI36 hw X10 hy hZ hown hml rfl Z10 N10 hIn hS hk Gq10 g_g At10 hT H Ao10 g_ob hcs Sc10 Sf10 rfm hm35 ?_ ?_
         ·
          intro T' vm' k' locs' Ls' X' hS' hk' hZ' hown' hIn' K' N' hlt
          exact own_rIC X' hy hS' hk' hrt hlk d12_184 hZ' hw hIn' rfl ⟨N', Kp10.trans K' (allS own_m0 (allS own_m1 all0)), Or.inr ⟨hlt, rfl⟩⟩
         ·
          intro T11 vm11 k11 L11 a11 b11 X11 hS hk hZ hown hIn K11 N11 hm36 Gq11 Ao11 At11 Sc11 Sf11
          have Kp11 : Keep h0 T11.heap [g, ob] := Kp10.trans K11 (allS own_m0 (allS own_m1 all0))
          have Z11 : n0 ≤ T11.heap.size := Nat.le_trans Z10 K11.1
          refine own_bsI37 hw X11 hy hZ hown hml rfl Z11 N11 hIn hS hk Gq11 g_g At11 hT H Ao11 g_ob hcs Sc11 Sf11 rfm hm36 ?_ ?_
          ·
           intro T' vm' k' locs' Ls' X' hS' hk' hZ' hown' hIn' K' N' hlt
           exact own_rIC X' hy hS' hk' hrt hlk d12_184 hZ' hw hIn' rfl ⟨N', Kp11.trans K' (allS own_m0 (allS own_m1 all0)), Or.inr ⟨hlt, rfl⟩⟩
          ·
           intro T12 vm12 k12 L12 a12 b12 X12 hS hk hZ hown hIn K12 N12 hm45 Gq12 Ao12 At12 Sc12 Sf12
           have Kp12 : Keep h0 T12.heap [g, ob] := Kp11.trans K12 (allS own_m0 (allS own_m1 all0))
           have Z12 : n0 ≤ T12.heap.size := Nat.le_trans Z11 K12.1
           refine own_bsI46 hw X12 hy hZ hown hml rfl Z12 N12 hIn hS hk Gq12 g_g At12 hT H Ao12 g_ob hcs Sc12 Sf12 rfm hm45 ?_ ?_
           ·
            intro T' vm' k' locs' Ls' X' hS' hk' hZ' hown' hIn' K' N' hlt
            exact own_rIC X' hy hS' hk' hrt hlk d12_184 hZ' hw hIn' rfl ⟨N', Kp12.trans K' (allS own_m0 (allS own_m1 all0)), Or.inr ⟨hlt, rfl⟩⟩
           ·
            intro T' vm' k' locs' Ls' X' hS' hk' hZ' hown' hIn' K' N' hlt
            exact own_rIC X' hy hS' hk' hrt hlk d12_184 hZ' hw hIn' rfl ⟨N', Kp12.trans K' (allS own_m0 (allS own_m1 all0)), Or.inl ⟨hlt, rfl⟩⟩
 ·
  replace hIn := own_In.keep hIn K3q (allS (own_sf hZ Eg) (allS (own_safeA hZ.alike Ao (by decide)) all0))
  replace S_cs := own_staKeep S_cs K3q (allS (own_ns Eg) (allS (own_nsA Ao) all0))
  replace S_fm := own_staKeep S_fm K3q (allS (own_ns Eg) (allS (own_nsA Ao) all0))
  replace Eg := Eg.keep K3q
  replace At := At.keep K3q (ninS ne_ct_g (ninS ne_ct_ob nin0))
  have Z3 := Nat.le_trans Z2 K3q.1
  have Kp3 := Kp2.trans K3q (allS own_m0 (allS own_m1 (all0)))
  replace hk := Nat.le_trans hk K3q.1
  clear X1 e1 W1 N1 Z1 Kp1 X2 e2 W2 N2 Z2 Kp2
  refine own_is X3 hy d12_14 (l' := #[.val (.ref g), .val (.int (own_P oN 0)), .val (.int 0), .unset, .unset]) rfl ?_
  refine own_il X3 hy d12_15 rfl ?_
  refine own_zy X3 hy d12_16 172 ((if0 _ _).trans (teq (by decide : ((0 : Int32) = (0 : Int32)))).1) ?_
  refine own_il X3 hy d12_172 rfl ?_
  refine own_zy X3 hy d12_173 180 ((if0 _ _).trans (teq (by decide : ((0 : Int32) = (0 : Int32)))).1) ?_
  refine own_al X3 hy d12_180 rfl rfl ?_
  refine own_gf X3 hy hZ hown (host := "") (Or.inl (own_w hw 78 rfl)) Via.refl rfl Fa3 d12_181 fun T13 X13 e13 => ?_
  exact own_rIC X13 hy hS hk hrt hlk d12_184 hZ hw hIn e13 ⟨N3, Kp3, Or.inr ⟨by omega, rfl⟩⟩
abbrev C8 : ByteArray := method_3_code
theorem d8_0 : decode C8 0 = .ok (.bipush 48, 2) := by decide +kernel
theorem d8_2 : decode C8 2 = .ok (.iload_n 0, 1) := by decide +kernel
theorem d8_3 : decode C8 3 = .ok (.sipush 255, 3) := by decide +kernel
theorem d8_6 : decode C8 6 = .ok (.iand, 1) := by decide +kernel
theorem d8_7 : decode C8 7 = .ok (.bipush 10, 2) := by decide +kernel
theorem d8_9 : decode C8 9 = .ok (.irem, 1) := by decide +kernel
theorem d8_10 : decode C8 10 = .ok (.iadd, 1) := by decide +kernel
theorem d8_11 : decode C8 11 = .ok (.i2c, 1) := by decide +kernel
theorem d8_12 : decode C8 12 = .ok (.ireturn, 1) := by decide +kernel
theorem own_pn8 : plainName "dev/parlance/JsonGrammarBreaksAtPinLaw" = true := by first | (simp [plainName, overriddenIn]; done) | decide +kernel
theorem own_ef8 (m : MethodId) (x0 : Int32) : entryFrame m #[(.int x0)] 1 = mkF m 0 #[.val (.int x0)] [] := by first | (simp [entryFrame, mkF, argsToLocals, Value.category]; done) | rfl
def QrmDt (Z : State)  (h0 : Heap) (n0 : Nat) (v : Option Value) (h : Heap) (L : List Loc) : Prop := ∃ r : Int32, v = some (.int r) ∧ own_dg r = 1 ∧ Fr n0 L ∧ h = h0
theorem rmDt (hw : own_HW Z a0) (qx : Int32) (Z0 : n0 ≤ h0.size) :
  own_MF l "dev/parlance/JsonGrammarBreaksAtPinLaw" "digit" "(I)C" method_3_code 1 (some .char) ⟨0, 0, 0, 0⟩ #[(.int qx)] Z h0 (QrmDt Z  h0 n0) := by
 refine own_fst (plainFor_of_name own_pn8) (own_ef8 · qx) fun p e s m below meth c s₁ hy hml hZ hown hnm hrt hlk X0 e0 => ?_
 have N0 := Fr.nil n0
 refine own_bp X0 hy d8_0 ?_
 refine own_il X0 hy d8_2 rfl ?_
 refine own_sp X0 hy d8_3 ?_
 refine own_an X0 hy d8_6 ?_
 refine own_bp X0 hy d8_7 ?_
 refine own_rm X0 hy d8_9 (by decide) ?_
 refine own_ad X0 hy d8_10 ?_
 refine own_cc X0 hy d8_11 ?_
 obtain ⟨fs, hrr, hrun, hended, hW, hsame⟩ := X0.leave (v := some (.int (nar .char (((48 : Int32) + ((qx &&& (255 : Int32)) % (10 : Int32))).toUInt32.toUInt16.toUInt32.toInt32)))) (fun h => by rw [hrt] at h; cases h)
 refine ⟨_, _, ?_, hrun, hended, _, _, rfl, ?_, ⟨_, rfl⟩, hW, hsame.mono (by decide) (by decide)⟩
 ·
  show Steps p.tables e below (s₁.setTop (mkF m 12 #[.val (.int qx)] [(.int (((48 : Int32) + ((qx &&& (255 : Int32)) % (10 : Int32))).toUInt32.toUInt16.toUInt32.toInt32))])) _
  exact retN X0 hy.1 (t := .char) hrt (by simp) (hb hy.2 d8_12) hrr
 ·
  show QrmDt Z  h0 n0 _ s₁.heap _
  rw [e0]
  exact ⟨_, rfl, own_dig qx, N0, rfl⟩
abbrev C7 : ByteArray := method_4_code
theorem d7_0 : decode C7 0 = .ok (.ldc 45, 2) := by decide +kernel
theorem d7_2 : decode C7 2 = .ok (.iload_n 0, 1) := by decide +kernel
theorem d7_3 : decode C7 3 = .ok (.iconst 3, 1) := by decide +kernel
theorem d7_4 : decode C7 4 = .ok (.iand, 1) := by decide +kernel
theorem d7_5 : decode C7 5 = .ok (.invokevirtual 11, 3) := by decide +kernel
theorem d7_8 : decode C7 8 = .ok (.ireturn, 1) := by decide +kernel
theorem own_pn7 : plainName "dev/parlance/JsonGrammarBreaksAtPinLaw" = true := by first | (simp [plainName, overriddenIn]; done) | decide +kernel
theorem own_ef7 (m : MethodId) (x0 : Int32) : entryFrame m #[(.int x0)] 1 = mkF m 0 #[.val (.int x0)] [] := by first | (simp [entryFrame, mkF, argsToLocals, Value.category]; done) | rfl
def QrmWs (Z : State)  (h0 : Heap) (n0 : Nat) (v : Option Value) (h : Heap) (L : List Loc) : Prop := ∃ r : Int32, v = some (.int r) ∧ own_ws r ∧ Fr n0 L ∧ Keep h0 h []
theorem rmWs (hw : own_HW Z a0) (qx : Int32) (Z0 : n0 ≤ h0.size) (hcs : ¬ (cs = (0 : Int32))) (S_cs : Sta Z h0 "java/lang/String" "COMPACT_STRINGS" "Z" (.int cs)) (S_fm : Sta Z h0 "jdk/internal/util/Preconditions" "SIOOBE_FORMATTER" "Ljava/util/function/BiFunction;" fm) (rfm : fm.isRef = true) :
  own_MC l "dev/parlance/JsonGrammarBreaksAtPinLaw" "ws" "(I)C" method_4_code 1 (some .char) ⟨4, 2, 20, 53⟩ #[(.int qx)] Z h0 (QrmWs Z  h0 n0) := by
 refine own_fsC (plainFor_of_name own_pn7) (own_ef7 · qx) fun p e s m below meth c s₁ hy hml hZ hown hnm hrt hlk X0 e0 hS hk hIn => ?_
 have N0 := Fr.nil n0
 have Kp0 : Keep h0 h0 [] := Keep.refl h0 _
 obtain ⟨y, hv, hws, hr, hr2, hj0, hj1⟩ := own_ws4 qx
 obtain ⟨b1, T1, h1, ks1, t1, kc1, X1, e1, E1, hS, hkq, hZ, hown, Ex_b1, Fc_b1, Fv_b1, Av_t1, -, -, hCr1, -, -, st1⟩ := ldcCH (EL := consts_1) X0 hy.1 hZ hown (own_w hw 45 rfl) (own_wS hw) e0 hS hk (own_EW hw) (List.mem_of_getElem? (i := 6) rfl) hIn (vs := [(.int 32), (.int 9), (.int 10), (.int 13)]) (z := (4 : Int32)) ⟨by decide +kernel, by decide +kernel⟩ (by decide) (by decide +kernel) (g := (mkF m 0 #[.val (.int qx)] [])) rfl (hb hy.2 d7_0) (n := 16) (by decide +kernel) (by decide) (by decide) (by decide)
 replace S_cs := S_cs.ext E1
 replace S_fm := S_fm.ext E1
 have Z1 := Nat.le_trans Z0 E1.1
 have Kp1 := Kp0.ext E1
 replace hk := Nat.le_trans hk E1.1
 replace hk := hkq
 have hIn : own_In Z T1.vm h1 := hCr1.1
 refine own_go (A := T1.setTop (mkF m 2 #[.val (.int qx)] [(.ref b1)])) (fun _ kz => st1 _ kz) ?_
 refine own_il X1 hy d7_2 rfl ?_
 refine own_ic X1 hy d7_3 ?_
 refine own_an X1 hy d7_4 ?_
 refine own_cvg X1 hy hZ hown (own_y26 hw) (rmCA hw (qx &&& (3 : Int32)) y y Z1 Ex_b1 Fv_b1 Fc_b1 Av_t1 hj0 hj1 hv hr hr2 hcs S_cs S_fm rfm) e1 Ex_b1 (S := []) rfl d7_5 own_pd10 hml fun v2 T2 L2 X2 hQ2 => ?_
 obtain ⟨rfl, N2q, e2⟩ := hQ2
 have N2 := Fr.app N0 N2q
 obtain ⟨fs, hrr, hrun, hended, rW1, rW2, rW3, rW4⟩ := X2.leaveW hS (by rw [e2]; exact hk) (v := some (.int (nar .char y))) (fun h => by rw [hrt] at h; cases h)
 refine ⟨_, _, ?_, hrun, hended, _, _, rfl, ?_, rW1, rW2, rW3, rW4.mono (by decide) (by decide)⟩
 ·
  show Steps p.tables e below (T2.setTop (mkF m 8 #[.val (.int qx)] [(.int y)])) _
  exact retN X2 hy.1 (t := .char) hrt (by simp) (hb hy.2 d7_8) hrr
 ·
  refine ⟨?_, (show own_In Z T2.vm T2.heap from by rw [e2]; exact own_In.warm hZ (own_EW hw) hIn X2.warmed)⟩
  show QrmWs Z  h0 n0 _ T2.heap _
  rw [e2]
  exact ⟨_, rfl, by rw [hr2]; exact hws, N2, Kp1⟩
abbrev C6 : ByteArray := method_5_code
theorem d6_0 : decode C6 0 = .ok (.ldc 47, 2) := by decide +kernel
theorem d6_2 : decode C6 2 = .ok (.iload_n 0, 1) := by decide +kernel
theorem d6_3 : decode C6 3 = .ok (.sipush 255, 3) := by decide +kernel
theorem d6_6 : decode C6 6 = .ok (.iand, 1) := by decide +kernel
theorem d6_7 : decode C6 7 = .ok (.bipush 22, 2) := by decide +kernel
theorem d6_9 : decode C6 9 = .ok (.irem, 1) := by decide +kernel
theorem d6_10 : decode C6 10 = .ok (.invokevirtual 11, 3) := by decide +kernel
theorem d6_13 : decode C6 13 = .ok (.istore_n 1, 1) := by decide +kernel
theorem d6_14 : decode C6 14 = .ok (.iload_n 0, 1) := by decide +kernel
theorem d6_15 : decode C6 15 = .ok (.ldc 49, 2) := by decide +kernel
theorem d6_17 : decode C6 17 = .ok (.iand, 1) := by decide +kernel
theorem d6_18 : decode C6 18 = .ok (.iload_n 1, 1) := by decide +kernel
theorem d6_19 : decode C6 19 = .ok (.ior, 1) := by decide +kernel
theorem d6_20 : decode C6 20 = .ok (.i2c, 1) := by decide +kernel
theorem d6_21 : decode C6 21 = .ok (.ireturn, 1) := by decide +kernel
theorem own_pn6 : plainName "dev/parlance/JsonGrammarBreaksAtPinLaw" = true := by first | (simp [plainName, overriddenIn]; done) | decide +kernel
theorem own_ef6 (m : MethodId) (x0 : Int32) : entryFrame m #[(.int x0)] 2 = mkF m 0 #[.val (.int x0), .unset] [] := by first | (simp [entryFrame, mkF, argsToLocals, Value.category]; done) | rfl
def QrmHc (Z : State)  (h0 : Heap) (n0 : Nat) (v : Option Value) (h : Heap) (L : List Loc) : Prop := ∃ r : Int32, v = some (.int r) ∧ own_hx r = 1 ∧ Fr n0 L ∧ Keep h0 h []
theorem rmHc (hw : own_HW Z a0) (qx : Int32) (Z0 : n0 ≤ h0.size) (hcs : ¬ (cs = (0 : Int32))) (S_cs : Sta Z h0 "java/lang/String" "COMPACT_STRINGS" "Z" (.int cs)) (S_fm : Sta Z h0 "jdk/internal/util/Preconditions" "SIOOBE_FORMATTER" "Ljava/util/function/BiFunction;" fm) (rfm : fm.isRef = true) :
  own_MC l "dev/parlance/JsonGrammarBreaksAtPinLaw" "hexChar" "(I)C" method_5_code 2 (some .char) ⟨4, 2, 92, 53⟩ #[(.int qx)] Z h0 (QrmHc Z  h0 n0) := by
 refine own_fsC (plainFor_of_name own_pn6) (own_ef6 · qx) fun p e s m below meth c s₁ hy hml hZ hown hnm hrt hlk X0 e0 hS hk hIn => ?_
 have N0 := Fr.nil n0
 have Kp0 : Keep h0 h0 [] := Keep.refl h0 _
 obtain ⟨y, hv, hmem, hr, hr2, hj0, hj1⟩ := own_hx22 qx
 obtain ⟨b1, T1, h1, ks1, t1, kc1, X1, e1, E1, hS, hkq, hZ, hown, Ex_b1, Fc_b1, Fv_b1, Av_t1, -, -, hCr1, -, -, st1⟩ := ldcCH (EL := consts_1) X0 hy.1 hZ hown (own_w hw 40 rfl) (own_wS hw) e0 hS hk (own_EW hw) (List.mem_of_getElem? (i := 7) rfl) hIn (vs := [(.int 48), (.int 49), (.int 50), (.int 51), (.int 52), (.int 53), (.int 54), (.int 55), (.int 56), (.int 57), (.int 97), (.int 98), (.int 99), (.int 100), (.int 101), (.int 102), (.int 65), (.int 66), (.int 67), (.int 68), (.int 69), (.int 70)]) (z := (22 : Int32)) ⟨by decide +kernel, by decide +kernel⟩ (by decide) (by decide +kernel) (g := (mkF m 0 #[.val (.int qx), .unset] [])) rfl (hb hy.2 d6_0) (n := 88) (by decide +kernel) (by decide) (by decide) (by decide)
 replace S_cs := S_cs.ext E1
 replace S_fm := S_fm.ext E1
 have Z1 := Nat.le_trans Z0 E1.1
 have Kp1 := Kp0.ext E1
 replace hk := Nat.le_trans hk E1.1
 replace hk := hkq
 have hIn : own_In Z T1.vm h1 := hCr1.1
 refine own_go (A := T1.setTop (mkF m 2 #[.val (.int qx), .unset] [(.ref b1)])) (fun _ kz => st1 _ kz) ?_
 refine own_il X1 hy d6_2 rfl ?_
 refine own_sp X1 hy d6_3 ?_
 refine own_an X1 hy d6_6 ?_
 refine own_bp X1 hy d6_7 ?_
 refine own_rm X1 hy d6_9 (by decide) ?_
 refine own_cvg X1 hy hZ hown (own_y26 hw) (rmCA hw ((qx &&& (255 : Int32)) % (22 : Int32)) y y Z1 Ex_b1 Fv_b1 Fc_b1 Av_t1 hj0 hj1 hv hr hr2 hcs S_cs S_fm rfm) e1 Ex_b1 (S := []) rfl d6_10 own_pd10 hml fun v2 T2 L2 X2 hQ2 => ?_
 obtain ⟨rfl, N2q, e2⟩ := hQ2
 have N2 := Fr.app N0 N2q
 refine own_is X2 hy d6_13 (l' := #[.val (.int qx), .val (.int y)]) rfl ?_
 refine own_il X2 hy d6_14 rfl ?_
 refine own_go (fun _ kz => X2.ldcInt hy.1 hown (mvT hZ (own_w hw 41 rfl)) (g := (mkF m 15 #[.val (.int qx), .val (.int y)] [(.int qx)])) rfl (hb hy.2 d6_15) _ kz) ?_
 refine own_go (A := T2.setTop (mkF m 17 #[.val (.int qx), .val (.int y)] [(.int 65280), (.int qx)])) (fun _ kz => kz) ?_
 refine own_an X2 hy d6_17 ?_
 refine own_il X2 hy d6_18 rfl ?_
 refine own_go (fun _ kz => XS.ior X2.here hy.1 rfl (hb hy.2 d6_19) rfl kz) ?_
 refine own_go (A := T2.setTop (mkF m 20 #[.val (.int qx), .val (.int y)] [(.int ((qx &&& (65280 : Int32)) ||| y))])) (fun _ kz => kz) ?_
 refine own_cc X2 hy d6_20 ?_
 obtain ⟨fs, hrr, hrun, hended, rW1, rW2, rW3, rW4⟩ := X2.leaveW hS (by rw [e2]; exact hk) (v := some (.int (nar .char (((qx &&& (65280 : Int32)) ||| y).toUInt32.toUInt16.toUInt32.toInt32)))) (fun h => by rw [hrt] at h; cases h)
 refine ⟨_, _, ?_, hrun, hended, _, _, rfl, ?_, rW1, rW2, rW3, rW4.mono (by decide) (by decide)⟩
 ·
  show Steps p.tables e below (T2.setTop (mkF m 21 #[.val (.int qx), .val (.int y)] [(.int (((qx &&& (65280 : Int32)) ||| y).toUInt32.toUInt16.toUInt32.toInt32))])) _
  exact retN X2 hy.1 (t := .char) hrt (by simp) (hb hy.2 d6_21) hrr
 ·
  refine ⟨?_, (show own_In Z T2.vm T2.heap from by rw [e2]; exact own_In.warm hZ (own_EW hw) hIn X2.warmed)⟩
  show QrmHc Z  h0 n0 _ T2.heap _
  rw [e2]
  exact ⟨_, rfl, own_hxc qx y hmem, N2, Kp1⟩
abbrev C10 : ByteArray := prog_6_method_1_code
theorem d10_0 : decode C10 0 = .ok (.aload_n 0, 1) := by decide +kernel
theorem d10_1 : decode C10 1 = .ok (.invokespecial 1, 3) := by decide +kernel
theorem d10_4 : decode C10 4 = .ok (.aload_n 0, 1) := by decide +kernel
theorem d10_5 : decode C10 5 = .ok (.bipush 16, 2) := by decide +kernel
theorem d10_7 : decode C10 7 = .ok (.newarray .boolean, 2) := by decide +kernel
theorem d10_9 : decode C10 9 = .ok (.putfield 7, 3) := by decide +kernel
theorem d10_12 : decode C10 12 = .ok (.aload_n 0, 1) := by decide +kernel
theorem d10_13 : decode C10 13 = .ok (.aload_n 1, 1) := by decide +kernel
theorem d10_14 : decode C10 14 = .ok (.putfield 13, 3) := by decide +kernel
theorem d10_17 : decode C10 17 = .ok (.aload_n 0, 1) := by decide +kernel
theorem d10_18 : decode C10 18 = .ok (.iload_n 2, 1) := by decide +kernel
theorem d10_19 : decode C10 19 = .ok (.putfield 17, 3) := by decide +kernel
theorem d10_22 : decode C10 22 = .ok (.aload_n 0, 1) := by decide +kernel
theorem d10_23 : decode C10 23 = .ok (.iload_n 3, 1) := by decide +kernel
theorem d10_24 : decode C10 24 = .ok (.putfield 21, 3) := by decide +kernel
theorem d10_27 : decode C10 27 = .ok (.return_, 1) := by decide +kernel
theorem own_pn10 : plainName "dev/parlance/JsonGrammar" = true := by first | (simp [plainName, overriddenIn]; done) | decide +kernel
theorem own_ef10 (m : MethodId) (x0 : Addr) (x1 : Addr) (x2 : Int32) (x3 : Int32) : entryFrame m #[(.ref x0), (.ref x1), (.int x2), (.int x3)] 4 = mkF m 0 #[.val (.ref x0), .val (.ref x1), .val (.int x2), .val (.int x3)] [] := by first | (simp [entryFrame, mkF, argsToLocals, Value.category]; done) | rfl
def QrmGi (Z : State) (g : Addr) (ct : Addr) (ee : Int32) (md : Int32) (h0 : Heap) (n0 : Nat) (v : Option Value) (h : Heap) (L : List Loc) : Prop := ∃ (ob : Addr) (ko : ClassId), v = none ∧ Fr n0 L ∧ Keep h0 h [g] ∧ h0.size ≤ ob ∧ own_G Z h g ct ob ee md (0 : Int32) (0 : Int32) (0 : Int32) ∧ Arv Z h ob ko .boolean (16 : Int32) [(.int 0), (.int 0), (.int 0), (.int 0), (.int 0), (.int 0), (.int 0), (.int 0), (.int 0), (.int 0), (.int 0), (.int 0), (.int 0), (.int 0), (.int 0), (.int 0)] (.int 0)
theorem rmGi (hw : own_HW Z a0) (ee : Int32) (Z0 : n0 ≤ h0.size) (Eg : Exa Z h0 g "dev/parlance/JsonGrammar") (g_g : n0 ≤ g) (F_text : Fld Z h0 g "dev/parlance/JsonGrammar" "text" "[C" .null) (F_end : Fld Z h0 g "dev/parlance/JsonGrammar" "end" "I" (.int 0)) (F_maxDepth : Fld Z h0 g "dev/parlance/JsonGrammar" "maxDepth" "I" (.int 0)) (F_objects : Fld Z h0 g "dev/parlance/JsonGrammar" "objects" "[Z" .null) (F_depth : Fld Z h0 g "dev/parlance/JsonGrammar" "depth" "I" (.int 0)) (F_opened : Fld Z h0 g "dev/parlance/JsonGrammar" "opened" "Z" (.int 0)) (F_at : Fld Z h0 g "dev/parlance/JsonGrammar" "at" "I" (.int 0)) :
  own_MF l "dev/parlance/JsonGrammar" "<init>" "([CII)V" prog_6_method_1_code 4 none ⟨1, 1, 16, 12⟩ #[(.ref g), (.ref ct), (.int ee), (.int md)] Z h0 (QrmGi Z g ct ee md h0 n0) := by
 refine own_fst (plainFor_of_name own_pn10) (own_ef10 · g ct ee md) fun p e s m below meth c s₁ hy hml hZ hown hnm hrt hlk X0 e0 => ?_
 have N0 := Fr.nil n0
 have Kp0 : Keep h0 h0 [g] := Keep.refl h0 _
 refine own_al X0 hy d10_0 rfl rfl ?_
 obtain ⟨T1, X1, e1, st1⟩ := initO X0 hy.1 hZ hown (own_w hw 59 rfl) (own_w hw 60 rfl) (own_w hw 61 rfl) e0 (g := (mkF m 1 #[.val (.ref g), .val (.ref ct), .val (.int ee), .val (.int md)] [(.ref g)])) rfl (by rw [hml]; rfl) rfl (hb hy.2 d10_1) (by decide) (W := 0) (by show 2 * 0 + _ ≤ _; exact Nat.le_of_eq rfl) (by decide)
 refine own_go (A := T1.setTop (mkF m 4 #[.val (.ref g), .val (.ref ct), .val (.int ee), .val (.int md)] [])) (fun _ kz => st1 _ kz) ?_
 refine own_al X1 hy d10_4 rfl rfl ?_
 refine own_bp X1 hy d10_5 ?_
 obtain ⟨T2, h2, k2, X2, e2, E2, A2, st2⟩ := newP X1 hy.1 hZ (own_w hw 62 rfl) e1 (g := (mkF m 7 #[.val (.ref g), .val (.ref ct), .val (.int ee), .val (.int md)] [(.int 16), (.ref g)])) rfl (hb hy.2 d10_7) rfl (by decide) (cap := 16) (by decide) (by decide) (by decide) (by decide)
 obtain ⟨b2, gq2⟩ : ∃ z, z = h0.size := ⟨_, rfl⟩
 rw [← gq2] at A2 st2
 have g_b2 : n0 ≤ b2 := Nat.le_trans Z0 (Nat.le_of_eq gq2.symm)
 have ne_g_b2 : g ≠ b2 := Nat.ne_of_lt (Nat.lt_of_lt_of_le Eg.lt (Nat.le_of_eq gq2.symm))
 have szk_b2 : h0.size ≤ b2 := Nat.le_trans Kp0.1 (Nat.le_of_eq gq2.symm)
 replace Eg := Eg.ext E2
 replace F_text := F_text.ext E2
 replace F_end := F_end.ext E2
 replace F_maxDepth := F_maxDepth.ext E2
 replace F_objects := F_objects.ext E2
 replace F_depth := F_depth.ext E2
 replace F_opened := F_opened.ext E2
 replace F_at := F_at.ext E2
 have Z2 := Nat.le_trans Z0 E2.1
 have Kp2 := Kp0.ext E2
 have Av_b2 : Arv Z h2 b2 k2 .boolean (16 : Int32) [(.int 0), (.int 0), (.int 0), (.int 0), (.int 0), (.int 0), (.int 0), (.int 0), (.int 0), (.int 0), (.int 0), (.int 0), (.int 0), (.int 0), (.int 0), (.int 0)] (.int 0) := (Arv.new A2 (by decide)).pad (pad_rep [] (.int 0) 16)
 refine own_go (A := T2.setTop (mkF m 9 #[.val (.ref g), .val (.ref ct), .val (.int ee), .val (.int md)] [(.ref b2), (.ref g)])) (fun _ kz => st2 _ kz) ?_
 refine own_pf X2 hy hZ hown (host := "") (Or.inl (own_w hw 63 rfl)) Via.refl e2 F_objects Eg (Or.inl (own_w hw 64 rfl)) (own_w hw 54 rfl) (ty := (.array .boolean)) (by decide) rfl rfl d10_9 fun T3 h3 X3 e3 W3 => ?_
 have Fw3 := F_objects.same W3
 replace Eg := Eg.wr W3
 replace F_text := F_text.other W3 (Or.inr (slot_ne (Or.inr (own_w hw 66 rfl)) (Or.inl (own_w hw 64 rfl)) (by decide) (t := (.array .char)) (t' := (.array .boolean)) (by decide) (by decide)))
 replace F_end := F_end.other W3 (Or.inr (slot_ne (Or.inr (own_w hw 68 rfl)) (Or.inl (own_w hw 64 rfl)) (by decide) (t := .int) (t' := (.array .boolean)) (by decide) (by decide)))
 replace F_maxDepth := F_maxDepth.other W3 (Or.inr (slot_ne (Or.inr (own_w hw 70 rfl)) (Or.inl (own_w hw 64 rfl)) (by decide) (t := .int) (t' := (.array .boolean)) (by decide) (by decide)))
 replace F_depth := F_depth.other W3 (Or.inr (slot_ne (Or.inl (own_w hw 77 rfl)) (Or.inl (own_w hw 64 rfl)) (by decide) (t := .int) (t' := (.array .boolean)) (by decide) (by decide)))
 replace F_opened := F_opened.other W3 (Or.inr (slot_ne (Or.inl (own_w hw 96 rfl)) (Or.inl (own_w hw 64 rfl)) (by decide) (t := .boolean) (t' := (.array .boolean)) (by decide) (by decide)))
 replace F_at := F_at.other W3 (Or.inr (slot_ne (Or.inl (own_w hw 79 rfl)) (Or.inl (own_w hw 64 rfl)) (by decide) (t := .int) (t' := (.array .boolean)) (by decide) (by decide)))
 replace Av_b2 := Av_b2.other W3 (Ne.symm ne_g_b2)
 have Z3 := own_zw Z2 W3
 have Kp3 := Kp2.wr W3 own_m0
 have F_objects_g := Fw3
 have N3 := Fr.snoc X3 N0 g_g
 clear X1 st1 e1 X2 st2 e2 W3 Fw3
 refine own_al X3 hy d10_12 rfl rfl ?_
 refine own_al X3 hy d10_13 rfl rfl ?_
 refine own_pf X3 hy hZ hown (host := "") (Or.inl (own_w hw 65 rfl)) Via.refl e3 F_text Eg (Or.inr ⟨(own_w hw 66 rfl), rfl, hnm⟩) (own_w hw 54 rfl) (ty := (.array .char)) (by decide) rfl rfl d10_14 fun T4 h4 X4 e4 W4 => ?_
 have Fw4 := F_text.same W4
 replace Eg := Eg.wr W4
 replace F_end := F_end.other W4 (Or.inr (slot_ne (Or.inr (own_w hw 68 rfl)) (Or.inr (own_w hw 66 rfl)) (by decide) (t := .int) (t' := (.array .char)) (by decide) (by decide)))
 replace F_maxDepth := F_maxDepth.other W4 (Or.inr (slot_ne (Or.inr (own_w hw 70 rfl)) (Or.inr (own_w hw 66 rfl)) (by decide) (t := .int) (t' := (.array .char)) (by decide) (by decide)))
 replace F_objects_g := F_objects_g.other W4 (Or.inr (slot_ne (Or.inl (own_w hw 64 rfl)) (Or.inr (own_w hw 66 rfl)) (by decide) (t := (.array .boolean)) (t' := (.array .char)) (by decide) (by decide)))
 replace F_depth := F_depth.other W4 (Or.inr (slot_ne (Or.inl (own_w hw 77 rfl)) (Or.inr (own_w hw 66 rfl)) (by decide) (t := .int) (t' := (.array .char)) (by decide) (by decide)))
 replace F_opened := F_opened.other W4 (Or.inr (slot_ne (Or.inl (own_w hw 96 rfl)) (Or.inr (own_w hw 66 rfl)) (by decide) (t := .boolean) (t' := (.array .char)) (by decide) (by decide)))
 replace F_at := F_at.other W4 (Or.inr (slot_ne (Or.inl (own_w hw 79 rfl)) (Or.inr (own_w hw 66 rfl)) (by decide) (t := .int) (t' := (.array .char)) (by decide) (by decide)))
 replace Av_b2 := Av_b2.other W4 (Ne.symm ne_g_b2)
 have Z4 := own_zw Z3 W4
 have Kp4 := Kp3.wr W4 own_m0
 have F_text_g := Fw4
 have N4 := Fr.snoc X4 N3 g_g
 refine own_al X4 hy d10_17 rfl rfl ?_
 refine own_il X4 hy d10_18 rfl ?_
 refine own_pf X4 hy hZ hown (host := "") (Or.inl (own_w hw 67 rfl)) Via.refl e4 F_end Eg (Or.inr ⟨(own_w hw 68 rfl), rfl, hnm⟩) (own_w hw 54 rfl) (ty := .int) (by decide) rfl rfl d10_19 fun T5 h5 X5 e5 W5 => ?_
 have Fw5 := F_end.same W5
 replace Eg := Eg.wr W5
 replace F_text_g := F_text_g.other W5 (Or.inr (slot_ne (Or.inr (own_w hw 66 rfl)) (Or.inr (own_w hw 68 rfl)) (by decide) (t := (.array .char)) (t' := .int) (by decide) (by decide)))
 replace F_maxDepth := F_maxDepth.other W5 (Or.inr (slot_ne (Or.inr (own_w hw 70 rfl)) (Or.inr (own_w hw 68 rfl)) (by decide) (t := .int) (t' := .int) (by decide) (by decide)))
 replace F_objects_g := F_objects_g.other W5 (Or.inr (slot_ne (Or.inl (own_w hw 64 rfl)) (Or.inr (own_w hw 68 rfl)) (by decide) (t := (.array .boolean)) (t' := .int) (by decide) (by decide)))
 replace F_depth := F_depth.other W5 (Or.inr (slot_ne (Or.inl (own_w hw 77 rfl)) (Or.inr (own_w hw 68 rfl)) (by decide) (t := .int) (t' := .int) (by decide) (by decide)))
 replace F_opened := F_opened.other W5 (Or.inr (slot_ne (Or.inl (own_w hw 96 rfl)) (Or.inr (own_w hw 68 rfl)) (by decide) (t := .boolean) (t' := .int) (by decide) (by decide)))
 replace F_at := F_at.other W5 (Or.inr (slot_ne (Or.inl (own_w hw 79 rfl)) (Or.inr (own_w hw 68 rfl)) (by decide) (t := .int) (t' := .int) (by decide) (by decide)))
 replace Av_b2 := Av_b2.other W5 (Ne.symm ne_g_b2)
 have Z5 := own_zw Z4 W5
 have Kp5 := Kp4.wr W5 own_m0
 have F_end_g := Fw5
 have N5 := Fr.snoc X5 N4 g_g
 clear X3 e3 N3 Z3 Kp3 X4 e4 W4 Fw4 N4 Z4 Kp4 W5 Fw5
 refine own_al X5 hy d10_22 rfl rfl ?_
 refine own_il X5 hy d10_23 rfl ?_
 refine own_pf X5 hy hZ hown (host := "") (Or.inl (own_w hw 69 rfl)) Via.refl e5 F_maxDepth Eg (Or.inr ⟨(own_w hw 70 rfl), rfl, hnm⟩) (own_w hw 54 rfl) (ty := .int) (by decide) rfl rfl d10_24 fun T6 h6 X6 e6 W6 => ?_
 have Fw6 := F_maxDepth.same W6
 replace Eg := Eg.wr W6
 replace F_text_g := F_text_g.other W6 (Or.inr (slot_ne (Or.inr (own_w hw 66 rfl)) (Or.inr (own_w hw 70 rfl)) (by decide) (t := (.array .char)) (t' := .int) (by decide) (by decide)))
 replace F_end_g := F_end_g.other W6 (Or.inr (slot_ne (Or.inr (own_w hw 68 rfl)) (Or.inr (own_w hw 70 rfl)) (by decide) (t := .int) (t' := .int) (by decide) (by decide)))
 replace F_objects_g := F_objects_g.other W6 (Or.inr (slot_ne (Or.inl (own_w hw 64 rfl)) (Or.inr (own_w hw 70 rfl)) (by decide) (t := (.array .boolean)) (t' := .int) (by decide) (by decide)))
 replace F_depth := F_depth.other W6 (Or.inr (slot_ne (Or.inl (own_w hw 77 rfl)) (Or.inr (own_w hw 70 rfl)) (by decide) (t := .int) (t' := .int) (by decide) (by decide)))
 replace F_opened := F_opened.other W6 (Or.inr (slot_ne (Or.inl (own_w hw 96 rfl)) (Or.inr (own_w hw 70 rfl)) (by decide) (t := .boolean) (t' := .int) (by decide) (by decide)))
 replace F_at := F_at.other W6 (Or.inr (slot_ne (Or.inl (own_w hw 79 rfl)) (Or.inr (own_w hw 70 rfl)) (by decide) (t := .int) (t' := .int) (by decide) (by decide)))
 replace Av_b2 := Av_b2.other W6 (Ne.symm ne_g_b2)
 have Z6 := own_zw Z5 W6
 have Kp6 := Kp5.wr W6 own_m0
 have F_maxDepth_g := Fw6
 have N6 := Fr.snoc X6 N5 g_g
 exact own_rV X6 hy hrt hlk d10_27 e6 ⟨b2, k2, rfl, N6, Kp6, szk_b2, ⟨Eg, F_text_g, F_end_g, F_maxDepth_g, F_objects_g, F_depth, F_opened, F_at⟩, Av_b2⟩
def QrmMn (Z : State) (qa : Nat) (qb : Nat) (h0 : Heap) (n0 : Nat) (v : Option Value) (h : Heap) (L : List Loc) : Prop := v = some (.int (Int32.ofNat (min qa qb))) ∧ Fr n0 L ∧ h = h0
theorem rmMn (hw : own_HW Z a0) (qa qb : Nat) (Z0 : n0 ≤ h0.size) (ha : qa ≤ 60) (hb : qb ≤ 60) :
  own_MF l "java/lang/Math" "min" "(II)I" jdk_29_method_69_code 2 (some .int) ⟨0, 0, 0, 0⟩ #[(.int (Int32.ofNat qa)), (.int (Int32.ofNat qb))] Z h0 (QrmMn Z qa qb h0 n0) := by
 refine own_fst (Jvm.Free.JP.mathPlain rfl (by decide +kernel)) (own_ef9 · (Int32.ofNat qa) (Int32.ofNat qb)) fun p e s m below meth c s₁ hy hml hZ hown hnm hrt hlk X0 e0 => ?_
 have N0 := Fr.nil n0
 refine own_il X0 hy d9_0 rfl ?_
 refine own_il X0 hy d9_1 rfl ?_
 by_cases hs1 : (Int32.ofNat qb) < (Int32.ofNat qa)
 ·
  refine own_cy X0 hy d9_2 9 (tlt hs1).2.2.1 ?_
  refine own_il X0 hy d9_9 rfl ?_
  exact own_rI X0 hy hrt hlk d9_10 e0 ⟨congrArg (fun z => some (Value.int z)) (own_mnT ha hb hs1), N0, rfl⟩
 ·
  refine own_cn X0 hy d9_2 (flt hs1).2.2.1 ?_
  refine own_il X0 hy d9_5 rfl ?_
  refine own_gt X0 hy d9_6 10 ?_
  exact own_rI X0 hy hrt hlk d9_10 e0 ⟨congrArg (fun z => some (Value.int z)) (own_mnF ha hb hs1), N0, rfl⟩
theorem own_law3 {p1 p2 p3 p4 p6 jk : Int32} {p5 : Int64} {pp : Nat} (hw : own_HW Z a0) {p : Program} {e : Env} {s : State} {vm0 : Vm} {m : MethodId} {args : Array Value} {below : List Frame} {meth : Method} {c : Code} {T0 : State} {locs : List Loc} {k0 : Nat} {ta : Addr} (X0 : Stand p l e room_1 (s.setVm vm0) m args below meth c T0 locs 21 572) (hy : own_Y p c code) (hZ : Z.Warmed39 (s.setVm vm0).vm) (hown : (s.setVm vm0).vm.findClass "dev/parlance/JsonGrammarBreaksAtPinLaw" = some m.cls) (hml : c.maxLocals = 21) (hrt : meth.sig.returnType = some .boolean) (hlk : meth.locks = false) (hS : s.Since vm0 k0) (e0 : T0.heap = h0) (N0 : Fr n0 locs) (ho : oN ≤ 3) (hkk : kk ≤ 49) (hpp : pp ≤ 48) (hmd : ¬ md < 1 ∧ ¬ 4 < md) (hcs : ¬ cs = (0 : Int32)) (rfm : fm.isRef = true) {s13 b15 w16 : Int32} {sl17 : Slot} (F0 : own_B Z vm0 k0 h0 n0 ta cs fm oN tf 48) (hbad : own_bad pp (nar .char w16)) (hs17 : sl17 = .unset ∨ ∃ z, sl17 = .val (.int z)) : own_R p e below (own_PL Z s below n0) T0 m 870 #[.val (.int p1), .val (.int p2), .val (.int p3), .val (.int p4), .val (.long p5), .second, .val (.int p6), .val (.int (own_P oN 0)), .val (.int md), .val (.int (Int32.ofNat kk)), .val (.int (Int32.ofNat pp)), .val (.ref ta), .val (.int jk), .val (.int s13), .val (.int (cond tf 1 0)), .val (.int b15), .val (.int w16), sl17, .unset, .unset, .unset] [] := by
 refine own_aw X0 hy at_870 rfl rfl ?_
 refine own_iw X0 hy at_872 rfl ?_
 refine own_iw X0 hy at_874 rfl ?_
 refine own_ad X0 hy at_876 ?_
 refine own_iw X0 hy at_877 rfl ?_
 obtain ⟨kc, tx, Fa, Fb⟩ := F0
 refine own_st X0 hy hZ e0 N0 Fa at_879 (oN + pp) (by rw [own_Pb (i := pp) rfl]; exact own_Pn ho (by omega)) (by rw [own_Pb (i := pp) rfl]; exact own_Pin ho (by omega)) (by omega) fun T1 h1 N1L X1 e1 N1 F1 => ?_
 suffices k2 : ∀ db : Nat, own_db md db → own_R p e below (own_PL Z s below n0) T1 m 904 #[.val (.int p1), .val (.int p2), .val (.int p3), .val (.int p4), .val (.long p5), .second, .val (.int p6), .val (.int (own_P oN 0)), .val (.int md), .val (.int (Int32.ofNat kk)), .val (.int (Int32.ofNat pp)), .val (.ref ta), .val (.int jk), .val (.int s13), .val (.int (cond tf 1 0)), .val (.int b15), .val (.int w16), sl17, .unset, .unset, .unset] [(.int (Int32.ofNat db))] by
  refine own_iw X1 hy at_880 rfl ?_
  refine own_ic X1 hy at_882 ?_
  by_cases hs3 : md = (1 : Int32)
  ·
   refine own_cn X1 hy at_883 (teq hs3).2 ?_
   refine own_bp X1 hy at_886 ?_
   refine own_gt X1 hy at_888 904 ?_
   exact k2 14 (Or.inl ⟨hs3, rfl⟩)
  ·
   refine own_cy X1 hy at_883 891 (feq hs3).2 ?_
   refine own_iw X1 hy at_891 rfl ?_
   refine own_ic X1 hy at_893 ?_
   by_cases hs4 : md = (2 : Int32)
   ·
    refine own_cn X1 hy at_894 (teq hs4).2 ?_
    refine own_bp X1 hy at_897 ?_
    refine own_gt X1 hy at_899 904 ?_
    exact k2 30 (Or.inr (Or.inl ⟨hs4, rfl⟩))
   ·
    refine own_cy X1 hy at_894 902 (feq hs4).2 ?_
    refine own_bp X1 hy at_902 ?_
    exact k2 48 (Or.inr (Or.inr ⟨hs3, hs4, rfl⟩))
 intro db hdb
 suffices k5 : own_R p e below (own_PL Z s below n0) T1 m 906 #[.val (.int p1), .val (.int p2), .val (.int p3), .val (.int p4), .val (.long p5), .second, .val (.int p6), .val (.int (own_P oN 0)), .val (.int md), .val (.int (Int32.ofNat kk)), .val (.int (Int32.ofNat pp)), .val (.ref ta), .val (.int jk), .val (.int s13), .val (.int (cond tf 1 0)), .val (.int b15), .val (.int w16), .val (.int (Int32.ofNat db)), .unset, .unset, .unset] [] by
  rcases hs17 with rfl | ⟨_, rfl⟩ <;> exact own_it X1 hy at_904 rfl k5
 have hdl := own_dbl hdb
 refine own_iw X1 hy at_906 rfl ?_
 refine own_iw X1 hy at_908 rfl ?_
 refine own_iw X1 hy at_910 rfl ?_
 refine own_csg X1 hy hZ hown (own_y27 hw) (rmMn hw pp db F1.1 (by omega) (by omega)) e1 (S := [(.int (Int32.ofNat kk))]) rfl at_912 own_pd7 hml fun v6 T6 L6 X6 hQ6 => ?_
 obtain ⟨rfl, N6q, e6⟩ := hQ6
 have N6 := Fr.app N1 N6q
 refine own_csg X6 hy hZ hown (own_y27 hw) (rmMn hw kk (min pp db) F1.1 (by omega) (by omega)) e6 (S := []) rfl at_915 own_pd7 hml fun v7 T7 L7 X7 hQ7 => ?_
 obtain ⟨rfl, N7q, e7⟩ := hQ7
 have N7 := Fr.app N6 N7q
 refine own_it X7 hy at_918 (l' := #[.val (.int p1), .val (.int p2), .val (.int p3), .val (.int p4), .val (.long p5), .second, .val (.int p6), .val (.int (own_P oN 0)), .val (.int md), .val (.int (Int32.ofNat kk)), .val (.int (Int32.ofNat pp)), .val (.ref ta), .val (.int jk), .val (.int s13), .val (.int (cond tf 1 0)), .val (.int b15), .val (.int w16), .val (.int (Int32.ofNat db)), .val (.int (Int32.ofNat (min kk (min pp db)))), .unset, .unset]) rfl ?_
 suffices k8 : ∀ x19 : Int32, own_ex oN (min kk (min pp db)) x19 → own_R p e below (own_PL Z s below n0) T7 m 936 #[.val (.int p1), .val (.int p2), .val (.int p3), .val (.int p4), .val (.long p5), .second, .val (.int p6), .val (.int (own_P oN 0)), .val (.int md), .val (.int (Int32.ofNat kk)), .val (.int (Int32.ofNat pp)), .val (.ref ta), .val (.int jk), .val (.int s13), .val (.int (cond tf 1 0)), .val (.int b15), .val (.int w16), .val (.int (Int32.ofNat db)), .val (.int (Int32.ofNat (min kk (min pp db)))), .unset, .unset] [(.int x19)] by
  refine own_iw X7 hy at_920 rfl ?_
  refine own_bp X7 hy at_922 ?_
  by_cases hs9 : (Int32.ofNat (min kk (min pp db))) < (48 : Int32)
  ·
   refine own_cy X7 hy at_924 931 (tlt hs9).1 ?_
   refine own_iw X7 hy at_931 rfl ?_
   refine own_iw X7 hy at_933 rfl ?_
   refine own_ad X7 hy at_935 ?_
   exact k8 _ (Or.inr ⟨(own_ltn (n := (min kk (min pp db))) (k := 48) (by omega) (by decide)).mp hs9, own_Pb rfl⟩)
  ·
   refine own_cn X7 hy at_924 (flt hs9).1 ?_
   refine own_ic X7 hy at_927 ?_
   refine own_gt X7 hy at_928 936 ?_
   exact k8 _ (Or.inl ⟨Nat.le_of_not_lt fun z => hs9 ((own_ltn (n := (min kk (min pp db))) (k := 48) (by omega) (by decide)).mpr z), rfl⟩)
 intro x19 hx19
 refine own_it X7 hy at_936 (l' := #[.val (.int p1), .val (.int p2), .val (.int p3), .val (.int p4), .val (.long p5), .second, .val (.int p6), .val (.int (own_P oN 0)), .val (.int md), .val (.int (Int32.ofNat kk)), .val (.int (Int32.ofNat pp)), .val (.ref ta), .val (.int jk), .val (.int s13), .val (.int (cond tf 1 0)), .val (.int b15), .val (.int w16), .val (.int (Int32.ofNat db)), .val (.int (Int32.ofNat (min kk (min pp db)))), .val (.int x19), .unset]) rfl ?_
 obtain ⟨cc, hT, H⟩ := own_HB F1.2.2.2.2.2.2.1 Fb Fa.2.2.2.2.2.2.2 ho hpp hkk hbad hmd hdb
 obtain ⟨tx', etx⟩ : ∃ z, z = tx.set (oN + pp) (.int (nar .char w16)) := ⟨_, rfl⟩
 rw [← etx] at hT F1
 obtain ⟨Z0, hk, hIn, S_cs, S_fm, g_ta, At, hl⟩ := F1
 obtain ⟨T10, h10, X10, e10, E10, A10, D10, -, st10⟩ := newO X7 hy.1 hZ hown (own_w hw 53 rfl) (own_w hw 54 rfl) (own_w hw 55 rfl) e7 (g := (mkF m 938 #[.val (.int p1), .val (.int p2), .val (.int p3), .val (.int p4), .val (.long p5), .second, .val (.int p6), .val (.int (own_P oN 0)), .val (.int md), .val (.int (Int32.ofNat kk)), .val (.int (Int32.ofNat pp)), .val (.ref ta), .val (.int jk), .val (.int s13), .val (.int (cond tf 1 0)), .val (.int b15), .val (.int w16), .val (.int (Int32.ofNat db)), .val (.int (Int32.ofNat (min kk (min pp db)))), .val (.int x19), .unset] [])) rfl (hb hy.2 at_938) (by decide) (by decide)
 obtain ⟨b10, gq10⟩ : ∃ z, z = h1.size := ⟨_, rfl⟩
 rw [← gq10] at A10 D10 st10
 have g_b10 : n0 ≤ b10 := Nat.le_trans Z0 (Nat.le_of_eq gq10.symm)
 have ne_ta_b10 : ta ≠ b10 := Nat.ne_of_lt (Nat.lt_of_lt_of_le At.lt (Nat.le_of_eq gq10.symm))
 replace hIn := own_In.ext hIn E10
 replace S_cs := S_cs.ext E10
 replace S_fm := S_fm.ext E10
 replace At := At.ext E10
 have Z10 := Nat.le_trans Z0 E10.1
 replace hk := Nat.le_trans hk E10.1
 have Ex_b10 := A10
 have F_objects_b10 : Fld Z h10 b10 "dev/parlance/JsonGrammar" "objects" "[Z" .null := D10 (Or.inl (own_w hw 64 rfl)) (ty := (.array .boolean)) (by decide)
 have F_text_b10 : Fld Z h10 b10 "dev/parlance/JsonGrammar" "text" "[C" .null := D10 (Or.inr (own_w hw 66 rfl)) (ty := (.array .char)) (by decide)
 have F_end_b10 : Fld Z h10 b10 "dev/parlance/JsonGrammar" "end" "I" (.int 0) := D10 (Or.inr (own_w hw 68 rfl)) (ty := .int) (by decide)
 have F_maxDepth_b10 : Fld Z h10 b10 "dev/parlance/JsonGrammar" "maxDepth" "I" (.int 0) := D10 (Or.inr (own_w hw 70 rfl)) (ty := .int) (by decide)
 have F_depth_b10 : Fld Z h10 b10 "dev/parlance/JsonGrammar" "depth" "I" (.int 0) := D10 (Or.inl (own_w hw 77 rfl)) (ty := .int) (by decide)
 have F_at_b10 : Fld Z h10 b10 "dev/parlance/JsonGrammar" "at" "I" (.int 0) := D10 (Or.inl (own_w hw 79 rfl)) (ty := .int) (by decide)
 have F_opened_b10 : Fld Z h10 b10 "dev/parlance/JsonGrammar" "opened" "Z" (.int 0) := D10 (Or.inl (own_w hw 96 rfl)) (ty := .boolean) (by decide)
 refine own_go (A := T10.setTop (mkF m 941 #[.val (.int p1), .val (.int p2), .val (.int p3), .val (.int p4), .val (.long p5), .second, .val (.int p6), .val (.int (own_P oN 0)), .val (.int md), .val (.int (Int32.ofNat kk)), .val (.int (Int32.ofNat pp)), .val (.ref ta), .val (.int jk), .val (.int s13), .val (.int (cond tf 1 0)), .val (.int b15), .val (.int w16), .val (.int (Int32.ofNat db)), .val (.int (Int32.ofNat (min kk (min pp db)))), .val (.int x19), .unset] [(.ref b10)])) (fun _ kz => st10 _ kz) ?_
 clear N6 N6q X6 e6 N7q X7 e7 st10
 refine own_dp X10 hy at_941 rfl ?_
 refine own_aw X10 hy at_942 rfl rfl ?_
 refine own_iw X10 hy at_944 rfl ?_
 refine own_iw X10 hy at_946 rfl ?_
 refine own_ad X10 hy at_948 ?_
 refine own_iw X10 hy at_949 rfl ?_
 obtain ⟨_, _, ⟨T11, L11, k11, n11⟩, -, X11, ⟨Lc11, hQ11, l11, y11, z11⟩, st11⟩ := X10.specialBack hy.1 (y := (⟨"dev/parlance/JsonGrammar", "<init>", "([CII)V"⟩ : MethodName)) rfl hown (mvT hZ (own_w hw 56 rfl)) (mvT hZ (own_w hw 57 rfl)) (mvT hZ (own_w hw 58 rfl)) (by decide) (backOf (W := 1) (rmGi hw ((own_P oN 0) + (Int32.ofNat kk)) Z10 Ex_b10 g_b10 F_text_b10 F_end_b10 F_maxDepth_b10 F_objects_b10 F_depth_b10 F_opened_b10 F_at_b10) hZ (own_w hw 58 rfl) (own_w hw 55 rfl) (by decide) (by decide)) (g := (mkF m 951 #[.val (.int p1), .val (.int p2), .val (.int p3), .val (.int p4), .val (.long p5), .second, .val (.int p6), .val (.int (own_P oN 0)), .val (.int md), .val (.int (Int32.ofNat kk)), .val (.int (Int32.ofNat pp)), .val (.ref ta), .val (.int jk), .val (.int s13), .val (.int (cond tf 1 0)), .val (.int b15), .val (.int w16), .val (.int (Int32.ofNat db)), .val (.int (Int32.ofNat (min kk (min pp db)))), .val (.int x19), .unset] [(.int md), (.int ((own_P oN 0) + (Int32.ofNat kk))), (.ref ta), (.ref b10), (.ref b10)])) rfl (by rw [hml]; rfl) (Steps.refl _) (a := b10) (argsL := [(.ref ta), (.int ((own_P oN 0) + (Int32.ofNat kk))), (.int md)]) (rest := [(.ref b10)]) (lenOf own_pd15 rfl) rfl (by show 2 * 0 + _ ≤ _; exact Nat.le_of_eq rfl) (hb hy.2 at_951) (fun _ _ => ⟨rfl, e10, (by decide : 22 + 1 ≤ _), (by decide : 579 + 16 ≤ _)⟩)
 dsimp only [Pt.U, Pt.locs, Pt.cells, Pt.slots] at X11 l11 y11 z11 st11 hQ11
 subst l11 y11 z11
 obtain ⟨ob, ko, rfl, N11q, K11q, szo11, Gq11, Ao11⟩ := hQ11
 have N11 := Fr.app N7 N11q
 have ne_ta_ob : ta ≠ ob := Nat.ne_of_lt (Nat.lt_of_lt_of_le At.lt szo11)
 have ne_b10_ob : b10 ≠ ob := Nat.ne_of_lt (Nat.lt_of_lt_of_le Ex_b10.lt szo11)
 have g_ob : n0 ≤ ob := Nat.le_trans Z10 szo11
 replace hIn := own_In.keep hIn K11q (allS (own_sf hZ Ex_b10) all0)
 replace S_cs := own_staKeep S_cs K11q (allS (own_ns Ex_b10) all0)
 replace S_fm := own_staKeep S_fm K11q (allS (own_ns Ex_b10) all0)
 replace At := At.keep K11q (ninS ne_ta_b10 nin0)
 replace Ex_b10 := Ex_b10.keep K11q
 have Z11 := Nat.le_trans Z10 K11q.1
 replace hk := Nat.le_trans hk K11q.1
 refine own_go (A := T11.setTop (mkF m 954 #[.val (.int p1), .val (.int p2), .val (.int p3), .val (.int p4), .val (.long p5), .second, .val (.int p6), .val (.int (own_P oN 0)), .val (.int md), .val (.int (Int32.ofNat kk)), .val (.int (Int32.ofNat pp)), .val (.ref ta), .val (.int jk), .val (.int s13), .val (.int (cond tf 1 0)), .val (.int b15), .val (.int w16), .val (.int (Int32.ofNat db)), .val (.int (Int32.ofNat (min kk (min pp db)))), .val (.int x19), .unset] [(.ref b10)])) (fun _ kz => st11.trans kz) ?_
 refine own_ar X11 hy at_954 rfl (l' := #[.val (.int p1), .val (.int p2), .val (.int p3), .val (.int p4), .val (.long p5), .second, .val (.int p6), .val (.int (own_P oN 0)), .val (.int md), .val (.int (Int32.ofNat kk)), .val (.int (Int32.ofNat pp)), .val (.ref ta), .val (.int jk), .val (.int s13), .val (.int (cond tf 1 0)), .val (.int b15), .val (.int w16), .val (.int (Int32.ofNat db)), .val (.int (Int32.ofNat (min kk (min pp db)))), .val (.int x19), .val (.ref b10)]) rfl ?_
 refine own_aw X11 hy at_956 rfl rfl ?_
 refine own_iw X11 hy at_958 rfl ?_
 rw [own_Pb (i := kk) rfl] at Gq11
 refine own_cvgS X11 hy hZ hown hw hIn hS hk (own_y28 hw) (rmBk hw Z11 Gq11 g_b10 At hT H Ao11 g_ob hcs S_cs S_fm rfm) rfl Ex_b10 (S := []) rfl at_960 own_pd11 hml fun v12 T12 L12 X12 hQ12 hS hk hZ hown hIn => ?_
 obtain ⟨N12q, K12q, hD12⟩ := hQ12
 have N12 := Fr.app N11 N12q
 have ex12 : v12 = some (.int x19) := by
  rcases hD12 with ⟨a, b⟩ | ⟨a, b⟩ <;> rcases hx19 with ⟨u, v⟩ | ⟨u, v⟩ <;> first | omega | rw [b, v]
 subst ex12
 refine own_iw X12 hy at_963 rfl ?_
 refine own_cn X12 hy at_965 (teq rfl).2 ?_
 refine own_ic X12 hy at_968 ?_
 refine own_gt X12 hy at_969 973 ?_
 exact own_rTC X12 hy hS hk hrt hlk at_973 hZ hw hIn rfl ⟨rfl, N12⟩
theorem own_law2 {p1 p2 p3 p4 p6 jk : Int32} {p5 : Int64} {pp : Nat} (hw : own_HW Z a0) {p : Program} {e : Env} {s : State} {vm0 : Vm} {m : MethodId} {args : Array Value} {below : List Frame} {meth : Method} {c : Code} {T0 : State} {locs : List Loc} {k0 : Nat} {ta : Addr} (X0 : Stand p l e room_1 (s.setVm vm0) m args below meth c T0 locs 19 536) (hy : own_Y p c code) (hZ : Z.Warmed39 (s.setVm vm0).vm) (hown : (s.setVm vm0).vm.findClass "dev/parlance/JsonGrammarBreaksAtPinLaw" = some m.cls) (hml : c.maxLocals = 21) (hrt : meth.sig.returnType = some .boolean) (hlk : meth.locks = false) (hS : s.Since vm0 k0) (e0 : T0.heap = h0) (N0 : Fr n0 locs) (ho : oN ≤ 3) (hkk : kk ≤ 49) (hpp : pp ≤ 48) (hmd : ¬ md < 1 ∧ ¬ 4 < md) (hcs : ¬ cs = (0 : Int32)) (rfm : fm.isRef = true) {s13 : Int32} (F0 : own_B Z vm0 k0 h0 n0 ta cs fm oN tf 48) : own_R p e below (own_PL Z s below n0) T0 m 762 #[.val (.int p1), .val (.int p2), .val (.int p3), .val (.int p4), .val (.long p5), .second, .val (.int p6), .val (.int (own_P oN 0)), .val (.int md), .val (.int (Int32.ofNat kk)), .val (.int (Int32.ofNat pp)), .val (.ref ta), .val (.int jk), .val (.int s13), .val (.int (cond tf 1 0)), .unset, .unset, .unset, .unset, .unset, .unset] [] := by
 suffices k1 : ∀ b15 : Int32, (b15 = 1 ∨ (b15 = 0 ∧ own_inS pp = false)) → own_R p e below (own_PL Z s below n0) T0 m 799 #[.val (.int p1), .val (.int p2), .val (.int p3), .val (.int p4), .val (.long p5), .second, .val (.int p6), .val (.int (own_P oN 0)), .val (.int md), .val (.int (Int32.ofNat kk)), .val (.int (Int32.ofNat pp)), .val (.ref ta), .val (.int jk), .val (.int s13), .val (.int (cond tf 1 0)), .unset, .unset, .unset, .unset, .unset, .unset] [(.int b15)] by
  refine own_iw X0 hy at_762 rfl ?_
  refine own_ic X0 hy at_764 ?_
  by_cases hs2 : (Int32.ofNat pp) = (2 : Int32)
  ·
   refine own_cy X0 hy at_765 794 (teq hs2).1 ?_
   refine own_ic X0 hy at_794 ?_
   refine own_gt X0 hy at_795 799 ?_
   exact k1 _ (Or.inl rfl)
  ·
   refine own_cn X0 hy at_765 (feq hs2).1 ?_
   refine own_iw X0 hy at_768 rfl ?_
   refine own_ic X0 hy at_770 ?_
   by_cases hs3 : (Int32.ofNat pp) = (3 : Int32)
   ·
    refine own_cy X0 hy at_771 794 (teq hs3).1 ?_
    refine own_ic X0 hy at_794 ?_
    refine own_gt X0 hy at_795 799 ?_
    exact k1 _ (Or.inl rfl)
   ·
    refine own_cn X0 hy at_771 (feq hs3).1 ?_
    refine own_iw X0 hy at_774 rfl ?_
    refine own_ic X0 hy at_776 ?_
    by_cases hs4 : (Int32.ofNat pp) = (5 : Int32)
    ·
     refine own_cy X0 hy at_777 794 (teq hs4).1 ?_
     refine own_ic X0 hy at_794 ?_
     refine own_gt X0 hy at_795 799 ?_
     exact k1 _ (Or.inl rfl)
    ·
     refine own_cn X0 hy at_777 (feq hs4).1 ?_
     refine own_iw X0 hy at_780 rfl ?_
     refine own_bp X0 hy at_782 ?_
     by_cases hs5 : (Int32.ofNat pp) = (11 : Int32)
     ·
      refine own_cy X0 hy at_784 794 (teq hs5).1 ?_
      refine own_ic X0 hy at_794 ?_
      refine own_gt X0 hy at_795 799 ?_
      exact k1 _ (Or.inl rfl)
     ·
      refine own_cn X0 hy at_784 (feq hs5).1 ?_
      refine own_iw X0 hy at_787 rfl ?_
      refine own_bp X0 hy at_789 ?_
      by_cases hs6 : (Int32.ofNat pp) = (39 : Int32)
      ·
       refine own_cn X0 hy at_791 (teq hs6).2 ?_
       refine own_ic X0 hy at_794 ?_
       refine own_gt X0 hy at_795 799 ?_
       exact k1 _ (Or.inl rfl)
      ·
       refine own_cy X0 hy at_791 798 (feq hs6).2 ?_
       refine own_ic X0 hy at_798 ?_
       exact k1 _ (Or.inr ⟨rfl, own_nis hs2 hs3 hs4 hs5 hs6⟩)
 intro b15 hb15
 refine own_it X0 hy at_799 (l' := #[.val (.int p1), .val (.int p2), .val (.int p3), .val (.int p4), .val (.long p5), .second, .val (.int p6), .val (.int (own_P oN 0)), .val (.int md), .val (.int (Int32.ofNat kk)), .val (.int (Int32.ofNat pp)), .val (.ref ta), .val (.int jk), .val (.int s13), .val (.int (cond tf 1 0)), .val (.int b15), .unset, .unset, .unset, .unset, .unset]) rfl ?_
 refine own_iw X0 hy at_801 rfl ?_
 suffices k815 : own_R p e below (own_PL Z s below n0) T0 m 815 #[.val (.int p1), .val (.int p2), .val (.int p3), .val (.int p4), .val (.long p5), .second, .val (.int p6), .val (.int (own_P oN 0)), .val (.int md), .val (.int (Int32.ofNat kk)), .val (.int (Int32.ofNat pp)), .val (.ref ta), .val (.int jk), .val (.int s13), .val (.int (cond tf 1 0)), .val (.int b15), .unset, .unset, .unset, .unset, .unset] [] by
  by_cases hs7 : b15 = (0 : Int32)
  ·
   refine own_zn X0 hy at_803 ((if0 _ _).trans (teq hs7).2) ?_
   refine own_il X0 hy at_806 rfl ?_
   refine own_bp X0 hy at_807 ?_
   refine own_us X0 hy at_809 ?_
   refine own_ic X0 hy at_810 ?_
   refine own_an X0 hy at_811 ?_
   by_cases hs8 : (((p2.toUInt32 >>> ((21 : Int32) &&& 31).toUInt32).toInt32) &&& (1 : Int32)) = (0 : Int32)
   ·
    refine own_zn X0 hy at_812 ((if0 _ _).trans (teq hs8).2) ?_
    exact k815
   ·
    refine own_zy X0 hy at_812 856 ((if0 _ _).trans (feq hs8).2) ?_
    have hin : own_inS pp = false := by
     rcases hb15 with q | q
     ·
      rw [q] at hs7; exact absurd hs7 (by decide)
     ·
      exact q.2
    obtain ⟨kc, tx, ⟨Z0, hk, hIn, S_cs, S_fm, g_ta, At, hl⟩, hg⟩ := F0
    obtain ⟨y, hv, hb8, hr, hr2, hj0, hj1⟩ := own_bd8 ((p2.toUInt32 >>> ((22 : Int32) &&& 31).toUInt32).toInt32)
    obtain ⟨b9, T9, h9, ks9, t9, kc9, X9, e9, E9, hS, hkq, hZ, hown, Ex_b9, Fc_b9, Fv_b9, Av_t9, -, -, hCr9, -, -, st9⟩ := ldcCH (EL := consts_1) X0 hy.1 hZ hown (own_w hw 146 rfl) (own_wS hw) e0 hS hk (own_EW hw) (List.mem_of_getElem? (i := 5) rfl) hIn (vs := [(.int 35), (.int 41), (.int 120), (.int 42), (.int 59), (.int 60), (.int 61), (.int 62)]) (z := (8 : Int32)) ⟨by decide +kernel, by decide +kernel⟩ (by decide) (by decide +kernel) (g := (mkF m 856 #[.val (.int p1), .val (.int p2), .val (.int p3), .val (.int p4), .val (.long p5), .second, .val (.int p6), .val (.int (own_P oN 0)), .val (.int md), .val (.int (Int32.ofNat kk)), .val (.int (Int32.ofNat pp)), .val (.ref ta), .val (.int jk), .val (.int s13), .val (.int (cond tf 1 0)), .val (.int b15), .unset, .unset, .unset, .unset, .unset] [])) rfl (hb hy.2 at_856) (n := 32) (by decide +kernel) (by decide) (by decide) (by decide)
    replace S_cs := S_cs.ext E9
    replace S_fm := S_fm.ext E9
    replace At := At.ext E9
    have Z9 := Nat.le_trans Z0 E9.1
    replace hk := Nat.le_trans hk E9.1
    replace hk := hkq
    have hIn : own_In Z T9.vm h9 := hCr9.1
    refine own_go (A := T9.setTop (mkF m 858 #[.val (.int p1), .val (.int p2), .val (.int p3), .val (.int p4), .val (.long p5), .second, .val (.int p6), .val (.int (own_P oN 0)), .val (.int md), .val (.int (Int32.ofNat kk)), .val (.int (Int32.ofNat pp)), .val (.ref ta), .val (.int jk), .val (.int s13), .val (.int (cond tf 1 0)), .val (.int b15), .unset, .unset, .unset, .unset, .unset] [(.ref b9)])) (fun _ kz => st9 _ kz) ?_
    refine own_il X9 hy at_858 rfl ?_
    refine own_bp X9 hy at_859 ?_
    refine own_us X9 hy at_861 ?_
    refine own_bp X9 hy at_862 ?_
    refine own_an X9 hy at_864 ?_
    refine own_cvg X9 hy hZ hown (own_y26 hw) (rmCA hw (((p2.toUInt32 >>> ((22 : Int32) &&& 31).toUInt32).toInt32) &&& (7 : Int32)) y y Z9 Ex_b9 Fv_b9 Fc_b9 Av_t9 hj0 hj1 hv hr hr2 hcs S_cs S_fm rfm) e9 Ex_b9 (S := []) rfl at_865 own_pd10 hml fun v10 T10 L10 X10 hQ10 => ?_
    obtain ⟨rfl, N10q, e10⟩ := hQ10
    have N10 := Fr.app N0 N10q
    refine own_it X10 hy at_868 (l' := #[.val (.int p1), .val (.int p2), .val (.int p3), .val (.int p4), .val (.long p5), .second, .val (.int p6), .val (.int (own_P oN 0)), .val (.int md), .val (.int (Int32.ofNat kk)), .val (.int (Int32.ofNat pp)), .val (.ref ta), .val (.int jk), .val (.int s13), .val (.int (cond tf 1 0)), .val (.int b15), .val (.int y), .unset, .unset, .unset, .unset]) rfl ?_
    exact own_law3 hw X10 hy hZ hown hml hrt hlk hS e10 N10 ho hkk hpp hmd hcs rfm ⟨kc, tx, ⟨Z9, hk, hIn, S_cs, S_fm, g_ta, At, hl⟩, hg⟩ (own_bdB hb8 hin hr2) (Or.inl rfl)
  ·
   refine own_zy X0 hy at_803 815 ((if0 _ _).trans (feq hs7).2) ?_
   exact k815
 refine own_il X0 hy at_815 rfl ?_
 refine own_bp X0 hy at_816 ?_
 refine own_us X0 hy at_818 ?_
 refine own_bp X0 hy at_819 ?_
 refine own_an X0 hy at_821 ?_
 refine own_it X0 hy at_822 (l' := #[.val (.int p1), .val (.int p2), .val (.int p3), .val (.int p4), .val (.long p5), .second, .val (.int p6), .val (.int (own_P oN 0)), .val (.int md), .val (.int (Int32.ofNat kk)), .val (.int (Int32.ofNat pp)), .val (.ref ta), .val (.int jk), .val (.int s13), .val (.int (cond tf 1 0)), .val (.int b15), .unset, .val (.int (((p2.toUInt32 >>> ((16 : Int32) &&& 31).toUInt32).toInt32) &&& (31 : Int32))), .unset, .unset, .unset]) rfl ?_
 suffices k11 : ∀ b17, own_bl b17 → own_R p e below (own_PL Z s below n0) T0 m 848 #[.val (.int p1), .val (.int p2), .val (.int p3), .val (.int p4), .val (.long p5), .second, .val (.int p6), .val (.int (own_P oN 0)), .val (.int md), .val (.int (Int32.ofNat kk)), .val (.int (Int32.ofNat pp)), .val (.ref ta), .val (.int jk), .val (.int s13), .val (.int (cond tf 1 0)), .val (.int b15), .unset, .val (.int b17), .unset, .unset, .unset] [] by
  refine own_iw X0 hy at_824 rfl ?_
  refine own_bp X0 hy at_826 ?_
  by_cases hs12 : (((p2.toUInt32 >>> ((16 : Int32) &&& 31).toUInt32).toInt32) &&& (31 : Int32)) = (9 : Int32)
  ·
   refine own_cy X0 hy at_828 845 (teq hs12).1 ?_
   refine own_ic X0 hy at_845 ?_
   refine own_it X0 hy at_846 (l' := #[.val (.int p1), .val (.int p2), .val (.int p3), .val (.int p4), .val (.long p5), .second, .val (.int p6), .val (.int (own_P oN 0)), .val (.int md), .val (.int (Int32.ofNat kk)), .val (.int (Int32.ofNat pp)), .val (.ref ta), .val (.int jk), .val (.int s13), .val (.int (cond tf 1 0)), .val (.int b15), .unset, .val (.int 0), .unset, .unset, .unset]) rfl ?_
   exact k11 _ own_bl0
  ·
   refine own_cn X0 hy at_828 (feq hs12).1 ?_
   refine own_iw X0 hy at_831 rfl ?_
   refine own_bp X0 hy at_833 ?_
   by_cases hs13 : (((p2.toUInt32 >>> ((16 : Int32) &&& 31).toUInt32).toInt32) &&& (31 : Int32)) = (10 : Int32)
   ·
    refine own_cy X0 hy at_835 845 (teq hs13).1 ?_
    refine own_ic X0 hy at_845 ?_
    refine own_it X0 hy at_846 (l' := #[.val (.int p1), .val (.int p2), .val (.int p3), .val (.int p4), .val (.long p5), .second, .val (.int p6), .val (.int (own_P oN 0)), .val (.int md), .val (.int (Int32.ofNat kk)), .val (.int (Int32.ofNat pp)), .val (.ref ta), .val (.int jk), .val (.int s13), .val (.int (cond tf 1 0)), .val (.int b15), .unset, .val (.int 0), .unset, .unset, .unset]) rfl ?_
    exact k11 _ own_bl0
   ·
    refine own_cn X0 hy at_835 (feq hs13).1 ?_
    refine own_iw X0 hy at_838 rfl ?_
    refine own_bp X0 hy at_840 ?_
    by_cases hs14 : (((p2.toUInt32 >>> ((16 : Int32) &&& 31).toUInt32).toInt32) &&& (31 : Int32)) = (13 : Int32)
    ·
     refine own_cn X0 hy at_842 (teq hs14).2 ?_
     refine own_ic X0 hy at_845 ?_
     refine own_it X0 hy at_846 (l' := #[.val (.int p1), .val (.int p2), .val (.int p3), .val (.int p4), .val (.long p5), .second, .val (.int p6), .val (.int (own_P oN 0)), .val (.int md), .val (.int (Int32.ofNat kk)), .val (.int (Int32.ofNat pp)), .val (.ref ta), .val (.int jk), .val (.int s13), .val (.int (cond tf 1 0)), .val (.int b15), .unset, .val (.int 0), .unset, .unset, .unset]) rfl ?_
     exact k11 _ own_bl0
    ·
     refine own_cy X0 hy at_842 848 (feq hs14).2 ?_
     exact k11 _ (own_blA hs12 hs13 hs14)
 intro b17 hb17
 refine own_iw X0 hy at_848 rfl ?_
 refine own_cc X0 hy at_850 ?_
 refine own_it X0 hy at_851 (l' := #[.val (.int p1), .val (.int p2), .val (.int p3), .val (.int p4), .val (.long p5), .second, .val (.int p6), .val (.int (own_P oN 0)), .val (.int md), .val (.int (Int32.ofNat kk)), .val (.int (Int32.ofNat pp)), .val (.ref ta), .val (.int jk), .val (.int s13), .val (.int (cond tf 1 0)), .val (.int b15), .val (.int (b17.toUInt32.toUInt16.toUInt32.toInt32)), .val (.int b17), .unset, .unset, .unset]) rfl ?_
 refine own_gt X0 hy at_853 870 ?_
 exact own_law3 hw (X0.more (by decide) (by decide)) hy hZ hown hml hrt hlk hS e0 N0 ho hkk hpp hmd hcs rfm F0 (own_bdA hb17) (Or.inr ⟨_, rfl⟩)
theorem own_law1 {p1 p2 p3 p4 p6 jk : Int32} {p5 : Int64} {pp : Nat} (hw : own_HW Z a0) {p : Program} {e : Env} {s : State} {vm0 : Vm} {m : MethodId} {args : Array Value} {below : List Frame} {meth : Method} {c : Code} {T0 : State} {locs : List Loc} {k0 : Nat} {ta : Addr} (X0 : Stand p l e room_1 (s.setVm vm0) m args below meth c T0 locs 1 52) (hy : own_Y p c code) (hZ : Z.Warmed39 (s.setVm vm0).vm) (hown : (s.setVm vm0).vm.findClass "dev/parlance/JsonGrammarBreaksAtPinLaw" = some m.cls) (hml : c.maxLocals = 21) (hrt : meth.sig.returnType = some .boolean) (hlk : meth.locks = false) (hS : s.Since vm0 k0) (e0 : T0.heap = h0) (N0 : Fr n0 locs) (ho : oN ≤ 3) (hkk : kk ≤ 49) (hpp : pp ≤ 48) (hmd : ¬ md < 1 ∧ ¬ 4 < md) (hcs : ¬ cs = (0 : Int32)) (rfm : fm.isRef = true) (F0 : own_B Z vm0 k0 h0 n0 ta cs fm oN tf 0) : own_R p e below (own_PL Z s below n0) T0 m 49 #[.val (.int p1), .val (.int p2), .val (.int p3), .val (.int p4), .val (.long p5), .second, .val (.int p6), .val (.int (own_P oN 0)), .val (.int md), .val (.int (Int32.ofNat kk)), .val (.int (Int32.ofNat pp)), .val (.ref ta), .val (.int jk), .unset, .unset, .unset, .unset, .unset, .unset, .unset, .unset] [] := by
 refine own_aw X0 hy at_49 rfl rfl ?_
 refine own_ic X0 hy at_51 ?_
 refine own_iw X0 hy at_52 rfl ?_
 refine own_pj X0 hy hZ e0 N0 F0 at_54 0 fun T1 h1 N1L X1 e1 N1 F1 => ?_
 refine own_aw X1 hy at_55 rfl rfl ?_
 refine own_ic X1 hy at_57 ?_
 refine own_iw X1 hy at_58 rfl ?_
 refine own_pj X1 hy hZ e1 N1 F1 at_60 1 fun T2 h2 N2L X2 e2 N2 F2 => ?_
 clear N1 e1 X1 F1
 refine own_aw X2 hy at_61 rfl rfl ?_
 refine own_ic X2 hy at_63 ?_
 refine own_iw X2 hy at_64 rfl ?_
 refine own_pj X2 hy hZ e2 N2 F2 at_66 2 fun T3 h3 N3L X3 e3 N3 F3 => ?_
 clear N2 e2 X2 F2
 refine own_aw X3 hy at_67 rfl rfl ?_
 refine own_bp X3 hy at_69 ?_
 refine own_iw X3 hy at_71 rfl ?_
 refine own_pj X3 hy hZ e3 N3 F3 at_73 48 fun T4 h4 N4L X4 e4 N4 F4 => ?_
 clear N3 e3 X3 F3
 refine own_aw X4 hy at_74 rfl rfl ?_
 refine own_bp X4 hy at_76 ?_
 refine own_iw X4 hy at_78 rfl ?_
 refine own_pj X4 hy hZ e4 N4 F4 at_80 49 fun T5 h5 N5L X5 e5 N5 F5 => ?_
 clear N4 e4 X4 F4
 refine own_aw X5 hy at_81 rfl rfl ?_
 refine own_bp X5 hy at_83 ?_
 refine own_iw X5 hy at_85 rfl ?_
 refine own_pj X5 hy hZ e5 N5 F5 at_87 50 fun T6 h6 N6L X6 e6 N6 F6 => ?_
 clear N5 e5 X5 F5
 refine own_aw X6 hy at_88 rfl rfl ?_
 refine own_bp X6 hy at_90 ?_
 refine own_iw X6 hy at_92 rfl ?_
 refine own_pj X6 hy hZ e6 N6 F6 at_94 51 fun T7 h7 N7L X7 e7 N7 F7 => ?_
 clear N6 e6 X6 F6
 refine own_iw X7 hy at_95 rfl ?_
 refine own_go (fun _ kz => X7.ldcInt hy.1 hown (mvT hZ (own_w hw 1 rfl)) (g := (mkF m 97 #[.val (.int p1), .val (.int p2), .val (.int p3), .val (.int p4), .val (.long p5), .second, .val (.int p6), .val (.int (own_P oN 0)), .val (.int md), .val (.int (Int32.ofNat kk)), .val (.int (Int32.ofNat pp)), .val (.ref ta), .val (.int jk), .unset, .unset, .unset, .unset, .unset, .unset, .unset, .unset] [(.int p6)])) rfl (hb hy.2 at_97) _ kz) ?_
 refine own_go (A := T7.setTop (mkF m 99 #[.val (.int p1), .val (.int p2), .val (.int p3), .val (.int p4), .val (.long p5), .second, .val (.int p6), .val (.int (own_P oN 0)), .val (.int md), .val (.int (Int32.ofNat kk)), .val (.int (Int32.ofNat pp)), .val (.ref ta), .val (.int jk), .unset, .unset, .unset, .unset, .unset, .unset, .unset, .unset] [(.int 65535), (.int p6)])) (fun _ kz => kz) ?_
 refine own_an X7 hy at_99 ?_
 refine own_it X7 hy at_100 (l' := #[.val (.int p1), .val (.int p2), .val (.int p3), .val (.int p4), .val (.long p5), .second, .val (.int p6), .val (.int (own_P oN 0)), .val (.int md), .val (.int (Int32.ofNat kk)), .val (.int (Int32.ofNat pp)), .val (.ref ta), .val (.int jk), .val (.int (p6 &&& (65535 : Int32))), .unset, .unset, .unset, .unset, .unset, .unset, .unset]) rfl ?_
 suffices k8 : ∀ s13, own_sg s13 → own_R p e below (own_PL Z s below n0) T7 m 134 #[.val (.int p1), .val (.int p2), .val (.int p3), .val (.int p4), .val (.long p5), .second, .val (.int p6), .val (.int (own_P oN 0)), .val (.int md), .val (.int (Int32.ofNat kk)), .val (.int (Int32.ofNat pp)), .val (.ref ta), .val (.int jk), .val (.int s13), .unset, .unset, .unset, .unset, .unset, .unset, .unset] [] by
  refine own_iw X7 hy at_102 rfl ?_
  refine own_bp X7 hy at_104 ?_
  by_cases hs9 : (p6 &&& (65535 : Int32)) < (32 : Int32)
  ·
   refine own_cn X7 hy at_106 (tlt hs9).2.1 ?_
   refine own_iw X7 hy at_109 rfl ?_
   refine own_bp X7 hy at_111 ?_
   refine own_ad X7 hy at_113 ?_
   refine own_it X7 hy at_114 (l' := #[.val (.int p1), .val (.int p2), .val (.int p3), .val (.int p4), .val (.long p5), .second, .val (.int p6), .val (.int (own_P oN 0)), .val (.int md), .val (.int (Int32.ofNat kk)), .val (.int (Int32.ofNat pp)), .val (.ref ta), .val (.int jk), .val (.int ((p6 &&& (65535 : Int32)) + (32 : Int32))), .unset, .unset, .unset, .unset, .unset, .unset, .unset]) rfl ?_
   refine own_iw X7 hy at_116 rfl ?_
   refine own_bp X7 hy at_118 ?_
   by_cases hs10 : ((p6 &&& (65535 : Int32)) + (32 : Int32)) = (34 : Int32)
   ·
    refine own_cy X7 hy at_120 130 (teq hs10).1 ?_
    refine own_bp X7 hy at_130 ?_
    refine own_it X7 hy at_132 (l' := #[.val (.int p1), .val (.int p2), .val (.int p3), .val (.int p4), .val (.long p5), .second, .val (.int p6), .val (.int (own_P oN 0)), .val (.int md), .val (.int (Int32.ofNat kk)), .val (.int (Int32.ofNat pp)), .val (.ref ta), .val (.int jk), .val (.int 97), .unset, .unset, .unset, .unset, .unset, .unset, .unset]) rfl ?_
    exact k8 _ own_sg97
   ·
    refine own_cn X7 hy at_120 (feq hs10).1 ?_
    refine own_iw X7 hy at_123 rfl ?_
    refine own_bp X7 hy at_125 ?_
    by_cases hs11 : ((p6 &&& (65535 : Int32)) + (32 : Int32)) = (92 : Int32)
    ·
     refine own_cn X7 hy at_127 (teq hs11).2 ?_
     refine own_bp X7 hy at_130 ?_
     refine own_it X7 hy at_132 (l' := #[.val (.int p1), .val (.int p2), .val (.int p3), .val (.int p4), .val (.long p5), .second, .val (.int p6), .val (.int (own_P oN 0)), .val (.int md), .val (.int (Int32.ofNat kk)), .val (.int (Int32.ofNat pp)), .val (.ref ta), .val (.int jk), .val (.int 97), .unset, .unset, .unset, .unset, .unset, .unset, .unset]) rfl ?_
     exact k8 _ own_sg97
    ·
     refine own_cy X7 hy at_127 134 (feq hs11).2 ?_
     exact k8 _ (own_sgB hs9 hs10 hs11)
  ·
   refine own_cy X7 hy at_106 116 (flt hs9).2.1 ?_
   refine own_iw X7 hy at_116 rfl ?_
   refine own_bp X7 hy at_118 ?_
   by_cases hs12 : (p6 &&& (65535 : Int32)) = (34 : Int32)
   ·
    refine own_cy X7 hy at_120 130 (teq hs12).1 ?_
    refine own_bp X7 hy at_130 ?_
    refine own_it X7 hy at_132 (l' := #[.val (.int p1), .val (.int p2), .val (.int p3), .val (.int p4), .val (.long p5), .second, .val (.int p6), .val (.int (own_P oN 0)), .val (.int md), .val (.int (Int32.ofNat kk)), .val (.int (Int32.ofNat pp)), .val (.ref ta), .val (.int jk), .val (.int 97), .unset, .unset, .unset, .unset, .unset, .unset, .unset]) rfl ?_
    exact k8 _ own_sg97
   ·
    refine own_cn X7 hy at_120 (feq hs12).1 ?_
    refine own_iw X7 hy at_123 rfl ?_
    refine own_bp X7 hy at_125 ?_
    by_cases hs13 : (p6 &&& (65535 : Int32)) = (92 : Int32)
    ·
     refine own_cn X7 hy at_127 (teq hs13).2 ?_
     refine own_bp X7 hy at_130 ?_
     refine own_it X7 hy at_132 (l' := #[.val (.int p1), .val (.int p2), .val (.int p3), .val (.int p4), .val (.long p5), .second, .val (.int p6), .val (.int (own_P oN 0)), .val (.int md), .val (.int (Int32.ofNat kk)), .val (.int (Int32.ofNat pp)), .val (.ref ta), .val (.int jk), .val (.int 97), .unset, .unset, .unset, .unset, .unset, .unset, .unset]) rfl ?_
     exact k8 _ own_sg97
    ·
     refine own_cy X7 hy at_127 134 (feq hs13).2 ?_
     exact k8 _ (own_sgA hs9 hs12 hs13)
 intro s13 hs13
 suffices k14 : ∀ tf : Bool, own_R p e below (own_PL Z s below n0) T7 m 148 #[.val (.int p1), .val (.int p2), .val (.int p3), .val (.int p4), .val (.long p5), .second, .val (.int p6), .val (.int (own_P oN 0)), .val (.int md), .val (.int (Int32.ofNat kk)), .val (.int (Int32.ofNat pp)), .val (.ref ta), .val (.int jk), .val (.int s13), .unset, .unset, .unset, .unset, .unset, .unset, .unset] [(.int (cond tf 1 0))] by
  refine own_il X7 hy at_134 rfl ?_
  refine own_bp X7 hy at_135 ?_
  refine own_us X7 hy at_137 ?_
  refine own_ic X7 hy at_138 ?_
  refine own_an X7 hy at_139 ?_
  by_cases hs15 : (((p3.toUInt32 >>> ((9 : Int32) &&& 31).toUInt32).toInt32) &&& (1 : Int32)) = (0 : Int32)
  ·
   refine own_zn X7 hy at_140 ((if0 _ _).trans (teq hs15).2) ?_
   refine own_ic X7 hy at_143 ?_
   refine own_gt X7 hy at_144 148 ?_
   exact k14 true
  ·
   refine own_zy X7 hy at_140 147 ((if0 _ _).trans (feq hs15).2) ?_
   refine own_ic X7 hy at_147 ?_
   exact k14 false
 intro tf
 replace F7 := own_Btf F7 tf
 refine own_it X7 hy at_148 (l' := #[.val (.int p1), .val (.int p2), .val (.int p3), .val (.int p4), .val (.long p5), .second, .val (.int p6), .val (.int (own_P oN 0)), .val (.int md), .val (.int (Int32.ofNat kk)), .val (.int (Int32.ofNat pp)), .val (.ref ta), .val (.int jk), .val (.int s13), .val (.int (cond tf 1 0)), .unset, .unset, .unset, .unset, .unset, .unset]) rfl ?_
 refine own_aw X7 hy at_150 rfl rfl ?_
 refine own_iw X7 hy at_152 rfl ?_
 refine own_bp X7 hy at_154 ?_
 refine own_put X7 hy hZ e7 N7 F7 ho at_156 rfl (own_gl 123 rfl) 1 fun T16 h16 N16L X16 e16 N16 F16 => ?_
 clear N7 e7 X7 F7
 refine own_aw X16 hy at_157 rfl rfl ?_
 refine own_iw X16 hy at_159 rfl ?_
 refine own_ic X16 hy at_161 ?_
 refine own_ad X16 hy at_162 ?_
 refine own_bp X16 hy at_163 ?_
 refine own_put X16 hy hZ e16 N16 F16 ho at_165 (own_Pb (by decide)) (own_gl 34 rfl) 2 fun T17 h17 N17L X17 e17 N17 F17 => ?_
 clear N16 e16 X16 F16
 refine own_aw X17 hy at_166 rfl rfl ?_
 refine own_iw X17 hy at_168 rfl ?_
 refine own_ic X17 hy at_170 ?_
 refine own_ad X17 hy at_171 ?_
 refine own_iw X17 hy at_172 rfl ?_
 refine own_cc X17 hy at_174 ?_
 refine own_put X17 hy hZ e17 N17 F17 ho at_175 (own_Pb (by decide)) (own_g2 hs13) 3 fun T18 h18 N18L X18 e18 N18 F18 => ?_
 clear N17 e17 X17 F17
 refine own_aw X18 hy at_176 rfl rfl ?_
 refine own_iw X18 hy at_178 rfl ?_
 refine own_ic X18 hy at_180 ?_
 refine own_ad X18 hy at_181 ?_
 refine own_bp X18 hy at_182 ?_
 refine own_put X18 hy hZ e18 N18 F18 ho at_184 (own_Pb (by decide)) (own_gl 92 rfl) 4 fun T19 h19 N19L X19 e19 N19 F19 => ?_
 clear N18 e18 X18 F18
 refine own_aw X19 hy at_185 rfl rfl ?_
 refine own_iw X19 hy at_187 rfl ?_
 refine own_ic X19 hy at_189 ?_
 refine own_ad X19 hy at_190 ?_
 obtain ⟨kc, tx, ⟨Z0, hk, hIn, S_cs, S_fm, g_ta, At, hl⟩, hg⟩ := F19
 obtain ⟨y, hv, hes, hr, hr2, hj0, hj1⟩ := own_ch8 ((p3.toUInt32 >>> ((4 : Int32) &&& 31).toUInt32).toInt32)
 obtain ⟨b21, T21, h21, ks21, t21, kc21, X21, e21, E21, hS, hkq, hZ, hown, Ex_b21, Fc_b21, Fv_b21, Av_t21, -, -, hCr21, -, -, st21⟩ := ldcCH (EL := consts_1) X19 hy.1 hZ hown (own_w hw 3 rfl) (own_wS hw) e19 hS hk (own_EW hw) (List.mem_of_getElem? (i := 4) rfl) hIn (vs := [(.int 34), (.int 92), (.int 47), (.int 98), (.int 102), (.int 110), (.int 114), (.int 116)]) (z := (8 : Int32)) ⟨by decide +kernel, by decide +kernel⟩ (by decide) (by decide +kernel) (g := (mkF m 191 #[.val (.int p1), .val (.int p2), .val (.int p3), .val (.int p4), .val (.long p5), .second, .val (.int p6), .val (.int (own_P oN 0)), .val (.int md), .val (.int (Int32.ofNat kk)), .val (.int (Int32.ofNat pp)), .val (.ref ta), .val (.int jk), .val (.int s13), .val (.int (cond tf 1 0)), .unset, .unset, .unset, .unset, .unset, .unset] [(.int ((own_P oN 0) + (4 : Int32))), (.ref ta)])) rfl (hb hy.2 at_191) (n := 32) (by decide +kernel) (by decide) (by decide) (by decide)
 replace S_cs := S_cs.ext E21
 replace S_fm := S_fm.ext E21
 replace At := At.ext E21
 have Z21 := Nat.le_trans Z0 E21.1
 replace hk := Nat.le_trans hk E21.1
 replace hk := hkq
 have hIn : own_In Z T21.vm h21 := hCr21.1
 refine own_go (A := T21.setTop (mkF m 193 #[.val (.int p1), .val (.int p2), .val (.int p3), .val (.int p4), .val (.long p5), .second, .val (.int p6), .val (.int (own_P oN 0)), .val (.int md), .val (.int (Int32.ofNat kk)), .val (.int (Int32.ofNat pp)), .val (.ref ta), .val (.int jk), .val (.int s13), .val (.int (cond tf 1 0)), .unset, .unset, .unset, .unset, .unset, .unset] [(.ref b21), (.int ((own_P oN 0) + (4 : Int32))), (.ref ta)])) (fun _ kz => st21 _ kz) ?_
 refine own_il X21 hy at_193 rfl ?_
 refine own_ic X21 hy at_194 ?_
 refine own_us X21 hy at_195 ?_
 refine own_bp X21 hy at_196 ?_
 refine own_an X21 hy at_198 ?_
 refine own_cvg X21 hy hZ hown (own_y26 hw) (rmCA hw (((p3.toUInt32 >>> ((4 : Int32) &&& 31).toUInt32).toInt32) &&& (7 : Int32)) y y Z21 Ex_b21 Fv_b21 Fc_b21 Av_t21 hj0 hj1 hv hr hr2 hcs S_cs S_fm rfm) e21 Ex_b21 (S := [(.int ((own_P oN 0) + (4 : Int32))), (.ref ta)]) rfl at_199 own_pd10 hml fun v22 T22 L22 X22 hQ22 => ?_
 obtain ⟨rfl, N22q, e22⟩ := hQ22
 have N22 := Fr.app N19 N22q
 have F23 : own_B Z T21.vm _ h21 n0 ta cs fm oN tf 4 := ⟨kc, tx, ⟨Z21, hk, hIn, S_cs, S_fm, g_ta, At, hl⟩, hg⟩
 refine own_put X22 hy hZ e22 N22 F23 ho at_202 (own_Pb (by decide)) (own_escn hes hr2) 5 fun T24 h24 N24L X24 e24 N24 F24 => ?_
 clear N19 e19 X19
 refine own_aw X24 hy at_203 rfl rfl ?_
 refine own_iw X24 hy at_205 rfl ?_
 refine own_ic X24 hy at_207 ?_
 refine own_ad X24 hy at_208 ?_
 refine own_bp X24 hy at_209 ?_
 refine own_put X24 hy hZ e24 N24 F24 ho at_211 (own_Pb (by decide)) (own_gl 92 rfl) 6 fun T25 h25 N25L X25 e25 N25 F25 => ?_
 clear N24 e24 X24 F24
 refine own_aw X25 hy at_212 rfl rfl ?_
 refine own_iw X25 hy at_214 rfl ?_
 refine own_bp X25 hy at_216 ?_
 refine own_ad X25 hy at_218 ?_
 refine own_bp X25 hy at_219 ?_
 refine own_put X25 hy hZ e25 N25 F25 ho at_221 (own_Pb (by decide)) (own_gl 117 rfl) 7 fun T26 h26 N26L X26 e26 N26 F26 => ?_
 clear N25 e25 X25 F25
 refine own_aw X26 hy at_222 rfl rfl ?_
 refine own_iw X26 hy at_224 rfl ?_
 refine own_bp X26 hy at_226 ?_
 refine own_ad X26 hy at_228 ?_
 refine own_lw X26 hy at_229 rfl ?_
 refine own_li X26 hy at_231 ?_
 refine own_lc X26 hy hZ hown hw hS e26 N26 F26 (own_y29 hw) (fun z0 z1 z2 => rmHc hw (p5.toInt32) z0 hcs z1 z2 rfm) (fun _ _ _ q => q) at_232 own_pd10 hml fun r27 T27 L27 hr7 X27 hS hZ hown N27 F27 => ?_
 refine own_put X27 hy hZ rfl N27 F27 ho at_235 (own_Pb (by decide)) (own_hxn hr7) 8 fun T28 h28 N28L X28 e28 N28 F28 => ?_
 refine own_aw X28 hy at_236 rfl rfl ?_
 refine own_iw X28 hy at_238 rfl ?_
 refine own_bp X28 hy at_240 ?_
 refine own_ad X28 hy at_242 ?_
 refine own_lw X28 hy at_243 rfl ?_
 refine own_bp X28 hy at_245 ?_
 refine own_lu X28 hy at_247 ?_
 refine own_li X28 hy at_248 ?_
 refine own_lc X28 hy hZ hown hw hS e28 N28 F28 (own_y29 hw) (fun z0 z1 z2 => rmHc hw (((p5.toUInt64 >>> ((16 : Int32) &&& 0x3f).toInt64.toUInt64).toInt64).toInt32) z0 hcs z1 z2 rfm) (fun _ _ _ q => q) at_249 own_pd10 hml fun r29 T29 L29 hr8 X29 hS hZ hown N29 F29 => ?_
 refine own_put X29 hy hZ rfl N29 F29 ho at_252 (own_Pb (by decide)) (own_hxn hr8) 9 fun T30 h30 N30L X30 e30 N30 F30 => ?_
 refine own_aw X30 hy at_253 rfl rfl ?_
 refine own_iw X30 hy at_255 rfl ?_
 refine own_bp X30 hy at_257 ?_
 refine own_ad X30 hy at_259 ?_
 refine own_lw X30 hy at_260 rfl ?_
 refine own_bp X30 hy at_262 ?_
 refine own_lu X30 hy at_264 ?_
 refine own_li X30 hy at_265 ?_
 refine own_lc X30 hy hZ hown hw hS e30 N30 F30 (own_y29 hw) (fun z0 z1 z2 => rmHc hw (((p5.toUInt64 >>> ((32 : Int32) &&& 0x3f).toInt64.toUInt64).toInt64).toInt32) z0 hcs z1 z2 rfm) (fun _ _ _ q => q) at_266 own_pd10 hml fun r31 T31 L31 hr9 X31 hS hZ hown N31 F31 => ?_
 refine own_put X31 hy hZ rfl N31 F31 ho at_269 (own_Pb (by decide)) (own_hxn hr9) 10 fun T32 h32 N32L X32 e32 N32 F32 => ?_
 refine own_aw X32 hy at_270 rfl rfl ?_
 refine own_iw X32 hy at_272 rfl ?_
 refine own_bp X32 hy at_274 ?_
 refine own_ad X32 hy at_276 ?_
 refine own_lw X32 hy at_277 rfl ?_
 refine own_bp X32 hy at_279 ?_
 refine own_lu X32 hy at_281 ?_
 refine own_li X32 hy at_282 ?_
 refine own_lc X32 hy hZ hown hw hS e32 N32 F32 (own_y29 hw) (fun z0 z1 z2 => rmHc hw (((p5.toUInt64 >>> ((48 : Int32) &&& 0x3f).toInt64.toUInt64).toInt64).toInt32) z0 hcs z1 z2 rfm) (fun _ _ _ q => q) at_283 own_pd10 hml fun r33 T33 L33 hr10 X33 hS hZ hown N33 F33 => ?_
 refine own_put X33 hy hZ rfl N33 F33 ho at_286 (own_Pb (by decide)) (own_hxn hr10) 11 fun T34 h34 N34L X34 e34 N34 F34 => ?_
 refine own_aw X34 hy at_287 rfl rfl ?_
 refine own_iw X34 hy at_289 rfl ?_
 refine own_bp X34 hy at_291 ?_
 refine own_ad X34 hy at_293 ?_
 refine own_bp X34 hy at_294 ?_
 refine own_put X34 hy hZ e34 N34 F34 ho at_296 (own_Pb (by decide)) (own_gl 34 rfl) 12 fun T35 h35 N35L X35 e35 N35 F35 => ?_
 clear N34 e34 X34 F34
 refine own_aw X35 hy at_297 rfl rfl ?_
 refine own_iw X35 hy at_299 rfl ?_
 refine own_bp X35 hy at_301 ?_
 refine own_ad X35 hy at_303 ?_
 refine own_il X35 hy at_304 rfl ?_
 refine own_bp X35 hy at_305 ?_
 refine own_us X35 hy at_307 ?_
 refine own_lc X35 hy hZ hown hw hS e35 N35 F35 (own_y30 hw) (fun z0 z1 z2 => rmWs hw ((p3.toUInt32 >>> ((10 : Int32) &&& 31).toUInt32).toInt32) z0 hcs z1 z2 rfm) (fun _ _ _ q => q) at_308 own_pd10 hml fun r36 T36 L36 hr12 X36 hS hZ hown N36 F36 => ?_
 refine own_put X36 hy hZ rfl N36 F36 ho at_311 (own_Pb (by decide)) (own_wsn hr12) 13 fun T37 h37 N37L X37 e37 N37 F37 => ?_
 refine own_aw X37 hy at_312 rfl rfl ?_
 refine own_iw X37 hy at_314 rfl ?_
 refine own_bp X37 hy at_316 ?_
 refine own_ad X37 hy at_318 ?_
 refine own_bp X37 hy at_319 ?_
 refine own_put X37 hy hZ e37 N37 F37 ho at_321 (own_Pb (by decide)) (own_gl 58 rfl) 14 fun T38 h38 N38L X38 e38 N38 F38 => ?_
 clear N37 e37 X37 F37
 refine own_aw X38 hy at_322 rfl rfl ?_
 refine own_iw X38 hy at_324 rfl ?_
 refine own_bp X38 hy at_326 ?_
 refine own_ad X38 hy at_328 ?_
 refine own_bp X38 hy at_329 ?_
 refine own_put X38 hy hZ e38 N38 F38 ho at_331 (own_Pb (by decide)) (own_gl 91 rfl) 15 fun T39 h39 N39L X39 e39 N39 F39 => ?_
 clear N38 e38 X38 F38
 refine own_aw X39 hy at_332 rfl rfl ?_
 refine own_iw X39 hy at_334 rfl ?_
 refine own_bp X39 hy at_336 ?_
 refine own_ad X39 hy at_338 ?_
 refine own_bp X39 hy at_339 ?_
 refine own_put X39 hy hZ e39 N39 F39 ho at_341 (own_Pb (by decide)) (own_gl 45 rfl) 16 fun T40 h40 N40L X40 e40 N40 F40 => ?_
 clear N39 e39 X39 F39
 refine own_aw X40 hy at_342 rfl rfl ?_
 refine own_iw X40 hy at_344 rfl ?_
 refine own_bp X40 hy at_346 ?_
 refine own_ad X40 hy at_348 ?_
 refine own_il X40 hy at_349 rfl ?_
 obtain ⟨kc41, tx41, Fa41, Fb41⟩ := id F40
 refine own_cs X40 hy hZ hown (own_y31 hw) (rmDt hw p4 Fa41.1) e40 at_350 own_pd10 hml fun v41 T41 L41 X41 hQ41 => ?_
 obtain ⟨r41, rfl, hr16, Nq41, e41⟩ := hQ41
 have N41 := Fr.app N40 Nq41
 refine own_put X41 hy hZ e41 N41 F40 ho at_353 (own_Pb (by decide)) (own_dgn hr16) 17 fun T42 h42 N42L X42 e42 N42 F42 => ?_
 refine own_aw X42 hy at_354 rfl rfl ?_
 refine own_iw X42 hy at_356 rfl ?_
 refine own_bp X42 hy at_358 ?_
 refine own_ad X42 hy at_360 ?_
 refine own_bp X42 hy at_361 ?_
 refine own_put X42 hy hZ e42 N42 F42 ho at_363 (own_Pb (by decide)) (own_gl 46 rfl) 18 fun T43 h43 N43L X43 e43 N43 F43 => ?_
 clear N42 e42 X42 F42
 refine own_aw X43 hy at_364 rfl rfl ?_
 refine own_iw X43 hy at_366 rfl ?_
 refine own_bp X43 hy at_368 ?_
 refine own_ad X43 hy at_370 ?_
 refine own_il X43 hy at_371 rfl ?_
 refine own_bp X43 hy at_372 ?_
 refine own_us X43 hy at_374 ?_
 obtain ⟨kc44, tx44, Fa44, Fb44⟩ := id F43
 refine own_cs X43 hy hZ hown (own_y31 hw) (rmDt hw ((p4.toUInt32 >>> ((8 : Int32) &&& 31).toUInt32).toInt32) Fa44.1) e43 at_375 own_pd10 hml fun v44 T44 L44 X44 hQ44 => ?_
 obtain ⟨r44, rfl, hr18, Nq44, e44⟩ := hQ44
 have N44 := Fr.app N43 Nq44
 refine own_put X44 hy hZ e44 N44 F43 ho at_378 (own_Pb (by decide)) (own_dgn hr18) 19 fun T45 h45 N45L X45 e45 N45 F45 => ?_
 refine own_aw X45 hy at_379 rfl rfl ?_
 refine own_iw X45 hy at_381 rfl ?_
 refine own_bp X45 hy at_383 ?_
 refine own_ad X45 hy at_385 ?_
 suffices k46 : ∀ c19 : Int32, (c19 = 101 ∨ c19 = 69) → own_R p e below (own_PL Z s below n0) T45 m 402 #[.val (.int p1), .val (.int p2), .val (.int p3), .val (.int p4), .val (.long p5), .second, .val (.int p6), .val (.int (own_P oN 0)), .val (.int md), .val (.int (Int32.ofNat kk)), .val (.int (Int32.ofNat pp)), .val (.ref ta), .val (.int jk), .val (.int s13), .val (.int (cond tf 1 0)), .unset, .unset, .unset, .unset, .unset, .unset] [(.int c19), (.int ((own_P oN 0) + (19 : Int32))), (.ref ta)] by
  refine own_il X45 hy at_386 rfl ?_
  refine own_bp X45 hy at_387 ?_
  refine own_us X45 hy at_389 ?_
  refine own_ic X45 hy at_390 ?_
  refine own_an X45 hy at_391 ?_
  by_cases hs47 : (((p3.toUInt32 >>> ((7 : Int32) &&& 31).toUInt32).toInt32) &&& (1 : Int32)) = (0 : Int32)
  ·
   refine own_zn X45 hy at_392 ((if0 _ _).trans (teq hs47).2) ?_
   refine own_bp X45 hy at_395 ?_
   refine own_gt X45 hy at_397 402 ?_
   exact k46 _ (Or.inl rfl)
  ·
   refine own_zy X45 hy at_392 400 ((if0 _ _).trans (feq hs47).2) ?_
   refine own_bp X45 hy at_400 ?_
   exact k46 _ (Or.inr rfl)
 intro c19 hc19
 refine own_put X45 hy hZ e45 N45 F45 ho at_402 (own_Pb (by decide)) (own_o2n hc19 (by decide) (by decide)) 20 fun T48 h48 N48L X48 e48 N48 F48 => ?_
 clear N45 e45 X45 F45
 refine own_aw X48 hy at_403 rfl rfl ?_
 refine own_iw X48 hy at_405 rfl ?_
 refine own_bp X48 hy at_407 ?_
 refine own_ad X48 hy at_409 ?_
 suffices k49 : ∀ c20 : Int32, (c20 = 43 ∨ c20 = 45) → own_R p e below (own_PL Z s below n0) T48 m 426 #[.val (.int p1), .val (.int p2), .val (.int p3), .val (.int p4), .val (.long p5), .second, .val (.int p6), .val (.int (own_P oN 0)), .val (.int md), .val (.int (Int32.ofNat kk)), .val (.int (Int32.ofNat pp)), .val (.ref ta), .val (.int jk), .val (.int s13), .val (.int (cond tf 1 0)), .unset, .unset, .unset, .unset, .unset, .unset] [(.int c20), (.int ((own_P oN 0) + (20 : Int32))), (.ref ta)] by
  refine own_il X48 hy at_410 rfl ?_
  refine own_bp X48 hy at_411 ?_
  refine own_us X48 hy at_413 ?_
  refine own_ic X48 hy at_414 ?_
  refine own_an X48 hy at_415 ?_
  by_cases hs50 : (((p3.toUInt32 >>> ((8 : Int32) &&& 31).toUInt32).toInt32) &&& (1 : Int32)) = (0 : Int32)
  ·
   refine own_zn X48 hy at_416 ((if0 _ _).trans (teq hs50).2) ?_
   refine own_bp X48 hy at_419 ?_
   refine own_gt X48 hy at_421 426 ?_
   exact k49 _ (Or.inl rfl)
  ·
   refine own_zy X48 hy at_416 424 ((if0 _ _).trans (feq hs50).2) ?_
   refine own_bp X48 hy at_424 ?_
   exact k49 _ (Or.inr rfl)
 intro c20 hc20
 refine own_put X48 hy hZ e48 N48 F48 ho at_426 (own_Pb (by decide)) (own_o2n hc20 (by decide) (by decide)) 21 fun T51 h51 N51L X51 e51 N51 F51 => ?_
 clear N48 e48 X48 F48
 refine own_aw X51 hy at_427 rfl rfl ?_
 refine own_iw X51 hy at_429 rfl ?_
 refine own_bp X51 hy at_431 ?_
 refine own_ad X51 hy at_433 ?_
 refine own_il X51 hy at_434 rfl ?_
 refine own_bp X51 hy at_435 ?_
 refine own_us X51 hy at_437 ?_
 obtain ⟨kc52, tx52, Fa52, Fb52⟩ := id F51
 refine own_cs X51 hy hZ hown (own_y31 hw) (rmDt hw ((p4.toUInt32 >>> ((16 : Int32) &&& 31).toUInt32).toInt32) Fa52.1) e51 at_438 own_pd10 hml fun v52 T52 L52 X52 hQ52 => ?_
 obtain ⟨r52, rfl, hr21, Nq52, e52⟩ := hQ52
 have N52 := Fr.app N51 Nq52
 refine own_put X52 hy hZ e52 N52 F51 ho at_441 (own_Pb (by decide)) (own_dgn hr21) 22 fun T53 h53 N53L X53 e53 N53 F53 => ?_
 refine own_aw X53 hy at_442 rfl rfl ?_
 refine own_iw X53 hy at_444 rfl ?_
 refine own_bp X53 hy at_446 ?_
 refine own_ad X53 hy at_448 ?_
 refine own_il X53 hy at_449 rfl ?_
 refine own_bp X53 hy at_450 ?_
 refine own_us X53 hy at_452 ?_
 obtain ⟨kc54, tx54, Fa54, Fb54⟩ := id F53
 refine own_cs X53 hy hZ hown (own_y31 hw) (rmDt hw ((p4.toUInt32 >>> ((24 : Int32) &&& 31).toUInt32).toInt32) Fa54.1) e53 at_453 own_pd10 hml fun v54 T54 L54 X54 hQ54 => ?_
 obtain ⟨r54, rfl, hr22, Nq54, e54⟩ := hQ54
 have N54 := Fr.app N53 Nq54
 refine own_put X54 hy hZ e54 N54 F53 ho at_456 (own_Pb (by decide)) (own_dgn hr22) 23 fun T55 h55 N55L X55 e55 N55 F55 => ?_
 refine own_aw X55 hy at_457 rfl rfl ?_
 refine own_iw X55 hy at_459 rfl ?_
 refine own_bp X55 hy at_461 ?_
 refine own_ad X55 hy at_463 ?_
 refine own_bp X55 hy at_464 ?_
 refine own_put X55 hy hZ e55 N55 F55 ho at_466 (own_Pb (by decide)) (own_gl 44 rfl) 24 fun T56 h56 N56L X56 e56 N56 F56 => ?_
 clear N55 e55 X55 F55
 refine own_aw X56 hy at_467 rfl rfl ?_
 refine own_iw X56 hy at_469 rfl ?_
 refine own_bp X56 hy at_471 ?_
 refine own_ad X56 hy at_473 ?_
 suffices k57 : own_R p e below (own_PL Z s below n0) T56 m 486 #[.val (.int p1), .val (.int p2), .val (.int p3), .val (.int p4), .val (.long p5), .second, .val (.int p6), .val (.int (own_P oN 0)), .val (.int md), .val (.int (Int32.ofNat kk)), .val (.int (Int32.ofNat pp)), .val (.ref ta), .val (.int jk), .val (.int s13), .val (.int (cond tf 1 0)), .unset, .unset, .unset, .unset, .unset, .unset] [(.int (cond tf 116 110)), (.int ((own_P oN 0) + (24 : Int32))), (.ref ta)] by
  cases tf
  ·
   refine own_iw X56 hy at_474 rfl ?_
   refine own_zy X56 hy at_476 484 ((if0 _ _).trans (teq (by decide : ((0 : Int32) = (0 : Int32)))).1) ?_
   refine own_bp X56 hy at_484 ?_
   exact k57
  ·
   refine own_iw X56 hy at_474 rfl ?_
   refine own_zn X56 hy at_476 ((if0 _ _).trans (feq (by decide : ¬ ((1 : Int32) = (0 : Int32)))).1) ?_
   refine own_bp X56 hy at_479 ?_
   refine own_gt X56 hy at_481 486 ?_
   exact k57
 refine own_put X56 hy hZ e56 N56 F56 ho at_486 (own_Pb (by decide)) (own_gl (cond tf 116 110) rfl (by cases tf <;> decide)) 25 fun T58 h58 N58L X58 e58 N58 F58 => ?_
 clear N56 e56 X56 F56
 refine own_aw X58 hy at_487 rfl rfl ?_
 refine own_iw X58 hy at_489 rfl ?_
 refine own_bp X58 hy at_491 ?_
 refine own_ad X58 hy at_493 ?_
 suffices k59 : own_R p e below (own_PL Z s below n0) T58 m 506 #[.val (.int p1), .val (.int p2), .val (.int p3), .val (.int p4), .val (.long p5), .second, .val (.int p6), .val (.int (own_P oN 0)), .val (.int md), .val (.int (Int32.ofNat kk)), .val (.int (Int32.ofNat pp)), .val (.ref ta), .val (.int jk), .val (.int s13), .val (.int (cond tf 1 0)), .unset, .unset, .unset, .unset, .unset, .unset] [(.int (cond tf 114 117)), (.int ((own_P oN 0) + (25 : Int32))), (.ref ta)] by
  cases tf
  ·
   refine own_iw X58 hy at_494 rfl ?_
   refine own_zy X58 hy at_496 504 ((if0 _ _).trans (teq (by decide : ((0 : Int32) = (0 : Int32)))).1) ?_
   refine own_bp X58 hy at_504 ?_
   exact k59
  ·
   refine own_iw X58 hy at_494 rfl ?_
   refine own_zn X58 hy at_496 ((if0 _ _).trans (feq (by decide : ¬ ((1 : Int32) = (0 : Int32)))).1) ?_
   refine own_bp X58 hy at_499 ?_
   refine own_gt X58 hy at_501 506 ?_
   exact k59
 refine own_put X58 hy hZ e58 N58 F58 ho at_506 (own_Pb (by decide)) (own_gl (cond tf 114 117) rfl (by cases tf <;> decide)) 26 fun T60 h60 N60L X60 e60 N60 F60 => ?_
 clear N58 e58 X58 F58
 refine own_aw X60 hy at_507 rfl rfl ?_
 refine own_iw X60 hy at_509 rfl ?_
 refine own_bp X60 hy at_511 ?_
 refine own_ad X60 hy at_513 ?_
 suffices k61 : own_R p e below (own_PL Z s below n0) T60 m 526 #[.val (.int p1), .val (.int p2), .val (.int p3), .val (.int p4), .val (.long p5), .second, .val (.int p6), .val (.int (own_P oN 0)), .val (.int md), .val (.int (Int32.ofNat kk)), .val (.int (Int32.ofNat pp)), .val (.ref ta), .val (.int jk), .val (.int s13), .val (.int (cond tf 1 0)), .unset, .unset, .unset, .unset, .unset, .unset] [(.int (cond tf 117 108)), (.int ((own_P oN 0) + (26 : Int32))), (.ref ta)] by
  cases tf
  ·
   refine own_iw X60 hy at_514 rfl ?_
   refine own_zy X60 hy at_516 524 ((if0 _ _).trans (teq (by decide : ((0 : Int32) = (0 : Int32)))).1) ?_
   refine own_bp X60 hy at_524 ?_
   exact k61
  ·
   refine own_iw X60 hy at_514 rfl ?_
   refine own_zn X60 hy at_516 ((if0 _ _).trans (feq (by decide : ¬ ((1 : Int32) = (0 : Int32)))).1) ?_
   refine own_bp X60 hy at_519 ?_
   refine own_gt X60 hy at_521 526 ?_
   exact k61
 refine own_put X60 hy hZ e60 N60 F60 ho at_526 (own_Pb (by decide)) (own_gl (cond tf 117 108) rfl (by cases tf <;> decide)) 27 fun T62 h62 N62L X62 e62 N62 F62 => ?_
 clear N60 e60 X60 F60
 refine own_aw X62 hy at_527 rfl rfl ?_
 refine own_iw X62 hy at_529 rfl ?_
 refine own_bp X62 hy at_531 ?_
 refine own_ad X62 hy at_533 ?_
 suffices k63 : own_R p e below (own_PL Z s below n0) T62 m 546 #[.val (.int p1), .val (.int p2), .val (.int p3), .val (.int p4), .val (.long p5), .second, .val (.int p6), .val (.int (own_P oN 0)), .val (.int md), .val (.int (Int32.ofNat kk)), .val (.int (Int32.ofNat pp)), .val (.ref ta), .val (.int jk), .val (.int s13), .val (.int (cond tf 1 0)), .unset, .unset, .unset, .unset, .unset, .unset] [(.int (cond tf 101 108)), (.int ((own_P oN 0) + (27 : Int32))), (.ref ta)] by
  cases tf
  ·
   refine own_iw X62 hy at_534 rfl ?_
   refine own_zy X62 hy at_536 544 ((if0 _ _).trans (teq (by decide : ((0 : Int32) = (0 : Int32)))).1) ?_
   refine own_bp X62 hy at_544 ?_
   exact k63
  ·
   refine own_iw X62 hy at_534 rfl ?_
   refine own_zn X62 hy at_536 ((if0 _ _).trans (feq (by decide : ¬ ((1 : Int32) = (0 : Int32)))).1) ?_
   refine own_bp X62 hy at_539 ?_
   refine own_gt X62 hy at_541 546 ?_
   exact k63
 refine own_put X62 hy hZ e62 N62 F62 ho at_546 (own_Pb (by decide)) (own_gl (cond tf 101 108) rfl (by cases tf <;> decide)) 28 fun T64 h64 N64L X64 e64 N64 F64 => ?_
 clear N62 e62 X62 F62
 refine own_aw X64 hy at_547 rfl rfl ?_
 refine own_iw X64 hy at_549 rfl ?_
 refine own_bp X64 hy at_551 ?_
 refine own_ad X64 hy at_553 ?_
 refine own_bp X64 hy at_554 ?_
 refine own_put X64 hy hZ e64 N64 F64 ho at_556 (own_Pb (by decide)) (own_gl 44 rfl) 29 fun T65 h65 N65L X65 e65 N65 F65 => ?_
 clear N64 e64 X64 F64
 refine own_aw X65 hy at_557 rfl rfl ?_
 refine own_iw X65 hy at_559 rfl ?_
 refine own_bp X65 hy at_561 ?_
 refine own_ad X65 hy at_563 ?_
 refine own_il X65 hy at_564 rfl ?_
 refine own_bp X65 hy at_565 ?_
 refine own_us X65 hy at_567 ?_
 refine own_lc X65 hy hZ hown hw hS e65 N65 F65 (own_y30 hw) (fun z0 z1 z2 => rmWs hw ((p3.toUInt32 >>> ((12 : Int32) &&& 31).toUInt32).toInt32) z0 hcs z1 z2 rfm) (fun _ _ _ q => q) at_568 own_pd10 hml fun r66 T66 L66 hr29 X66 hS hZ hown N66 F66 => ?_
 refine own_put X66 hy hZ rfl N66 F66 ho at_571 (own_Pb (by decide)) (own_wsn hr29) 30 fun T67 h67 N67L X67 e67 N67 F67 => ?_
 refine own_aw X67 hy at_572 rfl rfl ?_
 refine own_iw X67 hy at_574 rfl ?_
 refine own_bp X67 hy at_576 ?_
 refine own_ad X67 hy at_578 ?_
 refine own_bp X67 hy at_579 ?_
 refine own_put X67 hy hZ e67 N67 F67 ho at_581 (own_Pb (by decide)) (own_gl 123 rfl) 31 fun T68 h68 N68L X68 e68 N68 F68 => ?_
 clear N67 e67 X67 F67
 refine own_aw X68 hy at_582 rfl rfl ?_
 refine own_iw X68 hy at_584 rfl ?_
 refine own_bp X68 hy at_586 ?_
 refine own_ad X68 hy at_588 ?_
 refine own_il X68 hy at_589 rfl ?_
 refine own_bp X68 hy at_590 ?_
 refine own_us X68 hy at_592 ?_
 refine own_lc X68 hy hZ hown hw hS e68 N68 F68 (own_y30 hw) (fun z0 z1 z2 => rmWs hw ((p3.toUInt32 >>> ((14 : Int32) &&& 31).toUInt32).toInt32) z0 hcs z1 z2 rfm) (fun _ _ _ q => q) at_593 own_pd10 hml fun r69 T69 L69 hr31 X69 hS hZ hown N69 F69 => ?_
 refine own_put X69 hy hZ rfl N69 F69 ho at_596 (own_Pb (by decide)) (own_wsn hr31) 32 fun T70 h70 N70L X70 e70 N70 F70 => ?_
 refine own_aw X70 hy at_597 rfl rfl ?_
 refine own_iw X70 hy at_599 rfl ?_
 refine own_bp X70 hy at_601 ?_
 refine own_ad X70 hy at_603 ?_
 refine own_bp X70 hy at_604 ?_
 refine own_put X70 hy hZ e70 N70 F70 ho at_606 (own_Pb (by decide)) (own_gl 125 rfl) 33 fun T71 h71 N71L X71 e71 N71 F71 => ?_
 clear N70 e70 X70 F70
 refine own_aw X71 hy at_607 rfl rfl ?_
 refine own_iw X71 hy at_609 rfl ?_
 refine own_bp X71 hy at_611 ?_
 refine own_ad X71 hy at_613 ?_
 refine own_bp X71 hy at_614 ?_
 refine own_put X71 hy hZ e71 N71 F71 ho at_616 (own_Pb (by decide)) (own_gl 44 rfl) 34 fun T72 h72 N72L X72 e72 N72 F72 => ?_
 clear N71 e71 X71 F71
 refine own_aw X72 hy at_617 rfl rfl ?_
 refine own_iw X72 hy at_619 rfl ?_
 refine own_bp X72 hy at_621 ?_
 refine own_ad X72 hy at_623 ?_
 refine own_bp X72 hy at_624 ?_
 refine own_put X72 hy hZ e72 N72 F72 ho at_626 (own_Pb (by decide)) (own_gl 91 rfl) 35 fun T73 h73 N73L X73 e73 N73 F73 => ?_
 clear N72 e72 X72 F72
 refine own_aw X73 hy at_627 rfl rfl ?_
 refine own_iw X73 hy at_629 rfl ?_
 refine own_bp X73 hy at_631 ?_
 refine own_ad X73 hy at_633 ?_
 refine own_bp X73 hy at_634 ?_
 refine own_put X73 hy hZ e73 N73 F73 ho at_636 (own_Pb (by decide)) (own_gl 93 rfl) 36 fun T74 h74 N74L X74 e74 N74 F74 => ?_
 clear N73 e73 X73 F73
 refine own_aw X74 hy at_637 rfl rfl ?_
 refine own_iw X74 hy at_639 rfl ?_
 refine own_bp X74 hy at_641 ?_
 refine own_ad X74 hy at_643 ?_
 refine own_bp X74 hy at_644 ?_
 refine own_put X74 hy hZ e74 N74 F74 ho at_646 (own_Pb (by decide)) (own_gl 93 rfl) 37 fun T75 h75 N75L X75 e75 N75 F75 => ?_
 clear N74 e74 X74 F74
 refine own_aw X75 hy at_647 rfl rfl ?_
 refine own_iw X75 hy at_649 rfl ?_
 refine own_bp X75 hy at_651 ?_
 refine own_ad X75 hy at_653 ?_
 refine own_bp X75 hy at_654 ?_
 refine own_put X75 hy hZ e75 N75 F75 ho at_656 (own_Pb (by decide)) (own_gl 44 rfl) 38 fun T76 h76 N76L X76 e76 N76 F76 => ?_
 clear N75 e75 X75 F75
 refine own_aw X76 hy at_657 rfl rfl ?_
 refine own_iw X76 hy at_659 rfl ?_
 refine own_bp X76 hy at_661 ?_
 refine own_ad X76 hy at_663 ?_
 refine own_bp X76 hy at_664 ?_
 refine own_put X76 hy hZ e76 N76 F76 ho at_666 (own_Pb (by decide)) (own_gl 34 rfl) 39 fun T77 h77 N77L X77 e77 N77 F77 => ?_
 clear N76 e76 X76 F76
 refine own_aw X77 hy at_667 rfl rfl ?_
 refine own_iw X77 hy at_669 rfl ?_
 refine own_bp X77 hy at_671 ?_
 refine own_ad X77 hy at_673 ?_
 refine own_bp X77 hy at_674 ?_
 refine own_put X77 hy hZ e77 N77 F77 ho at_676 (own_Pb (by decide)) (own_gl 34 rfl) 40 fun T78 h78 N78L X78 e78 N78 F78 => ?_
 clear N77 e77 X77 F77
 refine own_aw X78 hy at_677 rfl rfl ?_
 refine own_iw X78 hy at_679 rfl ?_
 refine own_bp X78 hy at_681 ?_
 refine own_ad X78 hy at_683 ?_
 refine own_bp X78 hy at_684 ?_
 refine own_put X78 hy hZ e78 N78 F78 ho at_686 (own_Pb (by decide)) (own_gl 58 rfl) 41 fun T79 h79 N79L X79 e79 N79 F79 => ?_
 clear N78 e78 X78 F78
 refine own_aw X79 hy at_687 rfl rfl ?_
 refine own_iw X79 hy at_689 rfl ?_
 refine own_bp X79 hy at_691 ?_
 refine own_ad X79 hy at_693 ?_
 refine own_bp X79 hy at_694 ?_
 refine own_put X79 hy hZ e79 N79 F79 ho at_696 (own_Pb (by decide)) (own_gl 102 rfl) 42 fun T80 h80 N80L X80 e80 N80 F80 => ?_
 clear N79 e79 X79 F79
 refine own_aw X80 hy at_697 rfl rfl ?_
 refine own_iw X80 hy at_699 rfl ?_
 refine own_bp X80 hy at_701 ?_
 refine own_ad X80 hy at_703 ?_
 refine own_bp X80 hy at_704 ?_
 refine own_put X80 hy hZ e80 N80 F80 ho at_706 (own_Pb (by decide)) (own_gl 97 rfl) 43 fun T81 h81 N81L X81 e81 N81 F81 => ?_
 clear N80 e80 X80 F80
 refine own_aw X81 hy at_707 rfl rfl ?_
 refine own_iw X81 hy at_709 rfl ?_
 refine own_bp X81 hy at_711 ?_
 refine own_ad X81 hy at_713 ?_
 refine own_bp X81 hy at_714 ?_
 refine own_put X81 hy hZ e81 N81 F81 ho at_716 (own_Pb (by decide)) (own_gl 108 rfl) 44 fun T82 h82 N82L X82 e82 N82 F82 => ?_
 clear N81 e81 X81 F81
 refine own_aw X82 hy at_717 rfl rfl ?_
 refine own_iw X82 hy at_719 rfl ?_
 refine own_bp X82 hy at_721 ?_
 refine own_ad X82 hy at_723 ?_
 refine own_bp X82 hy at_724 ?_
 refine own_put X82 hy hZ e82 N82 F82 ho at_726 (own_Pb (by decide)) (own_gl 115 rfl) 45 fun T83 h83 N83L X83 e83 N83 F83 => ?_
 clear N82 e82 X82 F82
 refine own_aw X83 hy at_727 rfl rfl ?_
 refine own_iw X83 hy at_729 rfl ?_
 refine own_bp X83 hy at_731 ?_
 refine own_ad X83 hy at_733 ?_
 refine own_bp X83 hy at_734 ?_
 refine own_put X83 hy hZ e83 N83 F83 ho at_736 (own_Pb (by decide)) (own_gl 101 rfl) 46 fun T84 h84 N84L X84 e84 N84 F84 => ?_
 clear N83 e83 X83 F83
 refine own_aw X84 hy at_737 rfl rfl ?_
 refine own_iw X84 hy at_739 rfl ?_
 refine own_bp X84 hy at_741 ?_
 refine own_ad X84 hy at_743 ?_
 refine own_il X84 hy at_744 rfl ?_
 refine own_bp X84 hy at_745 ?_
 refine own_us X84 hy at_747 ?_
 refine own_lc X84 hy hZ hown hw hS e84 N84 F84 (own_y30 hw) (fun z0 z1 z2 => rmWs hw ((p3.toUInt32 >>> ((16 : Int32) &&& 31).toUInt32).toInt32) z0 hcs z1 z2 rfm) (fun _ _ _ q => q) at_748 own_pd10 hml fun r85 T85 L85 hr46 X85 hS hZ hown N85 F85 => ?_
 refine own_put X85 hy hZ rfl N85 F85 ho at_751 (own_Pb (by decide)) (own_wsn hr46) 47 fun T86 h86 N86L X86 e86 N86 F86 => ?_
 refine own_aw X86 hy at_752 rfl rfl ?_
 refine own_iw X86 hy at_754 rfl ?_
 refine own_bp X86 hy at_756 ?_
 refine own_ad X86 hy at_758 ?_
 refine own_bp X86 hy at_759 ?_
 refine own_put X86 hy hZ e86 N86 F86 ho at_761 (own_Pb (by decide)) (own_gl 125 rfl) 48 fun T87 h87 N87L X87 e87 N87 F87 => ?_
 clear N86 e86 X86 F86
 exact own_law2 hw X87 hy hZ hown hml hrt hlk hS e87 N87 ho hkk hpp hmd hcs rfm F87
theorem own_pn0 : plainName "dev/parlance/JsonGrammarBreaksAtPinLaw" = true := by first | (simp [plainName, overriddenIn]; done) | decide +kernel
theorem own_ef0 (m : MethodId) (x0 x1 x2 x3 : Int32) (x4 : Int64) (x5 : Int32) : entryFrame m #[.int x0, .int x1, .int x2, .int x3, .long x4, .int x5] maxLocals = mkF m 0 #[.val (.int x0), .val (.int x1), .val (.int x2), .val (.int x3), .val (.long x4), .second, .val (.int x5), .unset, .unset, .unset, .unset, .unset, .unset, .unset, .unset, .unset, .unset, .unset, .unset, .unset, .unset] [] := by first | (simp [entryFrame, mkF, argsToLocals, Value.category, maxLocals]; done) | rfl
theorem rm0 (l : Launch) (Z : State) (a0 : Array Value) (hw : own_HW Z a0) (ws : List Jvm.Cond) (p1 p2 p3 p4 : Int32) (p5 : Int64) (p6 cs : Int32) (fm : Value) (h0 : Heap) (n0 : Nat) (Z0 : n0 ≤ h0.size) (hcs : ¬ (cs = (0 : Int32))) (S_cs : Sta Z h0 "java/lang/String" "COMPACT_STRINGS" "Z" (.int cs)) (S_fm : Sta Z h0 "jdk/internal/util/Preconditions" "SIOOBE_FORMATTER" "Ljava/util/function/BiFunction;" fm) (rfm : fm.isRef = true) :
  MetFree l x (head1 (Jvm.Cond.code x code maxLocals ret :: ws) room_1) (fun ar_ U_ => ar_ = #[.int p1, .int p2, .int p3, .int p4, .long p5, .int p6] ∧ Z.Warmed39 U_.vm ∧ U_.heap = h0 ∧ own_In Z U_.vm h0) (fun _ _ _ _ _ => True) (fun _ U_ ou_ V_ => ∃ v_ L_, ou_ = .returned v_ ∧ (v_ = some (.int 1) ∧ Fr n0 L_) ∧ ReturnedEndW U_ ou_ V_ L_ room_1.cells room_1.slots) := by
 have hmd' := own_md4 ((p3.toUInt32 >>> ((2 : Int32) &&& 31).toUInt32).toInt32)
 obtain ⟨md, hMd⟩ : ∃ z, (1 : Int32) + (((p3.toUInt32 >>> ((2 : Int32) &&& 31).toUInt32).toInt32) &&& (3 : Int32)) = z := ⟨_, rfl⟩
 rw [hMd] at hmd'
 obtain ⟨oN, ho, hoN⟩ := own_o3 p3
 obtain ⟨kk, hkk, hKk⟩ := own_k50 p1
 obtain ⟨pp, hpp, hPp⟩ := own_p49 p2
 refine own_fsL (plainFor_of_name own_pn0) (own_ef0 · p1 p2 p3 p4 p5 p6) fun p e s m below meth c s₁ hy hml hZ hown hrt hlk X0 e0 hS hk hIn => ?_
 have N0 := Fr.nil n0
 refine own_il X0 hy at_0 rfl ?_
 refine own_ic X0 hy at_1 ?_
 refine own_an X0 hy at_2 ?_
 refine own_it X0 hy at_3 (l' := #[.val (.int p1), .val (.int p2), .val (.int p3), .val (.int p4), .val (.long p5), .second, .val (.int p6), .val (.int (own_P oN 0)), .unset, .unset, .unset, .unset, .unset, .unset, .unset, .unset, .unset, .unset, .unset, .unset, .unset]) (by rw [← hoN]; rfl) ?_
 refine own_ic X0 hy at_5 ?_
 refine own_il X0 hy at_6 rfl ?_
 refine own_ic X0 hy at_7 ?_
 refine own_us X0 hy at_8 ?_
 refine own_ic X0 hy at_9 ?_
 refine own_an X0 hy at_10 ?_
 refine own_ad X0 hy at_11 ?_
 refine own_it X0 hy at_12 (l' := #[.val (.int p1), .val (.int p2), .val (.int p3), .val (.int p4), .val (.long p5), .second, .val (.int p6), .val (.int (own_P oN 0)), .val (.int md), .unset, .unset, .unset, .unset, .unset, .unset, .unset, .unset, .unset, .unset, .unset, .unset]) (by rw [← hMd]; rfl) ?_
 refine own_il X0 hy at_14 rfl ?_
 refine own_go (fun _ kz => X0.ldcInt hy.1 hown (mvT hZ (own_w hw 0 rfl)) (g := (mkF m 15 #[.val (.int p1), .val (.int p2), .val (.int p3), .val (.int p4), .val (.long p5), .second, .val (.int p6), .val (.int (own_P oN 0)), .val (.int md), .unset, .unset, .unset, .unset, .unset, .unset, .unset, .unset, .unset, .unset, .unset, .unset] [(.int p1)])) rfl (hb hy.2 at_15) _ kz) ?_
 refine own_go (A := s₁.setTop (mkF m 17 #[.val (.int p1), .val (.int p2), .val (.int p3), .val (.int p4), .val (.long p5), .second, .val (.int p6), .val (.int (own_P oN 0)), .val (.int md), .unset, .unset, .unset, .unset, .unset, .unset, .unset, .unset, .unset, .unset, .unset, .unset] [(.int 2147483647), (.int p1)])) (fun _ kz => kz) ?_
 refine own_an X0 hy at_17 ?_
 refine own_bp X0 hy at_18 ?_
 refine own_rm X0 hy at_20 (by decide) ?_
 refine own_it X0 hy at_21 (l' := #[.val (.int p1), .val (.int p2), .val (.int p3), .val (.int p4), .val (.long p5), .second, .val (.int p6), .val (.int (own_P oN 0)), .val (.int md), .val (.int (Int32.ofNat kk)), .unset, .unset, .unset, .unset, .unset, .unset, .unset, .unset, .unset, .unset, .unset]) (by rw [← hKk]; rfl) ?_
 refine own_il X0 hy at_23 rfl ?_
 refine own_go (fun _ kz => X0.ldcInt hy.1 hown (mvT hZ (own_w hw 1 rfl)) (g := (mkF m 24 #[.val (.int p1), .val (.int p2), .val (.int p3), .val (.int p4), .val (.long p5), .second, .val (.int p6), .val (.int (own_P oN 0)), .val (.int md), .val (.int (Int32.ofNat kk)), .unset, .unset, .unset, .unset, .unset, .unset, .unset, .unset, .unset, .unset, .unset] [(.int p2)])) rfl (hb hy.2 at_24) _ kz) ?_
 refine own_go (A := s₁.setTop (mkF m 26 #[.val (.int p1), .val (.int p2), .val (.int p3), .val (.int p4), .val (.long p5), .second, .val (.int p6), .val (.int (own_P oN 0)), .val (.int md), .val (.int (Int32.ofNat kk)), .unset, .unset, .unset, .unset, .unset, .unset, .unset, .unset, .unset, .unset, .unset] [(.int 65535), (.int p2)])) (fun _ kz => kz) ?_
 refine own_an X0 hy at_26 ?_
 refine own_bp X0 hy at_27 ?_
 refine own_rm X0 hy at_29 (by decide) ?_
 refine own_it X0 hy at_30 (l' := #[.val (.int p1), .val (.int p2), .val (.int p3), .val (.int p4), .val (.long p5), .second, .val (.int p6), .val (.int (own_P oN 0)), .val (.int md), .val (.int (Int32.ofNat kk)), .val (.int (Int32.ofNat pp)), .unset, .unset, .unset, .unset, .unset, .unset, .unset, .unset, .unset, .unset]) (by rw [← hPp]; rfl) ?_
 refine own_bp X0 hy at_32 ?_
 obtain ⟨T1, h1, k1, X1, e1, E1, A1, st1⟩ := newP X0 hy.1 hZ (own_w hw 2 rfl) e0 (g := (mkF m 34 #[.val (.int p1), .val (.int p2), .val (.int p3), .val (.int p4), .val (.long p5), .second, .val (.int p6), .val (.int (own_P oN 0)), .val (.int md), .val (.int (Int32.ofNat kk)), .val (.int (Int32.ofNat pp)), .unset, .unset, .unset, .unset, .unset, .unset, .unset, .unset, .unset, .unset] [(.int 52)])) rfl (hb hy.2 at_34) rfl (by decide) (cap := 52) (by decide) (by decide) (by decide) (by decide)
 obtain ⟨b1, gq1⟩ : ∃ z, z = h0.size := ⟨_, rfl⟩
 rw [← gq1] at A1 st1
 have g_b1 : n0 ≤ b1 := Nat.le_trans Z0 (Nat.le_of_eq gq1.symm)
 replace hIn := own_In.ext hIn E1
 replace S_cs := S_cs.ext E1
 replace S_fm := S_fm.ext E1
 have Z1 := Nat.le_trans Z0 E1.1
 replace hk := Nat.le_trans hk E1.1
 have Av_b1 : Arv Z h1 b1 k1 .char (52 : Int32) [(.int 0), (.int 0), (.int 0), (.int 0), (.int 0), (.int 0), (.int 0), (.int 0), (.int 0), (.int 0), (.int 0), (.int 0), (.int 0), (.int 0), (.int 0), (.int 0), (.int 0), (.int 0), (.int 0), (.int 0), (.int 0), (.int 0), (.int 0), (.int 0), (.int 0), (.int 0), (.int 0), (.int 0), (.int 0), (.int 0), (.int 0), (.int 0), (.int 0), (.int 0), (.int 0), (.int 0), (.int 0), (.int 0), (.int 0), (.int 0), (.int 0), (.int 0), (.int 0), (.int 0), (.int 0), (.int 0), (.int 0), (.int 0), (.int 0), (.int 0), (.int 0), (.int 0)] (.int 0) := (Arv.new A1 (by decide)).pad (pad_rep [] (.int 0) 52)
 refine own_go (A := T1.setTop (mkF m 36 #[.val (.int p1), .val (.int p2), .val (.int p3), .val (.int p4), .val (.long p5), .second, .val (.int p6), .val (.int (own_P oN 0)), .val (.int md), .val (.int (Int32.ofNat kk)), .val (.int (Int32.ofNat pp)), .unset, .unset, .unset, .unset, .unset, .unset, .unset, .unset, .unset, .unset] [(.ref b1)])) (fun _ kz => st1 _ kz) ?_
 refine own_ar X1 hy at_36 rfl (l' := #[.val (.int p1), .val (.int p2), .val (.int p3), .val (.int p4), .val (.long p5), .second, .val (.int p6), .val (.int (own_P oN 0)), .val (.int md), .val (.int (Int32.ofNat kk)), .val (.int (Int32.ofNat pp)), .val (.ref b1), .unset, .unset, .unset, .unset, .unset, .unset, .unset, .unset, .unset]) rfl ?_
 refine own_iw X1 hy at_38 rfl ?_
 refine own_bp X1 hy at_40 ?_
 refine own_us X1 hy at_42 ?_
 refine own_go (fun _ kz => X1.ldcInt hy.1 hown (mvT hZ (own_w hw 1 rfl)) (g := (mkF m 43 #[.val (.int p1), .val (.int p2), .val (.int p3), .val (.int p4), .val (.long p5), .second, .val (.int p6), .val (.int (own_P oN 0)), .val (.int md), .val (.int (Int32.ofNat kk)), .val (.int (Int32.ofNat pp)), .val (.ref b1), .unset, .unset, .unset, .unset, .unset, .unset, .unset, .unset, .unset] [(.int ((p6.toUInt32 >>> ((16 : Int32) &&& 31).toUInt32).toInt32))])) rfl (hb hy.2 at_43) _ kz) ?_
 refine own_go (A := T1.setTop (mkF m 45 #[.val (.int p1), .val (.int p2), .val (.int p3), .val (.int p4), .val (.long p5), .second, .val (.int p6), .val (.int (own_P oN 0)), .val (.int md), .val (.int (Int32.ofNat kk)), .val (.int (Int32.ofNat pp)), .val (.ref b1), .unset, .unset, .unset, .unset, .unset, .unset, .unset, .unset, .unset] [(.int 65535), (.int ((p6.toUInt32 >>> ((16 : Int32) &&& 31).toUInt32).toInt32))])) (fun _ kz => kz) ?_
 refine own_an X1 hy at_45 ?_
 refine own_cc X1 hy at_46 ?_
 refine own_it X1 hy at_47 (l' := #[.val (.int p1), .val (.int p2), .val (.int p3), .val (.int p4), .val (.long p5), .second, .val (.int p6), .val (.int (own_P oN 0)), .val (.int md), .val (.int (Int32.ofNat kk)), .val (.int (Int32.ofNat pp)), .val (.ref b1), .val (.int ((((p6.toUInt32 >>> ((16 : Int32) &&& 31).toUInt32).toInt32) &&& (65535 : Int32)).toUInt32.toUInt16.toUInt32.toInt32)), .unset, .unset, .unset, .unset, .unset, .unset, .unset, .unset]) rfl ?_
 exact own_law1 hw X1 hy hZ hown hml hrt hlk hS e1 N0 ho hkk hpp hmd' hcs rfm (tf := true) ⟨_, _, ⟨Z1, hk, hIn, S_cs, S_fm, g_b1, Av_b1, rfl⟩, fun j hj => absurd hj (by omega)⟩
end OwnV
theorem comes_1 {Post : Tables → Env → Array Value → State → Outcome → State → Prop} (hpost : ∀ tb e args s v u, (limb_1_1.after args s (.returned v) u = true ∧ limb_1_2.after args s (.returned v) u = true ∧ True) → ReturnedEndW s (.returned v) u (Jvm.fieldLocs frame_1_writes args s ++ Jvm.arrayLocs frame_1_arrays args s ++ Jvm.staticLocs frame_1_statics s) 32 8448 → Post tb e args s (.returned v) u) :
  ArmFor flags0 classFile x code maxLocals ret World_1 tables_1 room_1 Calls_1 rest_1 Pre_1 Post := by
 intro l hfl _ _ p e ha hc hk s m args below hf hA hF happ hP
 obtain ⟨hcalls, hrest, hpre⟩ := hP
 obtain ⟨-, -, -, hnamed, -, -, -, hat⟩ := (Spec.applies_iff hf).mp happ
 obtain ⟨hg, hn⟩ := and_e (Cond.before_iff.mp (show (Jvm.Cond.and given_1 narrow_1).before args s = true from hpre))
 obtain ⟨hcnt, hg1⟩ := and_e hg
 obtain ⟨ha0, hg2⟩ := and_e hg1
 obtain ⟨ha1, hg3⟩ := and_e hg2
 obtain ⟨ha2, hg4⟩ := and_e hg3
 obtain ⟨ha3, hg5⟩ := and_e hg4
 obtain ⟨ha4, hg6⟩ := and_e hg5
 obtain ⟨w0, w1, w2, w3, w4, w5, rfl⟩ : ∃ w0 w1 w2 w3 w4 w5 : Value, args = #[w0, w1, w2, w3, w4, w5] := by
  have hs : args.size = 6 := by simpa [Cond.value, given_1] using hcnt
  obtain ⟨L⟩ := args
  match L, hs with
  | [w0, w1, w2, w3, w4, w5], _ => exact ⟨w0, w1, w2, w3, w4, w5, rfl⟩
 have hw := fun d (hd : d ∈ tables_1) => atoms_spec (ws := Jvm.Cond.code x code maxLocals ret :: tables_1) hat d (List.mem_cons_of_mem _ hd)
 have hfit : Fit s := fun {y c} hc i hi => by
  obtain ⟨ha, rfl⟩ := Array.getElem?_eq_some_iff.mp hc
  have q := List.all_eq_true.mp ((Array.all_eq_true_iff_forall_mem.mp hF) _ (Array.getElem_mem ha)) i (List.mem_range.mpr hi)
  simpa [Array.getElem?_eq_getElem hi] using q
 obtain ⟨i0, ei0⟩ := is_v ha0
 obtain rfl : w0 = (.int i0) := Option.some.inj ei0
 obtain ⟨i1, ei1⟩ := is_v ha1
 obtain rfl : w1 = (.int i1) := Option.some.inj ei1
 obtain ⟨i2, ei2⟩ := is_v ha2
 obtain rfl : w2 = (.int i2) := Option.some.inj ei2
 obtain ⟨i3, ei3⟩ := is_v ha3
 obtain rfl : w3 = (.int i3) := Option.some.inj ei3
 obtain ⟨i4, ei4⟩ := isL_v ha4
 obtain rfl : w4 = (.long i4) := Option.some.inj ei4
 obtain ⟨i5, ei5⟩ := is_v hg6
 obtain rfl : w5 = (.int i5) := Option.some.inj ei5
 obtain ⟨hsets, hown0⟩ := atoms_of _ (rest_1_c_eq ▸ (show rest_1_c.before _ s = true from hrest))
 have hcw : Jvm.Lit.compactW.before _ s = true := hsets _ (List.mem_of_getElem? (i := 2) rfl)
 have n3 := not_v (Cond.before_iff.mp (hsets _ (List.mem_of_getElem? (i := 2) rfl)))
 obtain ⟨cs, ecs⟩ := is_v (Cond.before_iff.mp (hsets _ (List.mem_of_getElem? (i := 1) rfl)))
 have S_cs : Sta s s.heap "java/lang/String" "COMPACT_STRINGS" "Z" (.int cs) := Sta.start ecs (Or.inl (hsets _ (List.mem_of_getElem? (i := 0) rfl)))
 have hcs : ¬ (cs = (0 : Int32)) := gotF (Cond.eq_ints ecs (Term.int_eval (0))) n3
 obtain ⟨fm, efm, rfm⟩ := isR_v (Cond.before_iff.mp (hsets _ (List.mem_of_getElem? (i := 8) rfl)))
 have S_fm : Sta s s.heap "jdk/internal/util/Preconditions" "SIOOBE_FORMATTER" "Ljava/util/function/BiFunction;" fm := Sta.start efm (Or.inl (hsets _ (List.mem_of_getElem? (i := 7) rfl)))
 have hheld : ∀ q ∈ consts_1, Jvm.Lit.constHeld s q.1 q.2 := fun q hq => hcalls.1 q hq
 obtain ⟨n, o, h1, h2, h3, _, L, rfl, ⟨rfl, N⟩, hq⟩ := rm0 l s _ hw tables_1 i0 i1 i2 i3 i4 i5 cs fm s.heap s.heap.size (Nat.le_refl _) hcs S_cs S_fm rfm p e ha hc hk s m _ below hf ((Spec.applies_iff_loose hf).mp happ).1 ⟨rfl, State.Warmed39.refl s, rfl, own_In.start hw hheld hcw⟩ trivial
 refine ⟨n, _, h1, h2, h3, hpost _ _ _ _ _ _ ⟨Cond.after_iff.mpr rfl, Cond.after_iff.mpr (eq_i res_at (Term.int_eval (1)) rfl), trivial⟩ ⟨hq.1, hq.2.1, hq.2.2.1, (hq.2.2.2.sift fun y hy => Or.inr (N y hy)).mono (by decide) (by decide)⟩⟩
theorem main_1_1 : Claimed_1_1 := comes_1 fun _ _ _ _ _ _ h hF => ⟨h.1, hF⟩
theorem main_1_2 : Claimed_1_2 := comes_1 fun _ _ _ _ _ _ h hF => ⟨h.2.1, hF⟩
end Jvm.Pilot.@@N@@
namespace Jvm.Pilot.@@N@@
open Jvm Jvm.ClassFile Sem Op Lib Jvm.Free Jvm.Stand Jvm.Pilot.@@N@@.Jvm.D
/-! MADE BY PROGRAM (witnessworld.py) out of the Statement's table words and the real class files: 22 classes; the members and pool entries that the words name. The judged class is class 1, her method 1. -/
namespace start1
open Jvm.ClassFile
def u (s : String) : CpInfo := .utf8 (stringToUtf16 s)
/-- a pool by its gaps: so many unusable entries, then the entry; so many at the end -/
def gap : Nat → List CpInfo → List CpInfo
  | 0, r => r
  | n + 1, r => .unusable :: gap n r
def poolList (es : List (Nat × CpInfo)) (last : Nat) : List CpInfo := es.foldr (fun e r => gap e.1 (e.2 :: r)) (gap last [])
def pool (es : List (Nat × CpInfo)) (last : Nat) : Array CpInfo := ⟨poolList es last⟩
def fileOf (pool : Array CpInfo) (this : Nat) (attrs : Array Attribute := #[]) (ms : Array MethodInfo := #[]) (fl : Nat := 33) (sup : Nat := 0) (ifs : Array Nat := #[]) (fds : Array FieldInfo := #[]) : ClassFile where
  minorVersion := 0
  majorVersion := 65
  constantPool := pool
  accessFlags := fl
  thisClass := this
  superClass := sup
  interfaces := ifs
  fields := fds
  methods := ms
  attributes := attrs
def plain (name : String) (sup : Option ClassId) : Class where
  name := name
  kind := .ordinary
  loader := none
  accessFlags := 33
  super := sup
  interfaces := #[]
  cf := none
  fields := #[]
  methods := #[]
  instanceTypes := #[]
  staticTypes := #[]
  resolved := #[]
  callSites := []
  init := .initialized
  statics := none
  mirror := none

def pool0 : Array CpInfo := pool [(5, u "<init>"), (0, u "()V"), (1, .class_ 10), (1, u "java/lang/Object")] 113

def k0c0 : Code := { maxStack := 0, maxLocals := 1, code := object_method_1_code, exceptionTable := #[], attributes := #[] }
def k0m0 : Method := { name := "<init>", desc := "()V", sig := { parameters := [], returnType := none }, accessFlags := 1, code := some k0c0 }
/-- java/lang/Object -/
def k0 : Class := { plain "java/lang/Object" none with
  accessFlags := 33
  interfaces := #[]
  cf := some (fileOf pool0 8 #[] #[{ accessFlags := 1, nameIndex := 5, descriptorIndex := 6, attributes := #[] }] 33 0 #[] #[])
  fields := #[]
  methods := #[k0m0]
  instanceTypes := #[]
  staticTypes := #[]
  resolved := Array.replicate 124 none
  statics := none }

def pool1 : Array CpInfo := pool [(2, .class_ 4), (1, u "java/lang/Object"), (0, u "<init>"), (0, u "()V"), (0, .integer 2147483647), (0, .integer 65535), (0, .string 10), (0, u "\"\\/bfnrt"), (0, .methodref 12 13), (0, .class_ 14), (0, .nameAndType 15 16), (0, u "java/lang/String"), (0, u "charAt"), (0, u "(I)C"), (0, .methodref 18 19), (0, .class_ 20), (0, .nameAndType 21 16), (0, u "dev/parlance/JsonGrammarBreaksAtPinLaw"), (0, u "hexChar"), (0, .methodref 18 23), (0, .nameAndType 24 16), (0, u "ws"), (0, .methodref 18 26), (0, .nameAndType 27 16), (0, u "digit"), (0, .string 29), (0, u "#)x*;<=>"), (0, .methodref 31 32), (0, .class_ 33), (0, .nameAndType 34 35), (0, u "java/lang/Math"), (0, u "min"), (0, u "(II)I"), (0, .class_ 37), (0, u "dev/parlance/JsonGrammar"), (0, .methodref 36 39), (0, .nameAndType 5 40), (0, u "([CII)V"), (0, .methodref 36 42), (0, .nameAndType 43 44), (0, u "breaksAt"), (0, u "(I)I"), (0, .string 46), (0, u " \t\n\r"), (0, .string 48), (0, u "0123456789abcdefABCDEF"), (0, .integer 65280), (2, u "law"), (0, u "(IIIIJI)Z")] 5

def k1m0 : Method := { name := "<init>", desc := "()V", sig := { parameters := [], returnType := none }, accessFlags := 1, code := none }
def k1c1 : Code := { maxStack := 5, maxLocals := 21, code := code, exceptionTable := #[], attributes := #[] }
def k1m1 : Method := { name := "law", desc := "(IIIIJI)Z", sig := { parameters := [.int, .int, .int, .int, .long, .int], returnType := some .boolean }, accessFlags := 9, code := some k1c1 }
def k1c2 : Code := { maxStack := 3, maxLocals := 1, code := method_3_code, exceptionTable := #[], attributes := #[] }
def k1m2 : Method := { name := "digit", desc := "(I)C", sig := { parameters := [.int], returnType := some .char }, accessFlags := 10, code := some k1c2 }
def k1c3 : Code := { maxStack := 3, maxLocals := 1, code := method_4_code, exceptionTable := #[], attributes := #[] }
def k1m3 : Method := { name := "ws", desc := "(I)C", sig := { parameters := [.int], returnType := some .char }, accessFlags := 10, code := some k1c3 }
def k1c4 : Code := { maxStack := 3, maxLocals := 2, code := method_5_code, exceptionTable := #[], attributes := #[] }
def k1m4 : Method := { name := "hexChar", desc := "(I)C", sig := { parameters := [.int], returnType := some .char }, accessFlags := 10, code := some k1c4 }
/-- dev/parlance/JsonGrammarBreaksAtPinLaw -/
def k1 : Class := { plain "dev/parlance/JsonGrammarBreaksAtPinLaw" (some 0) with
  accessFlags := 49
  interfaces := #[]
  cf := some (fileOf pool1 18 #[] #[{ accessFlags := 1, nameIndex := 5, descriptorIndex := 6, attributes := #[] }, { accessFlags := 9, nameIndex := 52, descriptorIndex := 53, attributes := #[] }, { accessFlags := 10, nameIndex := 27, descriptorIndex := 16, attributes := #[] }, { accessFlags := 10, nameIndex := 24, descriptorIndex := 16, attributes := #[] }, { accessFlags := 10, nameIndex := 21, descriptorIndex := 16, attributes := #[] }] 49 2 #[] #[])
  fields := #[]
  methods := #[k1m0, k1m1, k1m2, k1m3, k1m4]
  instanceTypes := #[]
  staticTypes := #[]
  resolved := Array.replicate 59 none
  statics := none }

def pool2 : Array CpInfo := pool [(1, .class_ 2), (0, u "java/io/Serializable"), (0, .class_ 4), (0, u "java/lang/Object")] 2

/-- java/io/Serializable -/
def k2 : Class := { plain "java/io/Serializable" (some 0) with
  accessFlags := 1537
  interfaces := #[]
  cf := some (fileOf pool2 1 #[] #[] 1537 3 #[] #[])
  fields := #[]
  methods := #[]
  instanceTypes := #[]
  staticTypes := #[]
  resolved := Array.replicate 7 none
  statics := none }

def pool3 : Array CpInfo := pool [(1, .class_ 2), (0, u "java/lang/Comparable"), (0, .class_ 4), (0, u "java/lang/Object")] 7

/-- java/lang/Comparable -/
def k3 : Class := { plain "java/lang/Comparable" (some 0) with
  accessFlags := 1537
  interfaces := #[]
  cf := some (fileOf pool3 1 #[] #[] 1537 3 #[] #[])
  fields := #[]
  methods := #[]
  instanceTypes := #[]
  staticTypes := #[]
  resolved := Array.replicate 12 none
  statics := none }

def pool4 : Array CpInfo := pool [(2, .class_ 4), (1, u "java/lang/CharSequence"), (42, .class_ 48), (0, u "java/lang/CharSequence$1CodePointIterator"), (10, .class_ 60), (0, u "java/lang/CharSequence$1CharIterator"), (5, .class_ 67), (0, u "java/lang/Object")] 63

/-- java/lang/CharSequence -/
def k4 : Class := { plain "java/lang/CharSequence" (some 0) with
  accessFlags := 1537
  interfaces := #[]
  cf := some (fileOf pool4 2 #[.nestMembers #[47, 59]] #[] 1537 66 #[] #[])
  fields := #[]
  methods := #[]
  instanceTypes := #[]
  staticTypes := #[]
  resolved := Array.replicate 131 none
  statics := none }

def pool5 : Array CpInfo := pool [(1, .class_ 2), (0, u "java/lang/constant/Constable"), (0, .class_ 4), (0, u "java/lang/Object")] 6

/-- java/lang/constant/Constable -/
def k5 : Class := { plain "java/lang/constant/Constable" (some 0) with
  accessFlags := 1537
  interfaces := #[]
  cf := some (fileOf pool5 1 #[] #[] 1537 3 #[] #[])
  fields := #[]
  methods := #[]
  instanceTypes := #[]
  staticTypes := #[]
  resolved := Array.replicate 11 none
  statics := none }

def pool6 : Array CpInfo := pool [(1, .class_ 2), (0, u "java/lang/constant/ConstantDesc"), (0, .class_ 4), (0, u "java/lang/Object")] 32

/-- java/lang/constant/ConstantDesc -/
def k6 : Class := { plain "java/lang/constant/ConstantDesc" (some 0) with
  accessFlags := 1537
  interfaces := #[]
  cf := some (fileOf pool6 1 #[] #[] 1537 3 #[] #[])
  fields := #[]
  methods := #[]
  instanceTypes := #[]
  staticTypes := #[]
  resolved := Array.replicate 37 none
  statics := none }

def pool7 : Array CpInfo := pool [(2, .class_ 4), (1, u "java/lang/Object"), (0, u "<init>"), (0, u "()V"), (2, .fieldref 10 11), (0, .class_ 12), (0, .nameAndType 13 14), (0, u "java/lang/String"), (0, u "value"), (0, u "[B"), (0, .fieldref 10 16), (0, .nameAndType 17 18), (0, u "coder"), (0, u "B"), (2, u "hash"), (0, u "I"), (2, u "hashIsZero"), (0, u "Z"), (11, .fieldref 10 39), (0, .nameAndType 40 26), (0, u "COMPACT_STRINGS"), (66, .class_ 109), (1, u "java/lang/StringLatin1"), (32, u "()Z"), (191, u "()I"), (0, .methodref 10 336), (0, .nameAndType 17 337), (0, u "()B"), (25, u "([BI)C"), (27, u "(II)V"), (35, u "(I)C"), (64, .methodref 10 493), (0, .nameAndType 494 142), (0, u "isLatin1"), (0, .methodref 107 496), (0, .nameAndType 497 363), (0, u "charAt"), (3, u "checkIndex"), (3, .methodref 10 506), (0, .nameAndType 507 334), (0, u "length"), (67, .class_ 576), (0, u "java/lang/CharSequence"), (22, u "CASE_INSENSITIVE_ORDER"), (0, u "Ljava/util/Comparator;"), (32, .methodref 10 634), (0, .nameAndType 635 636), (0, u "indexOf"), (0, u "(II)I"), (0, .methodref 107 638), (0, .nameAndType 635 639), (0, u "([BIII)I"), (125, u "(I)I"), (287, .fieldref 1054 1055), (0, .class_ 1056), (0, .nameAndType 1057 1058), (0, u "jdk/internal/util/Preconditions"), (0, u "SIOOBE_FORMATTER"), (0, u "Ljava/util/function/BiFunction;"), (0, .methodref 1054 1060), (0, .nameAndType 501 1061), (0, u "(IILjava/util/function/BiFunction;)I"), (39, u "serialPersistentFields"), (0, u "[Ljava/io/ObjectStreamField;"), (0, .class_ 1104), (0, u "java/lang/String$CaseInsensitiveComparator"), (1, .class_ 1107), (0, u "java/io/Serializable"), (0, .class_ 1109), (0, u "java/lang/Comparable"), (0, .class_ 1111), (0, u "java/lang/constant/Constable"), (0, .class_ 1113), (0, u "java/lang/constant/ConstantDesc"), (2, u "serialVersionUID"), (0, u "J"), (3, u "REPL"), (0, u "C"), (2, u "LATIN1"), (1, u "UTF16")] 323

def k7m0 : Method := { name := "<init>", desc := "()V", sig := { parameters := [], returnType := none }, accessFlags := 1, code := none }
def k7c1 : Code := { maxStack := 2, maxLocals := 1, code := jdk_42_method_54_code, exceptionTable := #[], attributes := #[] }
def k7m1 : Method := { name := "length", desc := "()I", sig := { parameters := [], returnType := some .int }, accessFlags := 1, code := some k7c1 }
def k7c2 : Code := { maxStack := 2, maxLocals := 2, code := jdk_42_method_56_code, exceptionTable := #[], attributes := #[] }
def k7m2 : Method := { name := "charAt", desc := "(I)C", sig := { parameters := [.int], returnType := some .char }, accessFlags := 1, code := some k7c2 }
def k7c3 : Code := { maxStack := 3, maxLocals := 2, code := jdk_42_method_79_code, exceptionTable := #[], attributes := #[] }
def k7m3 : Method := { name := "indexOf", desc := "(I)I", sig := { parameters := [.int], returnType := some .int }, accessFlags := 1, code := some k7c3 }
def k7c4 : Code := { maxStack := 4, maxLocals := 3, code := jdk_42_method_80_code, exceptionTable := #[], attributes := #[] }
def k7m4 : Method := { name := "indexOf", desc := "(II)I", sig := { parameters := [.int, .int], returnType := some .int }, accessFlags := 1, code := some k7c4 }
def k7c5 : Code := { maxStack := 1, maxLocals := 1, code := jdk_42_method_152_code, exceptionTable := #[], attributes := #[] }
def k7m5 : Method := { name := "coder", desc := "()B", sig := { parameters := [], returnType := some .byte }, accessFlags := 0, code := some k7c5 }
def k7c6 : Code := { maxStack := 1, maxLocals := 1, code := jdk_42_method_154_code, exceptionTable := #[], attributes := #[] }
def k7m6 : Method := { name := "isLatin1", desc := "()Z", sig := { parameters := [], returnType := some .boolean }, accessFlags := 0, code := some k7c6 }
def k7c7 : Code := { maxStack := 3, maxLocals := 2, code := jdk_42_method_155_code, exceptionTable := #[], attributes := #[] }
def k7m7 : Method := { name := "checkIndex", desc := "(II)V", sig := { parameters := [.int, .int], returnType := none }, accessFlags := 8, code := some k7c7 }
/-- java/lang/String -/
def k7 : Class := { plain "java/lang/String" (some 0) with
  accessFlags := 49
  interfaces := #[2, 3, 4, 5, 6]
  cf := some (fileOf pool7 10 #[.nestMembers #[1103]] #[{ accessFlags := 1, nameIndex := 5, descriptorIndex := 6, attributes := #[] }, { accessFlags := 1, nameIndex := 507, descriptorIndex := 334, attributes := #[] }, { accessFlags := 1, nameIndex := 497, descriptorIndex := 427, attributes := #[] }, { accessFlags := 1, nameIndex := 635, descriptorIndex := 765, attributes := #[] }, { accessFlags := 1, nameIndex := 635, descriptorIndex := 636, attributes := #[] }, { accessFlags := 0, nameIndex := 17, descriptorIndex := 337, attributes := #[] }, { accessFlags := 0, nameIndex := 494, descriptorIndex := 142, attributes := #[] }, { accessFlags := 8, nameIndex := 501, descriptorIndex := 391, attributes := #[] }] 49 2 #[1106, 1108, 575, 1110, 1112] #[{ accessFlags := 18, nameIndex := 13, descriptorIndex := 14, attributes := #[] }, { accessFlags := 18, nameIndex := 17, descriptorIndex := 18, attributes := #[] }, { accessFlags := 2, nameIndex := 21, descriptorIndex := 22, attributes := #[] }, { accessFlags := 2, nameIndex := 25, descriptorIndex := 26, attributes := #[] }, { accessFlags := 26, nameIndex := 1116, descriptorIndex := 1117, attributes := #[] }, { accessFlags := 24, nameIndex := 40, descriptorIndex := 26, attributes := #[] }, { accessFlags := 26, nameIndex := 1101, descriptorIndex := 1102, attributes := #[] }, { accessFlags := 26, nameIndex := 1121, descriptorIndex := 1122, attributes := #[] }, { accessFlags := 25, nameIndex := 599, descriptorIndex := 600, attributes := #[] }, { accessFlags := 24, nameIndex := 1125, descriptorIndex := 18, attributes := #[] }, { accessFlags := 24, nameIndex := 1127, descriptorIndex := 18, attributes := #[] }])
  fields := #[{ name := "value", type := (.array .byte), accessFlags := 18, slot := 0, constantValue := 0 }, { name := "coder", type := .byte, accessFlags := 18, slot := 1, constantValue := 0 }, { name := "hash", type := .int, accessFlags := 2, slot := 2, constantValue := 0 }, { name := "hashIsZero", type := .boolean, accessFlags := 2, slot := 3, constantValue := 0 }, { name := "serialVersionUID", type := .long, accessFlags := 26, slot := 0, constantValue := 0 }, { name := "COMPACT_STRINGS", type := .boolean, accessFlags := 24, slot := 1, constantValue := 0 }, { name := "serialPersistentFields", type := (.array (.object "java/io/ObjectStreamField")), accessFlags := 26, slot := 2, constantValue := 0 }, { name := "REPL", type := .char, accessFlags := 26, slot := 3, constantValue := 0 }, { name := "CASE_INSENSITIVE_ORDER", type := (.object "java/util/Comparator"), accessFlags := 25, slot := 4, constantValue := 0 }, { name := "LATIN1", type := .byte, accessFlags := 24, slot := 5, constantValue := 0 }, { name := "UTF16", type := .byte, accessFlags := 24, slot := 6, constantValue := 0 }]
  methods := #[k7m0, k7m1, k7m2, k7m3, k7m4, k7m5, k7m6, k7m7]
  instanceTypes := #[(.array .byte), .byte, .int, .boolean]
  staticTypes := #[.long, .boolean, (.array (.object "java/io/ObjectStreamField")), .char, (.object "java/util/Comparator"), .byte, .byte]
  resolved := Array.replicate 1451 none
  statics := some 0 }

def pool8 : Array CpInfo := pool [(1, .class_ 2), (0, u "java/lang/String"), (1, .class_ 6), (1, u "java/lang/Object"), (0, u "<init>"), (0, u "()V"), (0, .methodref 1 10), (0, .nameAndType 11 12), (0, u "checkIndex"), (0, u "(II)V"), (1, .class_ 16), (1, u "java/lang/StringLatin1"), (21, .methodref 39 40), (0, .class_ 41), (0, .nameAndType 42 43), (0, u "java/lang/Math"), (0, u "min"), (0, u "(II)I"), (9, u "([BI)C"), (34, .methodref 14 89), (0, .nameAndType 90 91), (0, u "canEncode"), (0, u "(I)Z"), (0, .methodref 39 93), (0, .nameAndType 94 43), (0, u "max"), (0, .methodref 14 96), (0, .nameAndType 97 98), (0, u "indexOfChar"), (0, u "([BIII)I"), (2, u "indexOf"), (19, u "$assertionsDisabled"), (0, u "Z"), (98, .class_ 223), (1, u "java/lang/StringLatin1$LinesSpliterator"), (28, u "charAt"), (137, .class_ 391), (0, u "java/lang/StringLatin1$CharsSpliterator")] 3

def k8m0 : Method := { name := "<init>", desc := "()V", sig := { parameters := [], returnType := none }, accessFlags := 0, code := none }
def k8c1 : Code := { maxStack := 2, maxLocals := 2, code := jdk_43_method_2_code, exceptionTable := #[], attributes := #[] }
def k8m1 : Method := { name := "charAt", desc := "([BI)C", sig := { parameters := [(.array .byte), .int], returnType := some .char }, accessFlags := 9, code := some k8c1 }
def k8c2 : Code := { maxStack := 2, maxLocals := 1, code := jdk_43_method_4_code, exceptionTable := #[], attributes := #[] }
def k8m2 : Method := { name := "canEncode", desc := "(I)Z", sig := { parameters := [.int], returnType := some .boolean }, accessFlags := 9, code := some k8c2 }
def k8c3 : Code := { maxStack := 4, maxLocals := 4, code := jdk_43_method_22_code, exceptionTable := #[], attributes := #[] }
def k8m3 : Method := { name := "indexOf", desc := "([BIII)I", sig := { parameters := [(.array .byte), .int, .int, .int], returnType := some .int }, accessFlags := 9, code := some k8c3 }
def k8c4 : Code := { maxStack := 2, maxLocals := 6, code := jdk_43_method_23_code, exceptionTable := #[], attributes := #[] }
def k8m4 : Method := { name := "indexOfChar", desc := "([BIII)I", sig := { parameters := [(.array .byte), .int, .int, .int], returnType := some .int }, accessFlags := 10, code := some k8c4 }
/-- java/lang/StringLatin1 -/
def k8 : Class := { plain "java/lang/StringLatin1" (some 0) with
  accessFlags := 48
  interfaces := #[]
  cf := some (fileOf pool8 14 #[.nestMembers #[390, 221]] #[{ accessFlags := 0, nameIndex := 7, descriptorIndex := 8, attributes := #[] }, { accessFlags := 9, nameIndex := 252, descriptorIndex := 53, attributes := #[] }, { accessFlags := 9, nameIndex := 90, descriptorIndex := 91, attributes := #[] }, { accessFlags := 9, nameIndex := 101, descriptorIndex := 98, attributes := #[] }, { accessFlags := 10, nameIndex := 97, descriptorIndex := 98, attributes := #[] }] 48 4 #[] #[{ accessFlags := 4120, nameIndex := 121, descriptorIndex := 122, attributes := #[] }])
  fields := #[{ name := "$assertionsDisabled", type := .boolean, accessFlags := 4120, slot := 0, constantValue := 0 }]
  methods := #[k8m0, k8m1, k8m2, k8m3, k8m4]
  instanceTypes := #[]
  staticTypes := #[.boolean]
  resolved := Array.replicate 395 none
  statics := none }

def pool9 : Array CpInfo := pool [(2, .class_ 4), (1, u "java/lang/Object"), (0, u "<init>"), (0, u "()V"), (17, .class_ 26), (1, u "jdk/internal/util/Preconditions"), (6, u "checkIndex"), (21, .class_ 56), (0, u "jdk/internal/util/Preconditions$4"), (57, .class_ 115), (0, u "jdk/internal/util/Preconditions$1"), (7, u "SIOOBE_FORMATTER"), (0, u "Ljava/util/function/BiFunction;"), (0, .class_ 126), (0, u "jdk/internal/util/Preconditions$2"), (3, u "AIOOBE_FORMATTER"), (0, .class_ 132), (0, u "jdk/internal/util/Preconditions$3"), (3, u "IOOBE_FORMATTER"), (41, u "(IILjava/util/function/BiFunction;)I")] 15

def k9m0 : Method := { name := "<init>", desc := "()V", sig := { parameters := [], returnType := none }, accessFlags := 1, code := none }
def k9c1 : Code := { maxStack := 3, maxLocals := 3, code := jdk_41_method_11_code, exceptionTable := #[], attributes := #[] }
def k9m1 : Method := { name := "checkIndex", desc := "(IILjava/util/function/BiFunction;)I", sig := { parameters := [.int, .int, (.object "java/util/function/BiFunction")], returnType := some .int }, accessFlags := 9, code := some k9c1 }
/-- jdk/internal/util/Preconditions -/
def k9 : Class := { plain "jdk/internal/util/Preconditions" (some 0) with
  accessFlags := 33
  interfaces := #[]
  cf := some (fileOf pool9 24 #[.nestMembers #[55, 131, 125, 114]] #[{ accessFlags := 1, nameIndex := 5, descriptorIndex := 6, attributes := #[] }, { accessFlags := 9, nameIndex := 33, descriptorIndex := 178, attributes := #[] }] 33 2 #[] #[{ accessFlags := 25, nameIndex := 123, descriptorIndex := 124, attributes := #[] }, { accessFlags := 25, nameIndex := 130, descriptorIndex := 124, attributes := #[] }, { accessFlags := 25, nameIndex := 136, descriptorIndex := 124, attributes := #[] }])
  fields := #[{ name := "SIOOBE_FORMATTER", type := (.object "java/util/function/BiFunction"), accessFlags := 25, slot := 0, constantValue := 0 }, { name := "AIOOBE_FORMATTER", type := (.object "java/util/function/BiFunction"), accessFlags := 25, slot := 1, constantValue := 0 }, { name := "IOOBE_FORMATTER", type := (.object "java/util/function/BiFunction"), accessFlags := 25, slot := 2, constantValue := 0 }]
  methods := #[k9m0, k9m1]
  instanceTypes := #[]
  staticTypes := #[(.object "java/util/function/BiFunction"), (.object "java/util/function/BiFunction"), (.object "java/util/function/BiFunction")]
  resolved := Array.replicate 194 none
  statics := some 1 }

def pool10 : Array CpInfo := pool [(1, .class_ 2), (0, u "java/lang/Math"), (1, .class_ 6), (1, u "java/lang/Object"), (0, u "<init>"), (0, u "()V"), (89, .class_ 100), (1, u "java/lang/Math$RandomNumberGeneratorHolder"), (71, u "negativeZeroFloatBits"), (0, u "J"), (2, u "negativeZeroDoubleBits"), (21, u "max"), (2, u "min"), (43, u "$assertionsDisabled"), (0, u "Z"), (88, u "(II)I"), (2, u "twoToTheDoubleScaleDown"), (0, u "D"), (4, u "twoToTheDoubleScaleUp"), (9, u "E"), (3, u "PI"), (2, u "TAU"), (2, u "DEGREES_TO_RADIANS"), (0, u "RADIANS_TO_DEGREES")] 94

def k10m0 : Method := { name := "<init>", desc := "()V", sig := { parameters := [], returnType := none }, accessFlags := 2, code := none }
def k10c1 : Code := { maxStack := 2, maxLocals := 2, code := jdk_29_method_65_code, exceptionTable := #[], attributes := #[] }
def k10m1 : Method := { name := "max", desc := "(II)I", sig := { parameters := [.int, .int], returnType := some .int }, accessFlags := 9, code := some k10c1 }
def k10c2 : Code := { maxStack := 2, maxLocals := 2, code := jdk_29_method_69_code, exceptionTable := #[], attributes := #[] }
def k10m2 : Method := { name := "min", desc := "(II)I", sig := { parameters := [.int, .int], returnType := some .int }, accessFlags := 9, code := some k10c2 }
/-- java/lang/Math -/
def k10 : Class := { plain "java/lang/Math" (some 0) with
  accessFlags := 49
  interfaces := #[]
  cf := some (fileOf pool10 1 #[.nestMembers #[98]] #[{ accessFlags := 2, nameIndex := 7, descriptorIndex := 8, attributes := #[] }, { accessFlags := 9, nameIndex := 198, descriptorIndex := 335, attributes := #[] }, { accessFlags := 9, nameIndex := 201, descriptorIndex := 335, attributes := #[] }] 49 4 #[] #[{ accessFlags := 25, nameIndex := 354, descriptorIndex := 339, attributes := #[] }, { accessFlags := 25, nameIndex := 358, descriptorIndex := 339, attributes := #[] }, { accessFlags := 25, nameIndex := 361, descriptorIndex := 339, attributes := #[] }, { accessFlags := 26, nameIndex := 364, descriptorIndex := 339, attributes := #[] }, { accessFlags := 26, nameIndex := 365, descriptorIndex := 339, attributes := #[] }, { accessFlags := 26, nameIndex := 172, descriptorIndex := 173, attributes := #[] }, { accessFlags := 26, nameIndex := 176, descriptorIndex := 173, attributes := #[] }, { accessFlags := 8, nameIndex := 344, descriptorIndex := 339, attributes := #[] }, { accessFlags := 8, nameIndex := 338, descriptorIndex := 339, attributes := #[] }, { accessFlags := 4120, nameIndex := 245, descriptorIndex := 246, attributes := #[] }])
  fields := #[{ name := "E", type := .double, accessFlags := 25, slot := 0, constantValue := 0 }, { name := "PI", type := .double, accessFlags := 25, slot := 1, constantValue := 0 }, { name := "TAU", type := .double, accessFlags := 25, slot := 2, constantValue := 0 }, { name := "DEGREES_TO_RADIANS", type := .double, accessFlags := 26, slot := 3, constantValue := 0 }, { name := "RADIANS_TO_DEGREES", type := .double, accessFlags := 26, slot := 4, constantValue := 0 }, { name := "negativeZeroFloatBits", type := .long, accessFlags := 26, slot := 5, constantValue := 0 }, { name := "negativeZeroDoubleBits", type := .long, accessFlags := 26, slot := 6, constantValue := 0 }, { name := "twoToTheDoubleScaleUp", type := .double, accessFlags := 8, slot := 7, constantValue := 0 }, { name := "twoToTheDoubleScaleDown", type := .double, accessFlags := 8, slot := 8, constantValue := 0 }, { name := "$assertionsDisabled", type := .boolean, accessFlags := 4120, slot := 9, constantValue := 0 }]
  methods := #[k10m0, k10m1, k10m2]
  instanceTypes := #[]
  staticTypes := #[.double, .double, .double, .double, .double, .long, .long, .double, .double, .boolean]
  resolved := Array.replicate 460 none
  statics := none }

def pool11 : Array CpInfo := pool [(1, .methodref 2 3), (0, .class_ 4), (0, .nameAndType 5 6), (0, u "java/lang/Object"), (0, u "<init>"), (0, u "()V"), (0, .fieldref 8 9), (0, .class_ 10), (0, .nameAndType 11 12), (0, u "dev/parlance/JsonGrammar"), (0, u "objects"), (0, u "[Z"), (0, .fieldref 8 14), (0, .nameAndType 15 16), (0, u "text"), (0, u "[C"), (0, .fieldref 8 18), (0, .nameAndType 19 20), (0, u "end"), (0, u "I"), (0, .fieldref 8 22), (0, .nameAndType 23 20), (0, u "maxDepth"), (0, .fieldref 8 25), (0, .nameAndType 26 20), (0, u "depth"), (0, .fieldref 8 28), (0, .nameAndType 29 20), (0, u "at"), (0, .methodref 8 31), (0, .nameAndType 32 33), (0, u "value"), (0, u "()Z"), (0, .methodref 8 35), (0, .nameAndType 36 6), (0, u "skipWhitespace"), (0, .fieldref 8 38), (0, .nameAndType 39 40), (0, u "opened"), (0, u "Z"), (0, .methodref 8 42), (0, .nameAndType 43 33), (0, u "member"), (0, .methodref 8 45), (0, .nameAndType 46 47), (0, u "open"), (0, u "(Z)Z"), (0, .methodref 8 49), (0, .nameAndType 50 33), (0, u "string"), (0, .methodref 8 52), (0, .nameAndType 53 54), (0, u "isDigit"), (0, u "(C)Z"), (0, .methodref 8 56), (0, .nameAndType 57 33), (0, u "number"), (0, .string 59), (0, u "true"), (0, .methodref 8 61), (0, .nameAndType 62 63), (0, u "literal"), (0, u "(Ljava/lang/String;)Z"), (0, .string 65), (0, u "false"), (0, .string 67), (0, u "null"), (6, .methodref 8 75), (0, .nameAndType 76 33), (0, u "escape"), (0, .string 78), (0, u "\"\\/bfnrt"), (0, .methodref 80 81), (0, .class_ 82), (0, .nameAndType 83 84), (0, u "java/lang/String"), (0, u "indexOf"), (0, u "(I)I"), (0, .methodref 8 86), (0, .nameAndType 87 54), (0, u "isHexDigit"), (0, .methodref 8 89), (0, .nameAndType 90 33), (0, u "digits"), (0, .methodref 80 92), (0, .nameAndType 93 94), (0, u "length"), (0, u "()I"), (0, .methodref 80 96), (0, .nameAndType 97 98), (0, u "charAt"), (0, u "(I)C"), (0, u "([CII)V"), (2, u "breaksAt")] 3

def k11c0 : Code := { maxStack := 2, maxLocals := 4, code := prog_6_method_1_code, exceptionTable := #[], attributes := #[] }
def k11m0 : Method := { name := "<init>", desc := "([CII)V", sig := { parameters := [(.array .char), .int, .int], returnType := none }, accessFlags := 0, code := some k11c0 }
def k11c1 : Code := { maxStack := 3, maxLocals := 5, code := prog_6_method_2_code, exceptionTable := #[], attributes := #[] }
def k11m1 : Method := { name := "breaksAt", desc := "(I)I", sig := { parameters := [.int], returnType := some .int }, accessFlags := 0, code := some k11c1 }
def k11c2 : Code := { maxStack := 3, maxLocals := 3, code := prog_6_method_3_code, exceptionTable := #[], attributes := #[] }
def k11m2 : Method := { name := "value", desc := "()Z", sig := { parameters := [], returnType := some .boolean }, accessFlags := 2, code := some k11c2 }
def k11c3 : Code := { maxStack := 3, maxLocals := 1, code := prog_6_method_4_code, exceptionTable := #[], attributes := #[] }
def k11m3 : Method := { name := "member", desc := "()Z", sig := { parameters := [], returnType := some .boolean }, accessFlags := 2, code := some k11c3 }
def k11c4 : Code := { maxStack := 5, maxLocals := 2, code := prog_6_method_5_code, exceptionTable := #[], attributes := #[] }
def k11m4 : Method := { name := "open", desc := "(Z)Z", sig := { parameters := [.boolean], returnType := some .boolean }, accessFlags := 2, code := some k11c4 }
def k11c5 : Code := { maxStack := 3, maxLocals := 1, code := prog_6_method_6_code, exceptionTable := #[], attributes := #[] }
def k11m5 : Method := { name := "string", desc := "()Z", sig := { parameters := [], returnType := some .boolean }, accessFlags := 2, code := some k11c5 }
def k11c6 : Code := { maxStack := 3, maxLocals := 3, code := prog_6_method_7_code, exceptionTable := #[], attributes := #[] }
def k11m6 : Method := { name := "escape", desc := "()Z", sig := { parameters := [], returnType := some .boolean }, accessFlags := 2, code := some k11c6 }
def k11c7 : Code := { maxStack := 3, maxLocals := 1, code := prog_6_method_8_code, exceptionTable := #[], attributes := #[] }
def k11m7 : Method := { name := "number", desc := "()Z", sig := { parameters := [], returnType := some .boolean }, accessFlags := 2, code := some k11c7 }
def k11c8 : Code := { maxStack := 3, maxLocals := 2, code := prog_6_method_9_code, exceptionTable := #[], attributes := #[] }
def k11m8 : Method := { name := "digits", desc := "()Z", sig := { parameters := [], returnType := some .boolean }, accessFlags := 2, code := some k11c8 }
def k11c9 : Code := { maxStack := 3, maxLocals := 3, code := prog_6_method_10_code, exceptionTable := #[], attributes := #[] }
def k11m9 : Method := { name := "literal", desc := "(Ljava/lang/String;)Z", sig := { parameters := [(.object "java/lang/String")], returnType := some .boolean }, accessFlags := 2, code := some k11c9 }
def k11c10 : Code := { maxStack := 3, maxLocals := 1, code := prog_6_method_11_code, exceptionTable := #[], attributes := #[] }
def k11m10 : Method := { name := "skipWhitespace", desc := "()V", sig := { parameters := [], returnType := none }, accessFlags := 2, code := some k11c10 }
def k11c11 : Code := { maxStack := 2, maxLocals := 1, code := prog_6_method_12_code, exceptionTable := #[], attributes := #[] }
def k11m11 : Method := { name := "isDigit", desc := "(C)Z", sig := { parameters := [.char], returnType := some .boolean }, accessFlags := 10, code := some k11c11 }
def k11c12 : Code := { maxStack := 2, maxLocals := 2, code := prog_6_method_13_code, exceptionTable := #[], attributes := #[] }
def k11m12 : Method := { name := "isHexDigit", desc := "(C)Z", sig := { parameters := [.char], returnType := some .boolean }, accessFlags := 10, code := some k11c12 }
/-- dev/parlance/JsonGrammar -/
def k11 : Class := { plain "dev/parlance/JsonGrammar" (some 0) with
  accessFlags := 48
  interfaces := #[]
  cf := some (fileOf pool11 8 #[] #[{ accessFlags := 0, nameIndex := 5, descriptorIndex := 99, attributes := #[] }, { accessFlags := 0, nameIndex := 102, descriptorIndex := 84, attributes := #[] }, { accessFlags := 2, nameIndex := 32, descriptorIndex := 33, attributes := #[] }, { accessFlags := 2, nameIndex := 43, descriptorIndex := 33, attributes := #[] }, { accessFlags := 2, nameIndex := 46, descriptorIndex := 47, attributes := #[] }, { accessFlags := 2, nameIndex := 50, descriptorIndex := 33, attributes := #[] }, { accessFlags := 2, nameIndex := 76, descriptorIndex := 33, attributes := #[] }, { accessFlags := 2, nameIndex := 57, descriptorIndex := 33, attributes := #[] }, { accessFlags := 2, nameIndex := 90, descriptorIndex := 33, attributes := #[] }, { accessFlags := 2, nameIndex := 62, descriptorIndex := 63, attributes := #[] }, { accessFlags := 2, nameIndex := 36, descriptorIndex := 6, attributes := #[] }, { accessFlags := 10, nameIndex := 53, descriptorIndex := 54, attributes := #[] }, { accessFlags := 10, nameIndex := 87, descriptorIndex := 54, attributes := #[] }] 48 2 #[] #[{ accessFlags := 18, nameIndex := 15, descriptorIndex := 16, attributes := #[] }, { accessFlags := 18, nameIndex := 19, descriptorIndex := 20, attributes := #[] }, { accessFlags := 18, nameIndex := 23, descriptorIndex := 20, attributes := #[] }, { accessFlags := 2, nameIndex := 11, descriptorIndex := 12, attributes := #[] }, { accessFlags := 2, nameIndex := 26, descriptorIndex := 20, attributes := #[] }, { accessFlags := 2, nameIndex := 39, descriptorIndex := 40, attributes := #[] }, { accessFlags := 2, nameIndex := 29, descriptorIndex := 20, attributes := #[] }])
  fields := #[{ name := "text", type := (.array .char), accessFlags := 18, slot := 0, constantValue := 0 }, { name := "end", type := .int, accessFlags := 18, slot := 1, constantValue := 0 }, { name := "maxDepth", type := .int, accessFlags := 18, slot := 2, constantValue := 0 }, { name := "objects", type := (.array .boolean), accessFlags := 2, slot := 3, constantValue := 0 }, { name := "depth", type := .int, accessFlags := 2, slot := 4, constantValue := 0 }, { name := "opened", type := .boolean, accessFlags := 2, slot := 5, constantValue := 0 }, { name := "at", type := .int, accessFlags := 2, slot := 6, constantValue := 0 }]
  methods := #[k11m0, k11m1, k11m2, k11m3, k11m4, k11m5, k11m6, k11m7, k11m8, k11m9, k11m10, k11m11, k11m12]
  instanceTypes := #[(.array .char), .int, .int, (.array .boolean), .int, .boolean, .int]
  staticTypes := #[]
  resolved := Array.replicate 106 none
  statics := none }

def pool12 : Array CpInfo := pool [(9, u "<init>"), (6, .class_ 18), (1, u "java/lang/Object"), (0, u "()V"), (1, .class_ 23), (1, u "jdk/internal/util/ArraysSupport"), (0, u "LOG2_ARRAY_LONG_INDEX_SCALE"), (0, u "I"), (2, u "U"), (0, u "Ljdk/internal/misc/Unsafe;"), (8, u "BIG_ENDIAN"), (0, u "Z"), (8, u "LOG2_BYTE_BIT_SIZE"), (4, u "LOG2_ARRAY_INT_INDEX_SCALE"), (54, u "JLA"), (0, u "Ljdk/internal/access/JavaLangAccess;"), (11, u "LOG2_ARRAY_BOOLEAN_INDEX_SCALE"), (9, u "LOG2_ARRAY_BYTE_INDEX_SCALE"), (5, u "LOG2_ARRAY_CHAR_INDEX_SCALE"), (5, u "LOG2_ARRAY_SHORT_INDEX_SCALE"), (18, u "LOG2_ARRAY_FLOAT_INDEX_SCALE"), (24, u "LOG2_ARRAY_DOUBLE_INDEX_SCALE"), (89, u "T_BOOLEAN"), (2, u "T_CHAR"), (1, u "T_FLOAT"), (1, u "T_DOUBLE"), (1, u "T_BYTE"), (1, u "T_SHORT"), (1, u "T_INT"), (1, u "T_LONG"), (1, u "SOFT_MAX_ARRAY_LENGTH")] 83

def k12m0 : Method := { name := "<init>", desc := "()V", sig := { parameters := [], returnType := none }, accessFlags := 2, code := none }
/-- jdk/internal/util/ArraysSupport -/
def k12 : Class := { plain "jdk/internal/util/ArraysSupport" (some 0) with
  accessFlags := 33
  interfaces := #[]
  cf := some (fileOf pool12 21 #[] #[{ accessFlags := 2, nameIndex := 9, descriptorIndex := 19, attributes := #[] }] 33 16 #[] #[{ accessFlags := 24, nameIndex := 28, descriptorIndex := 29, attributes := #[] }, { accessFlags := 26, nameIndex := 38, descriptorIndex := 39, attributes := #[] }, { accessFlags := 25, nameIndex := 121, descriptorIndex := 25, attributes := #[] }, { accessFlags := 25, nameIndex := 131, descriptorIndex := 25, attributes := #[] }, { accessFlags := 25, nameIndex := 137, descriptorIndex := 25, attributes := #[] }, { accessFlags := 25, nameIndex := 143, descriptorIndex := 25, attributes := #[] }, { accessFlags := 25, nameIndex := 53, descriptorIndex := 25, attributes := #[] }, { accessFlags := 25, nameIndex := 24, descriptorIndex := 25, attributes := #[] }, { accessFlags := 25, nameIndex := 162, descriptorIndex := 25, attributes := #[] }, { accessFlags := 25, nameIndex := 187, descriptorIndex := 25, attributes := #[] }, { accessFlags := 26, nameIndex := 48, descriptorIndex := 25, attributes := #[] }, { accessFlags := 25, nameIndex := 277, descriptorIndex := 25, attributes := #[] }, { accessFlags := 25, nameIndex := 280, descriptorIndex := 25, attributes := #[] }, { accessFlags := 25, nameIndex := 282, descriptorIndex := 25, attributes := #[] }, { accessFlags := 25, nameIndex := 284, descriptorIndex := 25, attributes := #[] }, { accessFlags := 25, nameIndex := 286, descriptorIndex := 25, attributes := #[] }, { accessFlags := 25, nameIndex := 288, descriptorIndex := 25, attributes := #[] }, { accessFlags := 25, nameIndex := 290, descriptorIndex := 25, attributes := #[] }, { accessFlags := 25, nameIndex := 292, descriptorIndex := 25, attributes := #[] }, { accessFlags := 26, nameIndex := 108, descriptorIndex := 109, attributes := #[] }, { accessFlags := 25, nameIndex := 294, descriptorIndex := 25, attributes := #[] }])
  fields := #[{ name := "U", type := (.object "jdk/internal/misc/Unsafe"), accessFlags := 24, slot := 0, constantValue := 0 }, { name := "BIG_ENDIAN", type := .boolean, accessFlags := 26, slot := 1, constantValue := 0 }, { name := "LOG2_ARRAY_BOOLEAN_INDEX_SCALE", type := .int, accessFlags := 25, slot := 2, constantValue := 0 }, { name := "LOG2_ARRAY_BYTE_INDEX_SCALE", type := .int, accessFlags := 25, slot := 3, constantValue := 0 }, { name := "LOG2_ARRAY_CHAR_INDEX_SCALE", type := .int, accessFlags := 25, slot := 4, constantValue := 0 }, { name := "LOG2_ARRAY_SHORT_INDEX_SCALE", type := .int, accessFlags := 25, slot := 5, constantValue := 0 }, { name := "LOG2_ARRAY_INT_INDEX_SCALE", type := .int, accessFlags := 25, slot := 6, constantValue := 0 }, { name := "LOG2_ARRAY_LONG_INDEX_SCALE", type := .int, accessFlags := 25, slot := 7, constantValue := 0 }, { name := "LOG2_ARRAY_FLOAT_INDEX_SCALE", type := .int, accessFlags := 25, slot := 8, constantValue := 0 }, { name := "LOG2_ARRAY_DOUBLE_INDEX_SCALE", type := .int, accessFlags := 25, slot := 9, constantValue := 0 }, { name := "LOG2_BYTE_BIT_SIZE", type := .int, accessFlags := 26, slot := 10, constantValue := 0 }, { name := "T_BOOLEAN", type := .int, accessFlags := 25, slot := 11, constantValue := 0 }, { name := "T_CHAR", type := .int, accessFlags := 25, slot := 12, constantValue := 0 }, { name := "T_FLOAT", type := .int, accessFlags := 25, slot := 13, constantValue := 0 }, { name := "T_DOUBLE", type := .int, accessFlags := 25, slot := 14, constantValue := 0 }, { name := "T_BYTE", type := .int, accessFlags := 25, slot := 15, constantValue := 0 }, { name := "T_SHORT", type := .int, accessFlags := 25, slot := 16, constantValue := 0 }, { name := "T_INT", type := .int, accessFlags := 25, slot := 17, constantValue := 0 }, { name := "T_LONG", type := .int, accessFlags := 25, slot := 18, constantValue := 0 }, { name := "JLA", type := (.object "jdk/internal/access/JavaLangAccess"), accessFlags := 26, slot := 19, constantValue := 0 }, { name := "SOFT_MAX_ARRAY_LENGTH", type := .int, accessFlags := 25, slot := 20, constantValue := 0 }]
  methods := #[k12m0]
  instanceTypes := #[]
  staticTypes := #[(.object "jdk/internal/misc/Unsafe"), .boolean, .int, .int, .int, .int, .int, .int, .int, .int, .int, .int, .int, .int, .int, .int, .int, .int, .int, (.object "jdk/internal/access/JavaLangAccess"), .int]
  resolved := Array.replicate 378 none
  statics := none }

def pool13 : Array CpInfo := pool [(1, u "java/lang/Cloneable"), (0, .class_ 1), (0, u "java/lang/Object"), (0, .class_ 3)] 3

/-- java/lang/Cloneable -/
def k13 : Class := { plain "java/lang/Cloneable" (some 0) with
  accessFlags := 1537
  interfaces := #[]
  cf := some (fileOf pool13 2 #[] #[] 1537 4 #[] #[])
  fields := #[]
  methods := #[]
  instanceTypes := #[]
  staticTypes := #[]
  resolved := Array.replicate 8 none
  statics := none }

/-- the primitive boolean -/
def k14 : Class := { plain "boolean" none with kind := .primitive 'Z', accessFlags := 0x411 }
/-- [Z -/
def k15 : Class := { plain "[Z" (some 0) with kind := .array 14 .boolean, interfaces := #[13, 2], accessFlags := 1041 }

/-- the primitive byte -/
def k16 : Class := { plain "byte" none with kind := .primitive 'B', accessFlags := 0x411 }
/-- [B -/
def k17 : Class := { plain "[B" (some 0) with kind := .array 16 .byte, interfaces := #[13, 2], accessFlags := 1041 }

/-- the primitive char -/
def k18 : Class := { plain "char" none with kind := .primitive 'C', accessFlags := 0x411 }
/-- [C -/
def k19 : Class := { plain "[C" (some 0) with kind := .array 18 .char, interfaces := #[13, 2], accessFlags := 1041 }

/-- the primitive int -/
def k20 : Class := { plain "int" none with kind := .primitive 'I', accessFlags := 0x411 }
/-- [I -/
def k21 : Class := { plain "[I" (some 0) with kind := .array 20 .int, interfaces := #[13, 2], accessFlags := 1041 }

def heap : Heap := #[{ cls := 7, slots := #[.long 0, .int 1, .null, .int 0, .null, .int 0, .int 0], vm := .statics 7 },
  { cls := 9, slots := #[.null, .null, .null], vm := .statics 9 }]
def classes : Array Class := #[k0, k1, k2, k3, k4, k5, k6, k7, k8, k9, k10, k11, k12, k13, k14, k15, k16, k17, k18, k19, k20, k21]
def interned : List (Array UInt16 × Addr) := []
def slotsUsed : Nat := 10
def theMethod : MethodId := ⟨1, 1⟩
def args0 : Array Value := #[.int 60, .int 200, .int 5, .int 1, .long 7, .int 65]
def aboutOver (below : List Frame) : State where
  vm := { classes := classes, interned := interned.toArray }
  heap := heap
  slotsUsed := slotsUsed
  threads := #[{ frames := .invoking theMethod args0 :: below }]
def below0 : List Frame := [.native { method := ⟨0, 0⟩, args := #[] }]
def about1 : State := aboutOver below0
def p0 : Program := .bare "" "" ""
def e0 : Env := launch0.env 0 0 0
theorem w_frames : about1.frames = Frame.invoking theMethod args0 :: below0 := rfl
set_option maxRecDepth 65536 in
theorem w_args : argsFit about1.vm theMethod args0 = true := by decide +kernel
set_option maxRecDepth 65536 in
theorem w_heap : heapFits about1 = true := by decide +kernel
set_option maxRecDepth 65536 in
theorem w_runnable : about1.curStatus? = some .runnable := by decide +kernel
set_option maxRecDepth 65536 in
theorem w_alone : about1.alone = true := by decide +kernel
set_option maxRecDepth 65536 in
theorem w_named : about1.methodNamed? x = some theMethod := by decide +kernel
set_option maxRecDepth 65536 in
theorem w_hears : about1.hears theMethod below0 = true := by decide +kernel
set_option maxRecDepth 65536 in
theorem w_ripe : about1.ripe theMethod args0 below0 = true := by decide +kernel
theorem w_running : about1.status = .running := rfl
set_option maxRecDepth 65536 in
theorem w_room : about1.hasRoom e0.platform room_1 = true :=
  launch0.hasRoom_least _ room_1 (by decide +kernel) (by decide +kernel) (by decide +kernel) (by decide +kernel) (by decide +kernel) (by decide +kernel)
theorem allAtoms_all (ts : List Jvm.Cond) (a : Array Jvm.Value) (st : Jvm.State) : (allAtoms ts).before a st = ts.all (fun c => c.before a st) := by
  induction ts with
  | nil => rfl
  | cons c t ih =>
    show (Jvm.Cond.and c (allAtoms t)).before a st = _
    rw [Jvm.Cond.before_and, ih, List.all_cons]
def words1 : List Jvm.Cond := Jvm.Cond.code x code maxLocals ret :: tables_1
/-- a 'code' word, met by the world's own term for the bytes: nothing is compared byte by byte -/
theorem code_word {y : MethodName} {bytes : ByteArray} {mx : Nat} {rt : Option FieldType} {a : Array Value} {s : State} {m : MethodId} {meth : Method} {c : Code} (h1 : s.methodNamed? y = some m) (h2 : s.vm.method? m = some meth) (h3 : meth.code = some c) (h4 : c.code = bytes)
    (h5 : (c.maxLocals == mx && c.exceptionTable.isEmpty && decide (c.maxStack ≤ mostOperands) && decide (meth.sig.returnType = rt) && !meth.locks && decide (parseMethodDescriptor y.desc = some meth.sig)) = true) : (Jvm.Cond.code y bytes mx rt).before a s = true := by
  simp only [Bool.and_eq_true, beq_iff_eq, Bool.not_eq_true', decide_eq_true_eq] at h5
  obtain ⟨⟨⟨⟨⟨g1, g2⟩, g3⟩, g4⟩, g5⟩, g6⟩ := h5
  simp [Cond.before, Cond.holds, Cond.value, h1, h2, h3, h4, g1, g2, g3, g4, g5, g6]
def isCode : Jvm.Cond → Bool
  | .code _ _ _ _ => true
  | _ => false
theorem all_split {L : List Jvm.Cond} {P : Jvm.Cond → Bool} (h1 : L.all (fun c => isCode c || P c) = true) (h2 : ∀ c ∈ L.filter isCode, P c = true) : L.all P = true := by
  refine List.all_eq_true.mpr fun c hc => ?_
  have h := List.all_eq_true.mp h1 c hc
  rcases Bool.eq_false_or_eq_true (isCode c) with hi | hi
  · exact h2 c (List.mem_filter.mpr ⟨hc, hi⟩)
  · simpa [hi] using h
set_option maxRecDepth 65536 in
theorem w_c0 : (Jvm.Cond.code x code maxLocals ret).before args0 about1 = true := code_word (m := ⟨1, 1⟩) (meth := k1m1) (c := k1c1) (by decide +kernel) rfl rfl rfl (by decide +kernel)
set_option maxRecDepth 65536 in
theorem w_c1 : (Jvm.Cond.code ({ cls := "java/lang/String", name := "charAt", desc := "(I)C" } : Jvm.MethodName) jdk_42_method_56_code (2 : Nat) (Option.some Jvm.ClassFile.FieldType.char)).before args0 about1 = true := code_word (m := ⟨7, 2⟩) (meth := k7m2) (c := k7c2) (by decide +kernel) rfl rfl rfl (by decide +kernel)
set_option maxRecDepth 65536 in
theorem w_c2 : (Jvm.Cond.code ({ cls := "java/lang/String", name := "isLatin1", desc := "()Z" } : Jvm.MethodName) jdk_42_method_154_code (1 : Nat) (Option.some Jvm.ClassFile.FieldType.boolean)).before args0 about1 = true := code_word (m := ⟨7, 6⟩) (meth := k7m6) (c := k7c6) (by decide +kernel) rfl rfl rfl (by decide +kernel)
set_option maxRecDepth 65536 in
theorem w_c3 : (Jvm.Cond.code ({ cls := "java/lang/StringLatin1", name := "charAt", desc := "([BI)C" } : Jvm.MethodName) jdk_43_method_2_code (2 : Nat) (Option.some Jvm.ClassFile.FieldType.char)).before args0 about1 = true := code_word (m := ⟨8, 1⟩) (meth := k8m1) (c := k8c1) (by decide +kernel) rfl rfl rfl (by decide +kernel)
set_option maxRecDepth 65536 in
theorem w_c4 : (Jvm.Cond.code ({ cls := "java/lang/String", name := "checkIndex", desc := "(II)V" } : Jvm.MethodName) jdk_42_method_155_code (2 : Nat) (Option.none : Option Jvm.ClassFile.FieldType)).before args0 about1 = true := code_word (m := ⟨7, 7⟩) (meth := k7m7) (c := k7c7) (by decide +kernel) rfl rfl rfl (by decide +kernel)
set_option maxRecDepth 65536 in
theorem w_c5 : (Jvm.Cond.code ({ cls := "jdk/internal/util/Preconditions", name := "checkIndex", desc := "(IILjava/util/function/BiFunction;)I" } : Jvm.MethodName) jdk_41_method_11_code (3 : Nat) (Option.some Jvm.ClassFile.FieldType.int)).before args0 about1 = true := code_word (m := ⟨9, 1⟩) (meth := k9m1) (c := k9c1) (by decide +kernel) rfl rfl rfl (by decide +kernel)
set_option maxRecDepth 65536 in
theorem w_c6 : (Jvm.Cond.code ({ cls := "dev/parlance/JsonGrammarBreaksAtPinLaw", name := "hexChar", desc := "(I)C" } : Jvm.MethodName) method_5_code (2 : Nat) (Option.some Jvm.ClassFile.FieldType.char)).before args0 about1 = true := code_word (m := ⟨1, 4⟩) (meth := k1m4) (c := k1c4) (by decide +kernel) rfl rfl rfl (by decide +kernel)
set_option maxRecDepth 65536 in
theorem w_c7 : (Jvm.Cond.code ({ cls := "dev/parlance/JsonGrammarBreaksAtPinLaw", name := "ws", desc := "(I)C" } : Jvm.MethodName) method_4_code (1 : Nat) (Option.some Jvm.ClassFile.FieldType.char)).before args0 about1 = true := code_word (m := ⟨1, 3⟩) (meth := k1m3) (c := k1c3) (by decide +kernel) rfl rfl rfl (by decide +kernel)
set_option maxRecDepth 65536 in
theorem w_c8 : (Jvm.Cond.code ({ cls := "dev/parlance/JsonGrammarBreaksAtPinLaw", name := "digit", desc := "(I)C" } : Jvm.MethodName) method_3_code (1 : Nat) (Option.some Jvm.ClassFile.FieldType.char)).before args0 about1 = true := code_word (m := ⟨1, 2⟩) (meth := k1m2) (c := k1c2) (by decide +kernel) rfl rfl rfl (by decide +kernel)
set_option maxRecDepth 65536 in
theorem w_c9 : (Jvm.Cond.code ({ cls := "java/lang/Math", name := "min", desc := "(II)I" } : Jvm.MethodName) jdk_29_method_69_code (2 : Nat) (Option.some Jvm.ClassFile.FieldType.int)).before args0 about1 = true := code_word (m := ⟨10, 2⟩) (meth := k10m2) (c := k10c2) (by decide +kernel) rfl rfl rfl (by decide +kernel)
set_option maxRecDepth 65536 in
theorem w_c10 : (Jvm.Cond.code ({ cls := "dev/parlance/JsonGrammar", name := "<init>", desc := "([CII)V" } : Jvm.MethodName) prog_6_method_1_code (4 : Nat) (Option.none : Option Jvm.ClassFile.FieldType)).before args0 about1 = true := code_word (m := ⟨11, 0⟩) (meth := k11m0) (c := k11c0) (by decide +kernel) rfl rfl rfl (by decide +kernel)
set_option maxRecDepth 65536 in
theorem w_c11 : (Jvm.Cond.code ({ cls := "java/lang/Object", name := "<init>", desc := "()V" } : Jvm.MethodName) object_method_1_code (1 : Nat) (Option.none : Option Jvm.ClassFile.FieldType)).before args0 about1 = true := code_word (m := ⟨0, 0⟩) (meth := k0m0) (c := k0c0) (by decide +kernel) rfl rfl rfl (by decide +kernel)
set_option maxRecDepth 65536 in
theorem w_c12 : (Jvm.Cond.code ({ cls := "dev/parlance/JsonGrammar", name := "breaksAt", desc := "(I)I" } : Jvm.MethodName) prog_6_method_2_code (5 : Nat) (Option.some Jvm.ClassFile.FieldType.int)).before args0 about1 = true := code_word (m := ⟨11, 1⟩) (meth := k11m1) (c := k11c1) (by decide +kernel) rfl rfl rfl (by decide +kernel)
set_option maxRecDepth 65536 in
theorem w_c13 : (Jvm.Cond.code ({ cls := "dev/parlance/JsonGrammar", name := "value", desc := "()Z" } : Jvm.MethodName) prog_6_method_3_code (3 : Nat) (Option.some Jvm.ClassFile.FieldType.boolean)).before args0 about1 = true := code_word (m := ⟨11, 2⟩) (meth := k11m2) (c := k11c2) (by decide +kernel) rfl rfl rfl (by decide +kernel)
set_option maxRecDepth 65536 in
theorem w_c14 : (Jvm.Cond.code ({ cls := "dev/parlance/JsonGrammar", name := "skipWhitespace", desc := "()V" } : Jvm.MethodName) prog_6_method_11_code (1 : Nat) (Option.none : Option Jvm.ClassFile.FieldType)).before args0 about1 = true := code_word (m := ⟨11, 10⟩) (meth := k11m10) (c := k11c10) (by decide +kernel) rfl rfl rfl (by decide +kernel)
set_option maxRecDepth 65536 in
theorem w_c15 : (Jvm.Cond.code ({ cls := "dev/parlance/JsonGrammar", name := "isDigit", desc := "(C)Z" } : Jvm.MethodName) prog_6_method_12_code (1 : Nat) (Option.some Jvm.ClassFile.FieldType.boolean)).before args0 about1 = true := code_word (m := ⟨11, 11⟩) (meth := k11m11) (c := k11c11) (by decide +kernel) rfl rfl rfl (by decide +kernel)
set_option maxRecDepth 65536 in
theorem w_c16 : (Jvm.Cond.code ({ cls := "dev/parlance/JsonGrammar", name := "open", desc := "(Z)Z" } : Jvm.MethodName) prog_6_method_5_code (2 : Nat) (Option.some Jvm.ClassFile.FieldType.boolean)).before args0 about1 = true := code_word (m := ⟨11, 4⟩) (meth := k11m4) (c := k11c4) (by decide +kernel) rfl rfl rfl (by decide +kernel)
set_option maxRecDepth 65536 in
theorem w_c17 : (Jvm.Cond.code ({ cls := "dev/parlance/JsonGrammar", name := "member", desc := "()Z" } : Jvm.MethodName) prog_6_method_4_code (1 : Nat) (Option.some Jvm.ClassFile.FieldType.boolean)).before args0 about1 = true := code_word (m := ⟨11, 3⟩) (meth := k11m3) (c := k11c3) (by decide +kernel) rfl rfl rfl (by decide +kernel)
set_option maxRecDepth 65536 in
theorem w_c18 : (Jvm.Cond.code ({ cls := "dev/parlance/JsonGrammar", name := "string", desc := "()Z" } : Jvm.MethodName) prog_6_method_6_code (1 : Nat) (Option.some Jvm.ClassFile.FieldType.boolean)).before args0 about1 = true := code_word (m := ⟨11, 5⟩) (meth := k11m5) (c := k11c5) (by decide +kernel) rfl rfl rfl (by decide +kernel)
set_option maxRecDepth 65536 in
theorem w_c19 : (Jvm.Cond.code ({ cls := "dev/parlance/JsonGrammar", name := "escape", desc := "()Z" } : Jvm.MethodName) prog_6_method_7_code (3 : Nat) (Option.some Jvm.ClassFile.FieldType.boolean)).before args0 about1 = true := code_word (m := ⟨11, 6⟩) (meth := k11m6) (c := k11c6) (by decide +kernel) rfl rfl rfl (by decide +kernel)
set_option maxRecDepth 65536 in
theorem w_c20 : (Jvm.Cond.code ({ cls := "java/lang/String", name := "indexOf", desc := "(I)I" } : Jvm.MethodName) jdk_42_method_79_code (2 : Nat) (Option.some Jvm.ClassFile.FieldType.int)).before args0 about1 = true := code_word (m := ⟨7, 3⟩) (meth := k7m3) (c := k7c3) (by decide +kernel) rfl rfl rfl (by decide +kernel)
set_option maxRecDepth 65536 in
theorem w_c21 : (Jvm.Cond.code ({ cls := "java/lang/String", name := "indexOf", desc := "(II)I" } : Jvm.MethodName) jdk_42_method_80_code (3 : Nat) (Option.some Jvm.ClassFile.FieldType.int)).before args0 about1 = true := code_word (m := ⟨7, 4⟩) (meth := k7m4) (c := k7c4) (by decide +kernel) rfl rfl rfl (by decide +kernel)
set_option maxRecDepth 65536 in
theorem w_c22 : (Jvm.Cond.code ({ cls := "java/lang/String", name := "length", desc := "()I" } : Jvm.MethodName) jdk_42_method_54_code (1 : Nat) (Option.some Jvm.ClassFile.FieldType.int)).before args0 about1 = true := code_word (m := ⟨7, 1⟩) (meth := k7m1) (c := k7c1) (by decide +kernel) rfl rfl rfl (by decide +kernel)
set_option maxRecDepth 65536 in
theorem w_c23 : (Jvm.Cond.code ({ cls := "java/lang/String", name := "coder", desc := "()B" } : Jvm.MethodName) jdk_42_method_152_code (1 : Nat) (Option.some Jvm.ClassFile.FieldType.byte)).before args0 about1 = true := code_word (m := ⟨7, 5⟩) (meth := k7m5) (c := k7c5) (by decide +kernel) rfl rfl rfl (by decide +kernel)
set_option maxRecDepth 65536 in
theorem w_c24 : (Jvm.Cond.code ({ cls := "java/lang/StringLatin1", name := "indexOf", desc := "([BIII)I" } : Jvm.MethodName) jdk_43_method_22_code (4 : Nat) (Option.some Jvm.ClassFile.FieldType.int)).before args0 about1 = true := code_word (m := ⟨8, 3⟩) (meth := k8m3) (c := k8c3) (by decide +kernel) rfl rfl rfl (by decide +kernel)
set_option maxRecDepth 65536 in
theorem w_c25 : (Jvm.Cond.code ({ cls := "java/lang/StringLatin1", name := "canEncode", desc := "(I)Z" } : Jvm.MethodName) jdk_43_method_4_code (1 : Nat) (Option.some Jvm.ClassFile.FieldType.boolean)).before args0 about1 = true := code_word (m := ⟨8, 2⟩) (meth := k8m2) (c := k8c2) (by decide +kernel) rfl rfl rfl (by decide +kernel)
set_option maxRecDepth 65536 in
theorem w_c26 : (Jvm.Cond.code ({ cls := "java/lang/Math", name := "max", desc := "(II)I" } : Jvm.MethodName) jdk_29_method_65_code (2 : Nat) (Option.some Jvm.ClassFile.FieldType.int)).before args0 about1 = true := code_word (m := ⟨10, 1⟩) (meth := k10m1) (c := k10c1) (by decide +kernel) rfl rfl rfl (by decide +kernel)
set_option maxRecDepth 65536 in
theorem w_c27 : (Jvm.Cond.code ({ cls := "java/lang/StringLatin1", name := "indexOfChar", desc := "([BIII)I" } : Jvm.MethodName) jdk_43_method_23_code (6 : Nat) (Option.some Jvm.ClassFile.FieldType.int)).before args0 about1 = true := code_word (m := ⟨8, 4⟩) (meth := k8m4) (c := k8c4) (by decide +kernel) rfl rfl rfl (by decide +kernel)
set_option maxRecDepth 65536 in
theorem w_c28 : (Jvm.Cond.code ({ cls := "dev/parlance/JsonGrammar", name := "isHexDigit", desc := "(C)Z" } : Jvm.MethodName) prog_6_method_13_code (2 : Nat) (Option.some Jvm.ClassFile.FieldType.boolean)).before args0 about1 = true := code_word (m := ⟨11, 12⟩) (meth := k11m12) (c := k11c12) (by decide +kernel) rfl rfl rfl (by decide +kernel)
set_option maxRecDepth 65536 in
theorem w_c29 : (Jvm.Cond.code ({ cls := "dev/parlance/JsonGrammar", name := "number", desc := "()Z" } : Jvm.MethodName) prog_6_method_8_code (1 : Nat) (Option.some Jvm.ClassFile.FieldType.boolean)).before args0 about1 = true := code_word (m := ⟨11, 7⟩) (meth := k11m7) (c := k11c7) (by decide +kernel) rfl rfl rfl (by decide +kernel)
set_option maxRecDepth 65536 in
theorem w_c30 : (Jvm.Cond.code ({ cls := "dev/parlance/JsonGrammar", name := "digits", desc := "()Z" } : Jvm.MethodName) prog_6_method_9_code (2 : Nat) (Option.some Jvm.ClassFile.FieldType.boolean)).before args0 about1 = true := code_word (m := ⟨11, 8⟩) (meth := k11m8) (c := k11c8) (by decide +kernel) rfl rfl rfl (by decide +kernel)
set_option maxRecDepth 65536 in
theorem w_c31 : (Jvm.Cond.code ({ cls := "dev/parlance/JsonGrammar", name := "literal", desc := "(Ljava/lang/String;)Z" } : Jvm.MethodName) prog_6_method_10_code (3 : Nat) (Option.some Jvm.ClassFile.FieldType.boolean)).before args0 about1 = true := code_word (m := ⟨11, 9⟩) (meth := k11m9) (c := k11c9) (by decide +kernel) rfl rfl rfl (by decide +kernel)
def codes1 : List Jvm.Cond := [Jvm.Cond.code x code maxLocals ret, Jvm.Cond.code ({ cls := "java/lang/String", name := "charAt", desc := "(I)C" } : Jvm.MethodName) jdk_42_method_56_code (2 : Nat) (Option.some Jvm.ClassFile.FieldType.char), Jvm.Cond.code ({ cls := "java/lang/String", name := "isLatin1", desc := "()Z" } : Jvm.MethodName) jdk_42_method_154_code (1 : Nat) (Option.some Jvm.ClassFile.FieldType.boolean), Jvm.Cond.code ({ cls := "java/lang/StringLatin1", name := "charAt", desc := "([BI)C" } : Jvm.MethodName) jdk_43_method_2_code (2 : Nat) (Option.some Jvm.ClassFile.FieldType.char), Jvm.Cond.code ({ cls := "java/lang/String", name := "checkIndex", desc := "(II)V" } : Jvm.MethodName) jdk_42_method_155_code (2 : Nat) (Option.none : Option Jvm.ClassFile.FieldType), Jvm.Cond.code ({ cls := "jdk/internal/util/Preconditions", name := "checkIndex", desc := "(IILjava/util/function/BiFunction;)I" } : Jvm.MethodName) jdk_41_method_11_code (3 : Nat) (Option.some Jvm.ClassFile.FieldType.int), Jvm.Cond.code ({ cls := "dev/parlance/JsonGrammarBreaksAtPinLaw", name := "hexChar", desc := "(I)C" } : Jvm.MethodName) method_5_code (2 : Nat) (Option.some Jvm.ClassFile.FieldType.char), Jvm.Cond.code ({ cls := "dev/parlance/JsonGrammarBreaksAtPinLaw", name := "ws", desc := "(I)C" } : Jvm.MethodName) method_4_code (1 : Nat) (Option.some Jvm.ClassFile.FieldType.char), Jvm.Cond.code ({ cls := "dev/parlance/JsonGrammarBreaksAtPinLaw", name := "digit", desc := "(I)C" } : Jvm.MethodName) method_3_code (1 : Nat) (Option.some Jvm.ClassFile.FieldType.char), Jvm.Cond.code ({ cls := "java/lang/Math", name := "min", desc := "(II)I" } : Jvm.MethodName) jdk_29_method_69_code (2 : Nat) (Option.some Jvm.ClassFile.FieldType.int), Jvm.Cond.code ({ cls := "dev/parlance/JsonGrammar", name := "<init>", desc := "([CII)V" } : Jvm.MethodName) prog_6_method_1_code (4 : Nat) (Option.none : Option Jvm.ClassFile.FieldType), Jvm.Cond.code ({ cls := "java/lang/Object", name := "<init>", desc := "()V" } : Jvm.MethodName) object_method_1_code (1 : Nat) (Option.none : Option Jvm.ClassFile.FieldType), Jvm.Cond.code ({ cls := "dev/parlance/JsonGrammar", name := "breaksAt", desc := "(I)I" } : Jvm.MethodName) prog_6_method_2_code (5 : Nat) (Option.some Jvm.ClassFile.FieldType.int), Jvm.Cond.code ({ cls := "dev/parlance/JsonGrammar", name := "value", desc := "()Z" } : Jvm.MethodName) prog_6_method_3_code (3 : Nat) (Option.some Jvm.ClassFile.FieldType.boolean), Jvm.Cond.code ({ cls := "dev/parlance/JsonGrammar", name := "skipWhitespace", desc := "()V" } : Jvm.MethodName) prog_6_method_11_code (1 : Nat) (Option.none : Option Jvm.ClassFile.FieldType), Jvm.Cond.code ({ cls := "dev/parlance/JsonGrammar", name := "isDigit", desc := "(C)Z" } : Jvm.MethodName) prog_6_method_12_code (1 : Nat) (Option.some Jvm.ClassFile.FieldType.boolean), Jvm.Cond.code ({ cls := "dev/parlance/JsonGrammar", name := "open", desc := "(Z)Z" } : Jvm.MethodName) prog_6_method_5_code (2 : Nat) (Option.some Jvm.ClassFile.FieldType.boolean), Jvm.Cond.code ({ cls := "dev/parlance/JsonGrammar", name := "member", desc := "()Z" } : Jvm.MethodName) prog_6_method_4_code (1 : Nat) (Option.some Jvm.ClassFile.FieldType.boolean), Jvm.Cond.code ({ cls := "dev/parlance/JsonGrammar", name := "string", desc := "()Z" } : Jvm.MethodName) prog_6_method_6_code (1 : Nat) (Option.some Jvm.ClassFile.FieldType.boolean), Jvm.Cond.code ({ cls := "dev/parlance/JsonGrammar", name := "escape", desc := "()Z" } : Jvm.MethodName) prog_6_method_7_code (3 : Nat) (Option.some Jvm.ClassFile.FieldType.boolean), Jvm.Cond.code ({ cls := "java/lang/String", name := "indexOf", desc := "(I)I" } : Jvm.MethodName) jdk_42_method_79_code (2 : Nat) (Option.some Jvm.ClassFile.FieldType.int), Jvm.Cond.code ({ cls := "java/lang/String", name := "indexOf", desc := "(II)I" } : Jvm.MethodName) jdk_42_method_80_code (3 : Nat) (Option.some Jvm.ClassFile.FieldType.int), Jvm.Cond.code ({ cls := "java/lang/String", name := "length", desc := "()I" } : Jvm.MethodName) jdk_42_method_54_code (1 : Nat) (Option.some Jvm.ClassFile.FieldType.int), Jvm.Cond.code ({ cls := "java/lang/String", name := "coder", desc := "()B" } : Jvm.MethodName) jdk_42_method_152_code (1 : Nat) (Option.some Jvm.ClassFile.FieldType.byte), Jvm.Cond.code ({ cls := "java/lang/StringLatin1", name := "indexOf", desc := "([BIII)I" } : Jvm.MethodName) jdk_43_method_22_code (4 : Nat) (Option.some Jvm.ClassFile.FieldType.int), Jvm.Cond.code ({ cls := "java/lang/StringLatin1", name := "canEncode", desc := "(I)Z" } : Jvm.MethodName) jdk_43_method_4_code (1 : Nat) (Option.some Jvm.ClassFile.FieldType.boolean), Jvm.Cond.code ({ cls := "java/lang/Math", name := "max", desc := "(II)I" } : Jvm.MethodName) jdk_29_method_65_code (2 : Nat) (Option.some Jvm.ClassFile.FieldType.int), Jvm.Cond.code ({ cls := "java/lang/StringLatin1", name := "indexOfChar", desc := "([BIII)I" } : Jvm.MethodName) jdk_43_method_23_code (6 : Nat) (Option.some Jvm.ClassFile.FieldType.int), Jvm.Cond.code ({ cls := "dev/parlance/JsonGrammar", name := "isHexDigit", desc := "(C)Z" } : Jvm.MethodName) prog_6_method_13_code (2 : Nat) (Option.some Jvm.ClassFile.FieldType.boolean), Jvm.Cond.code ({ cls := "dev/parlance/JsonGrammar", name := "number", desc := "()Z" } : Jvm.MethodName) prog_6_method_8_code (1 : Nat) (Option.some Jvm.ClassFile.FieldType.boolean), Jvm.Cond.code ({ cls := "dev/parlance/JsonGrammar", name := "digits", desc := "()Z" } : Jvm.MethodName) prog_6_method_9_code (2 : Nat) (Option.some Jvm.ClassFile.FieldType.boolean), Jvm.Cond.code ({ cls := "dev/parlance/JsonGrammar", name := "literal", desc := "(Ljava/lang/String;)Z" } : Jvm.MethodName) prog_6_method_10_code (3 : Nat) (Option.some Jvm.ClassFile.FieldType.boolean)]
set_option maxRecDepth 65536 in
theorem codes_eq : words1.filter isCode = codes1 := rfl
theorem w_codes : ∀ c ∈ words1.filter isCode, c.before args0 about1 = true := by
  rw [codes_eq]
  intro c hc
  simp only [codes1, List.mem_cons, List.not_mem_nil, or_false] at hc
  rcases hc with rfl | rfl | rfl | rfl | rfl | rfl | rfl | rfl | rfl | rfl | rfl | rfl | rfl | rfl | rfl | rfl | rfl | rfl | rfl | rfl | rfl | rfl | rfl | rfl | rfl | rfl | rfl | rfl | rfl | rfl | rfl | rfl
  · exact w_c0
  · exact w_c1
  · exact w_c2
  · exact w_c3
  · exact w_c4
  · exact w_c5
  · exact w_c6
  · exact w_c7
  · exact w_c8
  · exact w_c9
  · exact w_c10
  · exact w_c11
  · exact w_c12
  · exact w_c13
  · exact w_c14
  · exact w_c15
  · exact w_c16
  · exact w_c17
  · exact w_c18
  · exact w_c19
  · exact w_c20
  · exact w_c21
  · exact w_c22
  · exact w_c23
  · exact w_c24
  · exact w_c25
  · exact w_c26
  · exact w_c27
  · exact w_c28
  · exact w_c29
  · exact w_c30
  · exact w_c31
set_option maxRecDepth 65536 in
theorem w_t1 : (words1.take 24).all (fun c => isCode c || c.before args0 about1) = true := by decide +kernel
set_option maxRecDepth 65536 in
theorem w_t2 : ((words1.drop 24).take 24).all (fun c => isCode c || c.before args0 about1) = true := by decide +kernel
set_option maxRecDepth 65536 in
theorem w_t3 : (((words1.drop 24).drop 24).take 24).all (fun c => isCode c || c.before args0 about1) = true := by decide +kernel
set_option maxRecDepth 65536 in
theorem w_t4 : ((((words1.drop 24).drop 24).drop 24).take 24).all (fun c => isCode c || c.before args0 about1) = true := by decide +kernel
set_option maxRecDepth 65536 in
theorem w_t5 : (((((words1.drop 24).drop 24).drop 24).drop 24).take 24).all (fun c => isCode c || c.before args0 about1) = true := by decide +kernel
set_option maxRecDepth 65536 in
theorem w_t6 : ((((((words1.drop 24).drop 24).drop 24).drop 24).drop 24).take 24).all (fun c => isCode c || c.before args0 about1) = true := by decide +kernel
set_option maxRecDepth 65536 in
theorem w_t7 : ((((((words1.drop 24).drop 24).drop 24).drop 24).drop 24).drop 24).all (fun c => isCode c || c.before args0 about1) = true := by decide +kernel
theorem w_tables : (allAtoms (Jvm.Cond.code x code maxLocals ret :: tables_1)).before args0 about1 = true := by
  rw [allAtoms_all]
  show words1.all (fun c => c.before args0 about1) = true
  refine all_split ?_ w_codes
  rw [← List.take_append_drop 24 words1, List.all_append, w_t1, ← List.take_append_drop 24 (words1.drop 24), List.all_append, w_t2, ← List.take_append_drop 24 ((words1.drop 24).drop 24), List.all_append, w_t3, ← List.take_append_drop 24 (((words1.drop 24).drop 24).drop 24), List.all_append, w_t4, ← List.take_append_drop 24 ((((words1.drop 24).drop 24).drop 24).drop 24), List.all_append, w_t5, ← List.take_append_drop 24 (((((words1.drop 24).drop 24).drop 24).drop 24).drop 24), List.all_append, w_t6, w_t7]
  rfl
set_option maxRecDepth 65536 in
theorem w_rest : rest_1_c.before args0 about1 = true := by decide +kernel
set_option maxRecDepth 65536 in
theorem w_case : (Jvm.Cond.and given_1 narrow_1).before args0 about1 = true := by decide +kernel
set_option maxRecDepth 65536 in
theorem w_consts : constsHeld consts_1 about1 := Jvm.Lit.constsHeldB_iff.mp (by decide +kernel)
theorem w_applies : (headSpec (Jvm.Cond.code x code maxLocals ret :: tables_1) room_1).applies x e0.platform about1 = true :=
  (Spec.applies_iff w_frames).mpr ⟨w_running, w_runnable, w_alone, w_named, w_hears, w_ripe, w_room, w_tables⟩
theorem atStart : AtStart classFile x code maxLocals ret World_1 tables_1 room_1 Calls_1 rest_1 Pre_1 launch0 p0 e0 about1 theMethod args0 below0 :=
  ⟨lists_1, trivial, launch0.admits_env _ _ _, launch0.least_env, fairChoices_fair.cas, fairChoices_fair.clock, w_frames, w_args, w_heap, w_applies, ⟨w_consts, trivial⟩, w_rest, w_case⟩
end start1
theorem witness_1 : WitnessClaimed_1 := ⟨start1.p0, start1.e0, start1.about1, start1.theMethod, start1.args0, start1.below0, start1.atStart⟩
end Jvm.Pilot.@@N@@
