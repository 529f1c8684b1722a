import JvmDerived
import JvmDerived.Pilot.@@N@@Statement
import JvmDerived.Pilot.@@N@@Code
set_option linter.unusedVariables false
set_option linter.unusedSimpArgs false
namespace Jvm.RoadKit
open Sem ClassFile Op Lib Jvm.Stand Jvm.Free Jvm.LawKit
section New
variable {p : Program} {l : Launch} {e : Env} {R : Room} {s : State} {m : MethodId} {args : Array Value} {below : List Frame} {meth : Method} {c : Code} {T : State} {locs : List Loc} {cells slots : Nat}
theorem retI (X : Stand p l e R s m args below meth c T locs cells slots) (hx : p.tables.exec = Jvm.exec) {pc : Nat} {Ls : Array Slot} {z : Int32} {rest : List Value} (hret : meth.sig.returnType = some .int) (hd : decode c.code pc = .ok (.ireturn, 1)) {fs : List Frame}
    (hl : ∀ (f : JFrame) (acts : List Action), f.method = m → f.locked = none → f.entered = [] → (doReturn e (T.setTop f) acts (some (.int z))).1 = T.setFrames fs) : Steps p.tables e below (T.setTop (mkF m pc Ls (.int z :: rest))) (T.setFrames fs) := by
  have hm' : T.vm.method? m = some meth := X.method'
  have hn : narrow .int (.int z) = .int z := rfl
  show Steps p.tables e below (T.setTop { method := m, pc := pc, locals := Ls, stack := _ :: rest, locked := none }) _
  jvm_step X.here [X.here.top, hx, hd, hm', hret, hn]
  first | (intro acts; rw [hl _ acts rfl rfl rfl]) | rw [hl _ _ rfl rfl rfl]
  exact Steps.refl _
end New
end Jvm.RoadKit
namespace Jvm.Pilot.@@N@@
open Jvm Jvm.ClassFile Sem Op Lib Jvm.Free Jvm.Stand Jvm.LawKit Jvm.RoadKit Bundle Jvm.Pilot.@@N@@.Jvm.D
/-- the same for a part of a walk that comes to the frame F -/
theorem own_via {α : Type} {tb : Tables} {e : Env} {below : List Frame} {A B : State} {P : State → α → Prop} {F : α → JFrame} (h : ∀ t, Steps tb e below A t → Steps tb e below B t) (k : ∃ (T : State) (x : α), P T x ∧ ∀ t, Steps tb e below (T.setTop (F x)) t → Steps tb e below A t) : ∃ (T : State) (x : α), P T x ∧ ∀ t, Steps tb e below (T.setTop (F x)) t → Steps tb e below B t := by
  obtain ⟨T, x, k1, k2⟩ := k
  exact ⟨T, x, k1, fun t q => h t (k2 t q)⟩
theorem own_ns {Z : State} {h : Heap} {a : Addr} {C : String} (F : Exa Z h a C) : ∀ c : Cell, h[a]? = some c → c.vm.isStatics = false := fun c hc => by
  obtain ⟨c1, k, h1, -, -, h4, -⟩ := F
  cases hc.symm.trans h1
  exact h4
theorem own_nsA {Z : State} {h : Heap} {a : Addr} {k : ClassId} {ty : FieldType} {z : Int32} {vs : List Value} {dv : Value} (F : Arv Z h a k ty z vs dv) : ∀ c : Cell, h[a]? = some c → c.vm.isStatics = false := fun c hc => by
  obtain ⟨c1, A, -⟩ := F
  cases hc.symm.trans A.1
  exact A.plain
theorem own_nsF {Z : State} {h : Heap} {a : Addr} {C n d : String} {v : Value} (F : Fld Z h a C n d v) : ∀ c : Cell, h[a]? = some c → c.vm.isStatics = false := fun c hc => by
  obtain ⟨c1, _, _, _, _, h1, _, _, _, h5, _⟩ := F
  cases hc.symm.trans h1
  exact h5
theorem own_neA {Z : State} {a0 : Array Value} {h : Heap} {a b : Addr} {C : String} {n : Nat} {k : ClassId} {ty : FieldType} {z : Int32} {vs : List Value} {dv : Value} (F : Exa Z h a C) (wi : (Cond.instantiable C n).before a0 Z = true) (G : Arv Z h b k ty z vs dv) : a ≠ b := by
  obtain ⟨c1, A, -⟩ := G
  exact ne_arr F wi A
theorem own_staKeep {Z : State} {h h' : Heap} {C n d : String} {v : Value} {ws : List Addr} (F : Sta Z h C n d v) (K : Keep h h' ws) (q : ∀ x ∈ ws, ∀ c : Cell, h[x]? = some c → c.vm.isStatics = false) : Sta Z h' C n d v := by
  obtain ⟨cf, i, k, f, st, cell, h1, h2, h3, h4, h5, h6, h7⟩ := F
  exact ⟨cf, i, k, f, st, cell, h1, h2, h3, h4, K.2.1 st cell h5 (fun hm => by rw [q st hm cell h5] at h6; cases h6), h6, h7⟩
/-- a byte made a byte again -/
theorem own_nb (y : Int32) : y.toInt8.toInt32.toInt8.toInt32 = y.toInt8.toInt32 := by 
  have h1 := c_i2b y
  have h2 := c_i2b (y.toInt8.toInt32)
  apply Int32.toInt_inj.mp
  omega
theorem own_nbn (y : Int32) : nar .byte (y.toInt8.toInt32) = y.toInt8.toInt32 := own_nb y
/-- the walk goes on from A where it comes from B to A -/
theorem own_go {tb : Tables} {e : Env} {below : List Frame} {A B : State} {P : State → Outcome → Prop} (h : ∀ t, Steps tb e below A t → Steps tb e below B t) (k : ∃ t o, Steps tb e below A t ∧ P t o) : ∃ t o, Steps tb e below B t ∧ P t o := by
  obtain ⟨t, o, k1, k2⟩ := k
  exact ⟨t, o, h t k1, k2⟩
theorem own_w {Z : State} {a0 : Array Value} (hw : ∀ d ∈ tables_1, d.before a0 Z = true) (i : Nat) {d : Cond} (h : tables_1[i]? = some d) : d.before a0 Z = true := hw d (List.mem_of_getElem? h)
theorem own_pd0 : parseMethodDescriptor "(I)I" = some ⟨[.int], some .int⟩ := by decide +kernel
theorem own_pd1 : parseMethodDescriptor "(I)[B" = some ⟨[.int], some (.array .byte)⟩ := by decide +kernel
theorem own_pd2 : parseMethodDescriptor "([BII)V" = some ⟨[(.array .byte), .int, .int], none⟩ := by decide +kernel
theorem own_pd3 : parseMethodDescriptor "([CI[BII)I" = some ⟨[(.array .char), .int, (.array .byte), .int, .int], some .int⟩ := by decide +kernel
theorem own_pd4 : parseMethodDescriptor "([CII)[B" = some ⟨[(.array .char), .int, .int], some (.array .byte)⟩ := by decide +kernel
theorem own_pd5 : parseMethodDescriptor "([BI)C" = some ⟨[(.array .byte), .int], some .char⟩ := by decide +kernel
theorem own_pd6 : parseMethodDescriptor "([BI)B" = some ⟨[(.array .byte), .int], some .byte⟩ := by decide +kernel
theorem own_pd7 : parseMethodDescriptor "([CIILjava/lang/Void;)V" = some ⟨[(.array .char), .int, .int, (.object "java/lang/Void")], none⟩ := by decide +kernel
theorem own_pd8 : parseMethodDescriptor "([C)V" = some ⟨[(.array .char)], none⟩ := by decide +kernel
theorem own_pd9 : parseMethodDescriptor "(IILjava/util/function/BiFunction;)I" = some ⟨[.int, .int, (.object "java/util/function/BiFunction")], some .int⟩ := by decide +kernel
theorem own_pd10 : parseMethodDescriptor "()B" = some ⟨[], some .byte⟩ := by decide +kernel
theorem own_pd11 : parseMethodDescriptor "([B)I" = some ⟨[(.array .byte)], some .int⟩ := by decide +kernel
theorem own_pd12 : parseMethodDescriptor "(II)V" = some ⟨[.int, .int], none⟩ := by decide +kernel
theorem own_pd13 : parseMethodDescriptor "(I[B)V" = some ⟨[.int, (.array .byte)], none⟩ := by decide +kernel
theorem own_pd14 : parseMethodDescriptor "()Z" = some ⟨[], some .boolean⟩ := by decide +kernel
theorem own_pd15 : parseMethodDescriptor "()Ljava/util/List;" = some ⟨[], some (.object "java/util/List")⟩ := by decide +kernel
theorem own_pd16 : parseMethodDescriptor "(Ldev/parlance/model/Role;Ljava/lang/String;Ljava/util/List;Ljava/lang/String;)V" = some ⟨[(.object "dev/parlance/model/Role"), (.object "java/lang/String"), (.object "java/util/List"), (.object "java/lang/String")], none⟩ := by decide +kernel
theorem own_pd17 : parseMethodDescriptor "(ICCC)Ljava/lang/String;" = some ⟨[.int, .char, .char, .char], some (.object "java/lang/String")⟩ := by decide +kernel
theorem own_pd18 : parseMethodDescriptor "(Ljava/lang/String;)Ldev/parlance/model/Message;" = some ⟨[(.object "java/lang/String")], some (.object "dev/parlance/model/Message")⟩ := by decide +kernel
theorem own_pd19 : parseMethodDescriptor "()Ldev/parlance/model/Role;" = some ⟨[], some (.object "dev/parlance/model/Role")⟩ := by decide +kernel
theorem own_pd20 : parseMethodDescriptor "()Ljava/lang/String;" = some ⟨[], some (.object "java/lang/String")⟩ := by decide +kernel
theorem own_pd21 : parseMethodDescriptor "()I" = some ⟨[], some .int⟩ := by decide +kernel
theorem own_pd22 : parseMethodDescriptor "(Ljava/lang/Object;)Z" = some ⟨[(.object "java/lang/Object")], some .boolean⟩ := by decide +kernel
theorem own_pd23 : parseMethodDescriptor "(I)C" = some ⟨[.int], some .char⟩ := by decide +kernel
def own_In (Z : State) (vm : Vm) (h : Heap) : Prop := IB Z vm [] ∨ ∃ (a b : Addr) (k : ClassId), Lit (Z.setVm vm) "java/lang/String" 7 a ∧ Exa Z h a "java/lang/String" ∧ Fld Z h a "java/lang/String" "coder" "B" (.int 0) ∧ Fld Z h a "java/lang/String" "value" "[B" (.ref b) ∧ Arv Z h b k .byte (0 : Int32) [] (.int 0)
theorem own_In.ext {Z : State} {vm : Vm} {h h' : Heap} (F : own_In Z vm h) (E : Ext h h') : own_In Z vm h' := F.imp id fun ⟨a, b, k, L, r1, r2, r3, r4⟩ => ⟨a, b, k, L, r1.ext E, r2.ext E, r3.ext E, r4.ext E⟩
theorem own_In.keep0 {Z : State} {vm : Vm} {h h' : Heap} (F : own_In Z vm h) (K : Keep h h' []) : own_In Z vm h' := F.imp id fun ⟨a, b, k, L, r1, r2, r3, r4⟩ => ⟨a, b, k, L, r1.keep K, r2.keep K nin0, r3.keep K nin0, r4.keep K nin0⟩
theorem own_In.warm {Z s : State} {vm0 vm1 : Vm} {h : Heap} (F : own_In Z vm0 h) (hW : (s.setVm vm0).WarmedH vm1) : own_In Z vm1 h := by
  rcases F with ⟨more, e, hm⟩ | ⟨a, b, k, L, r⟩
  · exact Or.inl ⟨more, (State.WarmedH.interned_eq hW).trans e, hm⟩
  · have L1 : Lit (s.setVm vm0) "java/lang/String" 7 a := L
    have L2 : Lit (s.setVm vm1) "java/lang/String" 7 a := Lit.stays L1 hW.wide
    exact Or.inr ⟨a, b, k, L2, r⟩
/-- a callee that may intern, called where I is known of the tables -/
theorem own_backS {p : Program} {l : Launch} {e : Env} {R : Room} {s : State} {args : Array Value} {below : List Frame} {Z : State} {a0 : Array Value} {h : Heap} {I : Vm → Prop} {y : MethodName} {bytes : ByteArray} {maxL : Nat} {ret : Option FieldType} {rm : Room} {len W : Nat} {as' : Array Value} {Q : Option Value → Heap → List Loc → Vm → Prop}
    (hM : MetFree l y (head1 [Cond.code y bytes maxL ret] rm) (fun a U => a = as' ∧ Z.Warmed39 U.vm ∧ U.heap = h ∧ I U.vm) (fun _ _ _ _ _ => True) (fun _ U o U' => ∃ v L, o = .returned v ∧ Q v U'.heap L U'.vm ∧ ReturnedEndW U o U' L rm.cells rm.slots))
    (hZ : Z.Warmed39 s.vm) (wc : (Cond.code y bytes maxL ret).before a0 Z = true) (wz : (Cond.initialized y.cls).before a0 Z = true) (hf : rm.frames + 1 ≤ R.frames) (hl : W + (maxL + 11) + rm.locals ≤ R.locals) (hI : ∀ vm', s.WarmedH vm' → I vm') :
    BackS l R p e below s args y len W (fun A a => a = as' ∧ A.U.heap = h ∧ A.cells + rm.cells ≤ R.cells ∧ A.slots + rm.slots ≤ R.slots)
      (fun A _ v B => ∃ L, Q v B.U.heap L B.U.vm ∧ B.locs = A.locs ++ L ∧ B.cells = A.cells + rm.cells ∧ B.slots = A.slots + rm.slots) := by
  refine BackS.of_freeW (bytes := bytes) (maxL := maxL) (ret := ret) (E := fun _ _ o t L k n => k = rm.cells ∧ n = rm.slots ∧ ∃ v, o = .returned v ∧ Q v t.heap L t.vm) hM hf hl ?_ ?_ (fun _ _ _ _ _ _ _ _ _ => trivial) ?_ ?_
  · intro m meth c A a Y hp
    have hU : Z.Warmed39 A.U.vm := wtrans hZ Y.warmed
    exact ⟨by show (Cond.and _ .tt).before a A.U = true; rw [Cond.before_and, mv hU wc]; rfl, mv hU wc, mv hU wz, hp.2.2.1, hp.2.2.2⟩
  · intro m meth c A a g mk Y hp
    exact ⟨hp.1, wtrans hZ Y.warmed, hp.2.1, hI _ Y.warmed⟩
  · rintro _ _ _ _ ⟨v, L, h1, h2, h3⟩
    exact ⟨L, _, _, h3, rfl, rfl, v, h1, h2⟩
  · rintro m meth c A a g mk v t L k n Y hp _ _ ⟨e1, e2, v', e3, e4⟩
    cases e3; subst e1 e2
    exact ⟨L, e4, rfl, rfl, rfl⟩
theorem own_i2c (x : Int32) : nar .char (x.toUInt32.toUInt16.toUInt32.toInt32) = x.toUInt32.toUInt16.toUInt32.toInt32 := by
  show (x.toUInt32.toUInt16.toUInt32.toInt32).toUInt32.toUInt16.toUInt32.toInt32 = _
  have h1 := c_i2c x
  have h2 := c_i2c (x.toUInt32.toUInt16.toUInt32.toInt32)
  apply Int32.toInt_inj.mp
  omega
theorem own_ch (x : Int32) : ¬ nar .char ((x &&& (255 : Int32)).toUInt32.toUInt16.toUInt32.toInt32) < 0 ∧ ¬ (255 : Int32) < nar .char ((x &&& (255 : Int32)).toUInt32.toUInt16.toUInt32.toInt32) := by
  rw [own_i2c]
  have h1 := c_i2c (x &&& (255 : Int32))
  have h2 := c_mask x (255 : Int32) 8 (by decide) (by decide)
  have e0 : (0 : Int32).toInt = 0 := by decide
  have e1 : (255 : Int32).toInt = 255 := by decide
  simp only [Int32.lt_iff_toInt_lt, e0, e1]
  omega
theorem own_up (cs : List Int32) (h : ∀ c ∈ cs, ¬ c < 0 ∧ ¬ (255 : Int32) < c) : ∀ c ∈ cs, ¬ c < 0 ∧ ¬ (65535 : Int32) < c := fun c hc => ⟨(h c hc).1, fun q => (h c hc).2 (by rw [Int32.lt_iff_toInt_lt] at q ⊢; have e1 : (65535 : Int32).toInt = 65535 := rfl; have e2 : (255 : Int32).toInt = 255 := rfl; omega)⟩
def own_l (c : Int32) : Int32 := (c >>> ((0 : Int32) &&& 31)).toInt8.toInt32
def own_h (c : Int32) : Int32 := (c >>> ((8 : Int32) &&& 31)).toInt8.toInt32
theorem own_narc (q : Int32) (h0 : ¬ q < 0) (h1 : ¬ (65535 : Int32) < q) : nar .char q = q := by
  show q.toUInt32.toUInt16.toUInt32.toInt32 = q
  have h := c_i2c q
  have e0 : (0 : Int32).toInt = 0 := by decide
  have e1 : (65535 : Int32).toInt = 65535 := by decide
  rw [Int32.lt_iff_toInt_lt] at h0 h1
  apply Int32.toInt_inj.mp
  omega
theorem own_chr {z x : Int32} (h : z = x.toUInt32.toUInt16.toUInt32.toInt32) : ¬ z < 0 ∧ ¬ (65535 : Int32) < z := by
  subst h
  have h := c_i2c x
  have e0 : (0 : Int32).toInt = 0 := by decide
  have e1 : (65535 : Int32).toInt = 65535 := by decide
  rw [Int32.lt_iff_toInt_lt, Int32.lt_iff_toInt_lt]
  omega
theorem own_and3 {z x : Int32} (h : z = x &&& (3 : Int32)) : z = 0 ∨ z = 1 ∨ z = 2 ∨ z = 3 := by
  subst h
  have h := c_mask x (3 : Int32) 2 (by decide) (by decide)
  have e0 : (0 : Int32).toInt = 0 := by decide
  have e1 : (1 : Int32).toInt = 1 := by decide
  have e2 : (2 : Int32).toInt = 2 := by decide
  have e3 : (3 : Int32).toInt = 3 := by decide
  simp only [← Int32.toInt_inj, e0, e1, e2, e3]
  omega
theorem own_lat (q : Int32) (h0 : ¬ q < 0) (h1 : ¬ (255 : Int32) < q) : nar .char (((q.toInt8.toInt32) &&& (255 : Int32)).toUInt32.toUInt16.toUInt32.toInt32) = q := by
  rw [own_i2c]
  have a1 := c_i2c ((q.toInt8.toInt32) &&& (255 : Int32))
  have a2 := c_mask (q.toInt8.toInt32) (255 : Int32) 8 (by decide) (by decide)
  have a3 := c_i2b q
  have e0 : (0 : Int32).toInt = 0 := by decide
  have e1 : (255 : Int32).toInt = 255 := by decide
  rw [Int32.lt_iff_toInt_lt] at h0 h1
  apply Int32.toInt_inj.mp
  omega
theorem own_pair (q : Int32) (h0 : ¬ q < 0) (h1 : ¬ (65535 : Int32) < q) : nar .char (((((own_l q) &&& (255 : Int32)) <<< ((0 : Int32) &&& 31)) ||| (((own_h q) &&& (255 : Int32)) <<< ((8 : Int32) &&& 31))).toUInt32.toUInt16.toUInt32.toInt32) = q := by
  rw [own_i2c]
  unfold own_l own_h
  have s1 := c_ishr q (0 : Int32) 0 (by decide)
  have s2 := c_ishr q (8 : Int32) 8 (by decide)
  have b1 := c_i2b (q >>> ((0 : Int32) &&& 31))
  have b2 := c_i2b (q >>> ((8 : Int32) &&& 31))
  have m1 := c_mask ((q >>> ((0 : Int32) &&& 31)).toInt8.toInt32) (255 : Int32) 8 (by decide) (by decide)
  have m2 := c_mask ((q >>> ((8 : Int32) &&& 31)).toInt8.toInt32) (255 : Int32) 8 (by decide) (by decide)
  generalize (q >>> ((0 : Int32) &&& 31)).toInt8.toInt32 &&& (255 : Int32) = A at m1 ⊢
  generalize (q >>> ((8 : Int32) &&& 31)).toInt8.toInt32 &&& (255 : Int32) = B at m2 ⊢
  have t1 := c_ishl A (0 : Int32) 0 (by decide)
  have t2 := c_ishl B (8 : Int32) 8 (by decide)
  have ra := Int32.le_toInt (A <<< ((0 : Int32) &&& 31))
  have rb := Int32.toInt_lt (A <<< ((0 : Int32) &&& 31))
  have rc := Int32.le_toInt (B <<< ((8 : Int32) &&& 31))
  have rd := Int32.toInt_lt (B <<< ((8 : Int32) &&& 31))
  have e0 : (0 : Int32).toInt = 0 := by decide
  have e1 : (65535 : Int32).toInt = 65535 := by decide
  rw [Int32.lt_iff_toInt_lt] at h0 h1
  have o1 := c_or' (A <<< ((0 : Int32) &&& 31)) (B <<< ((8 : Int32) &&& 31)) 8 (by decide) 256 (by decide) (by omega) (by omega) (by omega)
  have i1 := c_i2c ((A <<< ((0 : Int32) &&& 31)) ||| (B <<< ((8 : Int32) &&& 31)))
  apply Int32.toInt_inj.mp
  omega
theorem own_eqInt {s : State} {args : Array Value} {t : Term} {k : Int32} (h : (Cond.eq t (.int k)).value args s none s [] = some true) : t.eval args s none [] s = some (.int k) := by
  cases he : t.eval args s none [] s with
  | none => simp [Cond.value, he] at h
  | some v => cases v <;> simp_all [Cond.value, Term.eval]
theorem own_lenlt {s : State} {args : Array Value} {t : Term} {a : Addr} {cl : Cell} {v : Value} (ea : t.eval args s none [] s = some (.ref a)) (hat : s.arrayAt? a = some cl) (hq : (Term.length t).eval args s none [] s = some v) : cl.slots.size < 2 ^ 31 := by
  by_cases hb : cl.slots.size < 2 ^ 31
  · exact hb
  · simp [Term.eval, ea, hat, hb] at hq
/-- an empty array of references, as the words pin it -/
theorem own_emptyArr {s : State} {args : Array Value} {t : Term} {a : Addr} {C n d : String} (hfit : Fit s) (ea : t.eval args s none [] s = some (.ref a)) (hA : (Cond.arrayOf (.field t C n d) (.object "java/lang/Object")).value args s none s [] = some true) (hl : (Cond.eq (.length (.field t C n d)) (.int 0)).value args s none s [] = some true) : ∃ (b : Addr) (k : ClassId), Fld s s.heap a C n d (.ref b) ∧ Arv s s.heap b k (.object "java/lang/Object") (0 : Int32) [] .null := by
  obtain ⟨b, eb⟩ := arr_v hA
  obtain ⟨cl, A⟩ := Arr.start eb hA
  have hat : s.arrayAt? b = some cl := A.fin (Vm.Alike.refl _)
  have hq := own_eqInt hl
  have hb := own_lenlt eb hat hq
  rw [len_f eb hat hb] at hq
  exact ⟨b, _, Fld.start (by rw [← fld_at ea]; exact eb), Arv.start hfit A hb (Value.int.inj (Option.some.inj hq)) (by decide) rfl trivial⟩
theorem d6_0 : decode jdk_52_method_21_code 0 = .ok (.iconst 0, 1) := by decide +kernel
theorem d6_1 : decode jdk_52_method_21_code 1 = .ok (.istore 5, 2) := by decide +kernel
theorem d6_3 : decode jdk_52_method_21_code 3 = .ok (.iload 5, 2) := by decide +kernel
theorem d6_5 : decode jdk_52_method_21_code 5 = .ok (.iload 4, 2) := by decide +kernel
theorem d6_7 : decode jdk_52_method_21_code 7 = .ok (.if_icmp .ge 37, 3) := by decide +kernel
theorem d6_10 : decode jdk_52_method_21_code 10 = .ok (.aload_n 0, 1) := by decide +kernel
theorem d6_11 : decode jdk_52_method_21_code 11 = .ok (.iload_n 1, 1) := by decide +kernel
theorem d6_12 : decode jdk_52_method_21_code 12 = .ok (.caload, 1) := by decide +kernel
theorem d6_13 : decode jdk_52_method_21_code 13 = .ok (.istore 6, 2) := by decide +kernel
theorem d6_15 : decode jdk_52_method_21_code 15 = .ok (.iload 6, 2) := by decide +kernel
theorem d6_17 : decode jdk_52_method_21_code 17 = .ok (.sipush 255, 3) := by decide +kernel
theorem d6_20 : decode jdk_52_method_21_code 20 = .ok (.if_icmp .le 6, 3) := by decide +kernel
theorem d6_23 : decode jdk_52_method_21_code 23 = .ok (.iload 5, 2) := by decide +kernel
theorem d6_25 : decode jdk_52_method_21_code 25 = .ok (.ireturn, 1) := by decide +kernel
theorem own_pn6 : plainName "java/lang/StringUTF16" = true := by first | (simp [plainName, overriddenIn]; done) | decide +kernel
theorem own_ef6 (m : MethodId) (x0 : Addr) (x1 : Int32) (x2 : Addr) (x3 : Int32) (x4 : Int32) : entryFrame m #[(.ref x0), (.int x1), (.ref x2), (.int x3), (.int x4)] 7 = mkF m 0 #[.val (.ref x0), .val (.int x1), .val (.ref x2), .val (.int x3), .val (.int x4), .unset, .unset] [] := by first | (simp [entryFrame, mkF, argsToLocals, Value.category]; done) | rfl
def QrmCi_1_0 (Z : State) (ab : Addr) (h0 : Heap) (n0 : Nat) (v : Option Value) (h : Heap) (L : List Loc) : Prop := v = some (.int 0) ∧ Fr n0 L ∧ Keep h0 h [ab]
set_option maxRecDepth 65536 in
set_option maxHeartbeats 40000000 in
theorem rmCi_1_0 (l : Launch) (Z : State) (a0 : Array Value) (hw : ∀ d ∈ tables_1, d.before a0 Z = true) (ws : List Jvm.Cond) (ar ab : Addr) (ka kb : ClassId) (ch0 : Int32) (h0 : Heap) (n0 : Nat) (Z0 : n0 ≤ h0.size) (Aa : Arv Z h0 ar ka .char (1 : Int32) [(.int ch0)] (.int 0)) (Ab : Arv Z h0 ab kb .byte (1 : Int32) [(.int 0)] (.int 0)) (hne : ar ≠ ab) (g_ab : n0 ≤ ab)  (hr : (255 : Int32) < ch0) :
    MetFree l (⟨"java/lang/StringUTF16", "compress", "([CI[BII)I"⟩ : MethodName) (head1 (Jvm.Cond.code (⟨"java/lang/StringUTF16", "compress", "([CI[BII)I"⟩ : MethodName) jdk_52_method_21_code 7 (some .int) :: ws) ({ frames := 0, cells := 0, slots := 0, locals := 0 } : Room)) (fun ar_ U_ => ar_ = #[(.ref ar), (.int 0), (.ref ab), (.int 0), (.int 1)] ∧ Z.Warmed39 U_.vm ∧ U_.heap = h0) (fun _ _ _ _ _ => True) (fun _ U_ ou_ V_ => ∃ v_ L_, ou_ = .returned v_ ∧ QrmCi_1_0 Z ab h0 n0 v_ V_.heap L_ ∧ FrameEnd U_ ou_ V_ L_ ({ frames := 0, cells := 0, slots := 0, locals := 0 } : Room).cells ({ frames := 0, cells := 0, slots := 0, locals := 0 } : Room).slots) := by
  refine MetFree.of_bodySF (plainFor_of_name own_pn6) hisR ?_
  intro p e s m args below meth c s₁ Bd hml0 hP hK
  obtain ⟨rfl, hZ, hh⟩ := hP
  have hx := Bd.exec
  have hby := Bd.bytes
  have hml : c.maxLocals = 7 := hml0
  have hown : s.vm.findClass "java/lang/StringUTF16" = some m.cls := findClass_of_methodNamed Bd.named
  have hnm := (name_of_methodNamed Bd.named Bd.method).1
  have X0 : Stand p l e ({ frames := 0, cells := 0, slots := 0, locals := 0 } : Room) s m #[(.ref ar), (.int 0), (.ref ab), (.int 0), (.int 1)] below meth c s₁ [] 0 0 := Stand.of_body Bd
  have e0 : s₁.heap = h0 := by rw [← hh, Bd.state]; rfl
  have N0 := Fr.nil n0
  have Kp0 : Keep h0 h0 [ab] := Keep.refl h0 _
  refine own_go (A := s₁.setTop (mkF m 0 #[.val (.ref ar), .val (.int 0), .val (.ref ab), .val (.int 0), .val (.int 1), .unset, .unset] [])) (fun _ kz => castTop (own_ef6 m ar (0 : Int32) ab (0 : Int32) (1 : Int32)) kz) ?_
  refine own_go (A := s₁.setTop (mkF m 12 #[.val (.ref ar), .val (.int 0), .val (.ref ab), .val (.int 0), .val (.int 1), .val (.int 0), .unset] [(.int 0), (.ref ar)])) (fun _ kz => ?_) ?_
  · refine XS.iconst X0.here hx rfl (hb hby d6_0) ?_
    refine XS.istore X0.here hx rfl (hb hby d6_1) rfl (l' := #[.val (.ref ar), .val (.int 0), .val (.ref ab), .val (.int 0), .val (.int 1), .val (.int 0), .unset]) rfl ?_
    refine XS.iload X0.here hx rfl (hb hby d6_3) rfl ?_
    refine XS.iload X0.here hx rfl (hb hby d6_5) rfl ?_
    refine XS.icmpNo X0.here hx rfl (hb hby d6_7) rfl (tlt (by decide : ((0 : Int32) < (1 : Int32)))).2.1 ?_
    refine XS.aloadN X0.here hx rfl (hb hby d6_10) rfl rfl ?_
    refine XS.iloadN X0.here hx rfl (hb hby d6_11) rfl ?_
    exact kz
  obtain ⟨cl1, Ar1, -, S1, M1, H1, -⟩ := id Aa
  have hin1 : ¬ ((0 : Int32) < 0 ∨ cl1.slots.size ≤ ((0 : Int32)).toNatClampNeg) := inb_of S1 ⟨by decide, by decide⟩
  have hat1 : cl1.slots[((0 : Int32)).toNatClampNeg]? = some (.int ch0) := H1.at hin1 rfl
  refine own_go (A := s₁.setTop (mkF m 13 #[.val (.ref ar), .val (.int 0), .val (.ref ab), .val (.int 0), .val (.int 1), .val (.int 0), .unset] [(.int ch0)])) (fun _ kz => ?_) ?_
  · refine X0.caload hx (j := (0 : Int32)) (v := (.int ch0)) (by rw [e0]; exact Ar1.1) (State.isArrayOf_alike hZ.alike Ar1.2.1) Ar1.2.2 hin1 hat1 (g := (mkF m 12 #[.val (.ref ar), .val (.int 0), .val (.ref ab), .val (.int 0), .val (.int 1), .val (.int 0), .unset] [(.int 0), (.ref ar)])) rfl rfl (hb hby d6_12) _ ?_
    exact kz
  refine own_go (A := s₁.setTop (mkF m 25 #[.val (.ref ar), .val (.int 0), .val (.ref ab), .val (.int 0), .val (.int 1), .val (.int 0), .val (.int ch0)] [(.int 0)])) (fun _ kz => ?_) ?_
  · refine XS.istore X0.here hx rfl (hb hby d6_13) rfl (l' := #[.val (.ref ar), .val (.int 0), .val (.ref ab), .val (.int 0), .val (.int 1), .val (.int 0), .val (.int ch0)]) rfl ?_
    refine XS.iload X0.here hx rfl (hb hby d6_15) rfl ?_
    refine XS.sipush X0.here hx rfl (hb hby d6_17) ?_
    refine XS.icmpNo X0.here hx rfl (hb hby d6_20) rfl (tlt hr).2.2.2 ?_
    refine XS.iload X0.here hx rfl (hb hby d6_23) rfl ?_
    exact kz
  obtain ⟨fs, hrr, hrun, hended, hW, hsame⟩ := X0.leave (v := some (.int 0)) (fun h => by rw [Bd.returns] at h; cases h)
  refine ⟨_, _, ?_, hrun, hended, _, _, rfl, ?_, ⟨_, rfl⟩, hW, hsame.mono (by decide) (by decide)⟩
  · show Steps p.tables e below (s₁.setTop (mkF m 25 #[.val (.ref ar), .val (.int 0), .val (.ref ab), .val (.int 0), .val (.int 1), .val (.int 0), .val (.int ch0)] [(.int 0)])) _
    exact retI X0 hx Bd.returns (hb hby d6_25) hrr
  · show QrmCi_1_0 Z ab h0 n0 _ s₁.heap _
    rw [e0]
    exact ⟨rfl, N0, Kp0⟩
theorem d6_26 : decode jdk_52_method_21_code 26 = .ok (.aload_n 2, 1) := by decide +kernel
theorem d6_27 : decode jdk_52_method_21_code 27 = .ok (.iload_n 3, 1) := by decide +kernel
theorem d6_28 : decode jdk_52_method_21_code 28 = .ok (.iload 6, 2) := by decide +kernel
theorem d6_30 : decode jdk_52_method_21_code 30 = .ok (.i2b, 1) := by decide +kernel
theorem d6_31 : decode jdk_52_method_21_code 31 = .ok (.bastore, 1) := by decide +kernel
theorem d6_32 : decode jdk_52_method_21_code 32 = .ok (.iinc 1 1, 3) := by decide +kernel
theorem d6_35 : decode jdk_52_method_21_code 35 = .ok (.iinc 3 1, 3) := by decide +kernel
theorem d6_38 : decode jdk_52_method_21_code 38 = .ok (.iinc 5 1, 3) := by decide +kernel
theorem d6_41 : decode jdk_52_method_21_code 41 = .ok (.goto (-38), 3) := by decide +kernel
theorem d6_44 : decode jdk_52_method_21_code 44 = .ok (.iload 4, 2) := by decide +kernel
theorem d6_46 : decode jdk_52_method_21_code 46 = .ok (.ireturn, 1) := by decide +kernel
def QrmCi_1_1 (Z : State) (ab : Addr) (kb : ClassId) (ch0 : Int32) (h0 : Heap) (n0 : Nat) (v : Option Value) (h : Heap) (L : List Loc) : Prop := v = some (.int 1) ∧ Fr n0 L ∧ Keep h0 h [ab] ∧ Arv Z h ab kb .byte (1 : Int32) [(.int (ch0.toInt8.toInt32))] (.int 0)
set_option maxRecDepth 65536 in
set_option maxHeartbeats 40000000 in
theorem rmCi_1_1 (l : Launch) (Z : State) (a0 : Array Value) (hw : ∀ d ∈ tables_1, d.before a0 Z = true) (ws : List Jvm.Cond) (ar ab : Addr) (ka kb : ClassId) (ch0 : Int32) (h0 : Heap) (n0 : Nat) (Z0 : n0 ≤ h0.size) (Aa : Arv Z h0 ar ka .char (1 : Int32) [(.int ch0)] (.int 0)) (Ab : Arv Z h0 ab kb .byte (1 : Int32) [(.int 0)] (.int 0)) (hne : ar ≠ ab) (g_ab : n0 ≤ ab) (hl0 : ¬ (255 : Int32) < ch0) :
    MetFree l (⟨"java/lang/StringUTF16", "compress", "([CI[BII)I"⟩ : MethodName) (head1 (Jvm.Cond.code (⟨"java/lang/StringUTF16", "compress", "([CI[BII)I"⟩ : MethodName) jdk_52_method_21_code 7 (some .int) :: ws) ({ frames := 0, cells := 0, slots := 0, locals := 0 } : Room)) (fun ar_ U_ => ar_ = #[(.ref ar), (.int 0), (.ref ab), (.int 0), (.int 1)] ∧ Z.Warmed39 U_.vm ∧ U_.heap = h0) (fun _ _ _ _ _ => True) (fun _ U_ ou_ V_ => ∃ v_ L_, ou_ = .returned v_ ∧ QrmCi_1_1 Z ab kb ch0 h0 n0 v_ V_.heap L_ ∧ FrameEnd U_ ou_ V_ L_ ({ frames := 0, cells := 0, slots := 0, locals := 0 } : Room).cells ({ frames := 0, cells := 0, slots := 0, locals := 0 } : Room).slots) := by
  refine MetFree.of_bodySF (plainFor_of_name own_pn6) hisR ?_
  intro p e s m args below meth c s₁ Bd hml0 hP hK
  obtain ⟨rfl, hZ, hh⟩ := hP
  have hx := Bd.exec
  have hby := Bd.bytes
  have hml : c.maxLocals = 7 := hml0
  have hown : s.vm.findClass "java/lang/StringUTF16" = some m.cls := findClass_of_methodNamed Bd.named
  have hnm := (name_of_methodNamed Bd.named Bd.method).1
  have X0 : Stand p l e ({ frames := 0, cells := 0, slots := 0, locals := 0 } : Room) s m #[(.ref ar), (.int 0), (.ref ab), (.int 0), (.int 1)] below meth c s₁ [] 0 0 := Stand.of_body Bd
  have e0 : s₁.heap = h0 := by rw [← hh, Bd.state]; rfl
  have N0 := Fr.nil n0
  have Kp0 : Keep h0 h0 [ab] := Keep.refl h0 _
  refine own_go (A := s₁.setTop (mkF m 0 #[.val (.ref ar), .val (.int 0), .val (.ref ab), .val (.int 0), .val (.int 1), .unset, .unset] [])) (fun _ kz => castTop (own_ef6 m ar (0 : Int32) ab (0 : Int32) (1 : Int32)) kz) ?_
  refine own_go (A := s₁.setTop (mkF m 12 #[.val (.ref ar), .val (.int 0), .val (.ref ab), .val (.int 0), .val (.int 1), .val (.int 0), .unset] [(.int 0), (.ref ar)])) (fun _ kz => ?_) ?_
  · refine XS.iconst X0.here hx rfl (hb hby d6_0) ?_
    refine XS.istore X0.here hx rfl (hb hby d6_1) rfl (l' := #[.val (.ref ar), .val (.int 0), .val (.ref ab), .val (.int 0), .val (.int 1), .val (.int 0), .unset]) rfl ?_
    refine XS.iload X0.here hx rfl (hb hby d6_3) rfl ?_
    refine XS.iload X0.here hx rfl (hb hby d6_5) rfl ?_
    refine XS.icmpNo X0.here hx rfl (hb hby d6_7) rfl (tlt (by decide : ((0 : Int32) < (1 : Int32)))).2.1 ?_
    refine XS.aloadN X0.here hx rfl (hb hby d6_10) rfl rfl ?_
    refine XS.iloadN X0.here hx rfl (hb hby d6_11) rfl ?_
    exact kz
  obtain ⟨cl1, Ar1, -, S1, M1, H1, -⟩ := id Aa
  have hin1 : ¬ ((0 : Int32) < 0 ∨ cl1.slots.size ≤ ((0 : Int32)).toNatClampNeg) := inb_of S1 ⟨by decide, by decide⟩
  have hat1 : cl1.slots[((0 : Int32)).toNatClampNeg]? = some (.int ch0) := H1.at hin1 rfl
  refine own_go (A := s₁.setTop (mkF m 13 #[.val (.ref ar), .val (.int 0), .val (.ref ab), .val (.int 0), .val (.int 1), .val (.int 0), .unset] [(.int ch0)])) (fun _ kz => ?_) ?_
  · refine X0.caload hx (j := (0 : Int32)) (v := (.int ch0)) (by rw [e0]; exact Ar1.1) (State.isArrayOf_alike hZ.alike Ar1.2.1) Ar1.2.2 hin1 hat1 (g := (mkF m 12 #[.val (.ref ar), .val (.int 0), .val (.ref ab), .val (.int 0), .val (.int 1), .val (.int 0), .unset] [(.int 0), (.ref ar)])) rfl rfl (hb hby d6_12) _ ?_
    exact kz
  refine own_go (A := s₁.setTop (mkF m 31 #[.val (.ref ar), .val (.int 0), .val (.ref ab), .val (.int 0), .val (.int 1), .val (.int 0), .val (.int ch0)] [(.int (ch0.toInt8.toInt32)), (.int 0), (.ref ab)])) (fun _ kz => ?_) ?_
  · refine XS.istore X0.here hx rfl (hb hby d6_13) rfl (l' := #[.val (.ref ar), .val (.int 0), .val (.ref ab), .val (.int 0), .val (.int 1), .val (.int 0), .val (.int ch0)]) rfl ?_
    refine XS.iload X0.here hx rfl (hb hby d6_15) rfl ?_
    refine XS.sipush X0.here hx rfl (hb hby d6_17) ?_
    refine XS.icmpYes X0.here hx rfl (pc0 := 20) (pc' := 26) rfl (hb hby d6_20) rfl (flt hl0).2.2.2 (by decide) (by decide) ?_
    refine XS.aloadN X0.here hx rfl (hb hby d6_26) rfl rfl ?_
    refine XS.iloadN X0.here hx rfl (hb hby d6_27) rfl ?_
    refine XS.iload X0.here hx rfl (hb hby d6_28) rfl ?_
    refine XS.i2b X0.here hx rfl (hb hby d6_30) rfl ?_
    exact kz
  obtain ⟨cl2, Ar2, q2, S2, M2, H2, G2⟩ := id Ab
  have hin2 : ¬ ((0 : Int32) < 0 ∨ cl2.slots.size ≤ ((0 : Int32)).toNatClampNeg) := inb_of S2 ⟨by decide, by decide⟩
  obtain ⟨T2, h2, X2, e2, W2, st2⟩ := stB X0 hx hZ e0 Ar2 (j := (0 : Int32)) hin2 (g := (mkF m 31 #[.val (.ref ar), .val (.int 0), .val (.ref ab), .val (.int 0), .val (.int 1), .val (.int 0), .val (.int ch0)] [(.int (ch0.toInt8.toInt32)), (.int 0), (.ref ab)])) rfl rfl (hb hby d6_31)
  rw [own_nbn] at W2
  have Aw2 := Arv.set Ar2 q2 S2 M2 H2 G2 (fits_nar_byte _) W2 0 rfl (Nat.le_of_ble_eq_true rfl)
  replace Aa := Aa.other W2 hne
  have Z2 : n0 ≤ h2.size := Nat.le_trans Z0 (Keep.of_wr W2).1
  have Kp2 : Keep h0 h2 [ab] := Kp0.wr W2 (Or.inl (List.mem_of_getElem? (i := 0) rfl))
  have Av_ab : Arv Z h2 ab kb .byte (1 : Int32) [(.int (ch0.toInt8.toInt32))] (.int 0) := Aw2
  have N2 := Fr.snoc X2 N0 g_ab
  refine own_go (A := T2.setTop (mkF m 32 #[.val (.ref ar), .val (.int 0), .val (.ref ab), .val (.int 0), .val (.int 1), .val (.int 0), .val (.int ch0)] [])) (fun _ kz => st2 _ kz) ?_
  refine own_go (A := T2.setTop (mkF m 46 #[.val (.ref ar), .val (.int 1), .val (.ref ab), .val (.int 1), .val (.int 1), .val (.int 1), .val (.int ch0)] [(.int 1)])) (fun _ kz => ?_) ?_
  · refine XS.iinc X2.here hx rfl (hb hby d6_32) rfl (l' := #[.val (.ref ar), .val (.int 1), .val (.ref ab), .val (.int 0), .val (.int 1), .val (.int 0), .val (.int ch0)]) rfl ?_
    refine XS.iinc X2.here hx rfl (hb hby d6_35) rfl (l' := #[.val (.ref ar), .val (.int 1), .val (.ref ab), .val (.int 1), .val (.int 1), .val (.int 0), .val (.int ch0)]) rfl ?_
    refine XS.iinc X2.here hx rfl (hb hby d6_38) rfl (l' := #[.val (.ref ar), .val (.int 1), .val (.ref ab), .val (.int 1), .val (.int 1), .val (.int 1), .val (.int ch0)]) rfl ?_
    refine XS.goto X2.here hx rfl (pc0 := 41) (pc' := 3) rfl (hb hby d6_41) (by decide) (by decide) ?_
    refine XS.iload X2.here hx rfl (hb hby d6_3) rfl ?_
    refine XS.iload X2.here hx rfl (hb hby d6_5) rfl ?_
    refine XS.icmpYes X2.here hx rfl (pc0 := 7) (pc' := 44) rfl (hb hby d6_7) rfl (flt (by decide : ¬ ((1 : Int32) < (1 : Int32)))).2.1 (by decide) (by decide) ?_
    refine XS.iload X2.here hx rfl (hb hby d6_44) rfl ?_
    exact kz
  obtain ⟨fs, hrr, hrun, hended, hW, hsame⟩ := X2.leave (v := some (.int 1)) (fun h => by rw [Bd.returns] at h; cases h)
  refine ⟨_, _, ?_, hrun, hended, _, _, rfl, ?_, ⟨_, rfl⟩, hW, hsame.mono (by decide) (by decide)⟩
  · show Steps p.tables e below (T2.setTop (mkF m 46 #[.val (.ref ar), .val (.int 1), .val (.ref ab), .val (.int 1), .val (.int 1), .val (.int 1), .val (.int ch0)] [(.int 1)])) _
    exact retI X2 hx Bd.returns (hb hby d6_46) hrr
  · show QrmCi_1_1 Z ab kb ch0 h0 n0 _ T2.heap _
    rw [e2]
    exact ⟨rfl, N2, Kp2, Av_ab⟩
theorem d26_0 : decode jdk_52_method_3_code 0 = .ok (.iload_n 0, 1) := by decide +kernel
theorem d26_1 : decode jdk_52_method_3_code 1 = .ok (.ifCond .ge 11, 3) := by decide +kernel
theorem d26_12 : decode jdk_52_method_3_code 12 = .ok (.iload_n 0, 1) := by decide +kernel
theorem d26_13 : decode jdk_52_method_3_code 13 = .ok (.ldc 20, 2) := by decide +kernel
theorem d26_15 : decode jdk_52_method_3_code 15 = .ok (.if_icmp .lt 40, 3) := by decide +kernel
theorem d26_55 : decode jdk_52_method_3_code 55 = .ok (.iload_n 0, 1) := by decide +kernel
theorem d26_56 : decode jdk_52_method_3_code 56 = .ok (.iconst 1, 1) := by decide +kernel
theorem d26_57 : decode jdk_52_method_3_code 57 = .ok (.ishl, 1) := by decide +kernel
theorem d26_58 : decode jdk_52_method_3_code 58 = .ok (.ireturn, 1) := by decide +kernel
theorem own_pn26 : plainName "java/lang/StringUTF16" = true := by first | (simp [plainName, overriddenIn]; done) | decide +kernel
theorem own_ef26 (m : MethodId) (x0 : Int32) : entryFrame m #[(.int x0)] 1 = mkF m 0 #[.val (.int x0)] [] := by first | (simp [entryFrame, mkF, argsToLocals, Value.category]; done) | rfl
def QrmNL_1 (Z : State)  (h0 : Heap) (n0 : Nat) (v : Option Value) (h : Heap) (L : List Loc) : Prop := v = some (.int 2) ∧ Fr n0 L ∧ h = h0
set_option maxRecDepth 65536 in
set_option maxHeartbeats 40000000 in
theorem rmNL_1 (l : Launch) (Z : State) (a0 : Array Value) (hw : ∀ d ∈ tables_1, d.before a0 Z = true) (ws : List Jvm.Cond)  (h0 : Heap) (n0 : Nat) (Z0 : n0 ≤ h0.size)  :
    MetFree l (⟨"java/lang/StringUTF16", "newBytesLength", "(I)I"⟩ : MethodName) (head1 (Jvm.Cond.code (⟨"java/lang/StringUTF16", "newBytesLength", "(I)I"⟩ : MethodName) jdk_52_method_3_code 1 (some .int) :: ws) ({ frames := 0, cells := 0, slots := 0, locals := 0 } : Room)) (fun ar_ U_ => ar_ = #[(.int 1)] ∧ Z.Warmed39 U_.vm ∧ U_.heap = h0) (fun _ _ _ _ _ => True) (fun _ U_ ou_ V_ => ∃ v_ L_, ou_ = .returned v_ ∧ QrmNL_1 Z  h0 n0 v_ V_.heap L_ ∧ FrameEnd U_ ou_ V_ L_ ({ frames := 0, cells := 0, slots := 0, locals := 0 } : Room).cells ({ frames := 0, cells := 0, slots := 0, locals := 0 } : Room).slots) := by
  refine MetFree.of_bodySF (plainFor_of_name own_pn26) hisR ?_
  intro p e s m args below meth c s₁ Bd hml0 hP hK
  obtain ⟨rfl, hZ, hh⟩ := hP
  have hx := Bd.exec
  have hby := Bd.bytes
  have hml : c.maxLocals = 1 := hml0
  have hown : s.vm.findClass "java/lang/StringUTF16" = some m.cls := findClass_of_methodNamed Bd.named
  have hnm := (name_of_methodNamed Bd.named Bd.method).1
  have X0 : Stand p l e ({ frames := 0, cells := 0, slots := 0, locals := 0 } : Room) s m #[(.int 1)] below meth c s₁ [] 0 0 := Stand.of_body Bd
  have e0 : s₁.heap = h0 := by rw [← hh, Bd.state]; rfl
  have N0 := Fr.nil n0
  refine own_go (A := s₁.setTop (mkF m 0 #[.val (.int 1)] [])) (fun _ kz => castTop (own_ef26 m (1 : Int32)) kz) ?_
  refine own_go (A := s₁.setTop (mkF m 58 #[.val (.int 1)] [(.int 2)])) (fun _ kz => ?_) ?_
  · refine XS.iloadN X0.here hx rfl (hb hby d26_0) rfl ?_
    refine XS.ifYes X0.here hx rfl (pc0 := 1) (pc' := 12) rfl (hb hby d26_1) rfl ((if0 _ _).trans (flt (by decide : ¬ ((1 : Int32) < (0 : Int32)))).2.1) (by decide) (by decide) ?_
    refine XS.iloadN X0.here hx rfl (hb hby d26_12) rfl ?_
    refine X0.ldcInt hx hown (mvT hZ (own_w hw 144 rfl)) (g := (mkF m 13 #[.val (.int 1)] [(.int 1)])) rfl (hb hby d26_13) _ ?_
    refine XS.icmpYes X0.here hx rfl (pc0 := 15) (pc' := 55) rfl (hb hby d26_15) rfl (tlt (by decide : ((1 : Int32) < (1073741823 : Int32)))).1 (by decide) (by decide) ?_
    refine XS.iloadN X0.here hx rfl (hb hby d26_55) rfl ?_
    refine XS.iconst X0.here hx rfl (hb hby d26_56) ?_
    refine XS.ishl X0.here hx rfl (hb hby d26_57) rfl ?_
    exact kz
  obtain ⟨fs, hrr, hrun, hended, hW, hsame⟩ := X0.leave (v := some (.int 2)) (fun h => by rw [Bd.returns] at h; cases h)
  refine ⟨_, _, ?_, hrun, hended, _, _, rfl, ?_, ⟨_, rfl⟩, hW, hsame.mono (by decide) (by decide)⟩
  · show Steps p.tables e below (s₁.setTop (mkF m 58 #[.val (.int 1)] [(.int 2)])) _
    exact retI X0 hx Bd.returns (hb hby d26_58) hrr
  · show QrmNL_1 Z  h0 n0 _ s₁.heap _
    rw [e0]
    exact ⟨rfl, N0, rfl⟩
theorem d25_0 : decode jdk_52_method_2_code 0 = .ok (.iload_n 0, 1) := by decide +kernel
theorem d25_1 : decode jdk_52_method_2_code 1 = .ok (.invokestatic 11, 3) := by decide +kernel
theorem d25_4 : decode jdk_52_method_2_code 4 = .ok (.newarray .byte, 2) := by decide +kernel
theorem d25_6 : decode jdk_52_method_2_code 6 = .ok (.areturn, 1) := by decide +kernel
theorem own_pn25 : plainName "java/lang/StringUTF16" = true := by first | (simp [plainName, overriddenIn]; done) | decide +kernel
theorem own_ef25 (m : MethodId) (x0 : Int32) : entryFrame m #[(.int x0)] 1 = mkF m 0 #[.val (.int x0)] [] := by first | (simp [entryFrame, mkF, argsToLocals, Value.category]; done) | rfl
def QrmNF_1 (Z : State)  (h0 : Heap) (n0 : Nat) (v : Option Value) (h : Heap) (L : List Loc) : Prop := ∃ (b : Addr) (kc : ClassId), v = some (.ref b) ∧ Fr n0 L ∧ h0.size ≤ b ∧ Keep h0 h [] ∧ Arv Z h b kc .byte (2 : Int32) [(.int 0), (.int 0)] (.int 0)
set_option maxRecDepth 65536 in
set_option maxHeartbeats 40000000 in
theorem rmNF_1 (l : Launch) (Z : State) (a0 : Array Value) (hw : ∀ d ∈ tables_1, d.before a0 Z = true) (ws : List Jvm.Cond)  (h0 : Heap) (n0 : Nat) (Z0 : n0 ≤ h0.size)  :
    MetFree l (⟨"java/lang/StringUTF16", "newBytesFor", "(I)[B"⟩ : MethodName) (head1 (Jvm.Cond.code (⟨"java/lang/StringUTF16", "newBytesFor", "(I)[B"⟩ : MethodName) jdk_52_method_2_code 1 (some (.array .byte)) :: ws) ({ frames := 1, cells := 1, slots := 2, locals := 12 } : Room)) (fun ar_ U_ => ar_ = #[(.int 1)] ∧ Z.Warmed39 U_.vm ∧ U_.heap = h0) (fun _ _ _ _ _ => True) (fun _ U_ ou_ V_ => ∃ v_ L_, ou_ = .returned v_ ∧ QrmNF_1 Z  h0 n0 v_ V_.heap L_ ∧ FrameEnd U_ ou_ V_ L_ ({ frames := 1, cells := 1, slots := 2, locals := 12 } : Room).cells ({ frames := 1, cells := 1, slots := 2, locals := 12 } : Room).slots) := by
  refine MetFree.of_bodySF (plainFor_of_name own_pn25) hisR ?_
  intro p e s m args below meth c s₁ Bd hml0 hP hK
  obtain ⟨rfl, hZ, hh⟩ := hP
  have hx := Bd.exec
  have hby := Bd.bytes
  have hml : c.maxLocals = 1 := hml0
  have hown : s.vm.findClass "java/lang/StringUTF16" = some m.cls := findClass_of_methodNamed Bd.named
  have hnm := (name_of_methodNamed Bd.named Bd.method).1
  have X0 : Stand p l e ({ frames := 1, cells := 1, slots := 2, locals := 12 } : Room) s m #[(.int 1)] below meth c s₁ [] 0 0 := Stand.of_body Bd
  have e0 : s₁.heap = h0 := by rw [← hh, Bd.state]; rfl
  have N0 := Fr.nil n0
  have Kp0 : Keep h0 h0 [] := Keep.refl h0 _
  refine own_go (A := s₁.setTop (mkF m 0 #[.val (.int 1)] [])) (fun _ kz => castTop (own_ef25 m (1 : Int32)) kz) ?_
  refine own_go (A := s₁.setTop (mkF m 1 #[.val (.int 1)] [(.int 1)])) (fun _ kz => ?_) ?_
  · refine XS.iloadN X0.here hx rfl (hb hby d25_0) rfl ?_
    exact kz
  obtain ⟨_, _, ⟨T1, L1, k1, n1⟩, -, X1, ⟨Lc1, hQ1, l1, y1, z1⟩, st1⟩ := Jvm.LawKit.callS X0 hx (y := (⟨"java/lang/StringUTF16", "newBytesLength", "(I)I"⟩ : MethodName)) hown (mvT hZ (own_w hw 141 rfl)) (mvT hZ (own_w hw 142 rfl)) (mvT hZ (own_w hw 22 rfl)) (mvT hZ (own_w hw 143 rfl)) (by decide) (backOf (W := 0) (rmNL_1 l Z a0 hw [] h0 n0 Z0) hZ (own_w hw 143 rfl) (own_w hw 22 rfl) (by decide) (by decide)) (g := (mkF m 1 #[.val (.int 1)] [(.int 1)])) rfl (by rw [hml]; rfl) (argsL := [(.int 1)]) (rest := []) (lenOf own_pd0 rfl) rfl (by show 2 * 0 + _ ≤ _; exact Nat.le_of_eq rfl) (hb hby d25_1) (fun _ _ => ⟨rfl, e0, (by decide : 0 + 0 ≤ _), (by decide : 0 + 0 ≤ _)⟩)
  dsimp only [Pt.U, Pt.locs, Pt.cells, Pt.slots] at X1 l1 y1 z1 st1 hQ1
  subst l1 y1 z1
  obtain ⟨rfl, N1q, e1⟩ := hQ1
  have N1 := Fr.app N0 N1q
  refine own_go (A := T1.setTop (mkF m 4 #[.val (.int 1)] [(.int 2)])) (fun _ kz => st1 _ kz) ?_
  obtain ⟨T2, h2, k2, X2, e2, E2, A2, st2⟩ := newP X1 hx hZ (own_w hw 24 rfl) e1 (g := (mkF m 4 #[.val (.int 1)] [(.int 2)])) rfl (hb hby d25_4) rfl (by decide) (cap := 2) (by decide) (by decide) (by decide) (by decide)
  obtain ⟨b2, gq2⟩ : ∃ z, z = h0.size := ⟨_, rfl⟩
  rw [← gq2] at A2 st2
  have g_b2 : n0 ≤ b2 := Nat.le_trans Z0 (Nat.le_of_eq gq2.symm)
  have szk_b2 : h0.size ≤ b2 := Nat.le_trans Kp0.1 (Nat.le_of_eq gq2.symm)
  have Z2 : n0 ≤ h2.size := Nat.le_trans Z0 E2.1
  have Kp2 : Keep h0 h2 [] := Kp0.ext E2
  have Av_b2 : Arv Z h2 b2 k2 .byte (2 : Int32) [(.int 0), (.int 0)] (.int 0) := (Arv.new A2 (by decide)).pad (pad_rep [] (.int 0) 2)
  refine own_go (A := T2.setTop (mkF m 6 #[.val (.int 1)] [(.ref b2)])) (fun _ kz => st2 _ kz) ?_
  obtain ⟨fs, hrr, hrun, hended, hW, hsame⟩ := X2.leave (v := some (.ref b2)) (fun h => by rw [Bd.returns] at h; cases h)
  refine ⟨_, _, ?_, hrun, hended, _, _, rfl, ?_, ⟨_, rfl⟩, hW, hsame.mono (by decide) (by decide)⟩
  · show Steps p.tables e below (T2.setTop (mkF m 6 #[.val (.int 1)] [(.ref b2)])) _
    exact retOut X2 hx (t := (.array .byte)) Bd.returns rfl (Or.inr (Or.inr (Or.inr (Or.inr ⟨rfl, rfl, rfl⟩)))) (hb hby d25_6) hrr
  · show QrmNF_1 Z  h0 n0 _ T2.heap _
    rw [e2]
    exact ⟨b2, k2, rfl, N1, szk_b2, Kp2, Av_b2⟩
theorem d27_0 : decode jdk_52_method_4_code 0 = .ok (.getstatic 44, 3) := by decide +kernel
theorem d27_3 : decode jdk_52_method_4_code 3 = .ok (.ifCond .ne 25, 3) := by decide +kernel
theorem d27_28 : decode jdk_52_method_4_code 28 = .ok (.iload_n 1, 1) := by decide +kernel
theorem d27_29 : decode jdk_52_method_4_code 29 = .ok (.iconst 1, 1) := by decide +kernel
theorem d27_30 : decode jdk_52_method_4_code 30 = .ok (.ishl, 1) := by decide +kernel
theorem d27_31 : decode jdk_52_method_4_code 31 = .ok (.istore_n 1, 1) := by decide +kernel
theorem d27_32 : decode jdk_52_method_4_code 32 = .ok (.aload_n 0, 1) := by decide +kernel
theorem d27_33 : decode jdk_52_method_4_code 33 = .ok (.iload_n 1, 1) := by decide +kernel
theorem d27_34 : decode jdk_52_method_4_code 34 = .ok (.iinc 1 1, 3) := by decide +kernel
theorem d27_37 : decode jdk_52_method_4_code 37 = .ok (.iload_n 2, 1) := by decide +kernel
theorem d27_38 : decode jdk_52_method_4_code 38 = .ok (.getstatic 59, 3) := by decide +kernel
theorem d27_41 : decode jdk_52_method_4_code 41 = .ok (.ishr, 1) := by decide +kernel
theorem d27_42 : decode jdk_52_method_4_code 42 = .ok (.i2b, 1) := by decide +kernel
theorem d27_43 : decode jdk_52_method_4_code 43 = .ok (.bastore, 1) := by decide +kernel
theorem d27_44 : decode jdk_52_method_4_code 44 = .ok (.aload_n 0, 1) := by decide +kernel
theorem d27_45 : decode jdk_52_method_4_code 45 = .ok (.iload_n 1, 1) := by decide +kernel
theorem d27_46 : decode jdk_52_method_4_code 46 = .ok (.iload_n 2, 1) := by decide +kernel
theorem d27_47 : decode jdk_52_method_4_code 47 = .ok (.getstatic 63, 3) := by decide +kernel
theorem d27_50 : decode jdk_52_method_4_code 50 = .ok (.ishr, 1) := by decide +kernel
theorem d27_51 : decode jdk_52_method_4_code 51 = .ok (.i2b, 1) := by decide +kernel
theorem d27_52 : decode jdk_52_method_4_code 52 = .ok (.bastore, 1) := by decide +kernel
theorem d27_53 : decode jdk_52_method_4_code 53 = .ok (.return_, 1) := by decide +kernel
theorem own_pn27 : plainName "java/lang/StringUTF16" = true := by first | (simp [plainName, overriddenIn]; done) | decide +kernel
theorem own_ef27 (m : MethodId) (x0 : Addr) (x1 : Int32) (x2 : Int32) : entryFrame m #[(.ref x0), (.int x1), (.int x2)] 3 = mkF m 0 #[.val (.ref x0), .val (.int x1), .val (.int x2)] [] := by first | (simp [entryFrame, mkF, argsToLocals, Value.category]; done) | rfl
def QrmPC_1_0 (Z : State) (ab : Addr) (kb : ClassId) (qq : Int32) (w0 w1 : Value) (h0 : Heap) (n0 : Nat) (v : Option Value) (h : Heap) (L : List Loc) : Prop := v = none ∧ Fr n0 L ∧ Keep h0 h [ab] ∧ Arv Z h ab kb .byte (2 : Int32) [(.int (own_l qq)), (.int (own_h qq))] (.int 0)
set_option maxRecDepth 65536 in
set_option maxHeartbeats 40000000 in
theorem rmPC_1_0 (l : Launch) (Z : State) (a0 : Array Value) (hw : ∀ d ∈ tables_1, d.before a0 Z = true) (ws : List Jvm.Cond) (ab : Addr) (kb : ClassId) (qq : Int32) (w0 w1 : Value) (h0 : Heap) (n0 : Nat) (Z0 : n0 ≤ h0.size) (Ab : Arv Z h0 ab kb .byte (2 : Int32) [w0, w1] (.int 0)) (g_ab : n0 ≤ ab) (S_ad : Sta Z h0 "java/lang/StringUTF16" "$assertionsDisabled" "Z" (.int 1)) (S_hi : Sta Z h0 "java/lang/StringUTF16" "HI_BYTE_SHIFT" "I" (.int 0)) (S_lo : Sta Z h0 "java/lang/StringUTF16" "LO_BYTE_SHIFT" "I" (.int 8)) :
    MetFree l (⟨"java/lang/StringUTF16", "putChar", "([BII)V"⟩ : MethodName) (head1 (Jvm.Cond.code (⟨"java/lang/StringUTF16", "putChar", "([BII)V"⟩ : MethodName) jdk_52_method_4_code 3 none :: ws) ({ frames := 0, cells := 0, slots := 0, locals := 0 } : Room)) (fun ar_ U_ => ar_ = #[(.ref ab), (.int 0), (.int qq)] ∧ Z.Warmed39 U_.vm ∧ U_.heap = h0) (fun _ _ _ _ _ => True) (fun _ U_ ou_ V_ => ∃ v_ L_, ou_ = .returned v_ ∧ QrmPC_1_0 Z ab kb qq w0 w1 h0 n0 v_ V_.heap L_ ∧ FrameEnd U_ ou_ V_ L_ ({ frames := 0, cells := 0, slots := 0, locals := 0 } : Room).cells ({ frames := 0, cells := 0, slots := 0, locals := 0 } : Room).slots) := by
  refine MetFree.of_bodySF (plainFor_of_name own_pn27) hisR ?_
  intro p e s m args below meth c s₁ Bd hml0 hP hK
  obtain ⟨rfl, hZ, hh⟩ := hP
  have hx := Bd.exec
  have hby := Bd.bytes
  have hml : c.maxLocals = 3 := hml0
  have hown : s.vm.findClass "java/lang/StringUTF16" = some m.cls := findClass_of_methodNamed Bd.named
  have hnm := (name_of_methodNamed Bd.named Bd.method).1
  have X0 : Stand p l e ({ frames := 0, cells := 0, slots := 0, locals := 0 } : Room) s m #[(.ref ab), (.int 0), (.int qq)] below meth c s₁ [] 0 0 := Stand.of_body Bd
  have e0 : s₁.heap = h0 := by rw [← hh, Bd.state]; rfl
  have N0 := Fr.nil n0
  have Kp0 : Keep h0 h0 [ab] := Keep.refl h0 _
  refine own_go (A := s₁.setTop (mkF m 0 #[.val (.ref ab), .val (.int 0), .val (.int qq)] [])) (fun _ kz => castTop (own_ef27 m ab (0 : Int32) qq) kz) ?_
  obtain ⟨T1, X1, e1, st1⟩ := getS2 X0 hx hZ hown (host := "") (Or.inl (own_w hw 148 rfl)) Via.refl e0 S_ad (g := (mkF m 0 #[.val (.ref ab), .val (.int 0), .val (.int qq)] [])) rfl (hb hby d27_0)
  refine own_go (A := T1.setTop (mkF m 3 #[.val (.ref ab), .val (.int 0), .val (.int qq)] [(.int 1)])) (fun _ kz => st1 _ kz) ?_
  refine own_go (A := T1.setTop (mkF m 38 #[.val (.ref ab), .val (.int 1), .val (.int qq)] [(.int qq), (.int 0), (.ref ab)])) (fun _ kz => ?_) ?_
  · refine XS.ifYes X1.here hx rfl (pc0 := 3) (pc' := 28) rfl (hb hby d27_3) rfl ((if0 _ _).trans (feq (by decide : ¬ ((1 : Int32) = (0 : Int32)))).2) (by decide) (by decide) ?_
    refine XS.iloadN X1.here hx rfl (hb hby d27_28) rfl ?_
    refine XS.iconst X1.here hx rfl (hb hby d27_29) ?_
    refine XS.ishl X1.here hx rfl (hb hby d27_30) rfl ?_
    show Steps p.tables e below (T1.setTop (mkF m 31 #[.val (.ref ab), .val (.int 0), .val (.int qq)] [(.int 0)])) _
    refine XS.istoreN X1.here hx rfl (hb hby d27_31) rfl (l' := #[.val (.ref ab), .val (.int 0), .val (.int qq)]) rfl ?_
    refine XS.aloadN X1.here hx rfl (hb hby d27_32) rfl rfl ?_
    refine XS.iloadN X1.here hx rfl (hb hby d27_33) rfl ?_
    refine XS.iinc X1.here hx rfl (hb hby d27_34) rfl (l' := #[.val (.ref ab), .val (.int 1), .val (.int qq)]) rfl ?_
    refine XS.iloadN X1.here hx rfl (hb hby d27_37) rfl ?_
    exact kz
  obtain ⟨T2, X2, e2, st2⟩ := getS2 X1 hx hZ hown (host := "") (Or.inl (own_w hw 149 rfl)) Via.refl e1 S_hi (g := (mkF m 38 #[.val (.ref ab), .val (.int 1), .val (.int qq)] [(.int qq), (.int 0), (.ref ab)])) rfl (hb hby d27_38)
  refine own_go (A := T2.setTop (mkF m 41 #[.val (.ref ab), .val (.int 1), .val (.int qq)] [(.int 0), (.int qq), (.int 0), (.ref ab)])) (fun _ kz => st2 _ kz) ?_
  refine own_go (A := T2.setTop (mkF m 43 #[.val (.ref ab), .val (.int 1), .val (.int qq)] [(.int ((qq >>> ((0 : Int32) &&& 31)).toInt8.toInt32)), (.int 0), (.ref ab)])) (fun _ kz => ?_) ?_
  · refine XS.ishr X2.here hx rfl (hb hby d27_41) rfl ?_
    refine XS.i2b X2.here hx rfl (hb hby d27_42) rfl ?_
    exact kz
  obtain ⟨cl3, Ar3, q3, S3, M3, H3, G3⟩ := id Ab
  have hin3 : ¬ ((0 : Int32) < 0 ∨ cl3.slots.size ≤ ((0 : Int32)).toNatClampNeg) := inb_of S3 ⟨by decide, by decide⟩
  obtain ⟨T3, h3, X3, e3, W3, st3⟩ := stB X2 hx hZ e2 Ar3 (j := (0 : Int32)) hin3 (g := (mkF m 43 #[.val (.ref ab), .val (.int 1), .val (.int qq)] [(.int ((qq >>> ((0 : Int32) &&& 31)).toInt8.toInt32)), (.int 0), (.ref ab)])) rfl rfl (hb hby d27_43)
  rw [own_nbn] at W3
  have Aw3 := Arv.set Ar3 q3 S3 M3 H3 G3 (fits_nar_byte _) W3 0 rfl (Nat.le_of_ble_eq_true rfl)
  replace S_ad := S_ad.wr W3
  replace S_hi := S_hi.wr W3
  replace S_lo := S_lo.wr W3
  have Z3 : n0 ≤ h3.size := Nat.le_trans Z0 (Keep.of_wr W3).1
  have Kp3 : Keep h0 h3 [ab] := Kp0.wr W3 (Or.inl (List.mem_of_getElem? (i := 0) rfl))
  have Av_ab : Arv Z h3 ab kb .byte (2 : Int32) [(.int ((qq >>> ((0 : Int32) &&& 31)).toInt8.toInt32)), w1] (.int 0) := Aw3
  have N3 := Fr.snoc X3 N0 g_ab
  refine own_go (A := T3.setTop (mkF m 44 #[.val (.ref ab), .val (.int 1), .val (.int qq)] [])) (fun _ kz => st3 _ kz) ?_
  refine own_go (A := T3.setTop (mkF m 47 #[.val (.ref ab), .val (.int 1), .val (.int qq)] [(.int qq), (.int 1), (.ref ab)])) (fun _ kz => ?_) ?_
  · refine XS.aloadN X3.here hx rfl (hb hby d27_44) rfl rfl ?_
    refine XS.iloadN X3.here hx rfl (hb hby d27_45) rfl ?_
    refine XS.iloadN X3.here hx rfl (hb hby d27_46) rfl ?_
    exact kz
  obtain ⟨T4, X4, e4, st4⟩ := getS2 X3 hx hZ hown (host := "") (Or.inl (own_w hw 150 rfl)) Via.refl e3 S_lo (g := (mkF m 47 #[.val (.ref ab), .val (.int 1), .val (.int qq)] [(.int qq), (.int 1), (.ref ab)])) rfl (hb hby d27_47)
  refine own_go (A := T4.setTop (mkF m 50 #[.val (.ref ab), .val (.int 1), .val (.int qq)] [(.int 8), (.int qq), (.int 1), (.ref ab)])) (fun _ kz => st4 _ kz) ?_
  refine own_go (A := T4.setTop (mkF m 52 #[.val (.ref ab), .val (.int 1), .val (.int qq)] [(.int ((qq >>> ((8 : Int32) &&& 31)).toInt8.toInt32)), (.int 1), (.ref ab)])) (fun _ kz => ?_) ?_
  · refine XS.ishr X4.here hx rfl (hb hby d27_50) rfl ?_
    refine XS.i2b X4.here hx rfl (hb hby d27_51) rfl ?_
    exact kz
  obtain ⟨cl5, Ar5, q5, S5, M5, H5, G5⟩ := id Av_ab
  have hin5 : ¬ ((1 : Int32) < 0 ∨ cl5.slots.size ≤ ((1 : Int32)).toNatClampNeg) := inb_of S5 ⟨by decide, by decide⟩
  obtain ⟨T5, h5, X5, e5, W5, st5⟩ := stB X4 hx hZ e4 Ar5 (j := (1 : Int32)) hin5 (g := (mkF m 52 #[.val (.ref ab), .val (.int 1), .val (.int qq)] [(.int ((qq >>> ((8 : Int32) &&& 31)).toInt8.toInt32)), (.int 1), (.ref ab)])) rfl rfl (hb hby d27_52)
  rw [own_nbn] at W5
  have Aw5 := Arv.set Ar5 q5 S5 M5 H5 G5 (fits_nar_byte _) W5 1 rfl (Nat.le_of_ble_eq_true rfl)
  replace S_ad := S_ad.wr W5
  replace S_hi := S_hi.wr W5
  replace S_lo := S_lo.wr W5
  have Z5 : n0 ≤ h5.size := Nat.le_trans Z3 (Keep.of_wr W5).1
  have Kp5 : Keep h0 h5 [ab] := Kp3.wr W5 (Or.inl (List.mem_of_getElem? (i := 0) rfl))
  have Av_ab : Arv Z h5 ab kb .byte (2 : Int32) [(.int ((qq >>> ((0 : Int32) &&& 31)).toInt8.toInt32)), (.int ((qq >>> ((8 : Int32) &&& 31)).toInt8.toInt32))] (.int 0) := Aw5
  have N5 := Fr.snoc X5 N3 g_ab
  refine own_go (A := T5.setTop (mkF m 53 #[.val (.ref ab), .val (.int 1), .val (.int qq)] [])) (fun _ kz => st5 _ kz) ?_
  obtain ⟨fs, hrr, hrun, hended, hW, hsame⟩ := X5.leave (v := none) (fun _ => rfl)
  refine ⟨_, _, ?_, hrun, hended, _, _, rfl, ?_, ⟨_, rfl⟩, hW, hsame.mono (by decide) (by decide)⟩
  · show Steps p.tables e below (T5.setTop (mkF m 53 #[.val (.ref ab), .val (.int 1), .val (.int qq)] [])) _
    exact X5.returnOut hx Bd.returns (hb hby d27_53) hrr
  · show QrmPC_1_0 Z ab kb qq w0 w1 h0 n0 _ T5.heap _
    rw [e5]
    exact ⟨rfl, N5, Kp5, Av_ab⟩
theorem d24_0 : decode jdk_52_method_14_code 0 = .ok (.iload_n 2, 1) := by decide +kernel
theorem d24_1 : decode jdk_52_method_14_code 1 = .ok (.invokestatic 107, 3) := by decide +kernel
theorem d24_4 : decode jdk_52_method_14_code 4 = .ok (.astore_n 3, 1) := by decide +kernel
theorem d24_5 : decode jdk_52_method_14_code 5 = .ok (.iconst 0, 1) := by decide +kernel
theorem d24_6 : decode jdk_52_method_14_code 6 = .ok (.istore 4, 2) := by decide +kernel
theorem d24_8 : decode jdk_52_method_14_code 8 = .ok (.iload 4, 2) := by decide +kernel
theorem d24_10 : decode jdk_52_method_14_code 10 = .ok (.iload_n 2, 1) := by decide +kernel
theorem d24_11 : decode jdk_52_method_14_code 11 = .ok (.if_icmp .ge 21, 3) := by decide +kernel
theorem d24_14 : decode jdk_52_method_14_code 14 = .ok (.aload_n 3, 1) := by decide +kernel
theorem d24_15 : decode jdk_52_method_14_code 15 = .ok (.iload 4, 2) := by decide +kernel
theorem d24_17 : decode jdk_52_method_14_code 17 = .ok (.aload_n 0, 1) := by decide +kernel
theorem d24_18 : decode jdk_52_method_14_code 18 = .ok (.iload_n 1, 1) := by decide +kernel
theorem d24_19 : decode jdk_52_method_14_code 19 = .ok (.caload, 1) := by decide +kernel
theorem d24_20 : decode jdk_52_method_14_code 20 = .ok (.invokestatic 111, 3) := by decide +kernel
theorem d24_23 : decode jdk_52_method_14_code 23 = .ok (.iinc 1 1, 3) := by decide +kernel
theorem d24_26 : decode jdk_52_method_14_code 26 = .ok (.iinc 4 1, 3) := by decide +kernel
theorem d24_29 : decode jdk_52_method_14_code 29 = .ok (.goto (-21), 3) := by decide +kernel
theorem d24_32 : decode jdk_52_method_14_code 32 = .ok (.aload_n 3, 1) := by decide +kernel
theorem d24_33 : decode jdk_52_method_14_code 33 = .ok (.areturn, 1) := by decide +kernel
theorem own_pn24 : plainName "java/lang/StringUTF16" = true := by first | (simp [plainName, overriddenIn]; done) | decide +kernel
theorem own_ef24 (m : MethodId) (x0 : Addr) (x1 : Int32) (x2 : Int32) : entryFrame m #[(.ref x0), (.int x1), (.int x2)] 5 = mkF m 0 #[.val (.ref x0), .val (.int x1), .val (.int x2), .unset, .unset] [] := by first | (simp [entryFrame, mkF, argsToLocals, Value.category]; done) | rfl
def QrmTB_1 (Z : State) (ch0 : Int32) (h0 : Heap) (n0 : Nat) (v : Option Value) (h : Heap) (L : List Loc) : Prop := ∃ (b : Addr) (kc : ClassId), v = some (.ref b) ∧ Fr n0 L ∧ h0.size ≤ b ∧ Keep h0 h [] ∧ Arv Z h b kc .byte (2 : Int32) [(.int (own_l ch0)), (.int (own_h ch0))] (.int 0)
set_option maxRecDepth 65536 in
set_option maxHeartbeats 40000000 in
theorem rmTB_1 (l : Launch) (Z : State) (a0 : Array Value) (hw : ∀ d ∈ tables_1, d.before a0 Z = true) (ws : List Jvm.Cond) (ar : Addr) (ka : ClassId) (ch0 : Int32) (h0 : Heap) (n0 : Nat) (Z0 : n0 ≤ h0.size) (Aa : Arv Z h0 ar ka .char (1 : Int32) [(.int ch0)] (.int 0)) (S_ad : Sta Z h0 "java/lang/StringUTF16" "$assertionsDisabled" "Z" (.int 1)) (S_hi : Sta Z h0 "java/lang/StringUTF16" "HI_BYTE_SHIFT" "I" (.int 0)) (S_lo : Sta Z h0 "java/lang/StringUTF16" "LO_BYTE_SHIFT" "I" (.int 8)) :
    MetFree l (⟨"java/lang/StringUTF16", "toBytes", "([CII)[B"⟩ : MethodName) (head1 (Jvm.Cond.code (⟨"java/lang/StringUTF16", "toBytes", "([CII)[B"⟩ : MethodName) jdk_52_method_14_code 5 (some (.array .byte)) :: ws) ({ frames := 2, cells := 1, slots := 2, locals := 24 } : Room)) (fun ar_ U_ => ar_ = #[(.ref ar), (.int 0), (.int 1)] ∧ Z.Warmed39 U_.vm ∧ U_.heap = h0) (fun _ _ _ _ _ => True) (fun _ U_ ou_ V_ => ∃ v_ L_, ou_ = .returned v_ ∧ QrmTB_1 Z ch0 h0 n0 v_ V_.heap L_ ∧ FrameEnd U_ ou_ V_ L_ ({ frames := 2, cells := 1, slots := 2, locals := 24 } : Room).cells ({ frames := 2, cells := 1, slots := 2, locals := 24 } : Room).slots) := by
  refine MetFree.of_bodySF (plainFor_of_name own_pn24) hisR ?_
  intro p e s m args below meth c s₁ Bd hml0 hP hK
  obtain ⟨rfl, hZ, hh⟩ := hP
  have hx := Bd.exec
  have hby := Bd.bytes
  have hml : c.maxLocals = 5 := hml0
  have hown : s.vm.findClass "java/lang/StringUTF16" = some m.cls := findClass_of_methodNamed Bd.named
  have hnm := (name_of_methodNamed Bd.named Bd.method).1
  have X0 : Stand p l e ({ frames := 2, cells := 1, slots := 2, locals := 24 } : Room) s m #[(.ref ar), (.int 0), (.int 1)] below meth c s₁ [] 0 0 := Stand.of_body Bd
  have e0 : s₁.heap = h0 := by rw [← hh, Bd.state]; rfl
  have N0 := Fr.nil n0
  have Kp0 : Keep h0 h0 [] := Keep.refl h0 _
  refine own_go (A := s₁.setTop (mkF m 0 #[.val (.ref ar), .val (.int 0), .val (.int 1), .unset, .unset] [])) (fun _ kz => castTop (own_ef24 m ar (0 : Int32) (1 : Int32)) kz) ?_
  refine own_go (A := s₁.setTop (mkF m 1 #[.val (.ref ar), .val (.int 0), .val (.int 1), .unset, .unset] [(.int 1)])) (fun _ kz => ?_) ?_
  · refine XS.iloadN X0.here hx rfl (hb hby d24_0) rfl ?_
    exact kz
  obtain ⟨_, _, ⟨T1, L1, k1, n1⟩, -, X1, ⟨Lc1, hQ1, l1, y1, z1⟩, st1⟩ := Jvm.LawKit.callS X0 hx (y := (⟨"java/lang/StringUTF16", "newBytesFor", "(I)[B"⟩ : MethodName)) hown (mvT hZ (own_w hw 138 rfl)) (mvT hZ (own_w hw 139 rfl)) (mvT hZ (own_w hw 22 rfl)) (mvT hZ (own_w hw 140 rfl)) (by decide) (backOf (W := 0) (rmNF_1 l Z a0 hw [] h0 n0 Z0) hZ (own_w hw 140 rfl) (own_w hw 22 rfl) (by decide) (by decide)) (g := (mkF m 1 #[.val (.ref ar), .val (.int 0), .val (.int 1), .unset, .unset] [(.int 1)])) rfl (by rw [hml]; rfl) (argsL := [(.int 1)]) (rest := []) (lenOf own_pd1 rfl) rfl (by show 2 * 0 + _ ≤ _; exact Nat.le_of_eq rfl) (hb hby d24_1) (fun _ _ => ⟨rfl, e0, (by decide : 0 + 1 ≤ _), (by decide : 0 + 2 ≤ _)⟩)
  dsimp only [Pt.U, Pt.locs, Pt.cells, Pt.slots] at X1 l1 y1 z1 st1 hQ1
  subst l1 y1 z1
  obtain ⟨c1, kc1, rfl, N1q, zc1, K1q, Av1⟩ := hQ1
  have N1 := Fr.app N0 N1q
  have ne_ar_c1 : ar ≠ c1 := Nat.ne_of_lt (Nat.lt_of_lt_of_le Aa.lt zc1)
  have g_c1 : n0 ≤ c1 := Nat.le_trans Z0 zc1
  have szk_c1 : h0.size ≤ c1 := Nat.le_trans Kp0.1 zc1
  replace S_ad := own_staKeep S_ad K1q all0
  replace S_hi := own_staKeep S_hi K1q all0
  replace S_lo := own_staKeep S_lo K1q all0
  replace Aa := Aa.keep K1q nin0
  have Z1 : n0 ≤ T1.heap.size := Nat.le_trans Z0 K1q.1
  have Kp1 : Keep h0 T1.heap [] := Kp0.trans K1q (all0)
  refine own_go (A := T1.setTop (mkF m 4 #[.val (.ref ar), .val (.int 0), .val (.int 1), .unset, .unset] [(.ref c1)])) (fun _ kz => st1 _ kz) ?_
  refine own_go (A := T1.setTop (mkF m 19 #[.val (.ref ar), .val (.int 0), .val (.int 1), .val (.ref c1), .val (.int 0)] [(.int 0), (.ref ar), (.int 0), (.ref c1)])) (fun _ kz => ?_) ?_
  · refine XS.astoreN X1.here hx rfl (hb hby d24_4) rfl rfl (l' := #[.val (.ref ar), .val (.int 0), .val (.int 1), .val (.ref c1), .unset]) rfl ?_
    refine XS.iconst X1.here hx rfl (hb hby d24_5) ?_
    refine XS.istore X1.here hx rfl (hb hby d24_6) rfl (l' := #[.val (.ref ar), .val (.int 0), .val (.int 1), .val (.ref c1), .val (.int 0)]) rfl ?_
    refine XS.iload X1.here hx rfl (hb hby d24_8) rfl ?_
    refine XS.iloadN X1.here hx rfl (hb hby d24_10) rfl ?_
    refine XS.icmpNo X1.here hx rfl (hb hby d24_11) rfl (tlt (by decide : ((0 : Int32) < (1 : Int32)))).2.1 ?_
    refine XS.aloadN X1.here hx rfl (hb hby d24_14) rfl rfl ?_
    refine XS.iload X1.here hx rfl (hb hby d24_15) rfl ?_
    refine XS.aloadN X1.here hx rfl (hb hby d24_17) rfl rfl ?_
    refine XS.iloadN X1.here hx rfl (hb hby d24_18) rfl ?_
    exact kz
  obtain ⟨cl2, Ar2, -, S2, M2, H2, -⟩ := id Aa
  have hin2 : ¬ ((0 : Int32) < 0 ∨ cl2.slots.size ≤ ((0 : Int32)).toNatClampNeg) := inb_of S2 ⟨by decide, by decide⟩
  have hat2 : cl2.slots[((0 : Int32)).toNatClampNeg]? = some (.int ch0) := H2.at hin2 rfl
  refine own_go (A := T1.setTop (mkF m 20 #[.val (.ref ar), .val (.int 0), .val (.int 1), .val (.ref c1), .val (.int 0)] [(.int ch0), (.int 0), (.ref c1)])) (fun _ kz => ?_) ?_
  · refine X1.caload hx (j := (0 : Int32)) (v := (.int ch0)) Ar2.1 (State.isArrayOf_alike hZ.alike Ar2.2.1) Ar2.2.2 hin2 hat2 (g := (mkF m 19 #[.val (.ref ar), .val (.int 0), .val (.int 1), .val (.ref c1), .val (.int 0)] [(.int 0), (.ref ar), (.int 0), (.ref c1)])) rfl rfl (hb hby d24_19) _ ?_
    exact kz
  obtain ⟨_, _, ⟨T3, L3, k3, n3⟩, -, X3, ⟨Lc3, hQ3, l3, y3, z3⟩, st3⟩ := Jvm.LawKit.callS X1 hx (y := (⟨"java/lang/StringUTF16", "putChar", "([BII)V"⟩ : MethodName)) hown (mvT hZ (own_w hw 145 rfl)) (mvT hZ (own_w hw 146 rfl)) (mvT hZ (own_w hw 22 rfl)) (mvT hZ (own_w hw 147 rfl)) (by decide) (backOf (W := 0) (rmPC_1_0 l Z a0 hw [] c1 kc1 ch0 (.int 0) (.int 0) T1.heap n0 Z1 Av1 g_c1 S_ad S_hi S_lo) hZ (own_w hw 147 rfl) (own_w hw 22 rfl) (by decide) (by decide)) (g := (mkF m 20 #[.val (.ref ar), .val (.int 0), .val (.int 1), .val (.ref c1), .val (.int 0)] [(.int ch0), (.int 0), (.ref c1)])) rfl (by rw [hml]; rfl) (argsL := [(.ref c1), (.int 0), (.int ch0)]) (rest := []) (lenOf own_pd2 rfl) rfl (by show 2 * 0 + _ ≤ _; exact Nat.le_of_eq rfl) (hb hby d24_20) (fun _ _ => ⟨rfl, rfl, (by decide : 1 + 0 ≤ _), (by decide : 2 + 0 ≤ _)⟩)
  dsimp only [Pt.U, Pt.locs, Pt.cells, Pt.slots] at X3 l3 y3 z3 st3 hQ3
  subst l3 y3 z3
  obtain ⟨rfl, N3q, K3q, Av3⟩ := hQ3
  have N3 := Fr.app N1 N3q
  replace S_ad := own_staKeep S_ad K3q (allS (own_nsA Av1) all0)
  replace S_hi := own_staKeep S_hi K3q (allS (own_nsA Av1) all0)
  replace S_lo := own_staKeep S_lo K3q (allS (own_nsA Av1) all0)
  replace Aa := Aa.keep K3q (ninS ne_ar_c1 nin0)
  have Z3 : n0 ≤ T3.heap.size := Nat.le_trans Z1 K3q.1
  have Kp3 : Keep h0 T3.heap [] := Kp1.trans K3q (allS (Or.inr szk_c1) (all0))
  refine own_go (A := T3.setTop (mkF m 23 #[.val (.ref ar), .val (.int 0), .val (.int 1), .val (.ref c1), .val (.int 0)] [])) (fun _ kz => st3 _ kz) ?_
  refine own_go (A := T3.setTop (mkF m 33 #[.val (.ref ar), .val (.int 1), .val (.int 1), .val (.ref c1), .val (.int 1)] [(.ref c1)])) (fun _ kz => ?_) ?_
  · refine XS.iinc X3.here hx rfl (hb hby d24_23) rfl (l' := #[.val (.ref ar), .val (.int 1), .val (.int 1), .val (.ref c1), .val (.int 0)]) rfl ?_
    refine XS.iinc X3.here hx rfl (hb hby d24_26) rfl (l' := #[.val (.ref ar), .val (.int 1), .val (.int 1), .val (.ref c1), .val (.int 1)]) rfl ?_
    refine XS.goto X3.here hx rfl (pc0 := 29) (pc' := 8) rfl (hb hby d24_29) (by decide) (by decide) ?_
    refine XS.iload X3.here hx rfl (hb hby d24_8) rfl ?_
    refine XS.iloadN X3.here hx rfl (hb hby d24_10) rfl ?_
    refine XS.icmpYes X3.here hx rfl (pc0 := 11) (pc' := 32) rfl (hb hby d24_11) rfl (flt (by decide : ¬ ((1 : Int32) < (1 : Int32)))).2.1 (by decide) (by decide) ?_
    refine XS.aloadN X3.here hx rfl (hb hby d24_32) rfl rfl ?_
    exact kz
  obtain ⟨fs, hrr, hrun, hended, hW, hsame⟩ := X3.leave (v := some (.ref c1)) (fun h => by rw [Bd.returns] at h; cases h)
  refine ⟨_, _, ?_, hrun, hended, _, _, rfl, ?_, ⟨_, rfl⟩, hW, hsame.mono (by decide) (by decide)⟩
  · show Steps p.tables e below (T3.setTop (mkF m 33 #[.val (.ref ar), .val (.int 1), .val (.int 1), .val (.ref c1), .val (.int 1)] [(.ref c1)])) _
    exact retOut X3 hx (t := (.array .byte)) Bd.returns rfl (Or.inr (Or.inr (Or.inr (Or.inr ⟨rfl, rfl, rfl⟩)))) (hb hby d24_33) hrr
  · show QrmTB_1 Z ch0 h0 n0 _ T3.heap _
    exact ⟨c1, kc1, rfl, N3, szk_c1, Kp3, Av3⟩
theorem d28_0 : decode jdk_52_method_5_code 0 = .ok (.getstatic 44, 3) := by decide +kernel
theorem d28_3 : decode jdk_52_method_5_code 3 = .ok (.ifCond .ne 25, 3) := by decide +kernel
theorem d28_28 : decode jdk_52_method_5_code 28 = .ok (.iload_n 1, 1) := by decide +kernel
theorem d28_29 : decode jdk_52_method_5_code 29 = .ok (.iconst 1, 1) := by decide +kernel
theorem d28_30 : decode jdk_52_method_5_code 30 = .ok (.ishl, 1) := by decide +kernel
theorem d28_31 : decode jdk_52_method_5_code 31 = .ok (.istore_n 1, 1) := by decide +kernel
theorem d28_32 : decode jdk_52_method_5_code 32 = .ok (.aload_n 0, 1) := by decide +kernel
theorem d28_33 : decode jdk_52_method_5_code 33 = .ok (.iload_n 1, 1) := by decide +kernel
theorem d28_34 : decode jdk_52_method_5_code 34 = .ok (.iinc 1 1, 3) := by decide +kernel
theorem d28_37 : decode jdk_52_method_5_code 37 = .ok (.baload, 1) := by decide +kernel
theorem d28_38 : decode jdk_52_method_5_code 38 = .ok (.sipush 255, 3) := by decide +kernel
theorem d28_41 : decode jdk_52_method_5_code 41 = .ok (.iand, 1) := by decide +kernel
theorem d28_42 : decode jdk_52_method_5_code 42 = .ok (.getstatic 59, 3) := by decide +kernel
theorem d28_45 : decode jdk_52_method_5_code 45 = .ok (.ishl, 1) := by decide +kernel
theorem d28_46 : decode jdk_52_method_5_code 46 = .ok (.aload_n 0, 1) := by decide +kernel
theorem d28_47 : decode jdk_52_method_5_code 47 = .ok (.iload_n 1, 1) := by decide +kernel
theorem d28_48 : decode jdk_52_method_5_code 48 = .ok (.baload, 1) := by decide +kernel
theorem d28_49 : decode jdk_52_method_5_code 49 = .ok (.sipush 255, 3) := by decide +kernel
theorem d28_52 : decode jdk_52_method_5_code 52 = .ok (.iand, 1) := by decide +kernel
theorem d28_53 : decode jdk_52_method_5_code 53 = .ok (.getstatic 63, 3) := by decide +kernel
theorem d28_56 : decode jdk_52_method_5_code 56 = .ok (.ishl, 1) := by decide +kernel
theorem d28_57 : decode jdk_52_method_5_code 57 = .ok (.ior, 1) := by decide +kernel
theorem d28_58 : decode jdk_52_method_5_code 58 = .ok (.i2c, 1) := by decide +kernel
theorem d28_59 : decode jdk_52_method_5_code 59 = .ok (.ireturn, 1) := by decide +kernel
theorem own_pn28 : plainName "java/lang/StringUTF16" = true := by first | (simp [plainName, overriddenIn]; done) | decide +kernel
theorem own_ef28 (m : MethodId) (x0 : Addr) (x1 : Int32) : entryFrame m #[(.ref x0), (.int x1)] 2 = mkF m 0 #[.val (.ref x0), .val (.int x1)] [] := by first | (simp [entryFrame, mkF, argsToLocals, Value.category]; done) | rfl
def QrmGC_1_0 (Z : State) (qq : Int32) (h0 : Heap) (n0 : Nat) (v : Option Value) (h : Heap) (L : List Loc) : Prop := v = some (.int qq) ∧ Fr n0 L ∧ h = h0
set_option maxRecDepth 65536 in
set_option maxHeartbeats 40000000 in
theorem rmGC_1_0 (l : Launch) (Z : State) (a0 : Array Value) (hw : ∀ d ∈ tables_1, d.before a0 Z = true) (ws : List Jvm.Cond) (ab : Addr) (kb : ClassId) (qq : Int32) (h0 : Heap) (n0 : Nat) (Z0 : n0 ≤ h0.size) (Ab : Arv Z h0 ab kb .byte (2 : Int32) [(.int (own_l qq)), (.int (own_h qq))] (.int 0)) (hq : ¬ qq < 0 ∧ ¬ (65535 : Int32) < qq) (S_ad : Sta Z h0 "java/lang/StringUTF16" "$assertionsDisabled" "Z" (.int 1)) (S_hi : Sta Z h0 "java/lang/StringUTF16" "HI_BYTE_SHIFT" "I" (.int 0)) (S_lo : Sta Z h0 "java/lang/StringUTF16" "LO_BYTE_SHIFT" "I" (.int 8)) :
    MetFree l (⟨"java/lang/StringUTF16", "getChar", "([BI)C"⟩ : MethodName) (head1 (Jvm.Cond.code (⟨"java/lang/StringUTF16", "getChar", "([BI)C"⟩ : MethodName) jdk_52_method_5_code 2 (some .char) :: ws) ({ frames := 0, cells := 0, slots := 0, locals := 0 } : Room)) (fun ar_ U_ => ar_ = #[(.ref ab), (.int 0)] ∧ Z.Warmed39 U_.vm ∧ U_.heap = h0) (fun _ _ _ _ _ => True) (fun _ U_ ou_ V_ => ∃ v_ L_, ou_ = .returned v_ ∧ QrmGC_1_0 Z qq h0 n0 v_ V_.heap L_ ∧ FrameEnd U_ ou_ V_ L_ ({ frames := 0, cells := 0, slots := 0, locals := 0 } : Room).cells ({ frames := 0, cells := 0, slots := 0, locals := 0 } : Room).slots) := by
  refine MetFree.of_bodySF (plainFor_of_name own_pn28) hisR ?_
  intro p e s m args below meth c s₁ Bd hml0 hP hK
  obtain ⟨rfl, hZ, hh⟩ := hP
  have hx := Bd.exec
  have hby := Bd.bytes
  have hml : c.maxLocals = 2 := hml0
  have hown : s.vm.findClass "java/lang/StringUTF16" = some m.cls := findClass_of_methodNamed Bd.named
  have hnm := (name_of_methodNamed Bd.named Bd.method).1
  have X0 : Stand p l e ({ frames := 0, cells := 0, slots := 0, locals := 0 } : Room) s m #[(.ref ab), (.int 0)] below meth c s₁ [] 0 0 := Stand.of_body Bd
  have e0 : s₁.heap = h0 := by rw [← hh, Bd.state]; rfl
  have N0 := Fr.nil n0
  refine own_go (A := s₁.setTop (mkF m 0 #[.val (.ref ab), .val (.int 0)] [])) (fun _ kz => castTop (own_ef28 m ab (0 : Int32)) kz) ?_
  obtain ⟨T1, X1, e1, st1⟩ := getS2 X0 hx hZ hown (host := "") (Or.inl (own_w hw 148 rfl)) Via.refl e0 S_ad (g := (mkF m 0 #[.val (.ref ab), .val (.int 0)] [])) rfl (hb hby d28_0)
  refine own_go (A := T1.setTop (mkF m 3 #[.val (.ref ab), .val (.int 0)] [(.int 1)])) (fun _ kz => st1 _ kz) ?_
  refine own_go (A := T1.setTop (mkF m 37 #[.val (.ref ab), .val (.int 1)] [(.int 0), (.ref ab)])) (fun _ kz => ?_) ?_
  · refine XS.ifYes X1.here hx rfl (pc0 := 3) (pc' := 28) rfl (hb hby d28_3) rfl ((if0 _ _).trans (feq (by decide : ¬ ((1 : Int32) = (0 : Int32)))).2) (by decide) (by decide) ?_
    refine XS.iloadN X1.here hx rfl (hb hby d28_28) rfl ?_
    refine XS.iconst X1.here hx rfl (hb hby d28_29) ?_
    refine XS.ishl X1.here hx rfl (hb hby d28_30) rfl ?_
    show Steps p.tables e below (T1.setTop (mkF m 31 #[.val (.ref ab), .val (.int 0)] [(.int 0)])) _
    refine XS.istoreN X1.here hx rfl (hb hby d28_31) rfl (l' := #[.val (.ref ab), .val (.int 0)]) rfl ?_
    refine XS.aloadN X1.here hx rfl (hb hby d28_32) rfl rfl ?_
    refine XS.iloadN X1.here hx rfl (hb hby d28_33) rfl ?_
    refine XS.iinc X1.here hx rfl (hb hby d28_34) rfl (l' := #[.val (.ref ab), .val (.int 1)]) rfl ?_
    exact kz
  obtain ⟨cl2, Ar2, -, S2, M2, H2, -⟩ := id Ab
  have hin2 : ¬ ((0 : Int32) < 0 ∨ cl2.slots.size ≤ ((0 : Int32)).toNatClampNeg) := inb_of S2 ⟨by decide, by decide⟩
  have hat2 : cl2.slots[((0 : Int32)).toNatClampNeg]? = some (.int (own_l qq)) := H2.at hin2 rfl
  refine own_go (A := T1.setTop (mkF m 38 #[.val (.ref ab), .val (.int 1)] [(.int (own_l qq))])) (fun _ kz => ?_) ?_
  · refine X1.baloadBytes hx (j := (0 : Int32)) (v := (.int (own_l qq))) (by rw [e1]; exact Ar2.1) (State.isArrayOf_alike hZ.alike Ar2.2.1) Ar2.2.2 hin2 hat2 (g := (mkF m 37 #[.val (.ref ab), .val (.int 1)] [(.int 0), (.ref ab)])) rfl rfl (hb hby d28_37) _ ?_
    exact kz
  refine own_go (A := T1.setTop (mkF m 42 #[.val (.ref ab), .val (.int 1)] [(.int ((own_l qq) &&& (255 : Int32)))])) (fun _ kz => ?_) ?_
  · refine XS.sipush X1.here hx rfl (hb hby d28_38) ?_
    refine XS.iand X1.here hx rfl (hb hby d28_41) rfl ?_
    exact kz
  obtain ⟨T3, X3, e3, st3⟩ := getS2 X1 hx hZ hown (host := "") (Or.inl (own_w hw 149 rfl)) Via.refl e1 S_hi (g := (mkF m 42 #[.val (.ref ab), .val (.int 1)] [(.int ((own_l qq) &&& (255 : Int32)))])) rfl (hb hby d28_42)
  refine own_go (A := T3.setTop (mkF m 45 #[.val (.ref ab), .val (.int 1)] [(.int 0), (.int ((own_l qq) &&& (255 : Int32)))])) (fun _ kz => st3 _ kz) ?_
  refine own_go (A := T3.setTop (mkF m 48 #[.val (.ref ab), .val (.int 1)] [(.int 1), (.ref ab), (.int (((own_l qq) &&& (255 : Int32)) <<< ((0 : Int32) &&& 31)))])) (fun _ kz => ?_) ?_
  · refine XS.ishl X3.here hx rfl (hb hby d28_45) rfl ?_
    refine XS.aloadN X3.here hx rfl (hb hby d28_46) rfl rfl ?_
    refine XS.iloadN X3.here hx rfl (hb hby d28_47) rfl ?_
    exact kz
  obtain ⟨cl4, Ar4, -, S4, M4, H4, -⟩ := id Ab
  have hin4 : ¬ ((1 : Int32) < 0 ∨ cl4.slots.size ≤ ((1 : Int32)).toNatClampNeg) := inb_of S4 ⟨by decide, by decide⟩
  have hat4 : cl4.slots[((1 : Int32)).toNatClampNeg]? = some (.int (own_h qq)) := H4.at hin4 rfl
  refine own_go (A := T3.setTop (mkF m 49 #[.val (.ref ab), .val (.int 1)] [(.int (own_h qq)), (.int (((own_l qq) &&& (255 : Int32)) <<< ((0 : Int32) &&& 31)))])) (fun _ kz => ?_) ?_
  · refine X3.baloadBytes hx (j := (1 : Int32)) (v := (.int (own_h qq))) (by rw [e3]; exact Ar4.1) (State.isArrayOf_alike hZ.alike Ar4.2.1) Ar4.2.2 hin4 hat4 (g := (mkF m 48 #[.val (.ref ab), .val (.int 1)] [(.int 1), (.ref ab), (.int (((own_l qq) &&& (255 : Int32)) <<< ((0 : Int32) &&& 31)))])) rfl rfl (hb hby d28_48) _ ?_
    exact kz
  refine own_go (A := T3.setTop (mkF m 53 #[.val (.ref ab), .val (.int 1)] [(.int ((own_h qq) &&& (255 : Int32))), (.int (((own_l qq) &&& (255 : Int32)) <<< ((0 : Int32) &&& 31)))])) (fun _ kz => ?_) ?_
  · refine XS.sipush X3.here hx rfl (hb hby d28_49) ?_
    refine XS.iand X3.here hx rfl (hb hby d28_52) rfl ?_
    exact kz
  obtain ⟨T5, X5, e5, st5⟩ := getS2 X3 hx hZ hown (host := "") (Or.inl (own_w hw 150 rfl)) Via.refl e3 S_lo (g := (mkF m 53 #[.val (.ref ab), .val (.int 1)] [(.int ((own_h qq) &&& (255 : Int32))), (.int (((own_l qq) &&& (255 : Int32)) <<< ((0 : Int32) &&& 31)))])) rfl (hb hby d28_53)
  refine own_go (A := T5.setTop (mkF m 56 #[.val (.ref ab), .val (.int 1)] [(.int 8), (.int ((own_h qq) &&& (255 : Int32))), (.int (((own_l qq) &&& (255 : Int32)) <<< ((0 : Int32) &&& 31)))])) (fun _ kz => st5 _ kz) ?_
  refine own_go (A := T5.setTop (mkF m 59 #[.val (.ref ab), .val (.int 1)] [(.int (((((own_l qq) &&& (255 : Int32)) <<< ((0 : Int32) &&& 31)) ||| (((own_h qq) &&& (255 : Int32)) <<< ((8 : Int32) &&& 31))).toUInt32.toUInt16.toUInt32.toInt32))])) (fun _ kz => ?_) ?_
  · refine XS.ishl X5.here hx rfl (hb hby d28_56) rfl ?_
    refine XS.ior X5.here hx rfl (hb hby d28_57) rfl ?_
    refine XS.i2c X5.here hx rfl (hb hby d28_58) rfl ?_
    exact kz
  obtain ⟨fs, hrr, hrun, hended, hW, hsame⟩ := X5.leave (v := some (.int (nar .char (((((own_l qq) &&& (255 : Int32)) <<< ((0 : Int32) &&& 31)) ||| (((own_h qq) &&& (255 : Int32)) <<< ((8 : Int32) &&& 31))).toUInt32.toUInt16.toUInt32.toInt32)))) (fun h => by rw [Bd.returns] at h; cases h)
  refine ⟨_, _, ?_, hrun, hended, _, _, rfl, ?_, ⟨_, rfl⟩, hW, hsame.mono (by decide) (by decide)⟩
  · show Steps p.tables e below (T5.setTop (mkF m 59 #[.val (.ref ab), .val (.int 1)] [(.int (((((own_l qq) &&& (255 : Int32)) <<< ((0 : Int32) &&& 31)) ||| (((own_h qq) &&& (255 : Int32)) <<< ((8 : Int32) &&& 31))).toUInt32.toUInt16.toUInt32.toInt32))])) _
    exact retN X5 hx (t := .char) Bd.returns (by simp) (hb hby d28_59) hrr
  · show QrmGC_1_0 Z qq h0 n0 _ T5.heap _
    rw [e5]
    exact ⟨congrArg (fun z => some (Value.int z)) (own_pair qq hq.1 hq.2), N0, rfl⟩
theorem d5_0 : decode jdk_52_method_16_code 0 = .ok (.iload_n 2, 1) := by decide +kernel
theorem d5_1 : decode jdk_52_method_16_code 1 = .ok (.newarray .byte, 2) := by decide +kernel
theorem d5_3 : decode jdk_52_method_16_code 3 = .ok (.astore_n 3, 1) := by decide +kernel
theorem d5_4 : decode jdk_52_method_16_code 4 = .ok (.aload_n 0, 1) := by decide +kernel
theorem d5_5 : decode jdk_52_method_16_code 5 = .ok (.iload_n 1, 1) := by decide +kernel
theorem d5_6 : decode jdk_52_method_16_code 6 = .ok (.aload_n 3, 1) := by decide +kernel
theorem d5_7 : decode jdk_52_method_16_code 7 = .ok (.iconst 0, 1) := by decide +kernel
theorem d5_8 : decode jdk_52_method_16_code 8 = .ok (.iload_n 2, 1) := by decide +kernel
theorem d5_9 : decode jdk_52_method_16_code 9 = .ok (.invokestatic 115, 3) := by decide +kernel
theorem d5_12 : decode jdk_52_method_16_code 12 = .ok (.istore 4, 2) := by decide +kernel
theorem d5_14 : decode jdk_52_method_16_code 14 = .ok (.iload 4, 2) := by decide +kernel
theorem d5_16 : decode jdk_52_method_16_code 16 = .ok (.iload_n 2, 1) := by decide +kernel
theorem d5_17 : decode jdk_52_method_16_code 17 = .ok (.if_icmp .eq 40, 3) := by decide +kernel
theorem d5_20 : decode jdk_52_method_16_code 20 = .ok (.aload_n 0, 1) := by decide +kernel
theorem d5_21 : decode jdk_52_method_16_code 21 = .ok (.iload_n 1, 1) := by decide +kernel
theorem d5_22 : decode jdk_52_method_16_code 22 = .ok (.iload_n 2, 1) := by decide +kernel
theorem d5_23 : decode jdk_52_method_16_code 23 = .ok (.invokestatic 119, 3) := by decide +kernel
theorem d5_26 : decode jdk_52_method_16_code 26 = .ok (.astore 5, 2) := by decide +kernel
theorem d5_28 : decode jdk_52_method_16_code 28 = .ok (.aload 5, 2) := by decide +kernel
theorem d5_30 : decode jdk_52_method_16_code 30 = .ok (.iload 4, 2) := by decide +kernel
theorem d5_32 : decode jdk_52_method_16_code 32 = .ok (.invokestatic 71, 3) := by decide +kernel
theorem d5_35 : decode jdk_52_method_16_code 35 = .ok (.sipush 255, 3) := by decide +kernel
theorem d5_38 : decode jdk_52_method_16_code 38 = .ok (.if_icmp .gt 16, 3) := by decide +kernel
theorem d5_54 : decode jdk_52_method_16_code 54 = .ok (.aload 5, 2) := by decide +kernel
theorem d5_56 : decode jdk_52_method_16_code 56 = .ok (.areturn, 1) := by decide +kernel
theorem d5_57 : decode jdk_52_method_16_code 57 = .ok (.aload_n 3, 1) := by decide +kernel
theorem d5_58 : decode jdk_52_method_16_code 58 = .ok (.areturn, 1) := by decide +kernel
theorem own_pn5 : plainName "java/lang/StringUTF16" = true := by first | (simp [plainName, overriddenIn]; done) | decide +kernel
theorem own_ef5 (m : MethodId) (x0 : Addr) (x1 : Int32) (x2 : Int32) : entryFrame m #[(.ref x0), (.int x1), (.int x2)] 6 = mkF m 0 #[.val (.ref x0), .val (.int x1), .val (.int x2), .unset, .unset, .unset] [] := by first | (simp [entryFrame, mkF, argsToLocals, Value.category]; done) | rfl
def QrmCo_1 (Z : State) (ch0 : Int32) (h0 : Heap) (n0 : Nat) (v : Option Value) (h : Heap) (L : List Loc) : Prop := ∃ (b : Addr) (kc : ClassId), v = some (.ref b) ∧ Fr n0 L ∧ h0.size ≤ b ∧ Keep h0 h [] ∧ ((((255 : Int32) < ch0) ∧ Arv Z h b kc .byte (2 : Int32) [(.int (own_l ch0)), (.int (own_h ch0))] (.int 0)) ∨ (¬ (255 : Int32) < ch0 ∧ Arv Z h b kc .byte (1 : Int32) [(.int (ch0.toInt8.toInt32))] (.int 0)))
set_option maxRecDepth 65536 in
set_option maxHeartbeats 40000000 in
theorem rmCo_1 (l : Launch) (Z : State) (a0 : Array Value) (hw : ∀ d ∈ tables_1, d.before a0 Z = true) (ws : List Jvm.Cond) (ar : Addr) (ka : ClassId) (ch0 : Int32) (h0 : Heap) (n0 : Nat) (Z0 : n0 ≤ h0.size) (Aa : Arv Z h0 ar ka .char (1 : Int32) [(.int ch0)] (.int 0)) (hp0 : ¬ ch0 < 0 ∧ ¬ (65535 : Int32) < ch0) (S_ad : Sta Z h0 "java/lang/StringUTF16" "$assertionsDisabled" "Z" (.int 1)) (S_hi : Sta Z h0 "java/lang/StringUTF16" "HI_BYTE_SHIFT" "I" (.int 0)) (S_lo : Sta Z h0 "java/lang/StringUTF16" "LO_BYTE_SHIFT" "I" (.int 8)) :
    MetFree l (⟨"java/lang/StringUTF16", "compress", "([CII)[B"⟩ : MethodName) (head1 (Jvm.Cond.code (⟨"java/lang/StringUTF16", "compress", "([CII)[B"⟩ : MethodName) jdk_52_method_16_code 6 (some (.array .byte)) :: ws) ({ frames := 3, cells := 2, slots := 3, locals := 40 } : Room)) (fun ar_ U_ => ar_ = #[(.ref ar), (.int 0), (.int 1)] ∧ Z.Warmed39 U_.vm ∧ U_.heap = h0) (fun _ _ _ _ _ => True) (fun _ U_ ou_ V_ => ∃ v_ L_, ou_ = .returned v_ ∧ QrmCo_1 Z ch0 h0 n0 v_ V_.heap L_ ∧ FrameEnd U_ ou_ V_ L_ ({ frames := 3, cells := 2, slots := 3, locals := 40 } : Room).cells ({ frames := 3, cells := 2, slots := 3, locals := 40 } : Room).slots) := by
  refine MetFree.of_bodySF (plainFor_of_name own_pn5) hisR ?_
  intro p e s m args below meth c s₁ Bd hml0 hP hK
  obtain ⟨rfl, hZ, hh⟩ := hP
  have hx := Bd.exec
  have hby := Bd.bytes
  have hml : c.maxLocals = 6 := hml0
  have hown : s.vm.findClass "java/lang/StringUTF16" = some m.cls := findClass_of_methodNamed Bd.named
  have hnm := (name_of_methodNamed Bd.named Bd.method).1
  have X0 : Stand p l e ({ frames := 3, cells := 2, slots := 3, locals := 40 } : Room) s m #[(.ref ar), (.int 0), (.int 1)] below meth c s₁ [] 0 0 := Stand.of_body Bd
  have e0 : s₁.heap = h0 := by rw [← hh, Bd.state]; rfl
  have N0 := Fr.nil n0
  have Kp0 : Keep h0 h0 [] := Keep.refl h0 _
  refine own_go (A := s₁.setTop (mkF m 0 #[.val (.ref ar), .val (.int 0), .val (.int 1), .unset, .unset, .unset] [])) (fun _ kz => castTop (own_ef5 m ar (0 : Int32) (1 : Int32)) kz) ?_
  refine own_go (A := s₁.setTop (mkF m 1 #[.val (.ref ar), .val (.int 0), .val (.int 1), .unset, .unset, .unset] [(.int 1)])) (fun _ kz => ?_) ?_
  · refine XS.iloadN X0.here hx rfl (hb hby d5_0) rfl ?_
    exact kz
  obtain ⟨T1, h1, k1, X1, e1, E1, A1, st1⟩ := newP X0 hx hZ (own_w hw 24 rfl) e0 (g := (mkF m 1 #[.val (.ref ar), .val (.int 0), .val (.int 1), .unset, .unset, .unset] [(.int 1)])) rfl (hb hby d5_1) rfl (by decide) (cap := 1) (by decide) (by decide) (by decide) (by decide)
  obtain ⟨b1, gq1⟩ : ∃ z, z = h0.size := ⟨_, rfl⟩
  rw [← gq1] at A1 st1
  have g_b1 : n0 ≤ b1 := Nat.le_trans Z0 (Nat.le_of_eq gq1.symm)
  have ne_ar_b1 : ar ≠ b1 := Nat.ne_of_lt (Nat.lt_of_lt_of_le Aa.lt (Nat.le_of_eq gq1.symm))
  have szk_b1 : h0.size ≤ b1 := Nat.le_trans Kp0.1 (Nat.le_of_eq gq1.symm)
  replace S_ad := S_ad.ext E1
  replace S_hi := S_hi.ext E1
  replace S_lo := S_lo.ext E1
  replace Aa := Aa.ext E1
  have Z1 : n0 ≤ h1.size := Nat.le_trans Z0 E1.1
  have Kp1 : Keep h0 h1 [] := Kp0.ext E1
  have Av_b1 : Arv Z h1 b1 k1 .byte (1 : Int32) [(.int 0)] (.int 0) := (Arv.new A1 (by decide)).pad (pad_rep [] (.int 0) 1)
  refine own_go (A := T1.setTop (mkF m 3 #[.val (.ref ar), .val (.int 0), .val (.int 1), .unset, .unset, .unset] [(.ref b1)])) (fun _ kz => st1 _ kz) ?_
  refine own_go (A := T1.setTop (mkF m 9 #[.val (.ref ar), .val (.int 0), .val (.int 1), .val (.ref b1), .unset, .unset] [(.int 1), (.int 0), (.ref b1), (.int 0), (.ref ar)])) (fun _ kz => ?_) ?_
  · refine XS.astoreN X1.here hx rfl (hb hby d5_3) rfl rfl (l' := #[.val (.ref ar), .val (.int 0), .val (.int 1), .val (.ref b1), .unset, .unset]) rfl ?_
    refine XS.aloadN X1.here hx rfl (hb hby d5_4) rfl rfl ?_
    refine XS.iloadN X1.here hx rfl (hb hby d5_5) rfl ?_
    refine XS.aloadN X1.here hx rfl (hb hby d5_6) rfl rfl ?_
    refine XS.iconst X1.here hx rfl (hb hby d5_7) ?_
    refine XS.iloadN X1.here hx rfl (hb hby d5_8) rfl ?_
    exact kz
  by_cases q0 : (255 : Int32) < ch0
  · skip
    obtain ⟨_, _, ⟨T2, L2, k2, n2⟩, -, X2, ⟨Lc2, hQ2, l2, y2, z2⟩, st2⟩ := Jvm.LawKit.callS X1 hx (y := (⟨"java/lang/StringUTF16", "compress", "([CI[BII)I"⟩ : MethodName)) hown (mvT hZ (own_w hw 25 rfl)) (mvT hZ (own_w hw 26 rfl)) (mvT hZ (own_w hw 22 rfl)) (mvT hZ (own_w hw 27 rfl)) (by decide) (backOf (W := 0) (rmCi_1_0 l Z a0 hw [] ar b1 ka k1 ch0 h1 n0 Z1 Aa Av_b1 ne_ar_b1 g_b1  q0) hZ (own_w hw 27 rfl) (own_w hw 22 rfl) (by decide) (by decide)) (g := (mkF m 9 #[.val (.ref ar), .val (.int 0), .val (.int 1), .val (.ref b1), .unset, .unset] [(.int 1), (.int 0), (.ref b1), (.int 0), (.ref ar)])) rfl (by rw [hml]; rfl) (argsL := [(.ref ar), (.int 0), (.ref b1), (.int 0), (.int 1)]) (rest := []) (lenOf own_pd3 rfl) rfl (by show 2 * 0 + _ ≤ _; exact Nat.le_of_eq rfl) (hb hby d5_9) (fun _ _ => ⟨rfl, e1, (by decide : 1 + 0 ≤ _), (by decide : 1 + 0 ≤ _)⟩)
    dsimp only [Pt.U, Pt.locs, Pt.cells, Pt.slots] at X2 l2 y2 z2 st2 hQ2
    subst l2 y2 z2
    obtain ⟨rfl, N2q, K2q⟩ := hQ2
    have N2 := Fr.app N0 N2q
    replace S_ad := own_staKeep S_ad K2q (allS (own_nsA Av_b1) all0)
    replace S_hi := own_staKeep S_hi K2q (allS (own_nsA Av_b1) all0)
    replace S_lo := own_staKeep S_lo K2q (allS (own_nsA Av_b1) all0)
    replace Aa := Aa.keep K2q (ninS ne_ar_b1 nin0)
    have Z2 : n0 ≤ T2.heap.size := Nat.le_trans Z1 K2q.1
    have Kp2 : Keep h0 T2.heap [] := Kp1.trans K2q (allS (Or.inr szk_b1) (all0))
    refine own_go (A := T2.setTop (mkF m 12 #[.val (.ref ar), .val (.int 0), .val (.int 1), .val (.ref b1), .unset, .unset] [(.int 0)])) (fun _ kz => st2 _ kz) ?_
    refine own_go (A := T2.setTop (mkF m 23 #[.val (.ref ar), .val (.int 0), .val (.int 1), .val (.ref b1), .val (.int 0), .unset] [(.int 1), (.int 0), (.ref ar)])) (fun _ kz => ?_) ?_
    · refine XS.istore X2.here hx rfl (hb hby d5_12) rfl (l' := #[.val (.ref ar), .val (.int 0), .val (.int 1), .val (.ref b1), .val (.int 0), .unset]) rfl ?_
      refine XS.iload X2.here hx rfl (hb hby d5_14) rfl ?_
      refine XS.iloadN X2.here hx rfl (hb hby d5_16) rfl ?_
      refine XS.icmpNo X2.here hx rfl (hb hby d5_17) rfl (feq (by decide : ¬ ((0 : Int32) = (1 : Int32)))).1 ?_
      refine XS.aloadN X2.here hx rfl (hb hby d5_20) rfl rfl ?_
      refine XS.iloadN X2.here hx rfl (hb hby d5_21) rfl ?_
      refine XS.iloadN X2.here hx rfl (hb hby d5_22) rfl ?_
      exact kz
    obtain ⟨_, _, ⟨T3, L3, k3, n3⟩, -, X3, ⟨Lc3, hQ3, l3, y3, z3⟩, st3⟩ := Jvm.LawKit.callS X2 hx (y := (⟨"java/lang/StringUTF16", "toBytes", "([CII)[B"⟩ : MethodName)) hown (mvT hZ (own_w hw 135 rfl)) (mvT hZ (own_w hw 136 rfl)) (mvT hZ (own_w hw 22 rfl)) (mvT hZ (own_w hw 137 rfl)) (by decide) (backOf (W := 0) (rmTB_1 l Z a0 hw [] ar ka ch0 T2.heap n0 Z2 Aa S_ad S_hi S_lo) hZ (own_w hw 137 rfl) (own_w hw 22 rfl) (by decide) (by decide)) (g := (mkF m 23 #[.val (.ref ar), .val (.int 0), .val (.int 1), .val (.ref b1), .val (.int 0), .unset] [(.int 1), (.int 0), (.ref ar)])) rfl (by rw [hml]; rfl) (argsL := [(.ref ar), (.int 0), (.int 1)]) (rest := []) (lenOf own_pd4 rfl) rfl (by show 2 * 0 + _ ≤ _; exact Nat.le_of_eq rfl) (hb hby d5_23) (fun _ _ => ⟨rfl, rfl, (by decide : 1 + 1 ≤ _), (by decide : 1 + 2 ≤ _)⟩)
    dsimp only [Pt.U, Pt.locs, Pt.cells, Pt.slots] at X3 l3 y3 z3 st3 hQ3
    subst l3 y3 z3
    obtain ⟨c3, kc3, rfl, N3q, zc3, K3q, Av3⟩ := hQ3
    have N3 := Fr.app N2 N3q
    have ne_ar_c3 : ar ≠ c3 := Nat.ne_of_lt (Nat.lt_of_lt_of_le Aa.lt zc3)
    have g_c3 : n0 ≤ c3 := Nat.le_trans Z2 zc3
    have szk_c3 : h0.size ≤ c3 := Nat.le_trans Kp2.1 zc3
    replace S_ad := own_staKeep S_ad K3q all0
    replace S_hi := own_staKeep S_hi K3q all0
    replace S_lo := own_staKeep S_lo K3q all0
    replace Aa := Aa.keep K3q nin0
    have Z3 : n0 ≤ T3.heap.size := Nat.le_trans Z2 K3q.1
    have Kp3 : Keep h0 T3.heap [] := Kp2.trans K3q (all0)
    refine own_go (A := T3.setTop (mkF m 26 #[.val (.ref ar), .val (.int 0), .val (.int 1), .val (.ref b1), .val (.int 0), .unset] [(.ref c3)])) (fun _ kz => st3 _ kz) ?_
    refine own_go (A := T3.setTop (mkF m 32 #[.val (.ref ar), .val (.int 0), .val (.int 1), .val (.ref b1), .val (.int 0), .val (.ref c3)] [(.int 0), (.ref c3)])) (fun _ kz => ?_) ?_
    · refine XS.astore X3.here hx rfl (hb hby d5_26) rfl rfl (l' := #[.val (.ref ar), .val (.int 0), .val (.int 1), .val (.ref b1), .val (.int 0), .val (.ref c3)]) rfl ?_
      refine XS.aload X3.here hx rfl (hb hby d5_28) rfl rfl ?_
      refine XS.iload X3.here hx rfl (hb hby d5_30) rfl ?_
      exact kz
    obtain ⟨_, _, ⟨T4, L4, k4, n4⟩, -, X4, ⟨Lc4, hQ4, l4, y4, z4⟩, st4⟩ := Jvm.LawKit.callS X3 hx (y := (⟨"java/lang/StringUTF16", "getChar", "([BI)C"⟩ : MethodName)) hown (mvT hZ (own_w hw 151 rfl)) (mvT hZ (own_w hw 152 rfl)) (mvT hZ (own_w hw 22 rfl)) (mvT hZ (own_w hw 153 rfl)) (by decide) (backOf (W := 0) (rmGC_1_0 l Z a0 hw [] c3 kc3 ch0  T3.heap n0 Z3 Av3 hp0 S_ad S_hi S_lo) hZ (own_w hw 153 rfl) (own_w hw 22 rfl) (by decide) (by decide)) (g := (mkF m 32 #[.val (.ref ar), .val (.int 0), .val (.int 1), .val (.ref b1), .val (.int 0), .val (.ref c3)] [(.int 0), (.ref c3)])) rfl (by rw [hml]; rfl) (argsL := [(.ref c3), (.int 0)]) (rest := []) (lenOf own_pd5 rfl) rfl (by show 2 * 0 + _ ≤ _; exact Nat.le_of_eq rfl) (hb hby d5_32) (fun _ _ => ⟨rfl, rfl, (by decide : 2 + 0 ≤ _), (by decide : 3 + 0 ≤ _)⟩)
    dsimp only [Pt.U, Pt.locs, Pt.cells, Pt.slots] at X4 l4 y4 z4 st4 hQ4
    subst l4 y4 z4
    obtain ⟨rfl, N4q, e4⟩ := hQ4
    have N4 := Fr.app N3 N4q
    refine own_go (A := T4.setTop (mkF m 35 #[.val (.ref ar), .val (.int 0), .val (.int 1), .val (.ref b1), .val (.int 0), .val (.ref c3)] [(.int ch0)])) (fun _ kz => st4 _ kz) ?_
    refine own_go (A := T4.setTop (mkF m 56 #[.val (.ref ar), .val (.int 0), .val (.int 1), .val (.ref b1), .val (.int 0), .val (.ref c3)] [(.ref c3)])) (fun _ kz => ?_) ?_
    · refine XS.sipush X4.here hx rfl (hb hby d5_35) ?_
      refine XS.icmpYes X4.here hx rfl (pc0 := 38) (pc' := 54) rfl (hb hby d5_38) rfl (tlt q0).2.2.1 (by decide) (by decide) ?_
      refine XS.aload X4.here hx rfl (hb hby d5_54) rfl rfl ?_
      exact kz
    obtain ⟨fs, hrr, hrun, hended, hW, hsame⟩ := X4.leave (v := some (.ref c3)) (fun h => by rw [Bd.returns] at h; cases h)
    refine ⟨_, _, ?_, hrun, hended, _, _, rfl, ?_, ⟨_, rfl⟩, hW, hsame.mono (by decide) (by decide)⟩
    · show Steps p.tables e below (T4.setTop (mkF m 56 #[.val (.ref ar), .val (.int 0), .val (.int 1), .val (.ref b1), .val (.int 0), .val (.ref c3)] [(.ref c3)])) _
      exact retOut X4 hx (t := (.array .byte)) Bd.returns rfl (Or.inr (Or.inr (Or.inr (Or.inr ⟨rfl, rfl, rfl⟩)))) (hb hby d5_56) hrr
    · show QrmCo_1 Z ch0 h0 n0 _ T4.heap _
      rw [e4]
      exact ⟨c3, kc3, rfl, N4, szk_c3, Kp3, Or.inl ⟨q0, Av3⟩⟩
  · skip
    obtain ⟨_, _, ⟨T5, L5, k5, n5⟩, -, X5, ⟨Lc5, hQ5, l5, y5, z5⟩, st5⟩ := Jvm.LawKit.callS X1 hx (y := (⟨"java/lang/StringUTF16", "compress", "([CI[BII)I"⟩ : MethodName)) hown (mvT hZ (own_w hw 25 rfl)) (mvT hZ (own_w hw 26 rfl)) (mvT hZ (own_w hw 22 rfl)) (mvT hZ (own_w hw 27 rfl)) (by decide) (backOf (W := 0) (rmCi_1_1 l Z a0 hw [] ar b1 ka k1 ch0 h1 n0 Z1 Aa Av_b1 ne_ar_b1 g_b1 q0 ) hZ (own_w hw 27 rfl) (own_w hw 22 rfl) (by decide) (by decide)) (g := (mkF m 9 #[.val (.ref ar), .val (.int 0), .val (.int 1), .val (.ref b1), .unset, .unset] [(.int 1), (.int 0), (.ref b1), (.int 0), (.ref ar)])) rfl (by rw [hml]; rfl) (argsL := [(.ref ar), (.int 0), (.ref b1), (.int 0), (.int 1)]) (rest := []) (lenOf own_pd3 rfl) rfl (by show 2 * 0 + _ ≤ _; exact Nat.le_of_eq rfl) (hb hby d5_9) (fun _ _ => ⟨rfl, e1, (by decide : 1 + 0 ≤ _), (by decide : 1 + 0 ≤ _)⟩)
    dsimp only [Pt.U, Pt.locs, Pt.cells, Pt.slots] at X5 l5 y5 z5 st5 hQ5
    subst l5 y5 z5
    obtain ⟨rfl, N5q, K5q, Av5⟩ := hQ5
    have N5 := Fr.app N0 N5q
    replace S_ad := own_staKeep S_ad K5q (allS (own_nsA Av_b1) all0)
    replace S_hi := own_staKeep S_hi K5q (allS (own_nsA Av_b1) all0)
    replace S_lo := own_staKeep S_lo K5q (allS (own_nsA Av_b1) all0)
    replace Aa := Aa.keep K5q (ninS ne_ar_b1 nin0)
    have Z5 : n0 ≤ T5.heap.size := Nat.le_trans Z1 K5q.1
    have Kp5 : Keep h0 T5.heap [] := Kp1.trans K5q (allS (Or.inr szk_b1) (all0))
    refine own_go (A := T5.setTop (mkF m 12 #[.val (.ref ar), .val (.int 0), .val (.int 1), .val (.ref b1), .unset, .unset] [(.int 1)])) (fun _ kz => st5 _ kz) ?_
    refine own_go (A := T5.setTop (mkF m 58 #[.val (.ref ar), .val (.int 0), .val (.int 1), .val (.ref b1), .val (.int 1), .unset] [(.ref b1)])) (fun _ kz => ?_) ?_
    · refine XS.istore X5.here hx rfl (hb hby d5_12) rfl (l' := #[.val (.ref ar), .val (.int 0), .val (.int 1), .val (.ref b1), .val (.int 1), .unset]) rfl ?_
      refine XS.iload X5.here hx rfl (hb hby d5_14) rfl ?_
      refine XS.iloadN X5.here hx rfl (hb hby d5_16) rfl ?_
      refine XS.icmpYes X5.here hx rfl (pc0 := 17) (pc' := 57) rfl (hb hby d5_17) rfl (teq (by decide : ((1 : Int32) = (1 : Int32)))).1 (by decide) (by decide) ?_
      refine XS.aloadN X5.here hx rfl (hb hby d5_57) rfl rfl ?_
      exact kz
    obtain ⟨fs, hrr, hrun, hended, hW, hsame⟩ := X5.leave (v := some (.ref b1)) (fun h => by rw [Bd.returns] at h; cases h)
    refine ⟨_, _, ?_, hrun, hended, _, _, rfl, ?_, ⟨_, rfl⟩, hW, hsame.mono (by decide) (by decide)⟩
    · show Steps p.tables e below (T5.setTop (mkF m 58 #[.val (.ref ar), .val (.int 0), .val (.int 1), .val (.ref b1), .val (.int 1), .unset] [(.ref b1)])) _
      exact retOut X5 hx (t := (.array .byte)) Bd.returns rfl (Or.inr (Or.inr (Or.inr (Or.inr ⟨rfl, rfl, rfl⟩)))) (hb hby d5_58) hrr
    · show QrmCo_1 Z ch0 h0 n0 _ T5.heap _
      exact ⟨b1, k1, rfl, N5, szk_b1, Kp5, Or.inr ⟨q0, Av5⟩⟩
theorem d7_0 : decode jdk_52_method_15_code 0 = .ok (.iload_n 1, 1) := by decide +kernel
theorem d7_1 : decode jdk_52_method_15_code 1 = .ok (.aload_n 0, 1) := by decide +kernel
theorem d7_2 : decode jdk_52_method_15_code 2 = .ok (.arraylength, 1) := by decide +kernel
theorem d7_3 : decode jdk_52_method_15_code 3 = .ok (.isub, 1) := by decide +kernel
theorem d7_4 : decode jdk_52_method_15_code 4 = .ok (.bipush 31, 2) := by decide +kernel
theorem d7_6 : decode jdk_52_method_15_code 6 = .ok (.iushr, 1) := by decide +kernel
theorem d7_7 : decode jdk_52_method_15_code 7 = .ok (.i2b, 1) := by decide +kernel
theorem d7_8 : decode jdk_52_method_15_code 8 = .ok (.ireturn, 1) := by decide +kernel
theorem own_pn7 : plainName "java/lang/StringUTF16" = true := by first | (simp [plainName, overriddenIn]; done) | decide +kernel
theorem own_ef7 (m : MethodId) (x0 : Addr) (x1 : Int32) : entryFrame m #[(.ref x0), (.int x1)] 2 = mkF m 0 #[.val (.ref x0), .val (.int x1)] [] := by first | (simp [entryFrame, mkF, argsToLocals, Value.category]; done) | rfl
def QrmCF_W_1 (Z : State)  (h0 : Heap) (n0 : Nat) (v : Option Value) (h : Heap) (L : List Loc) : Prop := v = some (.int 1) ∧ Fr n0 L ∧ h = h0
set_option maxRecDepth 65536 in
set_option maxHeartbeats 40000000 in
theorem rmCF_W_1 (l : Launch) (Z : State) (a0 : Array Value) (hw : ∀ d ∈ tables_1, d.before a0 Z = true) (ws : List Jvm.Cond) (ab : Addr) (kb : ClassId) (w0 w1 : Value) (h0 : Heap) (n0 : Nat) (Z0 : n0 ≤ h0.size) (Ab : Arv Z h0 ab kb .byte (2 : Int32) [w0, w1] (.int 0)) :
    MetFree l (⟨"java/lang/StringUTF16", "coderFromArrayLen", "([BI)B"⟩ : MethodName) (head1 (Jvm.Cond.code (⟨"java/lang/StringUTF16", "coderFromArrayLen", "([BI)B"⟩ : MethodName) jdk_52_method_15_code 2 (some .byte) :: ws) ({ frames := 0, cells := 0, slots := 0, locals := 0 } : Room)) (fun ar_ U_ => ar_ = #[(.ref ab), (.int 1)] ∧ Z.Warmed39 U_.vm ∧ U_.heap = h0) (fun _ _ _ _ _ => True) (fun _ U_ ou_ V_ => ∃ v_ L_, ou_ = .returned v_ ∧ QrmCF_W_1 Z  h0 n0 v_ V_.heap L_ ∧ FrameEnd U_ ou_ V_ L_ ({ frames := 0, cells := 0, slots := 0, locals := 0 } : Room).cells ({ frames := 0, cells := 0, slots := 0, locals := 0 } : Room).slots) := by
  refine MetFree.of_bodySF (plainFor_of_name own_pn7) hisR ?_
  intro p e s m args below meth c s₁ Bd hml0 hP hK
  obtain ⟨rfl, hZ, hh⟩ := hP
  have hx := Bd.exec
  have hby := Bd.bytes
  have hml : c.maxLocals = 2 := hml0
  have hown : s.vm.findClass "java/lang/StringUTF16" = some m.cls := findClass_of_methodNamed Bd.named
  have hnm := (name_of_methodNamed Bd.named Bd.method).1
  have X0 : Stand p l e ({ frames := 0, cells := 0, slots := 0, locals := 0 } : Room) s m #[(.ref ab), (.int 1)] below meth c s₁ [] 0 0 := Stand.of_body Bd
  have e0 : s₁.heap = h0 := by rw [← hh, Bd.state]; rfl
  have N0 := Fr.nil n0
  refine own_go (A := s₁.setTop (mkF m 0 #[.val (.ref ab), .val (.int 1)] [])) (fun _ kz => castTop (own_ef7 m ab (1 : Int32)) kz) ?_
  refine own_go (A := s₁.setTop (mkF m 2 #[.val (.ref ab), .val (.int 1)] [(.ref ab), (.int 1)])) (fun _ kz => ?_) ?_
  · refine XS.iloadN X0.here hx rfl (hb hby d7_0) rfl ?_
    refine XS.aloadN X0.here hx rfl (hb hby d7_1) rfl rfl ?_
    exact kz
  obtain ⟨cl1, Ar1, -, S1, M1, -, -⟩ := id Ab
  refine own_go (A := s₁.setTop (mkF m 3 #[.val (.ref ab), .val (.int 1)] [(.int 2), (.int 1)])) (fun _ kz => ?_) ?_
  · refine X0.arraylength hx (by rw [e0]; exact Ar1.1) (State.isArrayOf_alike hZ.alike Ar1.2.1) (g := (mkF m 2 #[.val (.ref ab), .val (.int 1)] [(.ref ab), (.int 1)])) rfl rfl (hb hby d7_2) _ ?_
    rw [len_of S1 M1]
    exact kz
  refine own_go (A := s₁.setTop (mkF m 8 #[.val (.ref ab), .val (.int 1)] [(.int 1)])) (fun _ kz => ?_) ?_
  · refine XS.isub X0.here hx rfl (hb hby d7_3) rfl ?_
    show Steps p.tables e below (s₁.setTop (mkF m 4 #[.val (.ref ab), .val (.int 1)] [(.int (-1))])) _
    refine XS.bipush X0.here hx rfl (hb hby d7_4) ?_
    refine XS.iushr X0.here hx rfl (hb hby d7_6) rfl ?_
    show Steps p.tables e below (s₁.setTop (mkF m 7 #[.val (.ref ab), .val (.int 1)] [(.int 1)])) _
    refine XS.i2b X0.here hx rfl (hb hby d7_7) rfl ?_
    exact kz
  obtain ⟨fs, hrr, hrun, hended, hW, hsame⟩ := X0.leave (v := some (.int 1)) (fun h => by rw [Bd.returns] at h; cases h)
  refine ⟨_, _, ?_, hrun, hended, _, _, rfl, ?_, ⟨_, rfl⟩, hW, hsame.mono (by decide) (by decide)⟩
  · show Steps p.tables e below (s₁.setTop (mkF m 8 #[.val (.ref ab), .val (.int 1)] [(.int 1)])) _
    exact retN X0 hx (t := .byte) Bd.returns (by simp) (hb hby d7_8) hrr
  · show QrmCF_W_1 Z  h0 n0 _ s₁.heap _
    rw [e0]
    exact ⟨rfl, N0, rfl⟩
def QrmCF_L_1 (Z : State)  (h0 : Heap) (n0 : Nat) (v : Option Value) (h : Heap) (L : List Loc) : Prop := v = some (.int 0) ∧ Fr n0 L ∧ h = h0
set_option maxRecDepth 65536 in
set_option maxHeartbeats 40000000 in
theorem rmCF_L_1 (l : Launch) (Z : State) (a0 : Array Value) (hw : ∀ d ∈ tables_1, d.before a0 Z = true) (ws : List Jvm.Cond) (ab : Addr) (kb : ClassId) (w0 : Value) (h0 : Heap) (n0 : Nat) (Z0 : n0 ≤ h0.size) (Ab : Arv Z h0 ab kb .byte (1 : Int32) [w0] (.int 0)) :
    MetFree l (⟨"java/lang/StringUTF16", "coderFromArrayLen", "([BI)B"⟩ : MethodName) (head1 (Jvm.Cond.code (⟨"java/lang/StringUTF16", "coderFromArrayLen", "([BI)B"⟩ : MethodName) jdk_52_method_15_code 2 (some .byte) :: ws) ({ frames := 0, cells := 0, slots := 0, locals := 0 } : Room)) (fun ar_ U_ => ar_ = #[(.ref ab), (.int 1)] ∧ Z.Warmed39 U_.vm ∧ U_.heap = h0) (fun _ _ _ _ _ => True) (fun _ U_ ou_ V_ => ∃ v_ L_, ou_ = .returned v_ ∧ QrmCF_L_1 Z  h0 n0 v_ V_.heap L_ ∧ FrameEnd U_ ou_ V_ L_ ({ frames := 0, cells := 0, slots := 0, locals := 0 } : Room).cells ({ frames := 0, cells := 0, slots := 0, locals := 0 } : Room).slots) := by
  refine MetFree.of_bodySF (plainFor_of_name own_pn7) hisR ?_
  intro p e s m args below meth c s₁ Bd hml0 hP hK
  obtain ⟨rfl, hZ, hh⟩ := hP
  have hx := Bd.exec
  have hby := Bd.bytes
  have hml : c.maxLocals = 2 := hml0
  have hown : s.vm.findClass "java/lang/StringUTF16" = some m.cls := findClass_of_methodNamed Bd.named
  have hnm := (name_of_methodNamed Bd.named Bd.method).1
  have X0 : Stand p l e ({ frames := 0, cells := 0, slots := 0, locals := 0 } : Room) s m #[(.ref ab), (.int 1)] below meth c s₁ [] 0 0 := Stand.of_body Bd
  have e0 : s₁.heap = h0 := by rw [← hh, Bd.state]; rfl
  have N0 := Fr.nil n0
  refine own_go (A := s₁.setTop (mkF m 0 #[.val (.ref ab), .val (.int 1)] [])) (fun _ kz => castTop (own_ef7 m ab (1 : Int32)) kz) ?_
  refine own_go (A := s₁.setTop (mkF m 2 #[.val (.ref ab), .val (.int 1)] [(.ref ab), (.int 1)])) (fun _ kz => ?_) ?_
  · refine XS.iloadN X0.here hx rfl (hb hby d7_0) rfl ?_
    refine XS.aloadN X0.here hx rfl (hb hby d7_1) rfl rfl ?_
    exact kz
  obtain ⟨cl1, Ar1, -, S1, M1, -, -⟩ := id Ab
  refine own_go (A := s₁.setTop (mkF m 3 #[.val (.ref ab), .val (.int 1)] [(.int 1), (.int 1)])) (fun _ kz => ?_) ?_
  · refine X0.arraylength hx (by rw [e0]; exact Ar1.1) (State.isArrayOf_alike hZ.alike Ar1.2.1) (g := (mkF m 2 #[.val (.ref ab), .val (.int 1)] [(.ref ab), (.int 1)])) rfl rfl (hb hby d7_2) _ ?_
    rw [len_of S1 M1]
    exact kz
  refine own_go (A := s₁.setTop (mkF m 8 #[.val (.ref ab), .val (.int 1)] [(.int 0)])) (fun _ kz => ?_) ?_
  · refine XS.isub X0.here hx rfl (hb hby d7_3) rfl ?_
    show Steps p.tables e below (s₁.setTop (mkF m 4 #[.val (.ref ab), .val (.int 1)] [(.int 0)])) _
    refine XS.bipush X0.here hx rfl (hb hby d7_4) ?_
    refine XS.iushr X0.here hx rfl (hb hby d7_6) rfl ?_
    show Steps p.tables e below (s₁.setTop (mkF m 7 #[.val (.ref ab), .val (.int 1)] [(.int 0)])) _
    refine XS.i2b X0.here hx rfl (hb hby d7_7) rfl ?_
    exact kz
  obtain ⟨fs, hrr, hrun, hended, hW, hsame⟩ := X0.leave (v := some (.int 0)) (fun h => by rw [Bd.returns] at h; cases h)
  refine ⟨_, _, ?_, hrun, hended, _, _, rfl, ?_, ⟨_, rfl⟩, hW, hsame.mono (by decide) (by decide)⟩
  · show Steps p.tables e below (s₁.setTop (mkF m 8 #[.val (.ref ab), .val (.int 1)] [(.int 0)])) _
    exact retN X0 hx (t := .byte) Bd.returns (by simp) (hb hby d7_8) hrr
  · show QrmCF_L_1 Z  h0 n0 _ s₁.heap _
    rw [e0]
    exact ⟨rfl, N0, rfl⟩
def own_Str1 (Z : State) (h : Heap) (a : Addr) (ch0 : Int32) : Prop := ∃ (t : Addr) (kt : ClassId), (((255 : Int32) < ch0) ∧ Fld Z h a "java/lang/String" "value" "[B" (.ref t) ∧ Fld Z h a "java/lang/String" "coder" "B" (.int 1) ∧ Arv Z h t kt .byte (2 : Int32) [(.int (own_l ch0)), (.int (own_h ch0))] (.int 0)) ∨ (¬ (255 : Int32) < ch0 ∧ Fld Z h a "java/lang/String" "value" "[B" (.ref t) ∧ Fld Z h a "java/lang/String" "coder" "B" (.int 0) ∧ Arv Z h t kt .byte (1 : Int32) [(.int (ch0.toInt8.toInt32))] (.int 0))
theorem own_Str1.keep {Z : State} {h h' : Heap} {a : Addr} {ch0 : Int32} (F : own_Str1 Z h a ch0) (K : Keep h h' []) (_ : a ∉ ([] : List Addr)) : own_Str1 Z h' a ch0 := by
  obtain ⟨t, kt, ⟨q, v1, v2, v3⟩ | ⟨q0, v1, v2, v3⟩⟩ := F
  · exact ⟨t, kt, Or.inl ⟨q, v1.keep K nin0, v2.keep K nin0, v3.keep K nin0⟩⟩
  · exact ⟨t, kt, Or.inr ⟨q0, v1.keep K nin0, v2.keep K nin0, v3.keep K nin0⟩⟩
theorem d3_0 : decode jdk_42_method_149_code 0 = .ok (.aload_n 0, 1) := by decide +kernel
theorem d3_1 : decode jdk_42_method_149_code 1 = .ok (.invokespecial 1, 3) := by decide +kernel
theorem d3_4 : decode jdk_42_method_149_code 4 = .ok (.iload_n 3, 1) := by decide +kernel
theorem d3_5 : decode jdk_42_method_149_code 5 = .ok (.ifCond .ne 22, 3) := by decide +kernel
theorem d3_27 : decode jdk_42_method_149_code 27 = .ok (.getstatic 38, 3) := by decide +kernel
theorem d3_30 : decode jdk_42_method_149_code 30 = .ok (.ifCond .eq 28, 3) := by decide +kernel
theorem d3_33 : decode jdk_42_method_149_code 33 = .ok (.aload_n 1, 1) := by decide +kernel
theorem d3_34 : decode jdk_42_method_149_code 34 = .ok (.iload_n 2, 1) := by decide +kernel
theorem d3_35 : decode jdk_42_method_149_code 35 = .ok (.iload_n 3, 1) := by decide +kernel
theorem d3_36 : decode jdk_42_method_149_code 36 = .ok (.invokestatic 177, 3) := by decide +kernel
theorem d3_39 : decode jdk_42_method_149_code 39 = .ok (.astore 5, 2) := by decide +kernel
theorem d3_41 : decode jdk_42_method_149_code 41 = .ok (.aload_n 0, 1) := by decide +kernel
theorem d3_42 : decode jdk_42_method_149_code 42 = .ok (.aload 5, 2) := by decide +kernel
theorem d3_44 : decode jdk_42_method_149_code 44 = .ok (.iload_n 3, 1) := by decide +kernel
theorem d3_45 : decode jdk_42_method_149_code 45 = .ok (.invokestatic 47, 3) := by decide +kernel
theorem d3_48 : decode jdk_42_method_149_code 48 = .ok (.putfield 15, 3) := by decide +kernel
theorem d3_51 : decode jdk_42_method_149_code 51 = .ok (.aload_n 0, 1) := by decide +kernel
theorem d3_52 : decode jdk_42_method_149_code 52 = .ok (.aload 5, 2) := by decide +kernel
theorem d3_54 : decode jdk_42_method_149_code 54 = .ok (.putfield 9, 3) := by decide +kernel
theorem d3_57 : decode jdk_42_method_149_code 57 = .ok (.return_, 1) := by decide +kernel
theorem own_pn3 : plainName "java/lang/String" = true := by first | (simp [plainName, overriddenIn]; done) | decide +kernel
theorem own_ef3 (m : MethodId) (x0 : Addr) (x1 : Addr) (x2 : Int32) (x3 : Int32) : entryFrame m #[(.ref x0), (.ref x1), (.int x2), (.int x3), .null] 6 = mkF m 0 #[.val (.ref x0), .val (.ref x1), .val (.int x2), .val (.int x3), .val .null, .unset] [] := by first | (simp [entryFrame, mkF, argsToLocals, Value.category]; done) | rfl
def QrmI3_1 (Z : State) (a : Addr) (ch0 : Int32) (h0 : Heap) (n0 : Nat) (v : Option Value) (h : Heap) (L : List Loc) : Prop := v = none ∧ Fr n0 L ∧ Keep h0 h [a] ∧ Exa Z h a "java/lang/String" ∧ own_Str1 Z h a ch0
set_option maxRecDepth 65536 in
set_option maxHeartbeats 40000000 in
theorem rmI3_1 (l : Launch) (Z : State) (a0 : Array Value) (hw : ∀ d ∈ tables_1, d.before a0 Z = true) (ws : List Jvm.Cond) (a ar : Addr) (ka : ClassId) (ch0 cs : Int32) (h0 : Heap) (n0 : Nat) (Z0 : n0 ≤ h0.size) (Ex : Exa Z h0 a "java/lang/String") (Fv : Fld Z h0 a "java/lang/String" "value" "[B" .null) (Fc : Fld Z h0 a "java/lang/String" "coder" "B" (.int 0)) (g_a : n0 ≤ a) (Aa : Arv Z h0 ar ka .char (1 : Int32) [(.int ch0)] (.int 0)) (hp0 : ¬ ch0 < 0 ∧ ¬ (65535 : Int32) < ch0) (hcs : ¬ (cs = (0 : Int32))) (S_cs : Sta Z h0 "java/lang/String" "COMPACT_STRINGS" "Z" (.int cs)) (S_ad : Sta Z h0 "java/lang/StringUTF16" "$assertionsDisabled" "Z" (.int 1)) (S_hi : Sta Z h0 "java/lang/StringUTF16" "HI_BYTE_SHIFT" "I" (.int 0)) (S_lo : Sta Z h0 "java/lang/StringUTF16" "LO_BYTE_SHIFT" "I" (.int 8)) :
    MetFree l (⟨"java/lang/String", "<init>", "([CIILjava/lang/Void;)V"⟩ : MethodName) (head1 (Jvm.Cond.code (⟨"java/lang/String", "<init>", "([CIILjava/lang/Void;)V"⟩ : MethodName) jdk_42_method_149_code 6 none :: ws) ({ frames := 4, cells := 2, slots := 3, locals := 57 } : Room)) (fun ar_ U_ => ar_ = #[(.ref a), (.ref ar), (.int 0), (.int 1), .null] ∧ Z.Warmed39 U_.vm ∧ U_.heap = h0) (fun _ _ _ _ _ => True) (fun _ U_ ou_ V_ => ∃ v_ L_, ou_ = .returned v_ ∧ QrmI3_1 Z a ch0 h0 n0 v_ V_.heap L_ ∧ FrameEnd U_ ou_ V_ L_ ({ frames := 4, cells := 2, slots := 3, locals := 57 } : Room).cells ({ frames := 4, cells := 2, slots := 3, locals := 57 } : Room).slots) := by
  refine MetFree.of_bodySF (plainFor_of_name own_pn3) hisR ?_
  intro p e s m args below meth c s₁ Bd hml0 hP hK
  obtain ⟨rfl, hZ, hh⟩ := hP
  have hx := Bd.exec
  have hby := Bd.bytes
  have hml : c.maxLocals = 6 := hml0
  have hown : s.vm.findClass "java/lang/String" = some m.cls := findClass_of_methodNamed Bd.named
  have hnm := (name_of_methodNamed Bd.named Bd.method).1
  have X0 : Stand p l e ({ frames := 4, cells := 2, slots := 3, locals := 57 } : Room) s m #[(.ref a), (.ref ar), (.int 0), (.int 1), .null] below meth c s₁ [] 0 0 := Stand.of_body Bd
  have e0 : s₁.heap = h0 := by rw [← hh, Bd.state]; rfl
  have N0 := Fr.nil n0
  have Kp0 : Keep h0 h0 [a] := Keep.refl h0 _
  refine own_go (A := s₁.setTop (mkF m 0 #[.val (.ref a), .val (.ref ar), .val (.int 0), .val (.int 1), .val .null, .unset] [])) (fun _ kz => castTop (own_ef3 m a ar (0 : Int32) (1 : Int32)) kz) ?_
  refine own_go (A := s₁.setTop (mkF m 1 #[.val (.ref a), .val (.ref ar), .val (.int 0), .val (.int 1), .val .null, .unset] [(.ref a)])) (fun _ kz => ?_) ?_
  · refine XS.aloadN X0.here hx rfl (hb hby d3_0) rfl rfl ?_
    exact kz
  obtain ⟨T1, X1, e1, st1⟩ := initO X0 hx hZ hown (own_w hw 16 rfl) (own_w hw 17 rfl) (own_w hw 18 rfl) e0 (g := (mkF m 1 #[.val (.ref a), .val (.ref ar), .val (.int 0), .val (.int 1), .val .null, .unset] [(.ref a)])) rfl (by rw [hml]; rfl) rfl (hb hby d3_1) (by decide) (W := 0) (by show 2 * 0 + _ ≤ _; exact Nat.le_of_eq rfl) (by decide)
  refine own_go (A := T1.setTop (mkF m 4 #[.val (.ref a), .val (.ref ar), .val (.int 0), .val (.int 1), .val .null, .unset] [])) (fun _ kz => st1 _ kz) ?_
  refine own_go (A := T1.setTop (mkF m 27 #[.val (.ref a), .val (.ref ar), .val (.int 0), .val (.int 1), .val .null, .unset] [])) (fun _ kz => ?_) ?_
  · refine XS.iloadN X1.here hx rfl (hb hby d3_4) rfl ?_
    refine XS.ifYes X1.here hx rfl (pc0 := 5) (pc' := 27) rfl (hb hby d3_5) rfl ((if0 _ _).trans (feq (by decide : ¬ ((1 : Int32) = (0 : Int32)))).2) (by decide) (by decide) ?_
    exact kz
  obtain ⟨T2, X2, e2, st2⟩ := getS2 X1 hx hZ hown (host := "") (Or.inl (own_w hw 19 rfl)) Via.refl e1 S_cs (g := (mkF m 27 #[.val (.ref a), .val (.ref ar), .val (.int 0), .val (.int 1), .val .null, .unset] [])) rfl (hb hby d3_27)
  refine own_go (A := T2.setTop (mkF m 30 #[.val (.ref a), .val (.ref ar), .val (.int 0), .val (.int 1), .val .null, .unset] [(.int cs)])) (fun _ kz => st2 _ kz) ?_
  refine own_go (A := T2.setTop (mkF m 36 #[.val (.ref a), .val (.ref ar), .val (.int 0), .val (.int 1), .val .null, .unset] [(.int 1), (.int 0), (.ref ar)])) (fun _ kz => ?_) ?_
  · refine XS.ifNo X2.here hx rfl (hb hby d3_30) rfl ((if0 _ _).trans (feq hcs).1) ?_
    refine XS.aloadN X2.here hx rfl (hb hby d3_33) rfl rfl ?_
    refine XS.iloadN X2.here hx rfl (hb hby d3_34) rfl ?_
    refine XS.iloadN X2.here hx rfl (hb hby d3_35) rfl ?_
    exact kz
  obtain ⟨_, _, ⟨T3, L3, k3, n3⟩, -, X3, ⟨Lc3, hQ3, l3, y3, z3⟩, st3⟩ := Jvm.LawKit.callS X2 hx (y := (⟨"java/lang/StringUTF16", "compress", "([CII)[B"⟩ : MethodName)) hown (mvT hZ (own_w hw 20 rfl)) (mvT hZ (own_w hw 21 rfl)) (mvT hZ (own_w hw 22 rfl)) (mvT hZ (own_w hw 23 rfl)) (by decide) (backOf (W := 0) (rmCo_1 l Z a0 hw [] ar ka ch0 h0 n0 Z0 Aa hp0 S_ad S_hi S_lo) hZ (own_w hw 23 rfl) (own_w hw 22 rfl) (by decide) (by decide)) (g := (mkF m 36 #[.val (.ref a), .val (.ref ar), .val (.int 0), .val (.int 1), .val .null, .unset] [(.int 1), (.int 0), (.ref ar)])) rfl (by rw [hml]; rfl) (argsL := [(.ref ar), (.int 0), (.int 1)]) (rest := []) (lenOf own_pd4 rfl) rfl (by show 2 * 0 + _ ≤ _; exact Nat.le_of_eq rfl) (hb hby d3_36) (fun _ _ => ⟨rfl, e2, (by decide : 0 + 2 ≤ _), (by decide : 0 + 3 ≤ _)⟩)
  dsimp only [Pt.U, Pt.locs, Pt.cells, Pt.slots] at X3 l3 y3 z3 st3 hQ3
  subst l3 y3 z3
  obtain ⟨c3, kc, rfl, N3q, zc3, K3q, Dq⟩ := hQ3
  have N3 := Fr.app N0 N3q
  have ne_a_c3 : a ≠ c3 := Nat.ne_of_lt (Nat.lt_of_lt_of_le Ex.lt zc3)
  have g_c3 : n0 ≤ c3 := Nat.le_trans Z0 zc3
  have szk_c3 : h0.size ≤ c3 := Nat.le_trans Kp0.1 zc3
  replace S_cs := own_staKeep S_cs K3q all0
  replace S_ad := own_staKeep S_ad K3q all0
  replace S_hi := own_staKeep S_hi K3q all0
  replace S_lo := own_staKeep S_lo K3q all0
  replace Ex := Ex.keep K3q
  replace Fv := Fv.keep K3q nin0
  replace Fc := Fc.keep K3q nin0
  have Z3 : n0 ≤ T3.heap.size := Nat.le_trans Z0 K3q.1
  have Kp3 : Keep h0 T3.heap [a] := Kp0.trans K3q (all0)
  refine own_go (A := T3.setTop (mkF m 39 #[.val (.ref a), .val (.ref ar), .val (.int 0), .val (.int 1), .val .null, .unset] [(.ref c3)])) (fun _ kz => st3 _ kz) ?_
  rcases Dq with ⟨hwd, At⟩ | ⟨hl0, At⟩
  · skip
    refine own_go (A := T3.setTop (mkF m 45 #[.val (.ref a), .val (.ref ar), .val (.int 0), .val (.int 1), .val .null, .val (.ref c3)] [(.int 1), (.ref c3), (.ref a)])) (fun _ kz => ?_) ?_
    · refine XS.astore X3.here hx rfl (hb hby d3_39) rfl rfl (l' := #[.val (.ref a), .val (.ref ar), .val (.int 0), .val (.int 1), .val .null, .val (.ref c3)]) rfl ?_
      refine XS.aloadN X3.here hx rfl (hb hby d3_41) rfl rfl ?_
      refine XS.aload X3.here hx rfl (hb hby d3_42) rfl rfl ?_
      refine XS.iloadN X3.here hx rfl (hb hby d3_44) rfl ?_
      exact kz
    obtain ⟨_, _, ⟨T4, L4, k4, n4⟩, -, X4, ⟨Lc4, hQ4, l4, y4, z4⟩, st4⟩ := Jvm.LawKit.callS X3 hx (y := (⟨"java/lang/StringUTF16", "coderFromArrayLen", "([BI)B"⟩ : MethodName)) hown (mvT hZ (own_w hw 28 rfl)) (mvT hZ (own_w hw 29 rfl)) (mvT hZ (own_w hw 22 rfl)) (mvT hZ (own_w hw 30 rfl)) (by decide) (backOf (W := 1) (rmCF_W_1 l Z a0 hw [] c3 kc (.int (own_l ch0)) (.int (own_h ch0)) T3.heap n0 Z3 At) hZ (own_w hw 30 rfl) (own_w hw 22 rfl) (by decide) (by decide)) (g := (mkF m 45 #[.val (.ref a), .val (.ref ar), .val (.int 0), .val (.int 1), .val .null, .val (.ref c3)] [(.int 1), (.ref c3), (.ref a)])) rfl (by rw [hml]; rfl) (argsL := [(.ref c3), (.int 1)]) (rest := [(.ref a)]) (lenOf own_pd6 rfl) rfl (by show 2 * 0 + _ ≤ _; exact Nat.le_of_eq rfl) (hb hby d3_45) (fun _ _ => ⟨rfl, rfl, (by decide : 2 + 0 ≤ _), (by decide : 3 + 0 ≤ _)⟩)
    dsimp only [Pt.U, Pt.locs, Pt.cells, Pt.slots] at X4 l4 y4 z4 st4 hQ4
    subst l4 y4 z4
    obtain ⟨rfl, N4q, e4⟩ := hQ4
    have N4 := Fr.app N3 N4q
    refine own_go (A := T4.setTop (mkF m 48 #[.val (.ref a), .val (.ref ar), .val (.int 0), .val (.int 1), .val .null, .val (.ref c3)] [(.int 1), (.ref a)])) (fun _ kz => st4 _ kz) ?_
    obtain ⟨T5, h5, X5, e5, W5, st5⟩ := putFN X4 hx hZ hown (own_w hw 31 rfl) Via.refl e4 Fc Ex (Or.inr ⟨(own_w hw 32 rfl), rfl, hnm⟩) (own_w hw 6 rfl) (ty := .byte) (v' := (.int 1)) (by decide) rfl (by first | exact fits_nar_byte _ | decide) (g := (mkF m 48 #[.val (.ref a), .val (.ref ar), .val (.int 0), .val (.int 1), .val .null, .val (.ref c3)] [(.int 1), (.ref a)])) rfl rfl (hb hby d3_48)
    have Fw5 := Fc.same W5
    replace S_cs := S_cs.wr W5
    replace S_ad := S_ad.wr W5
    replace S_hi := S_hi.wr W5
    replace S_lo := S_lo.wr W5
    replace Ex := Ex.wr W5
    replace Fv := Fv.other W5 (Or.inr (slot_ne (Or.inr (own_w hw 34 rfl)) (Or.inr (own_w hw 32 rfl)) (by decide) (t := (.array .byte)) (t' := .byte) (by decide) (by decide)))
    replace At := At.other W5 (Ne.symm ne_a_c3)
    have Z5 : n0 ≤ h5.size := Nat.le_trans Z3 (Keep.of_wr W5).1
    have Kp5 : Keep h0 h5 [a] := Kp3.wr W5 (Or.inl (List.mem_of_getElem? (i := 0) rfl))
    have F_coder_a := Fw5
    have N5 := Fr.snoc X5 N4 g_a
    refine own_go (A := T5.setTop (mkF m 51 #[.val (.ref a), .val (.ref ar), .val (.int 0), .val (.int 1), .val .null, .val (.ref c3)] [])) (fun _ kz => st5 _ kz) ?_
    refine own_go (A := T5.setTop (mkF m 54 #[.val (.ref a), .val (.ref ar), .val (.int 0), .val (.int 1), .val .null, .val (.ref c3)] [(.ref c3), (.ref a)])) (fun _ kz => ?_) ?_
    · refine XS.aloadN X5.here hx rfl (hb hby d3_51) rfl rfl ?_
      refine XS.aload X5.here hx rfl (hb hby d3_52) rfl rfl ?_
      exact kz
    obtain ⟨T6, h6, X6, e6, W6, st6⟩ := putF X5 hx hZ hown (host := "") (Or.inl (own_w hw 33 rfl)) Via.refl e5 Fv Ex (Or.inr ⟨(own_w hw 34 rfl), rfl, hnm⟩) (own_w hw 6 rfl) (ty := (.array .byte)) (by decide) rfl rfl (g := (mkF m 54 #[.val (.ref a), .val (.ref ar), .val (.int 0), .val (.int 1), .val .null, .val (.ref c3)] [(.ref c3), (.ref a)])) rfl rfl (hb hby d3_54)
    have Fw6 := Fv.same W6
    replace S_cs := S_cs.wr W6
    replace S_ad := S_ad.wr W6
    replace S_hi := S_hi.wr W6
    replace S_lo := S_lo.wr W6
    replace Ex := Ex.wr W6
    replace F_coder_a := F_coder_a.other W6 (Or.inr (slot_ne (Or.inr (own_w hw 32 rfl)) (Or.inr (own_w hw 34 rfl)) (by decide) (t := .byte) (t' := (.array .byte)) (by decide) (by decide)))
    replace At := At.other W6 (Ne.symm ne_a_c3)
    have Z6 : n0 ≤ h6.size := Nat.le_trans Z5 (Keep.of_wr W6).1
    have Kp6 : Keep h0 h6 [a] := Kp5.wr W6 (Or.inl (List.mem_of_getElem? (i := 0) rfl))
    have F_value_a := Fw6
    have N6 := Fr.snoc X6 N5 g_a
    refine own_go (A := T6.setTop (mkF m 57 #[.val (.ref a), .val (.ref ar), .val (.int 0), .val (.int 1), .val .null, .val (.ref c3)] [])) (fun _ kz => st6 _ kz) ?_
    obtain ⟨fs, hrr, hrun, hended, hW, hsame⟩ := X6.leave (v := none) (fun _ => rfl)
    refine ⟨_, _, ?_, hrun, hended, _, _, rfl, ?_, ⟨_, rfl⟩, hW, hsame.mono (by decide) (by decide)⟩
    · show Steps p.tables e below (T6.setTop (mkF m 57 #[.val (.ref a), .val (.ref ar), .val (.int 0), .val (.int 1), .val .null, .val (.ref c3)] [])) _
      exact X6.returnOut hx Bd.returns (hb hby d3_57) hrr
    · show QrmI3_1 Z a ch0 h0 n0 _ T6.heap _
      rw [e6]
      exact ⟨rfl, N6, Kp6, Ex, c3, kc, Or.inl ⟨hwd, F_value_a, F_coder_a, At⟩⟩
  · skip
    refine own_go (A := T3.setTop (mkF m 45 #[.val (.ref a), .val (.ref ar), .val (.int 0), .val (.int 1), .val .null, .val (.ref c3)] [(.int 1), (.ref c3), (.ref a)])) (fun _ kz => ?_) ?_
    · refine XS.astore X3.here hx rfl (hb hby d3_39) rfl rfl (l' := #[.val (.ref a), .val (.ref ar), .val (.int 0), .val (.int 1), .val .null, .val (.ref c3)]) rfl ?_
      refine XS.aloadN X3.here hx rfl (hb hby d3_41) rfl rfl ?_
      refine XS.aload X3.here hx rfl (hb hby d3_42) rfl rfl ?_
      refine XS.iloadN X3.here hx rfl (hb hby d3_44) rfl ?_
      exact kz
    obtain ⟨_, _, ⟨T7, L7, k7, n7⟩, -, X7, ⟨Lc7, hQ7, l7, y7, z7⟩, st7⟩ := Jvm.LawKit.callS X3 hx (y := (⟨"java/lang/StringUTF16", "coderFromArrayLen", "([BI)B"⟩ : MethodName)) hown (mvT hZ (own_w hw 28 rfl)) (mvT hZ (own_w hw 29 rfl)) (mvT hZ (own_w hw 22 rfl)) (mvT hZ (own_w hw 30 rfl)) (by decide) (backOf (W := 1) (rmCF_L_1 l Z a0 hw [] c3 kc (.int (ch0.toInt8.toInt32)) T3.heap n0 Z3 At) hZ (own_w hw 30 rfl) (own_w hw 22 rfl) (by decide) (by decide)) (g := (mkF m 45 #[.val (.ref a), .val (.ref ar), .val (.int 0), .val (.int 1), .val .null, .val (.ref c3)] [(.int 1), (.ref c3), (.ref a)])) rfl (by rw [hml]; rfl) (argsL := [(.ref c3), (.int 1)]) (rest := [(.ref a)]) (lenOf own_pd6 rfl) rfl (by show 2 * 0 + _ ≤ _; exact Nat.le_of_eq rfl) (hb hby d3_45) (fun _ _ => ⟨rfl, rfl, (by decide : 2 + 0 ≤ _), (by decide : 3 + 0 ≤ _)⟩)
    dsimp only [Pt.U, Pt.locs, Pt.cells, Pt.slots] at X7 l7 y7 z7 st7 hQ7
    subst l7 y7 z7
    obtain ⟨rfl, N7q, e7⟩ := hQ7
    have N7 := Fr.app N3 N7q
    refine own_go (A := T7.setTop (mkF m 48 #[.val (.ref a), .val (.ref ar), .val (.int 0), .val (.int 1), .val .null, .val (.ref c3)] [(.int 0), (.ref a)])) (fun _ kz => st7 _ kz) ?_
    obtain ⟨T8, h8, X8, e8, W8, st8⟩ := putFN X7 hx hZ hown (own_w hw 31 rfl) Via.refl e7 Fc Ex (Or.inr ⟨(own_w hw 32 rfl), rfl, hnm⟩) (own_w hw 6 rfl) (ty := .byte) (v' := (.int 0)) (by decide) rfl (by first | exact fits_nar_byte _ | decide) (g := (mkF m 48 #[.val (.ref a), .val (.ref ar), .val (.int 0), .val (.int 1), .val .null, .val (.ref c3)] [(.int 0), (.ref a)])) rfl rfl (hb hby d3_48)
    have Fw8 := Fc.same W8
    replace S_cs := S_cs.wr W8
    replace S_ad := S_ad.wr W8
    replace S_hi := S_hi.wr W8
    replace S_lo := S_lo.wr W8
    replace Ex := Ex.wr W8
    replace Fv := Fv.other W8 (Or.inr (slot_ne (Or.inr (own_w hw 34 rfl)) (Or.inr (own_w hw 32 rfl)) (by decide) (t := (.array .byte)) (t' := .byte) (by decide) (by decide)))
    replace At := At.other W8 (Ne.symm ne_a_c3)
    have Z8 : n0 ≤ h8.size := Nat.le_trans Z3 (Keep.of_wr W8).1
    have Kp8 : Keep h0 h8 [a] := Kp3.wr W8 (Or.inl (List.mem_of_getElem? (i := 0) rfl))
    have F_coder_a := Fw8
    have N8 := Fr.snoc X8 N7 g_a
    refine own_go (A := T8.setTop (mkF m 51 #[.val (.ref a), .val (.ref ar), .val (.int 0), .val (.int 1), .val .null, .val (.ref c3)] [])) (fun _ kz => st8 _ kz) ?_
    refine own_go (A := T8.setTop (mkF m 54 #[.val (.ref a), .val (.ref ar), .val (.int 0), .val (.int 1), .val .null, .val (.ref c3)] [(.ref c3), (.ref a)])) (fun _ kz => ?_) ?_
    · refine XS.aloadN X8.here hx rfl (hb hby d3_51) rfl rfl ?_
      refine XS.aload X8.here hx rfl (hb hby d3_52) rfl rfl ?_
      exact kz
    obtain ⟨T9, h9, X9, e9, W9, st9⟩ := putF X8 hx hZ hown (host := "") (Or.inl (own_w hw 33 rfl)) Via.refl e8 Fv Ex (Or.inr ⟨(own_w hw 34 rfl), rfl, hnm⟩) (own_w hw 6 rfl) (ty := (.array .byte)) (by decide) rfl rfl (g := (mkF m 54 #[.val (.ref a), .val (.ref ar), .val (.int 0), .val (.int 1), .val .null, .val (.ref c3)] [(.ref c3), (.ref a)])) rfl rfl (hb hby d3_54)
    have Fw9 := Fv.same W9
    replace S_cs := S_cs.wr W9
    replace S_ad := S_ad.wr W9
    replace S_hi := S_hi.wr W9
    replace S_lo := S_lo.wr W9
    replace Ex := Ex.wr W9
    replace F_coder_a := F_coder_a.other W9 (Or.inr (slot_ne (Or.inr (own_w hw 32 rfl)) (Or.inr (own_w hw 34 rfl)) (by decide) (t := .byte) (t' := (.array .byte)) (by decide) (by decide)))
    replace At := At.other W9 (Ne.symm ne_a_c3)
    have Z9 : n0 ≤ h9.size := Nat.le_trans Z8 (Keep.of_wr W9).1
    have Kp9 : Keep h0 h9 [a] := Kp8.wr W9 (Or.inl (List.mem_of_getElem? (i := 0) rfl))
    have F_value_a := Fw9
    have N9 := Fr.snoc X9 N8 g_a
    refine own_go (A := T9.setTop (mkF m 57 #[.val (.ref a), .val (.ref ar), .val (.int 0), .val (.int 1), .val .null, .val (.ref c3)] [])) (fun _ kz => st9 _ kz) ?_
    obtain ⟨fs, hrr, hrun, hended, hW, hsame⟩ := X9.leave (v := none) (fun _ => rfl)
    refine ⟨_, _, ?_, hrun, hended, _, _, rfl, ?_, ⟨_, rfl⟩, hW, hsame.mono (by decide) (by decide)⟩
    · show Steps p.tables e below (T9.setTop (mkF m 57 #[.val (.ref a), .val (.ref ar), .val (.int 0), .val (.int 1), .val .null, .val (.ref c3)] [])) _
      exact X9.returnOut hx Bd.returns (hb hby d3_57) hrr
    · show QrmI3_1 Z a ch0 h0 n0 _ T9.heap _
      rw [e9]
      exact ⟨rfl, N9, Kp9, Ex, c3, kc, Or.inr ⟨hl0, F_value_a, F_coder_a, At⟩⟩
theorem d2_0 : decode jdk_42_method_3_code 0 = .ok (.aload_n 0, 1) := by decide +kernel
theorem d2_1 : decode jdk_42_method_3_code 1 = .ok (.aload_n 1, 1) := by decide +kernel
theorem d2_2 : decode jdk_42_method_3_code 2 = .ok (.iconst 0, 1) := by decide +kernel
theorem d2_3 : decode jdk_42_method_3_code 3 = .ok (.aload_n 1, 1) := by decide +kernel
theorem d2_4 : decode jdk_42_method_3_code 4 = .ok (.arraylength, 1) := by decide +kernel
theorem d2_5 : decode jdk_42_method_3_code 5 = .ok (.aconst_null, 1) := by decide +kernel
theorem d2_6 : decode jdk_42_method_3_code 6 = .ok (.invokespecial 27, 3) := by decide +kernel
theorem d2_9 : decode jdk_42_method_3_code 9 = .ok (.return_, 1) := by decide +kernel
theorem own_pn2 : plainName "java/lang/String" = true := by first | (simp [plainName, overriddenIn]; done) | decide +kernel
theorem own_ef2 (m : MethodId) (x0 : Addr) (x1 : Addr) : entryFrame m #[(.ref x0), (.ref x1)] 2 = mkF m 0 #[.val (.ref x0), .val (.ref x1)] [] := by first | (simp [entryFrame, mkF, argsToLocals, Value.category]; done) | rfl
def QrmI1_1 (Z : State) (a : Addr) (ch0 : Int32) (h0 : Heap) (n0 : Nat) (v : Option Value) (h : Heap) (L : List Loc) : Prop := v = none ∧ Fr n0 L ∧ Keep h0 h [a] ∧ Exa Z h a "java/lang/String" ∧ own_Str1 Z h a ch0
set_option maxRecDepth 65536 in
set_option maxHeartbeats 40000000 in
theorem rmI1_1 (l : Launch) (Z : State) (a0 : Array Value) (hw : ∀ d ∈ tables_1, d.before a0 Z = true) (ws : List Jvm.Cond) (a ar : Addr) (ka : ClassId) (ch0 cs : Int32) (h0 : Heap) (n0 : Nat) (Z0 : n0 ≤ h0.size) (Ex : Exa Z h0 a "java/lang/String") (Fv : Fld Z h0 a "java/lang/String" "value" "[B" .null) (Fc : Fld Z h0 a "java/lang/String" "coder" "B" (.int 0)) (g_a : n0 ≤ a) (Aa : Arv Z h0 ar ka .char (1 : Int32) [(.int ch0)] (.int 0)) (hp0 : ¬ ch0 < 0 ∧ ¬ (65535 : Int32) < ch0) (hcs : ¬ (cs = (0 : Int32))) (S_cs : Sta Z h0 "java/lang/String" "COMPACT_STRINGS" "Z" (.int cs)) (S_ad : Sta Z h0 "java/lang/StringUTF16" "$assertionsDisabled" "Z" (.int 1)) (S_hi : Sta Z h0 "java/lang/StringUTF16" "HI_BYTE_SHIFT" "I" (.int 0)) (S_lo : Sta Z h0 "java/lang/StringUTF16" "LO_BYTE_SHIFT" "I" (.int 8)) :
    MetFree l (⟨"java/lang/String", "<init>", "([C)V"⟩ : MethodName) (head1 (Jvm.Cond.code (⟨"java/lang/String", "<init>", "([C)V"⟩ : MethodName) jdk_42_method_3_code 2 none :: ws) ({ frames := 5, cells := 2, slots := 3, locals := 74 } : Room)) (fun ar_ U_ => ar_ = #[(.ref a), (.ref ar)] ∧ Z.Warmed39 U_.vm ∧ U_.heap = h0) (fun _ _ _ _ _ => True) (fun _ U_ ou_ V_ => ∃ v_ L_, ou_ = .returned v_ ∧ QrmI1_1 Z a ch0 h0 n0 v_ V_.heap L_ ∧ FrameEnd U_ ou_ V_ L_ ({ frames := 5, cells := 2, slots := 3, locals := 74 } : Room).cells ({ frames := 5, cells := 2, slots := 3, locals := 74 } : Room).slots) := by
  refine MetFree.of_bodySF (plainFor_of_name own_pn2) hisR ?_
  intro p e s m args below meth c s₁ Bd hml0 hP hK
  obtain ⟨rfl, hZ, hh⟩ := hP
  have hx := Bd.exec
  have hby := Bd.bytes
  have hml : c.maxLocals = 2 := hml0
  have hown : s.vm.findClass "java/lang/String" = some m.cls := findClass_of_methodNamed Bd.named
  have hnm := (name_of_methodNamed Bd.named Bd.method).1
  have X0 : Stand p l e ({ frames := 5, cells := 2, slots := 3, locals := 74 } : Room) s m #[(.ref a), (.ref ar)] below meth c s₁ [] 0 0 := Stand.of_body Bd
  have e0 : s₁.heap = h0 := by rw [← hh, Bd.state]; rfl
  have N0 := Fr.nil n0
  have Kp0 : Keep h0 h0 [a] := Keep.refl h0 _
  refine own_go (A := s₁.setTop (mkF m 0 #[.val (.ref a), .val (.ref ar)] [])) (fun _ kz => castTop (own_ef2 m a ar) kz) ?_
  refine own_go (A := s₁.setTop (mkF m 4 #[.val (.ref a), .val (.ref ar)] [(.ref ar), (.int 0), (.ref ar), (.ref a)])) (fun _ kz => ?_) ?_
  · refine XS.aloadN X0.here hx rfl (hb hby d2_0) rfl rfl ?_
    refine XS.aloadN X0.here hx rfl (hb hby d2_1) rfl rfl ?_
    refine XS.iconst X0.here hx rfl (hb hby d2_2) ?_
    refine XS.aloadN X0.here hx rfl (hb hby d2_3) rfl rfl ?_
    exact kz
  obtain ⟨cl1, Ar1, -, S1, M1, -, -⟩ := id Aa
  refine own_go (A := s₁.setTop (mkF m 5 #[.val (.ref a), .val (.ref ar)] [(.int 1), (.int 0), (.ref ar), (.ref a)])) (fun _ kz => ?_) ?_
  · refine X0.arraylength hx (by rw [e0]; exact Ar1.1) (State.isArrayOf_alike hZ.alike Ar1.2.1) (g := (mkF m 4 #[.val (.ref a), .val (.ref ar)] [(.ref ar), (.int 0), (.ref ar), (.ref a)])) rfl rfl (hb hby d2_4) _ ?_
    rw [len_of S1 M1]
    exact kz
  refine own_go (A := s₁.setTop (mkF m 6 #[.val (.ref a), .val (.ref ar)] [.null, (.int 1), (.int 0), (.ref ar), (.ref a)])) (fun _ kz => ?_) ?_
  · refine XS.aconstNull X0.here hx rfl (hb hby d2_5) ?_
    exact kz
  obtain ⟨_, _, ⟨T2, L2, k2, n2⟩, -, X2, ⟨Lc2, hQ2, l2, y2, z2⟩, st2⟩ := X0.specialBack hx (y := (⟨"java/lang/String", "<init>", "([CIILjava/lang/Void;)V"⟩ : MethodName)) rfl hown (mvT hZ (own_w hw 12 rfl)) (mvT hZ (own_w hw 13 rfl)) (mvT hZ (own_w hw 15 rfl)) (by decide) (backOf (W := 0) (rmI3_1 l Z a0 hw [] a ar ka ch0 cs h0 n0 Z0 Ex Fv Fc g_a Aa hp0 hcs S_cs S_ad S_hi S_lo) hZ (own_w hw 15 rfl) (own_w hw 7 rfl) (by decide) (by decide)) (g := (mkF m 6 #[.val (.ref a), .val (.ref ar)] [.null, (.int 1), (.int 0), (.ref ar), (.ref a)])) rfl (by rw [hml]; rfl) (Steps.refl _) (a := a) (argsL := [(.ref ar), (.int 0), (.int 1), .null]) (rest := []) (lenOf own_pd7 rfl) rfl (by show 2 * 0 + _ ≤ _; exact Nat.le_of_eq rfl) (hb hby d2_6) (fun _ _ => ⟨rfl, e0, (by decide : 0 + 2 ≤ _), (by decide : 0 + 3 ≤ _)⟩)
  dsimp only [Pt.U, Pt.locs, Pt.cells, Pt.slots] at X2 l2 y2 z2 st2 hQ2
  subst l2 y2 z2
  obtain ⟨rfl, N2q, K2q, _, Sq⟩ := hQ2
  have N2 := Fr.app N0 N2q
  replace S_cs := own_staKeep S_cs K2q (allS (own_ns Ex) all0)
  replace S_ad := own_staKeep S_ad K2q (allS (own_ns Ex) all0)
  replace S_hi := own_staKeep S_hi K2q (allS (own_ns Ex) all0)
  replace S_lo := own_staKeep S_lo K2q (allS (own_ns Ex) all0)
  replace Ex := Ex.keep K2q
  have Z2 : n0 ≤ T2.heap.size := Nat.le_trans Z0 K2q.1
  have Kp2 : Keep h0 T2.heap [a] := Kp0.trans K2q (allS (Or.inl (List.mem_of_getElem? (i := 0) rfl)) (all0))
  refine own_go (A := T2.setTop (mkF m 9 #[.val (.ref a), .val (.ref ar)] [])) (fun _ kz => st2.trans kz) ?_
  obtain ⟨fs, hrr, hrun, hended, hW, hsame⟩ := X2.leave (v := none) (fun _ => rfl)
  refine ⟨_, _, ?_, hrun, hended, _, _, rfl, ?_, ⟨_, rfl⟩, hW, hsame.mono (by decide) (by decide)⟩
  · show Steps p.tables e below (T2.setTop (mkF m 9 #[.val (.ref a), .val (.ref ar)] [])) _
    exact X2.returnOut hx Bd.returns (hb hby d2_9) hrr
  · show QrmI1_1 Z a ch0 h0 n0 _ T2.heap _
    exact ⟨rfl, N2, Kp2, Ex, Sq⟩
theorem d1_0 : decode method_3_code 0 = .ok (.iload_n 0, 1) := by decide +kernel
theorem d1_1 : decode method_3_code 1 = .ok (.ifCond .ne 14, 3) := by decide +kernel
theorem d1_15 : decode method_3_code 15 = .ok (.iload_n 0, 1) := by decide +kernel
theorem d1_16 : decode method_3_code 16 = .ok (.iconst 1, 1) := by decide +kernel
theorem d1_17 : decode method_3_code 17 = .ok (.if_icmp .ne 18, 3) := by decide +kernel
theorem d1_20 : decode method_3_code 20 = .ok (.new 35, 3) := by decide +kernel
theorem d1_23 : decode method_3_code 23 = .ok (.dup, 1) := by decide +kernel
theorem d1_24 : decode method_3_code 24 = .ok (.iconst 1, 1) := by decide +kernel
theorem d1_25 : decode method_3_code 25 = .ok (.newarray .char, 2) := by decide +kernel
theorem d1_27 : decode method_3_code 27 = .ok (.dup, 1) := by decide +kernel
theorem d1_28 : decode method_3_code 28 = .ok (.iconst 0, 1) := by decide +kernel
theorem d1_29 : decode method_3_code 29 = .ok (.iload_n 1, 1) := by decide +kernel
theorem d1_30 : decode method_3_code 30 = .ok (.castore, 1) := by decide +kernel
theorem d1_31 : decode method_3_code 31 = .ok (.invokespecial 60, 3) := by decide +kernel
theorem d1_34 : decode method_3_code 34 = .ok (.areturn, 1) := by decide +kernel
theorem own_pn1 : plainName "dev/parlance/model/MessageAssistantPinLaw" = true := by first | (simp [plainName, overriddenIn]; done) | decide +kernel
theorem own_ef1 (m : MethodId) (x0 : Int32) (x1 : Int32) (x2 : Int32) (x3 : Int32) : entryFrame m #[(.int x0), (.int x1), (.int x2), (.int x3)] 4 = mkF m 0 #[.val (.int x0), .val (.int x1), .val (.int x2), .val (.int x3)] [] := by first | (simp [entryFrame, mkF, argsToLocals, Value.category]; done) | rfl
def QrmMk_1 (Z : State) (ch0 : Int32) (h0 : Heap) (n0 : Nat) (v : Option Value) (h : Heap) (L : List Loc) : Prop := ∃ b : Addr, v = some (.ref b) ∧ Fr n0 L ∧ h0.size ≤ b ∧ Keep h0 h [] ∧ Exa Z h b "java/lang/String" ∧ own_Str1 Z h b ch0
set_option maxRecDepth 65536 in
set_option maxHeartbeats 40000000 in
theorem rmMk_1 (l : Launch) (Z : State) (a0 : Array Value) (hw : ∀ d ∈ tables_1, d.before a0 Z = true) (ws : List Jvm.Cond) (ch0 ch1 ch2 cs : Int32) (h0 : Heap) (n0 : Nat) (Z0 : n0 ≤ h0.size) (hp0 : ¬ ch0 < 0 ∧ ¬ (65535 : Int32) < ch0) (hcs : ¬ (cs = (0 : Int32))) (S_cs : Sta Z h0 "java/lang/String" "COMPACT_STRINGS" "Z" (.int cs)) (S_ad : Sta Z h0 "java/lang/StringUTF16" "$assertionsDisabled" "Z" (.int 1)) (S_hi : Sta Z h0 "java/lang/StringUTF16" "HI_BYTE_SHIFT" "I" (.int 0)) (S_lo : Sta Z h0 "java/lang/StringUTF16" "LO_BYTE_SHIFT" "I" (.int 8)) :
    MetFree l (⟨"dev/parlance/model/MessageAssistantPinLaw", "make", "(ICCC)Ljava/lang/String;"⟩ : MethodName) (head1 (Jvm.Cond.code (⟨"dev/parlance/model/MessageAssistantPinLaw", "make", "(ICCC)Ljava/lang/String;"⟩ : MethodName) method_3_code 4 (some (.object "java/lang/String")) :: ws) ({ frames := 6, cells := 4, slots := 8, locals := 88 } : Room)) (fun ar_ U_ => ar_ = #[(.int 1), (.int ch0), (.int ch1), (.int ch2)] ∧ Z.Warmed39 U_.vm ∧ U_.heap = h0) (fun _ _ _ _ _ => True) (fun _ U_ ou_ V_ => ∃ v_ L_, ou_ = .returned v_ ∧ QrmMk_1 Z ch0 h0 n0 v_ V_.heap L_ ∧ FrameEnd U_ ou_ V_ L_ ({ frames := 6, cells := 4, slots := 8, locals := 88 } : Room).cells ({ frames := 6, cells := 4, slots := 8, locals := 88 } : Room).slots) := by
  refine MetFree.of_bodySF (plainFor_of_name own_pn1) hisR ?_
  intro p e s m args below meth c s₁ Bd hml0 hP hK
  obtain ⟨rfl, hZ, hh⟩ := hP
  have hx := Bd.exec
  have hby := Bd.bytes
  have hml : c.maxLocals = 4 := hml0
  have hown : s.vm.findClass "dev/parlance/model/MessageAssistantPinLaw" = some m.cls := findClass_of_methodNamed Bd.named
  have hnm := (name_of_methodNamed Bd.named Bd.method).1
  have X0 : Stand p l e ({ frames := 6, cells := 4, slots := 8, locals := 88 } : Room) s m #[(.int 1), (.int ch0), (.int ch1), (.int ch2)] below meth c s₁ [] 0 0 := Stand.of_body Bd
  have e0 : s₁.heap = h0 := by rw [← hh, Bd.state]; rfl
  have N0 := Fr.nil n0
  have Kp0 : Keep h0 h0 [] := Keep.refl h0 _
  have hn0 : nar .char ch0 = ch0 := own_narc ch0 hp0.1 hp0.2
  refine own_go (A := s₁.setTop (mkF m 0 #[.val (.int 1), .val (.int ch0), .val (.int ch1), .val (.int ch2)] [])) (fun _ kz => castTop (own_ef1 m (1 : Int32) ch0 ch1 ch2) kz) ?_
  refine own_go (A := s₁.setTop (mkF m 20 #[.val (.int 1), .val (.int ch0), .val (.int ch1), .val (.int ch2)] [])) (fun _ kz => ?_) ?_
  · refine XS.iloadN X0.here hx rfl (hb hby d1_0) rfl ?_
    refine XS.ifYes X0.here hx rfl (pc0 := 1) (pc' := 15) rfl (hb hby d1_1) rfl ((if0 _ _).trans (feq (by decide : ¬ ((1 : Int32) = (0 : Int32)))).2) (by decide) (by decide) ?_
    refine XS.iloadN X0.here hx rfl (hb hby d1_15) rfl ?_
    refine XS.iconst X0.here hx rfl (hb hby d1_16) ?_
    refine XS.icmpNo X0.here hx rfl (hb hby d1_17) rfl (teq (by decide : ((1 : Int32) = (1 : Int32)))).2 ?_
    exact kz
  obtain ⟨T1, h1, X1, e1, E1, A1, D1, -, st1⟩ := newO X0 hx hZ hown (own_w hw 5 rfl) (own_w hw 6 rfl) (own_w hw 7 rfl) e0 (g := (mkF m 20 #[.val (.int 1), .val (.int ch0), .val (.int ch1), .val (.int ch2)] [])) rfl (hb hby d1_20) (by decide) (by decide)
  obtain ⟨b1, gq1⟩ : ∃ z, z = h0.size := ⟨_, rfl⟩
  rw [← gq1] at A1 D1 st1
  have g_b1 : n0 ≤ b1 := Nat.le_trans Z0 (Nat.le_of_eq gq1.symm)
  have szk_b1 : h0.size ≤ b1 := Nat.le_trans Kp0.1 (Nat.le_of_eq gq1.symm)
  replace S_cs := S_cs.ext E1
  replace S_ad := S_ad.ext E1
  replace S_hi := S_hi.ext E1
  replace S_lo := S_lo.ext E1
  have Z1 : n0 ≤ h1.size := Nat.le_trans Z0 E1.1
  have Kp1 : Keep h0 h1 [] := Kp0.ext E1
  have Ex_b1 := A1
  have F_coder_b1 : Fld Z h1 b1 "java/lang/String" "coder" "B" (.int 0) := D1 (Or.inr (own_w hw 32 rfl)) (ty := .byte) (by decide)
  have F_value_b1 : Fld Z h1 b1 "java/lang/String" "value" "[B" .null := D1 (Or.inr (own_w hw 34 rfl)) (ty := (.array .byte)) (by decide)
  refine own_go (A := T1.setTop (mkF m 23 #[.val (.int 1), .val (.int ch0), .val (.int ch1), .val (.int ch2)] [(.ref b1)])) (fun _ kz => st1 _ kz) ?_
  refine own_go (A := T1.setTop (mkF m 25 #[.val (.int 1), .val (.int ch0), .val (.int ch1), .val (.int ch2)] [(.int 1), (.ref b1), (.ref b1)])) (fun _ kz => ?_) ?_
  · refine XS.dup X1.here hx rfl (hb hby d1_23) rfl rfl ?_
    refine XS.iconst X1.here hx rfl (hb hby d1_24) ?_
    exact kz
  obtain ⟨T2, h2, k2, X2, e2, E2, A2, st2⟩ := newP X1 hx hZ (own_w hw 8 rfl) e1 (g := (mkF m 25 #[.val (.int 1), .val (.int ch0), .val (.int ch1), .val (.int ch2)] [(.int 1), (.ref b1), (.ref b1)])) rfl (hb hby d1_25) rfl (by decide) (cap := 1) (by decide) (by decide) (by decide) (by decide)
  obtain ⟨b2, gq2⟩ : ∃ z, z = h1.size := ⟨_, rfl⟩
  rw [← gq2] at A2 st2
  have g_b2 : n0 ≤ b2 := Nat.le_trans Z1 (Nat.le_of_eq gq2.symm)
  have ne_b1_b2 : b1 ≠ b2 := Nat.ne_of_lt (Nat.lt_of_lt_of_le Ex_b1.lt (Nat.le_of_eq gq2.symm))
  have szk_b2 : h0.size ≤ b2 := Nat.le_trans Kp1.1 (Nat.le_of_eq gq2.symm)
  replace S_cs := S_cs.ext E2
  replace S_ad := S_ad.ext E2
  replace S_hi := S_hi.ext E2
  replace S_lo := S_lo.ext E2
  replace Ex_b1 := Ex_b1.ext E2
  replace F_coder_b1 := F_coder_b1.ext E2
  replace F_value_b1 := F_value_b1.ext E2
  have Z2 : n0 ≤ h2.size := Nat.le_trans Z1 E2.1
  have Kp2 : Keep h0 h2 [] := Kp1.ext E2
  have Av_b2 : Arv Z h2 b2 k2 .char (1 : Int32) [(.int 0)] (.int 0) := (Arv.new A2 (by decide)).pad (pad_rep [] (.int 0) 1)
  refine own_go (A := T2.setTop (mkF m 27 #[.val (.int 1), .val (.int ch0), .val (.int ch1), .val (.int ch2)] [(.ref b2), (.ref b1), (.ref b1)])) (fun _ kz => st2 _ kz) ?_
  refine own_go (A := T2.setTop (mkF m 30 #[.val (.int 1), .val (.int ch0), .val (.int ch1), .val (.int ch2)] [(.int ch0), (.int 0), (.ref b2), (.ref b2), (.ref b1), (.ref b1)])) (fun _ kz => ?_) ?_
  · refine XS.dup X2.here hx rfl (hb hby d1_27) rfl rfl ?_
    refine XS.iconst X2.here hx rfl (hb hby d1_28) ?_
    refine XS.iloadN X2.here hx rfl (hb hby d1_29) rfl ?_
    exact kz
  obtain ⟨cl3, Ar3, q3, S3, M3, H3, G3⟩ := id Av_b2
  have hin3 : ¬ ((0 : Int32) < 0 ∨ cl3.slots.size ≤ ((0 : Int32)).toNatClampNeg) := inb_of S3 ⟨by decide, by decide⟩
  obtain ⟨T3, h3, X3, e3, W3, st3⟩ := stC X2 hx hZ e2 Ar3 (j := (0 : Int32)) hin3 (g := (mkF m 30 #[.val (.int 1), .val (.int ch0), .val (.int ch1), .val (.int ch2)] [(.int ch0), (.int 0), (.ref b2), (.ref b2), (.ref b1), (.ref b1)])) rfl rfl (hb hby d1_30)
  have Aw3 := Arv.set Ar3 q3 S3 M3 H3 G3 (fits_nar_char _) W3 0 rfl (Nat.le_of_ble_eq_true rfl)
  replace S_cs := S_cs.wr W3
  replace S_ad := S_ad.wr W3
  replace S_hi := S_hi.wr W3
  replace S_lo := S_lo.wr W3
  replace Ex_b1 := Ex_b1.wr W3
  replace F_coder_b1 := F_coder_b1.other W3 (Or.inl ne_b1_b2)
  replace F_value_b1 := F_value_b1.other W3 (Or.inl ne_b1_b2)
  have Z3 : n0 ≤ h3.size := Nat.le_trans Z2 (Keep.of_wr W3).1
  have Kp3 : Keep h0 h3 [] := Kp2.wr W3 (Or.inr szk_b2)
  have Av_b2 : Arv Z h3 b2 k2 .char (1 : Int32) [(.int (nar .char ch0))] (.int 0) := Aw3
  have N3 := Fr.snoc X3 N0 g_b2
  refine own_go (A := T3.setTop (mkF m 31 #[.val (.int 1), .val (.int ch0), .val (.int ch1), .val (.int ch2)] [(.ref b2), (.ref b1), (.ref b1)])) (fun _ kz => st3 _ kz) ?_
  rw [hn0] at Av_b2
  obtain ⟨_, _, ⟨T4, L4, k4, n4⟩, -, X4, ⟨Lc4, hQ4, l4, y4, z4⟩, st4⟩ := X3.specialBack hx (y := (⟨"java/lang/String", "<init>", "([C)V"⟩ : MethodName)) rfl hown (mvT hZ (own_w hw 9 rfl)) (mvT hZ (own_w hw 10 rfl)) (mvT hZ (own_w hw 11 rfl)) (by decide) (backOf (W := 1) (rmI1_1 l Z a0 hw [] b1 b2 k2 ch0 cs h3 n0 Z3 Ex_b1 F_value_b1 F_coder_b1 g_b1 Av_b2 hp0 hcs S_cs S_ad S_hi S_lo) hZ (own_w hw 11 rfl) (own_w hw 7 rfl) (by decide) (by decide)) (g := (mkF m 31 #[.val (.int 1), .val (.int ch0), .val (.int ch1), .val (.int ch2)] [(.ref b2), (.ref b1), (.ref b1)])) rfl (by rw [hml]; rfl) (Steps.refl _) (a := b1) (argsL := [(.ref b2)]) (rest := [(.ref b1)]) (lenOf own_pd8 rfl) rfl (by show 2 * 0 + _ ≤ _; exact Nat.le_of_eq rfl) (hb hby d1_31) (fun _ _ => ⟨rfl, e3, (by decide : 2 + 2 ≤ _), (by decide : 5 + 3 ≤ _)⟩)
  dsimp only [Pt.U, Pt.locs, Pt.cells, Pt.slots] at X4 l4 y4 z4 st4 hQ4
  subst l4 y4 z4
  obtain ⟨rfl, N4q, K4q, _, Sq⟩ := hQ4
  have N4 := Fr.app N3 N4q
  replace S_cs := own_staKeep S_cs K4q (allS (own_ns Ex_b1) all0)
  replace S_ad := own_staKeep S_ad K4q (allS (own_ns Ex_b1) all0)
  replace S_hi := own_staKeep S_hi K4q (allS (own_ns Ex_b1) all0)
  replace S_lo := own_staKeep S_lo K4q (allS (own_ns Ex_b1) all0)
  replace Ex_b1 := Ex_b1.keep K4q
  replace Av_b2 := Av_b2.keep K4q (ninS (Ne.symm ne_b1_b2) nin0)
  have Z4 : n0 ≤ T4.heap.size := Nat.le_trans Z3 K4q.1
  have Kp4 : Keep h0 T4.heap [] := Kp3.trans K4q (allS (Or.inr szk_b1) (all0))
  refine own_go (A := T4.setTop (mkF m 34 #[.val (.int 1), .val (.int ch0), .val (.int ch1), .val (.int ch2)] [(.ref b1)])) (fun _ kz => st4.trans kz) ?_
  obtain ⟨fs, hrr, hrun, hended, hW, hsame⟩ := X4.leave (v := some (.ref b1)) (fun h => by rw [Bd.returns] at h; cases h)
  refine ⟨_, _, ?_, hrun, hended, _, _, rfl, ?_, ⟨_, rfl⟩, hW, hsame.mono (by decide) (by decide)⟩
  · show Steps p.tables e below (T4.setTop (mkF m 34 #[.val (.int 1), .val (.int ch0), .val (.int ch1), .val (.int ch2)] [(.ref b1)])) _
    exact retOut X4 hx (t := (.object "java/lang/String")) Bd.returns rfl (Or.inr (Or.inr (Or.inr (Or.inr ⟨rfl, rfl, rfl⟩)))) (hb hby d1_34) hrr
  · show QrmMk_1 Z ch0 h0 n0 _ T4.heap _
    exact ⟨b1, rfl, N4, szk_b1, Kp4, Ex_b1, Sq⟩
def QrmCi_2_0 (Z : State) (ab : Addr) (h0 : Heap) (n0 : Nat) (v : Option Value) (h : Heap) (L : List Loc) : Prop := v = some (.int 0) ∧ Fr n0 L ∧ Keep h0 h [ab]
set_option maxRecDepth 65536 in
set_option maxHeartbeats 40000000 in
theorem rmCi_2_0 (l : Launch) (Z : State) (a0 : Array Value) (hw : ∀ d ∈ tables_1, d.before a0 Z = true) (ws : List Jvm.Cond) (ar ab : Addr) (ka kb : ClassId) (ch0 ch1 : Int32) (h0 : Heap) (n0 : Nat) (Z0 : n0 ≤ h0.size) (Aa : Arv Z h0 ar ka .char (2 : Int32) [(.int ch0), (.int ch1)] (.int 0)) (Ab : Arv Z h0 ab kb .byte (2 : Int32) [(.int 0), (.int 0)] (.int 0)) (hne : ar ≠ ab) (g_ab : n0 ≤ ab)  (hr : (255 : Int32) < ch0) :
    MetFree l (⟨"java/lang/StringUTF16", "compress", "([CI[BII)I"⟩ : MethodName) (head1 (Jvm.Cond.code (⟨"java/lang/StringUTF16", "compress", "([CI[BII)I"⟩ : MethodName) jdk_52_method_21_code 7 (some .int) :: ws) ({ frames := 0, cells := 0, slots := 0, locals := 0 } : Room)) (fun ar_ U_ => ar_ = #[(.ref ar), (.int 0), (.ref ab), (.int 0), (.int 2)] ∧ Z.Warmed39 U_.vm ∧ U_.heap = h0) (fun _ _ _ _ _ => True) (fun _ U_ ou_ V_ => ∃ v_ L_, ou_ = .returned v_ ∧ QrmCi_2_0 Z ab h0 n0 v_ V_.heap L_ ∧ FrameEnd U_ ou_ V_ L_ ({ frames := 0, cells := 0, slots := 0, locals := 0 } : Room).cells ({ frames := 0, cells := 0, slots := 0, locals := 0 } : Room).slots) := by
  refine MetFree.of_bodySF (plainFor_of_name own_pn6) hisR ?_
  intro p e s m args below meth c s₁ Bd hml0 hP hK
  obtain ⟨rfl, hZ, hh⟩ := hP
  have hx := Bd.exec
  have hby := Bd.bytes
  have hml : c.maxLocals = 7 := hml0
  have hown : s.vm.findClass "java/lang/StringUTF16" = some m.cls := findClass_of_methodNamed Bd.named
  have hnm := (name_of_methodNamed Bd.named Bd.method).1
  have X0 : Stand p l e ({ frames := 0, cells := 0, slots := 0, locals := 0 } : Room) s m #[(.ref ar), (.int 0), (.ref ab), (.int 0), (.int 2)] below meth c s₁ [] 0 0 := Stand.of_body Bd
  have e0 : s₁.heap = h0 := by rw [← hh, Bd.state]; rfl
  have N0 := Fr.nil n0
  have Kp0 : Keep h0 h0 [ab] := Keep.refl h0 _
  refine own_go (A := s₁.setTop (mkF m 0 #[.val (.ref ar), .val (.int 0), .val (.ref ab), .val (.int 0), .val (.int 2), .unset, .unset] [])) (fun _ kz => castTop (own_ef6 m ar (0 : Int32) ab (0 : Int32) (2 : Int32)) kz) ?_
  refine own_go (A := s₁.setTop (mkF m 12 #[.val (.ref ar), .val (.int 0), .val (.ref ab), .val (.int 0), .val (.int 2), .val (.int 0), .unset] [(.int 0), (.ref ar)])) (fun _ kz => ?_) ?_
  · refine XS.iconst X0.here hx rfl (hb hby d6_0) ?_
    refine XS.istore X0.here hx rfl (hb hby d6_1) rfl (l' := #[.val (.ref ar), .val (.int 0), .val (.ref ab), .val (.int 0), .val (.int 2), .val (.int 0), .unset]) rfl ?_
    refine XS.iload X0.here hx rfl (hb hby d6_3) rfl ?_
    refine XS.iload X0.here hx rfl (hb hby d6_5) rfl ?_
    refine XS.icmpNo X0.here hx rfl (hb hby d6_7) rfl (tlt (by decide : ((0 : Int32) < (2 : Int32)))).2.1 ?_
    refine XS.aloadN X0.here hx rfl (hb hby d6_10) rfl rfl ?_
    refine XS.iloadN X0.here hx rfl (hb hby d6_11) rfl ?_
    exact kz
  obtain ⟨cl1, Ar1, -, S1, M1, H1, -⟩ := id Aa
  have hin1 : ¬ ((0 : Int32) < 0 ∨ cl1.slots.size ≤ ((0 : Int32)).toNatClampNeg) := inb_of S1 ⟨by decide, by decide⟩
  have hat1 : cl1.slots[((0 : Int32)).toNatClampNeg]? = some (.int ch0) := H1.at hin1 rfl
  refine own_go (A := s₁.setTop (mkF m 13 #[.val (.ref ar), .val (.int 0), .val (.ref ab), .val (.int 0), .val (.int 2), .val (.int 0), .unset] [(.int ch0)])) (fun _ kz => ?_) ?_
  · refine X0.caload hx (j := (0 : Int32)) (v := (.int ch0)) (by rw [e0]; exact Ar1.1) (State.isArrayOf_alike hZ.alike Ar1.2.1) Ar1.2.2 hin1 hat1 (g := (mkF m 12 #[.val (.ref ar), .val (.int 0), .val (.ref ab), .val (.int 0), .val (.int 2), .val (.int 0), .unset] [(.int 0), (.ref ar)])) rfl rfl (hb hby d6_12) _ ?_
    exact kz
  refine own_go (A := s₁.setTop (mkF m 25 #[.val (.ref ar), .val (.int 0), .val (.ref ab), .val (.int 0), .val (.int 2), .val (.int 0), .val (.int ch0)] [(.int 0)])) (fun _ kz => ?_) ?_
  · refine XS.istore X0.here hx rfl (hb hby d6_13) rfl (l' := #[.val (.ref ar), .val (.int 0), .val (.ref ab), .val (.int 0), .val (.int 2), .val (.int 0), .val (.int ch0)]) rfl ?_
    refine XS.iload X0.here hx rfl (hb hby d6_15) rfl ?_
    refine XS.sipush X0.here hx rfl (hb hby d6_17) ?_
    refine XS.icmpNo X0.here hx rfl (hb hby d6_20) rfl (tlt hr).2.2.2 ?_
    refine XS.iload X0.here hx rfl (hb hby d6_23) rfl ?_
    exact kz
  obtain ⟨fs, hrr, hrun, hended, hW, hsame⟩ := X0.leave (v := some (.int 0)) (fun h => by rw [Bd.returns] at h; cases h)
  refine ⟨_, _, ?_, hrun, hended, _, _, rfl, ?_, ⟨_, rfl⟩, hW, hsame.mono (by decide) (by decide)⟩
  · show Steps p.tables e below (s₁.setTop (mkF m 25 #[.val (.ref ar), .val (.int 0), .val (.ref ab), .val (.int 0), .val (.int 2), .val (.int 0), .val (.int ch0)] [(.int 0)])) _
    exact retI X0 hx Bd.returns (hb hby d6_25) hrr
  · show QrmCi_2_0 Z ab h0 n0 _ s₁.heap _
    rw [e0]
    exact ⟨rfl, N0, Kp0⟩
def QrmCi_2_1 (Z : State) (ab : Addr) (h0 : Heap) (n0 : Nat) (v : Option Value) (h : Heap) (L : List Loc) : Prop := v = some (.int 1) ∧ Fr n0 L ∧ Keep h0 h [ab]
set_option maxRecDepth 65536 in
set_option maxHeartbeats 40000000 in
theorem rmCi_2_1 (l : Launch) (Z : State) (a0 : Array Value) (hw : ∀ d ∈ tables_1, d.before a0 Z = true) (ws : List Jvm.Cond) (ar ab : Addr) (ka kb : ClassId) (ch0 ch1 : Int32) (h0 : Heap) (n0 : Nat) (Z0 : n0 ≤ h0.size) (Aa : Arv Z h0 ar ka .char (2 : Int32) [(.int ch0), (.int ch1)] (.int 0)) (Ab : Arv Z h0 ab kb .byte (2 : Int32) [(.int 0), (.int 0)] (.int 0)) (hne : ar ≠ ab) (g_ab : n0 ≤ ab) (hl0 : ¬ (255 : Int32) < ch0) (hr : (255 : Int32) < ch1) :
    MetFree l (⟨"java/lang/StringUTF16", "compress", "([CI[BII)I"⟩ : MethodName) (head1 (Jvm.Cond.code (⟨"java/lang/StringUTF16", "compress", "([CI[BII)I"⟩ : MethodName) jdk_52_method_21_code 7 (some .int) :: ws) ({ frames := 0, cells := 0, slots := 0, locals := 0 } : Room)) (fun ar_ U_ => ar_ = #[(.ref ar), (.int 0), (.ref ab), (.int 0), (.int 2)] ∧ Z.Warmed39 U_.vm ∧ U_.heap = h0) (fun _ _ _ _ _ => True) (fun _ U_ ou_ V_ => ∃ v_ L_, ou_ = .returned v_ ∧ QrmCi_2_1 Z ab h0 n0 v_ V_.heap L_ ∧ FrameEnd U_ ou_ V_ L_ ({ frames := 0, cells := 0, slots := 0, locals := 0 } : Room).cells ({ frames := 0, cells := 0, slots := 0, locals := 0 } : Room).slots) := by
  refine MetFree.of_bodySF (plainFor_of_name own_pn6) hisR ?_
  intro p e s m args below meth c s₁ Bd hml0 hP hK
  obtain ⟨rfl, hZ, hh⟩ := hP
  have hx := Bd.exec
  have hby := Bd.bytes
  have hml : c.maxLocals = 7 := hml0
  have hown : s.vm.findClass "java/lang/StringUTF16" = some m.cls := findClass_of_methodNamed Bd.named
  have hnm := (name_of_methodNamed Bd.named Bd.method).1
  have X0 : Stand p l e ({ frames := 0, cells := 0, slots := 0, locals := 0 } : Room) s m #[(.ref ar), (.int 0), (.ref ab), (.int 0), (.int 2)] below meth c s₁ [] 0 0 := Stand.of_body Bd
  have e0 : s₁.heap = h0 := by rw [← hh, Bd.state]; rfl
  have N0 := Fr.nil n0
  have Kp0 : Keep h0 h0 [ab] := Keep.refl h0 _
  refine own_go (A := s₁.setTop (mkF m 0 #[.val (.ref ar), .val (.int 0), .val (.ref ab), .val (.int 0), .val (.int 2), .unset, .unset] [])) (fun _ kz => castTop (own_ef6 m ar (0 : Int32) ab (0 : Int32) (2 : Int32)) kz) ?_
  refine own_go (A := s₁.setTop (mkF m 12 #[.val (.ref ar), .val (.int 0), .val (.ref ab), .val (.int 0), .val (.int 2), .val (.int 0), .unset] [(.int 0), (.ref ar)])) (fun _ kz => ?_) ?_
  · refine XS.iconst X0.here hx rfl (hb hby d6_0) ?_
    refine XS.istore X0.here hx rfl (hb hby d6_1) rfl (l' := #[.val (.ref ar), .val (.int 0), .val (.ref ab), .val (.int 0), .val (.int 2), .val (.int 0), .unset]) rfl ?_
    refine XS.iload X0.here hx rfl (hb hby d6_3) rfl ?_
    refine XS.iload X0.here hx rfl (hb hby d6_5) rfl ?_
    refine XS.icmpNo X0.here hx rfl (hb hby d6_7) rfl (tlt (by decide : ((0 : Int32) < (2 : Int32)))).2.1 ?_
    refine XS.aloadN X0.here hx rfl (hb hby d6_10) rfl rfl ?_
    refine XS.iloadN X0.here hx rfl (hb hby d6_11) rfl ?_
    exact kz
  obtain ⟨cl1, Ar1, -, S1, M1, H1, -⟩ := id Aa
  have hin1 : ¬ ((0 : Int32) < 0 ∨ cl1.slots.size ≤ ((0 : Int32)).toNatClampNeg) := inb_of S1 ⟨by decide, by decide⟩
  have hat1 : cl1.slots[((0 : Int32)).toNatClampNeg]? = some (.int ch0) := H1.at hin1 rfl
  refine own_go (A := s₁.setTop (mkF m 13 #[.val (.ref ar), .val (.int 0), .val (.ref ab), .val (.int 0), .val (.int 2), .val (.int 0), .unset] [(.int ch0)])) (fun _ kz => ?_) ?_
  · refine X0.caload hx (j := (0 : Int32)) (v := (.int ch0)) (by rw [e0]; exact Ar1.1) (State.isArrayOf_alike hZ.alike Ar1.2.1) Ar1.2.2 hin1 hat1 (g := (mkF m 12 #[.val (.ref ar), .val (.int 0), .val (.ref ab), .val (.int 0), .val (.int 2), .val (.int 0), .unset] [(.int 0), (.ref ar)])) rfl rfl (hb hby d6_12) _ ?_
    exact kz
  refine own_go (A := s₁.setTop (mkF m 31 #[.val (.ref ar), .val (.int 0), .val (.ref ab), .val (.int 0), .val (.int 2), .val (.int 0), .val (.int ch0)] [(.int (ch0.toInt8.toInt32)), (.int 0), (.ref ab)])) (fun _ kz => ?_) ?_
  · refine XS.istore X0.here hx rfl (hb hby d6_13) rfl (l' := #[.val (.ref ar), .val (.int 0), .val (.ref ab), .val (.int 0), .val (.int 2), .val (.int 0), .val (.int ch0)]) rfl ?_
    refine XS.iload X0.here hx rfl (hb hby d6_15) rfl ?_
    refine XS.sipush X0.here hx rfl (hb hby d6_17) ?_
    refine XS.icmpYes X0.here hx rfl (pc0 := 20) (pc' := 26) rfl (hb hby d6_20) rfl (flt hl0).2.2.2 (by decide) (by decide) ?_
    refine XS.aloadN X0.here hx rfl (hb hby d6_26) rfl rfl ?_
    refine XS.iloadN X0.here hx rfl (hb hby d6_27) rfl ?_
    refine XS.iload X0.here hx rfl (hb hby d6_28) rfl ?_
    refine XS.i2b X0.here hx rfl (hb hby d6_30) rfl ?_
    exact kz
  obtain ⟨cl2, Ar2, q2, S2, M2, H2, G2⟩ := id Ab
  have hin2 : ¬ ((0 : Int32) < 0 ∨ cl2.slots.size ≤ ((0 : Int32)).toNatClampNeg) := inb_of S2 ⟨by decide, by decide⟩
  obtain ⟨T2, h2, X2, e2, W2, st2⟩ := stB X0 hx hZ e0 Ar2 (j := (0 : Int32)) hin2 (g := (mkF m 31 #[.val (.ref ar), .val (.int 0), .val (.ref ab), .val (.int 0), .val (.int 2), .val (.int 0), .val (.int ch0)] [(.int (ch0.toInt8.toInt32)), (.int 0), (.ref ab)])) rfl rfl (hb hby d6_31)
  rw [own_nbn] at W2
  have Aw2 := Arv.set Ar2 q2 S2 M2 H2 G2 (fits_nar_byte _) W2 0 rfl (Nat.le_of_ble_eq_true rfl)
  replace Aa := Aa.other W2 hne
  have Z2 : n0 ≤ h2.size := Nat.le_trans Z0 (Keep.of_wr W2).1
  have Kp2 : Keep h0 h2 [ab] := Kp0.wr W2 (Or.inl (List.mem_of_getElem? (i := 0) rfl))
  have Av_ab : Arv Z h2 ab kb .byte (2 : Int32) [(.int (ch0.toInt8.toInt32)), (.int 0)] (.int 0) := Aw2
  have N2 := Fr.snoc X2 N0 g_ab
  refine own_go (A := T2.setTop (mkF m 32 #[.val (.ref ar), .val (.int 0), .val (.ref ab), .val (.int 0), .val (.int 2), .val (.int 0), .val (.int ch0)] [])) (fun _ kz => st2 _ kz) ?_
  refine own_go (A := T2.setTop (mkF m 12 #[.val (.ref ar), .val (.int 1), .val (.ref ab), .val (.int 1), .val (.int 2), .val (.int 1), .val (.int ch0)] [(.int 1), (.ref ar)])) (fun _ kz => ?_) ?_
  · refine XS.iinc X2.here hx rfl (hb hby d6_32) rfl (l' := #[.val (.ref ar), .val (.int 1), .val (.ref ab), .val (.int 0), .val (.int 2), .val (.int 0), .val (.int ch0)]) rfl ?_
    refine XS.iinc X2.here hx rfl (hb hby d6_35) rfl (l' := #[.val (.ref ar), .val (.int 1), .val (.ref ab), .val (.int 1), .val (.int 2), .val (.int 0), .val (.int ch0)]) rfl ?_
    refine XS.iinc X2.here hx rfl (hb hby d6_38) rfl (l' := #[.val (.ref ar), .val (.int 1), .val (.ref ab), .val (.int 1), .val (.int 2), .val (.int 1), .val (.int ch0)]) rfl ?_
    refine XS.goto X2.here hx rfl (pc0 := 41) (pc' := 3) rfl (hb hby d6_41) (by decide) (by decide) ?_
    refine XS.iload X2.here hx rfl (hb hby d6_3) rfl ?_
    refine XS.iload X2.here hx rfl (hb hby d6_5) rfl ?_
    refine XS.icmpNo X2.here hx rfl (hb hby d6_7) rfl (tlt (by decide : ((1 : Int32) < (2 : Int32)))).2.1 ?_
    refine XS.aloadN X2.here hx rfl (hb hby d6_10) rfl rfl ?_
    refine XS.iloadN X2.here hx rfl (hb hby d6_11) rfl ?_
    exact kz
  obtain ⟨cl3, Ar3, -, S3, M3, H3, -⟩ := id Aa
  have hin3 : ¬ ((1 : Int32) < 0 ∨ cl3.slots.size ≤ ((1 : Int32)).toNatClampNeg) := inb_of S3 ⟨by decide, by decide⟩
  have hat3 : cl3.slots[((1 : Int32)).toNatClampNeg]? = some (.int ch1) := H3.at hin3 rfl
  refine own_go (A := T2.setTop (mkF m 13 #[.val (.ref ar), .val (.int 1), .val (.ref ab), .val (.int 1), .val (.int 2), .val (.int 1), .val (.int ch0)] [(.int ch1)])) (fun _ kz => ?_) ?_
  · refine X2.caload hx (j := (1 : Int32)) (v := (.int ch1)) (by rw [e2]; exact Ar3.1) (State.isArrayOf_alike hZ.alike Ar3.2.1) Ar3.2.2 hin3 hat3 (g := (mkF m 12 #[.val (.ref ar), .val (.int 1), .val (.ref ab), .val (.int 1), .val (.int 2), .val (.int 1), .val (.int ch0)] [(.int 1), (.ref ar)])) rfl rfl (hb hby d6_12) _ ?_
    exact kz
  refine own_go (A := T2.setTop (mkF m 25 #[.val (.ref ar), .val (.int 1), .val (.ref ab), .val (.int 1), .val (.int 2), .val (.int 1), .val (.int ch1)] [(.int 1)])) (fun _ kz => ?_) ?_
  · refine XS.istore X2.here hx rfl (hb hby d6_13) rfl (l' := #[.val (.ref ar), .val (.int 1), .val (.ref ab), .val (.int 1), .val (.int 2), .val (.int 1), .val (.int ch1)]) rfl ?_
    refine XS.iload X2.here hx rfl (hb hby d6_15) rfl ?_
    refine XS.sipush X2.here hx rfl (hb hby d6_17) ?_
    refine XS.icmpNo X2.here hx rfl (hb hby d6_20) rfl (tlt hr).2.2.2 ?_
    refine XS.iload X2.here hx rfl (hb hby d6_23) rfl ?_
    exact kz
  obtain ⟨fs, hrr, hrun, hended, hW, hsame⟩ := X2.leave (v := some (.int 1)) (fun h => by rw [Bd.returns] at h; cases h)
  refine ⟨_, _, ?_, hrun, hended, _, _, rfl, ?_, ⟨_, rfl⟩, hW, hsame.mono (by decide) (by decide)⟩
  · show Steps p.tables e below (T2.setTop (mkF m 25 #[.val (.ref ar), .val (.int 1), .val (.ref ab), .val (.int 1), .val (.int 2), .val (.int 1), .val (.int ch1)] [(.int 1)])) _
    exact retI X2 hx Bd.returns (hb hby d6_25) hrr
  · show QrmCi_2_1 Z ab h0 n0 _ T2.heap _
    rw [e2]
    exact ⟨rfl, N2, Kp2⟩
def QrmCi_2_2 (Z : State) (ab : Addr) (kb : ClassId) (ch0 : Int32) (ch1 : Int32) (h0 : Heap) (n0 : Nat) (v : Option Value) (h : Heap) (L : List Loc) : Prop := v = some (.int 2) ∧ Fr n0 L ∧ Keep h0 h [ab] ∧ Arv Z h ab kb .byte (2 : Int32) [(.int (ch0.toInt8.toInt32)), (.int (ch1.toInt8.toInt32))] (.int 0)
set_option maxRecDepth 65536 in
set_option maxHeartbeats 40000000 in
theorem rmCi_2_2 (l : Launch) (Z : State) (a0 : Array Value) (hw : ∀ d ∈ tables_1, d.before a0 Z = true) (ws : List Jvm.Cond) (ar ab : Addr) (ka kb : ClassId) (ch0 ch1 : Int32) (h0 : Heap) (n0 : Nat) (Z0 : n0 ≤ h0.size) (Aa : Arv Z h0 ar ka .char (2 : Int32) [(.int ch0), (.int ch1)] (.int 0)) (Ab : Arv Z h0 ab kb .byte (2 : Int32) [(.int 0), (.int 0)] (.int 0)) (hne : ar ≠ ab) (g_ab : n0 ≤ ab) (hl0 : ¬ (255 : Int32) < ch0) (hl1 : ¬ (255 : Int32) < ch1) :
    MetFree l (⟨"java/lang/StringUTF16", "compress", "([CI[BII)I"⟩ : MethodName) (head1 (Jvm.Cond.code (⟨"java/lang/StringUTF16", "compress", "([CI[BII)I"⟩ : MethodName) jdk_52_method_21_code 7 (some .int) :: ws) ({ frames := 0, cells := 0, slots := 0, locals := 0 } : Room)) (fun ar_ U_ => ar_ = #[(.ref ar), (.int 0), (.ref ab), (.int 0), (.int 2)] ∧ Z.Warmed39 U_.vm ∧ U_.heap = h0) (fun _ _ _ _ _ => True) (fun _ U_ ou_ V_ => ∃ v_ L_, ou_ = .returned v_ ∧ QrmCi_2_2 Z ab kb ch0 ch1 h0 n0 v_ V_.heap L_ ∧ FrameEnd U_ ou_ V_ L_ ({ frames := 0, cells := 0, slots := 0, locals := 0 } : Room).cells ({ frames := 0, cells := 0, slots := 0, locals := 0 } : Room).slots) := by
  refine MetFree.of_bodySF (plainFor_of_name own_pn6) hisR ?_
  intro p e s m args below meth c s₁ Bd hml0 hP hK
  obtain ⟨rfl, hZ, hh⟩ := hP
  have hx := Bd.exec
  have hby := Bd.bytes
  have hml : c.maxLocals = 7 := hml0
  have hown : s.vm.findClass "java/lang/StringUTF16" = some m.cls := findClass_of_methodNamed Bd.named
  have hnm := (name_of_methodNamed Bd.named Bd.method).1
  have X0 : Stand p l e ({ frames := 0, cells := 0, slots := 0, locals := 0 } : Room) s m #[(.ref ar), (.int 0), (.ref ab), (.int 0), (.int 2)] below meth c s₁ [] 0 0 := Stand.of_body Bd
  have e0 : s₁.heap = h0 := by rw [← hh, Bd.state]; rfl
  have N0 := Fr.nil n0
  have Kp0 : Keep h0 h0 [ab] := Keep.refl h0 _
  refine own_go (A := s₁.setTop (mkF m 0 #[.val (.ref ar), .val (.int 0), .val (.ref ab), .val (.int 0), .val (.int 2), .unset, .unset] [])) (fun _ kz => castTop (own_ef6 m ar (0 : Int32) ab (0 : Int32) (2 : Int32)) kz) ?_
  refine own_go (A := s₁.setTop (mkF m 12 #[.val (.ref ar), .val (.int 0), .val (.ref ab), .val (.int 0), .val (.int 2), .val (.int 0), .unset] [(.int 0), (.ref ar)])) (fun _ kz => ?_) ?_
  · refine XS.iconst X0.here hx rfl (hb hby d6_0) ?_
    refine XS.istore X0.here hx rfl (hb hby d6_1) rfl (l' := #[.val (.ref ar), .val (.int 0), .val (.ref ab), .val (.int 0), .val (.int 2), .val (.int 0), .unset]) rfl ?_
    refine XS.iload X0.here hx rfl (hb hby d6_3) rfl ?_
    refine XS.iload X0.here hx rfl (hb hby d6_5) rfl ?_
    refine XS.icmpNo X0.here hx rfl (hb hby d6_7) rfl (tlt (by decide : ((0 : Int32) < (2 : Int32)))).2.1 ?_
    refine XS.aloadN X0.here hx rfl (hb hby d6_10) rfl rfl ?_
    refine XS.iloadN X0.here hx rfl (hb hby d6_11) rfl ?_
    exact kz
  obtain ⟨cl1, Ar1, -, S1, M1, H1, -⟩ := id Aa
  have hin1 : ¬ ((0 : Int32) < 0 ∨ cl1.slots.size ≤ ((0 : Int32)).toNatClampNeg) := inb_of S1 ⟨by decide, by decide⟩
  have hat1 : cl1.slots[((0 : Int32)).toNatClampNeg]? = some (.int ch0) := H1.at hin1 rfl
  refine own_go (A := s₁.setTop (mkF m 13 #[.val (.ref ar), .val (.int 0), .val (.ref ab), .val (.int 0), .val (.int 2), .val (.int 0), .unset] [(.int ch0)])) (fun _ kz => ?_) ?_
  · refine X0.caload hx (j := (0 : Int32)) (v := (.int ch0)) (by rw [e0]; exact Ar1.1) (State.isArrayOf_alike hZ.alike Ar1.2.1) Ar1.2.2 hin1 hat1 (g := (mkF m 12 #[.val (.ref ar), .val (.int 0), .val (.ref ab), .val (.int 0), .val (.int 2), .val (.int 0), .unset] [(.int 0), (.ref ar)])) rfl rfl (hb hby d6_12) _ ?_
    exact kz
  refine own_go (A := s₁.setTop (mkF m 31 #[.val (.ref ar), .val (.int 0), .val (.ref ab), .val (.int 0), .val (.int 2), .val (.int 0), .val (.int ch0)] [(.int (ch0.toInt8.toInt32)), (.int 0), (.ref ab)])) (fun _ kz => ?_) ?_
  · refine XS.istore X0.here hx rfl (hb hby d6_13) rfl (l' := #[.val (.ref ar), .val (.int 0), .val (.ref ab), .val (.int 0), .val (.int 2), .val (.int 0), .val (.int ch0)]) rfl ?_
    refine XS.iload X0.here hx rfl (hb hby d6_15) rfl ?_
    refine XS.sipush X0.here hx rfl (hb hby d6_17) ?_
    refine XS.icmpYes X0.here hx rfl (pc0 := 20) (pc' := 26) rfl (hb hby d6_20) rfl (flt hl0).2.2.2 (by decide) (by decide) ?_
    refine XS.aloadN X0.here hx rfl (hb hby d6_26) rfl rfl ?_
    refine XS.iloadN X0.here hx rfl (hb hby d6_27) rfl ?_
    refine XS.iload X0.here hx rfl (hb hby d6_28) rfl ?_
    refine XS.i2b X0.here hx rfl (hb hby d6_30) rfl ?_
    exact kz
  obtain ⟨cl2, Ar2, q2, S2, M2, H2, G2⟩ := id Ab
  have hin2 : ¬ ((0 : Int32) < 0 ∨ cl2.slots.size ≤ ((0 : Int32)).toNatClampNeg) := inb_of S2 ⟨by decide, by decide⟩
  obtain ⟨T2, h2, X2, e2, W2, st2⟩ := stB X0 hx hZ e0 Ar2 (j := (0 : Int32)) hin2 (g := (mkF m 31 #[.val (.ref ar), .val (.int 0), .val (.ref ab), .val (.int 0), .val (.int 2), .val (.int 0), .val (.int ch0)] [(.int (ch0.toInt8.toInt32)), (.int 0), (.ref ab)])) rfl rfl (hb hby d6_31)
  rw [own_nbn] at W2
  have Aw2 := Arv.set Ar2 q2 S2 M2 H2 G2 (fits_nar_byte _) W2 0 rfl (Nat.le_of_ble_eq_true rfl)
  replace Aa := Aa.other W2 hne
  have Z2 : n0 ≤ h2.size := Nat.le_trans Z0 (Keep.of_wr W2).1
  have Kp2 : Keep h0 h2 [ab] := Kp0.wr W2 (Or.inl (List.mem_of_getElem? (i := 0) rfl))
  have Av_ab : Arv Z h2 ab kb .byte (2 : Int32) [(.int (ch0.toInt8.toInt32)), (.int 0)] (.int 0) := Aw2
  have N2 := Fr.snoc X2 N0 g_ab
  refine own_go (A := T2.setTop (mkF m 32 #[.val (.ref ar), .val (.int 0), .val (.ref ab), .val (.int 0), .val (.int 2), .val (.int 0), .val (.int ch0)] [])) (fun _ kz => st2 _ kz) ?_
  refine own_go (A := T2.setTop (mkF m 12 #[.val (.ref ar), .val (.int 1), .val (.ref ab), .val (.int 1), .val (.int 2), .val (.int 1), .val (.int ch0)] [(.int 1), (.ref ar)])) (fun _ kz => ?_) ?_
  · refine XS.iinc X2.here hx rfl (hb hby d6_32) rfl (l' := #[.val (.ref ar), .val (.int 1), .val (.ref ab), .val (.int 0), .val (.int 2), .val (.int 0), .val (.int ch0)]) rfl ?_
    refine XS.iinc X2.here hx rfl (hb hby d6_35) rfl (l' := #[.val (.ref ar), .val (.int 1), .val (.ref ab), .val (.int 1), .val (.int 2), .val (.int 0), .val (.int ch0)]) rfl ?_
    refine XS.iinc X2.here hx rfl (hb hby d6_38) rfl (l' := #[.val (.ref ar), .val (.int 1), .val (.ref ab), .val (.int 1), .val (.int 2), .val (.int 1), .val (.int ch0)]) rfl ?_
    refine XS.goto X2.here hx rfl (pc0 := 41) (pc' := 3) rfl (hb hby d6_41) (by decide) (by decide) ?_
    refine XS.iload X2.here hx rfl (hb hby d6_3) rfl ?_
    refine XS.iload X2.here hx rfl (hb hby d6_5) rfl ?_
    refine XS.icmpNo X2.here hx rfl (hb hby d6_7) rfl (tlt (by decide : ((1 : Int32) < (2 : Int32)))).2.1 ?_
    refine XS.aloadN X2.here hx rfl (hb hby d6_10) rfl rfl ?_
    refine XS.iloadN X2.here hx rfl (hb hby d6_11) rfl ?_
    exact kz
  obtain ⟨cl3, Ar3, -, S3, M3, H3, -⟩ := id Aa
  have hin3 : ¬ ((1 : Int32) < 0 ∨ cl3.slots.size ≤ ((1 : Int32)).toNatClampNeg) := inb_of S3 ⟨by decide, by decide⟩
  have hat3 : cl3.slots[((1 : Int32)).toNatClampNeg]? = some (.int ch1) := H3.at hin3 rfl
  refine own_go (A := T2.setTop (mkF m 13 #[.val (.ref ar), .val (.int 1), .val (.ref ab), .val (.int 1), .val (.int 2), .val (.int 1), .val (.int ch0)] [(.int ch1)])) (fun _ kz => ?_) ?_
  · refine X2.caload hx (j := (1 : Int32)) (v := (.int ch1)) (by rw [e2]; exact Ar3.1) (State.isArrayOf_alike hZ.alike Ar3.2.1) Ar3.2.2 hin3 hat3 (g := (mkF m 12 #[.val (.ref ar), .val (.int 1), .val (.ref ab), .val (.int 1), .val (.int 2), .val (.int 1), .val (.int ch0)] [(.int 1), (.ref ar)])) rfl rfl (hb hby d6_12) _ ?_
    exact kz
  refine own_go (A := T2.setTop (mkF m 31 #[.val (.ref ar), .val (.int 1), .val (.ref ab), .val (.int 1), .val (.int 2), .val (.int 1), .val (.int ch1)] [(.int (ch1.toInt8.toInt32)), (.int 1), (.ref ab)])) (fun _ kz => ?_) ?_
  · refine XS.istore X2.here hx rfl (hb hby d6_13) rfl (l' := #[.val (.ref ar), .val (.int 1), .val (.ref ab), .val (.int 1), .val (.int 2), .val (.int 1), .val (.int ch1)]) rfl ?_
    refine XS.iload X2.here hx rfl (hb hby d6_15) rfl ?_
    refine XS.sipush X2.here hx rfl (hb hby d6_17) ?_
    refine XS.icmpYes X2.here hx rfl (pc0 := 20) (pc' := 26) rfl (hb hby d6_20) rfl (flt hl1).2.2.2 (by decide) (by decide) ?_
    refine XS.aloadN X2.here hx rfl (hb hby d6_26) rfl rfl ?_
    refine XS.iloadN X2.here hx rfl (hb hby d6_27) rfl ?_
    refine XS.iload X2.here hx rfl (hb hby d6_28) rfl ?_
    refine XS.i2b X2.here hx rfl (hb hby d6_30) rfl ?_
    exact kz
  obtain ⟨cl4, Ar4, q4, S4, M4, H4, G4⟩ := id Av_ab
  have hin4 : ¬ ((1 : Int32) < 0 ∨ cl4.slots.size ≤ ((1 : Int32)).toNatClampNeg) := inb_of S4 ⟨by decide, by decide⟩
  obtain ⟨T4, h4, X4, e4, W4, st4⟩ := stB X2 hx hZ e2 Ar4 (j := (1 : Int32)) hin4 (g := (mkF m 31 #[.val (.ref ar), .val (.int 1), .val (.ref ab), .val (.int 1), .val (.int 2), .val (.int 1), .val (.int ch1)] [(.int (ch1.toInt8.toInt32)), (.int 1), (.ref ab)])) rfl rfl (hb hby d6_31)
  rw [own_nbn] at W4
  have Aw4 := Arv.set Ar4 q4 S4 M4 H4 G4 (fits_nar_byte _) W4 1 rfl (Nat.le_of_ble_eq_true rfl)
  replace Aa := Aa.other W4 hne
  have Z4 : n0 ≤ h4.size := Nat.le_trans Z2 (Keep.of_wr W4).1
  have Kp4 : Keep h0 h4 [ab] := Kp2.wr W4 (Or.inl (List.mem_of_getElem? (i := 0) rfl))
  have Av_ab : Arv Z h4 ab kb .byte (2 : Int32) [(.int (ch0.toInt8.toInt32)), (.int (ch1.toInt8.toInt32))] (.int 0) := Aw4
  have N4 := Fr.snoc X4 N2 g_ab
  refine own_go (A := T4.setTop (mkF m 32 #[.val (.ref ar), .val (.int 1), .val (.ref ab), .val (.int 1), .val (.int 2), .val (.int 1), .val (.int ch1)] [])) (fun _ kz => st4 _ kz) ?_
  refine own_go (A := T4.setTop (mkF m 46 #[.val (.ref ar), .val (.int 2), .val (.ref ab), .val (.int 2), .val (.int 2), .val (.int 2), .val (.int ch1)] [(.int 2)])) (fun _ kz => ?_) ?_
  · refine XS.iinc X4.here hx rfl (hb hby d6_32) rfl (l' := #[.val (.ref ar), .val (.int 2), .val (.ref ab), .val (.int 1), .val (.int 2), .val (.int 1), .val (.int ch1)]) rfl ?_
    refine XS.iinc X4.here hx rfl (hb hby d6_35) rfl (l' := #[.val (.ref ar), .val (.int 2), .val (.ref ab), .val (.int 2), .val (.int 2), .val (.int 1), .val (.int ch1)]) rfl ?_
    refine XS.iinc X4.here hx rfl (hb hby d6_38) rfl (l' := #[.val (.ref ar), .val (.int 2), .val (.ref ab), .val (.int 2), .val (.int 2), .val (.int 2), .val (.int ch1)]) rfl ?_
    refine XS.goto X4.here hx rfl (pc0 := 41) (pc' := 3) rfl (hb hby d6_41) (by decide) (by decide) ?_
    refine XS.iload X4.here hx rfl (hb hby d6_3) rfl ?_
    refine XS.iload X4.here hx rfl (hb hby d6_5) rfl ?_
    refine XS.icmpYes X4.here hx rfl (pc0 := 7) (pc' := 44) rfl (hb hby d6_7) rfl (flt (by decide : ¬ ((2 : Int32) < (2 : Int32)))).2.1 (by decide) (by decide) ?_
    refine XS.iload X4.here hx rfl (hb hby d6_44) rfl ?_
    exact kz
  obtain ⟨fs, hrr, hrun, hended, hW, hsame⟩ := X4.leave (v := some (.int 2)) (fun h => by rw [Bd.returns] at h; cases h)
  refine ⟨_, _, ?_, hrun, hended, _, _, rfl, ?_, ⟨_, rfl⟩, hW, hsame.mono (by decide) (by decide)⟩
  · show Steps p.tables e below (T4.setTop (mkF m 46 #[.val (.ref ar), .val (.int 2), .val (.ref ab), .val (.int 2), .val (.int 2), .val (.int 2), .val (.int ch1)] [(.int 2)])) _
    exact retI X4 hx Bd.returns (hb hby d6_46) hrr
  · show QrmCi_2_2 Z ab kb ch0 ch1 h0 n0 _ T4.heap _
    rw [e4]
    exact ⟨rfl, N4, Kp4, Av_ab⟩
def QrmNL_2 (Z : State)  (h0 : Heap) (n0 : Nat) (v : Option Value) (h : Heap) (L : List Loc) : Prop := v = some (.int 4) ∧ Fr n0 L ∧ h = h0
set_option maxRecDepth 65536 in
set_option maxHeartbeats 40000000 in
theorem rmNL_2 (l : Launch) (Z : State) (a0 : Array Value) (hw : ∀ d ∈ tables_1, d.before a0 Z = true) (ws : List Jvm.Cond)  (h0 : Heap) (n0 : Nat) (Z0 : n0 ≤ h0.size)  :
    MetFree l (⟨"java/lang/StringUTF16", "newBytesLength", "(I)I"⟩ : MethodName) (head1 (Jvm.Cond.code (⟨"java/lang/StringUTF16", "newBytesLength", "(I)I"⟩ : MethodName) jdk_52_method_3_code 1 (some .int) :: ws) ({ frames := 0, cells := 0, slots := 0, locals := 0 } : Room)) (fun ar_ U_ => ar_ = #[(.int 2)] ∧ Z.Warmed39 U_.vm ∧ U_.heap = h0) (fun _ _ _ _ _ => True) (fun _ U_ ou_ V_ => ∃ v_ L_, ou_ = .returned v_ ∧ QrmNL_2 Z  h0 n0 v_ V_.heap L_ ∧ FrameEnd U_ ou_ V_ L_ ({ frames := 0, cells := 0, slots := 0, locals := 0 } : Room).cells ({ frames := 0, cells := 0, slots := 0, locals := 0 } : Room).slots) := by
  refine MetFree.of_bodySF (plainFor_of_name own_pn26) hisR ?_
  intro p e s m args below meth c s₁ Bd hml0 hP hK
  obtain ⟨rfl, hZ, hh⟩ := hP
  have hx := Bd.exec
  have hby := Bd.bytes
  have hml : c.maxLocals = 1 := hml0
  have hown : s.vm.findClass "java/lang/StringUTF16" = some m.cls := findClass_of_methodNamed Bd.named
  have hnm := (name_of_methodNamed Bd.named Bd.method).1
  have X0 : Stand p l e ({ frames := 0, cells := 0, slots := 0, locals := 0 } : Room) s m #[(.int 2)] below meth c s₁ [] 0 0 := Stand.of_body Bd
  have e0 : s₁.heap = h0 := by rw [← hh, Bd.state]; rfl
  have N0 := Fr.nil n0
  refine own_go (A := s₁.setTop (mkF m 0 #[.val (.int 2)] [])) (fun _ kz => castTop (own_ef26 m (2 : Int32)) kz) ?_
  refine own_go (A := s₁.setTop (mkF m 58 #[.val (.int 2)] [(.int 4)])) (fun _ kz => ?_) ?_
  · refine XS.iloadN X0.here hx rfl (hb hby d26_0) rfl ?_
    refine XS.ifYes X0.here hx rfl (pc0 := 1) (pc' := 12) rfl (hb hby d26_1) rfl ((if0 _ _).trans (flt (by decide : ¬ ((2 : Int32) < (0 : Int32)))).2.1) (by decide) (by decide) ?_
    refine XS.iloadN X0.here hx rfl (hb hby d26_12) rfl ?_
    refine X0.ldcInt hx hown (mvT hZ (own_w hw 144 rfl)) (g := (mkF m 13 #[.val (.int 2)] [(.int 2)])) rfl (hb hby d26_13) _ ?_
    refine XS.icmpYes X0.here hx rfl (pc0 := 15) (pc' := 55) rfl (hb hby d26_15) rfl (tlt (by decide : ((2 : Int32) < (1073741823 : Int32)))).1 (by decide) (by decide) ?_
    refine XS.iloadN X0.here hx rfl (hb hby d26_55) rfl ?_
    refine XS.iconst X0.here hx rfl (hb hby d26_56) ?_
    refine XS.ishl X0.here hx rfl (hb hby d26_57) rfl ?_
    exact kz
  obtain ⟨fs, hrr, hrun, hended, hW, hsame⟩ := X0.leave (v := some (.int 4)) (fun h => by rw [Bd.returns] at h; cases h)
  refine ⟨_, _, ?_, hrun, hended, _, _, rfl, ?_, ⟨_, rfl⟩, hW, hsame.mono (by decide) (by decide)⟩
  · show Steps p.tables e below (s₁.setTop (mkF m 58 #[.val (.int 2)] [(.int 4)])) _
    exact retI X0 hx Bd.returns (hb hby d26_58) hrr
  · show QrmNL_2 Z  h0 n0 _ s₁.heap _
    rw [e0]
    exact ⟨rfl, N0, rfl⟩
def QrmNF_2 (Z : State)  (h0 : Heap) (n0 : Nat) (v : Option Value) (h : Heap) (L : List Loc) : Prop := ∃ (b : Addr) (kc : ClassId), v = some (.ref b) ∧ Fr n0 L ∧ h0.size ≤ b ∧ Keep h0 h [] ∧ Arv Z h b kc .byte (4 : Int32) [(.int 0), (.int 0), (.int 0), (.int 0)] (.int 0)
set_option maxRecDepth 65536 in
set_option maxHeartbeats 40000000 in
theorem rmNF_2 (l : Launch) (Z : State) (a0 : Array Value) (hw : ∀ d ∈ tables_1, d.before a0 Z = true) (ws : List Jvm.Cond)  (h0 : Heap) (n0 : Nat) (Z0 : n0 ≤ h0.size)  :
    MetFree l (⟨"java/lang/StringUTF16", "newBytesFor", "(I)[B"⟩ : MethodName) (head1 (Jvm.Cond.code (⟨"java/lang/StringUTF16", "newBytesFor", "(I)[B"⟩ : MethodName) jdk_52_method_2_code 1 (some (.array .byte)) :: ws) ({ frames := 1, cells := 1, slots := 4, locals := 12 } : Room)) (fun ar_ U_ => ar_ = #[(.int 2)] ∧ Z.Warmed39 U_.vm ∧ U_.heap = h0) (fun _ _ _ _ _ => True) (fun _ U_ ou_ V_ => ∃ v_ L_, ou_ = .returned v_ ∧ QrmNF_2 Z  h0 n0 v_ V_.heap L_ ∧ FrameEnd U_ ou_ V_ L_ ({ frames := 1, cells := 1, slots := 4, locals := 12 } : Room).cells ({ frames := 1, cells := 1, slots := 4, locals := 12 } : Room).slots) := by
  refine MetFree.of_bodySF (plainFor_of_name own_pn25) hisR ?_
  intro p e s m args below meth c s₁ Bd hml0 hP hK
  obtain ⟨rfl, hZ, hh⟩ := hP
  have hx := Bd.exec
  have hby := Bd.bytes
  have hml : c.maxLocals = 1 := hml0
  have hown : s.vm.findClass "java/lang/StringUTF16" = some m.cls := findClass_of_methodNamed Bd.named
  have hnm := (name_of_methodNamed Bd.named Bd.method).1
  have X0 : Stand p l e ({ frames := 1, cells := 1, slots := 4, locals := 12 } : Room) s m #[(.int 2)] below meth c s₁ [] 0 0 := Stand.of_body Bd
  have e0 : s₁.heap = h0 := by rw [← hh, Bd.state]; rfl
  have N0 := Fr.nil n0
  have Kp0 : Keep h0 h0 [] := Keep.refl h0 _
  refine own_go (A := s₁.setTop (mkF m 0 #[.val (.int 2)] [])) (fun _ kz => castTop (own_ef25 m (2 : Int32)) kz) ?_
  refine own_go (A := s₁.setTop (mkF m 1 #[.val (.int 2)] [(.int 2)])) (fun _ kz => ?_) ?_
  · refine XS.iloadN X0.here hx rfl (hb hby d25_0) rfl ?_
    exact kz
  obtain ⟨_, _, ⟨T1, L1, k1, n1⟩, -, X1, ⟨Lc1, hQ1, l1, y1, z1⟩, st1⟩ := Jvm.LawKit.callS X0 hx (y := (⟨"java/lang/StringUTF16", "newBytesLength", "(I)I"⟩ : MethodName)) hown (mvT hZ (own_w hw 141 rfl)) (mvT hZ (own_w hw 142 rfl)) (mvT hZ (own_w hw 22 rfl)) (mvT hZ (own_w hw 143 rfl)) (by decide) (backOf (W := 0) (rmNL_2 l Z a0 hw [] h0 n0 Z0) hZ (own_w hw 143 rfl) (own_w hw 22 rfl) (by decide) (by decide)) (g := (mkF m 1 #[.val (.int 2)] [(.int 2)])) rfl (by rw [hml]; rfl) (argsL := [(.int 2)]) (rest := []) (lenOf own_pd0 rfl) rfl (by show 2 * 0 + _ ≤ _; exact Nat.le_of_eq rfl) (hb hby d25_1) (fun _ _ => ⟨rfl, e0, (by decide : 0 + 0 ≤ _), (by decide : 0 + 0 ≤ _)⟩)
  dsimp only [Pt.U, Pt.locs, Pt.cells, Pt.slots] at X1 l1 y1 z1 st1 hQ1
  subst l1 y1 z1
  obtain ⟨rfl, N1q, e1⟩ := hQ1
  have N1 := Fr.app N0 N1q
  refine own_go (A := T1.setTop (mkF m 4 #[.val (.int 2)] [(.int 4)])) (fun _ kz => st1 _ kz) ?_
  obtain ⟨T2, h2, k2, X2, e2, E2, A2, st2⟩ := newP X1 hx hZ (own_w hw 24 rfl) e1 (g := (mkF m 4 #[.val (.int 2)] [(.int 4)])) rfl (hb hby d25_4) rfl (by decide) (cap := 4) (by decide) (by decide) (by decide) (by decide)
  obtain ⟨b2, gq2⟩ : ∃ z, z = h0.size := ⟨_, rfl⟩
  rw [← gq2] at A2 st2
  have g_b2 : n0 ≤ b2 := Nat.le_trans Z0 (Nat.le_of_eq gq2.symm)
  have szk_b2 : h0.size ≤ b2 := Nat.le_trans Kp0.1 (Nat.le_of_eq gq2.symm)
  have Z2 : n0 ≤ h2.size := Nat.le_trans Z0 E2.1
  have Kp2 : Keep h0 h2 [] := Kp0.ext E2
  have Av_b2 : Arv Z h2 b2 k2 .byte (4 : Int32) [(.int 0), (.int 0), (.int 0), (.int 0)] (.int 0) := (Arv.new A2 (by decide)).pad (pad_rep [] (.int 0) 4)
  refine own_go (A := T2.setTop (mkF m 6 #[.val (.int 2)] [(.ref b2)])) (fun _ kz => st2 _ kz) ?_
  obtain ⟨fs, hrr, hrun, hended, hW, hsame⟩ := X2.leave (v := some (.ref b2)) (fun h => by rw [Bd.returns] at h; cases h)
  refine ⟨_, _, ?_, hrun, hended, _, _, rfl, ?_, ⟨_, rfl⟩, hW, hsame.mono (by decide) (by decide)⟩
  · show Steps p.tables e below (T2.setTop (mkF m 6 #[.val (.int 2)] [(.ref b2)])) _
    exact retOut X2 hx (t := (.array .byte)) Bd.returns rfl (Or.inr (Or.inr (Or.inr (Or.inr ⟨rfl, rfl, rfl⟩)))) (hb hby d25_6) hrr
  · show QrmNF_2 Z  h0 n0 _ T2.heap _
    rw [e2]
    exact ⟨b2, k2, rfl, N1, szk_b2, Kp2, Av_b2⟩
def QrmPC_2_0 (Z : State) (ab : Addr) (kb : ClassId) (qq : Int32) (w0 w1 w2 w3 : Value) (h0 : Heap) (n0 : Nat) (v : Option Value) (h : Heap) (L : List Loc) : Prop := v = none ∧ Fr n0 L ∧ Keep h0 h [ab] ∧ Arv Z h ab kb .byte (4 : Int32) [(.int (own_l qq)), (.int (own_h qq)), w2, w3] (.int 0)
set_option maxRecDepth 65536 in
set_option maxHeartbeats 40000000 in
theorem rmPC_2_0 (l : Launch) (Z : State) (a0 : Array Value) (hw : ∀ d ∈ tables_1, d.before a0 Z = true) (ws : List Jvm.Cond) (ab : Addr) (kb : ClassId) (qq : Int32) (w0 w1 w2 w3 : Value) (h0 : Heap) (n0 : Nat) (Z0 : n0 ≤ h0.size) (Ab : Arv Z h0 ab kb .byte (4 : Int32) [w0, w1, w2, w3] (.int 0)) (g_ab : n0 ≤ ab) (S_ad : Sta Z h0 "java/lang/StringUTF16" "$assertionsDisabled" "Z" (.int 1)) (S_hi : Sta Z h0 "java/lang/StringUTF16" "HI_BYTE_SHIFT" "I" (.int 0)) (S_lo : Sta Z h0 "java/lang/StringUTF16" "LO_BYTE_SHIFT" "I" (.int 8)) :
    MetFree l (⟨"java/lang/StringUTF16", "putChar", "([BII)V"⟩ : MethodName) (head1 (Jvm.Cond.code (⟨"java/lang/StringUTF16", "putChar", "([BII)V"⟩ : MethodName) jdk_52_method_4_code 3 none :: ws) ({ frames := 0, cells := 0, slots := 0, locals := 0 } : Room)) (fun ar_ U_ => ar_ = #[(.ref ab), (.int 0), (.int qq)] ∧ Z.Warmed39 U_.vm ∧ U_.heap = h0) (fun _ _ _ _ _ => True) (fun _ U_ ou_ V_ => ∃ v_ L_, ou_ = .returned v_ ∧ QrmPC_2_0 Z ab kb qq w0 w1 w2 w3 h0 n0 v_ V_.heap L_ ∧ FrameEnd U_ ou_ V_ L_ ({ frames := 0, cells := 0, slots := 0, locals := 0 } : Room).cells ({ frames := 0, cells := 0, slots := 0, locals := 0 } : Room).slots) := by
  refine MetFree.of_bodySF (plainFor_of_name own_pn27) hisR ?_
  intro p e s m args below meth c s₁ Bd hml0 hP hK
  obtain ⟨rfl, hZ, hh⟩ := hP
  have hx := Bd.exec
  have hby := Bd.bytes
  have hml : c.maxLocals = 3 := hml0
  have hown : s.vm.findClass "java/lang/StringUTF16" = some m.cls := findClass_of_methodNamed Bd.named
  have hnm := (name_of_methodNamed Bd.named Bd.method).1
  have X0 : Stand p l e ({ frames := 0, cells := 0, slots := 0, locals := 0 } : Room) s m #[(.ref ab), (.int 0), (.int qq)] below meth c s₁ [] 0 0 := Stand.of_body Bd
  have e0 : s₁.heap = h0 := by rw [← hh, Bd.state]; rfl
  have N0 := Fr.nil n0
  have Kp0 : Keep h0 h0 [ab] := Keep.refl h0 _
  refine own_go (A := s₁.setTop (mkF m 0 #[.val (.ref ab), .val (.int 0), .val (.int qq)] [])) (fun _ kz => castTop (own_ef27 m ab (0 : Int32) qq) kz) ?_
  obtain ⟨T1, X1, e1, st1⟩ := getS2 X0 hx hZ hown (host := "") (Or.inl (own_w hw 148 rfl)) Via.refl e0 S_ad (g := (mkF m 0 #[.val (.ref ab), .val (.int 0), .val (.int qq)] [])) rfl (hb hby d27_0)
  refine own_go (A := T1.setTop (mkF m 3 #[.val (.ref ab), .val (.int 0), .val (.int qq)] [(.int 1)])) (fun _ kz => st1 _ kz) ?_
  refine own_go (A := T1.setTop (mkF m 38 #[.val (.ref ab), .val (.int 1), .val (.int qq)] [(.int qq), (.int 0), (.ref ab)])) (fun _ kz => ?_) ?_
  · refine XS.ifYes X1.here hx rfl (pc0 := 3) (pc' := 28) rfl (hb hby d27_3) rfl ((if0 _ _).trans (feq (by decide : ¬ ((1 : Int32) = (0 : Int32)))).2) (by decide) (by decide) ?_
    refine XS.iloadN X1.here hx rfl (hb hby d27_28) rfl ?_
    refine XS.iconst X1.here hx rfl (hb hby d27_29) ?_
    refine XS.ishl X1.here hx rfl (hb hby d27_30) rfl ?_
    show Steps p.tables e below (T1.setTop (mkF m 31 #[.val (.ref ab), .val (.int 0), .val (.int qq)] [(.int 0)])) _
    refine XS.istoreN X1.here hx rfl (hb hby d27_31) rfl (l' := #[.val (.ref ab), .val (.int 0), .val (.int qq)]) rfl ?_
    refine XS.aloadN X1.here hx rfl (hb hby d27_32) rfl rfl ?_
    refine XS.iloadN X1.here hx rfl (hb hby d27_33) rfl ?_
    refine XS.iinc X1.here hx rfl (hb hby d27_34) rfl (l' := #[.val (.ref ab), .val (.int 1), .val (.int qq)]) rfl ?_
    refine XS.iloadN X1.here hx rfl (hb hby d27_37) rfl ?_
    exact kz
  obtain ⟨T2, X2, e2, st2⟩ := getS2 X1 hx hZ hown (host := "") (Or.inl (own_w hw 149 rfl)) Via.refl e1 S_hi (g := (mkF m 38 #[.val (.ref ab), .val (.int 1), .val (.int qq)] [(.int qq), (.int 0), (.ref ab)])) rfl (hb hby d27_38)
  refine own_go (A := T2.setTop (mkF m 41 #[.val (.ref ab), .val (.int 1), .val (.int qq)] [(.int 0), (.int qq), (.int 0), (.ref ab)])) (fun _ kz => st2 _ kz) ?_
  refine own_go (A := T2.setTop (mkF m 43 #[.val (.ref ab), .val (.int 1), .val (.int qq)] [(.int ((qq >>> ((0 : Int32) &&& 31)).toInt8.toInt32)), (.int 0), (.ref ab)])) (fun _ kz => ?_) ?_
  · refine XS.ishr X2.here hx rfl (hb hby d27_41) rfl ?_
    refine XS.i2b X2.here hx rfl (hb hby d27_42) rfl ?_
    exact kz
  obtain ⟨cl3, Ar3, q3, S3, M3, H3, G3⟩ := id Ab
  have hin3 : ¬ ((0 : Int32) < 0 ∨ cl3.slots.size ≤ ((0 : Int32)).toNatClampNeg) := inb_of S3 ⟨by decide, by decide⟩
  obtain ⟨T3, h3, X3, e3, W3, st3⟩ := stB X2 hx hZ e2 Ar3 (j := (0 : Int32)) hin3 (g := (mkF m 43 #[.val (.ref ab), .val (.int 1), .val (.int qq)] [(.int ((qq >>> ((0 : Int32) &&& 31)).toInt8.toInt32)), (.int 0), (.ref ab)])) rfl rfl (hb hby d27_43)
  rw [own_nbn] at W3
  have Aw3 := Arv.set Ar3 q3 S3 M3 H3 G3 (fits_nar_byte _) W3 0 rfl (Nat.le_of_ble_eq_true rfl)
  replace S_ad := S_ad.wr W3
  replace S_hi := S_hi.wr W3
  replace S_lo := S_lo.wr W3
  have Z3 : n0 ≤ h3.size := Nat.le_trans Z0 (Keep.of_wr W3).1
  have Kp3 : Keep h0 h3 [ab] := Kp0.wr W3 (Or.inl (List.mem_of_getElem? (i := 0) rfl))
  have Av_ab : Arv Z h3 ab kb .byte (4 : Int32) [(.int ((qq >>> ((0 : Int32) &&& 31)).toInt8.toInt32)), w1, w2, w3] (.int 0) := Aw3
  have N3 := Fr.snoc X3 N0 g_ab
  refine own_go (A := T3.setTop (mkF m 44 #[.val (.ref ab), .val (.int 1), .val (.int qq)] [])) (fun _ kz => st3 _ kz) ?_
  refine own_go (A := T3.setTop (mkF m 47 #[.val (.ref ab), .val (.int 1), .val (.int qq)] [(.int qq), (.int 1), (.ref ab)])) (fun _ kz => ?_) ?_
  · refine XS.aloadN X3.here hx rfl (hb hby d27_44) rfl rfl ?_
    refine XS.iloadN X3.here hx rfl (hb hby d27_45) rfl ?_
    refine XS.iloadN X3.here hx rfl (hb hby d27_46) rfl ?_
    exact kz
  obtain ⟨T4, X4, e4, st4⟩ := getS2 X3 hx hZ hown (host := "") (Or.inl (own_w hw 150 rfl)) Via.refl e3 S_lo (g := (mkF m 47 #[.val (.ref ab), .val (.int 1), .val (.int qq)] [(.int qq), (.int 1), (.ref ab)])) rfl (hb hby d27_47)
  refine own_go (A := T4.setTop (mkF m 50 #[.val (.ref ab), .val (.int 1), .val (.int qq)] [(.int 8), (.int qq), (.int 1), (.ref ab)])) (fun _ kz => st4 _ kz) ?_
  refine own_go (A := T4.setTop (mkF m 52 #[.val (.ref ab), .val (.int 1), .val (.int qq)] [(.int ((qq >>> ((8 : Int32) &&& 31)).toInt8.toInt32)), (.int 1), (.ref ab)])) (fun _ kz => ?_) ?_
  · refine XS.ishr X4.here hx rfl (hb hby d27_50) rfl ?_
    refine XS.i2b X4.here hx rfl (hb hby d27_51) rfl ?_
    exact kz
  obtain ⟨cl5, Ar5, q5, S5, M5, H5, G5⟩ := id Av_ab
  have hin5 : ¬ ((1 : Int32) < 0 ∨ cl5.slots.size ≤ ((1 : Int32)).toNatClampNeg) := inb_of S5 ⟨by decide, by decide⟩
  obtain ⟨T5, h5, X5, e5, W5, st5⟩ := stB X4 hx hZ e4 Ar5 (j := (1 : Int32)) hin5 (g := (mkF m 52 #[.val (.ref ab), .val (.int 1), .val (.int qq)] [(.int ((qq >>> ((8 : Int32) &&& 31)).toInt8.toInt32)), (.int 1), (.ref ab)])) rfl rfl (hb hby d27_52)
  rw [own_nbn] at W5
  have Aw5 := Arv.set Ar5 q5 S5 M5 H5 G5 (fits_nar_byte _) W5 1 rfl (Nat.le_of_ble_eq_true rfl)
  replace S_ad := S_ad.wr W5
  replace S_hi := S_hi.wr W5
  replace S_lo := S_lo.wr W5
  have Z5 : n0 ≤ h5.size := Nat.le_trans Z3 (Keep.of_wr W5).1
  have Kp5 : Keep h0 h5 [ab] := Kp3.wr W5 (Or.inl (List.mem_of_getElem? (i := 0) rfl))
  have Av_ab : Arv Z h5 ab kb .byte (4 : Int32) [(.int ((qq >>> ((0 : Int32) &&& 31)).toInt8.toInt32)), (.int ((qq >>> ((8 : Int32) &&& 31)).toInt8.toInt32)), w2, w3] (.int 0) := Aw5
  have N5 := Fr.snoc X5 N3 g_ab
  refine own_go (A := T5.setTop (mkF m 53 #[.val (.ref ab), .val (.int 1), .val (.int qq)] [])) (fun _ kz => st5 _ kz) ?_
  obtain ⟨fs, hrr, hrun, hended, hW, hsame⟩ := X5.leave (v := none) (fun _ => rfl)
  refine ⟨_, _, ?_, hrun, hended, _, _, rfl, ?_, ⟨_, rfl⟩, hW, hsame.mono (by decide) (by decide)⟩
  · show Steps p.tables e below (T5.setTop (mkF m 53 #[.val (.ref ab), .val (.int 1), .val (.int qq)] [])) _
    exact X5.returnOut hx Bd.returns (hb hby d27_53) hrr
  · show QrmPC_2_0 Z ab kb qq w0 w1 w2 w3 h0 n0 _ T5.heap _
    rw [e5]
    exact ⟨rfl, N5, Kp5, Av_ab⟩
def QrmPC_2_1 (Z : State) (ab : Addr) (kb : ClassId) (qq : Int32) (w0 w1 w2 w3 : Value) (h0 : Heap) (n0 : Nat) (v : Option Value) (h : Heap) (L : List Loc) : Prop := v = none ∧ Fr n0 L ∧ Keep h0 h [ab] ∧ Arv Z h ab kb .byte (4 : Int32) [w0, w1, (.int (own_l qq)), (.int (own_h qq))] (.int 0)
set_option maxRecDepth 65536 in
set_option maxHeartbeats 40000000 in
theorem rmPC_2_1 (l : Launch) (Z : State) (a0 : Array Value) (hw : ∀ d ∈ tables_1, d.before a0 Z = true) (ws : List Jvm.Cond) (ab : Addr) (kb : ClassId) (qq : Int32) (w0 w1 w2 w3 : Value) (h0 : Heap) (n0 : Nat) (Z0 : n0 ≤ h0.size) (Ab : Arv Z h0 ab kb .byte (4 : Int32) [w0, w1, w2, w3] (.int 0)) (g_ab : n0 ≤ ab) (S_ad : Sta Z h0 "java/lang/StringUTF16" "$assertionsDisabled" "Z" (.int 1)) (S_hi : Sta Z h0 "java/lang/StringUTF16" "HI_BYTE_SHIFT" "I" (.int 0)) (S_lo : Sta Z h0 "java/lang/StringUTF16" "LO_BYTE_SHIFT" "I" (.int 8)) :
    MetFree l (⟨"java/lang/StringUTF16", "putChar", "([BII)V"⟩ : MethodName) (head1 (Jvm.Cond.code (⟨"java/lang/StringUTF16", "putChar", "([BII)V"⟩ : MethodName) jdk_52_method_4_code 3 none :: ws) ({ frames := 0, cells := 0, slots := 0, locals := 0 } : Room)) (fun ar_ U_ => ar_ = #[(.ref ab), (.int 1), (.int qq)] ∧ Z.Warmed39 U_.vm ∧ U_.heap = h0) (fun _ _ _ _ _ => True) (fun _ U_ ou_ V_ => ∃ v_ L_, ou_ = .returned v_ ∧ QrmPC_2_1 Z ab kb qq w0 w1 w2 w3 h0 n0 v_ V_.heap L_ ∧ FrameEnd U_ ou_ V_ L_ ({ frames := 0, cells := 0, slots := 0, locals := 0 } : Room).cells ({ frames := 0, cells := 0, slots := 0, locals := 0 } : Room).slots) := by
  refine MetFree.of_bodySF (plainFor_of_name own_pn27) hisR ?_
  intro p e s m args below meth c s₁ Bd hml0 hP hK
  obtain ⟨rfl, hZ, hh⟩ := hP
  have hx := Bd.exec
  have hby := Bd.bytes
  have hml : c.maxLocals = 3 := hml0
  have hown : s.vm.findClass "java/lang/StringUTF16" = some m.cls := findClass_of_methodNamed Bd.named
  have hnm := (name_of_methodNamed Bd.named Bd.method).1
  have X0 : Stand p l e ({ frames := 0, cells := 0, slots := 0, locals := 0 } : Room) s m #[(.ref ab), (.int 1), (.int qq)] below meth c s₁ [] 0 0 := Stand.of_body Bd
  have e0 : s₁.heap = h0 := by rw [← hh, Bd.state]; rfl
  have N0 := Fr.nil n0
  have Kp0 : Keep h0 h0 [ab] := Keep.refl h0 _
  refine own_go (A := s₁.setTop (mkF m 0 #[.val (.ref ab), .val (.int 1), .val (.int qq)] [])) (fun _ kz => castTop (own_ef27 m ab (1 : Int32) qq) kz) ?_
  obtain ⟨T1, X1, e1, st1⟩ := getS2 X0 hx hZ hown (host := "") (Or.inl (own_w hw 148 rfl)) Via.refl e0 S_ad (g := (mkF m 0 #[.val (.ref ab), .val (.int 1), .val (.int qq)] [])) rfl (hb hby d27_0)
  refine own_go (A := T1.setTop (mkF m 3 #[.val (.ref ab), .val (.int 1), .val (.int qq)] [(.int 1)])) (fun _ kz => st1 _ kz) ?_
  refine own_go (A := T1.setTop (mkF m 38 #[.val (.ref ab), .val (.int 3), .val (.int qq)] [(.int qq), (.int 2), (.ref ab)])) (fun _ kz => ?_) ?_
  · refine XS.ifYes X1.here hx rfl (pc0 := 3) (pc' := 28) rfl (hb hby d27_3) rfl ((if0 _ _).trans (feq (by decide : ¬ ((1 : Int32) = (0 : Int32)))).2) (by decide) (by decide) ?_
    refine XS.iloadN X1.here hx rfl (hb hby d27_28) rfl ?_
    refine XS.iconst X1.here hx rfl (hb hby d27_29) ?_
    refine XS.ishl X1.here hx rfl (hb hby d27_30) rfl ?_
    show Steps p.tables e below (T1.setTop (mkF m 31 #[.val (.ref ab), .val (.int 1), .val (.int qq)] [(.int 2)])) _
    refine XS.istoreN X1.here hx rfl (hb hby d27_31) rfl (l' := #[.val (.ref ab), .val (.int 2), .val (.int qq)]) rfl ?_
    refine XS.aloadN X1.here hx rfl (hb hby d27_32) rfl rfl ?_
    refine XS.iloadN X1.here hx rfl (hb hby d27_33) rfl ?_
    refine XS.iinc X1.here hx rfl (hb hby d27_34) rfl (l' := #[.val (.ref ab), .val (.int 3), .val (.int qq)]) rfl ?_
    refine XS.iloadN X1.here hx rfl (hb hby d27_37) rfl ?_
    exact kz
  obtain ⟨T2, X2, e2, st2⟩ := getS2 X1 hx hZ hown (host := "") (Or.inl (own_w hw 149 rfl)) Via.refl e1 S_hi (g := (mkF m 38 #[.val (.ref ab), .val (.int 3), .val (.int qq)] [(.int qq), (.int 2), (.ref ab)])) rfl (hb hby d27_38)
  refine own_go (A := T2.setTop (mkF m 41 #[.val (.ref ab), .val (.int 3), .val (.int qq)] [(.int 0), (.int qq), (.int 2), (.ref ab)])) (fun _ kz => st2 _ kz) ?_
  refine own_go (A := T2.setTop (mkF m 43 #[.val (.ref ab), .val (.int 3), .val (.int qq)] [(.int ((qq >>> ((0 : Int32) &&& 31)).toInt8.toInt32)), (.int 2), (.ref ab)])) (fun _ kz => ?_) ?_
  · refine XS.ishr X2.here hx rfl (hb hby d27_41) rfl ?_
    refine XS.i2b X2.here hx rfl (hb hby d27_42) rfl ?_
    exact kz
  obtain ⟨cl3, Ar3, q3, S3, M3, H3, G3⟩ := id Ab
  have hin3 : ¬ ((2 : Int32) < 0 ∨ cl3.slots.size ≤ ((2 : Int32)).toNatClampNeg) := inb_of S3 ⟨by decide, by decide⟩
  obtain ⟨T3, h3, X3, e3, W3, st3⟩ := stB X2 hx hZ e2 Ar3 (j := (2 : Int32)) hin3 (g := (mkF m 43 #[.val (.ref ab), .val (.int 3), .val (.int qq)] [(.int ((qq >>> ((0 : Int32) &&& 31)).toInt8.toInt32)), (.int 2), (.ref ab)])) rfl rfl (hb hby d27_43)
  rw [own_nbn] at W3
  have Aw3 := Arv.set Ar3 q3 S3 M3 H3 G3 (fits_nar_byte _) W3 2 rfl (Nat.le_of_ble_eq_true rfl)
  replace S_ad := S_ad.wr W3
  replace S_hi := S_hi.wr W3
  replace S_lo := S_lo.wr W3
  have Z3 : n0 ≤ h3.size := Nat.le_trans Z0 (Keep.of_wr W3).1
  have Kp3 : Keep h0 h3 [ab] := Kp0.wr W3 (Or.inl (List.mem_of_getElem? (i := 0) rfl))
  have Av_ab : Arv Z h3 ab kb .byte (4 : Int32) [w0, w1, (.int ((qq >>> ((0 : Int32) &&& 31)).toInt8.toInt32)), w3] (.int 0) := Aw3
  have N3 := Fr.snoc X3 N0 g_ab
  refine own_go (A := T3.setTop (mkF m 44 #[.val (.ref ab), .val (.int 3), .val (.int qq)] [])) (fun _ kz => st3 _ kz) ?_
  refine own_go (A := T3.setTop (mkF m 47 #[.val (.ref ab), .val (.int 3), .val (.int qq)] [(.int qq), (.int 3), (.ref ab)])) (fun _ kz => ?_) ?_
  · refine XS.aloadN X3.here hx rfl (hb hby d27_44) rfl rfl ?_
    refine XS.iloadN X3.here hx rfl (hb hby d27_45) rfl ?_
    refine XS.iloadN X3.here hx rfl (hb hby d27_46) rfl ?_
    exact kz
  obtain ⟨T4, X4, e4, st4⟩ := getS2 X3 hx hZ hown (host := "") (Or.inl (own_w hw 150 rfl)) Via.refl e3 S_lo (g := (mkF m 47 #[.val (.ref ab), .val (.int 3), .val (.int qq)] [(.int qq), (.int 3), (.ref ab)])) rfl (hb hby d27_47)
  refine own_go (A := T4.setTop (mkF m 50 #[.val (.ref ab), .val (.int 3), .val (.int qq)] [(.int 8), (.int qq), (.int 3), (.ref ab)])) (fun _ kz => st4 _ kz) ?_
  refine own_go (A := T4.setTop (mkF m 52 #[.val (.ref ab), .val (.int 3), .val (.int qq)] [(.int ((qq >>> ((8 : Int32) &&& 31)).toInt8.toInt32)), (.int 3), (.ref ab)])) (fun _ kz => ?_) ?_
  · refine XS.ishr X4.here hx rfl (hb hby d27_50) rfl ?_
    refine XS.i2b X4.here hx rfl (hb hby d27_51) rfl ?_
    exact kz
  obtain ⟨cl5, Ar5, q5, S5, M5, H5, G5⟩ := id Av_ab
  have hin5 : ¬ ((3 : Int32) < 0 ∨ cl5.slots.size ≤ ((3 : Int32)).toNatClampNeg) := inb_of S5 ⟨by decide, by decide⟩
  obtain ⟨T5, h5, X5, e5, W5, st5⟩ := stB X4 hx hZ e4 Ar5 (j := (3 : Int32)) hin5 (g := (mkF m 52 #[.val (.ref ab), .val (.int 3), .val (.int qq)] [(.int ((qq >>> ((8 : Int32) &&& 31)).toInt8.toInt32)), (.int 3), (.ref ab)])) rfl rfl (hb hby d27_52)
  rw [own_nbn] at W5
  have Aw5 := Arv.set Ar5 q5 S5 M5 H5 G5 (fits_nar_byte _) W5 3 rfl (Nat.le_of_ble_eq_true rfl)
  replace S_ad := S_ad.wr W5
  replace S_hi := S_hi.wr W5
  replace S_lo := S_lo.wr W5
  have Z5 : n0 ≤ h5.size := Nat.le_trans Z3 (Keep.of_wr W5).1
  have Kp5 : Keep h0 h5 [ab] := Kp3.wr W5 (Or.inl (List.mem_of_getElem? (i := 0) rfl))
  have Av_ab : Arv Z h5 ab kb .byte (4 : Int32) [w0, w1, (.int ((qq >>> ((0 : Int32) &&& 31)).toInt8.toInt32)), (.int ((qq >>> ((8 : Int32) &&& 31)).toInt8.toInt32))] (.int 0) := Aw5
  have N5 := Fr.snoc X5 N3 g_ab
  refine own_go (A := T5.setTop (mkF m 53 #[.val (.ref ab), .val (.int 3), .val (.int qq)] [])) (fun _ kz => st5 _ kz) ?_
  obtain ⟨fs, hrr, hrun, hended, hW, hsame⟩ := X5.leave (v := none) (fun _ => rfl)
  refine ⟨_, _, ?_, hrun, hended, _, _, rfl, ?_, ⟨_, rfl⟩, hW, hsame.mono (by decide) (by decide)⟩
  · show Steps p.tables e below (T5.setTop (mkF m 53 #[.val (.ref ab), .val (.int 3), .val (.int qq)] [])) _
    exact X5.returnOut hx Bd.returns (hb hby d27_53) hrr
  · show QrmPC_2_1 Z ab kb qq w0 w1 w2 w3 h0 n0 _ T5.heap _
    rw [e5]
    exact ⟨rfl, N5, Kp5, Av_ab⟩
def QrmTB_2 (Z : State) (ch0 : Int32) (ch1 : Int32) (h0 : Heap) (n0 : Nat) (v : Option Value) (h : Heap) (L : List Loc) : Prop := ∃ (b : Addr) (kc : ClassId), v = some (.ref b) ∧ Fr n0 L ∧ h0.size ≤ b ∧ Keep h0 h [] ∧ Arv Z h b kc .byte (4 : Int32) [(.int (own_l ch0)), (.int (own_h ch0)), (.int (own_l ch1)), (.int (own_h ch1))] (.int 0)
set_option maxRecDepth 65536 in
set_option maxHeartbeats 40000000 in
theorem rmTB_2 (l : Launch) (Z : State) (a0 : Array Value) (hw : ∀ d ∈ tables_1, d.before a0 Z = true) (ws : List Jvm.Cond) (ar : Addr) (ka : ClassId) (ch0 ch1 : Int32) (h0 : Heap) (n0 : Nat) (Z0 : n0 ≤ h0.size) (Aa : Arv Z h0 ar ka .char (2 : Int32) [(.int ch0), (.int ch1)] (.int 0)) (S_ad : Sta Z h0 "java/lang/StringUTF16" "$assertionsDisabled" "Z" (.int 1)) (S_hi : Sta Z h0 "java/lang/StringUTF16" "HI_BYTE_SHIFT" "I" (.int 0)) (S_lo : Sta Z h0 "java/lang/StringUTF16" "LO_BYTE_SHIFT" "I" (.int 8)) :
    MetFree l (⟨"java/lang/StringUTF16", "toBytes", "([CII)[B"⟩ : MethodName) (head1 (Jvm.Cond.code (⟨"java/lang/StringUTF16", "toBytes", "([CII)[B"⟩ : MethodName) jdk_52_method_14_code 5 (some (.array .byte)) :: ws) ({ frames := 2, cells := 1, slots := 4, locals := 24 } : Room)) (fun ar_ U_ => ar_ = #[(.ref ar), (.int 0), (.int 2)] ∧ Z.Warmed39 U_.vm ∧ U_.heap = h0) (fun _ _ _ _ _ => True) (fun _ U_ ou_ V_ => ∃ v_ L_, ou_ = .returned v_ ∧ QrmTB_2 Z ch0 ch1 h0 n0 v_ V_.heap L_ ∧ FrameEnd U_ ou_ V_ L_ ({ frames := 2, cells := 1, slots := 4, locals := 24 } : Room).cells ({ frames := 2, cells := 1, slots := 4, locals := 24 } : Room).slots) := by
  refine MetFree.of_bodySF (plainFor_of_name own_pn24) hisR ?_
  intro p e s m args below meth c s₁ Bd hml0 hP hK
  obtain ⟨rfl, hZ, hh⟩ := hP
  have hx := Bd.exec
  have hby := Bd.bytes
  have hml : c.maxLocals = 5 := hml0
  have hown : s.vm.findClass "java/lang/StringUTF16" = some m.cls := findClass_of_methodNamed Bd.named
  have hnm := (name_of_methodNamed Bd.named Bd.method).1
  have X0 : Stand p l e ({ frames := 2, cells := 1, slots := 4, locals := 24 } : Room) s m #[(.ref ar), (.int 0), (.int 2)] below meth c s₁ [] 0 0 := Stand.of_body Bd
  have e0 : s₁.heap = h0 := by rw [← hh, Bd.state]; rfl
  have N0 := Fr.nil n0
  have Kp0 : Keep h0 h0 [] := Keep.refl h0 _
  refine own_go (A := s₁.setTop (mkF m 0 #[.val (.ref ar), .val (.int 0), .val (.int 2), .unset, .unset] [])) (fun _ kz => castTop (own_ef24 m ar (0 : Int32) (2 : Int32)) kz) ?_
  refine own_go (A := s₁.setTop (mkF m 1 #[.val (.ref ar), .val (.int 0), .val (.int 2), .unset, .unset] [(.int 2)])) (fun _ kz => ?_) ?_
  · refine XS.iloadN X0.here hx rfl (hb hby d24_0) rfl ?_
    exact kz
  obtain ⟨_, _, ⟨T1, L1, k1, n1⟩, -, X1, ⟨Lc1, hQ1, l1, y1, z1⟩, st1⟩ := Jvm.LawKit.callS X0 hx (y := (⟨"java/lang/StringUTF16", "newBytesFor", "(I)[B"⟩ : MethodName)) hown (mvT hZ (own_w hw 138 rfl)) (mvT hZ (own_w hw 139 rfl)) (mvT hZ (own_w hw 22 rfl)) (mvT hZ (own_w hw 140 rfl)) (by decide) (backOf (W := 0) (rmNF_2 l Z a0 hw [] h0 n0 Z0) hZ (own_w hw 140 rfl) (own_w hw 22 rfl) (by decide) (by decide)) (g := (mkF m 1 #[.val (.ref ar), .val (.int 0), .val (.int 2), .unset, .unset] [(.int 2)])) rfl (by rw [hml]; rfl) (argsL := [(.int 2)]) (rest := []) (lenOf own_pd1 rfl) rfl (by show 2 * 0 + _ ≤ _; exact Nat.le_of_eq rfl) (hb hby d24_1) (fun _ _ => ⟨rfl, e0, (by decide : 0 + 1 ≤ _), (by decide : 0 + 4 ≤ _)⟩)
  dsimp only [Pt.U, Pt.locs, Pt.cells, Pt.slots] at X1 l1 y1 z1 st1 hQ1
  subst l1 y1 z1
  obtain ⟨c1, kc1, rfl, N1q, zc1, K1q, Av1⟩ := hQ1
  have N1 := Fr.app N0 N1q
  have ne_ar_c1 : ar ≠ c1 := Nat.ne_of_lt (Nat.lt_of_lt_of_le Aa.lt zc1)
  have g_c1 : n0 ≤ c1 := Nat.le_trans Z0 zc1
  have szk_c1 : h0.size ≤ c1 := Nat.le_trans Kp0.1 zc1
  replace S_ad := own_staKeep S_ad K1q all0
  replace S_hi := own_staKeep S_hi K1q all0
  replace S_lo := own_staKeep S_lo K1q all0
  replace Aa := Aa.keep K1q nin0
  have Z1 : n0 ≤ T1.heap.size := Nat.le_trans Z0 K1q.1
  have Kp1 : Keep h0 T1.heap [] := Kp0.trans K1q (all0)
  refine own_go (A := T1.setTop (mkF m 4 #[.val (.ref ar), .val (.int 0), .val (.int 2), .unset, .unset] [(.ref c1)])) (fun _ kz => st1 _ kz) ?_
  refine own_go (A := T1.setTop (mkF m 19 #[.val (.ref ar), .val (.int 0), .val (.int 2), .val (.ref c1), .val (.int 0)] [(.int 0), (.ref ar), (.int 0), (.ref c1)])) (fun _ kz => ?_) ?_
  · refine XS.astoreN X1.here hx rfl (hb hby d24_4) rfl rfl (l' := #[.val (.ref ar), .val (.int 0), .val (.int 2), .val (.ref c1), .unset]) rfl ?_
    refine XS.iconst X1.here hx rfl (hb hby d24_5) ?_
    refine XS.istore X1.here hx rfl (hb hby d24_6) rfl (l' := #[.val (.ref ar), .val (.int 0), .val (.int 2), .val (.ref c1), .val (.int 0)]) rfl ?_
    refine XS.iload X1.here hx rfl (hb hby d24_8) rfl ?_
    refine XS.iloadN X1.here hx rfl (hb hby d24_10) rfl ?_
    refine XS.icmpNo X1.here hx rfl (hb hby d24_11) rfl (tlt (by decide : ((0 : Int32) < (2 : Int32)))).2.1 ?_
    refine XS.aloadN X1.here hx rfl (hb hby d24_14) rfl rfl ?_
    refine XS.iload X1.here hx rfl (hb hby d24_15) rfl ?_
    refine XS.aloadN X1.here hx rfl (hb hby d24_17) rfl rfl ?_
    refine XS.iloadN X1.here hx rfl (hb hby d24_18) rfl ?_
    exact kz
  obtain ⟨cl2, Ar2, -, S2, M2, H2, -⟩ := id Aa
  have hin2 : ¬ ((0 : Int32) < 0 ∨ cl2.slots.size ≤ ((0 : Int32)).toNatClampNeg) := inb_of S2 ⟨by decide, by decide⟩
  have hat2 : cl2.slots[((0 : Int32)).toNatClampNeg]? = some (.int ch0) := H2.at hin2 rfl
  refine own_go (A := T1.setTop (mkF m 20 #[.val (.ref ar), .val (.int 0), .val (.int 2), .val (.ref c1), .val (.int 0)] [(.int ch0), (.int 0), (.ref c1)])) (fun _ kz => ?_) ?_
  · refine X1.caload hx (j := (0 : Int32)) (v := (.int ch0)) Ar2.1 (State.isArrayOf_alike hZ.alike Ar2.2.1) Ar2.2.2 hin2 hat2 (g := (mkF m 19 #[.val (.ref ar), .val (.int 0), .val (.int 2), .val (.ref c1), .val (.int 0)] [(.int 0), (.ref ar), (.int 0), (.ref c1)])) rfl rfl (hb hby d24_19) _ ?_
    exact kz
  obtain ⟨_, _, ⟨T3, L3, k3, n3⟩, -, X3, ⟨Lc3, hQ3, l3, y3, z3⟩, st3⟩ := Jvm.LawKit.callS X1 hx (y := (⟨"java/lang/StringUTF16", "putChar", "([BII)V"⟩ : MethodName)) hown (mvT hZ (own_w hw 145 rfl)) (mvT hZ (own_w hw 146 rfl)) (mvT hZ (own_w hw 22 rfl)) (mvT hZ (own_w hw 147 rfl)) (by decide) (backOf (W := 0) (rmPC_2_0 l Z a0 hw [] c1 kc1 ch0 (.int 0) (.int 0) (.int 0) (.int 0) T1.heap n0 Z1 Av1 g_c1 S_ad S_hi S_lo) hZ (own_w hw 147 rfl) (own_w hw 22 rfl) (by decide) (by decide)) (g := (mkF m 20 #[.val (.ref ar), .val (.int 0), .val (.int 2), .val (.ref c1), .val (.int 0)] [(.int ch0), (.int 0), (.ref c1)])) rfl (by rw [hml]; rfl) (argsL := [(.ref c1), (.int 0), (.int ch0)]) (rest := []) (lenOf own_pd2 rfl) rfl (by show 2 * 0 + _ ≤ _; exact Nat.le_of_eq rfl) (hb hby d24_20) (fun _ _ => ⟨rfl, rfl, (by decide : 1 + 0 ≤ _), (by decide : 4 + 0 ≤ _)⟩)
  dsimp only [Pt.U, Pt.locs, Pt.cells, Pt.slots] at X3 l3 y3 z3 st3 hQ3
  subst l3 y3 z3
  obtain ⟨rfl, N3q, K3q, Av3⟩ := hQ3
  have N3 := Fr.app N1 N3q
  replace S_ad := own_staKeep S_ad K3q (allS (own_nsA Av1) all0)
  replace S_hi := own_staKeep S_hi K3q (allS (own_nsA Av1) all0)
  replace S_lo := own_staKeep S_lo K3q (allS (own_nsA Av1) all0)
  replace Aa := Aa.keep K3q (ninS ne_ar_c1 nin0)
  have Z3 : n0 ≤ T3.heap.size := Nat.le_trans Z1 K3q.1
  have Kp3 : Keep h0 T3.heap [] := Kp1.trans K3q (allS (Or.inr szk_c1) (all0))
  refine own_go (A := T3.setTop (mkF m 23 #[.val (.ref ar), .val (.int 0), .val (.int 2), .val (.ref c1), .val (.int 0)] [])) (fun _ kz => st3 _ kz) ?_
  refine own_go (A := T3.setTop (mkF m 19 #[.val (.ref ar), .val (.int 1), .val (.int 2), .val (.ref c1), .val (.int 1)] [(.int 1), (.ref ar), (.int 1), (.ref c1)])) (fun _ kz => ?_) ?_
  · refine XS.iinc X3.here hx rfl (hb hby d24_23) rfl (l' := #[.val (.ref ar), .val (.int 1), .val (.int 2), .val (.ref c1), .val (.int 0)]) rfl ?_
    refine XS.iinc X3.here hx rfl (hb hby d24_26) rfl (l' := #[.val (.ref ar), .val (.int 1), .val (.int 2), .val (.ref c1), .val (.int 1)]) rfl ?_
    refine XS.goto X3.here hx rfl (pc0 := 29) (pc' := 8) rfl (hb hby d24_29) (by decide) (by decide) ?_
    refine XS.iload X3.here hx rfl (hb hby d24_8) rfl ?_
    refine XS.iloadN X3.here hx rfl (hb hby d24_10) rfl ?_
    refine XS.icmpNo X3.here hx rfl (hb hby d24_11) rfl (tlt (by decide : ((1 : Int32) < (2 : Int32)))).2.1 ?_
    refine XS.aloadN X3.here hx rfl (hb hby d24_14) rfl rfl ?_
    refine XS.iload X3.here hx rfl (hb hby d24_15) rfl ?_
    refine XS.aloadN X3.here hx rfl (hb hby d24_17) rfl rfl ?_
    refine XS.iloadN X3.here hx rfl (hb hby d24_18) rfl ?_
    exact kz
  obtain ⟨cl4, Ar4, -, S4, M4, H4, -⟩ := id Aa
  have hin4 : ¬ ((1 : Int32) < 0 ∨ cl4.slots.size ≤ ((1 : Int32)).toNatClampNeg) := inb_of S4 ⟨by decide, by decide⟩
  have hat4 : cl4.slots[((1 : Int32)).toNatClampNeg]? = some (.int ch1) := H4.at hin4 rfl
  refine own_go (A := T3.setTop (mkF m 20 #[.val (.ref ar), .val (.int 1), .val (.int 2), .val (.ref c1), .val (.int 1)] [(.int ch1), (.int 1), (.ref c1)])) (fun _ kz => ?_) ?_
  · refine X3.caload hx (j := (1 : Int32)) (v := (.int ch1)) Ar4.1 (State.isArrayOf_alike hZ.alike Ar4.2.1) Ar4.2.2 hin4 hat4 (g := (mkF m 19 #[.val (.ref ar), .val (.int 1), .val (.int 2), .val (.ref c1), .val (.int 1)] [(.int 1), (.ref ar), (.int 1), (.ref c1)])) rfl rfl (hb hby d24_19) _ ?_
    exact kz
  obtain ⟨_, _, ⟨T5, L5, k5, n5⟩, -, X5, ⟨Lc5, hQ5, l5, y5, z5⟩, st5⟩ := Jvm.LawKit.callS X3 hx (y := (⟨"java/lang/StringUTF16", "putChar", "([BII)V"⟩ : MethodName)) hown (mvT hZ (own_w hw 145 rfl)) (mvT hZ (own_w hw 146 rfl)) (mvT hZ (own_w hw 22 rfl)) (mvT hZ (own_w hw 147 rfl)) (by decide) (backOf (W := 0) (rmPC_2_1 l Z a0 hw [] c1 kc1 ch1 (.int (own_l ch0)) (.int (own_h ch0)) (.int 0) (.int 0) T3.heap n0 Z3 Av3 g_c1 S_ad S_hi S_lo) hZ (own_w hw 147 rfl) (own_w hw 22 rfl) (by decide) (by decide)) (g := (mkF m 20 #[.val (.ref ar), .val (.int 1), .val (.int 2), .val (.ref c1), .val (.int 1)] [(.int ch1), (.int 1), (.ref c1)])) rfl (by rw [hml]; rfl) (argsL := [(.ref c1), (.int 1), (.int ch1)]) (rest := []) (lenOf own_pd2 rfl) rfl (by show 2 * 0 + _ ≤ _; exact Nat.le_of_eq rfl) (hb hby d24_20) (fun _ _ => ⟨rfl, rfl, (by decide : 1 + 0 ≤ _), (by decide : 4 + 0 ≤ _)⟩)
  dsimp only [Pt.U, Pt.locs, Pt.cells, Pt.slots] at X5 l5 y5 z5 st5 hQ5
  subst l5 y5 z5
  obtain ⟨rfl, N5q, K5q, Av5⟩ := hQ5
  have N5 := Fr.app N3 N5q
  replace S_ad := own_staKeep S_ad K5q (allS (own_nsA Av3) all0)
  replace S_hi := own_staKeep S_hi K5q (allS (own_nsA Av3) all0)
  replace S_lo := own_staKeep S_lo K5q (allS (own_nsA Av3) all0)
  replace Aa := Aa.keep K5q (ninS ne_ar_c1 nin0)
  have Z5 : n0 ≤ T5.heap.size := Nat.le_trans Z3 K5q.1
  have Kp5 : Keep h0 T5.heap [] := Kp3.trans K5q (allS (Or.inr szk_c1) (all0))
  refine own_go (A := T5.setTop (mkF m 23 #[.val (.ref ar), .val (.int 1), .val (.int 2), .val (.ref c1), .val (.int 1)] [])) (fun _ kz => st5 _ kz) ?_
  refine own_go (A := T5.setTop (mkF m 33 #[.val (.ref ar), .val (.int 2), .val (.int 2), .val (.ref c1), .val (.int 2)] [(.ref c1)])) (fun _ kz => ?_) ?_
  · refine XS.iinc X5.here hx rfl (hb hby d24_23) rfl (l' := #[.val (.ref ar), .val (.int 2), .val (.int 2), .val (.ref c1), .val (.int 1)]) rfl ?_
    refine XS.iinc X5.here hx rfl (hb hby d24_26) rfl (l' := #[.val (.ref ar), .val (.int 2), .val (.int 2), .val (.ref c1), .val (.int 2)]) rfl ?_
    refine XS.goto X5.here hx rfl (pc0 := 29) (pc' := 8) rfl (hb hby d24_29) (by decide) (by decide) ?_
    refine XS.iload X5.here hx rfl (hb hby d24_8) rfl ?_
    refine XS.iloadN X5.here hx rfl (hb hby d24_10) rfl ?_
    refine XS.icmpYes X5.here hx rfl (pc0 := 11) (pc' := 32) rfl (hb hby d24_11) rfl (flt (by decide : ¬ ((2 : Int32) < (2 : Int32)))).2.1 (by decide) (by decide) ?_
    refine XS.aloadN X5.here hx rfl (hb hby d24_32) rfl rfl ?_
    exact kz
  obtain ⟨fs, hrr, hrun, hended, hW, hsame⟩ := X5.leave (v := some (.ref c1)) (fun h => by rw [Bd.returns] at h; cases h)
  refine ⟨_, _, ?_, hrun, hended, _, _, rfl, ?_, ⟨_, rfl⟩, hW, hsame.mono (by decide) (by decide)⟩
  · show Steps p.tables e below (T5.setTop (mkF m 33 #[.val (.ref ar), .val (.int 2), .val (.int 2), .val (.ref c1), .val (.int 2)] [(.ref c1)])) _
    exact retOut X5 hx (t := (.array .byte)) Bd.returns rfl (Or.inr (Or.inr (Or.inr (Or.inr ⟨rfl, rfl, rfl⟩)))) (hb hby d24_33) hrr
  · show QrmTB_2 Z ch0 ch1 h0 n0 _ T5.heap _
    exact ⟨c1, kc1, rfl, N5, szk_c1, Kp5, Av5⟩
def QrmGC_2_0 (Z : State) (qq : Int32) (h0 : Heap) (n0 : Nat) (v : Option Value) (h : Heap) (L : List Loc) : Prop := v = some (.int qq) ∧ Fr n0 L ∧ h = h0
set_option maxRecDepth 65536 in
set_option maxHeartbeats 40000000 in
theorem rmGC_2_0 (l : Launch) (Z : State) (a0 : Array Value) (hw : ∀ d ∈ tables_1, d.before a0 Z = true) (ws : List Jvm.Cond) (ab : Addr) (kb : ClassId) (qq : Int32) (w2 w3 : Value) (h0 : Heap) (n0 : Nat) (Z0 : n0 ≤ h0.size) (Ab : Arv Z h0 ab kb .byte (4 : Int32) [(.int (own_l qq)), (.int (own_h qq)), w2, w3] (.int 0)) (hq : ¬ qq < 0 ∧ ¬ (65535 : Int32) < qq) (S_ad : Sta Z h0 "java/lang/StringUTF16" "$assertionsDisabled" "Z" (.int 1)) (S_hi : Sta Z h0 "java/lang/StringUTF16" "HI_BYTE_SHIFT" "I" (.int 0)) (S_lo : Sta Z h0 "java/lang/StringUTF16" "LO_BYTE_SHIFT" "I" (.int 8)) :
    MetFree l (⟨"java/lang/StringUTF16", "getChar", "([BI)C"⟩ : MethodName) (head1 (Jvm.Cond.code (⟨"java/lang/StringUTF16", "getChar", "([BI)C"⟩ : MethodName) jdk_52_method_5_code 2 (some .char) :: ws) ({ frames := 0, cells := 0, slots := 0, locals := 0 } : Room)) (fun ar_ U_ => ar_ = #[(.ref ab), (.int 0)] ∧ Z.Warmed39 U_.vm ∧ U_.heap = h0) (fun _ _ _ _ _ => True) (fun _ U_ ou_ V_ => ∃ v_ L_, ou_ = .returned v_ ∧ QrmGC_2_0 Z qq h0 n0 v_ V_.heap L_ ∧ FrameEnd U_ ou_ V_ L_ ({ frames := 0, cells := 0, slots := 0, locals := 0 } : Room).cells ({ frames := 0, cells := 0, slots := 0, locals := 0 } : Room).slots) := by
  refine MetFree.of_bodySF (plainFor_of_name own_pn28) hisR ?_
  intro p e s m args below meth c s₁ Bd hml0 hP hK
  obtain ⟨rfl, hZ, hh⟩ := hP
  have hx := Bd.exec
  have hby := Bd.bytes
  have hml : c.maxLocals = 2 := hml0
  have hown : s.vm.findClass "java/lang/StringUTF16" = some m.cls := findClass_of_methodNamed Bd.named
  have hnm := (name_of_methodNamed Bd.named Bd.method).1
  have X0 : Stand p l e ({ frames := 0, cells := 0, slots := 0, locals := 0 } : Room) s m #[(.ref ab), (.int 0)] below meth c s₁ [] 0 0 := Stand.of_body Bd
  have e0 : s₁.heap = h0 := by rw [← hh, Bd.state]; rfl
  have N0 := Fr.nil n0
  refine own_go (A := s₁.setTop (mkF m 0 #[.val (.ref ab), .val (.int 0)] [])) (fun _ kz => castTop (own_ef28 m ab (0 : Int32)) kz) ?_
  obtain ⟨T1, X1, e1, st1⟩ := getS2 X0 hx hZ hown (host := "") (Or.inl (own_w hw 148 rfl)) Via.refl e0 S_ad (g := (mkF m 0 #[.val (.ref ab), .val (.int 0)] [])) rfl (hb hby d28_0)
  refine own_go (A := T1.setTop (mkF m 3 #[.val (.ref ab), .val (.int 0)] [(.int 1)])) (fun _ kz => st1 _ kz) ?_
  refine own_go (A := T1.setTop (mkF m 37 #[.val (.ref ab), .val (.int 1)] [(.int 0), (.ref ab)])) (fun _ kz => ?_) ?_
  · refine XS.ifYes X1.here hx rfl (pc0 := 3) (pc' := 28) rfl (hb hby d28_3) rfl ((if0 _ _).trans (feq (by decide : ¬ ((1 : Int32) = (0 : Int32)))).2) (by decide) (by decide) ?_
    refine XS.iloadN X1.here hx rfl (hb hby d28_28) rfl ?_
    refine XS.iconst X1.here hx rfl (hb hby d28_29) ?_
    refine XS.ishl X1.here hx rfl (hb hby d28_30) rfl ?_
    show Steps p.tables e below (T1.setTop (mkF m 31 #[.val (.ref ab), .val (.int 0)] [(.int 0)])) _
    refine XS.istoreN X1.here hx rfl (hb hby d28_31) rfl (l' := #[.val (.ref ab), .val (.int 0)]) rfl ?_
    refine XS.aloadN X1.here hx rfl (hb hby d28_32) rfl rfl ?_
    refine XS.iloadN X1.here hx rfl (hb hby d28_33) rfl ?_
    refine XS.iinc X1.here hx rfl (hb hby d28_34) rfl (l' := #[.val (.ref ab), .val (.int 1)]) rfl ?_
    exact kz
  obtain ⟨cl2, Ar2, -, S2, M2, H2, -⟩ := id Ab
  have hin2 : ¬ ((0 : Int32) < 0 ∨ cl2.slots.size ≤ ((0 : Int32)).toNatClampNeg) := inb_of S2 ⟨by decide, by decide⟩
  have hat2 : cl2.slots[((0 : Int32)).toNatClampNeg]? = some (.int (own_l qq)) := H2.at hin2 rfl
  refine own_go (A := T1.setTop (mkF m 38 #[.val (.ref ab), .val (.int 1)] [(.int (own_l qq))])) (fun _ kz => ?_) ?_
  · refine X1.baloadBytes hx (j := (0 : Int32)) (v := (.int (own_l qq))) (by rw [e1]; exact Ar2.1) (State.isArrayOf_alike hZ.alike Ar2.2.1) Ar2.2.2 hin2 hat2 (g := (mkF m 37 #[.val (.ref ab), .val (.int 1)] [(.int 0), (.ref ab)])) rfl rfl (hb hby d28_37) _ ?_
    exact kz
  refine own_go (A := T1.setTop (mkF m 42 #[.val (.ref ab), .val (.int 1)] [(.int ((own_l qq) &&& (255 : Int32)))])) (fun _ kz => ?_) ?_
  · refine XS.sipush X1.here hx rfl (hb hby d28_38) ?_
    refine XS.iand X1.here hx rfl (hb hby d28_41) rfl ?_
    exact kz
  obtain ⟨T3, X3, e3, st3⟩ := getS2 X1 hx hZ hown (host := "") (Or.inl (own_w hw 149 rfl)) Via.refl e1 S_hi (g := (mkF m 42 #[.val (.ref ab), .val (.int 1)] [(.int ((own_l qq) &&& (255 : Int32)))])) rfl (hb hby d28_42)
  refine own_go (A := T3.setTop (mkF m 45 #[.val (.ref ab), .val (.int 1)] [(.int 0), (.int ((own_l qq) &&& (255 : Int32)))])) (fun _ kz => st3 _ kz) ?_
  refine own_go (A := T3.setTop (mkF m 48 #[.val (.ref ab), .val (.int 1)] [(.int 1), (.ref ab), (.int (((own_l qq) &&& (255 : Int32)) <<< ((0 : Int32) &&& 31)))])) (fun _ kz => ?_) ?_
  · refine XS.ishl X3.here hx rfl (hb hby d28_45) rfl ?_
    refine XS.aloadN X3.here hx rfl (hb hby d28_46) rfl rfl ?_
    refine XS.iloadN X3.here hx rfl (hb hby d28_47) rfl ?_
    exact kz
  obtain ⟨cl4, Ar4, -, S4, M4, H4, -⟩ := id Ab
  have hin4 : ¬ ((1 : Int32) < 0 ∨ cl4.slots.size ≤ ((1 : Int32)).toNatClampNeg) := inb_of S4 ⟨by decide, by decide⟩
  have hat4 : cl4.slots[((1 : Int32)).toNatClampNeg]? = some (.int (own_h qq)) := H4.at hin4 rfl
  refine own_go (A := T3.setTop (mkF m 49 #[.val (.ref ab), .val (.int 1)] [(.int (own_h qq)), (.int (((own_l qq) &&& (255 : Int32)) <<< ((0 : Int32) &&& 31)))])) (fun _ kz => ?_) ?_
  · refine X3.baloadBytes hx (j := (1 : Int32)) (v := (.int (own_h qq))) (by rw [e3]; exact Ar4.1) (State.isArrayOf_alike hZ.alike Ar4.2.1) Ar4.2.2 hin4 hat4 (g := (mkF m 48 #[.val (.ref ab), .val (.int 1)] [(.int 1), (.ref ab), (.int (((own_l qq) &&& (255 : Int32)) <<< ((0 : Int32) &&& 31)))])) rfl rfl (hb hby d28_48) _ ?_
    exact kz
  refine own_go (A := T3.setTop (mkF m 53 #[.val (.ref ab), .val (.int 1)] [(.int ((own_h qq) &&& (255 : Int32))), (.int (((own_l qq) &&& (255 : Int32)) <<< ((0 : Int32) &&& 31)))])) (fun _ kz => ?_) ?_
  · refine XS.sipush X3.here hx rfl (hb hby d28_49) ?_
    refine XS.iand X3.here hx rfl (hb hby d28_52) rfl ?_
    exact kz
  obtain ⟨T5, X5, e5, st5⟩ := getS2 X3 hx hZ hown (host := "") (Or.inl (own_w hw 150 rfl)) Via.refl e3 S_lo (g := (mkF m 53 #[.val (.ref ab), .val (.int 1)] [(.int ((own_h qq) &&& (255 : Int32))), (.int (((own_l qq) &&& (255 : Int32)) <<< ((0 : Int32) &&& 31)))])) rfl (hb hby d28_53)
  refine own_go (A := T5.setTop (mkF m 56 #[.val (.ref ab), .val (.int 1)] [(.int 8), (.int ((own_h qq) &&& (255 : Int32))), (.int (((own_l qq) &&& (255 : Int32)) <<< ((0 : Int32) &&& 31)))])) (fun _ kz => st5 _ kz) ?_
  refine own_go (A := T5.setTop (mkF m 59 #[.val (.ref ab), .val (.int 1)] [(.int (((((own_l qq) &&& (255 : Int32)) <<< ((0 : Int32) &&& 31)) ||| (((own_h qq) &&& (255 : Int32)) <<< ((8 : Int32) &&& 31))).toUInt32.toUInt16.toUInt32.toInt32))])) (fun _ kz => ?_) ?_
  · refine XS.ishl X5.here hx rfl (hb hby d28_56) rfl ?_
    refine XS.ior X5.here hx rfl (hb hby d28_57) rfl ?_
    refine XS.i2c X5.here hx rfl (hb hby d28_58) rfl ?_
    exact kz
  obtain ⟨fs, hrr, hrun, hended, hW, hsame⟩ := X5.leave (v := some (.int (nar .char (((((own_l qq) &&& (255 : Int32)) <<< ((0 : Int32) &&& 31)) ||| (((own_h qq) &&& (255 : Int32)) <<< ((8 : Int32) &&& 31))).toUInt32.toUInt16.toUInt32.toInt32)))) (fun h => by rw [Bd.returns] at h; cases h)
  refine ⟨_, _, ?_, hrun, hended, _, _, rfl, ?_, ⟨_, rfl⟩, hW, hsame.mono (by decide) (by decide)⟩
  · show Steps p.tables e below (T5.setTop (mkF m 59 #[.val (.ref ab), .val (.int 1)] [(.int (((((own_l qq) &&& (255 : Int32)) <<< ((0 : Int32) &&& 31)) ||| (((own_h qq) &&& (255 : Int32)) <<< ((8 : Int32) &&& 31))).toUInt32.toUInt16.toUInt32.toInt32))])) _
    exact retN X5 hx (t := .char) Bd.returns (by simp) (hb hby d28_59) hrr
  · show QrmGC_2_0 Z qq h0 n0 _ T5.heap _
    rw [e5]
    exact ⟨congrArg (fun z => some (Value.int z)) (own_pair qq hq.1 hq.2), N0, rfl⟩
def QrmGC_2_1 (Z : State) (qq : Int32) (h0 : Heap) (n0 : Nat) (v : Option Value) (h : Heap) (L : List Loc) : Prop := v = some (.int qq) ∧ Fr n0 L ∧ h = h0
set_option maxRecDepth 65536 in
set_option maxHeartbeats 40000000 in
theorem rmGC_2_1 (l : Launch) (Z : State) (a0 : Array Value) (hw : ∀ d ∈ tables_1, d.before a0 Z = true) (ws : List Jvm.Cond) (ab : Addr) (kb : ClassId) (qq : Int32) (w0 w1 : Value) (h0 : Heap) (n0 : Nat) (Z0 : n0 ≤ h0.size) (Ab : Arv Z h0 ab kb .byte (4 : Int32) [w0, w1, (.int (own_l qq)), (.int (own_h qq))] (.int 0)) (hq : ¬ qq < 0 ∧ ¬ (65535 : Int32) < qq) (S_ad : Sta Z h0 "java/lang/StringUTF16" "$assertionsDisabled" "Z" (.int 1)) (S_hi : Sta Z h0 "java/lang/StringUTF16" "HI_BYTE_SHIFT" "I" (.int 0)) (S_lo : Sta Z h0 "java/lang/StringUTF16" "LO_BYTE_SHIFT" "I" (.int 8)) :
    MetFree l (⟨"java/lang/StringUTF16", "getChar", "([BI)C"⟩ : MethodName) (head1 (Jvm.Cond.code (⟨"java/lang/StringUTF16", "getChar", "([BI)C"⟩ : MethodName) jdk_52_method_5_code 2 (some .char) :: ws) ({ frames := 0, cells := 0, slots := 0, locals := 0 } : Room)) (fun ar_ U_ => ar_ = #[(.ref ab), (.int 1)] ∧ Z.Warmed39 U_.vm ∧ U_.heap = h0) (fun _ _ _ _ _ => True) (fun _ U_ ou_ V_ => ∃ v_ L_, ou_ = .returned v_ ∧ QrmGC_2_1 Z qq h0 n0 v_ V_.heap L_ ∧ FrameEnd U_ ou_ V_ L_ ({ frames := 0, cells := 0, slots := 0, locals := 0 } : Room).cells ({ frames := 0, cells := 0, slots := 0, locals := 0 } : Room).slots) := by
  refine MetFree.of_bodySF (plainFor_of_name own_pn28) hisR ?_
  intro p e s m args below meth c s₁ Bd hml0 hP hK
  obtain ⟨rfl, hZ, hh⟩ := hP
  have hx := Bd.exec
  have hby := Bd.bytes
  have hml : c.maxLocals = 2 := hml0
  have hown : s.vm.findClass "java/lang/StringUTF16" = some m.cls := findClass_of_methodNamed Bd.named
  have hnm := (name_of_methodNamed Bd.named Bd.method).1
  have X0 : Stand p l e ({ frames := 0, cells := 0, slots := 0, locals := 0 } : Room) s m #[(.ref ab), (.int 1)] below meth c s₁ [] 0 0 := Stand.of_body Bd
  have e0 : s₁.heap = h0 := by rw [← hh, Bd.state]; rfl
  have N0 := Fr.nil n0
  refine own_go (A := s₁.setTop (mkF m 0 #[.val (.ref ab), .val (.int 1)] [])) (fun _ kz => castTop (own_ef28 m ab (1 : Int32)) kz) ?_
  obtain ⟨T1, X1, e1, st1⟩ := getS2 X0 hx hZ hown (host := "") (Or.inl (own_w hw 148 rfl)) Via.refl e0 S_ad (g := (mkF m 0 #[.val (.ref ab), .val (.int 1)] [])) rfl (hb hby d28_0)
  refine own_go (A := T1.setTop (mkF m 3 #[.val (.ref ab), .val (.int 1)] [(.int 1)])) (fun _ kz => st1 _ kz) ?_
  refine own_go (A := T1.setTop (mkF m 37 #[.val (.ref ab), .val (.int 3)] [(.int 2), (.ref ab)])) (fun _ kz => ?_) ?_
  · refine XS.ifYes X1.here hx rfl (pc0 := 3) (pc' := 28) rfl (hb hby d28_3) rfl ((if0 _ _).trans (feq (by decide : ¬ ((1 : Int32) = (0 : Int32)))).2) (by decide) (by decide) ?_
    refine XS.iloadN X1.here hx rfl (hb hby d28_28) rfl ?_
    refine XS.iconst X1.here hx rfl (hb hby d28_29) ?_
    refine XS.ishl X1.here hx rfl (hb hby d28_30) rfl ?_
    show Steps p.tables e below (T1.setTop (mkF m 31 #[.val (.ref ab), .val (.int 1)] [(.int 2)])) _
    refine XS.istoreN X1.here hx rfl (hb hby d28_31) rfl (l' := #[.val (.ref ab), .val (.int 2)]) rfl ?_
    refine XS.aloadN X1.here hx rfl (hb hby d28_32) rfl rfl ?_
    refine XS.iloadN X1.here hx rfl (hb hby d28_33) rfl ?_
    refine XS.iinc X1.here hx rfl (hb hby d28_34) rfl (l' := #[.val (.ref ab), .val (.int 3)]) rfl ?_
    exact kz
  obtain ⟨cl2, Ar2, -, S2, M2, H2, -⟩ := id Ab
  have hin2 : ¬ ((2 : Int32) < 0 ∨ cl2.slots.size ≤ ((2 : Int32)).toNatClampNeg) := inb_of S2 ⟨by decide, by decide⟩
  have hat2 : cl2.slots[((2 : Int32)).toNatClampNeg]? = some (.int (own_l qq)) := H2.at hin2 rfl
  refine own_go (A := T1.setTop (mkF m 38 #[.val (.ref ab), .val (.int 3)] [(.int (own_l qq))])) (fun _ kz => ?_) ?_
  · refine X1.baloadBytes hx (j := (2 : Int32)) (v := (.int (own_l qq))) (by rw [e1]; exact Ar2.1) (State.isArrayOf_alike hZ.alike Ar2.2.1) Ar2.2.2 hin2 hat2 (g := (mkF m 37 #[.val (.ref ab), .val (.int 3)] [(.int 2), (.ref ab)])) rfl rfl (hb hby d28_37) _ ?_
    exact kz
  refine own_go (A := T1.setTop (mkF m 42 #[.val (.ref ab), .val (.int 3)] [(.int ((own_l qq) &&& (255 : Int32)))])) (fun _ kz => ?_) ?_
  · refine XS.sipush X1.here hx rfl (hb hby d28_38) ?_
    refine XS.iand X1.here hx rfl (hb hby d28_41) rfl ?_
    exact kz
  obtain ⟨T3, X3, e3, st3⟩ := getS2 X1 hx hZ hown (host := "") (Or.inl (own_w hw 149 rfl)) Via.refl e1 S_hi (g := (mkF m 42 #[.val (.ref ab), .val (.int 3)] [(.int ((own_l qq) &&& (255 : Int32)))])) rfl (hb hby d28_42)
  refine own_go (A := T3.setTop (mkF m 45 #[.val (.ref ab), .val (.int 3)] [(.int 0), (.int ((own_l qq) &&& (255 : Int32)))])) (fun _ kz => st3 _ kz) ?_
  refine own_go (A := T3.setTop (mkF m 48 #[.val (.ref ab), .val (.int 3)] [(.int 3), (.ref ab), (.int (((own_l qq) &&& (255 : Int32)) <<< ((0 : Int32) &&& 31)))])) (fun _ kz => ?_) ?_
  · refine XS.ishl X3.here hx rfl (hb hby d28_45) rfl ?_
    refine XS.aloadN X3.here hx rfl (hb hby d28_46) rfl rfl ?_
    refine XS.iloadN X3.here hx rfl (hb hby d28_47) rfl ?_
    exact kz
  obtain ⟨cl4, Ar4, -, S4, M4, H4, -⟩ := id Ab
  have hin4 : ¬ ((3 : Int32) < 0 ∨ cl4.slots.size ≤ ((3 : Int32)).toNatClampNeg) := inb_of S4 ⟨by decide, by decide⟩
  have hat4 : cl4.slots[((3 : Int32)).toNatClampNeg]? = some (.int (own_h qq)) := H4.at hin4 rfl
  refine own_go (A := T3.setTop (mkF m 49 #[.val (.ref ab), .val (.int 3)] [(.int (own_h qq)), (.int (((own_l qq) &&& (255 : Int32)) <<< ((0 : Int32) &&& 31)))])) (fun _ kz => ?_) ?_
  · refine X3.baloadBytes hx (j := (3 : Int32)) (v := (.int (own_h qq))) (by rw [e3]; exact Ar4.1) (State.isArrayOf_alike hZ.alike Ar4.2.1) Ar4.2.2 hin4 hat4 (g := (mkF m 48 #[.val (.ref ab), .val (.int 3)] [(.int 3), (.ref ab), (.int (((own_l qq) &&& (255 : Int32)) <<< ((0 : Int32) &&& 31)))])) rfl rfl (hb hby d28_48) _ ?_
    exact kz
  refine own_go (A := T3.setTop (mkF m 53 #[.val (.ref ab), .val (.int 3)] [(.int ((own_h qq) &&& (255 : Int32))), (.int (((own_l qq) &&& (255 : Int32)) <<< ((0 : Int32) &&& 31)))])) (fun _ kz => ?_) ?_
  · refine XS.sipush X3.here hx rfl (hb hby d28_49) ?_
    refine XS.iand X3.here hx rfl (hb hby d28_52) rfl ?_
    exact kz
  obtain ⟨T5, X5, e5, st5⟩ := getS2 X3 hx hZ hown (host := "") (Or.inl (own_w hw 150 rfl)) Via.refl e3 S_lo (g := (mkF m 53 #[.val (.ref ab), .val (.int 3)] [(.int ((own_h qq) &&& (255 : Int32))), (.int (((own_l qq) &&& (255 : Int32)) <<< ((0 : Int32) &&& 31)))])) rfl (hb hby d28_53)
  refine own_go (A := T5.setTop (mkF m 56 #[.val (.ref ab), .val (.int 3)] [(.int 8), (.int ((own_h qq) &&& (255 : Int32))), (.int (((own_l qq) &&& (255 : Int32)) <<< ((0 : Int32) &&& 31)))])) (fun _ kz => st5 _ kz) ?_
  refine own_go (A := T5.setTop (mkF m 59 #[.val (.ref ab), .val (.int 3)] [(.int (((((own_l qq) &&& (255 : Int32)) <<< ((0 : Int32) &&& 31)) ||| (((own_h qq) &&& (255 : Int32)) <<< ((8 : Int32) &&& 31))).toUInt32.toUInt16.toUInt32.toInt32))])) (fun _ kz => ?_) ?_
  · refine XS.ishl X5.here hx rfl (hb hby d28_56) rfl ?_
    refine XS.ior X5.here hx rfl (hb hby d28_57) rfl ?_
    refine XS.i2c X5.here hx rfl (hb hby d28_58) rfl ?_
    exact kz
  obtain ⟨fs, hrr, hrun, hended, hW, hsame⟩ := X5.leave (v := some (.int (nar .char (((((own_l qq) &&& (255 : Int32)) <<< ((0 : Int32) &&& 31)) ||| (((own_h qq) &&& (255 : Int32)) <<< ((8 : Int32) &&& 31))).toUInt32.toUInt16.toUInt32.toInt32)))) (fun h => by rw [Bd.returns] at h; cases h)
  refine ⟨_, _, ?_, hrun, hended, _, _, rfl, ?_, ⟨_, rfl⟩, hW, hsame.mono (by decide) (by decide)⟩
  · show Steps p.tables e below (T5.setTop (mkF m 59 #[.val (.ref ab), .val (.int 3)] [(.int (((((own_l qq) &&& (255 : Int32)) <<< ((0 : Int32) &&& 31)) ||| (((own_h qq) &&& (255 : Int32)) <<< ((8 : Int32) &&& 31))).toUInt32.toUInt16.toUInt32.toInt32))])) _
    exact retN X5 hx (t := .char) Bd.returns (by simp) (hb hby d28_59) hrr
  · show QrmGC_2_1 Z qq h0 n0 _ T5.heap _
    rw [e5]
    exact ⟨congrArg (fun z => some (Value.int z)) (own_pair qq hq.1 hq.2), N0, rfl⟩
def QrmCo_2 (Z : State) (ch0 : Int32) (ch1 : Int32) (h0 : Heap) (n0 : Nat) (v : Option Value) (h : Heap) (L : List Loc) : Prop := ∃ (b : Addr) (kc : ClassId), v = some (.ref b) ∧ Fr n0 L ∧ h0.size ≤ b ∧ Keep h0 h [] ∧ ((((255 : Int32) < ch0 ∨ (255 : Int32) < ch1) ∧ Arv Z h b kc .byte (4 : Int32) [(.int (own_l ch0)), (.int (own_h ch0)), (.int (own_l ch1)), (.int (own_h ch1))] (.int 0)) ∨ (¬ (255 : Int32) < ch0 ∧ ¬ (255 : Int32) < ch1 ∧ Arv Z h b kc .byte (2 : Int32) [(.int (ch0.toInt8.toInt32)), (.int (ch1.toInt8.toInt32))] (.int 0)))
set_option maxRecDepth 65536 in
set_option maxHeartbeats 40000000 in
theorem rmCo_2 (l : Launch) (Z : State) (a0 : Array Value) (hw : ∀ d ∈ tables_1, d.before a0 Z = true) (ws : List Jvm.Cond) (ar : Addr) (ka : ClassId) (ch0 ch1 : Int32) (h0 : Heap) (n0 : Nat) (Z0 : n0 ≤ h0.size) (Aa : Arv Z h0 ar ka .char (2 : Int32) [(.int ch0), (.int ch1)] (.int 0)) (hp0 : ¬ ch0 < 0 ∧ ¬ (65535 : Int32) < ch0) (hp1 : ¬ ch1 < 0 ∧ ¬ (65535 : Int32) < ch1) (S_ad : Sta Z h0 "java/lang/StringUTF16" "$assertionsDisabled" "Z" (.int 1)) (S_hi : Sta Z h0 "java/lang/StringUTF16" "HI_BYTE_SHIFT" "I" (.int 0)) (S_lo : Sta Z h0 "java/lang/StringUTF16" "LO_BYTE_SHIFT" "I" (.int 8)) :
    MetFree l (⟨"java/lang/StringUTF16", "compress", "([CII)[B"⟩ : MethodName) (head1 (Jvm.Cond.code (⟨"java/lang/StringUTF16", "compress", "([CII)[B"⟩ : MethodName) jdk_52_method_16_code 6 (some (.array .byte)) :: ws) ({ frames := 3, cells := 2, slots := 6, locals := 40 } : Room)) (fun ar_ U_ => ar_ = #[(.ref ar), (.int 0), (.int 2)] ∧ Z.Warmed39 U_.vm ∧ U_.heap = h0) (fun _ _ _ _ _ => True) (fun _ U_ ou_ V_ => ∃ v_ L_, ou_ = .returned v_ ∧ QrmCo_2 Z ch0 ch1 h0 n0 v_ V_.heap L_ ∧ FrameEnd U_ ou_ V_ L_ ({ frames := 3, cells := 2, slots := 6, locals := 40 } : Room).cells ({ frames := 3, cells := 2, slots := 6, locals := 40 } : Room).slots) := by
  refine MetFree.of_bodySF (plainFor_of_name own_pn5) hisR ?_
  intro p e s m args below meth c s₁ Bd hml0 hP hK
  obtain ⟨rfl, hZ, hh⟩ := hP
  have hx := Bd.exec
  have hby := Bd.bytes
  have hml : c.maxLocals = 6 := hml0
  have hown : s.vm.findClass "java/lang/StringUTF16" = some m.cls := findClass_of_methodNamed Bd.named
  have hnm := (name_of_methodNamed Bd.named Bd.method).1
  have X0 : Stand p l e ({ frames := 3, cells := 2, slots := 6, locals := 40 } : Room) s m #[(.ref ar), (.int 0), (.int 2)] below meth c s₁ [] 0 0 := Stand.of_body Bd
  have e0 : s₁.heap = h0 := by rw [← hh, Bd.state]; rfl
  have N0 := Fr.nil n0
  have Kp0 : Keep h0 h0 [] := Keep.refl h0 _
  refine own_go (A := s₁.setTop (mkF m 0 #[.val (.ref ar), .val (.int 0), .val (.int 2), .unset, .unset, .unset] [])) (fun _ kz => castTop (own_ef5 m ar (0 : Int32) (2 : Int32)) kz) ?_
  refine own_go (A := s₁.setTop (mkF m 1 #[.val (.ref ar), .val (.int 0), .val (.int 2), .unset, .unset, .unset] [(.int 2)])) (fun _ kz => ?_) ?_
  · refine XS.iloadN X0.here hx rfl (hb hby d5_0) rfl ?_
    exact kz
  obtain ⟨T1, h1, k1, X1, e1, E1, A1, st1⟩ := newP X0 hx hZ (own_w hw 24 rfl) e0 (g := (mkF m 1 #[.val (.ref ar), .val (.int 0), .val (.int 2), .unset, .unset, .unset] [(.int 2)])) rfl (hb hby d5_1) rfl (by decide) (cap := 2) (by decide) (by decide) (by decide) (by decide)
  obtain ⟨b1, gq1⟩ : ∃ z, z = h0.size := ⟨_, rfl⟩
  rw [← gq1] at A1 st1
  have g_b1 : n0 ≤ b1 := Nat.le_trans Z0 (Nat.le_of_eq gq1.symm)
  have ne_ar_b1 : ar ≠ b1 := Nat.ne_of_lt (Nat.lt_of_lt_of_le Aa.lt (Nat.le_of_eq gq1.symm))
  have szk_b1 : h0.size ≤ b1 := Nat.le_trans Kp0.1 (Nat.le_of_eq gq1.symm)
  replace S_ad := S_ad.ext E1
  replace S_hi := S_hi.ext E1
  replace S_lo := S_lo.ext E1
  replace Aa := Aa.ext E1
  have Z1 : n0 ≤ h1.size := Nat.le_trans Z0 E1.1
  have Kp1 : Keep h0 h1 [] := Kp0.ext E1
  have Av_b1 : Arv Z h1 b1 k1 .byte (2 : Int32) [(.int 0), (.int 0)] (.int 0) := (Arv.new A1 (by decide)).pad (pad_rep [] (.int 0) 2)
  refine own_go (A := T1.setTop (mkF m 3 #[.val (.ref ar), .val (.int 0), .val (.int 2), .unset, .unset, .unset] [(.ref b1)])) (fun _ kz => st1 _ kz) ?_
  refine own_go (A := T1.setTop (mkF m 9 #[.val (.ref ar), .val (.int 0), .val (.int 2), .val (.ref b1), .unset, .unset] [(.int 2), (.int 0), (.ref b1), (.int 0), (.ref ar)])) (fun _ kz => ?_) ?_
  · refine XS.astoreN X1.here hx rfl (hb hby d5_3) rfl rfl (l' := #[.val (.ref ar), .val (.int 0), .val (.int 2), .val (.ref b1), .unset, .unset]) rfl ?_
    refine XS.aloadN X1.here hx rfl (hb hby d5_4) rfl rfl ?_
    refine XS.iloadN X1.here hx rfl (hb hby d5_5) rfl ?_
    refine XS.aloadN X1.here hx rfl (hb hby d5_6) rfl rfl ?_
    refine XS.iconst X1.here hx rfl (hb hby d5_7) ?_
    refine XS.iloadN X1.here hx rfl (hb hby d5_8) rfl ?_
    exact kz
  by_cases q0 : (255 : Int32) < ch0
  · skip
    obtain ⟨_, _, ⟨T2, L2, k2, n2⟩, -, X2, ⟨Lc2, hQ2, l2, y2, z2⟩, st2⟩ := Jvm.LawKit.callS X1 hx (y := (⟨"java/lang/StringUTF16", "compress", "([CI[BII)I"⟩ : MethodName)) hown (mvT hZ (own_w hw 25 rfl)) (mvT hZ (own_w hw 26 rfl)) (mvT hZ (own_w hw 22 rfl)) (mvT hZ (own_w hw 27 rfl)) (by decide) (backOf (W := 0) (rmCi_2_0 l Z a0 hw [] ar b1 ka k1 ch0 ch1 h1 n0 Z1 Aa Av_b1 ne_ar_b1 g_b1  q0) hZ (own_w hw 27 rfl) (own_w hw 22 rfl) (by decide) (by decide)) (g := (mkF m 9 #[.val (.ref ar), .val (.int 0), .val (.int 2), .val (.ref b1), .unset, .unset] [(.int 2), (.int 0), (.ref b1), (.int 0), (.ref ar)])) rfl (by rw [hml]; rfl) (argsL := [(.ref ar), (.int 0), (.ref b1), (.int 0), (.int 2)]) (rest := []) (lenOf own_pd3 rfl) rfl (by show 2 * 0 + _ ≤ _; exact Nat.le_of_eq rfl) (hb hby d5_9) (fun _ _ => ⟨rfl, e1, (by decide : 1 + 0 ≤ _), (by decide : 2 + 0 ≤ _)⟩)
    dsimp only [Pt.U, Pt.locs, Pt.cells, Pt.slots] at X2 l2 y2 z2 st2 hQ2
    subst l2 y2 z2
    obtain ⟨rfl, N2q, K2q⟩ := hQ2
    have N2 := Fr.app N0 N2q
    replace S_ad := own_staKeep S_ad K2q (allS (own_nsA Av_b1) all0)
    replace S_hi := own_staKeep S_hi K2q (allS (own_nsA Av_b1) all0)
    replace S_lo := own_staKeep S_lo K2q (allS (own_nsA Av_b1) all0)
    replace Aa := Aa.keep K2q (ninS ne_ar_b1 nin0)
    have Z2 : n0 ≤ T2.heap.size := Nat.le_trans Z1 K2q.1
    have Kp2 : Keep h0 T2.heap [] := Kp1.trans K2q (allS (Or.inr szk_b1) (all0))
    refine own_go (A := T2.setTop (mkF m 12 #[.val (.ref ar), .val (.int 0), .val (.int 2), .val (.ref b1), .unset, .unset] [(.int 0)])) (fun _ kz => st2 _ kz) ?_
    refine own_go (A := T2.setTop (mkF m 23 #[.val (.ref ar), .val (.int 0), .val (.int 2), .val (.ref b1), .val (.int 0), .unset] [(.int 2), (.int 0), (.ref ar)])) (fun _ kz => ?_) ?_
    · refine XS.istore X2.here hx rfl (hb hby d5_12) rfl (l' := #[.val (.ref ar), .val (.int 0), .val (.int 2), .val (.ref b1), .val (.int 0), .unset]) rfl ?_
      refine XS.iload X2.here hx rfl (hb hby d5_14) rfl ?_
      refine XS.iloadN X2.here hx rfl (hb hby d5_16) rfl ?_
      refine XS.icmpNo X2.here hx rfl (hb hby d5_17) rfl (feq (by decide : ¬ ((0 : Int32) = (2 : Int32)))).1 ?_
      refine XS.aloadN X2.here hx rfl (hb hby d5_20) rfl rfl ?_
      refine XS.iloadN X2.here hx rfl (hb hby d5_21) rfl ?_
      refine XS.iloadN X2.here hx rfl (hb hby d5_22) rfl ?_
      exact kz
    obtain ⟨_, _, ⟨T3, L3, k3, n3⟩, -, X3, ⟨Lc3, hQ3, l3, y3, z3⟩, st3⟩ := Jvm.LawKit.callS X2 hx (y := (⟨"java/lang/StringUTF16", "toBytes", "([CII)[B"⟩ : MethodName)) hown (mvT hZ (own_w hw 135 rfl)) (mvT hZ (own_w hw 136 rfl)) (mvT hZ (own_w hw 22 rfl)) (mvT hZ (own_w hw 137 rfl)) (by decide) (backOf (W := 0) (rmTB_2 l Z a0 hw [] ar ka ch0 ch1 T2.heap n0 Z2 Aa S_ad S_hi S_lo) hZ (own_w hw 137 rfl) (own_w hw 22 rfl) (by decide) (by decide)) (g := (mkF m 23 #[.val (.ref ar), .val (.int 0), .val (.int 2), .val (.ref b1), .val (.int 0), .unset] [(.int 2), (.int 0), (.ref ar)])) rfl (by rw [hml]; rfl) (argsL := [(.ref ar), (.int 0), (.int 2)]) (rest := []) (lenOf own_pd4 rfl) rfl (by show 2 * 0 + _ ≤ _; exact Nat.le_of_eq rfl) (hb hby d5_23) (fun _ _ => ⟨rfl, rfl, (by decide : 1 + 1 ≤ _), (by decide : 2 + 4 ≤ _)⟩)
    dsimp only [Pt.U, Pt.locs, Pt.cells, Pt.slots] at X3 l3 y3 z3 st3 hQ3
    subst l3 y3 z3
    obtain ⟨c3, kc3, rfl, N3q, zc3, K3q, Av3⟩ := hQ3
    have N3 := Fr.app N2 N3q
    have ne_ar_c3 : ar ≠ c3 := Nat.ne_of_lt (Nat.lt_of_lt_of_le Aa.lt zc3)
    have g_c3 : n0 ≤ c3 := Nat.le_trans Z2 zc3
    have szk_c3 : h0.size ≤ c3 := Nat.le_trans Kp2.1 zc3
    replace S_ad := own_staKeep S_ad K3q all0
    replace S_hi := own_staKeep S_hi K3q all0
    replace S_lo := own_staKeep S_lo K3q all0
    replace Aa := Aa.keep K3q nin0
    have Z3 : n0 ≤ T3.heap.size := Nat.le_trans Z2 K3q.1
    have Kp3 : Keep h0 T3.heap [] := Kp2.trans K3q (all0)
    refine own_go (A := T3.setTop (mkF m 26 #[.val (.ref ar), .val (.int 0), .val (.int 2), .val (.ref b1), .val (.int 0), .unset] [(.ref c3)])) (fun _ kz => st3 _ kz) ?_
    refine own_go (A := T3.setTop (mkF m 32 #[.val (.ref ar), .val (.int 0), .val (.int 2), .val (.ref b1), .val (.int 0), .val (.ref c3)] [(.int 0), (.ref c3)])) (fun _ kz => ?_) ?_
    · refine XS.astore X3.here hx rfl (hb hby d5_26) rfl rfl (l' := #[.val (.ref ar), .val (.int 0), .val (.int 2), .val (.ref b1), .val (.int 0), .val (.ref c3)]) rfl ?_
      refine XS.aload X3.here hx rfl (hb hby d5_28) rfl rfl ?_
      refine XS.iload X3.here hx rfl (hb hby d5_30) rfl ?_
      exact kz
    obtain ⟨_, _, ⟨T4, L4, k4, n4⟩, -, X4, ⟨Lc4, hQ4, l4, y4, z4⟩, st4⟩ := Jvm.LawKit.callS X3 hx (y := (⟨"java/lang/StringUTF16", "getChar", "([BI)C"⟩ : MethodName)) hown (mvT hZ (own_w hw 151 rfl)) (mvT hZ (own_w hw 152 rfl)) (mvT hZ (own_w hw 22 rfl)) (mvT hZ (own_w hw 153 rfl)) (by decide) (backOf (W := 0) (rmGC_2_0 l Z a0 hw [] c3 kc3 ch0 (.int (own_l ch1)) (.int (own_h ch1)) T3.heap n0 Z3 Av3 hp0 S_ad S_hi S_lo) hZ (own_w hw 153 rfl) (own_w hw 22 rfl) (by decide) (by decide)) (g := (mkF m 32 #[.val (.ref ar), .val (.int 0), .val (.int 2), .val (.ref b1), .val (.int 0), .val (.ref c3)] [(.int 0), (.ref c3)])) rfl (by rw [hml]; rfl) (argsL := [(.ref c3), (.int 0)]) (rest := []) (lenOf own_pd5 rfl) rfl (by show 2 * 0 + _ ≤ _; exact Nat.le_of_eq rfl) (hb hby d5_32) (fun _ _ => ⟨rfl, rfl, (by decide : 2 + 0 ≤ _), (by decide : 6 + 0 ≤ _)⟩)
    dsimp only [Pt.U, Pt.locs, Pt.cells, Pt.slots] at X4 l4 y4 z4 st4 hQ4
    subst l4 y4 z4
    obtain ⟨rfl, N4q, e4⟩ := hQ4
    have N4 := Fr.app N3 N4q
    refine own_go (A := T4.setTop (mkF m 35 #[.val (.ref ar), .val (.int 0), .val (.int 2), .val (.ref b1), .val (.int 0), .val (.ref c3)] [(.int ch0)])) (fun _ kz => st4 _ kz) ?_
    refine own_go (A := T4.setTop (mkF m 56 #[.val (.ref ar), .val (.int 0), .val (.int 2), .val (.ref b1), .val (.int 0), .val (.ref c3)] [(.ref c3)])) (fun _ kz => ?_) ?_
    · refine XS.sipush X4.here hx rfl (hb hby d5_35) ?_
      refine XS.icmpYes X4.here hx rfl (pc0 := 38) (pc' := 54) rfl (hb hby d5_38) rfl (tlt q0).2.2.1 (by decide) (by decide) ?_
      refine XS.aload X4.here hx rfl (hb hby d5_54) rfl rfl ?_
      exact kz
    obtain ⟨fs, hrr, hrun, hended, hW, hsame⟩ := X4.leave (v := some (.ref c3)) (fun h => by rw [Bd.returns] at h; cases h)
    refine ⟨_, _, ?_, hrun, hended, _, _, rfl, ?_, ⟨_, rfl⟩, hW, hsame.mono (by decide) (by decide)⟩
    · show Steps p.tables e below (T4.setTop (mkF m 56 #[.val (.ref ar), .val (.int 0), .val (.int 2), .val (.ref b1), .val (.int 0), .val (.ref c3)] [(.ref c3)])) _
      exact retOut X4 hx (t := (.array .byte)) Bd.returns rfl (Or.inr (Or.inr (Or.inr (Or.inr ⟨rfl, rfl, rfl⟩)))) (hb hby d5_56) hrr
    · show QrmCo_2 Z ch0 ch1 h0 n0 _ T4.heap _
      rw [e4]
      exact ⟨c3, kc3, rfl, N4, szk_c3, Kp3, Or.inl ⟨Or.inl q0, Av3⟩⟩
  · skip
    by_cases q1 : (255 : Int32) < ch1
    · skip
      obtain ⟨_, _, ⟨T5, L5, k5, n5⟩, -, X5, ⟨Lc5, hQ5, l5, y5, z5⟩, st5⟩ := Jvm.LawKit.callS X1 hx (y := (⟨"java/lang/StringUTF16", "compress", "([CI[BII)I"⟩ : MethodName)) hown (mvT hZ (own_w hw 25 rfl)) (mvT hZ (own_w hw 26 rfl)) (mvT hZ (own_w hw 22 rfl)) (mvT hZ (own_w hw 27 rfl)) (by decide) (backOf (W := 0) (rmCi_2_1 l Z a0 hw [] ar b1 ka k1 ch0 ch1 h1 n0 Z1 Aa Av_b1 ne_ar_b1 g_b1 q0 q1) hZ (own_w hw 27 rfl) (own_w hw 22 rfl) (by decide) (by decide)) (g := (mkF m 9 #[.val (.ref ar), .val (.int 0), .val (.int 2), .val (.ref b1), .unset, .unset] [(.int 2), (.int 0), (.ref b1), (.int 0), (.ref ar)])) rfl (by rw [hml]; rfl) (argsL := [(.ref ar), (.int 0), (.ref b1), (.int 0), (.int 2)]) (rest := []) (lenOf own_pd3 rfl) rfl (by show 2 * 0 + _ ≤ _; exact Nat.le_of_eq rfl) (hb hby d5_9) (fun _ _ => ⟨rfl, e1, (by decide : 1 + 0 ≤ _), (by decide : 2 + 0 ≤ _)⟩)
      dsimp only [Pt.U, Pt.locs, Pt.cells, Pt.slots] at X5 l5 y5 z5 st5 hQ5
      subst l5 y5 z5
      obtain ⟨rfl, N5q, K5q⟩ := hQ5
      have N5 := Fr.app N0 N5q
      replace S_ad := own_staKeep S_ad K5q (allS (own_nsA Av_b1) all0)
      replace S_hi := own_staKeep S_hi K5q (allS (own_nsA Av_b1) all0)
      replace S_lo := own_staKeep S_lo K5q (allS (own_nsA Av_b1) all0)
      replace Aa := Aa.keep K5q (ninS ne_ar_b1 nin0)
      have Z5 : n0 ≤ T5.heap.size := Nat.le_trans Z1 K5q.1
      have Kp5 : Keep h0 T5.heap [] := Kp1.trans K5q (allS (Or.inr szk_b1) (all0))
      refine own_go (A := T5.setTop (mkF m 12 #[.val (.ref ar), .val (.int 0), .val (.int 2), .val (.ref b1), .unset, .unset] [(.int 1)])) (fun _ kz => st5 _ kz) ?_
      refine own_go (A := T5.setTop (mkF m 23 #[.val (.ref ar), .val (.int 0), .val (.int 2), .val (.ref b1), .val (.int 1), .unset] [(.int 2), (.int 0), (.ref ar)])) (fun _ kz => ?_) ?_
      · refine XS.istore X5.here hx rfl (hb hby d5_12) rfl (l' := #[.val (.ref ar), .val (.int 0), .val (.int 2), .val (.ref b1), .val (.int 1), .unset]) rfl ?_
        refine XS.iload X5.here hx rfl (hb hby d5_14) rfl ?_
        refine XS.iloadN X5.here hx rfl (hb hby d5_16) rfl ?_
        refine XS.icmpNo X5.here hx rfl (hb hby d5_17) rfl (feq (by decide : ¬ ((1 : Int32) = (2 : Int32)))).1 ?_
        refine XS.aloadN X5.here hx rfl (hb hby d5_20) rfl rfl ?_
        refine XS.iloadN X5.here hx rfl (hb hby d5_21) rfl ?_
        refine XS.iloadN X5.here hx rfl (hb hby d5_22) rfl ?_
        exact kz
      obtain ⟨_, _, ⟨T6, L6, k6, n6⟩, -, X6, ⟨Lc6, hQ6, l6, y6, z6⟩, st6⟩ := Jvm.LawKit.callS X5 hx (y := (⟨"java/lang/StringUTF16", "toBytes", "([CII)[B"⟩ : MethodName)) hown (mvT hZ (own_w hw 135 rfl)) (mvT hZ (own_w hw 136 rfl)) (mvT hZ (own_w hw 22 rfl)) (mvT hZ (own_w hw 137 rfl)) (by decide) (backOf (W := 0) (rmTB_2 l Z a0 hw [] ar ka ch0 ch1 T5.heap n0 Z5 Aa S_ad S_hi S_lo) hZ (own_w hw 137 rfl) (own_w hw 22 rfl) (by decide) (by decide)) (g := (mkF m 23 #[.val (.ref ar), .val (.int 0), .val (.int 2), .val (.ref b1), .val (.int 1), .unset] [(.int 2), (.int 0), (.ref ar)])) rfl (by rw [hml]; rfl) (argsL := [(.ref ar), (.int 0), (.int 2)]) (rest := []) (lenOf own_pd4 rfl) rfl (by show 2 * 0 + _ ≤ _; exact Nat.le_of_eq rfl) (hb hby d5_23) (fun _ _ => ⟨rfl, rfl, (by decide : 1 + 1 ≤ _), (by decide : 2 + 4 ≤ _)⟩)
      dsimp only [Pt.U, Pt.locs, Pt.cells, Pt.slots] at X6 l6 y6 z6 st6 hQ6
      subst l6 y6 z6
      obtain ⟨c6, kc6, rfl, N6q, zc6, K6q, Av6⟩ := hQ6
      have N6 := Fr.app N5 N6q
      have ne_ar_c6 : ar ≠ c6 := Nat.ne_of_lt (Nat.lt_of_lt_of_le Aa.lt zc6)
      have g_c6 : n0 ≤ c6 := Nat.le_trans Z5 zc6
      have szk_c6 : h0.size ≤ c6 := Nat.le_trans Kp5.1 zc6
      replace S_ad := own_staKeep S_ad K6q all0
      replace S_hi := own_staKeep S_hi K6q all0
      replace S_lo := own_staKeep S_lo K6q all0
      replace Aa := Aa.keep K6q nin0
      have Z6 : n0 ≤ T6.heap.size := Nat.le_trans Z5 K6q.1
      have Kp6 : Keep h0 T6.heap [] := Kp5.trans K6q (all0)
      refine own_go (A := T6.setTop (mkF m 26 #[.val (.ref ar), .val (.int 0), .val (.int 2), .val (.ref b1), .val (.int 1), .unset] [(.ref c6)])) (fun _ kz => st6 _ kz) ?_
      refine own_go (A := T6.setTop (mkF m 32 #[.val (.ref ar), .val (.int 0), .val (.int 2), .val (.ref b1), .val (.int 1), .val (.ref c6)] [(.int 1), (.ref c6)])) (fun _ kz => ?_) ?_
      · refine XS.astore X6.here hx rfl (hb hby d5_26) rfl rfl (l' := #[.val (.ref ar), .val (.int 0), .val (.int 2), .val (.ref b1), .val (.int 1), .val (.ref c6)]) rfl ?_
        refine XS.aload X6.here hx rfl (hb hby d5_28) rfl rfl ?_
        refine XS.iload X6.here hx rfl (hb hby d5_30) rfl ?_
        exact kz
      obtain ⟨_, _, ⟨T7, L7, k7, n7⟩, -, X7, ⟨Lc7, hQ7, l7, y7, z7⟩, st7⟩ := Jvm.LawKit.callS X6 hx (y := (⟨"java/lang/StringUTF16", "getChar", "([BI)C"⟩ : MethodName)) hown (mvT hZ (own_w hw 151 rfl)) (mvT hZ (own_w hw 152 rfl)) (mvT hZ (own_w hw 22 rfl)) (mvT hZ (own_w hw 153 rfl)) (by decide) (backOf (W := 0) (rmGC_2_1 l Z a0 hw [] c6 kc6 ch1 (.int (own_l ch0)) (.int (own_h ch0)) T6.heap n0 Z6 Av6 hp1 S_ad S_hi S_lo) hZ (own_w hw 153 rfl) (own_w hw 22 rfl) (by decide) (by decide)) (g := (mkF m 32 #[.val (.ref ar), .val (.int 0), .val (.int 2), .val (.ref b1), .val (.int 1), .val (.ref c6)] [(.int 1), (.ref c6)])) rfl (by rw [hml]; rfl) (argsL := [(.ref c6), (.int 1)]) (rest := []) (lenOf own_pd5 rfl) rfl (by show 2 * 0 + _ ≤ _; exact Nat.le_of_eq rfl) (hb hby d5_32) (fun _ _ => ⟨rfl, rfl, (by decide : 2 + 0 ≤ _), (by decide : 6 + 0 ≤ _)⟩)
      dsimp only [Pt.U, Pt.locs, Pt.cells, Pt.slots] at X7 l7 y7 z7 st7 hQ7
      subst l7 y7 z7
      obtain ⟨rfl, N7q, e7⟩ := hQ7
      have N7 := Fr.app N6 N7q
      refine own_go (A := T7.setTop (mkF m 35 #[.val (.ref ar), .val (.int 0), .val (.int 2), .val (.ref b1), .val (.int 1), .val (.ref c6)] [(.int ch1)])) (fun _ kz => st7 _ kz) ?_
      refine own_go (A := T7.setTop (mkF m 56 #[.val (.ref ar), .val (.int 0), .val (.int 2), .val (.ref b1), .val (.int 1), .val (.ref c6)] [(.ref c6)])) (fun _ kz => ?_) ?_
      · refine XS.sipush X7.here hx rfl (hb hby d5_35) ?_
        refine XS.icmpYes X7.here hx rfl (pc0 := 38) (pc' := 54) rfl (hb hby d5_38) rfl (tlt q1).2.2.1 (by decide) (by decide) ?_
        refine XS.aload X7.here hx rfl (hb hby d5_54) rfl rfl ?_
        exact kz
      obtain ⟨fs, hrr, hrun, hended, hW, hsame⟩ := X7.leave (v := some (.ref c6)) (fun h => by rw [Bd.returns] at h; cases h)
      refine ⟨_, _, ?_, hrun, hended, _, _, rfl, ?_, ⟨_, rfl⟩, hW, hsame.mono (by decide) (by decide)⟩
      · show Steps p.tables e below (T7.setTop (mkF m 56 #[.val (.ref ar), .val (.int 0), .val (.int 2), .val (.ref b1), .val (.int 1), .val (.ref c6)] [(.ref c6)])) _
        exact retOut X7 hx (t := (.array .byte)) Bd.returns rfl (Or.inr (Or.inr (Or.inr (Or.inr ⟨rfl, rfl, rfl⟩)))) (hb hby d5_56) hrr
      · show QrmCo_2 Z ch0 ch1 h0 n0 _ T7.heap _
        rw [e7]
        exact ⟨c6, kc6, rfl, N7, szk_c6, Kp6, Or.inl ⟨Or.inr (q1), Av6⟩⟩
    · skip
      obtain ⟨_, _, ⟨T8, L8, k8, n8⟩, -, X8, ⟨Lc8, hQ8, l8, y8, z8⟩, st8⟩ := Jvm.LawKit.callS X1 hx (y := (⟨"java/lang/StringUTF16", "compress", "([CI[BII)I"⟩ : MethodName)) hown (mvT hZ (own_w hw 25 rfl)) (mvT hZ (own_w hw 26 rfl)) (mvT hZ (own_w hw 22 rfl)) (mvT hZ (own_w hw 27 rfl)) (by decide) (backOf (W := 0) (rmCi_2_2 l Z a0 hw [] ar b1 ka k1 ch0 ch1 h1 n0 Z1 Aa Av_b1 ne_ar_b1 g_b1 q0 q1 ) hZ (own_w hw 27 rfl) (own_w hw 22 rfl) (by decide) (by decide)) (g := (mkF m 9 #[.val (.ref ar), .val (.int 0), .val (.int 2), .val (.ref b1), .unset, .unset] [(.int 2), (.int 0), (.ref b1), (.int 0), (.ref ar)])) rfl (by rw [hml]; rfl) (argsL := [(.ref ar), (.int 0), (.ref b1), (.int 0), (.int 2)]) (rest := []) (lenOf own_pd3 rfl) rfl (by show 2 * 0 + _ ≤ _; exact Nat.le_of_eq rfl) (hb hby d5_9) (fun _ _ => ⟨rfl, e1, (by decide : 1 + 0 ≤ _), (by decide : 2 + 0 ≤ _)⟩)
      dsimp only [Pt.U, Pt.locs, Pt.cells, Pt.slots] at X8 l8 y8 z8 st8 hQ8
      subst l8 y8 z8
      obtain ⟨rfl, N8q, K8q, Av8⟩ := hQ8
      have N8 := Fr.app N0 N8q
      replace S_ad := own_staKeep S_ad K8q (allS (own_nsA Av_b1) all0)
      replace S_hi := own_staKeep S_hi K8q (allS (own_nsA Av_b1) all0)
      replace S_lo := own_staKeep S_lo K8q (allS (own_nsA Av_b1) all0)
      replace Aa := Aa.keep K8q (ninS ne_ar_b1 nin0)
      have Z8 : n0 ≤ T8.heap.size := Nat.le_trans Z1 K8q.1
      have Kp8 : Keep h0 T8.heap [] := Kp1.trans K8q (allS (Or.inr szk_b1) (all0))
      refine own_go (A := T8.setTop (mkF m 12 #[.val (.ref ar), .val (.int 0), .val (.int 2), .val (.ref b1), .unset, .unset] [(.int 2)])) (fun _ kz => st8 _ kz) ?_
      refine own_go (A := T8.setTop (mkF m 58 #[.val (.ref ar), .val (.int 0), .val (.int 2), .val (.ref b1), .val (.int 2), .unset] [(.ref b1)])) (fun _ kz => ?_) ?_
      · refine XS.istore X8.here hx rfl (hb hby d5_12) rfl (l' := #[.val (.ref ar), .val (.int 0), .val (.int 2), .val (.ref b1), .val (.int 2), .unset]) rfl ?_
        refine XS.iload X8.here hx rfl (hb hby d5_14) rfl ?_
        refine XS.iloadN X8.here hx rfl (hb hby d5_16) rfl ?_
        refine XS.icmpYes X8.here hx rfl (pc0 := 17) (pc' := 57) rfl (hb hby d5_17) rfl (teq (by decide : ((2 : Int32) = (2 : Int32)))).1 (by decide) (by decide) ?_
        refine XS.aloadN X8.here hx rfl (hb hby d5_57) rfl rfl ?_
        exact kz
      obtain ⟨fs, hrr, hrun, hended, hW, hsame⟩ := X8.leave (v := some (.ref b1)) (fun h => by rw [Bd.returns] at h; cases h)
      refine ⟨_, _, ?_, hrun, hended, _, _, rfl, ?_, ⟨_, rfl⟩, hW, hsame.mono (by decide) (by decide)⟩
      · show Steps p.tables e below (T8.setTop (mkF m 58 #[.val (.ref ar), .val (.int 0), .val (.int 2), .val (.ref b1), .val (.int 2), .unset] [(.ref b1)])) _
        exact retOut X8 hx (t := (.array .byte)) Bd.returns rfl (Or.inr (Or.inr (Or.inr (Or.inr ⟨rfl, rfl, rfl⟩)))) (hb hby d5_58) hrr
      · show QrmCo_2 Z ch0 ch1 h0 n0 _ T8.heap _
        exact ⟨b1, k1, rfl, N8, szk_b1, Kp8, Or.inr ⟨q0, q1, Av8⟩⟩
def QrmCF_W_2 (Z : State)  (h0 : Heap) (n0 : Nat) (v : Option Value) (h : Heap) (L : List Loc) : Prop := v = some (.int 1) ∧ Fr n0 L ∧ h = h0
set_option maxRecDepth 65536 in
set_option maxHeartbeats 40000000 in
theorem rmCF_W_2 (l : Launch) (Z : State) (a0 : Array Value) (hw : ∀ d ∈ tables_1, d.before a0 Z = true) (ws : List Jvm.Cond) (ab : Addr) (kb : ClassId) (w0 w1 w2 w3 : Value) (h0 : Heap) (n0 : Nat) (Z0 : n0 ≤ h0.size) (Ab : Arv Z h0 ab kb .byte (4 : Int32) [w0, w1, w2, w3] (.int 0)) :
    MetFree l (⟨"java/lang/StringUTF16", "coderFromArrayLen", "([BI)B"⟩ : MethodName) (head1 (Jvm.Cond.code (⟨"java/lang/StringUTF16", "coderFromArrayLen", "([BI)B"⟩ : MethodName) jdk_52_method_15_code 2 (some .byte) :: ws) ({ frames := 0, cells := 0, slots := 0, locals := 0 } : Room)) (fun ar_ U_ => ar_ = #[(.ref ab), (.int 2)] ∧ Z.Warmed39 U_.vm ∧ U_.heap = h0) (fun _ _ _ _ _ => True) (fun _ U_ ou_ V_ => ∃ v_ L_, ou_ = .returned v_ ∧ QrmCF_W_2 Z  h0 n0 v_ V_.heap L_ ∧ FrameEnd U_ ou_ V_ L_ ({ frames := 0, cells := 0, slots := 0, locals := 0 } : Room).cells ({ frames := 0, cells := 0, slots := 0, locals := 0 } : Room).slots) := by
  refine MetFree.of_bodySF (plainFor_of_name own_pn7) hisR ?_
  intro p e s m args below meth c s₁ Bd hml0 hP hK
  obtain ⟨rfl, hZ, hh⟩ := hP
  have hx := Bd.exec
  have hby := Bd.bytes
  have hml : c.maxLocals = 2 := hml0
  have hown : s.vm.findClass "java/lang/StringUTF16" = some m.cls := findClass_of_methodNamed Bd.named
  have hnm := (name_of_methodNamed Bd.named Bd.method).1
  have X0 : Stand p l e ({ frames := 0, cells := 0, slots := 0, locals := 0 } : Room) s m #[(.ref ab), (.int 2)] below meth c s₁ [] 0 0 := Stand.of_body Bd
  have e0 : s₁.heap = h0 := by rw [← hh, Bd.state]; rfl
  have N0 := Fr.nil n0
  refine own_go (A := s₁.setTop (mkF m 0 #[.val (.ref ab), .val (.int 2)] [])) (fun _ kz => castTop (own_ef7 m ab (2 : Int32)) kz) ?_
  refine own_go (A := s₁.setTop (mkF m 2 #[.val (.ref ab), .val (.int 2)] [(.ref ab), (.int 2)])) (fun _ kz => ?_) ?_
  · refine XS.iloadN X0.here hx rfl (hb hby d7_0) rfl ?_
    refine XS.aloadN X0.here hx rfl (hb hby d7_1) rfl rfl ?_
    exact kz
  obtain ⟨cl1, Ar1, -, S1, M1, -, -⟩ := id Ab
  refine own_go (A := s₁.setTop (mkF m 3 #[.val (.ref ab), .val (.int 2)] [(.int 4), (.int 2)])) (fun _ kz => ?_) ?_
  · refine X0.arraylength hx (by rw [e0]; exact Ar1.1) (State.isArrayOf_alike hZ.alike Ar1.2.1) (g := (mkF m 2 #[.val (.ref ab), .val (.int 2)] [(.ref ab), (.int 2)])) rfl rfl (hb hby d7_2) _ ?_
    rw [len_of S1 M1]
    exact kz
  refine own_go (A := s₁.setTop (mkF m 8 #[.val (.ref ab), .val (.int 2)] [(.int 1)])) (fun _ kz => ?_) ?_
  · refine XS.isub X0.here hx rfl (hb hby d7_3) rfl ?_
    show Steps p.tables e below (s₁.setTop (mkF m 4 #[.val (.ref ab), .val (.int 2)] [(.int (-2))])) _
    refine XS.bipush X0.here hx rfl (hb hby d7_4) ?_
    refine XS.iushr X0.here hx rfl (hb hby d7_6) rfl ?_
    show Steps p.tables e below (s₁.setTop (mkF m 7 #[.val (.ref ab), .val (.int 2)] [(.int 1)])) _
    refine XS.i2b X0.here hx rfl (hb hby d7_7) rfl ?_
    exact kz
  obtain ⟨fs, hrr, hrun, hended, hW, hsame⟩ := X0.leave (v := some (.int 1)) (fun h => by rw [Bd.returns] at h; cases h)
  refine ⟨_, _, ?_, hrun, hended, _, _, rfl, ?_, ⟨_, rfl⟩, hW, hsame.mono (by decide) (by decide)⟩
  · show Steps p.tables e below (s₁.setTop (mkF m 8 #[.val (.ref ab), .val (.int 2)] [(.int 1)])) _
    exact retN X0 hx (t := .byte) Bd.returns (by simp) (hb hby d7_8) hrr
  · show QrmCF_W_2 Z  h0 n0 _ s₁.heap _
    rw [e0]
    exact ⟨rfl, N0, rfl⟩
def QrmCF_L_2 (Z : State)  (h0 : Heap) (n0 : Nat) (v : Option Value) (h : Heap) (L : List Loc) : Prop := v = some (.int 0) ∧ Fr n0 L ∧ h = h0
set_option maxRecDepth 65536 in
set_option maxHeartbeats 40000000 in
theorem rmCF_L_2 (l : Launch) (Z : State) (a0 : Array Value) (hw : ∀ d ∈ tables_1, d.before a0 Z = true) (ws : List Jvm.Cond) (ab : Addr) (kb : ClassId) (w0 w1 : Value) (h0 : Heap) (n0 : Nat) (Z0 : n0 ≤ h0.size) (Ab : Arv Z h0 ab kb .byte (2 : Int32) [w0, w1] (.int 0)) :
    MetFree l (⟨"java/lang/StringUTF16", "coderFromArrayLen", "([BI)B"⟩ : MethodName) (head1 (Jvm.Cond.code (⟨"java/lang/StringUTF16", "coderFromArrayLen", "([BI)B"⟩ : MethodName) jdk_52_method_15_code 2 (some .byte) :: ws) ({ frames := 0, cells := 0, slots := 0, locals := 0 } : Room)) (fun ar_ U_ => ar_ = #[(.ref ab), (.int 2)] ∧ Z.Warmed39 U_.vm ∧ U_.heap = h0) (fun _ _ _ _ _ => True) (fun _ U_ ou_ V_ => ∃ v_ L_, ou_ = .returned v_ ∧ QrmCF_L_2 Z  h0 n0 v_ V_.heap L_ ∧ FrameEnd U_ ou_ V_ L_ ({ frames := 0, cells := 0, slots := 0, locals := 0 } : Room).cells ({ frames := 0, cells := 0, slots := 0, locals := 0 } : Room).slots) := by
  refine MetFree.of_bodySF (plainFor_of_name own_pn7) hisR ?_
  intro p e s m args below meth c s₁ Bd hml0 hP hK
  obtain ⟨rfl, hZ, hh⟩ := hP
  have hx := Bd.exec
  have hby := Bd.bytes
  have hml : c.maxLocals = 2 := hml0
  have hown : s.vm.findClass "java/lang/StringUTF16" = some m.cls := findClass_of_methodNamed Bd.named
  have hnm := (name_of_methodNamed Bd.named Bd.method).1
  have X0 : Stand p l e ({ frames := 0, cells := 0, slots := 0, locals := 0 } : Room) s m #[(.ref ab), (.int 2)] below meth c s₁ [] 0 0 := Stand.of_body Bd
  have e0 : s₁.heap = h0 := by rw [← hh, Bd.state]; rfl
  have N0 := Fr.nil n0
  refine own_go (A := s₁.setTop (mkF m 0 #[.val (.ref ab), .val (.int 2)] [])) (fun _ kz => castTop (own_ef7 m ab (2 : Int32)) kz) ?_
  refine own_go (A := s₁.setTop (mkF m 2 #[.val (.ref ab), .val (.int 2)] [(.ref ab), (.int 2)])) (fun _ kz => ?_) ?_
  · refine XS.iloadN X0.here hx rfl (hb hby d7_0) rfl ?_
    refine XS.aloadN X0.here hx rfl (hb hby d7_1) rfl rfl ?_
    exact kz
  obtain ⟨cl1, Ar1, -, S1, M1, -, -⟩ := id Ab
  refine own_go (A := s₁.setTop (mkF m 3 #[.val (.ref ab), .val (.int 2)] [(.int 2), (.int 2)])) (fun _ kz => ?_) ?_
  · refine X0.arraylength hx (by rw [e0]; exact Ar1.1) (State.isArrayOf_alike hZ.alike Ar1.2.1) (g := (mkF m 2 #[.val (.ref ab), .val (.int 2)] [(.ref ab), (.int 2)])) rfl rfl (hb hby d7_2) _ ?_
    rw [len_of S1 M1]
    exact kz
  refine own_go (A := s₁.setTop (mkF m 8 #[.val (.ref ab), .val (.int 2)] [(.int 0)])) (fun _ kz => ?_) ?_
  · refine XS.isub X0.here hx rfl (hb hby d7_3) rfl ?_
    show Steps p.tables e below (s₁.setTop (mkF m 4 #[.val (.ref ab), .val (.int 2)] [(.int 0)])) _
    refine XS.bipush X0.here hx rfl (hb hby d7_4) ?_
    refine XS.iushr X0.here hx rfl (hb hby d7_6) rfl ?_
    show Steps p.tables e below (s₁.setTop (mkF m 7 #[.val (.ref ab), .val (.int 2)] [(.int 0)])) _
    refine XS.i2b X0.here hx rfl (hb hby d7_7) rfl ?_
    exact kz
  obtain ⟨fs, hrr, hrun, hended, hW, hsame⟩ := X0.leave (v := some (.int 0)) (fun h => by rw [Bd.returns] at h; cases h)
  refine ⟨_, _, ?_, hrun, hended, _, _, rfl, ?_, ⟨_, rfl⟩, hW, hsame.mono (by decide) (by decide)⟩
  · show Steps p.tables e below (s₁.setTop (mkF m 8 #[.val (.ref ab), .val (.int 2)] [(.int 0)])) _
    exact retN X0 hx (t := .byte) Bd.returns (by simp) (hb hby d7_8) hrr
  · show QrmCF_L_2 Z  h0 n0 _ s₁.heap _
    rw [e0]
    exact ⟨rfl, N0, rfl⟩
def own_Str2 (Z : State) (h : Heap) (a : Addr) (ch0 ch1 : Int32) : Prop := ∃ (t : Addr) (kt : ClassId), (((255 : Int32) < ch0 ∨ (255 : Int32) < ch1) ∧ Fld Z h a "java/lang/String" "value" "[B" (.ref t) ∧ Fld Z h a "java/lang/String" "coder" "B" (.int 1) ∧ Arv Z h t kt .byte (4 : Int32) [(.int (own_l ch0)), (.int (own_h ch0)), (.int (own_l ch1)), (.int (own_h ch1))] (.int 0)) ∨ (¬ (255 : Int32) < ch0 ∧ ¬ (255 : Int32) < ch1 ∧ Fld Z h a "java/lang/String" "value" "[B" (.ref t) ∧ Fld Z h a "java/lang/String" "coder" "B" (.int 0) ∧ Arv Z h t kt .byte (2 : Int32) [(.int (ch0.toInt8.toInt32)), (.int (ch1.toInt8.toInt32))] (.int 0))
theorem own_Str2.keep {Z : State} {h h' : Heap} {a : Addr} {ch0 ch1 : Int32} (F : own_Str2 Z h a ch0 ch1) (K : Keep h h' []) (_ : a ∉ ([] : List Addr)) : own_Str2 Z h' a ch0 ch1 := by
  obtain ⟨t, kt, ⟨q, v1, v2, v3⟩ | ⟨q0, q1, v1, v2, v3⟩⟩ := F
  · exact ⟨t, kt, Or.inl ⟨q, v1.keep K nin0, v2.keep K nin0, v3.keep K nin0⟩⟩
  · exact ⟨t, kt, Or.inr ⟨q0, q1, v1.keep K nin0, v2.keep K nin0, v3.keep K nin0⟩⟩
def QrmI3_2 (Z : State) (a : Addr) (ch0 : Int32) (ch1 : Int32) (h0 : Heap) (n0 : Nat) (v : Option Value) (h : Heap) (L : List Loc) : Prop := v = none ∧ Fr n0 L ∧ Keep h0 h [a] ∧ Exa Z h a "java/lang/String" ∧ own_Str2 Z h a ch0 ch1
set_option maxRecDepth 65536 in
set_option maxHeartbeats 40000000 in
theorem rmI3_2 (l : Launch) (Z : State) (a0 : Array Value) (hw : ∀ d ∈ tables_1, d.before a0 Z = true) (ws : List Jvm.Cond) (a ar : Addr) (ka : ClassId) (ch0 ch1 cs : Int32) (h0 : Heap) (n0 : Nat) (Z0 : n0 ≤ h0.size) (Ex : Exa Z h0 a "java/lang/String") (Fv : Fld Z h0 a "java/lang/String" "value" "[B" .null) (Fc : Fld Z h0 a "java/lang/String" "coder" "B" (.int 0)) (g_a : n0 ≤ a) (Aa : Arv Z h0 ar ka .char (2 : Int32) [(.int ch0), (.int ch1)] (.int 0)) (hp0 : ¬ ch0 < 0 ∧ ¬ (65535 : Int32) < ch0) (hp1 : ¬ ch1 < 0 ∧ ¬ (65535 : Int32) < ch1) (hcs : ¬ (cs = (0 : Int32))) (S_cs : Sta Z h0 "java/lang/String" "COMPACT_STRINGS" "Z" (.int cs)) (S_ad : Sta Z h0 "java/lang/StringUTF16" "$assertionsDisabled" "Z" (.int 1)) (S_hi : Sta Z h0 "java/lang/StringUTF16" "HI_BYTE_SHIFT" "I" (.int 0)) (S_lo : Sta Z h0 "java/lang/StringUTF16" "LO_BYTE_SHIFT" "I" (.int 8)) :
    MetFree l (⟨"java/lang/String", "<init>", "([CIILjava/lang/Void;)V"⟩ : MethodName) (head1 (Jvm.Cond.code (⟨"java/lang/String", "<init>", "([CIILjava/lang/Void;)V"⟩ : MethodName) jdk_42_method_149_code 6 none :: ws) ({ frames := 4, cells := 2, slots := 6, locals := 57 } : Room)) (fun ar_ U_ => ar_ = #[(.ref a), (.ref ar), (.int 0), (.int 2), .null] ∧ Z.Warmed39 U_.vm ∧ U_.heap = h0) (fun _ _ _ _ _ => True) (fun _ U_ ou_ V_ => ∃ v_ L_, ou_ = .returned v_ ∧ QrmI3_2 Z a ch0 ch1 h0 n0 v_ V_.heap L_ ∧ FrameEnd U_ ou_ V_ L_ ({ frames := 4, cells := 2, slots := 6, locals := 57 } : Room).cells ({ frames := 4, cells := 2, slots := 6, locals := 57 } : Room).slots) := by
  refine MetFree.of_bodySF (plainFor_of_name own_pn3) hisR ?_
  intro p e s m args below meth c s₁ Bd hml0 hP hK
  obtain ⟨rfl, hZ, hh⟩ := hP
  have hx := Bd.exec
  have hby := Bd.bytes
  have hml : c.maxLocals = 6 := hml0
  have hown : s.vm.findClass "java/lang/String" = some m.cls := findClass_of_methodNamed Bd.named
  have hnm := (name_of_methodNamed Bd.named Bd.method).1
  have X0 : Stand p l e ({ frames := 4, cells := 2, slots := 6, locals := 57 } : Room) s m #[(.ref a), (.ref ar), (.int 0), (.int 2), .null] below meth c s₁ [] 0 0 := Stand.of_body Bd
  have e0 : s₁.heap = h0 := by rw [← hh, Bd.state]; rfl
  have N0 := Fr.nil n0
  have Kp0 : Keep h0 h0 [a] := Keep.refl h0 _
  refine own_go (A := s₁.setTop (mkF m 0 #[.val (.ref a), .val (.ref ar), .val (.int 0), .val (.int 2), .val .null, .unset] [])) (fun _ kz => castTop (own_ef3 m a ar (0 : Int32) (2 : Int32)) kz) ?_
  refine own_go (A := s₁.setTop (mkF m 1 #[.val (.ref a), .val (.ref ar), .val (.int 0), .val (.int 2), .val .null, .unset] [(.ref a)])) (fun _ kz => ?_) ?_
  · refine XS.aloadN X0.here hx rfl (hb hby d3_0) rfl rfl ?_
    exact kz
  obtain ⟨T1, X1, e1, st1⟩ := initO X0 hx hZ hown (own_w hw 16 rfl) (own_w hw 17 rfl) (own_w hw 18 rfl) e0 (g := (mkF m 1 #[.val (.ref a), .val (.ref ar), .val (.int 0), .val (.int 2), .val .null, .unset] [(.ref a)])) rfl (by rw [hml]; rfl) rfl (hb hby d3_1) (by decide) (W := 0) (by show 2 * 0 + _ ≤ _; exact Nat.le_of_eq rfl) (by decide)
  refine own_go (A := T1.setTop (mkF m 4 #[.val (.ref a), .val (.ref ar), .val (.int 0), .val (.int 2), .val .null, .unset] [])) (fun _ kz => st1 _ kz) ?_
  refine own_go (A := T1.setTop (mkF m 27 #[.val (.ref a), .val (.ref ar), .val (.int 0), .val (.int 2), .val .null, .unset] [])) (fun _ kz => ?_) ?_
  · refine XS.iloadN X1.here hx rfl (hb hby d3_4) rfl ?_
    refine XS.ifYes X1.here hx rfl (pc0 := 5) (pc' := 27) rfl (hb hby d3_5) rfl ((if0 _ _).trans (feq (by decide : ¬ ((2 : Int32) = (0 : Int32)))).2) (by decide) (by decide) ?_
    exact kz
  obtain ⟨T2, X2, e2, st2⟩ := getS2 X1 hx hZ hown (host := "") (Or.inl (own_w hw 19 rfl)) Via.refl e1 S_cs (g := (mkF m 27 #[.val (.ref a), .val (.ref ar), .val (.int 0), .val (.int 2), .val .null, .unset] [])) rfl (hb hby d3_27)
  refine own_go (A := T2.setTop (mkF m 30 #[.val (.ref a), .val (.ref ar), .val (.int 0), .val (.int 2), .val .null, .unset] [(.int cs)])) (fun _ kz => st2 _ kz) ?_
  refine own_go (A := T2.setTop (mkF m 36 #[.val (.ref a), .val (.ref ar), .val (.int 0), .val (.int 2), .val .null, .unset] [(.int 2), (.int 0), (.ref ar)])) (fun _ kz => ?_) ?_
  · refine XS.ifNo X2.here hx rfl (hb hby d3_30) rfl ((if0 _ _).trans (feq hcs).1) ?_
    refine XS.aloadN X2.here hx rfl (hb hby d3_33) rfl rfl ?_
    refine XS.iloadN X2.here hx rfl (hb hby d3_34) rfl ?_
    refine XS.iloadN X2.here hx rfl (hb hby d3_35) rfl ?_
    exact kz
  obtain ⟨_, _, ⟨T3, L3, k3, n3⟩, -, X3, ⟨Lc3, hQ3, l3, y3, z3⟩, st3⟩ := Jvm.LawKit.callS X2 hx (y := (⟨"java/lang/StringUTF16", "compress", "([CII)[B"⟩ : MethodName)) hown (mvT hZ (own_w hw 20 rfl)) (mvT hZ (own_w hw 21 rfl)) (mvT hZ (own_w hw 22 rfl)) (mvT hZ (own_w hw 23 rfl)) (by decide) (backOf (W := 0) (rmCo_2 l Z a0 hw [] ar ka ch0 ch1 h0 n0 Z0 Aa hp0 hp1 S_ad S_hi S_lo) hZ (own_w hw 23 rfl) (own_w hw 22 rfl) (by decide) (by decide)) (g := (mkF m 36 #[.val (.ref a), .val (.ref ar), .val (.int 0), .val (.int 2), .val .null, .unset] [(.int 2), (.int 0), (.ref ar)])) rfl (by rw [hml]; rfl) (argsL := [(.ref ar), (.int 0), (.int 2)]) (rest := []) (lenOf own_pd4 rfl) rfl (by show 2 * 0 + _ ≤ _; exact Nat.le_of_eq rfl) (hb hby d3_36) (fun _ _ => ⟨rfl, e2, (by decide : 0 + 2 ≤ _), (by decide : 0 + 6 ≤ _)⟩)
  dsimp only [Pt.U, Pt.locs, Pt.cells, Pt.slots] at X3 l3 y3 z3 st3 hQ3
  subst l3 y3 z3
  obtain ⟨c3, kc, rfl, N3q, zc3, K3q, Dq⟩ := hQ3
  have N3 := Fr.app N0 N3q
  have ne_a_c3 : a ≠ c3 := Nat.ne_of_lt (Nat.lt_of_lt_of_le Ex.lt zc3)
  have g_c3 : n0 ≤ c3 := Nat.le_trans Z0 zc3
  have szk_c3 : h0.size ≤ c3 := Nat.le_trans Kp0.1 zc3
  replace S_cs := own_staKeep S_cs K3q all0
  replace S_ad := own_staKeep S_ad K3q all0
  replace S_hi := own_staKeep S_hi K3q all0
  replace S_lo := own_staKeep S_lo K3q all0
  replace Ex := Ex.keep K3q
  replace Fv := Fv.keep K3q nin0
  replace Fc := Fc.keep K3q nin0
  have Z3 : n0 ≤ T3.heap.size := Nat.le_trans Z0 K3q.1
  have Kp3 : Keep h0 T3.heap [a] := Kp0.trans K3q (all0)
  refine own_go (A := T3.setTop (mkF m 39 #[.val (.ref a), .val (.ref ar), .val (.int 0), .val (.int 2), .val .null, .unset] [(.ref c3)])) (fun _ kz => st3 _ kz) ?_
  rcases Dq with ⟨hwd, At⟩ | ⟨hl0, hl1, At⟩
  · skip
    refine own_go (A := T3.setTop (mkF m 45 #[.val (.ref a), .val (.ref ar), .val (.int 0), .val (.int 2), .val .null, .val (.ref c3)] [(.int 2), (.ref c3), (.ref a)])) (fun _ kz => ?_) ?_
    · refine XS.astore X3.here hx rfl (hb hby d3_39) rfl rfl (l' := #[.val (.ref a), .val (.ref ar), .val (.int 0), .val (.int 2), .val .null, .val (.ref c3)]) rfl ?_
      refine XS.aloadN X3.here hx rfl (hb hby d3_41) rfl rfl ?_
      refine XS.aload X3.here hx rfl (hb hby d3_42) rfl rfl ?_
      refine XS.iloadN X3.here hx rfl (hb hby d3_44) rfl ?_
      exact kz
    obtain ⟨_, _, ⟨T4, L4, k4, n4⟩, -, X4, ⟨Lc4, hQ4, l4, y4, z4⟩, st4⟩ := Jvm.LawKit.callS X3 hx (y := (⟨"java/lang/StringUTF16", "coderFromArrayLen", "([BI)B"⟩ : MethodName)) hown (mvT hZ (own_w hw 28 rfl)) (mvT hZ (own_w hw 29 rfl)) (mvT hZ (own_w hw 22 rfl)) (mvT hZ (own_w hw 30 rfl)) (by decide) (backOf (W := 1) (rmCF_W_2 l Z a0 hw [] c3 kc (.int (own_l ch0)) (.int (own_h ch0)) (.int (own_l ch1)) (.int (own_h ch1)) T3.heap n0 Z3 At) hZ (own_w hw 30 rfl) (own_w hw 22 rfl) (by decide) (by decide)) (g := (mkF m 45 #[.val (.ref a), .val (.ref ar), .val (.int 0), .val (.int 2), .val .null, .val (.ref c3)] [(.int 2), (.ref c3), (.ref a)])) rfl (by rw [hml]; rfl) (argsL := [(.ref c3), (.int 2)]) (rest := [(.ref a)]) (lenOf own_pd6 rfl) rfl (by show 2 * 0 + _ ≤ _; exact Nat.le_of_eq rfl) (hb hby d3_45) (fun _ _ => ⟨rfl, rfl, (by decide : 2 + 0 ≤ _), (by decide : 6 + 0 ≤ _)⟩)
    dsimp only [Pt.U, Pt.locs, Pt.cells, Pt.slots] at X4 l4 y4 z4 st4 hQ4
    subst l4 y4 z4
    obtain ⟨rfl, N4q, e4⟩ := hQ4
    have N4 := Fr.app N3 N4q
    refine own_go (A := T4.setTop (mkF m 48 #[.val (.ref a), .val (.ref ar), .val (.int 0), .val (.int 2), .val .null, .val (.ref c3)] [(.int 1), (.ref a)])) (fun _ kz => st4 _ kz) ?_
    obtain ⟨T5, h5, X5, e5, W5, st5⟩ := putFN X4 hx hZ hown (own_w hw 31 rfl) Via.refl e4 Fc Ex (Or.inr ⟨(own_w hw 32 rfl), rfl, hnm⟩) (own_w hw 6 rfl) (ty := .byte) (v' := (.int 1)) (by decide) rfl (by first | exact fits_nar_byte _ | decide) (g := (mkF m 48 #[.val (.ref a), .val (.ref ar), .val (.int 0), .val (.int 2), .val .null, .val (.ref c3)] [(.int 1), (.ref a)])) rfl rfl (hb hby d3_48)
    have Fw5 := Fc.same W5
    replace S_cs := S_cs.wr W5
    replace S_ad := S_ad.wr W5
    replace S_hi := S_hi.wr W5
    replace S_lo := S_lo.wr W5
    replace Ex := Ex.wr W5
    replace Fv := Fv.other W5 (Or.inr (slot_ne (Or.inr (own_w hw 34 rfl)) (Or.inr (own_w hw 32 rfl)) (by decide) (t := (.array .byte)) (t' := .byte) (by decide) (by decide)))
    replace At := At.other W5 (Ne.symm ne_a_c3)
    have Z5 : n0 ≤ h5.size := Nat.le_trans Z3 (Keep.of_wr W5).1
    have Kp5 : Keep h0 h5 [a] := Kp3.wr W5 (Or.inl (List.mem_of_getElem? (i := 0) rfl))
    have F_coder_a := Fw5
    have N5 := Fr.snoc X5 N4 g_a
    refine own_go (A := T5.setTop (mkF m 51 #[.val (.ref a), .val (.ref ar), .val (.int 0), .val (.int 2), .val .null, .val (.ref c3)] [])) (fun _ kz => st5 _ kz) ?_
    refine own_go (A := T5.setTop (mkF m 54 #[.val (.ref a), .val (.ref ar), .val (.int 0), .val (.int 2), .val .null, .val (.ref c3)] [(.ref c3), (.ref a)])) (fun _ kz => ?_) ?_
    · refine XS.aloadN X5.here hx rfl (hb hby d3_51) rfl rfl ?_
      refine XS.aload X5.here hx rfl (hb hby d3_52) rfl rfl ?_
      exact kz
    obtain ⟨T6, h6, X6, e6, W6, st6⟩ := putF X5 hx hZ hown (host := "") (Or.inl (own_w hw 33 rfl)) Via.refl e5 Fv Ex (Or.inr ⟨(own_w hw 34 rfl), rfl, hnm⟩) (own_w hw 6 rfl) (ty := (.array .byte)) (by decide) rfl rfl (g := (mkF m 54 #[.val (.ref a), .val (.ref ar), .val (.int 0), .val (.int 2), .val .null, .val (.ref c3)] [(.ref c3), (.ref a)])) rfl rfl (hb hby d3_54)
    have Fw6 := Fv.same W6
    replace S_cs := S_cs.wr W6
    replace S_ad := S_ad.wr W6
    replace S_hi := S_hi.wr W6
    replace S_lo := S_lo.wr W6
    replace Ex := Ex.wr W6
    replace F_coder_a := F_coder_a.other W6 (Or.inr (slot_ne (Or.inr (own_w hw 32 rfl)) (Or.inr (own_w hw 34 rfl)) (by decide) (t := .byte) (t' := (.array .byte)) (by decide) (by decide)))
    replace At := At.other W6 (Ne.symm ne_a_c3)
    have Z6 : n0 ≤ h6.size := Nat.le_trans Z5 (Keep.of_wr W6).1
    have Kp6 : Keep h0 h6 [a] := Kp5.wr W6 (Or.inl (List.mem_of_getElem? (i := 0) rfl))
    have F_value_a := Fw6
    have N6 := Fr.snoc X6 N5 g_a
    refine own_go (A := T6.setTop (mkF m 57 #[.val (.ref a), .val (.ref ar), .val (.int 0), .val (.int 2), .val .null, .val (.ref c3)] [])) (fun _ kz => st6 _ kz) ?_
    obtain ⟨fs, hrr, hrun, hended, hW, hsame⟩ := X6.leave (v := none) (fun _ => rfl)
    refine ⟨_, _, ?_, hrun, hended, _, _, rfl, ?_, ⟨_, rfl⟩, hW, hsame.mono (by decide) (by decide)⟩
    · show Steps p.tables e below (T6.setTop (mkF m 57 #[.val (.ref a), .val (.ref ar), .val (.int 0), .val (.int 2), .val .null, .val (.ref c3)] [])) _
      exact X6.returnOut hx Bd.returns (hb hby d3_57) hrr
    · show QrmI3_2 Z a ch0 ch1 h0 n0 _ T6.heap _
      rw [e6]
      exact ⟨rfl, N6, Kp6, Ex, c3, kc, Or.inl ⟨hwd, F_value_a, F_coder_a, At⟩⟩
  · skip
    refine own_go (A := T3.setTop (mkF m 45 #[.val (.ref a), .val (.ref ar), .val (.int 0), .val (.int 2), .val .null, .val (.ref c3)] [(.int 2), (.ref c3), (.ref a)])) (fun _ kz => ?_) ?_
    · refine XS.astore X3.here hx rfl (hb hby d3_39) rfl rfl (l' := #[.val (.ref a), .val (.ref ar), .val (.int 0), .val (.int 2), .val .null, .val (.ref c3)]) rfl ?_
      refine XS.aloadN X3.here hx rfl (hb hby d3_41) rfl rfl ?_
      refine XS.aload X3.here hx rfl (hb hby d3_42) rfl rfl ?_
      refine XS.iloadN X3.here hx rfl (hb hby d3_44) rfl ?_
      exact kz
    obtain ⟨_, _, ⟨T7, L7, k7, n7⟩, -, X7, ⟨Lc7, hQ7, l7, y7, z7⟩, st7⟩ := Jvm.LawKit.callS X3 hx (y := (⟨"java/lang/StringUTF16", "coderFromArrayLen", "([BI)B"⟩ : MethodName)) hown (mvT hZ (own_w hw 28 rfl)) (mvT hZ (own_w hw 29 rfl)) (mvT hZ (own_w hw 22 rfl)) (mvT hZ (own_w hw 30 rfl)) (by decide) (backOf (W := 1) (rmCF_L_2 l Z a0 hw [] c3 kc (.int (ch0.toInt8.toInt32)) (.int (ch1.toInt8.toInt32)) T3.heap n0 Z3 At) hZ (own_w hw 30 rfl) (own_w hw 22 rfl) (by decide) (by decide)) (g := (mkF m 45 #[.val (.ref a), .val (.ref ar), .val (.int 0), .val (.int 2), .val .null, .val (.ref c3)] [(.int 2), (.ref c3), (.ref a)])) rfl (by rw [hml]; rfl) (argsL := [(.ref c3), (.int 2)]) (rest := [(.ref a)]) (lenOf own_pd6 rfl) rfl (by show 2 * 0 + _ ≤ _; exact Nat.le_of_eq rfl) (hb hby d3_45) (fun _ _ => ⟨rfl, rfl, (by decide : 2 + 0 ≤ _), (by decide : 6 + 0 ≤ _)⟩)
    dsimp only [Pt.U, Pt.locs, Pt.cells, Pt.slots] at X7 l7 y7 z7 st7 hQ7
    subst l7 y7 z7
    obtain ⟨rfl, N7q, e7⟩ := hQ7
    have N7 := Fr.app N3 N7q
    refine own_go (A := T7.setTop (mkF m 48 #[.val (.ref a), .val (.ref ar), .val (.int 0), .val (.int 2), .val .null, .val (.ref c3)] [(.int 0), (.ref a)])) (fun _ kz => st7 _ kz) ?_
    obtain ⟨T8, h8, X8, e8, W8, st8⟩ := putFN X7 hx hZ hown (own_w hw 31 rfl) Via.refl e7 Fc Ex (Or.inr ⟨(own_w hw 32 rfl), rfl, hnm⟩) (own_w hw 6 rfl) (ty := .byte) (v' := (.int 0)) (by decide) rfl (by first | exact fits_nar_byte _ | decide) (g := (mkF m 48 #[.val (.ref a), .val (.ref ar), .val (.int 0), .val (.int 2), .val .null, .val (.ref c3)] [(.int 0), (.ref a)])) rfl rfl (hb hby d3_48)
    have Fw8 := Fc.same W8
    replace S_cs := S_cs.wr W8
    replace S_ad := S_ad.wr W8
    replace S_hi := S_hi.wr W8
    replace S_lo := S_lo.wr W8
    replace Ex := Ex.wr W8
    replace Fv := Fv.other W8 (Or.inr (slot_ne (Or.inr (own_w hw 34 rfl)) (Or.inr (own_w hw 32 rfl)) (by decide) (t := (.array .byte)) (t' := .byte) (by decide) (by decide)))
    replace At := At.other W8 (Ne.symm ne_a_c3)
    have Z8 : n0 ≤ h8.size := Nat.le_trans Z3 (Keep.of_wr W8).1
    have Kp8 : Keep h0 h8 [a] := Kp3.wr W8 (Or.inl (List.mem_of_getElem? (i := 0) rfl))
    have F_coder_a := Fw8
    have N8 := Fr.snoc X8 N7 g_a
    refine own_go (A := T8.setTop (mkF m 51 #[.val (.ref a), .val (.ref ar), .val (.int 0), .val (.int 2), .val .null, .val (.ref c3)] [])) (fun _ kz => st8 _ kz) ?_
    refine own_go (A := T8.setTop (mkF m 54 #[.val (.ref a), .val (.ref ar), .val (.int 0), .val (.int 2), .val .null, .val (.ref c3)] [(.ref c3), (.ref a)])) (fun _ kz => ?_) ?_
    · refine XS.aloadN X8.here hx rfl (hb hby d3_51) rfl rfl ?_
      refine XS.aload X8.here hx rfl (hb hby d3_52) rfl rfl ?_
      exact kz
    obtain ⟨T9, h9, X9, e9, W9, st9⟩ := putF X8 hx hZ hown (host := "") (Or.inl (own_w hw 33 rfl)) Via.refl e8 Fv Ex (Or.inr ⟨(own_w hw 34 rfl), rfl, hnm⟩) (own_w hw 6 rfl) (ty := (.array .byte)) (by decide) rfl rfl (g := (mkF m 54 #[.val (.ref a), .val (.ref ar), .val (.int 0), .val (.int 2), .val .null, .val (.ref c3)] [(.ref c3), (.ref a)])) rfl rfl (hb hby d3_54)
    have Fw9 := Fv.same W9
    replace S_cs := S_cs.wr W9
    replace S_ad := S_ad.wr W9
    replace S_hi := S_hi.wr W9
    replace S_lo := S_lo.wr W9
    replace Ex := Ex.wr W9
    replace F_coder_a := F_coder_a.other W9 (Or.inr (slot_ne (Or.inr (own_w hw 32 rfl)) (Or.inr (own_w hw 34 rfl)) (by decide) (t := .byte) (t' := (.array .byte)) (by decide) (by decide)))
    replace At := At.other W9 (Ne.symm ne_a_c3)
    have Z9 : n0 ≤ h9.size := Nat.le_trans Z8 (Keep.of_wr W9).1
    have Kp9 : Keep h0 h9 [a] := Kp8.wr W9 (Or.inl (List.mem_of_getElem? (i := 0) rfl))
    have F_value_a := Fw9
    have N9 := Fr.snoc X9 N8 g_a
    refine own_go (A := T9.setTop (mkF m 57 #[.val (.ref a), .val (.ref ar), .val (.int 0), .val (.int 2), .val .null, .val (.ref c3)] [])) (fun _ kz => st9 _ kz) ?_
    obtain ⟨fs, hrr, hrun, hended, hW, hsame⟩ := X9.leave (v := none) (fun _ => rfl)
    refine ⟨_, _, ?_, hrun, hended, _, _, rfl, ?_, ⟨_, rfl⟩, hW, hsame.mono (by decide) (by decide)⟩
    · show Steps p.tables e below (T9.setTop (mkF m 57 #[.val (.ref a), .val (.ref ar), .val (.int 0), .val (.int 2), .val .null, .val (.ref c3)] [])) _
      exact X9.returnOut hx Bd.returns (hb hby d3_57) hrr
    · show QrmI3_2 Z a ch0 ch1 h0 n0 _ T9.heap _
      rw [e9]
      exact ⟨rfl, N9, Kp9, Ex, c3, kc, Or.inr ⟨hl0, hl1, F_value_a, F_coder_a, At⟩⟩
def QrmI1_2 (Z : State) (a : Addr) (ch0 : Int32) (ch1 : Int32) (h0 : Heap) (n0 : Nat) (v : Option Value) (h : Heap) (L : List Loc) : Prop := v = none ∧ Fr n0 L ∧ Keep h0 h [a] ∧ Exa Z h a "java/lang/String" ∧ own_Str2 Z h a ch0 ch1
set_option maxRecDepth 65536 in
set_option maxHeartbeats 40000000 in
theorem rmI1_2 (l : Launch) (Z : State) (a0 : Array Value) (hw : ∀ d ∈ tables_1, d.before a0 Z = true) (ws : List Jvm.Cond) (a ar : Addr) (ka : ClassId) (ch0 ch1 cs : Int32) (h0 : Heap) (n0 : Nat) (Z0 : n0 ≤ h0.size) (Ex : Exa Z h0 a "java/lang/String") (Fv : Fld Z h0 a "java/lang/String" "value" "[B" .null) (Fc : Fld Z h0 a "java/lang/String" "coder" "B" (.int 0)) (g_a : n0 ≤ a) (Aa : Arv Z h0 ar ka .char (2 : Int32) [(.int ch0), (.int ch1)] (.int 0)) (hp0 : ¬ ch0 < 0 ∧ ¬ (65535 : Int32) < ch0) (hp1 : ¬ ch1 < 0 ∧ ¬ (65535 : Int32) < ch1) (hcs : ¬ (cs = (0 : Int32))) (S_cs : Sta Z h0 "java/lang/String" "COMPACT_STRINGS" "Z" (.int cs)) (S_ad : Sta Z h0 "java/lang/StringUTF16" "$assertionsDisabled" "Z" (.int 1)) (S_hi : Sta Z h0 "java/lang/StringUTF16" "HI_BYTE_SHIFT" "I" (.int 0)) (S_lo : Sta Z h0 "java/lang/StringUTF16" "LO_BYTE_SHIFT" "I" (.int 8)) :
    MetFree l (⟨"java/lang/String", "<init>", "([C)V"⟩ : MethodName) (head1 (Jvm.Cond.code (⟨"java/lang/String", "<init>", "([C)V"⟩ : MethodName) jdk_42_method_3_code 2 none :: ws) ({ frames := 5, cells := 2, slots := 6, locals := 74 } : Room)) (fun ar_ U_ => ar_ = #[(.ref a), (.ref ar)] ∧ Z.Warmed39 U_.vm ∧ U_.heap = h0) (fun _ _ _ _ _ => True) (fun _ U_ ou_ V_ => ∃ v_ L_, ou_ = .returned v_ ∧ QrmI1_2 Z a ch0 ch1 h0 n0 v_ V_.heap L_ ∧ FrameEnd U_ ou_ V_ L_ ({ frames := 5, cells := 2, slots := 6, locals := 74 } : Room).cells ({ frames := 5, cells := 2, slots := 6, locals := 74 } : Room).slots) := by
  refine MetFree.of_bodySF (plainFor_of_name own_pn2) hisR ?_
  intro p e s m args below meth c s₁ Bd hml0 hP hK
  obtain ⟨rfl, hZ, hh⟩ := hP
  have hx := Bd.exec
  have hby := Bd.bytes
  have hml : c.maxLocals = 2 := hml0
  have hown : s.vm.findClass "java/lang/String" = some m.cls := findClass_of_methodNamed Bd.named
  have hnm := (name_of_methodNamed Bd.named Bd.method).1
  have X0 : Stand p l e ({ frames := 5, cells := 2, slots := 6, locals := 74 } : Room) s m #[(.ref a), (.ref ar)] below meth c s₁ [] 0 0 := Stand.of_body Bd
  have e0 : s₁.heap = h0 := by rw [← hh, Bd.state]; rfl
  have N0 := Fr.nil n0
  have Kp0 : Keep h0 h0 [a] := Keep.refl h0 _
  refine own_go (A := s₁.setTop (mkF m 0 #[.val (.ref a), .val (.ref ar)] [])) (fun _ kz => castTop (own_ef2 m a ar) kz) ?_
  refine own_go (A := s₁.setTop (mkF m 4 #[.val (.ref a), .val (.ref ar)] [(.ref ar), (.int 0), (.ref ar), (.ref a)])) (fun _ kz => ?_) ?_
  · refine XS.aloadN X0.here hx rfl (hb hby d2_0) rfl rfl ?_
    refine XS.aloadN X0.here hx rfl (hb hby d2_1) rfl rfl ?_
    refine XS.iconst X0.here hx rfl (hb hby d2_2) ?_
    refine XS.aloadN X0.here hx rfl (hb hby d2_3) rfl rfl ?_
    exact kz
  obtain ⟨cl1, Ar1, -, S1, M1, -, -⟩ := id Aa
  refine own_go (A := s₁.setTop (mkF m 5 #[.val (.ref a), .val (.ref ar)] [(.int 2), (.int 0), (.ref ar), (.ref a)])) (fun _ kz => ?_) ?_
  · refine X0.arraylength hx (by rw [e0]; exact Ar1.1) (State.isArrayOf_alike hZ.alike Ar1.2.1) (g := (mkF m 4 #[.val (.ref a), .val (.ref ar)] [(.ref ar), (.int 0), (.ref ar), (.ref a)])) rfl rfl (hb hby d2_4) _ ?_
    rw [len_of S1 M1]
    exact kz
  refine own_go (A := s₁.setTop (mkF m 6 #[.val (.ref a), .val (.ref ar)] [.null, (.int 2), (.int 0), (.ref ar), (.ref a)])) (fun _ kz => ?_) ?_
  · refine XS.aconstNull X0.here hx rfl (hb hby d2_5) ?_
    exact kz
  obtain ⟨_, _, ⟨T2, L2, k2, n2⟩, -, X2, ⟨Lc2, hQ2, l2, y2, z2⟩, st2⟩ := X0.specialBack hx (y := (⟨"java/lang/String", "<init>", "([CIILjava/lang/Void;)V"⟩ : MethodName)) rfl hown (mvT hZ (own_w hw 12 rfl)) (mvT hZ (own_w hw 13 rfl)) (mvT hZ (own_w hw 15 rfl)) (by decide) (backOf (W := 0) (rmI3_2 l Z a0 hw [] a ar ka ch0 ch1 cs h0 n0 Z0 Ex Fv Fc g_a Aa hp0 hp1 hcs S_cs S_ad S_hi S_lo) hZ (own_w hw 15 rfl) (own_w hw 7 rfl) (by decide) (by decide)) (g := (mkF m 6 #[.val (.ref a), .val (.ref ar)] [.null, (.int 2), (.int 0), (.ref ar), (.ref a)])) rfl (by rw [hml]; rfl) (Steps.refl _) (a := a) (argsL := [(.ref ar), (.int 0), (.int 2), .null]) (rest := []) (lenOf own_pd7 rfl) rfl (by show 2 * 0 + _ ≤ _; exact Nat.le_of_eq rfl) (hb hby d2_6) (fun _ _ => ⟨rfl, e0, (by decide : 0 + 2 ≤ _), (by decide : 0 + 6 ≤ _)⟩)
  dsimp only [Pt.U, Pt.locs, Pt.cells, Pt.slots] at X2 l2 y2 z2 st2 hQ2
  subst l2 y2 z2
  obtain ⟨rfl, N2q, K2q, _, Sq⟩ := hQ2
  have N2 := Fr.app N0 N2q
  replace S_cs := own_staKeep S_cs K2q (allS (own_ns Ex) all0)
  replace S_ad := own_staKeep S_ad K2q (allS (own_ns Ex) all0)
  replace S_hi := own_staKeep S_hi K2q (allS (own_ns Ex) all0)
  replace S_lo := own_staKeep S_lo K2q (allS (own_ns Ex) all0)
  replace Ex := Ex.keep K2q
  have Z2 : n0 ≤ T2.heap.size := Nat.le_trans Z0 K2q.1
  have Kp2 : Keep h0 T2.heap [a] := Kp0.trans K2q (allS (Or.inl (List.mem_of_getElem? (i := 0) rfl)) (all0))
  refine own_go (A := T2.setTop (mkF m 9 #[.val (.ref a), .val (.ref ar)] [])) (fun _ kz => st2.trans kz) ?_
  obtain ⟨fs, hrr, hrun, hended, hW, hsame⟩ := X2.leave (v := none) (fun _ => rfl)
  refine ⟨_, _, ?_, hrun, hended, _, _, rfl, ?_, ⟨_, rfl⟩, hW, hsame.mono (by decide) (by decide)⟩
  · show Steps p.tables e below (T2.setTop (mkF m 9 #[.val (.ref a), .val (.ref ar)] [])) _
    exact X2.returnOut hx Bd.returns (hb hby d2_9) hrr
  · show QrmI1_2 Z a ch0 ch1 h0 n0 _ T2.heap _
    exact ⟨rfl, N2, Kp2, Ex, Sq⟩
theorem d1_35 : decode method_3_code 35 = .ok (.iload_n 0, 1) := by decide +kernel
theorem d1_36 : decode method_3_code 36 = .ok (.iconst 2, 1) := by decide +kernel
theorem d1_37 : decode method_3_code 37 = .ok (.if_icmp .ne 22, 3) := by decide +kernel
theorem d1_40 : decode method_3_code 40 = .ok (.new 35, 3) := by decide +kernel
theorem d1_43 : decode method_3_code 43 = .ok (.dup, 1) := by decide +kernel
theorem d1_44 : decode method_3_code 44 = .ok (.iconst 2, 1) := by decide +kernel
theorem d1_45 : decode method_3_code 45 = .ok (.newarray .char, 2) := by decide +kernel
theorem d1_47 : decode method_3_code 47 = .ok (.dup, 1) := by decide +kernel
theorem d1_48 : decode method_3_code 48 = .ok (.iconst 0, 1) := by decide +kernel
theorem d1_49 : decode method_3_code 49 = .ok (.iload_n 1, 1) := by decide +kernel
theorem d1_50 : decode method_3_code 50 = .ok (.castore, 1) := by decide +kernel
theorem d1_51 : decode method_3_code 51 = .ok (.dup, 1) := by decide +kernel
theorem d1_52 : decode method_3_code 52 = .ok (.iconst 1, 1) := by decide +kernel
theorem d1_53 : decode method_3_code 53 = .ok (.iload_n 2, 1) := by decide +kernel
theorem d1_54 : decode method_3_code 54 = .ok (.castore, 1) := by decide +kernel
theorem d1_55 : decode method_3_code 55 = .ok (.invokespecial 60, 3) := by decide +kernel
theorem d1_58 : decode method_3_code 58 = .ok (.areturn, 1) := by decide +kernel
def QrmMk_2 (Z : State) (ch0 : Int32) (ch1 : Int32) (h0 : Heap) (n0 : Nat) (v : Option Value) (h : Heap) (L : List Loc) : Prop := ∃ b : Addr, v = some (.ref b) ∧ Fr n0 L ∧ h0.size ≤ b ∧ Keep h0 h [] ∧ Exa Z h b "java/lang/String" ∧ own_Str2 Z h b ch0 ch1
set_option maxRecDepth 65536 in
set_option maxHeartbeats 40000000 in
theorem rmMk_2 (l : Launch) (Z : State) (a0 : Array Value) (hw : ∀ d ∈ tables_1, d.before a0 Z = true) (ws : List Jvm.Cond) (ch0 ch1 ch2 cs : Int32) (h0 : Heap) (n0 : Nat) (Z0 : n0 ≤ h0.size) (hp0 : ¬ ch0 < 0 ∧ ¬ (65535 : Int32) < ch0) (hp1 : ¬ ch1 < 0 ∧ ¬ (65535 : Int32) < ch1) (hcs : ¬ (cs = (0 : Int32))) (S_cs : Sta Z h0 "java/lang/String" "COMPACT_STRINGS" "Z" (.int cs)) (S_ad : Sta Z h0 "java/lang/StringUTF16" "$assertionsDisabled" "Z" (.int 1)) (S_hi : Sta Z h0 "java/lang/StringUTF16" "HI_BYTE_SHIFT" "I" (.int 0)) (S_lo : Sta Z h0 "java/lang/StringUTF16" "LO_BYTE_SHIFT" "I" (.int 8)) :
    MetFree l (⟨"dev/parlance/model/MessageAssistantPinLaw", "make", "(ICCC)Ljava/lang/String;"⟩ : MethodName) (head1 (Jvm.Cond.code (⟨"dev/parlance/model/MessageAssistantPinLaw", "make", "(ICCC)Ljava/lang/String;"⟩ : MethodName) method_3_code 4 (some (.object "java/lang/String")) :: ws) ({ frames := 6, cells := 4, slots := 12, locals := 88 } : Room)) (fun ar_ U_ => ar_ = #[(.int 2), (.int ch0), (.int ch1), (.int ch2)] ∧ Z.Warmed39 U_.vm ∧ U_.heap = h0) (fun _ _ _ _ _ => True) (fun _ U_ ou_ V_ => ∃ v_ L_, ou_ = .returned v_ ∧ QrmMk_2 Z ch0 ch1 h0 n0 v_ V_.heap L_ ∧ FrameEnd U_ ou_ V_ L_ ({ frames := 6, cells := 4, slots := 12, locals := 88 } : Room).cells ({ frames := 6, cells := 4, slots := 12, locals := 88 } : Room).slots) := by
  refine MetFree.of_bodySF (plainFor_of_name own_pn1) hisR ?_
  intro p e s m args below meth c s₁ Bd hml0 hP hK
  obtain ⟨rfl, hZ, hh⟩ := hP
  have hx := Bd.exec
  have hby := Bd.bytes
  have hml : c.maxLocals = 4 := hml0
  have hown : s.vm.findClass "dev/parlance/model/MessageAssistantPinLaw" = some m.cls := findClass_of_methodNamed Bd.named
  have hnm := (name_of_methodNamed Bd.named Bd.method).1
  have X0 : Stand p l e ({ frames := 6, cells := 4, slots := 12, locals := 88 } : Room) s m #[(.int 2), (.int ch0), (.int ch1), (.int ch2)] below meth c s₁ [] 0 0 := Stand.of_body Bd
  have e0 : s₁.heap = h0 := by rw [← hh, Bd.state]; rfl
  have N0 := Fr.nil n0
  have Kp0 : Keep h0 h0 [] := Keep.refl h0 _
  have hn0 : nar .char ch0 = ch0 := own_narc ch0 hp0.1 hp0.2
  have hn1 : nar .char ch1 = ch1 := own_narc ch1 hp1.1 hp1.2
  refine own_go (A := s₁.setTop (mkF m 0 #[.val (.int 2), .val (.int ch0), .val (.int ch1), .val (.int ch2)] [])) (fun _ kz => castTop (own_ef1 m (2 : Int32) ch0 ch1 ch2) kz) ?_
  refine own_go (A := s₁.setTop (mkF m 40 #[.val (.int 2), .val (.int ch0), .val (.int ch1), .val (.int ch2)] [])) (fun _ kz => ?_) ?_
  · refine XS.iloadN X0.here hx rfl (hb hby d1_0) rfl ?_
    refine XS.ifYes X0.here hx rfl (pc0 := 1) (pc' := 15) rfl (hb hby d1_1) rfl ((if0 _ _).trans (feq (by decide : ¬ ((2 : Int32) = (0 : Int32)))).2) (by decide) (by decide) ?_
    refine XS.iloadN X0.here hx rfl (hb hby d1_15) rfl ?_
    refine XS.iconst X0.here hx rfl (hb hby d1_16) ?_
    refine XS.icmpYes X0.here hx rfl (pc0 := 17) (pc' := 35) rfl (hb hby d1_17) rfl (feq (by decide : ¬ ((2 : Int32) = (1 : Int32)))).2 (by decide) (by decide) ?_
    refine XS.iloadN X0.here hx rfl (hb hby d1_35) rfl ?_
    refine XS.iconst X0.here hx rfl (hb hby d1_36) ?_
    refine XS.icmpNo X0.here hx rfl (hb hby d1_37) rfl (teq (by decide : ((2 : Int32) = (2 : Int32)))).2 ?_
    exact kz
  obtain ⟨T1, h1, X1, e1, E1, A1, D1, -, st1⟩ := newO X0 hx hZ hown (own_w hw 5 rfl) (own_w hw 6 rfl) (own_w hw 7 rfl) e0 (g := (mkF m 40 #[.val (.int 2), .val (.int ch0), .val (.int ch1), .val (.int ch2)] [])) rfl (hb hby d1_40) (by decide) (by decide)
  obtain ⟨b1, gq1⟩ : ∃ z, z = h0.size := ⟨_, rfl⟩
  rw [← gq1] at A1 D1 st1
  have g_b1 : n0 ≤ b1 := Nat.le_trans Z0 (Nat.le_of_eq gq1.symm)
  have szk_b1 : h0.size ≤ b1 := Nat.le_trans Kp0.1 (Nat.le_of_eq gq1.symm)
  replace S_cs := S_cs.ext E1
  replace S_ad := S_ad.ext E1
  replace S_hi := S_hi.ext E1
  replace S_lo := S_lo.ext E1
  have Z1 : n0 ≤ h1.size := Nat.le_trans Z0 E1.1
  have Kp1 : Keep h0 h1 [] := Kp0.ext E1
  have Ex_b1 := A1
  have F_coder_b1 : Fld Z h1 b1 "java/lang/String" "coder" "B" (.int 0) := D1 (Or.inr (own_w hw 32 rfl)) (ty := .byte) (by decide)
  have F_value_b1 : Fld Z h1 b1 "java/lang/String" "value" "[B" .null := D1 (Or.inr (own_w hw 34 rfl)) (ty := (.array .byte)) (by decide)
  refine own_go (A := T1.setTop (mkF m 43 #[.val (.int 2), .val (.int ch0), .val (.int ch1), .val (.int ch2)] [(.ref b1)])) (fun _ kz => st1 _ kz) ?_
  refine own_go (A := T1.setTop (mkF m 45 #[.val (.int 2), .val (.int ch0), .val (.int ch1), .val (.int ch2)] [(.int 2), (.ref b1), (.ref b1)])) (fun _ kz => ?_) ?_
  · refine XS.dup X1.here hx rfl (hb hby d1_43) rfl rfl ?_
    refine XS.iconst X1.here hx rfl (hb hby d1_44) ?_
    exact kz
  obtain ⟨T2, h2, k2, X2, e2, E2, A2, st2⟩ := newP X1 hx hZ (own_w hw 8 rfl) e1 (g := (mkF m 45 #[.val (.int 2), .val (.int ch0), .val (.int ch1), .val (.int ch2)] [(.int 2), (.ref b1), (.ref b1)])) rfl (hb hby d1_45) rfl (by decide) (cap := 2) (by decide) (by decide) (by decide) (by decide)
  obtain ⟨b2, gq2⟩ : ∃ z, z = h1.size := ⟨_, rfl⟩
  rw [← gq2] at A2 st2
  have g_b2 : n0 ≤ b2 := Nat.le_trans Z1 (Nat.le_of_eq gq2.symm)
  have ne_b1_b2 : b1 ≠ b2 := Nat.ne_of_lt (Nat.lt_of_lt_of_le Ex_b1.lt (Nat.le_of_eq gq2.symm))
  have szk_b2 : h0.size ≤ b2 := Nat.le_trans Kp1.1 (Nat.le_of_eq gq2.symm)
  replace S_cs := S_cs.ext E2
  replace S_ad := S_ad.ext E2
  replace S_hi := S_hi.ext E2
  replace S_lo := S_lo.ext E2
  replace Ex_b1 := Ex_b1.ext E2
  replace F_coder_b1 := F_coder_b1.ext E2
  replace F_value_b1 := F_value_b1.ext E2
  have Z2 : n0 ≤ h2.size := Nat.le_trans Z1 E2.1
  have Kp2 : Keep h0 h2 [] := Kp1.ext E2
  have Av_b2 : Arv Z h2 b2 k2 .char (2 : Int32) [(.int 0), (.int 0)] (.int 0) := (Arv.new A2 (by decide)).pad (pad_rep [] (.int 0) 2)
  refine own_go (A := T2.setTop (mkF m 47 #[.val (.int 2), .val (.int ch0), .val (.int ch1), .val (.int ch2)] [(.ref b2), (.ref b1), (.ref b1)])) (fun _ kz => st2 _ kz) ?_
  refine own_go (A := T2.setTop (mkF m 50 #[.val (.int 2), .val (.int ch0), .val (.int ch1), .val (.int ch2)] [(.int ch0), (.int 0), (.ref b2), (.ref b2), (.ref b1), (.ref b1)])) (fun _ kz => ?_) ?_
  · refine XS.dup X2.here hx rfl (hb hby d1_47) rfl rfl ?_
    refine XS.iconst X2.here hx rfl (hb hby d1_48) ?_
    refine XS.iloadN X2.here hx rfl (hb hby d1_49) rfl ?_
    exact kz
  obtain ⟨cl3, Ar3, q3, S3, M3, H3, G3⟩ := id Av_b2
  have hin3 : ¬ ((0 : Int32) < 0 ∨ cl3.slots.size ≤ ((0 : Int32)).toNatClampNeg) := inb_of S3 ⟨by decide, by decide⟩
  obtain ⟨T3, h3, X3, e3, W3, st3⟩ := stC X2 hx hZ e2 Ar3 (j := (0 : Int32)) hin3 (g := (mkF m 50 #[.val (.int 2), .val (.int ch0), .val (.int ch1), .val (.int ch2)] [(.int ch0), (.int 0), (.ref b2), (.ref b2), (.ref b1), (.ref b1)])) rfl rfl (hb hby d1_50)
  have Aw3 := Arv.set Ar3 q3 S3 M3 H3 G3 (fits_nar_char _) W3 0 rfl (Nat.le_of_ble_eq_true rfl)
  replace S_cs := S_cs.wr W3
  replace S_ad := S_ad.wr W3
  replace S_hi := S_hi.wr W3
  replace S_lo := S_lo.wr W3
  replace Ex_b1 := Ex_b1.wr W3
  replace F_coder_b1 := F_coder_b1.other W3 (Or.inl ne_b1_b2)
  replace F_value_b1 := F_value_b1.other W3 (Or.inl ne_b1_b2)
  have Z3 : n0 ≤ h3.size := Nat.le_trans Z2 (Keep.of_wr W3).1
  have Kp3 : Keep h0 h3 [] := Kp2.wr W3 (Or.inr szk_b2)
  have Av_b2 : Arv Z h3 b2 k2 .char (2 : Int32) [(.int (nar .char ch0)), (.int 0)] (.int 0) := Aw3
  have N3 := Fr.snoc X3 N0 g_b2
  refine own_go (A := T3.setTop (mkF m 51 #[.val (.int 2), .val (.int ch0), .val (.int ch1), .val (.int ch2)] [(.ref b2), (.ref b1), (.ref b1)])) (fun _ kz => st3 _ kz) ?_
  refine own_go (A := T3.setTop (mkF m 54 #[.val (.int 2), .val (.int ch0), .val (.int ch1), .val (.int ch2)] [(.int ch1), (.int 1), (.ref b2), (.ref b2), (.ref b1), (.ref b1)])) (fun _ kz => ?_) ?_
  · refine XS.dup X3.here hx rfl (hb hby d1_51) rfl rfl ?_
    refine XS.iconst X3.here hx rfl (hb hby d1_52) ?_
    refine XS.iloadN X3.here hx rfl (hb hby d1_53) rfl ?_
    exact kz
  obtain ⟨cl4, Ar4, q4, S4, M4, H4, G4⟩ := id Av_b2
  have hin4 : ¬ ((1 : Int32) < 0 ∨ cl4.slots.size ≤ ((1 : Int32)).toNatClampNeg) := inb_of S4 ⟨by decide, by decide⟩
  obtain ⟨T4, h4, X4, e4, W4, st4⟩ := stC X3 hx hZ e3 Ar4 (j := (1 : Int32)) hin4 (g := (mkF m 54 #[.val (.int 2), .val (.int ch0), .val (.int ch1), .val (.int ch2)] [(.int ch1), (.int 1), (.ref b2), (.ref b2), (.ref b1), (.ref b1)])) rfl rfl (hb hby d1_54)
  have Aw4 := Arv.set Ar4 q4 S4 M4 H4 G4 (fits_nar_char _) W4 1 rfl (Nat.le_of_ble_eq_true rfl)
  replace S_cs := S_cs.wr W4
  replace S_ad := S_ad.wr W4
  replace S_hi := S_hi.wr W4
  replace S_lo := S_lo.wr W4
  replace Ex_b1 := Ex_b1.wr W4
  replace F_coder_b1 := F_coder_b1.other W4 (Or.inl ne_b1_b2)
  replace F_value_b1 := F_value_b1.other W4 (Or.inl ne_b1_b2)
  have Z4 : n0 ≤ h4.size := Nat.le_trans Z3 (Keep.of_wr W4).1
  have Kp4 : Keep h0 h4 [] := Kp3.wr W4 (Or.inr szk_b2)
  have Av_b2 : Arv Z h4 b2 k2 .char (2 : Int32) [(.int (nar .char ch0)), (.int (nar .char ch1))] (.int 0) := Aw4
  have N4 := Fr.snoc X4 N3 g_b2
  refine own_go (A := T4.setTop (mkF m 55 #[.val (.int 2), .val (.int ch0), .val (.int ch1), .val (.int ch2)] [(.ref b2), (.ref b1), (.ref b1)])) (fun _ kz => st4 _ kz) ?_
  rw [hn0, hn1] at Av_b2
  obtain ⟨_, _, ⟨T5, L5, k5, n5⟩, -, X5, ⟨Lc5, hQ5, l5, y5, z5⟩, st5⟩ := X4.specialBack hx (y := (⟨"java/lang/String", "<init>", "([C)V"⟩ : MethodName)) rfl hown (mvT hZ (own_w hw 9 rfl)) (mvT hZ (own_w hw 10 rfl)) (mvT hZ (own_w hw 11 rfl)) (by decide) (backOf (W := 1) (rmI1_2 l Z a0 hw [] b1 b2 k2 ch0 ch1 cs h4 n0 Z4 Ex_b1 F_value_b1 F_coder_b1 g_b1 Av_b2 hp0 hp1 hcs S_cs S_ad S_hi S_lo) hZ (own_w hw 11 rfl) (own_w hw 7 rfl) (by decide) (by decide)) (g := (mkF m 55 #[.val (.int 2), .val (.int ch0), .val (.int ch1), .val (.int ch2)] [(.ref b2), (.ref b1), (.ref b1)])) rfl (by rw [hml]; rfl) (Steps.refl _) (a := b1) (argsL := [(.ref b2)]) (rest := [(.ref b1)]) (lenOf own_pd8 rfl) rfl (by show 2 * 0 + _ ≤ _; exact Nat.le_of_eq rfl) (hb hby d1_55) (fun _ _ => ⟨rfl, e4, (by decide : 2 + 2 ≤ _), (by decide : 6 + 6 ≤ _)⟩)
  dsimp only [Pt.U, Pt.locs, Pt.cells, Pt.slots] at X5 l5 y5 z5 st5 hQ5
  subst l5 y5 z5
  obtain ⟨rfl, N5q, K5q, _, Sq⟩ := hQ5
  have N5 := Fr.app N4 N5q
  replace S_cs := own_staKeep S_cs K5q (allS (own_ns Ex_b1) all0)
  replace S_ad := own_staKeep S_ad K5q (allS (own_ns Ex_b1) all0)
  replace S_hi := own_staKeep S_hi K5q (allS (own_ns Ex_b1) all0)
  replace S_lo := own_staKeep S_lo K5q (allS (own_ns Ex_b1) all0)
  replace Ex_b1 := Ex_b1.keep K5q
  replace Av_b2 := Av_b2.keep K5q (ninS (Ne.symm ne_b1_b2) nin0)
  have Z5 : n0 ≤ T5.heap.size := Nat.le_trans Z4 K5q.1
  have Kp5 : Keep h0 T5.heap [] := Kp4.trans K5q (allS (Or.inr szk_b1) (all0))
  refine own_go (A := T5.setTop (mkF m 58 #[.val (.int 2), .val (.int ch0), .val (.int ch1), .val (.int ch2)] [(.ref b1)])) (fun _ kz => st5.trans kz) ?_
  obtain ⟨fs, hrr, hrun, hended, hW, hsame⟩ := X5.leave (v := some (.ref b1)) (fun h => by rw [Bd.returns] at h; cases h)
  refine ⟨_, _, ?_, hrun, hended, _, _, rfl, ?_, ⟨_, rfl⟩, hW, hsame.mono (by decide) (by decide)⟩
  · show Steps p.tables e below (T5.setTop (mkF m 58 #[.val (.int 2), .val (.int ch0), .val (.int ch1), .val (.int ch2)] [(.ref b1)])) _
    exact retOut X5 hx (t := (.object "java/lang/String")) Bd.returns rfl (Or.inr (Or.inr (Or.inr (Or.inr ⟨rfl, rfl, rfl⟩)))) (hb hby d1_58) hrr
  · show QrmMk_2 Z ch0 ch1 h0 n0 _ T5.heap _
    exact ⟨b1, rfl, N5, szk_b1, Kp5, Ex_b1, Sq⟩
def QrmCi_3_0 (Z : State) (ab : Addr) (h0 : Heap) (n0 : Nat) (v : Option Value) (h : Heap) (L : List Loc) : Prop := v = some (.int 0) ∧ Fr n0 L ∧ Keep h0 h [ab]
set_option maxRecDepth 65536 in
set_option maxHeartbeats 40000000 in
theorem rmCi_3_0 (l : Launch) (Z : State) (a0 : Array Value) (hw : ∀ d ∈ tables_1, d.before a0 Z = true) (ws : List Jvm.Cond) (ar ab : Addr) (ka kb : ClassId) (ch0 ch1 ch2 : Int32) (h0 : Heap) (n0 : Nat) (Z0 : n0 ≤ h0.size) (Aa : Arv Z h0 ar ka .char (3 : Int32) [(.int ch0), (.int ch1), (.int ch2)] (.int 0)) (Ab : Arv Z h0 ab kb .byte (3 : Int32) [(.int 0), (.int 0), (.int 0)] (.int 0)) (hne : ar ≠ ab) (g_ab : n0 ≤ ab)  (hr : (255 : Int32) < ch0) :
    MetFree l (⟨"java/lang/StringUTF16", "compress", "([CI[BII)I"⟩ : MethodName) (head1 (Jvm.Cond.code (⟨"java/lang/StringUTF16", "compress", "([CI[BII)I"⟩ : MethodName) jdk_52_method_21_code 7 (some .int) :: ws) ({ frames := 0, cells := 0, slots := 0, locals := 0 } : Room)) (fun ar_ U_ => ar_ = #[(.ref ar), (.int 0), (.ref ab), (.int 0), (.int 3)] ∧ Z.Warmed39 U_.vm ∧ U_.heap = h0) (fun _ _ _ _ _ => True) (fun _ U_ ou_ V_ => ∃ v_ L_, ou_ = .returned v_ ∧ QrmCi_3_0 Z ab h0 n0 v_ V_.heap L_ ∧ FrameEnd U_ ou_ V_ L_ ({ frames := 0, cells := 0, slots := 0, locals := 0 } : Room).cells ({ frames := 0, cells := 0, slots := 0, locals := 0 } : Room).slots) := by
  refine MetFree.of_bodySF (plainFor_of_name own_pn6) hisR ?_
  intro p e s m args below meth c s₁ Bd hml0 hP hK
  obtain ⟨rfl, hZ, hh⟩ := hP
  have hx := Bd.exec
  have hby := Bd.bytes
  have hml : c.maxLocals = 7 := hml0
  have hown : s.vm.findClass "java/lang/StringUTF16" = some m.cls := findClass_of_methodNamed Bd.named
  have hnm := (name_of_methodNamed Bd.named Bd.method).1
  have X0 : Stand p l e ({ frames := 0, cells := 0, slots := 0, locals := 0 } : Room) s m #[(.ref ar), (.int 0), (.ref ab), (.int 0), (.int 3)] below meth c s₁ [] 0 0 := Stand.of_body Bd
  have e0 : s₁.heap = h0 := by rw [← hh, Bd.state]; rfl
  have N0 := Fr.nil n0
  have Kp0 : Keep h0 h0 [ab] := Keep.refl h0 _
  refine own_go (A := s₁.setTop (mkF m 0 #[.val (.ref ar), .val (.int 0), .val (.ref ab), .val (.int 0), .val (.int 3), .unset, .unset] [])) (fun _ kz => castTop (own_ef6 m ar (0 : Int32) ab (0 : Int32) (3 : Int32)) kz) ?_
  refine own_go (A := s₁.setTop (mkF m 12 #[.val (.ref ar), .val (.int 0), .val (.ref ab), .val (.int 0), .val (.int 3), .val (.int 0), .unset] [(.int 0), (.ref ar)])) (fun _ kz => ?_) ?_
  · refine XS.iconst X0.here hx rfl (hb hby d6_0) ?_
    refine XS.istore X0.here hx rfl (hb hby d6_1) rfl (l' := #[.val (.ref ar), .val (.int 0), .val (.ref ab), .val (.int 0), .val (.int 3), .val (.int 0), .unset]) rfl ?_
    refine XS.iload X0.here hx rfl (hb hby d6_3) rfl ?_
    refine XS.iload X0.here hx rfl (hb hby d6_5) rfl ?_
    refine XS.icmpNo X0.here hx rfl (hb hby d6_7) rfl (tlt (by decide : ((0 : Int32) < (3 : Int32)))).2.1 ?_
    refine XS.aloadN X0.here hx rfl (hb hby d6_10) rfl rfl ?_
    refine XS.iloadN X0.here hx rfl (hb hby d6_11) rfl ?_
    exact kz
  obtain ⟨cl1, Ar1, -, S1, M1, H1, -⟩ := id Aa
  have hin1 : ¬ ((0 : Int32) < 0 ∨ cl1.slots.size ≤ ((0 : Int32)).toNatClampNeg) := inb_of S1 ⟨by decide, by decide⟩
  have hat1 : cl1.slots[((0 : Int32)).toNatClampNeg]? = some (.int ch0) := H1.at hin1 rfl
  refine own_go (A := s₁.setTop (mkF m 13 #[.val (.ref ar), .val (.int 0), .val (.ref ab), .val (.int 0), .val (.int 3), .val (.int 0), .unset] [(.int ch0)])) (fun _ kz => ?_) ?_
  · refine X0.caload hx (j := (0 : Int32)) (v := (.int ch0)) (by rw [e0]; exact Ar1.1) (State.isArrayOf_alike hZ.alike Ar1.2.1) Ar1.2.2 hin1 hat1 (g := (mkF m 12 #[.val (.ref ar), .val (.int 0), .val (.ref ab), .val (.int 0), .val (.int 3), .val (.int 0), .unset] [(.int 0), (.ref ar)])) rfl rfl (hb hby d6_12) _ ?_
    exact kz
  refine own_go (A := s₁.setTop (mkF m 25 #[.val (.ref ar), .val (.int 0), .val (.ref ab), .val (.int 0), .val (.int 3), .val (.int 0), .val (.int ch0)] [(.int 0)])) (fun _ kz => ?_) ?_
  · refine XS.istore X0.here hx rfl (hb hby d6_13) rfl (l' := #[.val (.ref ar), .val (.int 0), .val (.ref ab), .val (.int 0), .val (.int 3), .val (.int 0), .val (.int ch0)]) rfl ?_
    refine XS.iload X0.here hx rfl (hb hby d6_15) rfl ?_
    refine XS.sipush X0.here hx rfl (hb hby d6_17) ?_
    refine XS.icmpNo X0.here hx rfl (hb hby d6_20) rfl (tlt hr).2.2.2 ?_
    refine XS.iload X0.here hx rfl (hb hby d6_23) rfl ?_
    exact kz
  obtain ⟨fs, hrr, hrun, hended, hW, hsame⟩ := X0.leave (v := some (.int 0)) (fun h => by rw [Bd.returns] at h; cases h)
  refine ⟨_, _, ?_, hrun, hended, _, _, rfl, ?_, ⟨_, rfl⟩, hW, hsame.mono (by decide) (by decide)⟩
  · show Steps p.tables e below (s₁.setTop (mkF m 25 #[.val (.ref ar), .val (.int 0), .val (.ref ab), .val (.int 0), .val (.int 3), .val (.int 0), .val (.int ch0)] [(.int 0)])) _
    exact retI X0 hx Bd.returns (hb hby d6_25) hrr
  · show QrmCi_3_0 Z ab h0 n0 _ s₁.heap _
    rw [e0]
    exact ⟨rfl, N0, Kp0⟩
def QrmCi_3_1 (Z : State) (ab : Addr) (h0 : Heap) (n0 : Nat) (v : Option Value) (h : Heap) (L : List Loc) : Prop := v = some (.int 1) ∧ Fr n0 L ∧ Keep h0 h [ab]
set_option maxRecDepth 65536 in
set_option maxHeartbeats 40000000 in
theorem rmCi_3_1 (l : Launch) (Z : State) (a0 : Array Value) (hw : ∀ d ∈ tables_1, d.before a0 Z = true) (ws : List Jvm.Cond) (ar ab : Addr) (ka kb : ClassId) (ch0 ch1 ch2 : Int32) (h0 : Heap) (n0 : Nat) (Z0 : n0 ≤ h0.size) (Aa : Arv Z h0 ar ka .char (3 : Int32) [(.int ch0), (.int ch1), (.int ch2)] (.int 0)) (Ab : Arv Z h0 ab kb .byte (3 : Int32) [(.int 0), (.int 0), (.int 0)] (.int 0)) (hne : ar ≠ ab) (g_ab : n0 ≤ ab) (hl0 : ¬ (255 : Int32) < ch0) (hr : (255 : Int32) < ch1) :
    MetFree l (⟨"java/lang/StringUTF16", "compress", "([CI[BII)I"⟩ : MethodName) (head1 (Jvm.Cond.code (⟨"java/lang/StringUTF16", "compress", "([CI[BII)I"⟩ : MethodName) jdk_52_method_21_code 7 (some .int) :: ws) ({ frames := 0, cells := 0, slots := 0, locals := 0 } : Room)) (fun ar_ U_ => ar_ = #[(.ref ar), (.int 0), (.ref ab), (.int 0), (.int 3)] ∧ Z.Warmed39 U_.vm ∧ U_.heap = h0) (fun _ _ _ _ _ => True) (fun _ U_ ou_ V_ => ∃ v_ L_, ou_ = .returned v_ ∧ QrmCi_3_1 Z ab h0 n0 v_ V_.heap L_ ∧ FrameEnd U_ ou_ V_ L_ ({ frames := 0, cells := 0, slots := 0, locals := 0 } : Room).cells ({ frames := 0, cells := 0, slots := 0, locals := 0 } : Room).slots) := by
  refine MetFree.of_bodySF (plainFor_of_name own_pn6) hisR ?_
  intro p e s m args below meth c s₁ Bd hml0 hP hK
  obtain ⟨rfl, hZ, hh⟩ := hP
  have hx := Bd.exec
  have hby := Bd.bytes
  have hml : c.maxLocals = 7 := hml0
  have hown : s.vm.findClass "java/lang/StringUTF16" = some m.cls := findClass_of_methodNamed Bd.named
  have hnm := (name_of_methodNamed Bd.named Bd.method).1
  have X0 : Stand p l e ({ frames := 0, cells := 0, slots := 0, locals := 0 } : Room) s m #[(.ref ar), (.int 0), (.ref ab), (.int 0), (.int 3)] below meth c s₁ [] 0 0 := Stand.of_body Bd
  have e0 : s₁.heap = h0 := by rw [← hh, Bd.state]; rfl
  have N0 := Fr.nil n0
  have Kp0 : Keep h0 h0 [ab] := Keep.refl h0 _
  refine own_go (A := s₁.setTop (mkF m 0 #[.val (.ref ar), .val (.int 0), .val (.ref ab), .val (.int 0), .val (.int 3), .unset, .unset] [])) (fun _ kz => castTop (own_ef6 m ar (0 : Int32) ab (0 : Int32) (3 : Int32)) kz) ?_
  refine own_go (A := s₁.setTop (mkF m 12 #[.val (.ref ar), .val (.int 0), .val (.ref ab), .val (.int 0), .val (.int 3), .val (.int 0), .unset] [(.int 0), (.ref ar)])) (fun _ kz => ?_) ?_
  · refine XS.iconst X0.here hx rfl (hb hby d6_0) ?_
    refine XS.istore X0.here hx rfl (hb hby d6_1) rfl (l' := #[.val (.ref ar), .val (.int 0), .val (.ref ab), .val (.int 0), .val (.int 3), .val (.int 0), .unset]) rfl ?_
    refine XS.iload X0.here hx rfl (hb hby d6_3) rfl ?_
    refine XS.iload X0.here hx rfl (hb hby d6_5) rfl ?_
    refine XS.icmpNo X0.here hx rfl (hb hby d6_7) rfl (tlt (by decide : ((0 : Int32) < (3 : Int32)))).2.1 ?_
    refine XS.aloadN X0.here hx rfl (hb hby d6_10) rfl rfl ?_
    refine XS.iloadN X0.here hx rfl (hb hby d6_11) rfl ?_
    exact kz
  obtain ⟨cl1, Ar1, -, S1, M1, H1, -⟩ := id Aa
  have hin1 : ¬ ((0 : Int32) < 0 ∨ cl1.slots.size ≤ ((0 : Int32)).toNatClampNeg) := inb_of S1 ⟨by decide, by decide⟩
  have hat1 : cl1.slots[((0 : Int32)).toNatClampNeg]? = some (.int ch0) := H1.at hin1 rfl
  refine own_go (A := s₁.setTop (mkF m 13 #[.val (.ref ar), .val (.int 0), .val (.ref ab), .val (.int 0), .val (.int 3), .val (.int 0), .unset] [(.int ch0)])) (fun _ kz => ?_) ?_
  · refine X0.caload hx (j := (0 : Int32)) (v := (.int ch0)) (by rw [e0]; exact Ar1.1) (State.isArrayOf_alike hZ.alike Ar1.2.1) Ar1.2.2 hin1 hat1 (g := (mkF m 12 #[.val (.ref ar), .val (.int 0), .val (.ref ab), .val (.int 0), .val (.int 3), .val (.int 0), .unset] [(.int 0), (.ref ar)])) rfl rfl (hb hby d6_12) _ ?_
    exact kz
  refine own_go (A := s₁.setTop (mkF m 31 #[.val (.ref ar), .val (.int 0), .val (.ref ab), .val (.int 0), .val (.int 3), .val (.int 0), .val (.int ch0)] [(.int (ch0.toInt8.toInt32)), (.int 0), (.ref ab)])) (fun _ kz => ?_) ?_
  · refine XS.istore X0.here hx rfl (hb hby d6_13) rfl (l' := #[.val (.ref ar), .val (.int 0), .val (.ref ab), .val (.int 0), .val (.int 3), .val (.int 0), .val (.int ch0)]) rfl ?_
    refine XS.iload X0.here hx rfl (hb hby d6_15) rfl ?_
    refine XS.sipush X0.here hx rfl (hb hby d6_17) ?_
    refine XS.icmpYes X0.here hx rfl (pc0 := 20) (pc' := 26) rfl (hb hby d6_20) rfl (flt hl0).2.2.2 (by decide) (by decide) ?_
    refine XS.aloadN X0.here hx rfl (hb hby d6_26) rfl rfl ?_
    refine XS.iloadN X0.here hx rfl (hb hby d6_27) rfl ?_
    refine XS.iload X0.here hx rfl (hb hby d6_28) rfl ?_
    refine XS.i2b X0.here hx rfl (hb hby d6_30) rfl ?_
    exact kz
  obtain ⟨cl2, Ar2, q2, S2, M2, H2, G2⟩ := id Ab
  have hin2 : ¬ ((0 : Int32) < 0 ∨ cl2.slots.size ≤ ((0 : Int32)).toNatClampNeg) := inb_of S2 ⟨by decide, by decide⟩
  obtain ⟨T2, h2, X2, e2, W2, st2⟩ := stB X0 hx hZ e0 Ar2 (j := (0 : Int32)) hin2 (g := (mkF m 31 #[.val (.ref ar), .val (.int 0), .val (.ref ab), .val (.int 0), .val (.int 3), .val (.int 0), .val (.int ch0)] [(.int (ch0.toInt8.toInt32)), (.int 0), (.ref ab)])) rfl rfl (hb hby d6_31)
  rw [own_nbn] at W2
  have Aw2 := Arv.set Ar2 q2 S2 M2 H2 G2 (fits_nar_byte _) W2 0 rfl (Nat.le_of_ble_eq_true rfl)
  replace Aa := Aa.other W2 hne
  have Z2 : n0 ≤ h2.size := Nat.le_trans Z0 (Keep.of_wr W2).1
  have Kp2 : Keep h0 h2 [ab] := Kp0.wr W2 (Or.inl (List.mem_of_getElem? (i := 0) rfl))
  have Av_ab : Arv Z h2 ab kb .byte (3 : Int32) [(.int (ch0.toInt8.toInt32)), (.int 0), (.int 0)] (.int 0) := Aw2
  have N2 := Fr.snoc X2 N0 g_ab
  refine own_go (A := T2.setTop (mkF m 32 #[.val (.ref ar), .val (.int 0), .val (.ref ab), .val (.int 0), .val (.int 3), .val (.int 0), .val (.int ch0)] [])) (fun _ kz => st2 _ kz) ?_
  refine own_go (A := T2.setTop (mkF m 12 #[.val (.ref ar), .val (.int 1), .val (.ref ab), .val (.int 1), .val (.int 3), .val (.int 1), .val (.int ch0)] [(.int 1), (.ref ar)])) (fun _ kz => ?_) ?_
  · refine XS.iinc X2.here hx rfl (hb hby d6_32) rfl (l' := #[.val (.ref ar), .val (.int 1), .val (.ref ab), .val (.int 0), .val (.int 3), .val (.int 0), .val (.int ch0)]) rfl ?_
    refine XS.iinc X2.here hx rfl (hb hby d6_35) rfl (l' := #[.val (.ref ar), .val (.int 1), .val (.ref ab), .val (.int 1), .val (.int 3), .val (.int 0), .val (.int ch0)]) rfl ?_
    refine XS.iinc X2.here hx rfl (hb hby d6_38) rfl (l' := #[.val (.ref ar), .val (.int 1), .val (.ref ab), .val (.int 1), .val (.int 3), .val (.int 1), .val (.int ch0)]) rfl ?_
    refine XS.goto X2.here hx rfl (pc0 := 41) (pc' := 3) rfl (hb hby d6_41) (by decide) (by decide) ?_
    refine XS.iload X2.here hx rfl (hb hby d6_3) rfl ?_
    refine XS.iload X2.here hx rfl (hb hby d6_5) rfl ?_
    refine XS.icmpNo X2.here hx rfl (hb hby d6_7) rfl (tlt (by decide : ((1 : Int32) < (3 : Int32)))).2.1 ?_
    refine XS.aloadN X2.here hx rfl (hb hby d6_10) rfl rfl ?_
    refine XS.iloadN X2.here hx rfl (hb hby d6_11) rfl ?_
    exact kz
  obtain ⟨cl3, Ar3, -, S3, M3, H3, -⟩ := id Aa
  have hin3 : ¬ ((1 : Int32) < 0 ∨ cl3.slots.size ≤ ((1 : Int32)).toNatClampNeg) := inb_of S3 ⟨by decide, by decide⟩
  have hat3 : cl3.slots[((1 : Int32)).toNatClampNeg]? = some (.int ch1) := H3.at hin3 rfl
  refine own_go (A := T2.setTop (mkF m 13 #[.val (.ref ar), .val (.int 1), .val (.ref ab), .val (.int 1), .val (.int 3), .val (.int 1), .val (.int ch0)] [(.int ch1)])) (fun _ kz => ?_) ?_
  · refine X2.caload hx (j := (1 : Int32)) (v := (.int ch1)) (by rw [e2]; exact Ar3.1) (State.isArrayOf_alike hZ.alike Ar3.2.1) Ar3.2.2 hin3 hat3 (g := (mkF m 12 #[.val (.ref ar), .val (.int 1), .val (.ref ab), .val (.int 1), .val (.int 3), .val (.int 1), .val (.int ch0)] [(.int 1), (.ref ar)])) rfl rfl (hb hby d6_12) _ ?_
    exact kz
  refine own_go (A := T2.setTop (mkF m 25 #[.val (.ref ar), .val (.int 1), .val (.ref ab), .val (.int 1), .val (.int 3), .val (.int 1), .val (.int ch1)] [(.int 1)])) (fun _ kz => ?_) ?_
  · refine XS.istore X2.here hx rfl (hb hby d6_13) rfl (l' := #[.val (.ref ar), .val (.int 1), .val (.ref ab), .val (.int 1), .val (.int 3), .val (.int 1), .val (.int ch1)]) rfl ?_
    refine XS.iload X2.here hx rfl (hb hby d6_15) rfl ?_
    refine XS.sipush X2.here hx rfl (hb hby d6_17) ?_
    refine XS.icmpNo X2.here hx rfl (hb hby d6_20) rfl (tlt hr).2.2.2 ?_
    refine XS.iload X2.here hx rfl (hb hby d6_23) rfl ?_
    exact kz
  obtain ⟨fs, hrr, hrun, hended, hW, hsame⟩ := X2.leave (v := some (.int 1)) (fun h => by rw [Bd.returns] at h; cases h)
  refine ⟨_, _, ?_, hrun, hended, _, _, rfl, ?_, ⟨_, rfl⟩, hW, hsame.mono (by decide) (by decide)⟩
  · show Steps p.tables e below (T2.setTop (mkF m 25 #[.val (.ref ar), .val (.int 1), .val (.ref ab), .val (.int 1), .val (.int 3), .val (.int 1), .val (.int ch1)] [(.int 1)])) _
    exact retI X2 hx Bd.returns (hb hby d6_25) hrr
  · show QrmCi_3_1 Z ab h0 n0 _ T2.heap _
    rw [e2]
    exact ⟨rfl, N2, Kp2⟩
def QrmCi_3_2 (Z : State) (ab : Addr) (h0 : Heap) (n0 : Nat) (v : Option Value) (h : Heap) (L : List Loc) : Prop := v = some (.int 2) ∧ Fr n0 L ∧ Keep h0 h [ab]
set_option maxRecDepth 65536 in
set_option maxHeartbeats 40000000 in
theorem rmCi_3_2 (l : Launch) (Z : State) (a0 : Array Value) (hw : ∀ d ∈ tables_1, d.before a0 Z = true) (ws : List Jvm.Cond) (ar ab : Addr) (ka kb : ClassId) (ch0 ch1 ch2 : Int32) (h0 : Heap) (n0 : Nat) (Z0 : n0 ≤ h0.size) (Aa : Arv Z h0 ar ka .char (3 : Int32) [(.int ch0), (.int ch1), (.int ch2)] (.int 0)) (Ab : Arv Z h0 ab kb .byte (3 : Int32) [(.int 0), (.int 0), (.int 0)] (.int 0)) (hne : ar ≠ ab) (g_ab : n0 ≤ ab) (hl0 : ¬ (255 : Int32) < ch0) (hl1 : ¬ (255 : Int32) < ch1) (hr : (255 : Int32) < ch2) :
    MetFree l (⟨"java/lang/StringUTF16", "compress", "([CI[BII)I"⟩ : MethodName) (head1 (Jvm.Cond.code (⟨"java/lang/StringUTF16", "compress", "([CI[BII)I"⟩ : MethodName) jdk_52_method_21_code 7 (some .int) :: ws) ({ frames := 0, cells := 0, slots := 0, locals := 0 } : Room)) (fun ar_ U_ => ar_ = #[(.ref ar), (.int 0), (.ref ab), (.int 0), (.int 3)] ∧ Z.Warmed39 U_.vm ∧ U_.heap = h0) (fun _ _ _ _ _ => True) (fun _ U_ ou_ V_ => ∃ v_ L_, ou_ = .returned v_ ∧ QrmCi_3_2 Z ab h0 n0 v_ V_.heap L_ ∧ FrameEnd U_ ou_ V_ L_ ({ frames := 0, cells := 0, slots := 0, locals := 0 } : Room).cells ({ frames := 0, cells := 0, slots := 0, locals := 0 } : Room).slots) := by
  refine MetFree.of_bodySF (plainFor_of_name own_pn6) hisR ?_
  intro p e s m args below meth c s₁ Bd hml0 hP hK
  obtain ⟨rfl, hZ, hh⟩ := hP
  have hx := Bd.exec
  have hby := Bd.bytes
  have hml : c.maxLocals = 7 := hml0
  have hown : s.vm.findClass "java/lang/StringUTF16" = some m.cls := findClass_of_methodNamed Bd.named
  have hnm := (name_of_methodNamed Bd.named Bd.method).1
  have X0 : Stand p l e ({ frames := 0, cells := 0, slots := 0, locals := 0 } : Room) s m #[(.ref ar), (.int 0), (.ref ab), (.int 0), (.int 3)] below meth c s₁ [] 0 0 := Stand.of_body Bd
  have e0 : s₁.heap = h0 := by rw [← hh, Bd.state]; rfl
  have N0 := Fr.nil n0
  have Kp0 : Keep h0 h0 [ab] := Keep.refl h0 _
  refine own_go (A := s₁.setTop (mkF m 0 #[.val (.ref ar), .val (.int 0), .val (.ref ab), .val (.int 0), .val (.int 3), .unset, .unset] [])) (fun _ kz => castTop (own_ef6 m ar (0 : Int32) ab (0 : Int32) (3 : Int32)) kz) ?_
  refine own_go (A := s₁.setTop (mkF m 12 #[.val (.ref ar), .val (.int 0), .val (.ref ab), .val (.int 0), .val (.int 3), .val (.int 0), .unset] [(.int 0), (.ref ar)])) (fun _ kz => ?_) ?_
  · refine XS.iconst X0.here hx rfl (hb hby d6_0) ?_
    refine XS.istore X0.here hx rfl (hb hby d6_1) rfl (l' := #[.val (.ref ar), .val (.int 0), .val (.ref ab), .val (.int 0), .val (.int 3), .val (.int 0), .unset]) rfl ?_
    refine XS.iload X0.here hx rfl (hb hby d6_3) rfl ?_
    refine XS.iload X0.here hx rfl (hb hby d6_5) rfl ?_
    refine XS.icmpNo X0.here hx rfl (hb hby d6_7) rfl (tlt (by decide : ((0 : Int32) < (3 : Int32)))).2.1 ?_
    refine XS.aloadN X0.here hx rfl (hb hby d6_10) rfl rfl ?_
    refine XS.iloadN X0.here hx rfl (hb hby d6_11) rfl ?_
    exact kz
  obtain ⟨cl1, Ar1, -, S1, M1, H1, -⟩ := id Aa
  have hin1 : ¬ ((0 : Int32) < 0 ∨ cl1.slots.size ≤ ((0 : Int32)).toNatClampNeg) := inb_of S1 ⟨by decide, by decide⟩
  have hat1 : cl1.slots[((0 : Int32)).toNatClampNeg]? = some (.int ch0) := H1.at hin1 rfl
  refine own_go (A := s₁.setTop (mkF m 13 #[.val (.ref ar), .val (.int 0), .val (.ref ab), .val (.int 0), .val (.int 3), .val (.int 0), .unset] [(.int ch0)])) (fun _ kz => ?_) ?_
  · refine X0.caload hx (j := (0 : Int32)) (v := (.int ch0)) (by rw [e0]; exact Ar1.1) (State.isArrayOf_alike hZ.alike Ar1.2.1) Ar1.2.2 hin1 hat1 (g := (mkF m 12 #[.val (.ref ar), .val (.int 0), .val (.ref ab), .val (.int 0), .val (.int 3), .val (.int 0), .unset] [(.int 0), (.ref ar)])) rfl rfl (hb hby d6_12) _ ?_
    exact kz
  refine own_go (A := s₁.setTop (mkF m 31 #[.val (.ref ar), .val (.int 0), .val (.ref ab), .val (.int 0), .val (.int 3), .val (.int 0), .val (.int ch0)] [(.int (ch0.toInt8.toInt32)), (.int 0), (.ref ab)])) (fun _ kz => ?_) ?_
  · refine XS.istore X0.here hx rfl (hb hby d6_13) rfl (l' := #[.val (.ref ar), .val (.int 0), .val (.ref ab), .val (.int 0), .val (.int 3), .val (.int 0), .val (.int ch0)]) rfl ?_
    refine XS.iload X0.here hx rfl (hb hby d6_15) rfl ?_
    refine XS.sipush X0.here hx rfl (hb hby d6_17) ?_
    refine XS.icmpYes X0.here hx rfl (pc0 := 20) (pc' := 26) rfl (hb hby d6_20) rfl (flt hl0).2.2.2 (by decide) (by decide) ?_
    refine XS.aloadN X0.here hx rfl (hb hby d6_26) rfl rfl ?_
    refine XS.iloadN X0.here hx rfl (hb hby d6_27) rfl ?_
    refine XS.iload X0.here hx rfl (hb hby d6_28) rfl ?_
    refine XS.i2b X0.here hx rfl (hb hby d6_30) rfl ?_
    exact kz
  obtain ⟨cl2, Ar2, q2, S2, M2, H2, G2⟩ := id Ab
  have hin2 : ¬ ((0 : Int32) < 0 ∨ cl2.slots.size ≤ ((0 : Int32)).toNatClampNeg) := inb_of S2 ⟨by decide, by decide⟩
  obtain ⟨T2, h2, X2, e2, W2, st2⟩ := stB X0 hx hZ e0 Ar2 (j := (0 : Int32)) hin2 (g := (mkF m 31 #[.val (.ref ar), .val (.int 0), .val (.ref ab), .val (.int 0), .val (.int 3), .val (.int 0), .val (.int ch0)] [(.int (ch0.toInt8.toInt32)), (.int 0), (.ref ab)])) rfl rfl (hb hby d6_31)
  rw [own_nbn] at W2
  have Aw2 := Arv.set Ar2 q2 S2 M2 H2 G2 (fits_nar_byte _) W2 0 rfl (Nat.le_of_ble_eq_true rfl)
  replace Aa := Aa.other W2 hne
  have Z2 : n0 ≤ h2.size := Nat.le_trans Z0 (Keep.of_wr W2).1
  have Kp2 : Keep h0 h2 [ab] := Kp0.wr W2 (Or.inl (List.mem_of_getElem? (i := 0) rfl))
  have Av_ab : Arv Z h2 ab kb .byte (3 : Int32) [(.int (ch0.toInt8.toInt32)), (.int 0), (.int 0)] (.int 0) := Aw2
  have N2 := Fr.snoc X2 N0 g_ab
  refine own_go (A := T2.setTop (mkF m 32 #[.val (.ref ar), .val (.int 0), .val (.ref ab), .val (.int 0), .val (.int 3), .val (.int 0), .val (.int ch0)] [])) (fun _ kz => st2 _ kz) ?_
  refine own_go (A := T2.setTop (mkF m 12 #[.val (.ref ar), .val (.int 1), .val (.ref ab), .val (.int 1), .val (.int 3), .val (.int 1), .val (.int ch0)] [(.int 1), (.ref ar)])) (fun _ kz => ?_) ?_
  · refine XS.iinc X2.here hx rfl (hb hby d6_32) rfl (l' := #[.val (.ref ar), .val (.int 1), .val (.ref ab), .val (.int 0), .val (.int 3), .val (.int 0), .val (.int ch0)]) rfl ?_
    refine XS.iinc X2.here hx rfl (hb hby d6_35) rfl (l' := #[.val (.ref ar), .val (.int 1), .val (.ref ab), .val (.int 1), .val (.int 3), .val (.int 0), .val (.int ch0)]) rfl ?_
    refine XS.iinc X2.here hx rfl (hb hby d6_38) rfl (l' := #[.val (.ref ar), .val (.int 1), .val (.ref ab), .val (.int 1), .val (.int 3), .val (.int 1), .val (.int ch0)]) rfl ?_
    refine XS.goto X2.here hx rfl (pc0 := 41) (pc' := 3) rfl (hb hby d6_41) (by decide) (by decide) ?_
    refine XS.iload X2.here hx rfl (hb hby d6_3) rfl ?_
    refine XS.iload X2.here hx rfl (hb hby d6_5) rfl ?_
    refine XS.icmpNo X2.here hx rfl (hb hby d6_7) rfl (tlt (by decide : ((1 : Int32) < (3 : Int32)))).2.1 ?_
    refine XS.aloadN X2.here hx rfl (hb hby d6_10) rfl rfl ?_
    refine XS.iloadN X2.here hx rfl (hb hby d6_11) rfl ?_
    exact kz
  obtain ⟨cl3, Ar3, -, S3, M3, H3, -⟩ := id Aa
  have hin3 : ¬ ((1 : Int32) < 0 ∨ cl3.slots.size ≤ ((1 : Int32)).toNatClampNeg) := inb_of S3 ⟨by decide, by decide⟩
  have hat3 : cl3.slots[((1 : Int32)).toNatClampNeg]? = some (.int ch1) := H3.at hin3 rfl
  refine own_go (A := T2.setTop (mkF m 13 #[.val (.ref ar), .val (.int 1), .val (.ref ab), .val (.int 1), .val (.int 3), .val (.int 1), .val (.int ch0)] [(.int ch1)])) (fun _ kz => ?_) ?_
  · refine X2.caload hx (j := (1 : Int32)) (v := (.int ch1)) (by rw [e2]; exact Ar3.1) (State.isArrayOf_alike hZ.alike Ar3.2.1) Ar3.2.2 hin3 hat3 (g := (mkF m 12 #[.val (.ref ar), .val (.int 1), .val (.ref ab), .val (.int 1), .val (.int 3), .val (.int 1), .val (.int ch0)] [(.int 1), (.ref ar)])) rfl rfl (hb hby d6_12) _ ?_
    exact kz
  refine own_go (A := T2.setTop (mkF m 31 #[.val (.ref ar), .val (.int 1), .val (.ref ab), .val (.int 1), .val (.int 3), .val (.int 1), .val (.int ch1)] [(.int (ch1.toInt8.toInt32)), (.int 1), (.ref ab)])) (fun _ kz => ?_) ?_
  · refine XS.istore X2.here hx rfl (hb hby d6_13) rfl (l' := #[.val (.ref ar), .val (.int 1), .val (.ref ab), .val (.int 1), .val (.int 3), .val (.int 1), .val (.int ch1)]) rfl ?_
    refine XS.iload X2.here hx rfl (hb hby d6_15) rfl ?_
    refine XS.sipush X2.here hx rfl (hb hby d6_17) ?_
    refine XS.icmpYes X2.here hx rfl (pc0 := 20) (pc' := 26) rfl (hb hby d6_20) rfl (flt hl1).2.2.2 (by decide) (by decide) ?_
    refine XS.aloadN X2.here hx rfl (hb hby d6_26) rfl rfl ?_
    refine XS.iloadN X2.here hx rfl (hb hby d6_27) rfl ?_
    refine XS.iload X2.here hx rfl (hb hby d6_28) rfl ?_
    refine XS.i2b X2.here hx rfl (hb hby d6_30) rfl ?_
    exact kz
  obtain ⟨cl4, Ar4, q4, S4, M4, H4, G4⟩ := id Av_ab
  have hin4 : ¬ ((1 : Int32) < 0 ∨ cl4.slots.size ≤ ((1 : Int32)).toNatClampNeg) := inb_of S4 ⟨by decide, by decide⟩
  obtain ⟨T4, h4, X4, e4, W4, st4⟩ := stB X2 hx hZ e2 Ar4 (j := (1 : Int32)) hin4 (g := (mkF m 31 #[.val (.ref ar), .val (.int 1), .val (.ref ab), .val (.int 1), .val (.int 3), .val (.int 1), .val (.int ch1)] [(.int (ch1.toInt8.toInt32)), (.int 1), (.ref ab)])) rfl rfl (hb hby d6_31)
  rw [own_nbn] at W4
  have Aw4 := Arv.set Ar4 q4 S4 M4 H4 G4 (fits_nar_byte _) W4 1 rfl (Nat.le_of_ble_eq_true rfl)
  replace Aa := Aa.other W4 hne
  have Z4 : n0 ≤ h4.size := Nat.le_trans Z2 (Keep.of_wr W4).1
  have Kp4 : Keep h0 h4 [ab] := Kp2.wr W4 (Or.inl (List.mem_of_getElem? (i := 0) rfl))
  have Av_ab : Arv Z h4 ab kb .byte (3 : Int32) [(.int (ch0.toInt8.toInt32)), (.int (ch1.toInt8.toInt32)), (.int 0)] (.int 0) := Aw4
  have N4 := Fr.snoc X4 N2 g_ab
  refine own_go (A := T4.setTop (mkF m 32 #[.val (.ref ar), .val (.int 1), .val (.ref ab), .val (.int 1), .val (.int 3), .val (.int 1), .val (.int ch1)] [])) (fun _ kz => st4 _ kz) ?_
  refine own_go (A := T4.setTop (mkF m 12 #[.val (.ref ar), .val (.int 2), .val (.ref ab), .val (.int 2), .val (.int 3), .val (.int 2), .val (.int ch1)] [(.int 2), (.ref ar)])) (fun _ kz => ?_) ?_
  · refine XS.iinc X4.here hx rfl (hb hby d6_32) rfl (l' := #[.val (.ref ar), .val (.int 2), .val (.ref ab), .val (.int 1), .val (.int 3), .val (.int 1), .val (.int ch1)]) rfl ?_
    refine XS.iinc X4.here hx rfl (hb hby d6_35) rfl (l' := #[.val (.ref ar), .val (.int 2), .val (.ref ab), .val (.int 2), .val (.int 3), .val (.int 1), .val (.int ch1)]) rfl ?_
    refine XS.iinc X4.here hx rfl (hb hby d6_38) rfl (l' := #[.val (.ref ar), .val (.int 2), .val (.ref ab), .val (.int 2), .val (.int 3), .val (.int 2), .val (.int ch1)]) rfl ?_
    refine XS.goto X4.here hx rfl (pc0 := 41) (pc' := 3) rfl (hb hby d6_41) (by decide) (by decide) ?_
    refine XS.iload X4.here hx rfl (hb hby d6_3) rfl ?_
    refine XS.iload X4.here hx rfl (hb hby d6_5) rfl ?_
    refine XS.icmpNo X4.here hx rfl (hb hby d6_7) rfl (tlt (by decide : ((2 : Int32) < (3 : Int32)))).2.1 ?_
    refine XS.aloadN X4.here hx rfl (hb hby d6_10) rfl rfl ?_
    refine XS.iloadN X4.here hx rfl (hb hby d6_11) rfl ?_
    exact kz
  obtain ⟨cl5, Ar5, -, S5, M5, H5, -⟩ := id Aa
  have hin5 : ¬ ((2 : Int32) < 0 ∨ cl5.slots.size ≤ ((2 : Int32)).toNatClampNeg) := inb_of S5 ⟨by decide, by decide⟩
  have hat5 : cl5.slots[((2 : Int32)).toNatClampNeg]? = some (.int ch2) := H5.at hin5 rfl
  refine own_go (A := T4.setTop (mkF m 13 #[.val (.ref ar), .val (.int 2), .val (.ref ab), .val (.int 2), .val (.int 3), .val (.int 2), .val (.int ch1)] [(.int ch2)])) (fun _ kz => ?_) ?_
  · refine X4.caload hx (j := (2 : Int32)) (v := (.int ch2)) (by rw [e4]; exact Ar5.1) (State.isArrayOf_alike hZ.alike Ar5.2.1) Ar5.2.2 hin5 hat5 (g := (mkF m 12 #[.val (.ref ar), .val (.int 2), .val (.ref ab), .val (.int 2), .val (.int 3), .val (.int 2), .val (.int ch1)] [(.int 2), (.ref ar)])) rfl rfl (hb hby d6_12) _ ?_
    exact kz
  refine own_go (A := T4.setTop (mkF m 25 #[.val (.ref ar), .val (.int 2), .val (.ref ab), .val (.int 2), .val (.int 3), .val (.int 2), .val (.int ch2)] [(.int 2)])) (fun _ kz => ?_) ?_
  · refine XS.istore X4.here hx rfl (hb hby d6_13) rfl (l' := #[.val (.ref ar), .val (.int 2), .val (.ref ab), .val (.int 2), .val (.int 3), .val (.int 2), .val (.int ch2)]) rfl ?_
    refine XS.iload X4.here hx rfl (hb hby d6_15) rfl ?_
    refine XS.sipush X4.here hx rfl (hb hby d6_17) ?_
    refine XS.icmpNo X4.here hx rfl (hb hby d6_20) rfl (tlt hr).2.2.2 ?_
    refine XS.iload X4.here hx rfl (hb hby d6_23) rfl ?_
    exact kz
  obtain ⟨fs, hrr, hrun, hended, hW, hsame⟩ := X4.leave (v := some (.int 2)) (fun h => by rw [Bd.returns] at h; cases h)
  refine ⟨_, _, ?_, hrun, hended, _, _, rfl, ?_, ⟨_, rfl⟩, hW, hsame.mono (by decide) (by decide)⟩
  · show Steps p.tables e below (T4.setTop (mkF m 25 #[.val (.ref ar), .val (.int 2), .val (.ref ab), .val (.int 2), .val (.int 3), .val (.int 2), .val (.int ch2)] [(.int 2)])) _
    exact retI X4 hx Bd.returns (hb hby d6_25) hrr
  · show QrmCi_3_2 Z ab h0 n0 _ T4.heap _
    rw [e4]
    exact ⟨rfl, N4, Kp4⟩
def QrmCi_3_3 (Z : State) (ab : Addr) (kb : ClassId) (ch0 : Int32) (ch1 : Int32) (ch2 : Int32) (h0 : Heap) (n0 : Nat) (v : Option Value) (h : Heap) (L : List Loc) : Prop := v = some (.int 3) ∧ Fr n0 L ∧ Keep h0 h [ab] ∧ Arv Z h ab kb .byte (3 : Int32) [(.int (ch0.toInt8.toInt32)), (.int (ch1.toInt8.toInt32)), (.int (ch2.toInt8.toInt32))] (.int 0)
set_option maxRecDepth 65536 in
set_option maxHeartbeats 40000000 in
theorem rmCi_3_3 (l : Launch) (Z : State) (a0 : Array Value) (hw : ∀ d ∈ tables_1, d.before a0 Z = true) (ws : List Jvm.Cond) (ar ab : Addr) (ka kb : ClassId) (ch0 ch1 ch2 : Int32) (h0 : Heap) (n0 : Nat) (Z0 : n0 ≤ h0.size) (Aa : Arv Z h0 ar ka .char (3 : Int32) [(.int ch0), (.int ch1), (.int ch2)] (.int 0)) (Ab : Arv Z h0 ab kb .byte (3 : Int32) [(.int 0), (.int 0), (.int 0)] (.int 0)) (hne : ar ≠ ab) (g_ab : n0 ≤ ab) (hl0 : ¬ (255 : Int32) < ch0) (hl1 : ¬ (255 : Int32) < ch1) (hl2 : ¬ (255 : Int32) < ch2) :
    MetFree l (⟨"java/lang/StringUTF16", "compress", "([CI[BII)I"⟩ : MethodName) (head1 (Jvm.Cond.code (⟨"java/lang/StringUTF16", "compress", "([CI[BII)I"⟩ : MethodName) jdk_52_method_21_code 7 (some .int) :: ws) ({ frames := 0, cells := 0, slots := 0, locals := 0 } : Room)) (fun ar_ U_ => ar_ = #[(.ref ar), (.int 0), (.ref ab), (.int 0), (.int 3)] ∧ Z.Warmed39 U_.vm ∧ U_.heap = h0) (fun _ _ _ _ _ => True) (fun _ U_ ou_ V_ => ∃ v_ L_, ou_ = .returned v_ ∧ QrmCi_3_3 Z ab kb ch0 ch1 ch2 h0 n0 v_ V_.heap L_ ∧ FrameEnd U_ ou_ V_ L_ ({ frames := 0, cells := 0, slots := 0, locals := 0 } : Room).cells ({ frames := 0, cells := 0, slots := 0, locals := 0 } : Room).slots) := by
  refine MetFree.of_bodySF (plainFor_of_name own_pn6) hisR ?_
  intro p e s m args below meth c s₁ Bd hml0 hP hK
  obtain ⟨rfl, hZ, hh⟩ := hP
  have hx := Bd.exec
  have hby := Bd.bytes
  have hml : c.maxLocals = 7 := hml0
  have hown : s.vm.findClass "java/lang/StringUTF16" = some m.cls := findClass_of_methodNamed Bd.named
  have hnm := (name_of_methodNamed Bd.named Bd.method).1
  have X0 : Stand p l e ({ frames := 0, cells := 0, slots := 0, locals := 0 } : Room) s m #[(.ref ar), (.int 0), (.ref ab), (.int 0), (.int 3)] below meth c s₁ [] 0 0 := Stand.of_body Bd
  have e0 : s₁.heap = h0 := by rw [← hh, Bd.state]; rfl
  have N0 := Fr.nil n0
  have Kp0 : Keep h0 h0 [ab] := Keep.refl h0 _
  refine own_go (A := s₁.setTop (mkF m 0 #[.val (.ref ar), .val (.int 0), .val (.ref ab), .val (.int 0), .val (.int 3), .unset, .unset] [])) (fun _ kz => castTop (own_ef6 m ar (0 : Int32) ab (0 : Int32) (3 : Int32)) kz) ?_
  refine own_go (A := s₁.setTop (mkF m 12 #[.val (.ref ar), .val (.int 0), .val (.ref ab), .val (.int 0), .val (.int 3), .val (.int 0), .unset] [(.int 0), (.ref ar)])) (fun _ kz => ?_) ?_
  · refine XS.iconst X0.here hx rfl (hb hby d6_0) ?_
    refine XS.istore X0.here hx rfl (hb hby d6_1) rfl (l' := #[.val (.ref ar), .val (.int 0), .val (.ref ab), .val (.int 0), .val (.int 3), .val (.int 0), .unset]) rfl ?_
    refine XS.iload X0.here hx rfl (hb hby d6_3) rfl ?_
    refine XS.iload X0.here hx rfl (hb hby d6_5) rfl ?_
    refine XS.icmpNo X0.here hx rfl (hb hby d6_7) rfl (tlt (by decide : ((0 : Int32) < (3 : Int32)))).2.1 ?_
    refine XS.aloadN X0.here hx rfl (hb hby d6_10) rfl rfl ?_
    refine XS.iloadN X0.here hx rfl (hb hby d6_11) rfl ?_
    exact kz
  obtain ⟨cl1, Ar1, -, S1, M1, H1, -⟩ := id Aa
  have hin1 : ¬ ((0 : Int32) < 0 ∨ cl1.slots.size ≤ ((0 : Int32)).toNatClampNeg) := inb_of S1 ⟨by decide, by decide⟩
  have hat1 : cl1.slots[((0 : Int32)).toNatClampNeg]? = some (.int ch0) := H1.at hin1 rfl
  refine own_go (A := s₁.setTop (mkF m 13 #[.val (.ref ar), .val (.int 0), .val (.ref ab), .val (.int 0), .val (.int 3), .val (.int 0), .unset] [(.int ch0)])) (fun _ kz => ?_) ?_
  · refine X0.caload hx (j := (0 : Int32)) (v := (.int ch0)) (by rw [e0]; exact Ar1.1) (State.isArrayOf_alike hZ.alike Ar1.2.1) Ar1.2.2 hin1 hat1 (g := (mkF m 12 #[.val (.ref ar), .val (.int 0), .val (.ref ab), .val (.int 0), .val (.int 3), .val (.int 0), .unset] [(.int 0), (.ref ar)])) rfl rfl (hb hby d6_12) _ ?_
    exact kz
  refine own_go (A := s₁.setTop (mkF m 31 #[.val (.ref ar), .val (.int 0), .val (.ref ab), .val (.int 0), .val (.int 3), .val (.int 0), .val (.int ch0)] [(.int (ch0.toInt8.toInt32)), (.int 0), (.ref ab)])) (fun _ kz => ?_) ?_
  · refine XS.istore X0.here hx rfl (hb hby d6_13) rfl (l' := #[.val (.ref ar), .val (.int 0), .val (.ref ab), .val (.int 0), .val (.int 3), .val (.int 0), .val (.int ch0)]) rfl ?_
    refine XS.iload X0.here hx rfl (hb hby d6_15) rfl ?_
    refine XS.sipush X0.here hx rfl (hb hby d6_17) ?_
    refine XS.icmpYes X0.here hx rfl (pc0 := 20) (pc' := 26) rfl (hb hby d6_20) rfl (flt hl0).2.2.2 (by decide) (by decide) ?_
    refine XS.aloadN X0.here hx rfl (hb hby d6_26) rfl rfl ?_
    refine XS.iloadN X0.here hx rfl (hb hby d6_27) rfl ?_
    refine XS.iload X0.here hx rfl (hb hby d6_28) rfl ?_
    refine XS.i2b X0.here hx rfl (hb hby d6_30) rfl ?_
    exact kz
  obtain ⟨cl2, Ar2, q2, S2, M2, H2, G2⟩ := id Ab
  have hin2 : ¬ ((0 : Int32) < 0 ∨ cl2.slots.size ≤ ((0 : Int32)).toNatClampNeg) := inb_of S2 ⟨by decide, by decide⟩
  obtain ⟨T2, h2, X2, e2, W2, st2⟩ := stB X0 hx hZ e0 Ar2 (j := (0 : Int32)) hin2 (g := (mkF m 31 #[.val (.ref ar), .val (.int 0), .val (.ref ab), .val (.int 0), .val (.int 3), .val (.int 0), .val (.int ch0)] [(.int (ch0.toInt8.toInt32)), (.int 0), (.ref ab)])) rfl rfl (hb hby d6_31)
  rw [own_nbn] at W2
  have Aw2 := Arv.set Ar2 q2 S2 M2 H2 G2 (fits_nar_byte _) W2 0 rfl (Nat.le_of_ble_eq_true rfl)
  replace Aa := Aa.other W2 hne
  have Z2 : n0 ≤ h2.size := Nat.le_trans Z0 (Keep.of_wr W2).1
  have Kp2 : Keep h0 h2 [ab] := Kp0.wr W2 (Or.inl (List.mem_of_getElem? (i := 0) rfl))
  have Av_ab : Arv Z h2 ab kb .byte (3 : Int32) [(.int (ch0.toInt8.toInt32)), (.int 0), (.int 0)] (.int 0) := Aw2
  have N2 := Fr.snoc X2 N0 g_ab
  refine own_go (A := T2.setTop (mkF m 32 #[.val (.ref ar), .val (.int 0), .val (.ref ab), .val (.int 0), .val (.int 3), .val (.int 0), .val (.int ch0)] [])) (fun _ kz => st2 _ kz) ?_
  refine own_go (A := T2.setTop (mkF m 12 #[.val (.ref ar), .val (.int 1), .val (.ref ab), .val (.int 1), .val (.int 3), .val (.int 1), .val (.int ch0)] [(.int 1), (.ref ar)])) (fun _ kz => ?_) ?_
  · refine XS.iinc X2.here hx rfl (hb hby d6_32) rfl (l' := #[.val (.ref ar), .val (.int 1), .val (.ref ab), .val (.int 0), .val (.int 3), .val (.int 0), .val (.int ch0)]) rfl ?_
    refine XS.iinc X2.here hx rfl (hb hby d6_35) rfl (l' := #[.val (.ref ar), .val (.int 1), .val (.ref ab), .val (.int 1), .val (.int 3), .val (.int 0), .val (.int ch0)]) rfl ?_
    refine XS.iinc X2.here hx rfl (hb hby d6_38) rfl (l' := #[.val (.ref ar), .val (.int 1), .val (.ref ab), .val (.int 1), .val (.int 3), .val (.int 1), .val (.int ch0)]) rfl ?_
    refine XS.goto X2.here hx rfl (pc0 := 41) (pc' := 3) rfl (hb hby d6_41) (by decide) (by decide) ?_
    refine XS.iload X2.here hx rfl (hb hby d6_3) rfl ?_
    refine XS.iload X2.here hx rfl (hb hby d6_5) rfl ?_
    refine XS.icmpNo X2.here hx rfl (hb hby d6_7) rfl (tlt (by decide : ((1 : Int32) < (3 : Int32)))).2.1 ?_
    refine XS.aloadN X2.here hx rfl (hb hby d6_10) rfl rfl ?_
    refine XS.iloadN X2.here hx rfl (hb hby d6_11) rfl ?_
    exact kz
  obtain ⟨cl3, Ar3, -, S3, M3, H3, -⟩ := id Aa
  have hin3 : ¬ ((1 : Int32) < 0 ∨ cl3.slots.size ≤ ((1 : Int32)).toNatClampNeg) := inb_of S3 ⟨by decide, by decide⟩
  have hat3 : cl3.slots[((1 : Int32)).toNatClampNeg]? = some (.int ch1) := H3.at hin3 rfl
  refine own_go (A := T2.setTop (mkF m 13 #[.val (.ref ar), .val (.int 1), .val (.ref ab), .val (.int 1), .val (.int 3), .val (.int 1), .val (.int ch0)] [(.int ch1)])) (fun _ kz => ?_) ?_
  · refine X2.caload hx (j := (1 : Int32)) (v := (.int ch1)) (by rw [e2]; exact Ar3.1) (State.isArrayOf_alike hZ.alike Ar3.2.1) Ar3.2.2 hin3 hat3 (g := (mkF m 12 #[.val (.ref ar), .val (.int 1), .val (.ref ab), .val (.int 1), .val (.int 3), .val (.int 1), .val (.int ch0)] [(.int 1), (.ref ar)])) rfl rfl (hb hby d6_12) _ ?_
    exact kz
  refine own_go (A := T2.setTop (mkF m 31 #[.val (.ref ar), .val (.int 1), .val (.ref ab), .val (.int 1), .val (.int 3), .val (.int 1), .val (.int ch1)] [(.int (ch1.toInt8.toInt32)), (.int 1), (.ref ab)])) (fun _ kz => ?_) ?_
  · refine XS.istore X2.here hx rfl (hb hby d6_13) rfl (l' := #[.val (.ref ar), .val (.int 1), .val (.ref ab), .val (.int 1), .val (.int 3), .val (.int 1), .val (.int ch1)]) rfl ?_
    refine XS.iload X2.here hx rfl (hb hby d6_15) rfl ?_
    refine XS.sipush X2.here hx rfl (hb hby d6_17) ?_
    refine XS.icmpYes X2.here hx rfl (pc0 := 20) (pc' := 26) rfl (hb hby d6_20) rfl (flt hl1).2.2.2 (by decide) (by decide) ?_
    refine XS.aloadN X2.here hx rfl (hb hby d6_26) rfl rfl ?_
    refine XS.iloadN X2.here hx rfl (hb hby d6_27) rfl ?_
    refine XS.iload X2.here hx rfl (hb hby d6_28) rfl ?_
    refine XS.i2b X2.here hx rfl (hb hby d6_30) rfl ?_
    exact kz
  obtain ⟨cl4, Ar4, q4, S4, M4, H4, G4⟩ := id Av_ab
  have hin4 : ¬ ((1 : Int32) < 0 ∨ cl4.slots.size ≤ ((1 : Int32)).toNatClampNeg) := inb_of S4 ⟨by decide, by decide⟩
  obtain ⟨T4, h4, X4, e4, W4, st4⟩ := stB X2 hx hZ e2 Ar4 (j := (1 : Int32)) hin4 (g := (mkF m 31 #[.val (.ref ar), .val (.int 1), .val (.ref ab), .val (.int 1), .val (.int 3), .val (.int 1), .val (.int ch1)] [(.int (ch1.toInt8.toInt32)), (.int 1), (.ref ab)])) rfl rfl (hb hby d6_31)
  rw [own_nbn] at W4
  have Aw4 := Arv.set Ar4 q4 S4 M4 H4 G4 (fits_nar_byte _) W4 1 rfl (Nat.le_of_ble_eq_true rfl)
  replace Aa := Aa.other W4 hne
  have Z4 : n0 ≤ h4.size := Nat.le_trans Z2 (Keep.of_wr W4).1
  have Kp4 : Keep h0 h4 [ab] := Kp2.wr W4 (Or.inl (List.mem_of_getElem? (i := 0) rfl))
  have Av_ab : Arv Z h4 ab kb .byte (3 : Int32) [(.int (ch0.toInt8.toInt32)), (.int (ch1.toInt8.toInt32)), (.int 0)] (.int 0) := Aw4
  have N4 := Fr.snoc X4 N2 g_ab
  refine own_go (A := T4.setTop (mkF m 32 #[.val (.ref ar), .val (.int 1), .val (.ref ab), .val (.int 1), .val (.int 3), .val (.int 1), .val (.int ch1)] [])) (fun _ kz => st4 _ kz) ?_
  refine own_go (A := T4.setTop (mkF m 12 #[.val (.ref ar), .val (.int 2), .val (.ref ab), .val (.int 2), .val (.int 3), .val (.int 2), .val (.int ch1)] [(.int 2), (.ref ar)])) (fun _ kz => ?_) ?_
  · refine XS.iinc X4.here hx rfl (hb hby d6_32) rfl (l' := #[.val (.ref ar), .val (.int 2), .val (.ref ab), .val (.int 1), .val (.int 3), .val (.int 1), .val (.int ch1)]) rfl ?_
    refine XS.iinc X4.here hx rfl (hb hby d6_35) rfl (l' := #[.val (.ref ar), .val (.int 2), .val (.ref ab), .val (.int 2), .val (.int 3), .val (.int 1), .val (.int ch1)]) rfl ?_
    refine XS.iinc X4.here hx rfl (hb hby d6_38) rfl (l' := #[.val (.ref ar), .val (.int 2), .val (.ref ab), .val (.int 2), .val (.int 3), .val (.int 2), .val (.int ch1)]) rfl ?_
    refine XS.goto X4.here hx rfl (pc0 := 41) (pc' := 3) rfl (hb hby d6_41) (by decide) (by decide) ?_
    refine XS.iload X4.here hx rfl (hb hby d6_3) rfl ?_
    refine XS.iload X4.here hx rfl (hb hby d6_5) rfl ?_
    refine XS.icmpNo X4.here hx rfl (hb hby d6_7) rfl (tlt (by decide : ((2 : Int32) < (3 : Int32)))).2.1 ?_
    refine XS.aloadN X4.here hx rfl (hb hby d6_10) rfl rfl ?_
    refine XS.iloadN X4.here hx rfl (hb hby d6_11) rfl ?_
    exact kz
  obtain ⟨cl5, Ar5, -, S5, M5, H5, -⟩ := id Aa
  have hin5 : ¬ ((2 : Int32) < 0 ∨ cl5.slots.size ≤ ((2 : Int32)).toNatClampNeg) := inb_of S5 ⟨by decide, by decide⟩
  have hat5 : cl5.slots[((2 : Int32)).toNatClampNeg]? = some (.int ch2) := H5.at hin5 rfl
  refine own_go (A := T4.setTop (mkF m 13 #[.val (.ref ar), .val (.int 2), .val (.ref ab), .val (.int 2), .val (.int 3), .val (.int 2), .val (.int ch1)] [(.int ch2)])) (fun _ kz => ?_) ?_
  · refine X4.caload hx (j := (2 : Int32)) (v := (.int ch2)) (by rw [e4]; exact Ar5.1) (State.isArrayOf_alike hZ.alike Ar5.2.1) Ar5.2.2 hin5 hat5 (g := (mkF m 12 #[.val (.ref ar), .val (.int 2), .val (.ref ab), .val (.int 2), .val (.int 3), .val (.int 2), .val (.int ch1)] [(.int 2), (.ref ar)])) rfl rfl (hb hby d6_12) _ ?_
    exact kz
  refine own_go (A := T4.setTop (mkF m 31 #[.val (.ref ar), .val (.int 2), .val (.ref ab), .val (.int 2), .val (.int 3), .val (.int 2), .val (.int ch2)] [(.int (ch2.toInt8.toInt32)), (.int 2), (.ref ab)])) (fun _ kz => ?_) ?_
  · refine XS.istore X4.here hx rfl (hb hby d6_13) rfl (l' := #[.val (.ref ar), .val (.int 2), .val (.ref ab), .val (.int 2), .val (.int 3), .val (.int 2), .val (.int ch2)]) rfl ?_
    refine XS.iload X4.here hx rfl (hb hby d6_15) rfl ?_
    refine XS.sipush X4.here hx rfl (hb hby d6_17) ?_
    refine XS.icmpYes X4.here hx rfl (pc0 := 20) (pc' := 26) rfl (hb hby d6_20) rfl (flt hl2).2.2.2 (by decide) (by decide) ?_
    refine XS.aloadN X4.here hx rfl (hb hby d6_26) rfl rfl ?_
    refine XS.iloadN X4.here hx rfl (hb hby d6_27) rfl ?_
    refine XS.iload X4.here hx rfl (hb hby d6_28) rfl ?_
    refine XS.i2b X4.here hx rfl (hb hby d6_30) rfl ?_
    exact kz
  obtain ⟨cl6, Ar6, q6, S6, M6, H6, G6⟩ := id Av_ab
  have hin6 : ¬ ((2 : Int32) < 0 ∨ cl6.slots.size ≤ ((2 : Int32)).toNatClampNeg) := inb_of S6 ⟨by decide, by decide⟩
  obtain ⟨T6, h6, X6, e6, W6, st6⟩ := stB X4 hx hZ e4 Ar6 (j := (2 : Int32)) hin6 (g := (mkF m 31 #[.val (.ref ar), .val (.int 2), .val (.ref ab), .val (.int 2), .val (.int 3), .val (.int 2), .val (.int ch2)] [(.int (ch2.toInt8.toInt32)), (.int 2), (.ref ab)])) rfl rfl (hb hby d6_31)
  rw [own_nbn] at W6
  have Aw6 := Arv.set Ar6 q6 S6 M6 H6 G6 (fits_nar_byte _) W6 2 rfl (Nat.le_of_ble_eq_true rfl)
  replace Aa := Aa.other W6 hne
  have Z6 : n0 ≤ h6.size := Nat.le_trans Z4 (Keep.of_wr W6).1
  have Kp6 : Keep h0 h6 [ab] := Kp4.wr W6 (Or.inl (List.mem_of_getElem? (i := 0) rfl))
  have Av_ab : Arv Z h6 ab kb .byte (3 : Int32) [(.int (ch0.toInt8.toInt32)), (.int (ch1.toInt8.toInt32)), (.int (ch2.toInt8.toInt32))] (.int 0) := Aw6
  have N6 := Fr.snoc X6 N4 g_ab
  refine own_go (A := T6.setTop (mkF m 32 #[.val (.ref ar), .val (.int 2), .val (.ref ab), .val (.int 2), .val (.int 3), .val (.int 2), .val (.int ch2)] [])) (fun _ kz => st6 _ kz) ?_
  refine own_go (A := T6.setTop (mkF m 46 #[.val (.ref ar), .val (.int 3), .val (.ref ab), .val (.int 3), .val (.int 3), .val (.int 3), .val (.int ch2)] [(.int 3)])) (fun _ kz => ?_) ?_
  · refine XS.iinc X6.here hx rfl (hb hby d6_32) rfl (l' := #[.val (.ref ar), .val (.int 3), .val (.ref ab), .val (.int 2), .val (.int 3), .val (.int 2), .val (.int ch2)]) rfl ?_
    refine XS.iinc X6.here hx rfl (hb hby d6_35) rfl (l' := #[.val (.ref ar), .val (.int 3), .val (.ref ab), .val (.int 3), .val (.int 3), .val (.int 2), .val (.int ch2)]) rfl ?_
    refine XS.iinc X6.here hx rfl (hb hby d6_38) rfl (l' := #[.val (.ref ar), .val (.int 3), .val (.ref ab), .val (.int 3), .val (.int 3), .val (.int 3), .val (.int ch2)]) rfl ?_
    refine XS.goto X6.here hx rfl (pc0 := 41) (pc' := 3) rfl (hb hby d6_41) (by decide) (by decide) ?_
    refine XS.iload X6.here hx rfl (hb hby d6_3) rfl ?_
    refine XS.iload X6.here hx rfl (hb hby d6_5) rfl ?_
    refine XS.icmpYes X6.here hx rfl (pc0 := 7) (pc' := 44) rfl (hb hby d6_7) rfl (flt (by decide : ¬ ((3 : Int32) < (3 : Int32)))).2.1 (by decide) (by decide) ?_
    refine XS.iload X6.here hx rfl (hb hby d6_44) rfl ?_
    exact kz
  obtain ⟨fs, hrr, hrun, hended, hW, hsame⟩ := X6.leave (v := some (.int 3)) (fun h => by rw [Bd.returns] at h; cases h)
  refine ⟨_, _, ?_, hrun, hended, _, _, rfl, ?_, ⟨_, rfl⟩, hW, hsame.mono (by decide) (by decide)⟩
  · show Steps p.tables e below (T6.setTop (mkF m 46 #[.val (.ref ar), .val (.int 3), .val (.ref ab), .val (.int 3), .val (.int 3), .val (.int 3), .val (.int ch2)] [(.int 3)])) _
    exact retI X6 hx Bd.returns (hb hby d6_46) hrr
  · show QrmCi_3_3 Z ab kb ch0 ch1 ch2 h0 n0 _ T6.heap _
    rw [e6]
    exact ⟨rfl, N6, Kp6, Av_ab⟩
def QrmNL_3 (Z : State)  (h0 : Heap) (n0 : Nat) (v : Option Value) (h : Heap) (L : List Loc) : Prop := v = some (.int 6) ∧ Fr n0 L ∧ h = h0
set_option maxRecDepth 65536 in
set_option maxHeartbeats 40000000 in
theorem rmNL_3 (l : Launch) (Z : State) (a0 : Array Value) (hw : ∀ d ∈ tables_1, d.before a0 Z = true) (ws : List Jvm.Cond)  (h0 : Heap) (n0 : Nat) (Z0 : n0 ≤ h0.size)  :
    MetFree l (⟨"java/lang/StringUTF16", "newBytesLength", "(I)I"⟩ : MethodName) (head1 (Jvm.Cond.code (⟨"java/lang/StringUTF16", "newBytesLength", "(I)I"⟩ : MethodName) jdk_52_method_3_code 1 (some .int) :: ws) ({ frames := 0, cells := 0, slots := 0, locals := 0 } : Room)) (fun ar_ U_ => ar_ = #[(.int 3)] ∧ Z.Warmed39 U_.vm ∧ U_.heap = h0) (fun _ _ _ _ _ => True) (fun _ U_ ou_ V_ => ∃ v_ L_, ou_ = .returned v_ ∧ QrmNL_3 Z  h0 n0 v_ V_.heap L_ ∧ FrameEnd U_ ou_ V_ L_ ({ frames := 0, cells := 0, slots := 0, locals := 0 } : Room).cells ({ frames := 0, cells := 0, slots := 0, locals := 0 } : Room).slots) := by
  refine MetFree.of_bodySF (plainFor_of_name own_pn26) hisR ?_
  intro p e s m args below meth c s₁ Bd hml0 hP hK
  obtain ⟨rfl, hZ, hh⟩ := hP
  have hx := Bd.exec
  have hby := Bd.bytes
  have hml : c.maxLocals = 1 := hml0
  have hown : s.vm.findClass "java/lang/StringUTF16" = some m.cls := findClass_of_methodNamed Bd.named
  have hnm := (name_of_methodNamed Bd.named Bd.method).1
  have X0 : Stand p l e ({ frames := 0, cells := 0, slots := 0, locals := 0 } : Room) s m #[(.int 3)] below meth c s₁ [] 0 0 := Stand.of_body Bd
  have e0 : s₁.heap = h0 := by rw [← hh, Bd.state]; rfl
  have N0 := Fr.nil n0
  refine own_go (A := s₁.setTop (mkF m 0 #[.val (.int 3)] [])) (fun _ kz => castTop (own_ef26 m (3 : Int32)) kz) ?_
  refine own_go (A := s₁.setTop (mkF m 58 #[.val (.int 3)] [(.int 6)])) (fun _ kz => ?_) ?_
  · refine XS.iloadN X0.here hx rfl (hb hby d26_0) rfl ?_
    refine XS.ifYes X0.here hx rfl (pc0 := 1) (pc' := 12) rfl (hb hby d26_1) rfl ((if0 _ _).trans (flt (by decide : ¬ ((3 : Int32) < (0 : Int32)))).2.1) (by decide) (by decide) ?_
    refine XS.iloadN X0.here hx rfl (hb hby d26_12) rfl ?_
    refine X0.ldcInt hx hown (mvT hZ (own_w hw 144 rfl)) (g := (mkF m 13 #[.val (.int 3)] [(.int 3)])) rfl (hb hby d26_13) _ ?_
    refine XS.icmpYes X0.here hx rfl (pc0 := 15) (pc' := 55) rfl (hb hby d26_15) rfl (tlt (by decide : ((3 : Int32) < (1073741823 : Int32)))).1 (by decide) (by decide) ?_
    refine XS.iloadN X0.here hx rfl (hb hby d26_55) rfl ?_
    refine XS.iconst X0.here hx rfl (hb hby d26_56) ?_
    refine XS.ishl X0.here hx rfl (hb hby d26_57) rfl ?_
    exact kz
  obtain ⟨fs, hrr, hrun, hended, hW, hsame⟩ := X0.leave (v := some (.int 6)) (fun h => by rw [Bd.returns] at h; cases h)
  refine ⟨_, _, ?_, hrun, hended, _, _, rfl, ?_, ⟨_, rfl⟩, hW, hsame.mono (by decide) (by decide)⟩
  · show Steps p.tables e below (s₁.setTop (mkF m 58 #[.val (.int 3)] [(.int 6)])) _
    exact retI X0 hx Bd.returns (hb hby d26_58) hrr
  · show QrmNL_3 Z  h0 n0 _ s₁.heap _
    rw [e0]
    exact ⟨rfl, N0, rfl⟩
def QrmNF_3 (Z : State)  (h0 : Heap) (n0 : Nat) (v : Option Value) (h : Heap) (L : List Loc) : Prop := ∃ (b : Addr) (kc : ClassId), v = some (.ref b) ∧ Fr n0 L ∧ h0.size ≤ b ∧ Keep h0 h [] ∧ Arv Z h b kc .byte (6 : Int32) [(.int 0), (.int 0), (.int 0), (.int 0), (.int 0), (.int 0)] (.int 0)
set_option maxRecDepth 65536 in
set_option maxHeartbeats 40000000 in
theorem rmNF_3 (l : Launch) (Z : State) (a0 : Array Value) (hw : ∀ d ∈ tables_1, d.before a0 Z = true) (ws : List Jvm.Cond)  (h0 : Heap) (n0 : Nat) (Z0 : n0 ≤ h0.size)  :
    MetFree l (⟨"java/lang/StringUTF16", "newBytesFor", "(I)[B"⟩ : MethodName) (head1 (Jvm.Cond.code (⟨"java/lang/StringUTF16", "newBytesFor", "(I)[B"⟩ : MethodName) jdk_52_method_2_code 1 (some (.array .byte)) :: ws) ({ frames := 1, cells := 1, slots := 6, locals := 12 } : Room)) (fun ar_ U_ => ar_ = #[(.int 3)] ∧ Z.Warmed39 U_.vm ∧ U_.heap = h0) (fun _ _ _ _ _ => True) (fun _ U_ ou_ V_ => ∃ v_ L_, ou_ = .returned v_ ∧ QrmNF_3 Z  h0 n0 v_ V_.heap L_ ∧ FrameEnd U_ ou_ V_ L_ ({ frames := 1, cells := 1, slots := 6, locals := 12 } : Room).cells ({ frames := 1, cells := 1, slots := 6, locals := 12 } : Room).slots) := by
  refine MetFree.of_bodySF (plainFor_of_name own_pn25) hisR ?_
  intro p e s m args below meth c s₁ Bd hml0 hP hK
  obtain ⟨rfl, hZ, hh⟩ := hP
  have hx := Bd.exec
  have hby := Bd.bytes
  have hml : c.maxLocals = 1 := hml0
  have hown : s.vm.findClass "java/lang/StringUTF16" = some m.cls := findClass_of_methodNamed Bd.named
  have hnm := (name_of_methodNamed Bd.named Bd.method).1
  have X0 : Stand p l e ({ frames := 1, cells := 1, slots := 6, locals := 12 } : Room) s m #[(.int 3)] below meth c s₁ [] 0 0 := Stand.of_body Bd
  have e0 : s₁.heap = h0 := by rw [← hh, Bd.state]; rfl
  have N0 := Fr.nil n0
  have Kp0 : Keep h0 h0 [] := Keep.refl h0 _
  refine own_go (A := s₁.setTop (mkF m 0 #[.val (.int 3)] [])) (fun _ kz => castTop (own_ef25 m (3 : Int32)) kz) ?_
  refine own_go (A := s₁.setTop (mkF m 1 #[.val (.int 3)] [(.int 3)])) (fun _ kz => ?_) ?_
  · refine XS.iloadN X0.here hx rfl (hb hby d25_0) rfl ?_
    exact kz
  obtain ⟨_, _, ⟨T1, L1, k1, n1⟩, -, X1, ⟨Lc1, hQ1, l1, y1, z1⟩, st1⟩ := Jvm.LawKit.callS X0 hx (y := (⟨"java/lang/StringUTF16", "newBytesLength", "(I)I"⟩ : MethodName)) hown (mvT hZ (own_w hw 141 rfl)) (mvT hZ (own_w hw 142 rfl)) (mvT hZ (own_w hw 22 rfl)) (mvT hZ (own_w hw 143 rfl)) (by decide) (backOf (W := 0) (rmNL_3 l Z a0 hw [] h0 n0 Z0) hZ (own_w hw 143 rfl) (own_w hw 22 rfl) (by decide) (by decide)) (g := (mkF m 1 #[.val (.int 3)] [(.int 3)])) rfl (by rw [hml]; rfl) (argsL := [(.int 3)]) (rest := []) (lenOf own_pd0 rfl) rfl (by show 2 * 0 + _ ≤ _; exact Nat.le_of_eq rfl) (hb hby d25_1) (fun _ _ => ⟨rfl, e0, (by decide : 0 + 0 ≤ _), (by decide : 0 + 0 ≤ _)⟩)
  dsimp only [Pt.U, Pt.locs, Pt.cells, Pt.slots] at X1 l1 y1 z1 st1 hQ1
  subst l1 y1 z1
  obtain ⟨rfl, N1q, e1⟩ := hQ1
  have N1 := Fr.app N0 N1q
  refine own_go (A := T1.setTop (mkF m 4 #[.val (.int 3)] [(.int 6)])) (fun _ kz => st1 _ kz) ?_
  obtain ⟨T2, h2, k2, X2, e2, E2, A2, st2⟩ := newP X1 hx hZ (own_w hw 24 rfl) e1 (g := (mkF m 4 #[.val (.int 3)] [(.int 6)])) rfl (hb hby d25_4) rfl (by decide) (cap := 6) (by decide) (by decide) (by decide) (by decide)
  obtain ⟨b2, gq2⟩ : ∃ z, z = h0.size := ⟨_, rfl⟩
  rw [← gq2] at A2 st2
  have g_b2 : n0 ≤ b2 := Nat.le_trans Z0 (Nat.le_of_eq gq2.symm)
  have szk_b2 : h0.size ≤ b2 := Nat.le_trans Kp0.1 (Nat.le_of_eq gq2.symm)
  have Z2 : n0 ≤ h2.size := Nat.le_trans Z0 E2.1
  have Kp2 : Keep h0 h2 [] := Kp0.ext E2
  have Av_b2 : Arv Z h2 b2 k2 .byte (6 : Int32) [(.int 0), (.int 0), (.int 0), (.int 0), (.int 0), (.int 0)] (.int 0) := (Arv.new A2 (by decide)).pad (pad_rep [] (.int 0) 6)
  refine own_go (A := T2.setTop (mkF m 6 #[.val (.int 3)] [(.ref b2)])) (fun _ kz => st2 _ kz) ?_
  obtain ⟨fs, hrr, hrun, hended, hW, hsame⟩ := X2.leave (v := some (.ref b2)) (fun h => by rw [Bd.returns] at h; cases h)
  refine ⟨_, _, ?_, hrun, hended, _, _, rfl, ?_, ⟨_, rfl⟩, hW, hsame.mono (by decide) (by decide)⟩
  · show Steps p.tables e below (T2.setTop (mkF m 6 #[.val (.int 3)] [(.ref b2)])) _
    exact retOut X2 hx (t := (.array .byte)) Bd.returns rfl (Or.inr (Or.inr (Or.inr (Or.inr ⟨rfl, rfl, rfl⟩)))) (hb hby d25_6) hrr
  · show QrmNF_3 Z  h0 n0 _ T2.heap _
    rw [e2]
    exact ⟨b2, k2, rfl, N1, szk_b2, Kp2, Av_b2⟩
def QrmPC_3_0 (Z : State) (ab : Addr) (kb : ClassId) (qq : Int32) (w0 w1 w2 w3 w4 w5 : Value) (h0 : Heap) (n0 : Nat) (v : Option Value) (h : Heap) (L : List Loc) : Prop := v = none ∧ Fr n0 L ∧ Keep h0 h [ab] ∧ Arv Z h ab kb .byte (6 : Int32) [(.int (own_l qq)), (.int (own_h qq)), w2, w3, w4, w5] (.int 0)
set_option maxRecDepth 65536 in
set_option maxHeartbeats 40000000 in
theorem rmPC_3_0 (l : Launch) (Z : State) (a0 : Array Value) (hw : ∀ d ∈ tables_1, d.before a0 Z = true) (ws : List Jvm.Cond) (ab : Addr) (kb : ClassId) (qq : Int32) (w0 w1 w2 w3 w4 w5 : Value) (h0 : Heap) (n0 : Nat) (Z0 : n0 ≤ h0.size) (Ab : Arv Z h0 ab kb .byte (6 : Int32) [w0, w1, w2, w3, w4, w5] (.int 0)) (g_ab : n0 ≤ ab) (S_ad : Sta Z h0 "java/lang/StringUTF16" "$assertionsDisabled" "Z" (.int 1)) (S_hi : Sta Z h0 "java/lang/StringUTF16" "HI_BYTE_SHIFT" "I" (.int 0)) (S_lo : Sta Z h0 "java/lang/StringUTF16" "LO_BYTE_SHIFT" "I" (.int 8)) :
    MetFree l (⟨"java/lang/StringUTF16", "putChar", "([BII)V"⟩ : MethodName) (head1 (Jvm.Cond.code (⟨"java/lang/StringUTF16", "putChar", "([BII)V"⟩ : MethodName) jdk_52_method_4_code 3 none :: ws) ({ frames := 0, cells := 0, slots := 0, locals := 0 } : Room)) (fun ar_ U_ => ar_ = #[(.ref ab), (.int 0), (.int qq)] ∧ Z.Warmed39 U_.vm ∧ U_.heap = h0) (fun _ _ _ _ _ => True) (fun _ U_ ou_ V_ => ∃ v_ L_, ou_ = .returned v_ ∧ QrmPC_3_0 Z ab kb qq w0 w1 w2 w3 w4 w5 h0 n0 v_ V_.heap L_ ∧ FrameEnd U_ ou_ V_ L_ ({ frames := 0, cells := 0, slots := 0, locals := 0 } : Room).cells ({ frames := 0, cells := 0, slots := 0, locals := 0 } : Room).slots) := by
  refine MetFree.of_bodySF (plainFor_of_name own_pn27) hisR ?_
  intro p e s m args below meth c s₁ Bd hml0 hP hK
  obtain ⟨rfl, hZ, hh⟩ := hP
  have hx := Bd.exec
  have hby := Bd.bytes
  have hml : c.maxLocals = 3 := hml0
  have hown : s.vm.findClass "java/lang/StringUTF16" = some m.cls := findClass_of_methodNamed Bd.named
  have hnm := (name_of_methodNamed Bd.named Bd.method).1
  have X0 : Stand p l e ({ frames := 0, cells := 0, slots := 0, locals := 0 } : Room) s m #[(.ref ab), (.int 0), (.int qq)] below meth c s₁ [] 0 0 := Stand.of_body Bd
  have e0 : s₁.heap = h0 := by rw [← hh, Bd.state]; rfl
  have N0 := Fr.nil n0
  have Kp0 : Keep h0 h0 [ab] := Keep.refl h0 _
  refine own_go (A := s₁.setTop (mkF m 0 #[.val (.ref ab), .val (.int 0), .val (.int qq)] [])) (fun _ kz => castTop (own_ef27 m ab (0 : Int32) qq) kz) ?_
  obtain ⟨T1, X1, e1, st1⟩ := getS2 X0 hx hZ hown (host := "") (Or.inl (own_w hw 148 rfl)) Via.refl e0 S_ad (g := (mkF m 0 #[.val (.ref ab), .val (.int 0), .val (.int qq)] [])) rfl (hb hby d27_0)
  refine own_go (A := T1.setTop (mkF m 3 #[.val (.ref ab), .val (.int 0), .val (.int qq)] [(.int 1)])) (fun _ kz => st1 _ kz) ?_
  refine own_go (A := T1.setTop (mkF m 38 #[.val (.ref ab), .val (.int 1), .val (.int qq)] [(.int qq), (.int 0), (.ref ab)])) (fun _ kz => ?_) ?_
  · refine XS.ifYes X1.here hx rfl (pc0 := 3) (pc' := 28) rfl (hb hby d27_3) rfl ((if0 _ _).trans (feq (by decide : ¬ ((1 : Int32) = (0 : Int32)))).2) (by decide) (by decide) ?_
    refine XS.iloadN X1.here hx rfl (hb hby d27_28) rfl ?_
    refine XS.iconst X1.here hx rfl (hb hby d27_29) ?_
    refine XS.ishl X1.here hx rfl (hb hby d27_30) rfl ?_
    show Steps p.tables e below (T1.setTop (mkF m 31 #[.val (.ref ab), .val (.int 0), .val (.int qq)] [(.int 0)])) _
    refine XS.istoreN X1.here hx rfl (hb hby d27_31) rfl (l' := #[.val (.ref ab), .val (.int 0), .val (.int qq)]) rfl ?_
    refine XS.aloadN X1.here hx rfl (hb hby d27_32) rfl rfl ?_
    refine XS.iloadN X1.here hx rfl (hb hby d27_33) rfl ?_
    refine XS.iinc X1.here hx rfl (hb hby d27_34) rfl (l' := #[.val (.ref ab), .val (.int 1), .val (.int qq)]) rfl ?_
    refine XS.iloadN X1.here hx rfl (hb hby d27_37) rfl ?_
    exact kz
  obtain ⟨T2, X2, e2, st2⟩ := getS2 X1 hx hZ hown (host := "") (Or.inl (own_w hw 149 rfl)) Via.refl e1 S_hi (g := (mkF m 38 #[.val (.ref ab), .val (.int 1), .val (.int qq)] [(.int qq), (.int 0), (.ref ab)])) rfl (hb hby d27_38)
  refine own_go (A := T2.setTop (mkF m 41 #[.val (.ref ab), .val (.int 1), .val (.int qq)] [(.int 0), (.int qq), (.int 0), (.ref ab)])) (fun _ kz => st2 _ kz) ?_
  refine own_go (A := T2.setTop (mkF m 43 #[.val (.ref ab), .val (.int 1), .val (.int qq)] [(.int ((qq >>> ((0 : Int32) &&& 31)).toInt8.toInt32)), (.int 0), (.ref ab)])) (fun _ kz => ?_) ?_
  · refine XS.ishr X2.here hx rfl (hb hby d27_41) rfl ?_
    refine XS.i2b X2.here hx rfl (hb hby d27_42) rfl ?_
    exact kz
  obtain ⟨cl3, Ar3, q3, S3, M3, H3, G3⟩ := id Ab
  have hin3 : ¬ ((0 : Int32) < 0 ∨ cl3.slots.size ≤ ((0 : Int32)).toNatClampNeg) := inb_of S3 ⟨by decide, by decide⟩
  obtain ⟨T3, h3, X3, e3, W3, st3⟩ := stB X2 hx hZ e2 Ar3 (j := (0 : Int32)) hin3 (g := (mkF m 43 #[.val (.ref ab), .val (.int 1), .val (.int qq)] [(.int ((qq >>> ((0 : Int32) &&& 31)).toInt8.toInt32)), (.int 0), (.ref ab)])) rfl rfl (hb hby d27_43)
  rw [own_nbn] at W3
  have Aw3 := Arv.set Ar3 q3 S3 M3 H3 G3 (fits_nar_byte _) W3 0 rfl (Nat.le_of_ble_eq_true rfl)
  replace S_ad := S_ad.wr W3
  replace S_hi := S_hi.wr W3
  replace S_lo := S_lo.wr W3
  have Z3 : n0 ≤ h3.size := Nat.le_trans Z0 (Keep.of_wr W3).1
  have Kp3 : Keep h0 h3 [ab] := Kp0.wr W3 (Or.inl (List.mem_of_getElem? (i := 0) rfl))
  have Av_ab : Arv Z h3 ab kb .byte (6 : Int32) [(.int ((qq >>> ((0 : Int32) &&& 31)).toInt8.toInt32)), w1, w2, w3, w4, w5] (.int 0) := Aw3
  have N3 := Fr.snoc X3 N0 g_ab
  refine own_go (A := T3.setTop (mkF m 44 #[.val (.ref ab), .val (.int 1), .val (.int qq)] [])) (fun _ kz => st3 _ kz) ?_
  refine own_go (A := T3.setTop (mkF m 47 #[.val (.ref ab), .val (.int 1), .val (.int qq)] [(.int qq), (.int 1), (.ref ab)])) (fun _ kz => ?_) ?_
  · refine XS.aloadN X3.here hx rfl (hb hby d27_44) rfl rfl ?_
    refine XS.iloadN X3.here hx rfl (hb hby d27_45) rfl ?_
    refine XS.iloadN X3.here hx rfl (hb hby d27_46) rfl ?_
    exact kz
  obtain ⟨T4, X4, e4, st4⟩ := getS2 X3 hx hZ hown (host := "") (Or.inl (own_w hw 150 rfl)) Via.refl e3 S_lo (g := (mkF m 47 #[.val (.ref ab), .val (.int 1), .val (.int qq)] [(.int qq), (.int 1), (.ref ab)])) rfl (hb hby d27_47)
  refine own_go (A := T4.setTop (mkF m 50 #[.val (.ref ab), .val (.int 1), .val (.int qq)] [(.int 8), (.int qq), (.int 1), (.ref ab)])) (fun _ kz => st4 _ kz) ?_
  refine own_go (A := T4.setTop (mkF m 52 #[.val (.ref ab), .val (.int 1), .val (.int qq)] [(.int ((qq >>> ((8 : Int32) &&& 31)).toInt8.toInt32)), (.int 1), (.ref ab)])) (fun _ kz => ?_) ?_
  · refine XS.ishr X4.here hx rfl (hb hby d27_50) rfl ?_
    refine XS.i2b X4.here hx rfl (hb hby d27_51) rfl ?_
    exact kz
  obtain ⟨cl5, Ar5, q5, S5, M5, H5, G5⟩ := id Av_ab
  have hin5 : ¬ ((1 : Int32) < 0 ∨ cl5.slots.size ≤ ((1 : Int32)).toNatClampNeg) := inb_of S5 ⟨by decide, by decide⟩
  obtain ⟨T5, h5, X5, e5, W5, st5⟩ := stB X4 hx hZ e4 Ar5 (j := (1 : Int32)) hin5 (g := (mkF m 52 #[.val (.ref ab), .val (.int 1), .val (.int qq)] [(.int ((qq >>> ((8 : Int32) &&& 31)).toInt8.toInt32)), (.int 1), (.ref ab)])) rfl rfl (hb hby d27_52)
  rw [own_nbn] at W5
  have Aw5 := Arv.set Ar5 q5 S5 M5 H5 G5 (fits_nar_byte _) W5 1 rfl (Nat.le_of_ble_eq_true rfl)
  replace S_ad := S_ad.wr W5
  replace S_hi := S_hi.wr W5
  replace S_lo := S_lo.wr W5
  have Z5 : n0 ≤ h5.size := Nat.le_trans Z3 (Keep.of_wr W5).1
  have Kp5 : Keep h0 h5 [ab] := Kp3.wr W5 (Or.inl (List.mem_of_getElem? (i := 0) rfl))
  have Av_ab : Arv Z h5 ab kb .byte (6 : Int32) [(.int ((qq >>> ((0 : Int32) &&& 31)).toInt8.toInt32)), (.int ((qq >>> ((8 : Int32) &&& 31)).toInt8.toInt32)), w2, w3, w4, w5] (.int 0) := Aw5
  have N5 := Fr.snoc X5 N3 g_ab
  refine own_go (A := T5.setTop (mkF m 53 #[.val (.ref ab), .val (.int 1), .val (.int qq)] [])) (fun _ kz => st5 _ kz) ?_
  obtain ⟨fs, hrr, hrun, hended, hW, hsame⟩ := X5.leave (v := none) (fun _ => rfl)
  refine ⟨_, _, ?_, hrun, hended, _, _, rfl, ?_, ⟨_, rfl⟩, hW, hsame.mono (by decide) (by decide)⟩
  · show Steps p.tables e below (T5.setTop (mkF m 53 #[.val (.ref ab), .val (.int 1), .val (.int qq)] [])) _
    exact X5.returnOut hx Bd.returns (hb hby d27_53) hrr
  · show QrmPC_3_0 Z ab kb qq w0 w1 w2 w3 w4 w5 h0 n0 _ T5.heap _
    rw [e5]
    exact ⟨rfl, N5, Kp5, Av_ab⟩
def QrmPC_3_1 (Z : State) (ab : Addr) (kb : ClassId) (qq : Int32) (w0 w1 w2 w3 w4 w5 : Value) (h0 : Heap) (n0 : Nat) (v : Option Value) (h : Heap) (L : List Loc) : Prop := v = none ∧ Fr n0 L ∧ Keep h0 h [ab] ∧ Arv Z h ab kb .byte (6 : Int32) [w0, w1, (.int (own_l qq)), (.int (own_h qq)), w4, w5] (.int 0)
set_option maxRecDepth 65536 in
set_option maxHeartbeats 40000000 in
theorem rmPC_3_1 (l : Launch) (Z : State) (a0 : Array Value) (hw : ∀ d ∈ tables_1, d.before a0 Z = true) (ws : List Jvm.Cond) (ab : Addr) (kb : ClassId) (qq : Int32) (w0 w1 w2 w3 w4 w5 : Value) (h0 : Heap) (n0 : Nat) (Z0 : n0 ≤ h0.size) (Ab : Arv Z h0 ab kb .byte (6 : Int32) [w0, w1, w2, w3, w4, w5] (.int 0)) (g_ab : n0 ≤ ab) (S_ad : Sta Z h0 "java/lang/StringUTF16" "$assertionsDisabled" "Z" (.int 1)) (S_hi : Sta Z h0 "java/lang/StringUTF16" "HI_BYTE_SHIFT" "I" (.int 0)) (S_lo : Sta Z h0 "java/lang/StringUTF16" "LO_BYTE_SHIFT" "I" (.int 8)) :
    MetFree l (⟨"java/lang/StringUTF16", "putChar", "([BII)V"⟩ : MethodName) (head1 (Jvm.Cond.code (⟨"java/lang/StringUTF16", "putChar", "([BII)V"⟩ : MethodName) jdk_52_method_4_code 3 none :: ws) ({ frames := 0, cells := 0, slots := 0, locals := 0 } : Room)) (fun ar_ U_ => ar_ = #[(.ref ab), (.int 1), (.int qq)] ∧ Z.Warmed39 U_.vm ∧ U_.heap = h0) (fun _ _ _ _ _ => True) (fun _ U_ ou_ V_ => ∃ v_ L_, ou_ = .returned v_ ∧ QrmPC_3_1 Z ab kb qq w0 w1 w2 w3 w4 w5 h0 n0 v_ V_.heap L_ ∧ FrameEnd U_ ou_ V_ L_ ({ frames := 0, cells := 0, slots := 0, locals := 0 } : Room).cells ({ frames := 0, cells := 0, slots := 0, locals := 0 } : Room).slots) := by
  refine MetFree.of_bodySF (plainFor_of_name own_pn27) hisR ?_
  intro p e s m args below meth c s₁ Bd hml0 hP hK
  obtain ⟨rfl, hZ, hh⟩ := hP
  have hx := Bd.exec
  have hby := Bd.bytes
  have hml : c.maxLocals = 3 := hml0
  have hown : s.vm.findClass "java/lang/StringUTF16" = some m.cls := findClass_of_methodNamed Bd.named
  have hnm := (name_of_methodNamed Bd.named Bd.method).1
  have X0 : Stand p l e ({ frames := 0, cells := 0, slots := 0, locals := 0 } : Room) s m #[(.ref ab), (.int 1), (.int qq)] below meth c s₁ [] 0 0 := Stand.of_body Bd
  have e0 : s₁.heap = h0 := by rw [← hh, Bd.state]; rfl
  have N0 := Fr.nil n0
  have Kp0 : Keep h0 h0 [ab] := Keep.refl h0 _
  refine own_go (A := s₁.setTop (mkF m 0 #[.val (.ref ab), .val (.int 1), .val (.int qq)] [])) (fun _ kz => castTop (own_ef27 m ab (1 : Int32) qq) kz) ?_
  obtain ⟨T1, X1, e1, st1⟩ := getS2 X0 hx hZ hown (host := "") (Or.inl (own_w hw 148 rfl)) Via.refl e0 S_ad (g := (mkF m 0 #[.val (.ref ab), .val (.int 1), .val (.int qq)] [])) rfl (hb hby d27_0)
  refine own_go (A := T1.setTop (mkF m 3 #[.val (.ref ab), .val (.int 1), .val (.int qq)] [(.int 1)])) (fun _ kz => st1 _ kz) ?_
  refine own_go (A := T1.setTop (mkF m 38 #[.val (.ref ab), .val (.int 3), .val (.int qq)] [(.int qq), (.int 2), (.ref ab)])) (fun _ kz => ?_) ?_
  · refine XS.ifYes X1.here hx rfl (pc0 := 3) (pc' := 28) rfl (hb hby d27_3) rfl ((if0 _ _).trans (feq (by decide : ¬ ((1 : Int32) = (0 : Int32)))).2) (by decide) (by decide) ?_
    refine XS.iloadN X1.here hx rfl (hb hby d27_28) rfl ?_
    refine XS.iconst X1.here hx rfl (hb hby d27_29) ?_
    refine XS.ishl X1.here hx rfl (hb hby d27_30) rfl ?_
    show Steps p.tables e below (T1.setTop (mkF m 31 #[.val (.ref ab), .val (.int 1), .val (.int qq)] [(.int 2)])) _
    refine XS.istoreN X1.here hx rfl (hb hby d27_31) rfl (l' := #[.val (.ref ab), .val (.int 2), .val (.int qq)]) rfl ?_
    refine XS.aloadN X1.here hx rfl (hb hby d27_32) rfl rfl ?_
    refine XS.iloadN X1.here hx rfl (hb hby d27_33) rfl ?_
    refine XS.iinc X1.here hx rfl (hb hby d27_34) rfl (l' := #[.val (.ref ab), .val (.int 3), .val (.int qq)]) rfl ?_
    refine XS.iloadN X1.here hx rfl (hb hby d27_37) rfl ?_
    exact kz
  obtain ⟨T2, X2, e2, st2⟩ := getS2 X1 hx hZ hown (host := "") (Or.inl (own_w hw 149 rfl)) Via.refl e1 S_hi (g := (mkF m 38 #[.val (.ref ab), .val (.int 3), .val (.int qq)] [(.int qq), (.int 2), (.ref ab)])) rfl (hb hby d27_38)
  refine own_go (A := T2.setTop (mkF m 41 #[.val (.ref ab), .val (.int 3), .val (.int qq)] [(.int 0), (.int qq), (.int 2), (.ref ab)])) (fun _ kz => st2 _ kz) ?_
  refine own_go (A := T2.setTop (mkF m 43 #[.val (.ref ab), .val (.int 3), .val (.int qq)] [(.int ((qq >>> ((0 : Int32) &&& 31)).toInt8.toInt32)), (.int 2), (.ref ab)])) (fun _ kz => ?_) ?_
  · refine XS.ishr X2.here hx rfl (hb hby d27_41) rfl ?_
    refine XS.i2b X2.here hx rfl (hb hby d27_42) rfl ?_
    exact kz
  obtain ⟨cl3, Ar3, q3, S3, M3, H3, G3⟩ := id Ab
  have hin3 : ¬ ((2 : Int32) < 0 ∨ cl3.slots.size ≤ ((2 : Int32)).toNatClampNeg) := inb_of S3 ⟨by decide, by decide⟩
  obtain ⟨T3, h3, X3, e3, W3, st3⟩ := stB X2 hx hZ e2 Ar3 (j := (2 : Int32)) hin3 (g := (mkF m 43 #[.val (.ref ab), .val (.int 3), .val (.int qq)] [(.int ((qq >>> ((0 : Int32) &&& 31)).toInt8.toInt32)), (.int 2), (.ref ab)])) rfl rfl (hb hby d27_43)
  rw [own_nbn] at W3
  have Aw3 := Arv.set Ar3 q3 S3 M3 H3 G3 (fits_nar_byte _) W3 2 rfl (Nat.le_of_ble_eq_true rfl)
  replace S_ad := S_ad.wr W3
  replace S_hi := S_hi.wr W3
  replace S_lo := S_lo.wr W3
  have Z3 : n0 ≤ h3.size := Nat.le_trans Z0 (Keep.of_wr W3).1
  have Kp3 : Keep h0 h3 [ab] := Kp0.wr W3 (Or.inl (List.mem_of_getElem? (i := 0) rfl))
  have Av_ab : Arv Z h3 ab kb .byte (6 : Int32) [w0, w1, (.int ((qq >>> ((0 : Int32) &&& 31)).toInt8.toInt32)), w3, w4, w5] (.int 0) := Aw3
  have N3 := Fr.snoc X3 N0 g_ab
  refine own_go (A := T3.setTop (mkF m 44 #[.val (.ref ab), .val (.int 3), .val (.int qq)] [])) (fun _ kz => st3 _ kz) ?_
  refine own_go (A := T3.setTop (mkF m 47 #[.val (.ref ab), .val (.int 3), .val (.int qq)] [(.int qq), (.int 3), (.ref ab)])) (fun _ kz => ?_) ?_
  · refine XS.aloadN X3.here hx rfl (hb hby d27_44) rfl rfl ?_
    refine XS.iloadN X3.here hx rfl (hb hby d27_45) rfl ?_
    refine XS.iloadN X3.here hx rfl (hb hby d27_46) rfl ?_
    exact kz
  obtain ⟨T4, X4, e4, st4⟩ := getS2 X3 hx hZ hown (host := "") (Or.inl (own_w hw 150 rfl)) Via.refl e3 S_lo (g := (mkF m 47 #[.val (.ref ab), .val (.int 3), .val (.int qq)] [(.int qq), (.int 3), (.ref ab)])) rfl (hb hby d27_47)
  refine own_go (A := T4.setTop (mkF m 50 #[.val (.ref ab), .val (.int 3), .val (.int qq)] [(.int 8), (.int qq), (.int 3), (.ref ab)])) (fun _ kz => st4 _ kz) ?_
  refine own_go (A := T4.setTop (mkF m 52 #[.val (.ref ab), .val (.int 3), .val (.int qq)] [(.int ((qq >>> ((8 : Int32) &&& 31)).toInt8.toInt32)), (.int 3), (.ref ab)])) (fun _ kz => ?_) ?_
  · refine XS.ishr X4.here hx rfl (hb hby d27_50) rfl ?_
    refine XS.i2b X4.here hx rfl (hb hby d27_51) rfl ?_
    exact kz
  obtain ⟨cl5, Ar5, q5, S5, M5, H5, G5⟩ := id Av_ab
  have hin5 : ¬ ((3 : Int32) < 0 ∨ cl5.slots.size ≤ ((3 : Int32)).toNatClampNeg) := inb_of S5 ⟨by decide, by decide⟩
  obtain ⟨T5, h5, X5, e5, W5, st5⟩ := stB X4 hx hZ e4 Ar5 (j := (3 : Int32)) hin5 (g := (mkF m 52 #[.val (.ref ab), .val (.int 3), .val (.int qq)] [(.int ((qq >>> ((8 : Int32) &&& 31)).toInt8.toInt32)), (.int 3), (.ref ab)])) rfl rfl (hb hby d27_52)
  rw [own_nbn] at W5
  have Aw5 := Arv.set Ar5 q5 S5 M5 H5 G5 (fits_nar_byte _) W5 3 rfl (Nat.le_of_ble_eq_true rfl)
  replace S_ad := S_ad.wr W5
  replace S_hi := S_hi.wr W5
  replace S_lo := S_lo.wr W5
  have Z5 : n0 ≤ h5.size := Nat.le_trans Z3 (Keep.of_wr W5).1
  have Kp5 : Keep h0 h5 [ab] := Kp3.wr W5 (Or.inl (List.mem_of_getElem? (i := 0) rfl))
  have Av_ab : Arv Z h5 ab kb .byte (6 : Int32) [w0, w1, (.int ((qq >>> ((0 : Int32) &&& 31)).toInt8.toInt32)), (.int ((qq >>> ((8 : Int32) &&& 31)).toInt8.toInt32)), w4, w5] (.int 0) := Aw5
  have N5 := Fr.snoc X5 N3 g_ab
  refine own_go (A := T5.setTop (mkF m 53 #[.val (.ref ab), .val (.int 3), .val (.int qq)] [])) (fun _ kz => st5 _ kz) ?_
  obtain ⟨fs, hrr, hrun, hended, hW, hsame⟩ := X5.leave (v := none) (fun _ => rfl)
  refine ⟨_, _, ?_, hrun, hended, _, _, rfl, ?_, ⟨_, rfl⟩, hW, hsame.mono (by decide) (by decide)⟩
  · show Steps p.tables e below (T5.setTop (mkF m 53 #[.val (.ref ab), .val (.int 3), .val (.int qq)] [])) _
    exact X5.returnOut hx Bd.returns (hb hby d27_53) hrr
  · show QrmPC_3_1 Z ab kb qq w0 w1 w2 w3 w4 w5 h0 n0 _ T5.heap _
    rw [e5]
    exact ⟨rfl, N5, Kp5, Av_ab⟩
def QrmPC_3_2 (Z : State) (ab : Addr) (kb : ClassId) (qq : Int32) (w0 w1 w2 w3 w4 w5 : Value) (h0 : Heap) (n0 : Nat) (v : Option Value) (h : Heap) (L : List Loc) : Prop := v = none ∧ Fr n0 L ∧ Keep h0 h [ab] ∧ Arv Z h ab kb .byte (6 : Int32) [w0, w1, w2, w3, (.int (own_l qq)), (.int (own_h qq))] (.int 0)
set_option maxRecDepth 65536 in
set_option maxHeartbeats 40000000 in
theorem rmPC_3_2 (l : Launch) (Z : State) (a0 : Array Value) (hw : ∀ d ∈ tables_1, d.before a0 Z = true) (ws : List Jvm.Cond) (ab : Addr) (kb : ClassId) (qq : Int32) (w0 w1 w2 w3 w4 w5 : Value) (h0 : Heap) (n0 : Nat) (Z0 : n0 ≤ h0.size) (Ab : Arv Z h0 ab kb .byte (6 : Int32) [w0, w1, w2, w3, w4, w5] (.int 0)) (g_ab : n0 ≤ ab) (S_ad : Sta Z h0 "java/lang/StringUTF16" "$assertionsDisabled" "Z" (.int 1)) (S_hi : Sta Z h0 "java/lang/StringUTF16" "HI_BYTE_SHIFT" "I" (.int 0)) (S_lo : Sta Z h0 "java/lang/StringUTF16" "LO_BYTE_SHIFT" "I" (.int 8)) :
    MetFree l (⟨"java/lang/StringUTF16", "putChar", "([BII)V"⟩ : MethodName) (head1 (Jvm.Cond.code (⟨"java/lang/StringUTF16", "putChar", "([BII)V"⟩ : MethodName) jdk_52_method_4_code 3 none :: ws) ({ frames := 0, cells := 0, slots := 0, locals := 0 } : Room)) (fun ar_ U_ => ar_ = #[(.ref ab), (.int 2), (.int qq)] ∧ Z.Warmed39 U_.vm ∧ U_.heap = h0) (fun _ _ _ _ _ => True) (fun _ U_ ou_ V_ => ∃ v_ L_, ou_ = .returned v_ ∧ QrmPC_3_2 Z ab kb qq w0 w1 w2 w3 w4 w5 h0 n0 v_ V_.heap L_ ∧ FrameEnd U_ ou_ V_ L_ ({ frames := 0, cells := 0, slots := 0, locals := 0 } : Room).cells ({ frames := 0, cells := 0, slots := 0, locals := 0 } : Room).slots) := by
  refine MetFree.of_bodySF (plainFor_of_name own_pn27) hisR ?_
  intro p e s m args below meth c s₁ Bd hml0 hP hK
  obtain ⟨rfl, hZ, hh⟩ := hP
  have hx := Bd.exec
  have hby := Bd.bytes
  have hml : c.maxLocals = 3 := hml0
  have hown : s.vm.findClass "java/lang/StringUTF16" = some m.cls := findClass_of_methodNamed Bd.named
  have hnm := (name_of_methodNamed Bd.named Bd.method).1
  have X0 : Stand p l e ({ frames := 0, cells := 0, slots := 0, locals := 0 } : Room) s m #[(.ref ab), (.int 2), (.int qq)] below meth c s₁ [] 0 0 := Stand.of_body Bd
  have e0 : s₁.heap = h0 := by rw [← hh, Bd.state]; rfl
  have N0 := Fr.nil n0
  have Kp0 : Keep h0 h0 [ab] := Keep.refl h0 _
  refine own_go (A := s₁.setTop (mkF m 0 #[.val (.ref ab), .val (.int 2), .val (.int qq)] [])) (fun _ kz => castTop (own_ef27 m ab (2 : Int32) qq) kz) ?_
  obtain ⟨T1, X1, e1, st1⟩ := getS2 X0 hx hZ hown (host := "") (Or.inl (own_w hw 148 rfl)) Via.refl e0 S_ad (g := (mkF m 0 #[.val (.ref ab), .val (.int 2), .val (.int qq)] [])) rfl (hb hby d27_0)
  refine own_go (A := T1.setTop (mkF m 3 #[.val (.ref ab), .val (.int 2), .val (.int qq)] [(.int 1)])) (fun _ kz => st1 _ kz) ?_
  refine own_go (A := T1.setTop (mkF m 38 #[.val (.ref ab), .val (.int 5), .val (.int qq)] [(.int qq), (.int 4), (.ref ab)])) (fun _ kz => ?_) ?_
  · refine XS.ifYes X1.here hx rfl (pc0 := 3) (pc' := 28) rfl (hb hby d27_3) rfl ((if0 _ _).trans (feq (by decide : ¬ ((1 : Int32) = (0 : Int32)))).2) (by decide) (by decide) ?_
    refine XS.iloadN X1.here hx rfl (hb hby d27_28) rfl ?_
    refine XS.iconst X1.here hx rfl (hb hby d27_29) ?_
    refine XS.ishl X1.here hx rfl (hb hby d27_30) rfl ?_
    show Steps p.tables e below (T1.setTop (mkF m 31 #[.val (.ref ab), .val (.int 2), .val (.int qq)] [(.int 4)])) _
    refine XS.istoreN X1.here hx rfl (hb hby d27_31) rfl (l' := #[.val (.ref ab), .val (.int 4), .val (.int qq)]) rfl ?_
    refine XS.aloadN X1.here hx rfl (hb hby d27_32) rfl rfl ?_
    refine XS.iloadN X1.here hx rfl (hb hby d27_33) rfl ?_
    refine XS.iinc X1.here hx rfl (hb hby d27_34) rfl (l' := #[.val (.ref ab), .val (.int 5), .val (.int qq)]) rfl ?_
    refine XS.iloadN X1.here hx rfl (hb hby d27_37) rfl ?_
    exact kz
  obtain ⟨T2, X2, e2, st2⟩ := getS2 X1 hx hZ hown (host := "") (Or.inl (own_w hw 149 rfl)) Via.refl e1 S_hi (g := (mkF m 38 #[.val (.ref ab), .val (.int 5), .val (.int qq)] [(.int qq), (.int 4), (.ref ab)])) rfl (hb hby d27_38)
  refine own_go (A := T2.setTop (mkF m 41 #[.val (.ref ab), .val (.int 5), .val (.int qq)] [(.int 0), (.int qq), (.int 4), (.ref ab)])) (fun _ kz => st2 _ kz) ?_
  refine own_go (A := T2.setTop (mkF m 43 #[.val (.ref ab), .val (.int 5), .val (.int qq)] [(.int ((qq >>> ((0 : Int32) &&& 31)).toInt8.toInt32)), (.int 4), (.ref ab)])) (fun _ kz => ?_) ?_
  · refine XS.ishr X2.here hx rfl (hb hby d27_41) rfl ?_
    refine XS.i2b X2.here hx rfl (hb hby d27_42) rfl ?_
    exact kz
  obtain ⟨cl3, Ar3, q3, S3, M3, H3, G3⟩ := id Ab
  have hin3 : ¬ ((4 : Int32) < 0 ∨ cl3.slots.size ≤ ((4 : Int32)).toNatClampNeg) := inb_of S3 ⟨by decide, by decide⟩
  obtain ⟨T3, h3, X3, e3, W3, st3⟩ := stB X2 hx hZ e2 Ar3 (j := (4 : Int32)) hin3 (g := (mkF m 43 #[.val (.ref ab), .val (.int 5), .val (.int qq)] [(.int ((qq >>> ((0 : Int32) &&& 31)).toInt8.toInt32)), (.int 4), (.ref ab)])) rfl rfl (hb hby d27_43)
  rw [own_nbn] at W3
  have Aw3 := Arv.set Ar3 q3 S3 M3 H3 G3 (fits_nar_byte _) W3 4 rfl (Nat.le_of_ble_eq_true rfl)
  replace S_ad := S_ad.wr W3
  replace S_hi := S_hi.wr W3
  replace S_lo := S_lo.wr W3
  have Z3 : n0 ≤ h3.size := Nat.le_trans Z0 (Keep.of_wr W3).1
  have Kp3 : Keep h0 h3 [ab] := Kp0.wr W3 (Or.inl (List.mem_of_getElem? (i := 0) rfl))
  have Av_ab : Arv Z h3 ab kb .byte (6 : Int32) [w0, w1, w2, w3, (.int ((qq >>> ((0 : Int32) &&& 31)).toInt8.toInt32)), w5] (.int 0) := Aw3
  have N3 := Fr.snoc X3 N0 g_ab
  refine own_go (A := T3.setTop (mkF m 44 #[.val (.ref ab), .val (.int 5), .val (.int qq)] [])) (fun _ kz => st3 _ kz) ?_
  refine own_go (A := T3.setTop (mkF m 47 #[.val (.ref ab), .val (.int 5), .val (.int qq)] [(.int qq), (.int 5), (.ref ab)])) (fun _ kz => ?_) ?_
  · refine XS.aloadN X3.here hx rfl (hb hby d27_44) rfl rfl ?_
    refine XS.iloadN X3.here hx rfl (hb hby d27_45) rfl ?_
    refine XS.iloadN X3.here hx rfl (hb hby d27_46) rfl ?_
    exact kz
  obtain ⟨T4, X4, e4, st4⟩ := getS2 X3 hx hZ hown (host := "") (Or.inl (own_w hw 150 rfl)) Via.refl e3 S_lo (g := (mkF m 47 #[.val (.ref ab), .val (.int 5), .val (.int qq)] [(.int qq), (.int 5), (.ref ab)])) rfl (hb hby d27_47)
  refine own_go (A := T4.setTop (mkF m 50 #[.val (.ref ab), .val (.int 5), .val (.int qq)] [(.int 8), (.int qq), (.int 5), (.ref ab)])) (fun _ kz => st4 _ kz) ?_
  refine own_go (A := T4.setTop (mkF m 52 #[.val (.ref ab), .val (.int 5), .val (.int qq)] [(.int ((qq >>> ((8 : Int32) &&& 31)).toInt8.toInt32)), (.int 5), (.ref ab)])) (fun _ kz => ?_) ?_
  · refine XS.ishr X4.here hx rfl (hb hby d27_50) rfl ?_
    refine XS.i2b X4.here hx rfl (hb hby d27_51) rfl ?_
    exact kz
  obtain ⟨cl5, Ar5, q5, S5, M5, H5, G5⟩ := id Av_ab
  have hin5 : ¬ ((5 : Int32) < 0 ∨ cl5.slots.size ≤ ((5 : Int32)).toNatClampNeg) := inb_of S5 ⟨by decide, by decide⟩
  obtain ⟨T5, h5, X5, e5, W5, st5⟩ := stB X4 hx hZ e4 Ar5 (j := (5 : Int32)) hin5 (g := (mkF m 52 #[.val (.ref ab), .val (.int 5), .val (.int qq)] [(.int ((qq >>> ((8 : Int32) &&& 31)).toInt8.toInt32)), (.int 5), (.ref ab)])) rfl rfl (hb hby d27_52)
  rw [own_nbn] at W5
  have Aw5 := Arv.set Ar5 q5 S5 M5 H5 G5 (fits_nar_byte _) W5 5 rfl (Nat.le_of_ble_eq_true rfl)
  replace S_ad := S_ad.wr W5
  replace S_hi := S_hi.wr W5
  replace S_lo := S_lo.wr W5
  have Z5 : n0 ≤ h5.size := Nat.le_trans Z3 (Keep.of_wr W5).1
  have Kp5 : Keep h0 h5 [ab] := Kp3.wr W5 (Or.inl (List.mem_of_getElem? (i := 0) rfl))
  have Av_ab : Arv Z h5 ab kb .byte (6 : Int32) [w0, w1, w2, w3, (.int ((qq >>> ((0 : Int32) &&& 31)).toInt8.toInt32)), (.int ((qq >>> ((8 : Int32) &&& 31)).toInt8.toInt32))] (.int 0) := Aw5
  have N5 := Fr.snoc X5 N3 g_ab
  refine own_go (A := T5.setTop (mkF m 53 #[.val (.ref ab), .val (.int 5), .val (.int qq)] [])) (fun _ kz => st5 _ kz) ?_
  obtain ⟨fs, hrr, hrun, hended, hW, hsame⟩ := X5.leave (v := none) (fun _ => rfl)
  refine ⟨_, _, ?_, hrun, hended, _, _, rfl, ?_, ⟨_, rfl⟩, hW, hsame.mono (by decide) (by decide)⟩
  · show Steps p.tables e below (T5.setTop (mkF m 53 #[.val (.ref ab), .val (.int 5), .val (.int qq)] [])) _
    exact X5.returnOut hx Bd.returns (hb hby d27_53) hrr
  · show QrmPC_3_2 Z ab kb qq w0 w1 w2 w3 w4 w5 h0 n0 _ T5.heap _
    rw [e5]
    exact ⟨rfl, N5, Kp5, Av_ab⟩
def QrmTB_3 (Z : State) (ch0 : Int32) (ch1 : Int32) (ch2 : Int32) (h0 : Heap) (n0 : Nat) (v : Option Value) (h : Heap) (L : List Loc) : Prop := ∃ (b : Addr) (kc : ClassId), v = some (.ref b) ∧ Fr n0 L ∧ h0.size ≤ b ∧ Keep h0 h [] ∧ Arv Z h b kc .byte (6 : Int32) [(.int (own_l ch0)), (.int (own_h ch0)), (.int (own_l ch1)), (.int (own_h ch1)), (.int (own_l ch2)), (.int (own_h ch2))] (.int 0)
set_option maxRecDepth 65536 in
set_option maxHeartbeats 40000000 in
theorem rmTB_3 (l : Launch) (Z : State) (a0 : Array Value) (hw : ∀ d ∈ tables_1, d.before a0 Z = true) (ws : List Jvm.Cond) (ar : Addr) (ka : ClassId) (ch0 ch1 ch2 : Int32) (h0 : Heap) (n0 : Nat) (Z0 : n0 ≤ h0.size) (Aa : Arv Z h0 ar ka .char (3 : Int32) [(.int ch0), (.int ch1), (.int ch2)] (.int 0)) (S_ad : Sta Z h0 "java/lang/StringUTF16" "$assertionsDisabled" "Z" (.int 1)) (S_hi : Sta Z h0 "java/lang/StringUTF16" "HI_BYTE_SHIFT" "I" (.int 0)) (S_lo : Sta Z h0 "java/lang/StringUTF16" "LO_BYTE_SHIFT" "I" (.int 8)) :
    MetFree l (⟨"java/lang/StringUTF16", "toBytes", "([CII)[B"⟩ : MethodName) (head1 (Jvm.Cond.code (⟨"java/lang/StringUTF16", "toBytes", "([CII)[B"⟩ : MethodName) jdk_52_method_14_code 5 (some (.array .byte)) :: ws) ({ frames := 2, cells := 1, slots := 6, locals := 24 } : Room)) (fun ar_ U_ => ar_ = #[(.ref ar), (.int 0), (.int 3)] ∧ Z.Warmed39 U_.vm ∧ U_.heap = h0) (fun _ _ _ _ _ => True) (fun _ U_ ou_ V_ => ∃ v_ L_, ou_ = .returned v_ ∧ QrmTB_3 Z ch0 ch1 ch2 h0 n0 v_ V_.heap L_ ∧ FrameEnd U_ ou_ V_ L_ ({ frames := 2, cells := 1, slots := 6, locals := 24 } : Room).cells ({ frames := 2, cells := 1, slots := 6, locals := 24 } : Room).slots) := by
  refine MetFree.of_bodySF (plainFor_of_name own_pn24) hisR ?_
  intro p e s m args below meth c s₁ Bd hml0 hP hK
  obtain ⟨rfl, hZ, hh⟩ := hP
  have hx := Bd.exec
  have hby := Bd.bytes
  have hml : c.maxLocals = 5 := hml0
  have hown : s.vm.findClass "java/lang/StringUTF16" = some m.cls := findClass_of_methodNamed Bd.named
  have hnm := (name_of_methodNamed Bd.named Bd.method).1
  have X0 : Stand p l e ({ frames := 2, cells := 1, slots := 6, locals := 24 } : Room) s m #[(.ref ar), (.int 0), (.int 3)] below meth c s₁ [] 0 0 := Stand.of_body Bd
  have e0 : s₁.heap = h0 := by rw [← hh, Bd.state]; rfl
  have N0 := Fr.nil n0
  have Kp0 : Keep h0 h0 [] := Keep.refl h0 _
  refine own_go (A := s₁.setTop (mkF m 0 #[.val (.ref ar), .val (.int 0), .val (.int 3), .unset, .unset] [])) (fun _ kz => castTop (own_ef24 m ar (0 : Int32) (3 : Int32)) kz) ?_
  refine own_go (A := s₁.setTop (mkF m 1 #[.val (.ref ar), .val (.int 0), .val (.int 3), .unset, .unset] [(.int 3)])) (fun _ kz => ?_) ?_
  · refine XS.iloadN X0.here hx rfl (hb hby d24_0) rfl ?_
    exact kz
  obtain ⟨_, _, ⟨T1, L1, k1, n1⟩, -, X1, ⟨Lc1, hQ1, l1, y1, z1⟩, st1⟩ := Jvm.LawKit.callS X0 hx (y := (⟨"java/lang/StringUTF16", "newBytesFor", "(I)[B"⟩ : MethodName)) hown (mvT hZ (own_w hw 138 rfl)) (mvT hZ (own_w hw 139 rfl)) (mvT hZ (own_w hw 22 rfl)) (mvT hZ (own_w hw 140 rfl)) (by decide) (backOf (W := 0) (rmNF_3 l Z a0 hw [] h0 n0 Z0) hZ (own_w hw 140 rfl) (own_w hw 22 rfl) (by decide) (by decide)) (g := (mkF m 1 #[.val (.ref ar), .val (.int 0), .val (.int 3), .unset, .unset] [(.int 3)])) rfl (by rw [hml]; rfl) (argsL := [(.int 3)]) (rest := []) (lenOf own_pd1 rfl) rfl (by show 2 * 0 + _ ≤ _; exact Nat.le_of_eq rfl) (hb hby d24_1) (fun _ _ => ⟨rfl, e0, (by decide : 0 + 1 ≤ _), (by decide : 0 + 6 ≤ _)⟩)
  dsimp only [Pt.U, Pt.locs, Pt.cells, Pt.slots] at X1 l1 y1 z1 st1 hQ1
  subst l1 y1 z1
  obtain ⟨c1, kc1, rfl, N1q, zc1, K1q, Av1⟩ := hQ1
  have N1 := Fr.app N0 N1q
  have ne_ar_c1 : ar ≠ c1 := Nat.ne_of_lt (Nat.lt_of_lt_of_le Aa.lt zc1)
  have g_c1 : n0 ≤ c1 := Nat.le_trans Z0 zc1
  have szk_c1 : h0.size ≤ c1 := Nat.le_trans Kp0.1 zc1
  replace S_ad := own_staKeep S_ad K1q all0
  replace S_hi := own_staKeep S_hi K1q all0
  replace S_lo := own_staKeep S_lo K1q all0
  replace Aa := Aa.keep K1q nin0
  have Z1 : n0 ≤ T1.heap.size := Nat.le_trans Z0 K1q.1
  have Kp1 : Keep h0 T1.heap [] := Kp0.trans K1q (all0)
  refine own_go (A := T1.setTop (mkF m 4 #[.val (.ref ar), .val (.int 0), .val (.int 3), .unset, .unset] [(.ref c1)])) (fun _ kz => st1 _ kz) ?_
  refine own_go (A := T1.setTop (mkF m 19 #[.val (.ref ar), .val (.int 0), .val (.int 3), .val (.ref c1), .val (.int 0)] [(.int 0), (.ref ar), (.int 0), (.ref c1)])) (fun _ kz => ?_) ?_
  · refine XS.astoreN X1.here hx rfl (hb hby d24_4) rfl rfl (l' := #[.val (.ref ar), .val (.int 0), .val (.int 3), .val (.ref c1), .unset]) rfl ?_
    refine XS.iconst X1.here hx rfl (hb hby d24_5) ?_
    refine XS.istore X1.here hx rfl (hb hby d24_6) rfl (l' := #[.val (.ref ar), .val (.int 0), .val (.int 3), .val (.ref c1), .val (.int 0)]) rfl ?_
    refine XS.iload X1.here hx rfl (hb hby d24_8) rfl ?_
    refine XS.iloadN X1.here hx rfl (hb hby d24_10) rfl ?_
    refine XS.icmpNo X1.here hx rfl (hb hby d24_11) rfl (tlt (by decide : ((0 : Int32) < (3 : Int32)))).2.1 ?_
    refine XS.aloadN X1.here hx rfl (hb hby d24_14) rfl rfl ?_
    refine XS.iload X1.here hx rfl (hb hby d24_15) rfl ?_
    refine XS.aloadN X1.here hx rfl (hb hby d24_17) rfl rfl ?_
    refine XS.iloadN X1.here hx rfl (hb hby d24_18) rfl ?_
    exact kz
  obtain ⟨cl2, Ar2, -, S2, M2, H2, -⟩ := id Aa
  have hin2 : ¬ ((0 : Int32) < 0 ∨ cl2.slots.size ≤ ((0 : Int32)).toNatClampNeg) := inb_of S2 ⟨by decide, by decide⟩
  have hat2 : cl2.slots[((0 : Int32)).toNatClampNeg]? = some (.int ch0) := H2.at hin2 rfl
  refine own_go (A := T1.setTop (mkF m 20 #[.val (.ref ar), .val (.int 0), .val (.int 3), .val (.ref c1), .val (.int 0)] [(.int ch0), (.int 0), (.ref c1)])) (fun _ kz => ?_) ?_
  · refine X1.caload hx (j := (0 : Int32)) (v := (.int ch0)) Ar2.1 (State.isArrayOf_alike hZ.alike Ar2.2.1) Ar2.2.2 hin2 hat2 (g := (mkF m 19 #[.val (.ref ar), .val (.int 0), .val (.int 3), .val (.ref c1), .val (.int 0)] [(.int 0), (.ref ar), (.int 0), (.ref c1)])) rfl rfl (hb hby d24_19) _ ?_
    exact kz
  obtain ⟨_, _, ⟨T3, L3, k3, n3⟩, -, X3, ⟨Lc3, hQ3, l3, y3, z3⟩, st3⟩ := Jvm.LawKit.callS X1 hx (y := (⟨"java/lang/StringUTF16", "putChar", "([BII)V"⟩ : MethodName)) hown (mvT hZ (own_w hw 145 rfl)) (mvT hZ (own_w hw 146 rfl)) (mvT hZ (own_w hw 22 rfl)) (mvT hZ (own_w hw 147 rfl)) (by decide) (backOf (W := 0) (rmPC_3_0 l Z a0 hw [] c1 kc1 ch0 (.int 0) (.int 0) (.int 0) (.int 0) (.int 0) (.int 0) T1.heap n0 Z1 Av1 g_c1 S_ad S_hi S_lo) hZ (own_w hw 147 rfl) (own_w hw 22 rfl) (by decide) (by decide)) (g := (mkF m 20 #[.val (.ref ar), .val (.int 0), .val (.int 3), .val (.ref c1), .val (.int 0)] [(.int ch0), (.int 0), (.ref c1)])) rfl (by rw [hml]; rfl) (argsL := [(.ref c1), (.int 0), (.int ch0)]) (rest := []) (lenOf own_pd2 rfl) rfl (by show 2 * 0 + _ ≤ _; exact Nat.le_of_eq rfl) (hb hby d24_20) (fun _ _ => ⟨rfl, rfl, (by decide : 1 + 0 ≤ _), (by decide : 6 + 0 ≤ _)⟩)
  dsimp only [Pt.U, Pt.locs, Pt.cells, Pt.slots] at X3 l3 y3 z3 st3 hQ3
  subst l3 y3 z3
  obtain ⟨rfl, N3q, K3q, Av3⟩ := hQ3
  have N3 := Fr.app N1 N3q
  replace S_ad := own_staKeep S_ad K3q (allS (own_nsA Av1) all0)
  replace S_hi := own_staKeep S_hi K3q (allS (own_nsA Av1) all0)
  replace S_lo := own_staKeep S_lo K3q (allS (own_nsA Av1) all0)
  replace Aa := Aa.keep K3q (ninS ne_ar_c1 nin0)
  have Z3 : n0 ≤ T3.heap.size := Nat.le_trans Z1 K3q.1
  have Kp3 : Keep h0 T3.heap [] := Kp1.trans K3q (allS (Or.inr szk_c1) (all0))
  refine own_go (A := T3.setTop (mkF m 23 #[.val (.ref ar), .val (.int 0), .val (.int 3), .val (.ref c1), .val (.int 0)] [])) (fun _ kz => st3 _ kz) ?_
  refine own_go (A := T3.setTop (mkF m 19 #[.val (.ref ar), .val (.int 1), .val (.int 3), .val (.ref c1), .val (.int 1)] [(.int 1), (.ref ar), (.int 1), (.ref c1)])) (fun _ kz => ?_) ?_
  · refine XS.iinc X3.here hx rfl (hb hby d24_23) rfl (l' := #[.val (.ref ar), .val (.int 1), .val (.int 3), .val (.ref c1), .val (.int 0)]) rfl ?_
    refine XS.iinc X3.here hx rfl (hb hby d24_26) rfl (l' := #[.val (.ref ar), .val (.int 1), .val (.int 3), .val (.ref c1), .val (.int 1)]) rfl ?_
    refine XS.goto X3.here hx rfl (pc0 := 29) (pc' := 8) rfl (hb hby d24_29) (by decide) (by decide) ?_
    refine XS.iload X3.here hx rfl (hb hby d24_8) rfl ?_
    refine XS.iloadN X3.here hx rfl (hb hby d24_10) rfl ?_
    refine XS.icmpNo X3.here hx rfl (hb hby d24_11) rfl (tlt (by decide : ((1 : Int32) < (3 : Int32)))).2.1 ?_
    refine XS.aloadN X3.here hx rfl (hb hby d24_14) rfl rfl ?_
    refine XS.iload X3.here hx rfl (hb hby d24_15) rfl ?_
    refine XS.aloadN X3.here hx rfl (hb hby d24_17) rfl rfl ?_
    refine XS.iloadN X3.here hx rfl (hb hby d24_18) rfl ?_
    exact kz
  obtain ⟨cl4, Ar4, -, S4, M4, H4, -⟩ := id Aa
  have hin4 : ¬ ((1 : Int32) < 0 ∨ cl4.slots.size ≤ ((1 : Int32)).toNatClampNeg) := inb_of S4 ⟨by decide, by decide⟩
  have hat4 : cl4.slots[((1 : Int32)).toNatClampNeg]? = some (.int ch1) := H4.at hin4 rfl
  refine own_go (A := T3.setTop (mkF m 20 #[.val (.ref ar), .val (.int 1), .val (.int 3), .val (.ref c1), .val (.int 1)] [(.int ch1), (.int 1), (.ref c1)])) (fun _ kz => ?_) ?_
  · refine X3.caload hx (j := (1 : Int32)) (v := (.int ch1)) Ar4.1 (State.isArrayOf_alike hZ.alike Ar4.2.1) Ar4.2.2 hin4 hat4 (g := (mkF m 19 #[.val (.ref ar), .val (.int 1), .val (.int 3), .val (.ref c1), .val (.int 1)] [(.int 1), (.ref ar), (.int 1), (.ref c1)])) rfl rfl (hb hby d24_19) _ ?_
    exact kz
  obtain ⟨_, _, ⟨T5, L5, k5, n5⟩, -, X5, ⟨Lc5, hQ5, l5, y5, z5⟩, st5⟩ := Jvm.LawKit.callS X3 hx (y := (⟨"java/lang/StringUTF16", "putChar", "([BII)V"⟩ : MethodName)) hown (mvT hZ (own_w hw 145 rfl)) (mvT hZ (own_w hw 146 rfl)) (mvT hZ (own_w hw 22 rfl)) (mvT hZ (own_w hw 147 rfl)) (by decide) (backOf (W := 0) (rmPC_3_1 l Z a0 hw [] c1 kc1 ch1 (.int (own_l ch0)) (.int (own_h ch0)) (.int 0) (.int 0) (.int 0) (.int 0) T3.heap n0 Z3 Av3 g_c1 S_ad S_hi S_lo) hZ (own_w hw 147 rfl) (own_w hw 22 rfl) (by decide) (by decide)) (g := (mkF m 20 #[.val (.ref ar), .val (.int 1), .val (.int 3), .val (.ref c1), .val (.int 1)] [(.int ch1), (.int 1), (.ref c1)])) rfl (by rw [hml]; rfl) (argsL := [(.ref c1), (.int 1), (.int ch1)]) (rest := []) (lenOf own_pd2 rfl) rfl (by show 2 * 0 + _ ≤ _; exact Nat.le_of_eq rfl) (hb hby d24_20) (fun _ _ => ⟨rfl, rfl, (by decide : 1 + 0 ≤ _), (by decide : 6 + 0 ≤ _)⟩)
  dsimp only [Pt.U, Pt.locs, Pt.cells, Pt.slots] at X5 l5 y5 z5 st5 hQ5
  subst l5 y5 z5
  obtain ⟨rfl, N5q, K5q, Av5⟩ := hQ5
  have N5 := Fr.app N3 N5q
  replace S_ad := own_staKeep S_ad K5q (allS (own_nsA Av3) all0)
  replace S_hi := own_staKeep S_hi K5q (allS (own_nsA Av3) all0)
  replace S_lo := own_staKeep S_lo K5q (allS (own_nsA Av3) all0)
  replace Aa := Aa.keep K5q (ninS ne_ar_c1 nin0)
  have Z5 : n0 ≤ T5.heap.size := Nat.le_trans Z3 K5q.1
  have Kp5 : Keep h0 T5.heap [] := Kp3.trans K5q (allS (Or.inr szk_c1) (all0))
  refine own_go (A := T5.setTop (mkF m 23 #[.val (.ref ar), .val (.int 1), .val (.int 3), .val (.ref c1), .val (.int 1)] [])) (fun _ kz => st5 _ kz) ?_
  refine own_go (A := T5.setTop (mkF m 19 #[.val (.ref ar), .val (.int 2), .val (.int 3), .val (.ref c1), .val (.int 2)] [(.int 2), (.ref ar), (.int 2), (.ref c1)])) (fun _ kz => ?_) ?_
  · refine XS.iinc X5.here hx rfl (hb hby d24_23) rfl (l' := #[.val (.ref ar), .val (.int 2), .val (.int 3), .val (.ref c1), .val (.int 1)]) rfl ?_
    refine XS.iinc X5.here hx rfl (hb hby d24_26) rfl (l' := #[.val (.ref ar), .val (.int 2), .val (.int 3), .val (.ref c1), .val (.int 2)]) rfl ?_
    refine XS.goto X5.here hx rfl (pc0 := 29) (pc' := 8) rfl (hb hby d24_29) (by decide) (by decide) ?_
    refine XS.iload X5.here hx rfl (hb hby d24_8) rfl ?_
    refine XS.iloadN X5.here hx rfl (hb hby d24_10) rfl ?_
    refine XS.icmpNo X5.here hx rfl (hb hby d24_11) rfl (tlt (by decide : ((2 : Int32) < (3 : Int32)))).2.1 ?_
    refine XS.aloadN X5.here hx rfl (hb hby d24_14) rfl rfl ?_
    refine XS.iload X5.here hx rfl (hb hby d24_15) rfl ?_
    refine XS.aloadN X5.here hx rfl (hb hby d24_17) rfl rfl ?_
    refine XS.iloadN X5.here hx rfl (hb hby d24_18) rfl ?_
    exact kz
  obtain ⟨cl6, Ar6, -, S6, M6, H6, -⟩ := id Aa
  have hin6 : ¬ ((2 : Int32) < 0 ∨ cl6.slots.size ≤ ((2 : Int32)).toNatClampNeg) := inb_of S6 ⟨by decide, by decide⟩
  have hat6 : cl6.slots[((2 : Int32)).toNatClampNeg]? = some (.int ch2) := H6.at hin6 rfl
  refine own_go (A := T5.setTop (mkF m 20 #[.val (.ref ar), .val (.int 2), .val (.int 3), .val (.ref c1), .val (.int 2)] [(.int ch2), (.int 2), (.ref c1)])) (fun _ kz => ?_) ?_
  · refine X5.caload hx (j := (2 : Int32)) (v := (.int ch2)) Ar6.1 (State.isArrayOf_alike hZ.alike Ar6.2.1) Ar6.2.2 hin6 hat6 (g := (mkF m 19 #[.val (.ref ar), .val (.int 2), .val (.int 3), .val (.ref c1), .val (.int 2)] [(.int 2), (.ref ar), (.int 2), (.ref c1)])) rfl rfl (hb hby d24_19) _ ?_
    exact kz
  obtain ⟨_, _, ⟨T7, L7, k7, n7⟩, -, X7, ⟨Lc7, hQ7, l7, y7, z7⟩, st7⟩ := Jvm.LawKit.callS X5 hx (y := (⟨"java/lang/StringUTF16", "putChar", "([BII)V"⟩ : MethodName)) hown (mvT hZ (own_w hw 145 rfl)) (mvT hZ (own_w hw 146 rfl)) (mvT hZ (own_w hw 22 rfl)) (mvT hZ (own_w hw 147 rfl)) (by decide) (backOf (W := 0) (rmPC_3_2 l Z a0 hw [] c1 kc1 ch2 (.int (own_l ch0)) (.int (own_h ch0)) (.int (own_l ch1)) (.int (own_h ch1)) (.int 0) (.int 0) T5.heap n0 Z5 Av5 g_c1 S_ad S_hi S_lo) hZ (own_w hw 147 rfl) (own_w hw 22 rfl) (by decide) (by decide)) (g := (mkF m 20 #[.val (.ref ar), .val (.int 2), .val (.int 3), .val (.ref c1), .val (.int 2)] [(.int ch2), (.int 2), (.ref c1)])) rfl (by rw [hml]; rfl) (argsL := [(.ref c1), (.int 2), (.int ch2)]) (rest := []) (lenOf own_pd2 rfl) rfl (by show 2 * 0 + _ ≤ _; exact Nat.le_of_eq rfl) (hb hby d24_20) (fun _ _ => ⟨rfl, rfl, (by decide : 1 + 0 ≤ _), (by decide : 6 + 0 ≤ _)⟩)
  dsimp only [Pt.U, Pt.locs, Pt.cells, Pt.slots] at X7 l7 y7 z7 st7 hQ7
  subst l7 y7 z7
  obtain ⟨rfl, N7q, K7q, Av7⟩ := hQ7
  have N7 := Fr.app N5 N7q
  replace S_ad := own_staKeep S_ad K7q (allS (own_nsA Av5) all0)
  replace S_hi := own_staKeep S_hi K7q (allS (own_nsA Av5) all0)
  replace S_lo := own_staKeep S_lo K7q (allS (own_nsA Av5) all0)
  replace Aa := Aa.keep K7q (ninS ne_ar_c1 nin0)
  have Z7 : n0 ≤ T7.heap.size := Nat.le_trans Z5 K7q.1
  have Kp7 : Keep h0 T7.heap [] := Kp5.trans K7q (allS (Or.inr szk_c1) (all0))
  refine own_go (A := T7.setTop (mkF m 23 #[.val (.ref ar), .val (.int 2), .val (.int 3), .val (.ref c1), .val (.int 2)] [])) (fun _ kz => st7 _ kz) ?_
  refine own_go (A := T7.setTop (mkF m 33 #[.val (.ref ar), .val (.int 3), .val (.int 3), .val (.ref c1), .val (.int 3)] [(.ref c1)])) (fun _ kz => ?_) ?_
  · refine XS.iinc X7.here hx rfl (hb hby d24_23) rfl (l' := #[.val (.ref ar), .val (.int 3), .val (.int 3), .val (.ref c1), .val (.int 2)]) rfl ?_
    refine XS.iinc X7.here hx rfl (hb hby d24_26) rfl (l' := #[.val (.ref ar), .val (.int 3), .val (.int 3), .val (.ref c1), .val (.int 3)]) rfl ?_
    refine XS.goto X7.here hx rfl (pc0 := 29) (pc' := 8) rfl (hb hby d24_29) (by decide) (by decide) ?_
    refine XS.iload X7.here hx rfl (hb hby d24_8) rfl ?_
    refine XS.iloadN X7.here hx rfl (hb hby d24_10) rfl ?_
    refine XS.icmpYes X7.here hx rfl (pc0 := 11) (pc' := 32) rfl (hb hby d24_11) rfl (flt (by decide : ¬ ((3 : Int32) < (3 : Int32)))).2.1 (by decide) (by decide) ?_
    refine XS.aloadN X7.here hx rfl (hb hby d24_32) rfl rfl ?_
    exact kz
  obtain ⟨fs, hrr, hrun, hended, hW, hsame⟩ := X7.leave (v := some (.ref c1)) (fun h => by rw [Bd.returns] at h; cases h)
  refine ⟨_, _, ?_, hrun, hended, _, _, rfl, ?_, ⟨_, rfl⟩, hW, hsame.mono (by decide) (by decide)⟩
  · show Steps p.tables e below (T7.setTop (mkF m 33 #[.val (.ref ar), .val (.int 3), .val (.int 3), .val (.ref c1), .val (.int 3)] [(.ref c1)])) _
    exact retOut X7 hx (t := (.array .byte)) Bd.returns rfl (Or.inr (Or.inr (Or.inr (Or.inr ⟨rfl, rfl, rfl⟩)))) (hb hby d24_33) hrr
  · show QrmTB_3 Z ch0 ch1 ch2 h0 n0 _ T7.heap _
    exact ⟨c1, kc1, rfl, N7, szk_c1, Kp7, Av7⟩
def QrmGC_3_0 (Z : State) (qq : Int32) (h0 : Heap) (n0 : Nat) (v : Option Value) (h : Heap) (L : List Loc) : Prop := v = some (.int qq) ∧ Fr n0 L ∧ h = h0
set_option maxRecDepth 65536 in
set_option maxHeartbeats 40000000 in
theorem rmGC_3_0 (l : Launch) (Z : State) (a0 : Array Value) (hw : ∀ d ∈ tables_1, d.before a0 Z = true) (ws : List Jvm.Cond) (ab : Addr) (kb : ClassId) (qq : Int32) (w2 w3 w4 w5 : Value) (h0 : Heap) (n0 : Nat) (Z0 : n0 ≤ h0.size) (Ab : Arv Z h0 ab kb .byte (6 : Int32) [(.int (own_l qq)), (.int (own_h qq)), w2, w3, w4, w5] (.int 0)) (hq : ¬ qq < 0 ∧ ¬ (65535 : Int32) < qq) (S_ad : Sta Z h0 "java/lang/StringUTF16" "$assertionsDisabled" "Z" (.int 1)) (S_hi : Sta Z h0 "java/lang/StringUTF16" "HI_BYTE_SHIFT" "I" (.int 0)) (S_lo : Sta Z h0 "java/lang/StringUTF16" "LO_BYTE_SHIFT" "I" (.int 8)) :
    MetFree l (⟨"java/lang/StringUTF16", "getChar", "([BI)C"⟩ : MethodName) (head1 (Jvm.Cond.code (⟨"java/lang/StringUTF16", "getChar", "([BI)C"⟩ : MethodName) jdk_52_method_5_code 2 (some .char) :: ws) ({ frames := 0, cells := 0, slots := 0, locals := 0 } : Room)) (fun ar_ U_ => ar_ = #[(.ref ab), (.int 0)] ∧ Z.Warmed39 U_.vm ∧ U_.heap = h0) (fun _ _ _ _ _ => True) (fun _ U_ ou_ V_ => ∃ v_ L_, ou_ = .returned v_ ∧ QrmGC_3_0 Z qq h0 n0 v_ V_.heap L_ ∧ FrameEnd U_ ou_ V_ L_ ({ frames := 0, cells := 0, slots := 0, locals := 0 } : Room).cells ({ frames := 0, cells := 0, slots := 0, locals := 0 } : Room).slots) := by
  refine MetFree.of_bodySF (plainFor_of_name own_pn28) hisR ?_
  intro p e s m args below meth c s₁ Bd hml0 hP hK
  obtain ⟨rfl, hZ, hh⟩ := hP
  have hx := Bd.exec
  have hby := Bd.bytes
  have hml : c.maxLocals = 2 := hml0
  have hown : s.vm.findClass "java/lang/StringUTF16" = some m.cls := findClass_of_methodNamed Bd.named
  have hnm := (name_of_methodNamed Bd.named Bd.method).1
  have X0 : Stand p l e ({ frames := 0, cells := 0, slots := 0, locals := 0 } : Room) s m #[(.ref ab), (.int 0)] below meth c s₁ [] 0 0 := Stand.of_body Bd
  have e0 : s₁.heap = h0 := by rw [← hh, Bd.state]; rfl
  have N0 := Fr.nil n0
  refine own_go (A := s₁.setTop (mkF m 0 #[.val (.ref ab), .val (.int 0)] [])) (fun _ kz => castTop (own_ef28 m ab (0 : Int32)) kz) ?_
  obtain ⟨T1, X1, e1, st1⟩ := getS2 X0 hx hZ hown (host := "") (Or.inl (own_w hw 148 rfl)) Via.refl e0 S_ad (g := (mkF m 0 #[.val (.ref ab), .val (.int 0)] [])) rfl (hb hby d28_0)
  refine own_go (A := T1.setTop (mkF m 3 #[.val (.ref ab), .val (.int 0)] [(.int 1)])) (fun _ kz => st1 _ kz) ?_
  refine own_go (A := T1.setTop (mkF m 37 #[.val (.ref ab), .val (.int 1)] [(.int 0), (.ref ab)])) (fun _ kz => ?_) ?_
  · refine XS.ifYes X1.here hx rfl (pc0 := 3) (pc' := 28) rfl (hb hby d28_3) rfl ((if0 _ _).trans (feq (by decide : ¬ ((1 : Int32) = (0 : Int32)))).2) (by decide) (by decide) ?_
    refine XS.iloadN X1.here hx rfl (hb hby d28_28) rfl ?_
    refine XS.iconst X1.here hx rfl (hb hby d28_29) ?_
    refine XS.ishl X1.here hx rfl (hb hby d28_30) rfl ?_
    show Steps p.tables e below (T1.setTop (mkF m 31 #[.val (.ref ab), .val (.int 0)] [(.int 0)])) _
    refine XS.istoreN X1.here hx rfl (hb hby d28_31) rfl (l' := #[.val (.ref ab), .val (.int 0)]) rfl ?_
    refine XS.aloadN X1.here hx rfl (hb hby d28_32) rfl rfl ?_
    refine XS.iloadN X1.here hx rfl (hb hby d28_33) rfl ?_
    refine XS.iinc X1.here hx rfl (hb hby d28_34) rfl (l' := #[.val (.ref ab), .val (.int 1)]) rfl ?_
    exact kz
  obtain ⟨cl2, Ar2, -, S2, M2, H2, -⟩ := id Ab
  have hin2 : ¬ ((0 : Int32) < 0 ∨ cl2.slots.size ≤ ((0 : Int32)).toNatClampNeg) := inb_of S2 ⟨by decide, by decide⟩
  have hat2 : cl2.slots[((0 : Int32)).toNatClampNeg]? = some (.int (own_l qq)) := H2.at hin2 rfl
  refine own_go (A := T1.setTop (mkF m 38 #[.val (.ref ab), .val (.int 1)] [(.int (own_l qq))])) (fun _ kz => ?_) ?_
  · refine X1.baloadBytes hx (j := (0 : Int32)) (v := (.int (own_l qq))) (by rw [e1]; exact Ar2.1) (State.isArrayOf_alike hZ.alike Ar2.2.1) Ar2.2.2 hin2 hat2 (g := (mkF m 37 #[.val (.ref ab), .val (.int 1)] [(.int 0), (.ref ab)])) rfl rfl (hb hby d28_37) _ ?_
    exact kz
  refine own_go (A := T1.setTop (mkF m 42 #[.val (.ref ab), .val (.int 1)] [(.int ((own_l qq) &&& (255 : Int32)))])) (fun _ kz => ?_) ?_
  · refine XS.sipush X1.here hx rfl (hb hby d28_38) ?_
    refine XS.iand X1.here hx rfl (hb hby d28_41) rfl ?_
    exact kz
  obtain ⟨T3, X3, e3, st3⟩ := getS2 X1 hx hZ hown (host := "") (Or.inl (own_w hw 149 rfl)) Via.refl e1 S_hi (g := (mkF m 42 #[.val (.ref ab), .val (.int 1)] [(.int ((own_l qq) &&& (255 : Int32)))])) rfl (hb hby d28_42)
  refine own_go (A := T3.setTop (mkF m 45 #[.val (.ref ab), .val (.int 1)] [(.int 0), (.int ((own_l qq) &&& (255 : Int32)))])) (fun _ kz => st3 _ kz) ?_
  refine own_go (A := T3.setTop (mkF m 48 #[.val (.ref ab), .val (.int 1)] [(.int 1), (.ref ab), (.int (((own_l qq) &&& (255 : Int32)) <<< ((0 : Int32) &&& 31)))])) (fun _ kz => ?_) ?_
  · refine XS.ishl X3.here hx rfl (hb hby d28_45) rfl ?_
    refine XS.aloadN X3.here hx rfl (hb hby d28_46) rfl rfl ?_
    refine XS.iloadN X3.here hx rfl (hb hby d28_47) rfl ?_
    exact kz
  obtain ⟨cl4, Ar4, -, S4, M4, H4, -⟩ := id Ab
  have hin4 : ¬ ((1 : Int32) < 0 ∨ cl4.slots.size ≤ ((1 : Int32)).toNatClampNeg) := inb_of S4 ⟨by decide, by decide⟩
  have hat4 : cl4.slots[((1 : Int32)).toNatClampNeg]? = some (.int (own_h qq)) := H4.at hin4 rfl
  refine own_go (A := T3.setTop (mkF m 49 #[.val (.ref ab), .val (.int 1)] [(.int (own_h qq)), (.int (((own_l qq) &&& (255 : Int32)) <<< ((0 : Int32) &&& 31)))])) (fun _ kz => ?_) ?_
  · refine X3.baloadBytes hx (j := (1 : Int32)) (v := (.int (own_h qq))) (by rw [e3]; exact Ar4.1) (State.isArrayOf_alike hZ.alike Ar4.2.1) Ar4.2.2 hin4 hat4 (g := (mkF m 48 #[.val (.ref ab), .val (.int 1)] [(.int 1), (.ref ab), (.int (((own_l qq) &&& (255 : Int32)) <<< ((0 : Int32) &&& 31)))])) rfl rfl (hb hby d28_48) _ ?_
    exact kz
  refine own_go (A := T3.setTop (mkF m 53 #[.val (.ref ab), .val (.int 1)] [(.int ((own_h qq) &&& (255 : Int32))), (.int (((own_l qq) &&& (255 : Int32)) <<< ((0 : Int32) &&& 31)))])) (fun _ kz => ?_) ?_
  · refine XS.sipush X3.here hx rfl (hb hby d28_49) ?_
    refine XS.iand X3.here hx rfl (hb hby d28_52) rfl ?_
    exact kz
  obtain ⟨T5, X5, e5, st5⟩ := getS2 X3 hx hZ hown (host := "") (Or.inl (own_w hw 150 rfl)) Via.refl e3 S_lo (g := (mkF m 53 #[.val (.ref ab), .val (.int 1)] [(.int ((own_h qq) &&& (255 : Int32))), (.int (((own_l qq) &&& (255 : Int32)) <<< ((0 : Int32) &&& 31)))])) rfl (hb hby d28_53)
  refine own_go (A := T5.setTop (mkF m 56 #[.val (.ref ab), .val (.int 1)] [(.int 8), (.int ((own_h qq) &&& (255 : Int32))), (.int (((own_l qq) &&& (255 : Int32)) <<< ((0 : Int32) &&& 31)))])) (fun _ kz => st5 _ kz) ?_
  refine own_go (A := T5.setTop (mkF m 59 #[.val (.ref ab), .val (.int 1)] [(.int (((((own_l qq) &&& (255 : Int32)) <<< ((0 : Int32) &&& 31)) ||| (((own_h qq) &&& (255 : Int32)) <<< ((8 : Int32) &&& 31))).toUInt32.toUInt16.toUInt32.toInt32))])) (fun _ kz => ?_) ?_
  · refine XS.ishl X5.here hx rfl (hb hby d28_56) rfl ?_
    refine XS.ior X5.here hx rfl (hb hby d28_57) rfl ?_
    refine XS.i2c X5.here hx rfl (hb hby d28_58) rfl ?_
    exact kz
  obtain ⟨fs, hrr, hrun, hended, hW, hsame⟩ := X5.leave (v := some (.int (nar .char (((((own_l qq) &&& (255 : Int32)) <<< ((0 : Int32) &&& 31)) ||| (((own_h qq) &&& (255 : Int32)) <<< ((8 : Int32) &&& 31))).toUInt32.toUInt16.toUInt32.toInt32)))) (fun h => by rw [Bd.returns] at h; cases h)
  refine ⟨_, _, ?_, hrun, hended, _, _, rfl, ?_, ⟨_, rfl⟩, hW, hsame.mono (by decide) (by decide)⟩
  · show Steps p.tables e below (T5.setTop (mkF m 59 #[.val (.ref ab), .val (.int 1)] [(.int (((((own_l qq) &&& (255 : Int32)) <<< ((0 : Int32) &&& 31)) ||| (((own_h qq) &&& (255 : Int32)) <<< ((8 : Int32) &&& 31))).toUInt32.toUInt16.toUInt32.toInt32))])) _
    exact retN X5 hx (t := .char) Bd.returns (by simp) (hb hby d28_59) hrr
  · show QrmGC_3_0 Z qq h0 n0 _ T5.heap _
    rw [e5]
    exact ⟨congrArg (fun z => some (Value.int z)) (own_pair qq hq.1 hq.2), N0, rfl⟩
def QrmGC_3_1 (Z : State) (qq : Int32) (h0 : Heap) (n0 : Nat) (v : Option Value) (h : Heap) (L : List Loc) : Prop := v = some (.int qq) ∧ Fr n0 L ∧ h = h0
set_option maxRecDepth 65536 in
set_option maxHeartbeats 40000000 in
theorem rmGC_3_1 (l : Launch) (Z : State) (a0 : Array Value) (hw : ∀ d ∈ tables_1, d.before a0 Z = true) (ws : List Jvm.Cond) (ab : Addr) (kb : ClassId) (qq : Int32) (w0 w1 w4 w5 : Value) (h0 : Heap) (n0 : Nat) (Z0 : n0 ≤ h0.size) (Ab : Arv Z h0 ab kb .byte (6 : Int32) [w0, w1, (.int (own_l qq)), (.int (own_h qq)), w4, w5] (.int 0)) (hq : ¬ qq < 0 ∧ ¬ (65535 : Int32) < qq) (S_ad : Sta Z h0 "java/lang/StringUTF16" "$assertionsDisabled" "Z" (.int 1)) (S_hi : Sta Z h0 "java/lang/StringUTF16" "HI_BYTE_SHIFT" "I" (.int 0)) (S_lo : Sta Z h0 "java/lang/StringUTF16" "LO_BYTE_SHIFT" "I" (.int 8)) :
    MetFree l (⟨"java/lang/StringUTF16", "getChar", "([BI)C"⟩ : MethodName) (head1 (Jvm.Cond.code (⟨"java/lang/StringUTF16", "getChar", "([BI)C"⟩ : MethodName) jdk_52_method_5_code 2 (some .char) :: ws) ({ frames := 0, cells := 0, slots := 0, locals := 0 } : Room)) (fun ar_ U_ => ar_ = #[(.ref ab), (.int 1)] ∧ Z.Warmed39 U_.vm ∧ U_.heap = h0) (fun _ _ _ _ _ => True) (fun _ U_ ou_ V_ => ∃ v_ L_, ou_ = .returned v_ ∧ QrmGC_3_1 Z qq h0 n0 v_ V_.heap L_ ∧ FrameEnd U_ ou_ V_ L_ ({ frames := 0, cells := 0, slots := 0, locals := 0 } : Room).cells ({ frames := 0, cells := 0, slots := 0, locals := 0 } : Room).slots) := by
  refine MetFree.of_bodySF (plainFor_of_name own_pn28) hisR ?_
  intro p e s m args below meth c s₁ Bd hml0 hP hK
  obtain ⟨rfl, hZ, hh⟩ := hP
  have hx := Bd.exec
  have hby := Bd.bytes
  have hml : c.maxLocals = 2 := hml0
  have hown : s.vm.findClass "java/lang/StringUTF16" = some m.cls := findClass_of_methodNamed Bd.named
  have hnm := (name_of_methodNamed Bd.named Bd.method).1
  have X0 : Stand p l e ({ frames := 0, cells := 0, slots := 0, locals := 0 } : Room) s m #[(.ref ab), (.int 1)] below meth c s₁ [] 0 0 := Stand.of_body Bd
  have e0 : s₁.heap = h0 := by rw [← hh, Bd.state]; rfl
  have N0 := Fr.nil n0
  refine own_go (A := s₁.setTop (mkF m 0 #[.val (.ref ab), .val (.int 1)] [])) (fun _ kz => castTop (own_ef28 m ab (1 : Int32)) kz) ?_
  obtain ⟨T1, X1, e1, st1⟩ := getS2 X0 hx hZ hown (host := "") (Or.inl (own_w hw 148 rfl)) Via.refl e0 S_ad (g := (mkF m 0 #[.val (.ref ab), .val (.int 1)] [])) rfl (hb hby d28_0)
  refine own_go (A := T1.setTop (mkF m 3 #[.val (.ref ab), .val (.int 1)] [(.int 1)])) (fun _ kz => st1 _ kz) ?_
  refine own_go (A := T1.setTop (mkF m 37 #[.val (.ref ab), .val (.int 3)] [(.int 2), (.ref ab)])) (fun _ kz => ?_) ?_
  · refine XS.ifYes X1.here hx rfl (pc0 := 3) (pc' := 28) rfl (hb hby d28_3) rfl ((if0 _ _).trans (feq (by decide : ¬ ((1 : Int32) = (0 : Int32)))).2) (by decide) (by decide) ?_
    refine XS.iloadN X1.here hx rfl (hb hby d28_28) rfl ?_
    refine XS.iconst X1.here hx rfl (hb hby d28_29) ?_
    refine XS.ishl X1.here hx rfl (hb hby d28_30) rfl ?_
    show Steps p.tables e below (T1.setTop (mkF m 31 #[.val (.ref ab), .val (.int 1)] [(.int 2)])) _
    refine XS.istoreN X1.here hx rfl (hb hby d28_31) rfl (l' := #[.val (.ref ab), .val (.int 2)]) rfl ?_
    refine XS.aloadN X1.here hx rfl (hb hby d28_32) rfl rfl ?_
    refine XS.iloadN X1.here hx rfl (hb hby d28_33) rfl ?_
    refine XS.iinc X1.here hx rfl (hb hby d28_34) rfl (l' := #[.val (.ref ab), .val (.int 3)]) rfl ?_
    exact kz
  obtain ⟨cl2, Ar2, -, S2, M2, H2, -⟩ := id Ab
  have hin2 : ¬ ((2 : Int32) < 0 ∨ cl2.slots.size ≤ ((2 : Int32)).toNatClampNeg) := inb_of S2 ⟨by decide, by decide⟩
  have hat2 : cl2.slots[((2 : Int32)).toNatClampNeg]? = some (.int (own_l qq)) := H2.at hin2 rfl
  refine own_go (A := T1.setTop (mkF m 38 #[.val (.ref ab), .val (.int 3)] [(.int (own_l qq))])) (fun _ kz => ?_) ?_
  · refine X1.baloadBytes hx (j := (2 : Int32)) (v := (.int (own_l qq))) (by rw [e1]; exact Ar2.1) (State.isArrayOf_alike hZ.alike Ar2.2.1) Ar2.2.2 hin2 hat2 (g := (mkF m 37 #[.val (.ref ab), .val (.int 3)] [(.int 2), (.ref ab)])) rfl rfl (hb hby d28_37) _ ?_
    exact kz
  refine own_go (A := T1.setTop (mkF m 42 #[.val (.ref ab), .val (.int 3)] [(.int ((own_l qq) &&& (255 : Int32)))])) (fun _ kz => ?_) ?_
  · refine XS.sipush X1.here hx rfl (hb hby d28_38) ?_
    refine XS.iand X1.here hx rfl (hb hby d28_41) rfl ?_
    exact kz
  obtain ⟨T3, X3, e3, st3⟩ := getS2 X1 hx hZ hown (host := "") (Or.inl (own_w hw 149 rfl)) Via.refl e1 S_hi (g := (mkF m 42 #[.val (.ref ab), .val (.int 3)] [(.int ((own_l qq) &&& (255 : Int32)))])) rfl (hb hby d28_42)
  refine own_go (A := T3.setTop (mkF m 45 #[.val (.ref ab), .val (.int 3)] [(.int 0), (.int ((own_l qq) &&& (255 : Int32)))])) (fun _ kz => st3 _ kz) ?_
  refine own_go (A := T3.setTop (mkF m 48 #[.val (.ref ab), .val (.int 3)] [(.int 3), (.ref ab), (.int (((own_l qq) &&& (255 : Int32)) <<< ((0 : Int32) &&& 31)))])) (fun _ kz => ?_) ?_
  · refine XS.ishl X3.here hx rfl (hb hby d28_45) rfl ?_
    refine XS.aloadN X3.here hx rfl (hb hby d28_46) rfl rfl ?_
    refine XS.iloadN X3.here hx rfl (hb hby d28_47) rfl ?_
    exact kz
  obtain ⟨cl4, Ar4, -, S4, M4, H4, -⟩ := id Ab
  have hin4 : ¬ ((3 : Int32) < 0 ∨ cl4.slots.size ≤ ((3 : Int32)).toNatClampNeg) := inb_of S4 ⟨by decide, by decide⟩
  have hat4 : cl4.slots[((3 : Int32)).toNatClampNeg]? = some (.int (own_h qq)) := H4.at hin4 rfl
  refine own_go (A := T3.setTop (mkF m 49 #[.val (.ref ab), .val (.int 3)] [(.int (own_h qq)), (.int (((own_l qq) &&& (255 : Int32)) <<< ((0 : Int32) &&& 31)))])) (fun _ kz => ?_) ?_
  · refine X3.baloadBytes hx (j := (3 : Int32)) (v := (.int (own_h qq))) (by rw [e3]; exact Ar4.1) (State.isArrayOf_alike hZ.alike Ar4.2.1) Ar4.2.2 hin4 hat4 (g := (mkF m 48 #[.val (.ref ab), .val (.int 3)] [(.int 3), (.ref ab), (.int (((own_l qq) &&& (255 : Int32)) <<< ((0 : Int32) &&& 31)))])) rfl rfl (hb hby d28_48) _ ?_
    exact kz
  refine own_go (A := T3.setTop (mkF m 53 #[.val (.ref ab), .val (.int 3)] [(.int ((own_h qq) &&& (255 : Int32))), (.int (((own_l qq) &&& (255 : Int32)) <<< ((0 : Int32) &&& 31)))])) (fun _ kz => ?_) ?_
  · refine XS.sipush X3.here hx rfl (hb hby d28_49) ?_
    refine XS.iand X3.here hx rfl (hb hby d28_52) rfl ?_
    exact kz
  obtain ⟨T5, X5, e5, st5⟩ := getS2 X3 hx hZ hown (host := "") (Or.inl (own_w hw 150 rfl)) Via.refl e3 S_lo (g := (mkF m 53 #[.val (.ref ab), .val (.int 3)] [(.int ((own_h qq) &&& (255 : Int32))), (.int (((own_l qq) &&& (255 : Int32)) <<< ((0 : Int32) &&& 31)))])) rfl (hb hby d28_53)
  refine own_go (A := T5.setTop (mkF m 56 #[.val (.ref ab), .val (.int 3)] [(.int 8), (.int ((own_h qq) &&& (255 : Int32))), (.int (((own_l qq) &&& (255 : Int32)) <<< ((0 : Int32) &&& 31)))])) (fun _ kz => st5 _ kz) ?_
  refine own_go (A := T5.setTop (mkF m 59 #[.val (.ref ab), .val (.int 3)] [(.int (((((own_l qq) &&& (255 : Int32)) <<< ((0 : Int32) &&& 31)) ||| (((own_h qq) &&& (255 : Int32)) <<< ((8 : Int32) &&& 31))).toUInt32.toUInt16.toUInt32.toInt32))])) (fun _ kz => ?_) ?_
  · refine XS.ishl X5.here hx rfl (hb hby d28_56) rfl ?_
    refine XS.ior X5.here hx rfl (hb hby d28_57) rfl ?_
    refine XS.i2c X5.here hx rfl (hb hby d28_58) rfl ?_
    exact kz
  obtain ⟨fs, hrr, hrun, hended, hW, hsame⟩ := X5.leave (v := some (.int (nar .char (((((own_l qq) &&& (255 : Int32)) <<< ((0 : Int32) &&& 31)) ||| (((own_h qq) &&& (255 : Int32)) <<< ((8 : Int32) &&& 31))).toUInt32.toUInt16.toUInt32.toInt32)))) (fun h => by rw [Bd.returns] at h; cases h)
  refine ⟨_, _, ?_, hrun, hended, _, _, rfl, ?_, ⟨_, rfl⟩, hW, hsame.mono (by decide) (by decide)⟩
  · show Steps p.tables e below (T5.setTop (mkF m 59 #[.val (.ref ab), .val (.int 3)] [(.int (((((own_l qq) &&& (255 : Int32)) <<< ((0 : Int32) &&& 31)) ||| (((own_h qq) &&& (255 : Int32)) <<< ((8 : Int32) &&& 31))).toUInt32.toUInt16.toUInt32.toInt32))])) _
    exact retN X5 hx (t := .char) Bd.returns (by simp) (hb hby d28_59) hrr
  · show QrmGC_3_1 Z qq h0 n0 _ T5.heap _
    rw [e5]
    exact ⟨congrArg (fun z => some (Value.int z)) (own_pair qq hq.1 hq.2), N0, rfl⟩
def QrmGC_3_2 (Z : State) (qq : Int32) (h0 : Heap) (n0 : Nat) (v : Option Value) (h : Heap) (L : List Loc) : Prop := v = some (.int qq) ∧ Fr n0 L ∧ h = h0
set_option maxRecDepth 65536 in
set_option maxHeartbeats 40000000 in
theorem rmGC_3_2 (l : Launch) (Z : State) (a0 : Array Value) (hw : ∀ d ∈ tables_1, d.before a0 Z = true) (ws : List Jvm.Cond) (ab : Addr) (kb : ClassId) (qq : Int32) (w0 w1 w2 w3 : Value) (h0 : Heap) (n0 : Nat) (Z0 : n0 ≤ h0.size) (Ab : Arv Z h0 ab kb .byte (6 : Int32) [w0, w1, w2, w3, (.int (own_l qq)), (.int (own_h qq))] (.int 0)) (hq : ¬ qq < 0 ∧ ¬ (65535 : Int32) < qq) (S_ad : Sta Z h0 "java/lang/StringUTF16" "$assertionsDisabled" "Z" (.int 1)) (S_hi : Sta Z h0 "java/lang/StringUTF16" "HI_BYTE_SHIFT" "I" (.int 0)) (S_lo : Sta Z h0 "java/lang/StringUTF16" "LO_BYTE_SHIFT" "I" (.int 8)) :
    MetFree l (⟨"java/lang/StringUTF16", "getChar", "([BI)C"⟩ : MethodName) (head1 (Jvm.Cond.code (⟨"java/lang/StringUTF16", "getChar", "([BI)C"⟩ : MethodName) jdk_52_method_5_code 2 (some .char) :: ws) ({ frames := 0, cells := 0, slots := 0, locals := 0 } : Room)) (fun ar_ U_ => ar_ = #[(.ref ab), (.int 2)] ∧ Z.Warmed39 U_.vm ∧ U_.heap = h0) (fun _ _ _ _ _ => True) (fun _ U_ ou_ V_ => ∃ v_ L_, ou_ = .returned v_ ∧ QrmGC_3_2 Z qq h0 n0 v_ V_.heap L_ ∧ FrameEnd U_ ou_ V_ L_ ({ frames := 0, cells := 0, slots := 0, locals := 0 } : Room).cells ({ frames := 0, cells := 0, slots := 0, locals := 0 } : Room).slots) := by
  refine MetFree.of_bodySF (plainFor_of_name own_pn28) hisR ?_
  intro p e s m args below meth c s₁ Bd hml0 hP hK
  obtain ⟨rfl, hZ, hh⟩ := hP
  have hx := Bd.exec
  have hby := Bd.bytes
  have hml : c.maxLocals = 2 := hml0
  have hown : s.vm.findClass "java/lang/StringUTF16" = some m.cls := findClass_of_methodNamed Bd.named
  have hnm := (name_of_methodNamed Bd.named Bd.method).1
  have X0 : Stand p l e ({ frames := 0, cells := 0, slots := 0, locals := 0 } : Room) s m #[(.ref ab), (.int 2)] below meth c s₁ [] 0 0 := Stand.of_body Bd
  have e0 : s₁.heap = h0 := by rw [← hh, Bd.state]; rfl
  have N0 := Fr.nil n0
  refine own_go (A := s₁.setTop (mkF m 0 #[.val (.ref ab), .val (.int 2)] [])) (fun _ kz => castTop (own_ef28 m ab (2 : Int32)) kz) ?_
  obtain ⟨T1, X1, e1, st1⟩ := getS2 X0 hx hZ hown (host := "") (Or.inl (own_w hw 148 rfl)) Via.refl e0 S_ad (g := (mkF m 0 #[.val (.ref ab), .val (.int 2)] [])) rfl (hb hby d28_0)
  refine own_go (A := T1.setTop (mkF m 3 #[.val (.ref ab), .val (.int 2)] [(.int 1)])) (fun _ kz => st1 _ kz) ?_
  refine own_go (A := T1.setTop (mkF m 37 #[.val (.ref ab), .val (.int 5)] [(.int 4), (.ref ab)])) (fun _ kz => ?_) ?_
  · refine XS.ifYes X1.here hx rfl (pc0 := 3) (pc' := 28) rfl (hb hby d28_3) rfl ((if0 _ _).trans (feq (by decide : ¬ ((1 : Int32) = (0 : Int32)))).2) (by decide) (by decide) ?_
    refine XS.iloadN X1.here hx rfl (hb hby d28_28) rfl ?_
    refine XS.iconst X1.here hx rfl (hb hby d28_29) ?_
    refine XS.ishl X1.here hx rfl (hb hby d28_30) rfl ?_
    show Steps p.tables e below (T1.setTop (mkF m 31 #[.val (.ref ab), .val (.int 2)] [(.int 4)])) _
    refine XS.istoreN X1.here hx rfl (hb hby d28_31) rfl (l' := #[.val (.ref ab), .val (.int 4)]) rfl ?_
    refine XS.aloadN X1.here hx rfl (hb hby d28_32) rfl rfl ?_
    refine XS.iloadN X1.here hx rfl (hb hby d28_33) rfl ?_
    refine XS.iinc X1.here hx rfl (hb hby d28_34) rfl (l' := #[.val (.ref ab), .val (.int 5)]) rfl ?_
    exact kz
  obtain ⟨cl2, Ar2, -, S2, M2, H2, -⟩ := id Ab
  have hin2 : ¬ ((4 : Int32) < 0 ∨ cl2.slots.size ≤ ((4 : Int32)).toNatClampNeg) := inb_of S2 ⟨by decide, by decide⟩
  have hat2 : cl2.slots[((4 : Int32)).toNatClampNeg]? = some (.int (own_l qq)) := H2.at hin2 rfl
  refine own_go (A := T1.setTop (mkF m 38 #[.val (.ref ab), .val (.int 5)] [(.int (own_l qq))])) (fun _ kz => ?_) ?_
  · refine X1.baloadBytes hx (j := (4 : Int32)) (v := (.int (own_l qq))) (by rw [e1]; exact Ar2.1) (State.isArrayOf_alike hZ.alike Ar2.2.1) Ar2.2.2 hin2 hat2 (g := (mkF m 37 #[.val (.ref ab), .val (.int 5)] [(.int 4), (.ref ab)])) rfl rfl (hb hby d28_37) _ ?_
    exact kz
  refine own_go (A := T1.setTop (mkF m 42 #[.val (.ref ab), .val (.int 5)] [(.int ((own_l qq) &&& (255 : Int32)))])) (fun _ kz => ?_) ?_
  · refine XS.sipush X1.here hx rfl (hb hby d28_38) ?_
    refine XS.iand X1.here hx rfl (hb hby d28_41) rfl ?_
    exact kz
  obtain ⟨T3, X3, e3, st3⟩ := getS2 X1 hx hZ hown (host := "") (Or.inl (own_w hw 149 rfl)) Via.refl e1 S_hi (g := (mkF m 42 #[.val (.ref ab), .val (.int 5)] [(.int ((own_l qq) &&& (255 : Int32)))])) rfl (hb hby d28_42)
  refine own_go (A := T3.setTop (mkF m 45 #[.val (.ref ab), .val (.int 5)] [(.int 0), (.int ((own_l qq) &&& (255 : Int32)))])) (fun _ kz => st3 _ kz) ?_
  refine own_go (A := T3.setTop (mkF m 48 #[.val (.ref ab), .val (.int 5)] [(.int 5), (.ref ab), (.int (((own_l qq) &&& (255 : Int32)) <<< ((0 : Int32) &&& 31)))])) (fun _ kz => ?_) ?_
  · refine XS.ishl X3.here hx rfl (hb hby d28_45) rfl ?_
    refine XS.aloadN X3.here hx rfl (hb hby d28_46) rfl rfl ?_
    refine XS.iloadN X3.here hx rfl (hb hby d28_47) rfl ?_
    exact kz
  obtain ⟨cl4, Ar4, -, S4, M4, H4, -⟩ := id Ab
  have hin4 : ¬ ((5 : Int32) < 0 ∨ cl4.slots.size ≤ ((5 : Int32)).toNatClampNeg) := inb_of S4 ⟨by decide, by decide⟩
  have hat4 : cl4.slots[((5 : Int32)).toNatClampNeg]? = some (.int (own_h qq)) := H4.at hin4 rfl
  refine own_go (A := T3.setTop (mkF m 49 #[.val (.ref ab), .val (.int 5)] [(.int (own_h qq)), (.int (((own_l qq) &&& (255 : Int32)) <<< ((0 : Int32) &&& 31)))])) (fun _ kz => ?_) ?_
  · refine X3.baloadBytes hx (j := (5 : Int32)) (v := (.int (own_h qq))) (by rw [e3]; exact Ar4.1) (State.isArrayOf_alike hZ.alike Ar4.2.1) Ar4.2.2 hin4 hat4 (g := (mkF m 48 #[.val (.ref ab), .val (.int 5)] [(.int 5), (.ref ab), (.int (((own_l qq) &&& (255 : Int32)) <<< ((0 : Int32) &&& 31)))])) rfl rfl (hb hby d28_48) _ ?_
    exact kz
  refine own_go (A := T3.setTop (mkF m 53 #[.val (.ref ab), .val (.int 5)] [(.int ((own_h qq) &&& (255 : Int32))), (.int (((own_l qq) &&& (255 : Int32)) <<< ((0 : Int32) &&& 31)))])) (fun _ kz => ?_) ?_
  · refine XS.sipush X3.here hx rfl (hb hby d28_49) ?_
    refine XS.iand X3.here hx rfl (hb hby d28_52) rfl ?_
    exact kz
  obtain ⟨T5, X5, e5, st5⟩ := getS2 X3 hx hZ hown (host := "") (Or.inl (own_w hw 150 rfl)) Via.refl e3 S_lo (g := (mkF m 53 #[.val (.ref ab), .val (.int 5)] [(.int ((own_h qq) &&& (255 : Int32))), (.int (((own_l qq) &&& (255 : Int32)) <<< ((0 : Int32) &&& 31)))])) rfl (hb hby d28_53)
  refine own_go (A := T5.setTop (mkF m 56 #[.val (.ref ab), .val (.int 5)] [(.int 8), (.int ((own_h qq) &&& (255 : Int32))), (.int (((own_l qq) &&& (255 : Int32)) <<< ((0 : Int32) &&& 31)))])) (fun _ kz => st5 _ kz) ?_
  refine own_go (A := T5.setTop (mkF m 59 #[.val (.ref ab), .val (.int 5)] [(.int (((((own_l qq) &&& (255 : Int32)) <<< ((0 : Int32) &&& 31)) ||| (((own_h qq) &&& (255 : Int32)) <<< ((8 : Int32) &&& 31))).toUInt32.toUInt16.toUInt32.toInt32))])) (fun _ kz => ?_) ?_
  · refine XS.ishl X5.here hx rfl (hb hby d28_56) rfl ?_
    refine XS.ior X5.here hx rfl (hb hby d28_57) rfl ?_
    refine XS.i2c X5.here hx rfl (hb hby d28_58) rfl ?_
    exact kz
  obtain ⟨fs, hrr, hrun, hended, hW, hsame⟩ := X5.leave (v := some (.int (nar .char (((((own_l qq) &&& (255 : Int32)) <<< ((0 : Int32) &&& 31)) ||| (((own_h qq) &&& (255 : Int32)) <<< ((8 : Int32) &&& 31))).toUInt32.toUInt16.toUInt32.toInt32)))) (fun h => by rw [Bd.returns] at h; cases h)
  refine ⟨_, _, ?_, hrun, hended, _, _, rfl, ?_, ⟨_, rfl⟩, hW, hsame.mono (by decide) (by decide)⟩
  · show Steps p.tables e below (T5.setTop (mkF m 59 #[.val (.ref ab), .val (.int 5)] [(.int (((((own_l qq) &&& (255 : Int32)) <<< ((0 : Int32) &&& 31)) ||| (((own_h qq) &&& (255 : Int32)) <<< ((8 : Int32) &&& 31))).toUInt32.toUInt16.toUInt32.toInt32))])) _
    exact retN X5 hx (t := .char) Bd.returns (by simp) (hb hby d28_59) hrr
  · show QrmGC_3_2 Z qq h0 n0 _ T5.heap _
    rw [e5]
    exact ⟨congrArg (fun z => some (Value.int z)) (own_pair qq hq.1 hq.2), N0, rfl⟩
def QrmCo_3 (Z : State) (ch0 : Int32) (ch1 : Int32) (ch2 : Int32) (h0 : Heap) (n0 : Nat) (v : Option Value) (h : Heap) (L : List Loc) : Prop := ∃ (b : Addr) (kc : ClassId), v = some (.ref b) ∧ Fr n0 L ∧ h0.size ≤ b ∧ Keep h0 h [] ∧ ((((255 : Int32) < ch0 ∨ (255 : Int32) < ch1 ∨ (255 : Int32) < ch2) ∧ Arv Z h b kc .byte (6 : Int32) [(.int (own_l ch0)), (.int (own_h ch0)), (.int (own_l ch1)), (.int (own_h ch1)), (.int (own_l ch2)), (.int (own_h ch2))] (.int 0)) ∨ (¬ (255 : Int32) < ch0 ∧ ¬ (255 : Int32) < ch1 ∧ ¬ (255 : Int32) < ch2 ∧ Arv Z h b kc .byte (3 : Int32) [(.int (ch0.toInt8.toInt32)), (.int (ch1.toInt8.toInt32)), (.int (ch2.toInt8.toInt32))] (.int 0)))
set_option maxRecDepth 65536 in
set_option maxHeartbeats 40000000 in
theorem rmCo_3 (l : Launch) (Z : State) (a0 : Array Value) (hw : ∀ d ∈ tables_1, d.before a0 Z = true) (ws : List Jvm.Cond) (ar : Addr) (ka : ClassId) (ch0 ch1 ch2 : Int32) (h0 : Heap) (n0 : Nat) (Z0 : n0 ≤ h0.size) (Aa : Arv Z h0 ar ka .char (3 : Int32) [(.int ch0), (.int ch1), (.int ch2)] (.int 0)) (hp0 : ¬ ch0 < 0 ∧ ¬ (65535 : Int32) < ch0) (hp1 : ¬ ch1 < 0 ∧ ¬ (65535 : Int32) < ch1) (hp2 : ¬ ch2 < 0 ∧ ¬ (65535 : Int32) < ch2) (S_ad : Sta Z h0 "java/lang/StringUTF16" "$assertionsDisabled" "Z" (.int 1)) (S_hi : Sta Z h0 "java/lang/StringUTF16" "HI_BYTE_SHIFT" "I" (.int 0)) (S_lo : Sta Z h0 "java/lang/StringUTF16" "LO_BYTE_SHIFT" "I" (.int 8)) :
    MetFree l (⟨"java/lang/StringUTF16", "compress", "([CII)[B"⟩ : MethodName) (head1 (Jvm.Cond.code (⟨"java/lang/StringUTF16", "compress", "([CII)[B"⟩ : MethodName) jdk_52_method_16_code 6 (some (.array .byte)) :: ws) ({ frames := 3, cells := 2, slots := 9, locals := 40 } : Room)) (fun ar_ U_ => ar_ = #[(.ref ar), (.int 0), (.int 3)] ∧ Z.Warmed39 U_.vm ∧ U_.heap = h0) (fun _ _ _ _ _ => True) (fun _ U_ ou_ V_ => ∃ v_ L_, ou_ = .returned v_ ∧ QrmCo_3 Z ch0 ch1 ch2 h0 n0 v_ V_.heap L_ ∧ FrameEnd U_ ou_ V_ L_ ({ frames := 3, cells := 2, slots := 9, locals := 40 } : Room).cells ({ frames := 3, cells := 2, slots := 9, locals := 40 } : Room).slots) := by
  refine MetFree.of_bodySF (plainFor_of_name own_pn5) hisR ?_
  intro p e s m args below meth c s₁ Bd hml0 hP hK
  obtain ⟨rfl, hZ, hh⟩ := hP
  have hx := Bd.exec
  have hby := Bd.bytes
  have hml : c.maxLocals = 6 := hml0
  have hown : s.vm.findClass "java/lang/StringUTF16" = some m.cls := findClass_of_methodNamed Bd.named
  have hnm := (name_of_methodNamed Bd.named Bd.method).1
  have X0 : Stand p l e ({ frames := 3, cells := 2, slots := 9, locals := 40 } : Room) s m #[(.ref ar), (.int 0), (.int 3)] below meth c s₁ [] 0 0 := Stand.of_body Bd
  have e0 : s₁.heap = h0 := by rw [← hh, Bd.state]; rfl
  have N0 := Fr.nil n0
  have Kp0 : Keep h0 h0 [] := Keep.refl h0 _
  refine own_go (A := s₁.setTop (mkF m 0 #[.val (.ref ar), .val (.int 0), .val (.int 3), .unset, .unset, .unset] [])) (fun _ kz => castTop (own_ef5 m ar (0 : Int32) (3 : Int32)) kz) ?_
  refine own_go (A := s₁.setTop (mkF m 1 #[.val (.ref ar), .val (.int 0), .val (.int 3), .unset, .unset, .unset] [(.int 3)])) (fun _ kz => ?_) ?_
  · refine XS.iloadN X0.here hx rfl (hb hby d5_0) rfl ?_
    exact kz
  obtain ⟨T1, h1, k1, X1, e1, E1, A1, st1⟩ := newP X0 hx hZ (own_w hw 24 rfl) e0 (g := (mkF m 1 #[.val (.ref ar), .val (.int 0), .val (.int 3), .unset, .unset, .unset] [(.int 3)])) rfl (hb hby d5_1) rfl (by decide) (cap := 3) (by decide) (by decide) (by decide) (by decide)
  obtain ⟨b1, gq1⟩ : ∃ z, z = h0.size := ⟨_, rfl⟩
  rw [← gq1] at A1 st1
  have g_b1 : n0 ≤ b1 := Nat.le_trans Z0 (Nat.le_of_eq gq1.symm)
  have ne_ar_b1 : ar ≠ b1 := Nat.ne_of_lt (Nat.lt_of_lt_of_le Aa.lt (Nat.le_of_eq gq1.symm))
  have szk_b1 : h0.size ≤ b1 := Nat.le_trans Kp0.1 (Nat.le_of_eq gq1.symm)
  replace S_ad := S_ad.ext E1
  replace S_hi := S_hi.ext E1
  replace S_lo := S_lo.ext E1
  replace Aa := Aa.ext E1
  have Z1 : n0 ≤ h1.size := Nat.le_trans Z0 E1.1
  have Kp1 : Keep h0 h1 [] := Kp0.ext E1
  have Av_b1 : Arv Z h1 b1 k1 .byte (3 : Int32) [(.int 0), (.int 0), (.int 0)] (.int 0) := (Arv.new A1 (by decide)).pad (pad_rep [] (.int 0) 3)
  refine own_go (A := T1.setTop (mkF m 3 #[.val (.ref ar), .val (.int 0), .val (.int 3), .unset, .unset, .unset] [(.ref b1)])) (fun _ kz => st1 _ kz) ?_
  refine own_go (A := T1.setTop (mkF m 9 #[.val (.ref ar), .val (.int 0), .val (.int 3), .val (.ref b1), .unset, .unset] [(.int 3), (.int 0), (.ref b1), (.int 0), (.ref ar)])) (fun _ kz => ?_) ?_
  · refine XS.astoreN X1.here hx rfl (hb hby d5_3) rfl rfl (l' := #[.val (.ref ar), .val (.int 0), .val (.int 3), .val (.ref b1), .unset, .unset]) rfl ?_
    refine XS.aloadN X1.here hx rfl (hb hby d5_4) rfl rfl ?_
    refine XS.iloadN X1.here hx rfl (hb hby d5_5) rfl ?_
    refine XS.aloadN X1.here hx rfl (hb hby d5_6) rfl rfl ?_
    refine XS.iconst X1.here hx rfl (hb hby d5_7) ?_
    refine XS.iloadN X1.here hx rfl (hb hby d5_8) rfl ?_
    exact kz
  by_cases q0 : (255 : Int32) < ch0
  · skip
    obtain ⟨_, _, ⟨T2, L2, k2, n2⟩, -, X2, ⟨Lc2, hQ2, l2, y2, z2⟩, st2⟩ := Jvm.LawKit.callS X1 hx (y := (⟨"java/lang/StringUTF16", "compress", "([CI[BII)I"⟩ : MethodName)) hown (mvT hZ (own_w hw 25 rfl)) (mvT hZ (own_w hw 26 rfl)) (mvT hZ (own_w hw 22 rfl)) (mvT hZ (own_w hw 27 rfl)) (by decide) (backOf (W := 0) (rmCi_3_0 l Z a0 hw [] ar b1 ka k1 ch0 ch1 ch2 h1 n0 Z1 Aa Av_b1 ne_ar_b1 g_b1  q0) hZ (own_w hw 27 rfl) (own_w hw 22 rfl) (by decide) (by decide)) (g := (mkF m 9 #[.val (.ref ar), .val (.int 0), .val (.int 3), .val (.ref b1), .unset, .unset] [(.int 3), (.int 0), (.ref b1), (.int 0), (.ref ar)])) rfl (by rw [hml]; rfl) (argsL := [(.ref ar), (.int 0), (.ref b1), (.int 0), (.int 3)]) (rest := []) (lenOf own_pd3 rfl) rfl (by show 2 * 0 + _ ≤ _; exact Nat.le_of_eq rfl) (hb hby d5_9) (fun _ _ => ⟨rfl, e1, (by decide : 1 + 0 ≤ _), (by decide : 3 + 0 ≤ _)⟩)
    dsimp only [Pt.U, Pt.locs, Pt.cells, Pt.slots] at X2 l2 y2 z2 st2 hQ2
    subst l2 y2 z2
    obtain ⟨rfl, N2q, K2q⟩ := hQ2
    have N2 := Fr.app N0 N2q
    replace S_ad := own_staKeep S_ad K2q (allS (own_nsA Av_b1) all0)
    replace S_hi := own_staKeep S_hi K2q (allS (own_nsA Av_b1) all0)
    replace S_lo := own_staKeep S_lo K2q (allS (own_nsA Av_b1) all0)
    replace Aa := Aa.keep K2q (ninS ne_ar_b1 nin0)
    have Z2 : n0 ≤ T2.heap.size := Nat.le_trans Z1 K2q.1
    have Kp2 : Keep h0 T2.heap [] := Kp1.trans K2q (allS (Or.inr szk_b1) (all0))
    refine own_go (A := T2.setTop (mkF m 12 #[.val (.ref ar), .val (.int 0), .val (.int 3), .val (.ref b1), .unset, .unset] [(.int 0)])) (fun _ kz => st2 _ kz) ?_
    refine own_go (A := T2.setTop (mkF m 23 #[.val (.ref ar), .val (.int 0), .val (.int 3), .val (.ref b1), .val (.int 0), .unset] [(.int 3), (.int 0), (.ref ar)])) (fun _ kz => ?_) ?_
    · refine XS.istore X2.here hx rfl (hb hby d5_12) rfl (l' := #[.val (.ref ar), .val (.int 0), .val (.int 3), .val (.ref b1), .val (.int 0), .unset]) rfl ?_
      refine XS.iload X2.here hx rfl (hb hby d5_14) rfl ?_
      refine XS.iloadN X2.here hx rfl (hb hby d5_16) rfl ?_
      refine XS.icmpNo X2.here hx rfl (hb hby d5_17) rfl (feq (by decide : ¬ ((0 : Int32) = (3 : Int32)))).1 ?_
      refine XS.aloadN X2.here hx rfl (hb hby d5_20) rfl rfl ?_
      refine XS.iloadN X2.here hx rfl (hb hby d5_21) rfl ?_
      refine XS.iloadN X2.here hx rfl (hb hby d5_22) rfl ?_
      exact kz
    obtain ⟨_, _, ⟨T3, L3, k3, n3⟩, -, X3, ⟨Lc3, hQ3, l3, y3, z3⟩, st3⟩ := Jvm.LawKit.callS X2 hx (y := (⟨"java/lang/StringUTF16", "toBytes", "([CII)[B"⟩ : MethodName)) hown (mvT hZ (own_w hw 135 rfl)) (mvT hZ (own_w hw 136 rfl)) (mvT hZ (own_w hw 22 rfl)) (mvT hZ (own_w hw 137 rfl)) (by decide) (backOf (W := 0) (rmTB_3 l Z a0 hw [] ar ka ch0 ch1 ch2 T2.heap n0 Z2 Aa S_ad S_hi S_lo) hZ (own_w hw 137 rfl) (own_w hw 22 rfl) (by decide) (by decide)) (g := (mkF m 23 #[.val (.ref ar), .val (.int 0), .val (.int 3), .val (.ref b1), .val (.int 0), .unset] [(.int 3), (.int 0), (.ref ar)])) rfl (by rw [hml]; rfl) (argsL := [(.ref ar), (.int 0), (.int 3)]) (rest := []) (lenOf own_pd4 rfl) rfl (by show 2 * 0 + _ ≤ _; exact Nat.le_of_eq rfl) (hb hby d5_23) (fun _ _ => ⟨rfl, rfl, (by decide : 1 + 1 ≤ _), (by decide : 3 + 6 ≤ _)⟩)
    dsimp only [Pt.U, Pt.locs, Pt.cells, Pt.slots] at X3 l3 y3 z3 st3 hQ3
    subst l3 y3 z3
    obtain ⟨c3, kc3, rfl, N3q, zc3, K3q, Av3⟩ := hQ3
    have N3 := Fr.app N2 N3q
    have ne_ar_c3 : ar ≠ c3 := Nat.ne_of_lt (Nat.lt_of_lt_of_le Aa.lt zc3)
    have g_c3 : n0 ≤ c3 := Nat.le_trans Z2 zc3
    have szk_c3 : h0.size ≤ c3 := Nat.le_trans Kp2.1 zc3
    replace S_ad := own_staKeep S_ad K3q all0
    replace S_hi := own_staKeep S_hi K3q all0
    replace S_lo := own_staKeep S_lo K3q all0
    replace Aa := Aa.keep K3q nin0
    have Z3 : n0 ≤ T3.heap.size := Nat.le_trans Z2 K3q.1
    have Kp3 : Keep h0 T3.heap [] := Kp2.trans K3q (all0)
    refine own_go (A := T3.setTop (mkF m 26 #[.val (.ref ar), .val (.int 0), .val (.int 3), .val (.ref b1), .val (.int 0), .unset] [(.ref c3)])) (fun _ kz => st3 _ kz) ?_
    refine own_go (A := T3.setTop (mkF m 32 #[.val (.ref ar), .val (.int 0), .val (.int 3), .val (.ref b1), .val (.int 0), .val (.ref c3)] [(.int 0), (.ref c3)])) (fun _ kz => ?_) ?_
    · refine XS.astore X3.here hx rfl (hb hby d5_26) rfl rfl (l' := #[.val (.ref ar), .val (.int 0), .val (.int 3), .val (.ref b1), .val (.int 0), .val (.ref c3)]) rfl ?_
      refine XS.aload X3.here hx rfl (hb hby d5_28) rfl rfl ?_
      refine XS.iload X3.here hx rfl (hb hby d5_30) rfl ?_
      exact kz
    obtain ⟨_, _, ⟨T4, L4, k4, n4⟩, -, X4, ⟨Lc4, hQ4, l4, y4, z4⟩, st4⟩ := Jvm.LawKit.callS X3 hx (y := (⟨"java/lang/StringUTF16", "getChar", "([BI)C"⟩ : MethodName)) hown (mvT hZ (own_w hw 151 rfl)) (mvT hZ (own_w hw 152 rfl)) (mvT hZ (own_w hw 22 rfl)) (mvT hZ (own_w hw 153 rfl)) (by decide) (backOf (W := 0) (rmGC_3_0 l Z a0 hw [] c3 kc3 ch0 (.int (own_l ch1)) (.int (own_h ch1)) (.int (own_l ch2)) (.int (own_h ch2)) T3.heap n0 Z3 Av3 hp0 S_ad S_hi S_lo) hZ (own_w hw 153 rfl) (own_w hw 22 rfl) (by decide) (by decide)) (g := (mkF m 32 #[.val (.ref ar), .val (.int 0), .val (.int 3), .val (.ref b1), .val (.int 0), .val (.ref c3)] [(.int 0), (.ref c3)])) rfl (by rw [hml]; rfl) (argsL := [(.ref c3), (.int 0)]) (rest := []) (lenOf own_pd5 rfl) rfl (by show 2 * 0 + _ ≤ _; exact Nat.le_of_eq rfl) (hb hby d5_32) (fun _ _ => ⟨rfl, rfl, (by decide : 2 + 0 ≤ _), (by decide : 9 + 0 ≤ _)⟩)
    dsimp only [Pt.U, Pt.locs, Pt.cells, Pt.slots] at X4 l4 y4 z4 st4 hQ4
    subst l4 y4 z4
    obtain ⟨rfl, N4q, e4⟩ := hQ4
    have N4 := Fr.app N3 N4q
    refine own_go (A := T4.setTop (mkF m 35 #[.val (.ref ar), .val (.int 0), .val (.int 3), .val (.ref b1), .val (.int 0), .val (.ref c3)] [(.int ch0)])) (fun _ kz => st4 _ kz) ?_
    refine own_go (A := T4.setTop (mkF m 56 #[.val (.ref ar), .val (.int 0), .val (.int 3), .val (.ref b1), .val (.int 0), .val (.ref c3)] [(.ref c3)])) (fun _ kz => ?_) ?_
    · refine XS.sipush X4.here hx rfl (hb hby d5_35) ?_
      refine XS.icmpYes X4.here hx rfl (pc0 := 38) (pc' := 54) rfl (hb hby d5_38) rfl (tlt q0).2.2.1 (by decide) (by decide) ?_
      refine XS.aload X4.here hx rfl (hb hby d5_54) rfl rfl ?_
      exact kz
    obtain ⟨fs, hrr, hrun, hended, hW, hsame⟩ := X4.leave (v := some (.ref c3)) (fun h => by rw [Bd.returns] at h; cases h)
    refine ⟨_, _, ?_, hrun, hended, _, _, rfl, ?_, ⟨_, rfl⟩, hW, hsame.mono (by decide) (by decide)⟩
    · show Steps p.tables e below (T4.setTop (mkF m 56 #[.val (.ref ar), .val (.int 0), .val (.int 3), .val (.ref b1), .val (.int 0), .val (.ref c3)] [(.ref c3)])) _
      exact retOut X4 hx (t := (.array .byte)) Bd.returns rfl (Or.inr (Or.inr (Or.inr (Or.inr ⟨rfl, rfl, rfl⟩)))) (hb hby d5_56) hrr
    · show QrmCo_3 Z ch0 ch1 ch2 h0 n0 _ T4.heap _
      rw [e4]
      exact ⟨c3, kc3, rfl, N4, szk_c3, Kp3, Or.inl ⟨Or.inl q0, Av3⟩⟩
  · skip
    by_cases q1 : (255 : Int32) < ch1
    · skip
      obtain ⟨_, _, ⟨T5, L5, k5, n5⟩, -, X5, ⟨Lc5, hQ5, l5, y5, z5⟩, st5⟩ := Jvm.LawKit.callS X1 hx (y := (⟨"java/lang/StringUTF16", "compress", "([CI[BII)I"⟩ : MethodName)) hown (mvT hZ (own_w hw 25 rfl)) (mvT hZ (own_w hw 26 rfl)) (mvT hZ (own_w hw 22 rfl)) (mvT hZ (own_w hw 27 rfl)) (by decide) (backOf (W := 0) (rmCi_3_1 l Z a0 hw [] ar b1 ka k1 ch0 ch1 ch2 h1 n0 Z1 Aa Av_b1 ne_ar_b1 g_b1 q0 q1) hZ (own_w hw 27 rfl) (own_w hw 22 rfl) (by decide) (by decide)) (g := (mkF m 9 #[.val (.ref ar), .val (.int 0), .val (.int 3), .val (.ref b1), .unset, .unset] [(.int 3), (.int 0), (.ref b1), (.int 0), (.ref ar)])) rfl (by rw [hml]; rfl) (argsL := [(.ref ar), (.int 0), (.ref b1), (.int 0), (.int 3)]) (rest := []) (lenOf own_pd3 rfl) rfl (by show 2 * 0 + _ ≤ _; exact Nat.le_of_eq rfl) (hb hby d5_9) (fun _ _ => ⟨rfl, e1, (by decide : 1 + 0 ≤ _), (by decide : 3 + 0 ≤ _)⟩)
      dsimp only [Pt.U, Pt.locs, Pt.cells, Pt.slots] at X5 l5 y5 z5 st5 hQ5
      subst l5 y5 z5
      obtain ⟨rfl, N5q, K5q⟩ := hQ5
      have N5 := Fr.app N0 N5q
      replace S_ad := own_staKeep S_ad K5q (allS (own_nsA Av_b1) all0)
      replace S_hi := own_staKeep S_hi K5q (allS (own_nsA Av_b1) all0)
      replace S_lo := own_staKeep S_lo K5q (allS (own_nsA Av_b1) all0)
      replace Aa := Aa.keep K5q (ninS ne_ar_b1 nin0)
      have Z5 : n0 ≤ T5.heap.size := Nat.le_trans Z1 K5q.1
      have Kp5 : Keep h0 T5.heap [] := Kp1.trans K5q (allS (Or.inr szk_b1) (all0))
      refine own_go (A := T5.setTop (mkF m 12 #[.val (.ref ar), .val (.int 0), .val (.int 3), .val (.ref b1), .unset, .unset] [(.int 1)])) (fun _ kz => st5 _ kz) ?_
      refine own_go (A := T5.setTop (mkF m 23 #[.val (.ref ar), .val (.int 0), .val (.int 3), .val (.ref b1), .val (.int 1), .unset] [(.int 3), (.int 0), (.ref ar)])) (fun _ kz => ?_) ?_
      · refine XS.istore X5.here hx rfl (hb hby d5_12) rfl (l' := #[.val (.ref ar), .val (.int 0), .val (.int 3), .val (.ref b1), .val (.int 1), .unset]) rfl ?_
        refine XS.iload X5.here hx rfl (hb hby d5_14) rfl ?_
        refine XS.iloadN X5.here hx rfl (hb hby d5_16) rfl ?_
        refine XS.icmpNo X5.here hx rfl (hb hby d5_17) rfl (feq (by decide : ¬ ((1 : Int32) = (3 : Int32)))).1 ?_
        refine XS.aloadN X5.here hx rfl (hb hby d5_20) rfl rfl ?_
        refine XS.iloadN X5.here hx rfl (hb hby d5_21) rfl ?_
        refine XS.iloadN X5.here hx rfl (hb hby d5_22) rfl ?_
        exact kz
      obtain ⟨_, _, ⟨T6, L6, k6, n6⟩, -, X6, ⟨Lc6, hQ6, l6, y6, z6⟩, st6⟩ := Jvm.LawKit.callS X5 hx (y := (⟨"java/lang/StringUTF16", "toBytes", "([CII)[B"⟩ : MethodName)) hown (mvT hZ (own_w hw 135 rfl)) (mvT hZ (own_w hw 136 rfl)) (mvT hZ (own_w hw 22 rfl)) (mvT hZ (own_w hw 137 rfl)) (by decide) (backOf (W := 0) (rmTB_3 l Z a0 hw [] ar ka ch0 ch1 ch2 T5.heap n0 Z5 Aa S_ad S_hi S_lo) hZ (own_w hw 137 rfl) (own_w hw 22 rfl) (by decide) (by decide)) (g := (mkF m 23 #[.val (.ref ar), .val (.int 0), .val (.int 3), .val (.ref b1), .val (.int 1), .unset] [(.int 3), (.int 0), (.ref ar)])) rfl (by rw [hml]; rfl) (argsL := [(.ref ar), (.int 0), (.int 3)]) (rest := []) (lenOf own_pd4 rfl) rfl (by show 2 * 0 + _ ≤ _; exact Nat.le_of_eq rfl) (hb hby d5_23) (fun _ _ => ⟨rfl, rfl, (by decide : 1 + 1 ≤ _), (by decide : 3 + 6 ≤ _)⟩)
      dsimp only [Pt.U, Pt.locs, Pt.cells, Pt.slots] at X6 l6 y6 z6 st6 hQ6
      subst l6 y6 z6
      obtain ⟨c6, kc6, rfl, N6q, zc6, K6q, Av6⟩ := hQ6
      have N6 := Fr.app N5 N6q
      have ne_ar_c6 : ar ≠ c6 := Nat.ne_of_lt (Nat.lt_of_lt_of_le Aa.lt zc6)
      have g_c6 : n0 ≤ c6 := Nat.le_trans Z5 zc6
      have szk_c6 : h0.size ≤ c6 := Nat.le_trans Kp5.1 zc6
      replace S_ad := own_staKeep S_ad K6q all0
      replace S_hi := own_staKeep S_hi K6q all0
      replace S_lo := own_staKeep S_lo K6q all0
      replace Aa := Aa.keep K6q nin0
      have Z6 : n0 ≤ T6.heap.size := Nat.le_trans Z5 K6q.1
      have Kp6 : Keep h0 T6.heap [] := Kp5.trans K6q (all0)
      refine own_go (A := T6.setTop (mkF m 26 #[.val (.ref ar), .val (.int 0), .val (.int 3), .val (.ref b1), .val (.int 1), .unset] [(.ref c6)])) (fun _ kz => st6 _ kz) ?_
      refine own_go (A := T6.setTop (mkF m 32 #[.val (.ref ar), .val (.int 0), .val (.int 3), .val (.ref b1), .val (.int 1), .val (.ref c6)] [(.int 1), (.ref c6)])) (fun _ kz => ?_) ?_
      · refine XS.astore X6.here hx rfl (hb hby d5_26) rfl rfl (l' := #[.val (.ref ar), .val (.int 0), .val (.int 3), .val (.ref b1), .val (.int 1), .val (.ref c6)]) rfl ?_
        refine XS.aload X6.here hx rfl (hb hby d5_28) rfl rfl ?_
        refine XS.iload X6.here hx rfl (hb hby d5_30) rfl ?_
        exact kz
      obtain ⟨_, _, ⟨T7, L7, k7, n7⟩, -, X7, ⟨Lc7, hQ7, l7, y7, z7⟩, st7⟩ := Jvm.LawKit.callS X6 hx (y := (⟨"java/lang/StringUTF16", "getChar", "([BI)C"⟩ : MethodName)) hown (mvT hZ (own_w hw 151 rfl)) (mvT hZ (own_w hw 152 rfl)) (mvT hZ (own_w hw 22 rfl)) (mvT hZ (own_w hw 153 rfl)) (by decide) (backOf (W := 0) (rmGC_3_1 l Z a0 hw [] c6 kc6 ch1 (.int (own_l ch0)) (.int (own_h ch0)) (.int (own_l ch2)) (.int (own_h ch2)) T6.heap n0 Z6 Av6 hp1 S_ad S_hi S_lo) hZ (own_w hw 153 rfl) (own_w hw 22 rfl) (by decide) (by decide)) (g := (mkF m 32 #[.val (.ref ar), .val (.int 0), .val (.int 3), .val (.ref b1), .val (.int 1), .val (.ref c6)] [(.int 1), (.ref c6)])) rfl (by rw [hml]; rfl) (argsL := [(.ref c6), (.int 1)]) (rest := []) (lenOf own_pd5 rfl) rfl (by show 2 * 0 + _ ≤ _; exact Nat.le_of_eq rfl) (hb hby d5_32) (fun _ _ => ⟨rfl, rfl, (by decide : 2 + 0 ≤ _), (by decide : 9 + 0 ≤ _)⟩)
      dsimp only [Pt.U, Pt.locs, Pt.cells, Pt.slots] at X7 l7 y7 z7 st7 hQ7
      subst l7 y7 z7
      obtain ⟨rfl, N7q, e7⟩ := hQ7
      have N7 := Fr.app N6 N7q
      refine own_go (A := T7.setTop (mkF m 35 #[.val (.ref ar), .val (.int 0), .val (.int 3), .val (.ref b1), .val (.int 1), .val (.ref c6)] [(.int ch1)])) (fun _ kz => st7 _ kz) ?_
      refine own_go (A := T7.setTop (mkF m 56 #[.val (.ref ar), .val (.int 0), .val (.int 3), .val (.ref b1), .val (.int 1), .val (.ref c6)] [(.ref c6)])) (fun _ kz => ?_) ?_
      · refine XS.sipush X7.here hx rfl (hb hby d5_35) ?_
        refine XS.icmpYes X7.here hx rfl (pc0 := 38) (pc' := 54) rfl (hb hby d5_38) rfl (tlt q1).2.2.1 (by decide) (by decide) ?_
        refine XS.aload X7.here hx rfl (hb hby d5_54) rfl rfl ?_
        exact kz
      obtain ⟨fs, hrr, hrun, hended, hW, hsame⟩ := X7.leave (v := some (.ref c6)) (fun h => by rw [Bd.returns] at h; cases h)
      refine ⟨_, _, ?_, hrun, hended, _, _, rfl, ?_, ⟨_, rfl⟩, hW, hsame.mono (by decide) (by decide)⟩
      · show Steps p.tables e below (T7.setTop (mkF m 56 #[.val (.ref ar), .val (.int 0), .val (.int 3), .val (.ref b1), .val (.int 1), .val (.ref c6)] [(.ref c6)])) _
        exact retOut X7 hx (t := (.array .byte)) Bd.returns rfl (Or.inr (Or.inr (Or.inr (Or.inr ⟨rfl, rfl, rfl⟩)))) (hb hby d5_56) hrr
      · show QrmCo_3 Z ch0 ch1 ch2 h0 n0 _ T7.heap _
        rw [e7]
        exact ⟨c6, kc6, rfl, N7, szk_c6, Kp6, Or.inl ⟨Or.inr (Or.inl q1), Av6⟩⟩
    · skip
      by_cases q2 : (255 : Int32) < ch2
      · skip
        obtain ⟨_, _, ⟨T8, L8, k8, n8⟩, -, X8, ⟨Lc8, hQ8, l8, y8, z8⟩, st8⟩ := Jvm.LawKit.callS X1 hx (y := (⟨"java/lang/StringUTF16", "compress", "([CI[BII)I"⟩ : MethodName)) hown (mvT hZ (own_w hw 25 rfl)) (mvT hZ (own_w hw 26 rfl)) (mvT hZ (own_w hw 22 rfl)) (mvT hZ (own_w hw 27 rfl)) (by decide) (backOf (W := 0) (rmCi_3_2 l Z a0 hw [] ar b1 ka k1 ch0 ch1 ch2 h1 n0 Z1 Aa Av_b1 ne_ar_b1 g_b1 q0 q1 q2) hZ (own_w hw 27 rfl) (own_w hw 22 rfl) (by decide) (by decide)) (g := (mkF m 9 #[.val (.ref ar), .val (.int 0), .val (.int 3), .val (.ref b1), .unset, .unset] [(.int 3), (.int 0), (.ref b1), (.int 0), (.ref ar)])) rfl (by rw [hml]; rfl) (argsL := [(.ref ar), (.int 0), (.ref b1), (.int 0), (.int 3)]) (rest := []) (lenOf own_pd3 rfl) rfl (by show 2 * 0 + _ ≤ _; exact Nat.le_of_eq rfl) (hb hby d5_9) (fun _ _ => ⟨rfl, e1, (by decide : 1 + 0 ≤ _), (by decide : 3 + 0 ≤ _)⟩)
        dsimp only [Pt.U, Pt.locs, Pt.cells, Pt.slots] at X8 l8 y8 z8 st8 hQ8
        subst l8 y8 z8
        obtain ⟨rfl, N8q, K8q⟩ := hQ8
        have N8 := Fr.app N0 N8q
        replace S_ad := own_staKeep S_ad K8q (allS (own_nsA Av_b1) all0)
        replace S_hi := own_staKeep S_hi K8q (allS (own_nsA Av_b1) all0)
        replace S_lo := own_staKeep S_lo K8q (allS (own_nsA Av_b1) all0)
        replace Aa := Aa.keep K8q (ninS ne_ar_b1 nin0)
        have Z8 : n0 ≤ T8.heap.size := Nat.le_trans Z1 K8q.1
        have Kp8 : Keep h0 T8.heap [] := Kp1.trans K8q (allS (Or.inr szk_b1) (all0))
        refine own_go (A := T8.setTop (mkF m 12 #[.val (.ref ar), .val (.int 0), .val (.int 3), .val (.ref b1), .unset, .unset] [(.int 2)])) (fun _ kz => st8 _ kz) ?_
        refine own_go (A := T8.setTop (mkF m 23 #[.val (.ref ar), .val (.int 0), .val (.int 3), .val (.ref b1), .val (.int 2), .unset] [(.int 3), (.int 0), (.ref ar)])) (fun _ kz => ?_) ?_
        · refine XS.istore X8.here hx rfl (hb hby d5_12) rfl (l' := #[.val (.ref ar), .val (.int 0), .val (.int 3), .val (.ref b1), .val (.int 2), .unset]) rfl ?_
          refine XS.iload X8.here hx rfl (hb hby d5_14) rfl ?_
          refine XS.iloadN X8.here hx rfl (hb hby d5_16) rfl ?_
          refine XS.icmpNo X8.here hx rfl (hb hby d5_17) rfl (feq (by decide : ¬ ((2 : Int32) = (3 : Int32)))).1 ?_
          refine XS.aloadN X8.here hx rfl (hb hby d5_20) rfl rfl ?_
          refine XS.iloadN X8.here hx rfl (hb hby d5_21) rfl ?_
          refine XS.iloadN X8.here hx rfl (hb hby d5_22) rfl ?_
          exact kz
        obtain ⟨_, _, ⟨T9, L9, k9, n9⟩, -, X9, ⟨Lc9, hQ9, l9, y9, z9⟩, st9⟩ := Jvm.LawKit.callS X8 hx (y := (⟨"java/lang/StringUTF16", "toBytes", "([CII)[B"⟩ : MethodName)) hown (mvT hZ (own_w hw 135 rfl)) (mvT hZ (own_w hw 136 rfl)) (mvT hZ (own_w hw 22 rfl)) (mvT hZ (own_w hw 137 rfl)) (by decide) (backOf (W := 0) (rmTB_3 l Z a0 hw [] ar ka ch0 ch1 ch2 T8.heap n0 Z8 Aa S_ad S_hi S_lo) hZ (own_w hw 137 rfl) (own_w hw 22 rfl) (by decide) (by decide)) (g := (mkF m 23 #[.val (.ref ar), .val (.int 0), .val (.int 3), .val (.ref b1), .val (.int 2), .unset] [(.int 3), (.int 0), (.ref ar)])) rfl (by rw [hml]; rfl) (argsL := [(.ref ar), (.int 0), (.int 3)]) (rest := []) (lenOf own_pd4 rfl) rfl (by show 2 * 0 + _ ≤ _; exact Nat.le_of_eq rfl) (hb hby d5_23) (fun _ _ => ⟨rfl, rfl, (by decide : 1 + 1 ≤ _), (by decide : 3 + 6 ≤ _)⟩)
        dsimp only [Pt.U, Pt.locs, Pt.cells, Pt.slots] at X9 l9 y9 z9 st9 hQ9
        subst l9 y9 z9
        obtain ⟨c9, kc9, rfl, N9q, zc9, K9q, Av9⟩ := hQ9
        have N9 := Fr.app N8 N9q
        have ne_ar_c9 : ar ≠ c9 := Nat.ne_of_lt (Nat.lt_of_lt_of_le Aa.lt zc9)
        have g_c9 : n0 ≤ c9 := Nat.le_trans Z8 zc9
        have szk_c9 : h0.size ≤ c9 := Nat.le_trans Kp8.1 zc9
        replace S_ad := own_staKeep S_ad K9q all0
        replace S_hi := own_staKeep S_hi K9q all0
        replace S_lo := own_staKeep S_lo K9q all0
        replace Aa := Aa.keep K9q nin0
        have Z9 : n0 ≤ T9.heap.size := Nat.le_trans Z8 K9q.1
        have Kp9 : Keep h0 T9.heap [] := Kp8.trans K9q (all0)
        refine own_go (A := T9.setTop (mkF m 26 #[.val (.ref ar), .val (.int 0), .val (.int 3), .val (.ref b1), .val (.int 2), .unset] [(.ref c9)])) (fun _ kz => st9 _ kz) ?_
        refine own_go (A := T9.setTop (mkF m 32 #[.val (.ref ar), .val (.int 0), .val (.int 3), .val (.ref b1), .val (.int 2), .val (.ref c9)] [(.int 2), (.ref c9)])) (fun _ kz => ?_) ?_
        · refine XS.astore X9.here hx rfl (hb hby d5_26) rfl rfl (l' := #[.val (.ref ar), .val (.int 0), .val (.int 3), .val (.ref b1), .val (.int 2), .val (.ref c9)]) rfl ?_
          refine XS.aload X9.here hx rfl (hb hby d5_28) rfl rfl ?_
          refine XS.iload X9.here hx rfl (hb hby d5_30) rfl ?_
          exact kz
        obtain ⟨_, _, ⟨T10, L10, k10, n10⟩, -, X10, ⟨Lc10, hQ10, l10, y10, z10⟩, st10⟩ := Jvm.LawKit.callS X9 hx (y := (⟨"java/lang/StringUTF16", "getChar", "([BI)C"⟩ : MethodName)) hown (mvT hZ (own_w hw 151 rfl)) (mvT hZ (own_w hw 152 rfl)) (mvT hZ (own_w hw 22 rfl)) (mvT hZ (own_w hw 153 rfl)) (by decide) (backOf (W := 0) (rmGC_3_2 l Z a0 hw [] c9 kc9 ch2 (.int (own_l ch0)) (.int (own_h ch0)) (.int (own_l ch1)) (.int (own_h ch1)) T9.heap n0 Z9 Av9 hp2 S_ad S_hi S_lo) hZ (own_w hw 153 rfl) (own_w hw 22 rfl) (by decide) (by decide)) (g := (mkF m 32 #[.val (.ref ar), .val (.int 0), .val (.int 3), .val (.ref b1), .val (.int 2), .val (.ref c9)] [(.int 2), (.ref c9)])) rfl (by rw [hml]; rfl) (argsL := [(.ref c9), (.int 2)]) (rest := []) (lenOf own_pd5 rfl) rfl (by show 2 * 0 + _ ≤ _; exact Nat.le_of_eq rfl) (hb hby d5_32) (fun _ _ => ⟨rfl, rfl, (by decide : 2 + 0 ≤ _), (by decide : 9 + 0 ≤ _)⟩)
        dsimp only [Pt.U, Pt.locs, Pt.cells, Pt.slots] at X10 l10 y10 z10 st10 hQ10
        subst l10 y10 z10
        obtain ⟨rfl, N10q, e10⟩ := hQ10
        have N10 := Fr.app N9 N10q
        refine own_go (A := T10.setTop (mkF m 35 #[.val (.ref ar), .val (.int 0), .val (.int 3), .val (.ref b1), .val (.int 2), .val (.ref c9)] [(.int ch2)])) (fun _ kz => st10 _ kz) ?_
        refine own_go (A := T10.setTop (mkF m 56 #[.val (.ref ar), .val (.int 0), .val (.int 3), .val (.ref b1), .val (.int 2), .val (.ref c9)] [(.ref c9)])) (fun _ kz => ?_) ?_
        · refine XS.sipush X10.here hx rfl (hb hby d5_35) ?_
          refine XS.icmpYes X10.here hx rfl (pc0 := 38) (pc' := 54) rfl (hb hby d5_38) rfl (tlt q2).2.2.1 (by decide) (by decide) ?_
          refine XS.aload X10.here hx rfl (hb hby d5_54) rfl rfl ?_
          exact kz
        obtain ⟨fs, hrr, hrun, hended, hW, hsame⟩ := X10.leave (v := some (.ref c9)) (fun h => by rw [Bd.returns] at h; cases h)
        refine ⟨_, _, ?_, hrun, hended, _, _, rfl, ?_, ⟨_, rfl⟩, hW, hsame.mono (by decide) (by decide)⟩
        · show Steps p.tables e below (T10.setTop (mkF m 56 #[.val (.ref ar), .val (.int 0), .val (.int 3), .val (.ref b1), .val (.int 2), .val (.ref c9)] [(.ref c9)])) _
          exact retOut X10 hx (t := (.array .byte)) Bd.returns rfl (Or.inr (Or.inr (Or.inr (Or.inr ⟨rfl, rfl, rfl⟩)))) (hb hby d5_56) hrr
        · show QrmCo_3 Z ch0 ch1 ch2 h0 n0 _ T10.heap _
          rw [e10]
          exact ⟨c9, kc9, rfl, N10, szk_c9, Kp9, Or.inl ⟨Or.inr (Or.inr (q2)), Av9⟩⟩
      · skip
        obtain ⟨_, _, ⟨T11, L11, k11, n11⟩, -, X11, ⟨Lc11, hQ11, l11, y11, z11⟩, st11⟩ := Jvm.LawKit.callS X1 hx (y := (⟨"java/lang/StringUTF16", "compress", "([CI[BII)I"⟩ : MethodName)) hown (mvT hZ (own_w hw 25 rfl)) (mvT hZ (own_w hw 26 rfl)) (mvT hZ (own_w hw 22 rfl)) (mvT hZ (own_w hw 27 rfl)) (by decide) (backOf (W := 0) (rmCi_3_3 l Z a0 hw [] ar b1 ka k1 ch0 ch1 ch2 h1 n0 Z1 Aa Av_b1 ne_ar_b1 g_b1 q0 q1 q2 ) hZ (own_w hw 27 rfl) (own_w hw 22 rfl) (by decide) (by decide)) (g := (mkF m 9 #[.val (.ref ar), .val (.int 0), .val (.int 3), .val (.ref b1), .unset, .unset] [(.int 3), (.int 0), (.ref b1), (.int 0), (.ref ar)])) rfl (by rw [hml]; rfl) (argsL := [(.ref ar), (.int 0), (.ref b1), (.int 0), (.int 3)]) (rest := []) (lenOf own_pd3 rfl) rfl (by show 2 * 0 + _ ≤ _; exact Nat.le_of_eq rfl) (hb hby d5_9) (fun _ _ => ⟨rfl, e1, (by decide : 1 + 0 ≤ _), (by decide : 3 + 0 ≤ _)⟩)
        dsimp only [Pt.U, Pt.locs, Pt.cells, Pt.slots] at X11 l11 y11 z11 st11 hQ11
        subst l11 y11 z11
        obtain ⟨rfl, N11q, K11q, Av11⟩ := hQ11
        have N11 := Fr.app N0 N11q
        replace S_ad := own_staKeep S_ad K11q (allS (own_nsA Av_b1) all0)
        replace S_hi := own_staKeep S_hi K11q (allS (own_nsA Av_b1) all0)
        replace S_lo := own_staKeep S_lo K11q (allS (own_nsA Av_b1) all0)
        replace Aa := Aa.keep K11q (ninS ne_ar_b1 nin0)
        have Z11 : n0 ≤ T11.heap.size := Nat.le_trans Z1 K11q.1
        have Kp11 : Keep h0 T11.heap [] := Kp1.trans K11q (allS (Or.inr szk_b1) (all0))
        refine own_go (A := T11.setTop (mkF m 12 #[.val (.ref ar), .val (.int 0), .val (.int 3), .val (.ref b1), .unset, .unset] [(.int 3)])) (fun _ kz => st11 _ kz) ?_
        refine own_go (A := T11.setTop (mkF m 58 #[.val (.ref ar), .val (.int 0), .val (.int 3), .val (.ref b1), .val (.int 3), .unset] [(.ref b1)])) (fun _ kz => ?_) ?_
        · refine XS.istore X11.here hx rfl (hb hby d5_12) rfl (l' := #[.val (.ref ar), .val (.int 0), .val (.int 3), .val (.ref b1), .val (.int 3), .unset]) rfl ?_
          refine XS.iload X11.here hx rfl (hb hby d5_14) rfl ?_
          refine XS.iloadN X11.here hx rfl (hb hby d5_16) rfl ?_
          refine XS.icmpYes X11.here hx rfl (pc0 := 17) (pc' := 57) rfl (hb hby d5_17) rfl (teq (by decide : ((3 : Int32) = (3 : Int32)))).1 (by decide) (by decide) ?_
          refine XS.aloadN X11.here hx rfl (hb hby d5_57) rfl rfl ?_
          exact kz
        obtain ⟨fs, hrr, hrun, hended, hW, hsame⟩ := X11.leave (v := some (.ref b1)) (fun h => by rw [Bd.returns] at h; cases h)
        refine ⟨_, _, ?_, hrun, hended, _, _, rfl, ?_, ⟨_, rfl⟩, hW, hsame.mono (by decide) (by decide)⟩
        · show Steps p.tables e below (T11.setTop (mkF m 58 #[.val (.ref ar), .val (.int 0), .val (.int 3), .val (.ref b1), .val (.int 3), .unset] [(.ref b1)])) _
          exact retOut X11 hx (t := (.array .byte)) Bd.returns rfl (Or.inr (Or.inr (Or.inr (Or.inr ⟨rfl, rfl, rfl⟩)))) (hb hby d5_58) hrr
        · show QrmCo_3 Z ch0 ch1 ch2 h0 n0 _ T11.heap _
          exact ⟨b1, k1, rfl, N11, szk_b1, Kp11, Or.inr ⟨q0, q1, q2, Av11⟩⟩
def QrmCF_W_3 (Z : State)  (h0 : Heap) (n0 : Nat) (v : Option Value) (h : Heap) (L : List Loc) : Prop := v = some (.int 1) ∧ Fr n0 L ∧ h = h0
set_option maxRecDepth 65536 in
set_option maxHeartbeats 40000000 in
theorem rmCF_W_3 (l : Launch) (Z : State) (a0 : Array Value) (hw : ∀ d ∈ tables_1, d.before a0 Z = true) (ws : List Jvm.Cond) (ab : Addr) (kb : ClassId) (w0 w1 w2 w3 w4 w5 : Value) (h0 : Heap) (n0 : Nat) (Z0 : n0 ≤ h0.size) (Ab : Arv Z h0 ab kb .byte (6 : Int32) [w0, w1, w2, w3, w4, w5] (.int 0)) :
    MetFree l (⟨"java/lang/StringUTF16", "coderFromArrayLen", "([BI)B"⟩ : MethodName) (head1 (Jvm.Cond.code (⟨"java/lang/StringUTF16", "coderFromArrayLen", "([BI)B"⟩ : MethodName) jdk_52_method_15_code 2 (some .byte) :: ws) ({ frames := 0, cells := 0, slots := 0, locals := 0 } : Room)) (fun ar_ U_ => ar_ = #[(.ref ab), (.int 3)] ∧ Z.Warmed39 U_.vm ∧ U_.heap = h0) (fun _ _ _ _ _ => True) (fun _ U_ ou_ V_ => ∃ v_ L_, ou_ = .returned v_ ∧ QrmCF_W_3 Z  h0 n0 v_ V_.heap L_ ∧ FrameEnd U_ ou_ V_ L_ ({ frames := 0, cells := 0, slots := 0, locals := 0 } : Room).cells ({ frames := 0, cells := 0, slots := 0, locals := 0 } : Room).slots) := by
  refine MetFree.of_bodySF (plainFor_of_name own_pn7) hisR ?_
  intro p e s m args below meth c s₁ Bd hml0 hP hK
  obtain ⟨rfl, hZ, hh⟩ := hP
  have hx := Bd.exec
  have hby := Bd.bytes
  have hml : c.maxLocals = 2 := hml0
  have hown : s.vm.findClass "java/lang/StringUTF16" = some m.cls := findClass_of_methodNamed Bd.named
  have hnm := (name_of_methodNamed Bd.named Bd.method).1
  have X0 : Stand p l e ({ frames := 0, cells := 0, slots := 0, locals := 0 } : Room) s m #[(.ref ab), (.int 3)] below meth c s₁ [] 0 0 := Stand.of_body Bd
  have e0 : s₁.heap = h0 := by rw [← hh, Bd.state]; rfl
  have N0 := Fr.nil n0
  refine own_go (A := s₁.setTop (mkF m 0 #[.val (.ref ab), .val (.int 3)] [])) (fun _ kz => castTop (own_ef7 m ab (3 : Int32)) kz) ?_
  refine own_go (A := s₁.setTop (mkF m 2 #[.val (.ref ab), .val (.int 3)] [(.ref ab), (.int 3)])) (fun _ kz => ?_) ?_
  · refine XS.iloadN X0.here hx rfl (hb hby d7_0) rfl ?_
    refine XS.aloadN X0.here hx rfl (hb hby d7_1) rfl rfl ?_
    exact kz
  obtain ⟨cl1, Ar1, -, S1, M1, -, -⟩ := id Ab
  refine own_go (A := s₁.setTop (mkF m 3 #[.val (.ref ab), .val (.int 3)] [(.int 6), (.int 3)])) (fun _ kz => ?_) ?_
  · refine X0.arraylength hx (by rw [e0]; exact Ar1.1) (State.isArrayOf_alike hZ.alike Ar1.2.1) (g := (mkF m 2 #[.val (.ref ab), .val (.int 3)] [(.ref ab), (.int 3)])) rfl rfl (hb hby d7_2) _ ?_
    rw [len_of S1 M1]
    exact kz
  refine own_go (A := s₁.setTop (mkF m 8 #[.val (.ref ab), .val (.int 3)] [(.int 1)])) (fun _ kz => ?_) ?_
  · refine XS.isub X0.here hx rfl (hb hby d7_3) rfl ?_
    show Steps p.tables e below (s₁.setTop (mkF m 4 #[.val (.ref ab), .val (.int 3)] [(.int (-3))])) _
    refine XS.bipush X0.here hx rfl (hb hby d7_4) ?_
    refine XS.iushr X0.here hx rfl (hb hby d7_6) rfl ?_
    show Steps p.tables e below (s₁.setTop (mkF m 7 #[.val (.ref ab), .val (.int 3)] [(.int 1)])) _
    refine XS.i2b X0.here hx rfl (hb hby d7_7) rfl ?_
    exact kz
  obtain ⟨fs, hrr, hrun, hended, hW, hsame⟩ := X0.leave (v := some (.int 1)) (fun h => by rw [Bd.returns] at h; cases h)
  refine ⟨_, _, ?_, hrun, hended, _, _, rfl, ?_, ⟨_, rfl⟩, hW, hsame.mono (by decide) (by decide)⟩
  · show Steps p.tables e below (s₁.setTop (mkF m 8 #[.val (.ref ab), .val (.int 3)] [(.int 1)])) _
    exact retN X0 hx (t := .byte) Bd.returns (by simp) (hb hby d7_8) hrr
  · show QrmCF_W_3 Z  h0 n0 _ s₁.heap _
    rw [e0]
    exact ⟨rfl, N0, rfl⟩
def QrmCF_L_3 (Z : State)  (h0 : Heap) (n0 : Nat) (v : Option Value) (h : Heap) (L : List Loc) : Prop := v = some (.int 0) ∧ Fr n0 L ∧ h = h0
set_option maxRecDepth 65536 in
set_option maxHeartbeats 40000000 in
theorem rmCF_L_3 (l : Launch) (Z : State) (a0 : Array Value) (hw : ∀ d ∈ tables_1, d.before a0 Z = true) (ws : List Jvm.Cond) (ab : Addr) (kb : ClassId) (w0 w1 w2 : Value) (h0 : Heap) (n0 : Nat) (Z0 : n0 ≤ h0.size) (Ab : Arv Z h0 ab kb .byte (3 : Int32) [w0, w1, w2] (.int 0)) :
    MetFree l (⟨"java/lang/StringUTF16", "coderFromArrayLen", "([BI)B"⟩ : MethodName) (head1 (Jvm.Cond.code (⟨"java/lang/StringUTF16", "coderFromArrayLen", "([BI)B"⟩ : MethodName) jdk_52_method_15_code 2 (some .byte) :: ws) ({ frames := 0, cells := 0, slots := 0, locals := 0 } : Room)) (fun ar_ U_ => ar_ = #[(.ref ab), (.int 3)] ∧ Z.Warmed39 U_.vm ∧ U_.heap = h0) (fun _ _ _ _ _ => True) (fun _ U_ ou_ V_ => ∃ v_ L_, ou_ = .returned v_ ∧ QrmCF_L_3 Z  h0 n0 v_ V_.heap L_ ∧ FrameEnd U_ ou_ V_ L_ ({ frames := 0, cells := 0, slots := 0, locals := 0 } : Room).cells ({ frames := 0, cells := 0, slots := 0, locals := 0 } : Room).slots) := by
  refine MetFree.of_bodySF (plainFor_of_name own_pn7) hisR ?_
  intro p e s m args below meth c s₁ Bd hml0 hP hK
  obtain ⟨rfl, hZ, hh⟩ := hP
  have hx := Bd.exec
  have hby := Bd.bytes
  have hml : c.maxLocals = 2 := hml0
  have hown : s.vm.findClass "java/lang/StringUTF16" = some m.cls := findClass_of_methodNamed Bd.named
  have hnm := (name_of_methodNamed Bd.named Bd.method).1
  have X0 : Stand p l e ({ frames := 0, cells := 0, slots := 0, locals := 0 } : Room) s m #[(.ref ab), (.int 3)] below meth c s₁ [] 0 0 := Stand.of_body Bd
  have e0 : s₁.heap = h0 := by rw [← hh, Bd.state]; rfl
  have N0 := Fr.nil n0
  refine own_go (A := s₁.setTop (mkF m 0 #[.val (.ref ab), .val (.int 3)] [])) (fun _ kz => castTop (own_ef7 m ab (3 : Int32)) kz) ?_
  refine own_go (A := s₁.setTop (mkF m 2 #[.val (.ref ab), .val (.int 3)] [(.ref ab), (.int 3)])) (fun _ kz => ?_) ?_
  · refine XS.iloadN X0.here hx rfl (hb hby d7_0) rfl ?_
    refine XS.aloadN X0.here hx rfl (hb hby d7_1) rfl rfl ?_
    exact kz
  obtain ⟨cl1, Ar1, -, S1, M1, -, -⟩ := id Ab
  refine own_go (A := s₁.setTop (mkF m 3 #[.val (.ref ab), .val (.int 3)] [(.int 3), (.int 3)])) (fun _ kz => ?_) ?_
  · refine X0.arraylength hx (by rw [e0]; exact Ar1.1) (State.isArrayOf_alike hZ.alike Ar1.2.1) (g := (mkF m 2 #[.val (.ref ab), .val (.int 3)] [(.ref ab), (.int 3)])) rfl rfl (hb hby d7_2) _ ?_
    rw [len_of S1 M1]
    exact kz
  refine own_go (A := s₁.setTop (mkF m 8 #[.val (.ref ab), .val (.int 3)] [(.int 0)])) (fun _ kz => ?_) ?_
  · refine XS.isub X0.here hx rfl (hb hby d7_3) rfl ?_
    show Steps p.tables e below (s₁.setTop (mkF m 4 #[.val (.ref ab), .val (.int 3)] [(.int 0)])) _
    refine XS.bipush X0.here hx rfl (hb hby d7_4) ?_
    refine XS.iushr X0.here hx rfl (hb hby d7_6) rfl ?_
    show Steps p.tables e below (s₁.setTop (mkF m 7 #[.val (.ref ab), .val (.int 3)] [(.int 0)])) _
    refine XS.i2b X0.here hx rfl (hb hby d7_7) rfl ?_
    exact kz
  obtain ⟨fs, hrr, hrun, hended, hW, hsame⟩ := X0.leave (v := some (.int 0)) (fun h => by rw [Bd.returns] at h; cases h)
  refine ⟨_, _, ?_, hrun, hended, _, _, rfl, ?_, ⟨_, rfl⟩, hW, hsame.mono (by decide) (by decide)⟩
  · show Steps p.tables e below (s₁.setTop (mkF m 8 #[.val (.ref ab), .val (.int 3)] [(.int 0)])) _
    exact retN X0 hx (t := .byte) Bd.returns (by simp) (hb hby d7_8) hrr
  · show QrmCF_L_3 Z  h0 n0 _ s₁.heap _
    rw [e0]
    exact ⟨rfl, N0, rfl⟩
def own_Str3 (Z : State) (h : Heap) (a : Addr) (ch0 ch1 ch2 : Int32) : Prop := ∃ (t : Addr) (kt : ClassId), (((255 : Int32) < ch0 ∨ (255 : Int32) < ch1 ∨ (255 : Int32) < ch2) ∧ Fld Z h a "java/lang/String" "value" "[B" (.ref t) ∧ Fld Z h a "java/lang/String" "coder" "B" (.int 1) ∧ Arv Z h t kt .byte (6 : Int32) [(.int (own_l ch0)), (.int (own_h ch0)), (.int (own_l ch1)), (.int (own_h ch1)), (.int (own_l ch2)), (.int (own_h ch2))] (.int 0)) ∨ (¬ (255 : Int32) < ch0 ∧ ¬ (255 : Int32) < ch1 ∧ ¬ (255 : Int32) < ch2 ∧ Fld Z h a "java/lang/String" "value" "[B" (.ref t) ∧ Fld Z h a "java/lang/String" "coder" "B" (.int 0) ∧ Arv Z h t kt .byte (3 : Int32) [(.int (ch0.toInt8.toInt32)), (.int (ch1.toInt8.toInt32)), (.int (ch2.toInt8.toInt32))] (.int 0))
theorem own_Str3.keep {Z : State} {h h' : Heap} {a : Addr} {ch0 ch1 ch2 : Int32} (F : own_Str3 Z h a ch0 ch1 ch2) (K : Keep h h' []) (_ : a ∉ ([] : List Addr)) : own_Str3 Z h' a ch0 ch1 ch2 := by
  obtain ⟨t, kt, ⟨q, v1, v2, v3⟩ | ⟨q0, q1, q2, v1, v2, v3⟩⟩ := F
  · exact ⟨t, kt, Or.inl ⟨q, v1.keep K nin0, v2.keep K nin0, v3.keep K nin0⟩⟩
  · exact ⟨t, kt, Or.inr ⟨q0, q1, q2, v1.keep K nin0, v2.keep K nin0, v3.keep K nin0⟩⟩
def QrmI3_3 (Z : State) (a : Addr) (ch0 : Int32) (ch1 : Int32) (ch2 : Int32) (h0 : Heap) (n0 : Nat) (v : Option Value) (h : Heap) (L : List Loc) : Prop := v = none ∧ Fr n0 L ∧ Keep h0 h [a] ∧ Exa Z h a "java/lang/String" ∧ own_Str3 Z h a ch0 ch1 ch2
set_option maxRecDepth 65536 in
set_option maxHeartbeats 40000000 in
theorem rmI3_3 (l : Launch) (Z : State) (a0 : Array Value) (hw : ∀ d ∈ tables_1, d.before a0 Z = true) (ws : List Jvm.Cond) (a ar : Addr) (ka : ClassId) (ch0 ch1 ch2 cs : Int32) (h0 : Heap) (n0 : Nat) (Z0 : n0 ≤ h0.size) (Ex : Exa Z h0 a "java/lang/String") (Fv : Fld Z h0 a "java/lang/String" "value" "[B" .null) (Fc : Fld Z h0 a "java/lang/String" "coder" "B" (.int 0)) (g_a : n0 ≤ a) (Aa : Arv Z h0 ar ka .char (3 : Int32) [(.int ch0), (.int ch1), (.int ch2)] (.int 0)) (hp0 : ¬ ch0 < 0 ∧ ¬ (65535 : Int32) < ch0) (hp1 : ¬ ch1 < 0 ∧ ¬ (65535 : Int32) < ch1) (hp2 : ¬ ch2 < 0 ∧ ¬ (65535 : Int32) < ch2) (hcs : ¬ (cs = (0 : Int32))) (S_cs : Sta Z h0 "java/lang/String" "COMPACT_STRINGS" "Z" (.int cs)) (S_ad : Sta Z h0 "java/lang/StringUTF16" "$assertionsDisabled" "Z" (.int 1)) (S_hi : Sta Z h0 "java/lang/StringUTF16" "HI_BYTE_SHIFT" "I" (.int 0)) (S_lo : Sta Z h0 "java/lang/StringUTF16" "LO_BYTE_SHIFT" "I" (.int 8)) :
    MetFree l (⟨"java/lang/String", "<init>", "([CIILjava/lang/Void;)V"⟩ : MethodName) (head1 (Jvm.Cond.code (⟨"java/lang/String", "<init>", "([CIILjava/lang/Void;)V"⟩ : MethodName) jdk_42_method_149_code 6 none :: ws) ({ frames := 4, cells := 2, slots := 9, locals := 57 } : Room)) (fun ar_ U_ => ar_ = #[(.ref a), (.ref ar), (.int 0), (.int 3), .null] ∧ Z.Warmed39 U_.vm ∧ U_.heap = h0) (fun _ _ _ _ _ => True) (fun _ U_ ou_ V_ => ∃ v_ L_, ou_ = .returned v_ ∧ QrmI3_3 Z a ch0 ch1 ch2 h0 n0 v_ V_.heap L_ ∧ FrameEnd U_ ou_ V_ L_ ({ frames := 4, cells := 2, slots := 9, locals := 57 } : Room).cells ({ frames := 4, cells := 2, slots := 9, locals := 57 } : Room).slots) := by
  refine MetFree.of_bodySF (plainFor_of_name own_pn3) hisR ?_
  intro p e s m args below meth c s₁ Bd hml0 hP hK
  obtain ⟨rfl, hZ, hh⟩ := hP
  have hx := Bd.exec
  have hby := Bd.bytes
  have hml : c.maxLocals = 6 := hml0
  have hown : s.vm.findClass "java/lang/String" = some m.cls := findClass_of_methodNamed Bd.named
  have hnm := (name_of_methodNamed Bd.named Bd.method).1
  have X0 : Stand p l e ({ frames := 4, cells := 2, slots := 9, locals := 57 } : Room) s m #[(.ref a), (.ref ar), (.int 0), (.int 3), .null] below meth c s₁ [] 0 0 := Stand.of_body Bd
  have e0 : s₁.heap = h0 := by rw [← hh, Bd.state]; rfl
  have N0 := Fr.nil n0
  have Kp0 : Keep h0 h0 [a] := Keep.refl h0 _
  refine own_go (A := s₁.setTop (mkF m 0 #[.val (.ref a), .val (.ref ar), .val (.int 0), .val (.int 3), .val .null, .unset] [])) (fun _ kz => castTop (own_ef3 m a ar (0 : Int32) (3 : Int32)) kz) ?_
  refine own_go (A := s₁.setTop (mkF m 1 #[.val (.ref a), .val (.ref ar), .val (.int 0), .val (.int 3), .val .null, .unset] [(.ref a)])) (fun _ kz => ?_) ?_
  · refine XS.aloadN X0.here hx rfl (hb hby d3_0) rfl rfl ?_
    exact kz
  obtain ⟨T1, X1, e1, st1⟩ := initO X0 hx hZ hown (own_w hw 16 rfl) (own_w hw 17 rfl) (own_w hw 18 rfl) e0 (g := (mkF m 1 #[.val (.ref a), .val (.ref ar), .val (.int 0), .val (.int 3), .val .null, .unset] [(.ref a)])) rfl (by rw [hml]; rfl) rfl (hb hby d3_1) (by decide) (W := 0) (by show 2 * 0 + _ ≤ _; exact Nat.le_of_eq rfl) (by decide)
  refine own_go (A := T1.setTop (mkF m 4 #[.val (.ref a), .val (.ref ar), .val (.int 0), .val (.int 3), .val .null, .unset] [])) (fun _ kz => st1 _ kz) ?_
  refine own_go (A := T1.setTop (mkF m 27 #[.val (.ref a), .val (.ref ar), .val (.int 0), .val (.int 3), .val .null, .unset] [])) (fun _ kz => ?_) ?_
  · refine XS.iloadN X1.here hx rfl (hb hby d3_4) rfl ?_
    refine XS.ifYes X1.here hx rfl (pc0 := 5) (pc' := 27) rfl (hb hby d3_5) rfl ((if0 _ _).trans (feq (by decide : ¬ ((3 : Int32) = (0 : Int32)))).2) (by decide) (by decide) ?_
    exact kz
  obtain ⟨T2, X2, e2, st2⟩ := getS2 X1 hx hZ hown (host := "") (Or.inl (own_w hw 19 rfl)) Via.refl e1 S_cs (g := (mkF m 27 #[.val (.ref a), .val (.ref ar), .val (.int 0), .val (.int 3), .val .null, .unset] [])) rfl (hb hby d3_27)
  refine own_go (A := T2.setTop (mkF m 30 #[.val (.ref a), .val (.ref ar), .val (.int 0), .val (.int 3), .val .null, .unset] [(.int cs)])) (fun _ kz => st2 _ kz) ?_
  refine own_go (A := T2.setTop (mkF m 36 #[.val (.ref a), .val (.ref ar), .val (.int 0), .val (.int 3), .val .null, .unset] [(.int 3), (.int 0), (.ref ar)])) (fun _ kz => ?_) ?_
  · refine XS.ifNo X2.here hx rfl (hb hby d3_30) rfl ((if0 _ _).trans (feq hcs).1) ?_
    refine XS.aloadN X2.here hx rfl (hb hby d3_33) rfl rfl ?_
    refine XS.iloadN X2.here hx rfl (hb hby d3_34) rfl ?_
    refine XS.iloadN X2.here hx rfl (hb hby d3_35) rfl ?_
    exact kz
  obtain ⟨_, _, ⟨T3, L3, k3, n3⟩, -, X3, ⟨Lc3, hQ3, l3, y3, z3⟩, st3⟩ := Jvm.LawKit.callS X2 hx (y := (⟨"java/lang/StringUTF16", "compress", "([CII)[B"⟩ : MethodName)) hown (mvT hZ (own_w hw 20 rfl)) (mvT hZ (own_w hw 21 rfl)) (mvT hZ (own_w hw 22 rfl)) (mvT hZ (own_w hw 23 rfl)) (by decide) (backOf (W := 0) (rmCo_3 l Z a0 hw [] ar ka ch0 ch1 ch2 h0 n0 Z0 Aa hp0 hp1 hp2 S_ad S_hi S_lo) hZ (own_w hw 23 rfl) (own_w hw 22 rfl) (by decide) (by decide)) (g := (mkF m 36 #[.val (.ref a), .val (.ref ar), .val (.int 0), .val (.int 3), .val .null, .unset] [(.int 3), (.int 0), (.ref ar)])) rfl (by rw [hml]; rfl) (argsL := [(.ref ar), (.int 0), (.int 3)]) (rest := []) (lenOf own_pd4 rfl) rfl (by show 2 * 0 + _ ≤ _; exact Nat.le_of_eq rfl) (hb hby d3_36) (fun _ _ => ⟨rfl, e2, (by decide : 0 + 2 ≤ _), (by decide : 0 + 9 ≤ _)⟩)
  dsimp only [Pt.U, Pt.locs, Pt.cells, Pt.slots] at X3 l3 y3 z3 st3 hQ3
  subst l3 y3 z3
  obtain ⟨c3, kc, rfl, N3q, zc3, K3q, Dq⟩ := hQ3
  have N3 := Fr.app N0 N3q
  have ne_a_c3 : a ≠ c3 := Nat.ne_of_lt (Nat.lt_of_lt_of_le Ex.lt zc3)
  have g_c3 : n0 ≤ c3 := Nat.le_trans Z0 zc3
  have szk_c3 : h0.size ≤ c3 := Nat.le_trans Kp0.1 zc3
  replace S_cs := own_staKeep S_cs K3q all0
  replace S_ad := own_staKeep S_ad K3q all0
  replace S_hi := own_staKeep S_hi K3q all0
  replace S_lo := own_staKeep S_lo K3q all0
  replace Ex := Ex.keep K3q
  replace Fv := Fv.keep K3q nin0
  replace Fc := Fc.keep K3q nin0
  have Z3 : n0 ≤ T3.heap.size := Nat.le_trans Z0 K3q.1
  have Kp3 : Keep h0 T3.heap [a] := Kp0.trans K3q (all0)
  refine own_go (A := T3.setTop (mkF m 39 #[.val (.ref a), .val (.ref ar), .val (.int 0), .val (.int 3), .val .null, .unset] [(.ref c3)])) (fun _ kz => st3 _ kz) ?_
  rcases Dq with ⟨hwd, At⟩ | ⟨hl0, hl1, hl2, At⟩
  · skip
    refine own_go (A := T3.setTop (mkF m 45 #[.val (.ref a), .val (.ref ar), .val (.int 0), .val (.int 3), .val .null, .val (.ref c3)] [(.int 3), (.ref c3), (.ref a)])) (fun _ kz => ?_) ?_
    · refine XS.astore X3.here hx rfl (hb hby d3_39) rfl rfl (l' := #[.val (.ref a), .val (.ref ar), .val (.int 0), .val (.int 3), .val .null, .val (.ref c3)]) rfl ?_
      refine XS.aloadN X3.here hx rfl (hb hby d3_41) rfl rfl ?_
      refine XS.aload X3.here hx rfl (hb hby d3_42) rfl rfl ?_
      refine XS.iloadN X3.here hx rfl (hb hby d3_44) rfl ?_
      exact kz
    obtain ⟨_, _, ⟨T4, L4, k4, n4⟩, -, X4, ⟨Lc4, hQ4, l4, y4, z4⟩, st4⟩ := Jvm.LawKit.callS X3 hx (y := (⟨"java/lang/StringUTF16", "coderFromArrayLen", "([BI)B"⟩ : MethodName)) hown (mvT hZ (own_w hw 28 rfl)) (mvT hZ (own_w hw 29 rfl)) (mvT hZ (own_w hw 22 rfl)) (mvT hZ (own_w hw 30 rfl)) (by decide) (backOf (W := 1) (rmCF_W_3 l Z a0 hw [] c3 kc (.int (own_l ch0)) (.int (own_h ch0)) (.int (own_l ch1)) (.int (own_h ch1)) (.int (own_l ch2)) (.int (own_h ch2)) T3.heap n0 Z3 At) hZ (own_w hw 30 rfl) (own_w hw 22 rfl) (by decide) (by decide)) (g := (mkF m 45 #[.val (.ref a), .val (.ref ar), .val (.int 0), .val (.int 3), .val .null, .val (.ref c3)] [(.int 3), (.ref c3), (.ref a)])) rfl (by rw [hml]; rfl) (argsL := [(.ref c3), (.int 3)]) (rest := [(.ref a)]) (lenOf own_pd6 rfl) rfl (by show 2 * 0 + _ ≤ _; exact Nat.le_of_eq rfl) (hb hby d3_45) (fun _ _ => ⟨rfl, rfl, (by decide : 2 + 0 ≤ _), (by decide : 9 + 0 ≤ _)⟩)
    dsimp only [Pt.U, Pt.locs, Pt.cells, Pt.slots] at X4 l4 y4 z4 st4 hQ4
    subst l4 y4 z4
    obtain ⟨rfl, N4q, e4⟩ := hQ4
    have N4 := Fr.app N3 N4q
    refine own_go (A := T4.setTop (mkF m 48 #[.val (.ref a), .val (.ref ar), .val (.int 0), .val (.int 3), .val .null, .val (.ref c3)] [(.int 1), (.ref a)])) (fun _ kz => st4 _ kz) ?_
    obtain ⟨T5, h5, X5, e5, W5, st5⟩ := putFN X4 hx hZ hown (own_w hw 31 rfl) Via.refl e4 Fc Ex (Or.inr ⟨(own_w hw 32 rfl), rfl, hnm⟩) (own_w hw 6 rfl) (ty := .byte) (v' := (.int 1)) (by decide) rfl (by first | exact fits_nar_byte _ | decide) (g := (mkF m 48 #[.val (.ref a), .val (.ref ar), .val (.int 0), .val (.int 3), .val .null, .val (.ref c3)] [(.int 1), (.ref a)])) rfl rfl (hb hby d3_48)
    have Fw5 := Fc.same W5
    replace S_cs := S_cs.wr W5
    replace S_ad := S_ad.wr W5
    replace S_hi := S_hi.wr W5
    replace S_lo := S_lo.wr W5
    replace Ex := Ex.wr W5
    replace Fv := Fv.other W5 (Or.inr (slot_ne (Or.inr (own_w hw 34 rfl)) (Or.inr (own_w hw 32 rfl)) (by decide) (t := (.array .byte)) (t' := .byte) (by decide) (by decide)))
    replace At := At.other W5 (Ne.symm ne_a_c3)
    have Z5 : n0 ≤ h5.size := Nat.le_trans Z3 (Keep.of_wr W5).1
    have Kp5 : Keep h0 h5 [a] := Kp3.wr W5 (Or.inl (List.mem_of_getElem? (i := 0) rfl))
    have F_coder_a := Fw5
    have N5 := Fr.snoc X5 N4 g_a
    refine own_go (A := T5.setTop (mkF m 51 #[.val (.ref a), .val (.ref ar), .val (.int 0), .val (.int 3), .val .null, .val (.ref c3)] [])) (fun _ kz => st5 _ kz) ?_
    refine own_go (A := T5.setTop (mkF m 54 #[.val (.ref a), .val (.ref ar), .val (.int 0), .val (.int 3), .val .null, .val (.ref c3)] [(.ref c3), (.ref a)])) (fun _ kz => ?_) ?_
    · refine XS.aloadN X5.here hx rfl (hb hby d3_51) rfl rfl ?_
      refine XS.aload X5.here hx rfl (hb hby d3_52) rfl rfl ?_
      exact kz
    obtain ⟨T6, h6, X6, e6, W6, st6⟩ := putF X5 hx hZ hown (host := "") (Or.inl (own_w hw 33 rfl)) Via.refl e5 Fv Ex (Or.inr ⟨(own_w hw 34 rfl), rfl, hnm⟩) (own_w hw 6 rfl) (ty := (.array .byte)) (by decide) rfl rfl (g := (mkF m 54 #[.val (.ref a), .val (.ref ar), .val (.int 0), .val (.int 3), .val .null, .val (.ref c3)] [(.ref c3), (.ref a)])) rfl rfl (hb hby d3_54)
    have Fw6 := Fv.same W6
    replace S_cs := S_cs.wr W6
    replace S_ad := S_ad.wr W6
    replace S_hi := S_hi.wr W6
    replace S_lo := S_lo.wr W6
    replace Ex := Ex.wr W6
    replace F_coder_a := F_coder_a.other W6 (Or.inr (slot_ne (Or.inr (own_w hw 32 rfl)) (Or.inr (own_w hw 34 rfl)) (by decide) (t := .byte) (t' := (.array .byte)) (by decide) (by decide)))
    replace At := At.other W6 (Ne.symm ne_a_c3)
    have Z6 : n0 ≤ h6.size := Nat.le_trans Z5 (Keep.of_wr W6).1
    have Kp6 : Keep h0 h6 [a] := Kp5.wr W6 (Or.inl (List.mem_of_getElem? (i := 0) rfl))
    have F_value_a := Fw6
    have N6 := Fr.snoc X6 N5 g_a
    refine own_go (A := T6.setTop (mkF m 57 #[.val (.ref a), .val (.ref ar), .val (.int 0), .val (.int 3), .val .null, .val (.ref c3)] [])) (fun _ kz => st6 _ kz) ?_
    obtain ⟨fs, hrr, hrun, hended, hW, hsame⟩ := X6.leave (v := none) (fun _ => rfl)
    refine ⟨_, _, ?_, hrun, hended, _, _, rfl, ?_, ⟨_, rfl⟩, hW, hsame.mono (by decide) (by decide)⟩
    · show Steps p.tables e below (T6.setTop (mkF m 57 #[.val (.ref a), .val (.ref ar), .val (.int 0), .val (.int 3), .val .null, .val (.ref c3)] [])) _
      exact X6.returnOut hx Bd.returns (hb hby d3_57) hrr
    · show QrmI3_3 Z a ch0 ch1 ch2 h0 n0 _ T6.heap _
      rw [e6]
      exact ⟨rfl, N6, Kp6, Ex, c3, kc, Or.inl ⟨hwd, F_value_a, F_coder_a, At⟩⟩
  · skip
    refine own_go (A := T3.setTop (mkF m 45 #[.val (.ref a), .val (.ref ar), .val (.int 0), .val (.int 3), .val .null, .val (.ref c3)] [(.int 3), (.ref c3), (.ref a)])) (fun _ kz => ?_) ?_
    · refine XS.astore X3.here hx rfl (hb hby d3_39) rfl rfl (l' := #[.val (.ref a), .val (.ref ar), .val (.int 0), .val (.int 3), .val .null, .val (.ref c3)]) rfl ?_
      refine XS.aloadN X3.here hx rfl (hb hby d3_41) rfl rfl ?_
      refine XS.aload X3.here hx rfl (hb hby d3_42) rfl rfl ?_
      refine XS.iloadN X3.here hx rfl (hb hby d3_44) rfl ?_
      exact kz
    obtain ⟨_, _, ⟨T7, L7, k7, n7⟩, -, X7, ⟨Lc7, hQ7, l7, y7, z7⟩, st7⟩ := Jvm.LawKit.callS X3 hx (y := (⟨"java/lang/StringUTF16", "coderFromArrayLen", "([BI)B"⟩ : MethodName)) hown (mvT hZ (own_w hw 28 rfl)) (mvT hZ (own_w hw 29 rfl)) (mvT hZ (own_w hw 22 rfl)) (mvT hZ (own_w hw 30 rfl)) (by decide) (backOf (W := 1) (rmCF_L_3 l Z a0 hw [] c3 kc (.int (ch0.toInt8.toInt32)) (.int (ch1.toInt8.toInt32)) (.int (ch2.toInt8.toInt32)) T3.heap n0 Z3 At) hZ (own_w hw 30 rfl) (own_w hw 22 rfl) (by decide) (by decide)) (g := (mkF m 45 #[.val (.ref a), .val (.ref ar), .val (.int 0), .val (.int 3), .val .null, .val (.ref c3)] [(.int 3), (.ref c3), (.ref a)])) rfl (by rw [hml]; rfl) (argsL := [(.ref c3), (.int 3)]) (rest := [(.ref a)]) (lenOf own_pd6 rfl) rfl (by show 2 * 0 + _ ≤ _; exact Nat.le_of_eq rfl) (hb hby d3_45) (fun _ _ => ⟨rfl, rfl, (by decide : 2 + 0 ≤ _), (by decide : 9 + 0 ≤ _)⟩)
    dsimp only [Pt.U, Pt.locs, Pt.cells, Pt.slots] at X7 l7 y7 z7 st7 hQ7
    subst l7 y7 z7
    obtain ⟨rfl, N7q, e7⟩ := hQ7
    have N7 := Fr.app N3 N7q
    refine own_go (A := T7.setTop (mkF m 48 #[.val (.ref a), .val (.ref ar), .val (.int 0), .val (.int 3), .val .null, .val (.ref c3)] [(.int 0), (.ref a)])) (fun _ kz => st7 _ kz) ?_
    obtain ⟨T8, h8, X8, e8, W8, st8⟩ := putFN X7 hx hZ hown (own_w hw 31 rfl) Via.refl e7 Fc Ex (Or.inr ⟨(own_w hw 32 rfl), rfl, hnm⟩) (own_w hw 6 rfl) (ty := .byte) (v' := (.int 0)) (by decide) rfl (by first | exact fits_nar_byte _ | decide) (g := (mkF m 48 #[.val (.ref a), .val (.ref ar), .val (.int 0), .val (.int 3), .val .null, .val (.ref c3)] [(.int 0), (.ref a)])) rfl rfl (hb hby d3_48)
    have Fw8 := Fc.same W8
    replace S_cs := S_cs.wr W8
    replace S_ad := S_ad.wr W8
    replace S_hi := S_hi.wr W8
    replace S_lo := S_lo.wr W8
    replace Ex := Ex.wr W8
    replace Fv := Fv.other W8 (Or.inr (slot_ne (Or.inr (own_w hw 34 rfl)) (Or.inr (own_w hw 32 rfl)) (by decide) (t := (.array .byte)) (t' := .byte) (by decide) (by decide)))
    replace At := At.other W8 (Ne.symm ne_a_c3)
    have Z8 : n0 ≤ h8.size := Nat.le_trans Z3 (Keep.of_wr W8).1
    have Kp8 : Keep h0 h8 [a] := Kp3.wr W8 (Or.inl (List.mem_of_getElem? (i := 0) rfl))
    have F_coder_a := Fw8
    have N8 := Fr.snoc X8 N7 g_a
    refine own_go (A := T8.setTop (mkF m 51 #[.val (.ref a), .val (.ref ar), .val (.int 0), .val (.int 3), .val .null, .val (.ref c3)] [])) (fun _ kz => st8 _ kz) ?_
    refine own_go (A := T8.setTop (mkF m 54 #[.val (.ref a), .val (.ref ar), .val (.int 0), .val (.int 3), .val .null, .val (.ref c3)] [(.ref c3), (.ref a)])) (fun _ kz => ?_) ?_
    · refine XS.aloadN X8.here hx rfl (hb hby d3_51) rfl rfl ?_
      refine XS.aload X8.here hx rfl (hb hby d3_52) rfl rfl ?_
      exact kz
    obtain ⟨T9, h9, X9, e9, W9, st9⟩ := putF X8 hx hZ hown (host := "") (Or.inl (own_w hw 33 rfl)) Via.refl e8 Fv Ex (Or.inr ⟨(own_w hw 34 rfl), rfl, hnm⟩) (own_w hw 6 rfl) (ty := (.array .byte)) (by decide) rfl rfl (g := (mkF m 54 #[.val (.ref a), .val (.ref ar), .val (.int 0), .val (.int 3), .val .null, .val (.ref c3)] [(.ref c3), (.ref a)])) rfl rfl (hb hby d3_54)
    have Fw9 := Fv.same W9
    replace S_cs := S_cs.wr W9
    replace S_ad := S_ad.wr W9
    replace S_hi := S_hi.wr W9
    replace S_lo := S_lo.wr W9
    replace Ex := Ex.wr W9
    replace F_coder_a := F_coder_a.other W9 (Or.inr (slot_ne (Or.inr (own_w hw 32 rfl)) (Or.inr (own_w hw 34 rfl)) (by decide) (t := .byte) (t' := (.array .byte)) (by decide) (by decide)))
    replace At := At.other W9 (Ne.symm ne_a_c3)
    have Z9 : n0 ≤ h9.size := Nat.le_trans Z8 (Keep.of_wr W9).1
    have Kp9 : Keep h0 h9 [a] := Kp8.wr W9 (Or.inl (List.mem_of_getElem? (i := 0) rfl))
    have F_value_a := Fw9
    have N9 := Fr.snoc X9 N8 g_a
    refine own_go (A := T9.setTop (mkF m 57 #[.val (.ref a), .val (.ref ar), .val (.int 0), .val (.int 3), .val .null, .val (.ref c3)] [])) (fun _ kz => st9 _ kz) ?_
    obtain ⟨fs, hrr, hrun, hended, hW, hsame⟩ := X9.leave (v := none) (fun _ => rfl)
    refine ⟨_, _, ?_, hrun, hended, _, _, rfl, ?_, ⟨_, rfl⟩, hW, hsame.mono (by decide) (by decide)⟩
    · show Steps p.tables e below (T9.setTop (mkF m 57 #[.val (.ref a), .val (.ref ar), .val (.int 0), .val (.int 3), .val .null, .val (.ref c3)] [])) _
      exact X9.returnOut hx Bd.returns (hb hby d3_57) hrr
    · show QrmI3_3 Z a ch0 ch1 ch2 h0 n0 _ T9.heap _
      rw [e9]
      exact ⟨rfl, N9, Kp9, Ex, c3, kc, Or.inr ⟨hl0, hl1, hl2, F_value_a, F_coder_a, At⟩⟩
def QrmI1_3 (Z : State) (a : Addr) (ch0 : Int32) (ch1 : Int32) (ch2 : Int32) (h0 : Heap) (n0 : Nat) (v : Option Value) (h : Heap) (L : List Loc) : Prop := v = none ∧ Fr n0 L ∧ Keep h0 h [a] ∧ Exa Z h a "java/lang/String" ∧ own_Str3 Z h a ch0 ch1 ch2
set_option maxRecDepth 65536 in
set_option maxHeartbeats 40000000 in
theorem rmI1_3 (l : Launch) (Z : State) (a0 : Array Value) (hw : ∀ d ∈ tables_1, d.before a0 Z = true) (ws : List Jvm.Cond) (a ar : Addr) (ka : ClassId) (ch0 ch1 ch2 cs : Int32) (h0 : Heap) (n0 : Nat) (Z0 : n0 ≤ h0.size) (Ex : Exa Z h0 a "java/lang/String") (Fv : Fld Z h0 a "java/lang/String" "value" "[B" .null) (Fc : Fld Z h0 a "java/lang/String" "coder" "B" (.int 0)) (g_a : n0 ≤ a) (Aa : Arv Z h0 ar ka .char (3 : Int32) [(.int ch0), (.int ch1), (.int ch2)] (.int 0)) (hp0 : ¬ ch0 < 0 ∧ ¬ (65535 : Int32) < ch0) (hp1 : ¬ ch1 < 0 ∧ ¬ (65535 : Int32) < ch1) (hp2 : ¬ ch2 < 0 ∧ ¬ (65535 : Int32) < ch2) (hcs : ¬ (cs = (0 : Int32))) (S_cs : Sta Z h0 "java/lang/String" "COMPACT_STRINGS" "Z" (.int cs)) (S_ad : Sta Z h0 "java/lang/StringUTF16" "$assertionsDisabled" "Z" (.int 1)) (S_hi : Sta Z h0 "java/lang/StringUTF16" "HI_BYTE_SHIFT" "I" (.int 0)) (S_lo : Sta Z h0 "java/lang/StringUTF16" "LO_BYTE_SHIFT" "I" (.int 8)) :
    MetFree l (⟨"java/lang/String", "<init>", "([C)V"⟩ : MethodName) (head1 (Jvm.Cond.code (⟨"java/lang/String", "<init>", "([C)V"⟩ : MethodName) jdk_42_method_3_code 2 none :: ws) ({ frames := 5, cells := 2, slots := 9, locals := 74 } : Room)) (fun ar_ U_ => ar_ = #[(.ref a), (.ref ar)] ∧ Z.Warmed39 U_.vm ∧ U_.heap = h0) (fun _ _ _ _ _ => True) (fun _ U_ ou_ V_ => ∃ v_ L_, ou_ = .returned v_ ∧ QrmI1_3 Z a ch0 ch1 ch2 h0 n0 v_ V_.heap L_ ∧ FrameEnd U_ ou_ V_ L_ ({ frames := 5, cells := 2, slots := 9, locals := 74 } : Room).cells ({ frames := 5, cells := 2, slots := 9, locals := 74 } : Room).slots) := by
  refine MetFree.of_bodySF (plainFor_of_name own_pn2) hisR ?_
  intro p e s m args below meth c s₁ Bd hml0 hP hK
  obtain ⟨rfl, hZ, hh⟩ := hP
  have hx := Bd.exec
  have hby := Bd.bytes
  have hml : c.maxLocals = 2 := hml0
  have hown : s.vm.findClass "java/lang/String" = some m.cls := findClass_of_methodNamed Bd.named
  have hnm := (name_of_methodNamed Bd.named Bd.method).1
  have X0 : Stand p l e ({ frames := 5, cells := 2, slots := 9, locals := 74 } : Room) s m #[(.ref a), (.ref ar)] below meth c s₁ [] 0 0 := Stand.of_body Bd
  have e0 : s₁.heap = h0 := by rw [← hh, Bd.state]; rfl
  have N0 := Fr.nil n0
  have Kp0 : Keep h0 h0 [a] := Keep.refl h0 _
  refine own_go (A := s₁.setTop (mkF m 0 #[.val (.ref a), .val (.ref ar)] [])) (fun _ kz => castTop (own_ef2 m a ar) kz) ?_
  refine own_go (A := s₁.setTop (mkF m 4 #[.val (.ref a), .val (.ref ar)] [(.ref ar), (.int 0), (.ref ar), (.ref a)])) (fun _ kz => ?_) ?_
  · refine XS.aloadN X0.here hx rfl (hb hby d2_0) rfl rfl ?_
    refine XS.aloadN X0.here hx rfl (hb hby d2_1) rfl rfl ?_
    refine XS.iconst X0.here hx rfl (hb hby d2_2) ?_
    refine XS.aloadN X0.here hx rfl (hb hby d2_3) rfl rfl ?_
    exact kz
  obtain ⟨cl1, Ar1, -, S1, M1, -, -⟩ := id Aa
  refine own_go (A := s₁.setTop (mkF m 5 #[.val (.ref a), .val (.ref ar)] [(.int 3), (.int 0), (.ref ar), (.ref a)])) (fun _ kz => ?_) ?_
  · refine X0.arraylength hx (by rw [e0]; exact Ar1.1) (State.isArrayOf_alike hZ.alike Ar1.2.1) (g := (mkF m 4 #[.val (.ref a), .val (.ref ar)] [(.ref ar), (.int 0), (.ref ar), (.ref a)])) rfl rfl (hb hby d2_4) _ ?_
    rw [len_of S1 M1]
    exact kz
  refine own_go (A := s₁.setTop (mkF m 6 #[.val (.ref a), .val (.ref ar)] [.null, (.int 3), (.int 0), (.ref ar), (.ref a)])) (fun _ kz => ?_) ?_
  · refine XS.aconstNull X0.here hx rfl (hb hby d2_5) ?_
    exact kz
  obtain ⟨_, _, ⟨T2, L2, k2, n2⟩, -, X2, ⟨Lc2, hQ2, l2, y2, z2⟩, st2⟩ := X0.specialBack hx (y := (⟨"java/lang/String", "<init>", "([CIILjava/lang/Void;)V"⟩ : MethodName)) rfl hown (mvT hZ (own_w hw 12 rfl)) (mvT hZ (own_w hw 13 rfl)) (mvT hZ (own_w hw 15 rfl)) (by decide) (backOf (W := 0) (rmI3_3 l Z a0 hw [] a ar ka ch0 ch1 ch2 cs h0 n0 Z0 Ex Fv Fc g_a Aa hp0 hp1 hp2 hcs S_cs S_ad S_hi S_lo) hZ (own_w hw 15 rfl) (own_w hw 7 rfl) (by decide) (by decide)) (g := (mkF m 6 #[.val (.ref a), .val (.ref ar)] [.null, (.int 3), (.int 0), (.ref ar), (.ref a)])) rfl (by rw [hml]; rfl) (Steps.refl _) (a := a) (argsL := [(.ref ar), (.int 0), (.int 3), .null]) (rest := []) (lenOf own_pd7 rfl) rfl (by show 2 * 0 + _ ≤ _; exact Nat.le_of_eq rfl) (hb hby d2_6) (fun _ _ => ⟨rfl, e0, (by decide : 0 + 2 ≤ _), (by decide : 0 + 9 ≤ _)⟩)
  dsimp only [Pt.U, Pt.locs, Pt.cells, Pt.slots] at X2 l2 y2 z2 st2 hQ2
  subst l2 y2 z2
  obtain ⟨rfl, N2q, K2q, _, Sq⟩ := hQ2
  have N2 := Fr.app N0 N2q
  replace S_cs := own_staKeep S_cs K2q (allS (own_ns Ex) all0)
  replace S_ad := own_staKeep S_ad K2q (allS (own_ns Ex) all0)
  replace S_hi := own_staKeep S_hi K2q (allS (own_ns Ex) all0)
  replace S_lo := own_staKeep S_lo K2q (allS (own_ns Ex) all0)
  replace Ex := Ex.keep K2q
  have Z2 : n0 ≤ T2.heap.size := Nat.le_trans Z0 K2q.1
  have Kp2 : Keep h0 T2.heap [a] := Kp0.trans K2q (allS (Or.inl (List.mem_of_getElem? (i := 0) rfl)) (all0))
  refine own_go (A := T2.setTop (mkF m 9 #[.val (.ref a), .val (.ref ar)] [])) (fun _ kz => st2.trans kz) ?_
  obtain ⟨fs, hrr, hrun, hended, hW, hsame⟩ := X2.leave (v := none) (fun _ => rfl)
  refine ⟨_, _, ?_, hrun, hended, _, _, rfl, ?_, ⟨_, rfl⟩, hW, hsame.mono (by decide) (by decide)⟩
  · show Steps p.tables e below (T2.setTop (mkF m 9 #[.val (.ref a), .val (.ref ar)] [])) _
    exact X2.returnOut hx Bd.returns (hb hby d2_9) hrr
  · show QrmI1_3 Z a ch0 ch1 ch2 h0 n0 _ T2.heap _
    exact ⟨rfl, N2, Kp2, Ex, Sq⟩
theorem d1_59 : decode method_3_code 59 = .ok (.new 35, 3) := by decide +kernel
theorem d1_62 : decode method_3_code 62 = .ok (.dup, 1) := by decide +kernel
theorem d1_63 : decode method_3_code 63 = .ok (.iconst 3, 1) := by decide +kernel
theorem d1_64 : decode method_3_code 64 = .ok (.newarray .char, 2) := by decide +kernel
theorem d1_66 : decode method_3_code 66 = .ok (.dup, 1) := by decide +kernel
theorem d1_67 : decode method_3_code 67 = .ok (.iconst 0, 1) := by decide +kernel
theorem d1_68 : decode method_3_code 68 = .ok (.iload_n 1, 1) := by decide +kernel
theorem d1_69 : decode method_3_code 69 = .ok (.castore, 1) := by decide +kernel
theorem d1_70 : decode method_3_code 70 = .ok (.dup, 1) := by decide +kernel
theorem d1_71 : decode method_3_code 71 = .ok (.iconst 1, 1) := by decide +kernel
theorem d1_72 : decode method_3_code 72 = .ok (.iload_n 2, 1) := by decide +kernel
theorem d1_73 : decode method_3_code 73 = .ok (.castore, 1) := by decide +kernel
theorem d1_74 : decode method_3_code 74 = .ok (.dup, 1) := by decide +kernel
theorem d1_75 : decode method_3_code 75 = .ok (.iconst 2, 1) := by decide +kernel
theorem d1_76 : decode method_3_code 76 = .ok (.iload_n 3, 1) := by decide +kernel
theorem d1_77 : decode method_3_code 77 = .ok (.castore, 1) := by decide +kernel
theorem d1_78 : decode method_3_code 78 = .ok (.invokespecial 60, 3) := by decide +kernel
theorem d1_81 : decode method_3_code 81 = .ok (.areturn, 1) := by decide +kernel
def QrmMk_3 (Z : State) (ch0 : Int32) (ch1 : Int32) (ch2 : Int32) (h0 : Heap) (n0 : Nat) (v : Option Value) (h : Heap) (L : List Loc) : Prop := ∃ b : Addr, v = some (.ref b) ∧ Fr n0 L ∧ h0.size ≤ b ∧ Keep h0 h [] ∧ Exa Z h b "java/lang/String" ∧ own_Str3 Z h b ch0 ch1 ch2
set_option maxRecDepth 65536 in
set_option maxHeartbeats 40000000 in
theorem rmMk_3 (l : Launch) (Z : State) (a0 : Array Value) (hw : ∀ d ∈ tables_1, d.before a0 Z = true) (ws : List Jvm.Cond) (ch0 ch1 ch2 cs : Int32) (h0 : Heap) (n0 : Nat) (Z0 : n0 ≤ h0.size) (hp0 : ¬ ch0 < 0 ∧ ¬ (65535 : Int32) < ch0) (hp1 : ¬ ch1 < 0 ∧ ¬ (65535 : Int32) < ch1) (hp2 : ¬ ch2 < 0 ∧ ¬ (65535 : Int32) < ch2) (hcs : ¬ (cs = (0 : Int32))) (S_cs : Sta Z h0 "java/lang/String" "COMPACT_STRINGS" "Z" (.int cs)) (S_ad : Sta Z h0 "java/lang/StringUTF16" "$assertionsDisabled" "Z" (.int 1)) (S_hi : Sta Z h0 "java/lang/StringUTF16" "HI_BYTE_SHIFT" "I" (.int 0)) (S_lo : Sta Z h0 "java/lang/StringUTF16" "LO_BYTE_SHIFT" "I" (.int 8)) :
    MetFree l (⟨"dev/parlance/model/MessageAssistantPinLaw", "make", "(ICCC)Ljava/lang/String;"⟩ : MethodName) (head1 (Jvm.Cond.code (⟨"dev/parlance/model/MessageAssistantPinLaw", "make", "(ICCC)Ljava/lang/String;"⟩ : MethodName) method_3_code 4 (some (.object "java/lang/String")) :: ws) ({ frames := 6, cells := 4, slots := 16, locals := 88 } : Room)) (fun ar_ U_ => ar_ = #[(.int 3), (.int ch0), (.int ch1), (.int ch2)] ∧ Z.Warmed39 U_.vm ∧ U_.heap = h0) (fun _ _ _ _ _ => True) (fun _ U_ ou_ V_ => ∃ v_ L_, ou_ = .returned v_ ∧ QrmMk_3 Z ch0 ch1 ch2 h0 n0 v_ V_.heap L_ ∧ FrameEnd U_ ou_ V_ L_ ({ frames := 6, cells := 4, slots := 16, locals := 88 } : Room).cells ({ frames := 6, cells := 4, slots := 16, locals := 88 } : Room).slots) := by
  refine MetFree.of_bodySF (plainFor_of_name own_pn1) hisR ?_
  intro p e s m args below meth c s₁ Bd hml0 hP hK
  obtain ⟨rfl, hZ, hh⟩ := hP
  have hx := Bd.exec
  have hby := Bd.bytes
  have hml : c.maxLocals = 4 := hml0
  have hown : s.vm.findClass "dev/parlance/model/MessageAssistantPinLaw" = some m.cls := findClass_of_methodNamed Bd.named
  have hnm := (name_of_methodNamed Bd.named Bd.method).1
  have X0 : Stand p l e ({ frames := 6, cells := 4, slots := 16, locals := 88 } : Room) s m #[(.int 3), (.int ch0), (.int ch1), (.int ch2)] below meth c s₁ [] 0 0 := Stand.of_body Bd
  have e0 : s₁.heap = h0 := by rw [← hh, Bd.state]; rfl
  have N0 := Fr.nil n0
  have Kp0 : Keep h0 h0 [] := Keep.refl h0 _
  have hn0 : nar .char ch0 = ch0 := own_narc ch0 hp0.1 hp0.2
  have hn1 : nar .char ch1 = ch1 := own_narc ch1 hp1.1 hp1.2
  have hn2 : nar .char ch2 = ch2 := own_narc ch2 hp2.1 hp2.2
  refine own_go (A := s₁.setTop (mkF m 0 #[.val (.int 3), .val (.int ch0), .val (.int ch1), .val (.int ch2)] [])) (fun _ kz => castTop (own_ef1 m (3 : Int32) ch0 ch1 ch2) kz) ?_
  refine own_go (A := s₁.setTop (mkF m 59 #[.val (.int 3), .val (.int ch0), .val (.int ch1), .val (.int ch2)] [])) (fun _ kz => ?_) ?_
  · refine XS.iloadN X0.here hx rfl (hb hby d1_0) rfl ?_
    refine XS.ifYes X0.here hx rfl (pc0 := 1) (pc' := 15) rfl (hb hby d1_1) rfl ((if0 _ _).trans (feq (by decide : ¬ ((3 : Int32) = (0 : Int32)))).2) (by decide) (by decide) ?_
    refine XS.iloadN X0.here hx rfl (hb hby d1_15) rfl ?_
    refine XS.iconst X0.here hx rfl (hb hby d1_16) ?_
    refine XS.icmpYes X0.here hx rfl (pc0 := 17) (pc' := 35) rfl (hb hby d1_17) rfl (feq (by decide : ¬ ((3 : Int32) = (1 : Int32)))).2 (by decide) (by decide) ?_
    refine XS.iloadN X0.here hx rfl (hb hby d1_35) rfl ?_
    refine XS.iconst X0.here hx rfl (hb hby d1_36) ?_
    refine XS.icmpYes X0.here hx rfl (pc0 := 37) (pc' := 59) rfl (hb hby d1_37) rfl (feq (by decide : ¬ ((3 : Int32) = (2 : Int32)))).2 (by decide) (by decide) ?_
    exact kz
  obtain ⟨T1, h1, X1, e1, E1, A1, D1, -, st1⟩ := newO X0 hx hZ hown (own_w hw 5 rfl) (own_w hw 6 rfl) (own_w hw 7 rfl) e0 (g := (mkF m 59 #[.val (.int 3), .val (.int ch0), .val (.int ch1), .val (.int ch2)] [])) rfl (hb hby d1_59) (by decide) (by decide)
  obtain ⟨b1, gq1⟩ : ∃ z, z = h0.size := ⟨_, rfl⟩
  rw [← gq1] at A1 D1 st1
  have g_b1 : n0 ≤ b1 := Nat.le_trans Z0 (Nat.le_of_eq gq1.symm)
  have szk_b1 : h0.size ≤ b1 := Nat.le_trans Kp0.1 (Nat.le_of_eq gq1.symm)
  replace S_cs := S_cs.ext E1
  replace S_ad := S_ad.ext E1
  replace S_hi := S_hi.ext E1
  replace S_lo := S_lo.ext E1
  have Z1 : n0 ≤ h1.size := Nat.le_trans Z0 E1.1
  have Kp1 : Keep h0 h1 [] := Kp0.ext E1
  have Ex_b1 := A1
  have F_coder_b1 : Fld Z h1 b1 "java/lang/String" "coder" "B" (.int 0) := D1 (Or.inr (own_w hw 32 rfl)) (ty := .byte) (by decide)
  have F_value_b1 : Fld Z h1 b1 "java/lang/String" "value" "[B" .null := D1 (Or.inr (own_w hw 34 rfl)) (ty := (.array .byte)) (by decide)
  refine own_go (A := T1.setTop (mkF m 62 #[.val (.int 3), .val (.int ch0), .val (.int ch1), .val (.int ch2)] [(.ref b1)])) (fun _ kz => st1 _ kz) ?_
  refine own_go (A := T1.setTop (mkF m 64 #[.val (.int 3), .val (.int ch0), .val (.int ch1), .val (.int ch2)] [(.int 3), (.ref b1), (.ref b1)])) (fun _ kz => ?_) ?_
  · refine XS.dup X1.here hx rfl (hb hby d1_62) rfl rfl ?_
    refine XS.iconst X1.here hx rfl (hb hby d1_63) ?_
    exact kz
  obtain ⟨T2, h2, k2, X2, e2, E2, A2, st2⟩ := newP X1 hx hZ (own_w hw 8 rfl) e1 (g := (mkF m 64 #[.val (.int 3), .val (.int ch0), .val (.int ch1), .val (.int ch2)] [(.int 3), (.ref b1), (.ref b1)])) rfl (hb hby d1_64) rfl (by decide) (cap := 3) (by decide) (by decide) (by decide) (by decide)
  obtain ⟨b2, gq2⟩ : ∃ z, z = h1.size := ⟨_, rfl⟩
  rw [← gq2] at A2 st2
  have g_b2 : n0 ≤ b2 := Nat.le_trans Z1 (Nat.le_of_eq gq2.symm)
  have ne_b1_b2 : b1 ≠ b2 := Nat.ne_of_lt (Nat.lt_of_lt_of_le Ex_b1.lt (Nat.le_of_eq gq2.symm))
  have szk_b2 : h0.size ≤ b2 := Nat.le_trans Kp1.1 (Nat.le_of_eq gq2.symm)
  replace S_cs := S_cs.ext E2
  replace S_ad := S_ad.ext E2
  replace S_hi := S_hi.ext E2
  replace S_lo := S_lo.ext E2
  replace Ex_b1 := Ex_b1.ext E2
  replace F_coder_b1 := F_coder_b1.ext E2
  replace F_value_b1 := F_value_b1.ext E2
  have Z2 : n0 ≤ h2.size := Nat.le_trans Z1 E2.1
  have Kp2 : Keep h0 h2 [] := Kp1.ext E2
  have Av_b2 : Arv Z h2 b2 k2 .char (3 : Int32) [(.int 0), (.int 0), (.int 0)] (.int 0) := (Arv.new A2 (by decide)).pad (pad_rep [] (.int 0) 3)
  refine own_go (A := T2.setTop (mkF m 66 #[.val (.int 3), .val (.int ch0), .val (.int ch1), .val (.int ch2)] [(.ref b2), (.ref b1), (.ref b1)])) (fun _ kz => st2 _ kz) ?_
  refine own_go (A := T2.setTop (mkF m 69 #[.val (.int 3), .val (.int ch0), .val (.int ch1), .val (.int ch2)] [(.int ch0), (.int 0), (.ref b2), (.ref b2), (.ref b1), (.ref b1)])) (fun _ kz => ?_) ?_
  · refine XS.dup X2.here hx rfl (hb hby d1_66) rfl rfl ?_
    refine XS.iconst X2.here hx rfl (hb hby d1_67) ?_
    refine XS.iloadN X2.here hx rfl (hb hby d1_68) rfl ?_
    exact kz
  obtain ⟨cl3, Ar3, q3, S3, M3, H3, G3⟩ := id Av_b2
  have hin3 : ¬ ((0 : Int32) < 0 ∨ cl3.slots.size ≤ ((0 : Int32)).toNatClampNeg) := inb_of S3 ⟨by decide, by decide⟩
  obtain ⟨T3, h3, X3, e3, W3, st3⟩ := stC X2 hx hZ e2 Ar3 (j := (0 : Int32)) hin3 (g := (mkF m 69 #[.val (.int 3), .val (.int ch0), .val (.int ch1), .val (.int ch2)] [(.int ch0), (.int 0), (.ref b2), (.ref b2), (.ref b1), (.ref b1)])) rfl rfl (hb hby d1_69)
  have Aw3 := Arv.set Ar3 q3 S3 M3 H3 G3 (fits_nar_char _) W3 0 rfl (Nat.le_of_ble_eq_true rfl)
  replace S_cs := S_cs.wr W3
  replace S_ad := S_ad.wr W3
  replace S_hi := S_hi.wr W3
  replace S_lo := S_lo.wr W3
  replace Ex_b1 := Ex_b1.wr W3
  replace F_coder_b1 := F_coder_b1.other W3 (Or.inl ne_b1_b2)
  replace F_value_b1 := F_value_b1.other W3 (Or.inl ne_b1_b2)
  have Z3 : n0 ≤ h3.size := Nat.le_trans Z2 (Keep.of_wr W3).1
  have Kp3 : Keep h0 h3 [] := Kp2.wr W3 (Or.inr szk_b2)
  have Av_b2 : Arv Z h3 b2 k2 .char (3 : Int32) [(.int (nar .char ch0)), (.int 0), (.int 0)] (.int 0) := Aw3
  have N3 := Fr.snoc X3 N0 g_b2
  refine own_go (A := T3.setTop (mkF m 70 #[.val (.int 3), .val (.int ch0), .val (.int ch1), .val (.int ch2)] [(.ref b2), (.ref b1), (.ref b1)])) (fun _ kz => st3 _ kz) ?_
  refine own_go (A := T3.setTop (mkF m 73 #[.val (.int 3), .val (.int ch0), .val (.int ch1), .val (.int ch2)] [(.int ch1), (.int 1), (.ref b2), (.ref b2), (.ref b1), (.ref b1)])) (fun _ kz => ?_) ?_
  · refine XS.dup X3.here hx rfl (hb hby d1_70) rfl rfl ?_
    refine XS.iconst X3.here hx rfl (hb hby d1_71) ?_
    refine XS.iloadN X3.here hx rfl (hb hby d1_72) rfl ?_
    exact kz
  obtain ⟨cl4, Ar4, q4, S4, M4, H4, G4⟩ := id Av_b2
  have hin4 : ¬ ((1 : Int32) < 0 ∨ cl4.slots.size ≤ ((1 : Int32)).toNatClampNeg) := inb_of S4 ⟨by decide, by decide⟩
  obtain ⟨T4, h4, X4, e4, W4, st4⟩ := stC X3 hx hZ e3 Ar4 (j := (1 : Int32)) hin4 (g := (mkF m 73 #[.val (.int 3), .val (.int ch0), .val (.int ch1), .val (.int ch2)] [(.int ch1), (.int 1), (.ref b2), (.ref b2), (.ref b1), (.ref b1)])) rfl rfl (hb hby d1_73)
  have Aw4 := Arv.set Ar4 q4 S4 M4 H4 G4 (fits_nar_char _) W4 1 rfl (Nat.le_of_ble_eq_true rfl)
  replace S_cs := S_cs.wr W4
  replace S_ad := S_ad.wr W4
  replace S_hi := S_hi.wr W4
  replace S_lo := S_lo.wr W4
  replace Ex_b1 := Ex_b1.wr W4
  replace F_coder_b1 := F_coder_b1.other W4 (Or.inl ne_b1_b2)
  replace F_value_b1 := F_value_b1.other W4 (Or.inl ne_b1_b2)
  have Z4 : n0 ≤ h4.size := Nat.le_trans Z3 (Keep.of_wr W4).1
  have Kp4 : Keep h0 h4 [] := Kp3.wr W4 (Or.inr szk_b2)
  have Av_b2 : Arv Z h4 b2 k2 .char (3 : Int32) [(.int (nar .char ch0)), (.int (nar .char ch1)), (.int 0)] (.int 0) := Aw4
  have N4 := Fr.snoc X4 N3 g_b2
  refine own_go (A := T4.setTop (mkF m 74 #[.val (.int 3), .val (.int ch0), .val (.int ch1), .val (.int ch2)] [(.ref b2), (.ref b1), (.ref b1)])) (fun _ kz => st4 _ kz) ?_
  refine own_go (A := T4.setTop (mkF m 77 #[.val (.int 3), .val (.int ch0), .val (.int ch1), .val (.int ch2)] [(.int ch2), (.int 2), (.ref b2), (.ref b2), (.ref b1), (.ref b1)])) (fun _ kz => ?_) ?_
  · refine XS.dup X4.here hx rfl (hb hby d1_74) rfl rfl ?_
    refine XS.iconst X4.here hx rfl (hb hby d1_75) ?_
    refine XS.iloadN X4.here hx rfl (hb hby d1_76) rfl ?_
    exact kz
  obtain ⟨cl5, Ar5, q5, S5, M5, H5, G5⟩ := id Av_b2
  have hin5 : ¬ ((2 : Int32) < 0 ∨ cl5.slots.size ≤ ((2 : Int32)).toNatClampNeg) := inb_of S5 ⟨by decide, by decide⟩
  obtain ⟨T5, h5, X5, e5, W5, st5⟩ := stC X4 hx hZ e4 Ar5 (j := (2 : Int32)) hin5 (g := (mkF m 77 #[.val (.int 3), .val (.int ch0), .val (.int ch1), .val (.int ch2)] [(.int ch2), (.int 2), (.ref b2), (.ref b2), (.ref b1), (.ref b1)])) rfl rfl (hb hby d1_77)
  have Aw5 := Arv.set Ar5 q5 S5 M5 H5 G5 (fits_nar_char _) W5 2 rfl (Nat.le_of_ble_eq_true rfl)
  replace S_cs := S_cs.wr W5
  replace S_ad := S_ad.wr W5
  replace S_hi := S_hi.wr W5
  replace S_lo := S_lo.wr W5
  replace Ex_b1 := Ex_b1.wr W5
  replace F_coder_b1 := F_coder_b1.other W5 (Or.inl ne_b1_b2)
  replace F_value_b1 := F_value_b1.other W5 (Or.inl ne_b1_b2)
  have Z5 : n0 ≤ h5.size := Nat.le_trans Z4 (Keep.of_wr W5).1
  have Kp5 : Keep h0 h5 [] := Kp4.wr W5 (Or.inr szk_b2)
  have Av_b2 : Arv Z h5 b2 k2 .char (3 : Int32) [(.int (nar .char ch0)), (.int (nar .char ch1)), (.int (nar .char ch2))] (.int 0) := Aw5
  have N5 := Fr.snoc X5 N4 g_b2
  refine own_go (A := T5.setTop (mkF m 78 #[.val (.int 3), .val (.int ch0), .val (.int ch1), .val (.int ch2)] [(.ref b2), (.ref b1), (.ref b1)])) (fun _ kz => st5 _ kz) ?_
  rw [hn0, hn1, hn2] at Av_b2
  obtain ⟨_, _, ⟨T6, L6, k6, n6⟩, -, X6, ⟨Lc6, hQ6, l6, y6, z6⟩, st6⟩ := X5.specialBack hx (y := (⟨"java/lang/String", "<init>", "([C)V"⟩ : MethodName)) rfl hown (mvT hZ (own_w hw 9 rfl)) (mvT hZ (own_w hw 10 rfl)) (mvT hZ (own_w hw 11 rfl)) (by decide) (backOf (W := 1) (rmI1_3 l Z a0 hw [] b1 b2 k2 ch0 ch1 ch2 cs h5 n0 Z5 Ex_b1 F_value_b1 F_coder_b1 g_b1 Av_b2 hp0 hp1 hp2 hcs S_cs S_ad S_hi S_lo) hZ (own_w hw 11 rfl) (own_w hw 7 rfl) (by decide) (by decide)) (g := (mkF m 78 #[.val (.int 3), .val (.int ch0), .val (.int ch1), .val (.int ch2)] [(.ref b2), (.ref b1), (.ref b1)])) rfl (by rw [hml]; rfl) (Steps.refl _) (a := b1) (argsL := [(.ref b2)]) (rest := [(.ref b1)]) (lenOf own_pd8 rfl) rfl (by show 2 * 0 + _ ≤ _; exact Nat.le_of_eq rfl) (hb hby d1_78) (fun _ _ => ⟨rfl, e5, (by decide : 2 + 2 ≤ _), (by decide : 7 + 9 ≤ _)⟩)
  dsimp only [Pt.U, Pt.locs, Pt.cells, Pt.slots] at X6 l6 y6 z6 st6 hQ6
  subst l6 y6 z6
  obtain ⟨rfl, N6q, K6q, _, Sq⟩ := hQ6
  have N6 := Fr.app N5 N6q
  replace S_cs := own_staKeep S_cs K6q (allS (own_ns Ex_b1) all0)
  replace S_ad := own_staKeep S_ad K6q (allS (own_ns Ex_b1) all0)
  replace S_hi := own_staKeep S_hi K6q (allS (own_ns Ex_b1) all0)
  replace S_lo := own_staKeep S_lo K6q (allS (own_ns Ex_b1) all0)
  replace Ex_b1 := Ex_b1.keep K6q
  replace Av_b2 := Av_b2.keep K6q (ninS (Ne.symm ne_b1_b2) nin0)
  have Z6 : n0 ≤ T6.heap.size := Nat.le_trans Z5 K6q.1
  have Kp6 : Keep h0 T6.heap [] := Kp5.trans K6q (allS (Or.inr szk_b1) (all0))
  refine own_go (A := T6.setTop (mkF m 81 #[.val (.int 3), .val (.int ch0), .val (.int ch1), .val (.int ch2)] [(.ref b1)])) (fun _ kz => st6.trans kz) ?_
  obtain ⟨fs, hrr, hrun, hended, hW, hsame⟩ := X6.leave (v := some (.ref b1)) (fun h => by rw [Bd.returns] at h; cases h)
  refine ⟨_, _, ?_, hrun, hended, _, _, rfl, ?_, ⟨_, rfl⟩, hW, hsame.mono (by decide) (by decide)⟩
  · show Steps p.tables e below (T6.setTop (mkF m 81 #[.val (.int 3), .val (.int ch0), .val (.int ch1), .val (.int ch2)] [(.ref b1)])) _
    exact retOut X6 hx (t := (.object "java/lang/String")) Bd.returns rfl (Or.inr (Or.inr (Or.inr (Or.inr ⟨rfl, rfl, rfl⟩)))) (hb hby d1_81) hrr
  · show QrmMk_3 Z ch0 ch1 ch2 h0 n0 _ T6.heap _
    exact ⟨b1, rfl, N6, szk_b1, Kp6, Ex_b1, Sq⟩
def own_Str0 (Z : State) (h : Heap) (a : Addr) : Prop := ∃ (t : Addr) (kt : ClassId), Fld Z h a "java/lang/String" "value" "[B" (.ref t) ∧ Fld Z h a "java/lang/String" "coder" "B" (.int 0) ∧ Arv Z h t kt .byte (0 : Int32) [] (.int 0)
theorem own_Str0.keep {Z : State} {h h' : Heap} {a : Addr} (F : own_Str0 Z h a) (K : Keep h h' []) (_ : a ∉ ([] : List Addr)) : own_Str0 Z h' a := by
  obtain ⟨t, kt, v1, v2, v3⟩ := F
  exact ⟨t, kt, v1.keep K nin0, v2.keep K nin0, v3.keep K nin0⟩
theorem d3_8 : decode jdk_42_method_149_code 8 = .ok (.aload_n 0, 1) := by decide +kernel
theorem d3_9 : decode jdk_42_method_149_code 9 = .ok (.ldc 7, 2) := by decide +kernel
theorem d3_11 : decode jdk_42_method_149_code 11 = .ok (.getfield 9, 3) := by decide +kernel
theorem d3_14 : decode jdk_42_method_149_code 14 = .ok (.putfield 9, 3) := by decide +kernel
theorem d3_17 : decode jdk_42_method_149_code 17 = .ok (.aload_n 0, 1) := by decide +kernel
theorem d3_18 : decode jdk_42_method_149_code 18 = .ok (.ldc 7, 2) := by decide +kernel
theorem d3_20 : decode jdk_42_method_149_code 20 = .ok (.getfield 15, 3) := by decide +kernel
theorem d3_23 : decode jdk_42_method_149_code 23 = .ok (.putfield 15, 3) := by decide +kernel
theorem d3_26 : decode jdk_42_method_149_code 26 = .ok (.return_, 1) := by decide +kernel
def QrmE3 (Z : State) (a : Addr) (h0 : Heap) (n0 : Nat) (v : Option Value) (h : Heap) (L : List Loc) : Prop := ∃ (t : Addr) (k : ClassId), v = none ∧ Fr n0 L ∧ Keep h0 h [a] ∧ Exa Z h a "java/lang/String" ∧ Fld Z h a "java/lang/String" "value" "[B" (.ref t) ∧ Fld Z h a "java/lang/String" "coder" "B" (.int 0) ∧ Arv Z h t k .byte (0 : Int32) [] (.int 0)
def QrmE3I (Z : State) (a : Addr) (h0 : Heap) (n0 : Nat) (v : Option Value) (h : Heap) (L : List Loc) (vm : Vm) : Prop := QrmE3 Z a h0 n0 v h L ∧ own_In Z vm h
set_option maxRecDepth 65536 in
set_option maxHeartbeats 40000000 in
theorem rmE3 (l : Launch) (Z : State) (a0 : Array Value) (hw : ∀ d ∈ tables_1, d.before a0 Z = true) (ws : List Jvm.Cond) (a ar : Addr) (h0 : Heap) (n0 : Nat) (Z0 : n0 ≤ h0.size) (hZh : Ext Z.heap h0) (hheld : ∀ q ∈ consts_1, Jvm.Lit.constHeld Z q.1 q.2) (hcw : Jvm.Lit.compactW.before a0 Z = true) (Ex : Exa Z h0 a "java/lang/String") (Fv : Fld Z h0 a "java/lang/String" "value" "[B" .null) (Fc : Fld Z h0 a "java/lang/String" "coder" "B" (.int 0)) (g_a : n0 ≤ a) :
    MetFree l (⟨"java/lang/String", "<init>", "([CIILjava/lang/Void;)V"⟩ : MethodName) (head1 (Jvm.Cond.code (⟨"java/lang/String", "<init>", "([CIILjava/lang/Void;)V"⟩ : MethodName) jdk_42_method_149_code 6 none :: ws) ({ frames := 1, cells := 2, slots := 4, locals := 12 } : Room)) (fun ar_ U_ => ar_ = #[(.ref a), (.ref ar), (.int 0), (.int 0), .null] ∧ Z.Warmed39 U_.vm ∧ U_.heap = h0 ∧ own_In Z U_.vm h0) (fun _ _ _ _ _ => True) (fun _ U_ ou_ V_ => ∃ v_ L_, ou_ = .returned v_ ∧ QrmE3I Z a h0 n0 v_ V_.heap L_ V_.vm ∧ ReturnedEndW U_ ou_ V_ L_ ({ frames := 1, cells := 2, slots := 4, locals := 12 } : Room).cells ({ frames := 1, cells := 2, slots := 4, locals := 12 } : Room).slots) := by
  refine MetFree.of_bodySF (plainFor_of_name own_pn3) hisR ?_
  intro p e s m args below meth c s₁ Bd hml0 hP hK
  obtain ⟨rfl, hZ, hh, hIn⟩ := hP
  have hx := Bd.exec
  have hby := Bd.bytes
  have hml : c.maxLocals = 6 := hml0
  have hown : s.vm.findClass "java/lang/String" = some m.cls := findClass_of_methodNamed Bd.named
  have hnm := (name_of_methodNamed Bd.named Bd.method).1
  have X0 : Stand p l e ({ frames := 1, cells := 2, slots := 4, locals := 12 } : Room) s m #[(.ref a), (.ref ar), (.int 0), (.int 0), .null] below meth c s₁ [] 0 0 := Stand.of_body Bd
  have e0 : s₁.heap = h0 := by rw [← hh, Bd.state]; rfl
  have N0 := Fr.nil n0
  have hkeep : ∀ (b : Addr) (cl : Cell), Z.heap[b]? = some cl → s.heap[b]? = some cl := fun b cl q => by rw [hh]; exact hZh.2 b cl q
  have wS : ∀ a ∈ Bundle.stringAtoms, a.before a0 Z = true := fun d hd => hw d ((by decide +kernel : ∀ d ∈ Bundle.stringAtoms, d ∈ tables_1) d hd)
  replace X0 : Stand p l e ({ frames := 1, cells := 2, slots := 4, locals := 12 } : Room) (s.setVm s.vm) m #[(.ref a), (.ref ar), (.int 0), (.int 0), .null] below meth c s₁ [] 0 0 := X0
  replace hZ : Z.Warmed39 (s.setVm s.vm).vm := hZ
  replace hown : (s.setVm s.vm).vm.findClass "java/lang/String" = some m.cls := hown
  have hS : s.Since s.vm 0 := (State.WarmedH.refl s).since 0
  have hk : 0 ≤ h0.size := Nat.zero_le _
  have Kp0 : Keep h0 h0 [a] := Keep.refl h0 _
  refine own_go (A := s₁.setTop (mkF m 0 #[.val (.ref a), .val (.ref ar), .val (.int 0), .val (.int 0), .val .null, .unset] [])) (fun _ kz => castTop (own_ef3 m a ar (0 : Int32) (0 : Int32)) kz) ?_
  refine own_go (A := s₁.setTop (mkF m 1 #[.val (.ref a), .val (.ref ar), .val (.int 0), .val (.int 0), .val .null, .unset] [(.ref a)])) (fun _ kz => ?_) ?_
  · refine XS.aloadN X0.here hx rfl (hb hby d3_0) rfl rfl ?_
    exact kz
  obtain ⟨T1, X1, e1, st1⟩ := initO X0 hx hZ hown (own_w hw 16 rfl) (own_w hw 17 rfl) (own_w hw 18 rfl) e0 (g := (mkF m 1 #[.val (.ref a), .val (.ref ar), .val (.int 0), .val (.int 0), .val .null, .unset] [(.ref a)])) rfl (by rw [hml]; rfl) rfl (hb hby d3_1) (by decide) (W := 0) (by show 2 * 0 + _ ≤ _; exact Nat.le_of_eq rfl) (by decide)
  refine own_go (A := T1.setTop (mkF m 4 #[.val (.ref a), .val (.ref ar), .val (.int 0), .val (.int 0), .val .null, .unset] [])) (fun _ kz => st1 _ kz) ?_
  refine own_go (A := T1.setTop (mkF m 9 #[.val (.ref a), .val (.ref ar), .val (.int 0), .val (.int 0), .val .null, .unset] [(.ref a)])) (fun _ kz => ?_) ?_
  · refine XS.iloadN X1.here hx rfl (hb hby d3_4) rfl ?_
    refine XS.ifNo X1.here hx rfl (hb hby d3_5) rfl ((if0 _ _).trans (teq (by decide : ((0 : Int32) = (0 : Int32)))).2) ?_
    refine XS.aloadN X1.here hx rfl (hb hby d3_8) rfl rfl ?_
    exact kz
  rcases hIn with hI | ⟨lb, lt, lk, Li, Exl, Fcl, Fvl, Avl⟩
  · skip
    obtain ⟨b2, T2, h2, ks2, t2, kc2, X2, e2, E2, hS, hkq, hZ, hown, Ex_b2, Fc_b2, Fv_b2, Av_t2, -, -, -, Li_b2, st2⟩ := ldcSVL X1 hx hZ hown (own_w hw 132 rfl) wS e1 hS hk (Fr.nil _) hkeep hI (by decide) (hheld _ (List.mem_of_getElem? (i := 0) rfl)) hcw (vs := []) (z := (0 : Int32)) ⟨by decide, by decide⟩ (by decide) (by decide) (g := (mkF m 9 #[.val (.ref a), .val (.ref ar), .val (.int 0), .val (.int 0), .val .null, .unset] [(.ref a)])) rfl (hb hby d3_9) (n := 0) (by decide) (by decide) (by decide) (by decide)
    replace Ex := Ex.ext E2
    replace Fv := Fv.ext E2
    replace Fc := Fc.ext E2
    have Z2 : n0 ≤ h2.size := Nat.le_trans Z0 E2.1
    have Kp2 : Keep h0 h2 [a] := Kp0.ext E2
    replace hk := Nat.le_trans hk E2.1
    replace hk := hkq
    have ne_b2_a : b2 ≠ a := Fld.ne Fv_b2 Fv (fun q => nomatch q)
    have ne_t2_a : t2 ≠ a := Ne.symm (own_neA Ex (own_w hw 6 rfl) Av_t2)
    refine own_go (A := T2.setTop (mkF m 11 #[.val (.ref a), .val (.ref ar), .val (.int 0), .val (.int 0), .val .null, .unset] [(.ref b2), (.ref a)])) (fun _ kz => st2 _ kz) ?_
    obtain ⟨T3, X3, e3, st3⟩ := getF X2 hx hZ hown (host := "") (Or.inl (own_w hw 33 rfl)) Via.refl e2 Fv_b2 (g := (mkF m 11 #[.val (.ref a), .val (.ref ar), .val (.int 0), .val (.int 0), .val .null, .unset] [(.ref b2), (.ref a)])) rfl rfl (hb hby d3_11)
    refine own_go (A := T3.setTop (mkF m 14 #[.val (.ref a), .val (.ref ar), .val (.int 0), .val (.int 0), .val .null, .unset] [(.ref t2), (.ref a)])) (fun _ kz => st3 _ kz) ?_
    obtain ⟨T4, h4, X4, e4, W4, st4⟩ := putF X3 hx hZ hown (host := "") (Or.inl (own_w hw 33 rfl)) Via.refl e3 Fv Ex (Or.inr ⟨(own_w hw 34 rfl), rfl, hnm⟩) (own_w hw 6 rfl) (ty := (.array .byte)) (by decide) rfl rfl (g := (mkF m 14 #[.val (.ref a), .val (.ref ar), .val (.int 0), .val (.int 0), .val .null, .unset] [(.ref t2), (.ref a)])) rfl rfl (hb hby d3_14)
    have Fw4 := Fv.same W4
    replace Ex := Ex.wr W4
    replace Fc := Fc.other W4 (Or.inr (slot_ne (Or.inr (own_w hw 32 rfl)) (Or.inr (own_w hw 34 rfl)) (by decide) (t := .byte) (t' := (.array .byte)) (by decide) (by decide)))
    replace Ex_b2 := Ex_b2.wr W4
    replace Fc_b2 := Fc_b2.other W4 (Or.inl ne_b2_a)
    replace Fv_b2 := Fv_b2.other W4 (Or.inl ne_b2_a)
    replace Av_t2 := Av_t2.other W4 ne_t2_a
    have Z4 : n0 ≤ h4.size := Nat.le_trans Z2 (Keep.of_wr W4).1
    have Kp4 : Keep h0 h4 [a] := Kp2.wr W4 (Or.inl (List.mem_of_getElem? (i := 0) rfl))
    replace hk := Nat.le_trans hk (Keep.of_wr W4).1
    have F_value_a := Fw4
    have N4 := Fr.snoc X4 N0 g_a
    refine own_go (A := T4.setTop (mkF m 17 #[.val (.ref a), .val (.ref ar), .val (.int 0), .val (.int 0), .val .null, .unset] [])) (fun _ kz => st4 _ kz) ?_
    refine own_go (A := T4.setTop (mkF m 18 #[.val (.ref a), .val (.ref ar), .val (.int 0), .val (.int 0), .val .null, .unset] [(.ref a)])) (fun _ kz => ?_) ?_
    · refine XS.aloadN X4.here hx rfl (hb hby d3_17) rfl rfl ?_
      exact kz
    refine own_go (A := T4.setTop (mkF m 20 #[.val (.ref a), .val (.ref ar), .val (.int 0), .val (.int 0), .val .null, .unset] [(.ref b2), (.ref a)])) (fun _ kz => ldcAgain X4 hx hZ hown (own_w hw 132 rfl) Li_b2 (g := (mkF m 18 #[.val (.ref a), .val (.ref ar), .val (.int 0), .val (.int 0), .val .null, .unset] [(.ref a)])) rfl (hb hby d3_18) _ kz) ?_
    obtain ⟨T5, X5, e5, st5⟩ := getF X4 hx hZ hown (host := "") (Or.inl (own_w hw 31 rfl)) Via.refl e4 Fc_b2 (g := (mkF m 20 #[.val (.ref a), .val (.ref ar), .val (.int 0), .val (.int 0), .val .null, .unset] [(.ref b2), (.ref a)])) rfl rfl (hb hby d3_20)
    refine own_go (A := T5.setTop (mkF m 23 #[.val (.ref a), .val (.ref ar), .val (.int 0), .val (.int 0), .val .null, .unset] [(.int 0), (.ref a)])) (fun _ kz => st5 _ kz) ?_
    obtain ⟨T6, h6, X6, e6, W6, st6⟩ := putFN X5 hx hZ hown (own_w hw 31 rfl) Via.refl e5 Fc Ex (Or.inr ⟨(own_w hw 32 rfl), rfl, hnm⟩) (own_w hw 6 rfl) (ty := .byte) (v' := (.int 0)) (by decide) rfl (by first | exact fits_nar_byte _ | decide) (g := (mkF m 23 #[.val (.ref a), .val (.ref ar), .val (.int 0), .val (.int 0), .val .null, .unset] [(.int 0), (.ref a)])) rfl rfl (hb hby d3_23)
    have Fw6 := Fc.same W6
    replace Ex := Ex.wr W6
    replace F_value_a := F_value_a.other W6 (Or.inr (slot_ne (Or.inr (own_w hw 34 rfl)) (Or.inr (own_w hw 32 rfl)) (by decide) (t := (.array .byte)) (t' := .byte) (by decide) (by decide)))
    replace Ex_b2 := Ex_b2.wr W6
    replace Fc_b2 := Fc_b2.other W6 (Or.inl ne_b2_a)
    replace Fv_b2 := Fv_b2.other W6 (Or.inl ne_b2_a)
    replace Av_t2 := Av_t2.other W6 ne_t2_a
    have Z6 : n0 ≤ h6.size := Nat.le_trans Z4 (Keep.of_wr W6).1
    have Kp6 : Keep h0 h6 [a] := Kp4.wr W6 (Or.inl (List.mem_of_getElem? (i := 0) rfl))
    replace hk := Nat.le_trans hk (Keep.of_wr W6).1
    have F_coder_a := Fw6
    have N6 := Fr.snoc X6 N4 g_a
    refine own_go (A := T6.setTop (mkF m 26 #[.val (.ref a), .val (.ref ar), .val (.int 0), .val (.int 0), .val .null, .unset] [])) (fun _ kz => st6 _ kz) ?_
    obtain ⟨fs, hrr, hrun, hended, rW1, rW2, rW3, rW4⟩ := X6.leaveW hS (by rw [e6]; exact hk) (v := none) (fun _ => rfl)
    refine ⟨_, _, ?_, hrun, hended, _, _, rfl, ?_, rW1, rW2, rW3, rW4.mono (by decide) (by decide)⟩
    · show Steps p.tables e below (T6.setTop (mkF m 26 #[.val (.ref a), .val (.ref ar), .val (.int 0), .val (.int 0), .val .null, .unset] [])) _
      exact X6.returnOut hx Bd.returns (hb hby d3_26) hrr
    · refine ⟨?_, (show own_In Z T6.vm T6.heap from by rw [e6]; exact Or.inr ⟨b2, t2, kc2, Lit.stays Li_b2 X6.warmed.wide, Ex_b2, Fc_b2, Fv_b2, Av_t2⟩)⟩
      show QrmE3 Z a h0 n0 _ T6.heap _
      rw [e6]
      exact ⟨t2, kc2, rfl, N6, Kp6, Ex, F_value_a, F_coder_a, Av_t2⟩
  · skip
    replace Li : Lit (s.setVm s.vm) "java/lang/String" 7 lb := Li
    have ne_lb_a : lb ≠ a := Fld.ne Fvl Fv (fun q => nomatch q)
    have ne_lt_a : lt ≠ a := Ne.symm (own_neA Ex (own_w hw 6 rfl) Avl)
    refine own_go (A := T1.setTop (mkF m 11 #[.val (.ref a), .val (.ref ar), .val (.int 0), .val (.int 0), .val .null, .unset] [(.ref lb), (.ref a)])) (fun _ kz => ldcAgain X1 hx hZ hown (own_w hw 132 rfl) Li (g := (mkF m 9 #[.val (.ref a), .val (.ref ar), .val (.int 0), .val (.int 0), .val .null, .unset] [(.ref a)])) rfl (hb hby d3_9) _ kz) ?_
    obtain ⟨T7, X7, e7, st7⟩ := getF X1 hx hZ hown (host := "") (Or.inl (own_w hw 33 rfl)) Via.refl e1 Fvl (g := (mkF m 11 #[.val (.ref a), .val (.ref ar), .val (.int 0), .val (.int 0), .val .null, .unset] [(.ref lb), (.ref a)])) rfl rfl (hb hby d3_11)
    refine own_go (A := T7.setTop (mkF m 14 #[.val (.ref a), .val (.ref ar), .val (.int 0), .val (.int 0), .val .null, .unset] [(.ref lt), (.ref a)])) (fun _ kz => st7 _ kz) ?_
    obtain ⟨T8, h8, X8, e8, W8, st8⟩ := putF X7 hx hZ hown (host := "") (Or.inl (own_w hw 33 rfl)) Via.refl e7 Fv Ex (Or.inr ⟨(own_w hw 34 rfl), rfl, hnm⟩) (own_w hw 6 rfl) (ty := (.array .byte)) (by decide) rfl rfl (g := (mkF m 14 #[.val (.ref a), .val (.ref ar), .val (.int 0), .val (.int 0), .val .null, .unset] [(.ref lt), (.ref a)])) rfl rfl (hb hby d3_14)
    have Fw8 := Fv.same W8
    replace Ex := Ex.wr W8
    replace Fc := Fc.other W8 (Or.inr (slot_ne (Or.inr (own_w hw 32 rfl)) (Or.inr (own_w hw 34 rfl)) (by decide) (t := .byte) (t' := (.array .byte)) (by decide) (by decide)))
    replace Exl := Exl.wr W8
    replace Fcl := Fcl.other W8 (Or.inl ne_lb_a)
    replace Fvl := Fvl.other W8 (Or.inl ne_lb_a)
    replace Avl := Avl.other W8 ne_lt_a
    have Z8 : n0 ≤ h8.size := Nat.le_trans Z0 (Keep.of_wr W8).1
    have Kp8 : Keep h0 h8 [a] := Kp0.wr W8 (Or.inl (List.mem_of_getElem? (i := 0) rfl))
    replace hk := Nat.le_trans hk (Keep.of_wr W8).1
    have F_value_a := Fw8
    have N8 := Fr.snoc X8 N0 g_a
    refine own_go (A := T8.setTop (mkF m 17 #[.val (.ref a), .val (.ref ar), .val (.int 0), .val (.int 0), .val .null, .unset] [])) (fun _ kz => st8 _ kz) ?_
    refine own_go (A := T8.setTop (mkF m 18 #[.val (.ref a), .val (.ref ar), .val (.int 0), .val (.int 0), .val .null, .unset] [(.ref a)])) (fun _ kz => ?_) ?_
    · refine XS.aloadN X8.here hx rfl (hb hby d3_17) rfl rfl ?_
      exact kz
    refine own_go (A := T8.setTop (mkF m 20 #[.val (.ref a), .val (.ref ar), .val (.int 0), .val (.int 0), .val .null, .unset] [(.ref lb), (.ref a)])) (fun _ kz => ldcAgain X8 hx hZ hown (own_w hw 132 rfl) Li (g := (mkF m 18 #[.val (.ref a), .val (.ref ar), .val (.int 0), .val (.int 0), .val .null, .unset] [(.ref a)])) rfl (hb hby d3_18) _ kz) ?_
    obtain ⟨T9, X9, e9, st9⟩ := getF X8 hx hZ hown (host := "") (Or.inl (own_w hw 31 rfl)) Via.refl e8 Fcl (g := (mkF m 20 #[.val (.ref a), .val (.ref ar), .val (.int 0), .val (.int 0), .val .null, .unset] [(.ref lb), (.ref a)])) rfl rfl (hb hby d3_20)
    refine own_go (A := T9.setTop (mkF m 23 #[.val (.ref a), .val (.ref ar), .val (.int 0), .val (.int 0), .val .null, .unset] [(.int 0), (.ref a)])) (fun _ kz => st9 _ kz) ?_
    obtain ⟨T10, h10, X10, e10, W10, st10⟩ := putFN X9 hx hZ hown (own_w hw 31 rfl) Via.refl e9 Fc Ex (Or.inr ⟨(own_w hw 32 rfl), rfl, hnm⟩) (own_w hw 6 rfl) (ty := .byte) (v' := (.int 0)) (by decide) rfl (by first | exact fits_nar_byte _ | decide) (g := (mkF m 23 #[.val (.ref a), .val (.ref ar), .val (.int 0), .val (.int 0), .val .null, .unset] [(.int 0), (.ref a)])) rfl rfl (hb hby d3_23)
    have Fw10 := Fc.same W10
    replace Ex := Ex.wr W10
    replace F_value_a := F_value_a.other W10 (Or.inr (slot_ne (Or.inr (own_w hw 34 rfl)) (Or.inr (own_w hw 32 rfl)) (by decide) (t := (.array .byte)) (t' := .byte) (by decide) (by decide)))
    replace Exl := Exl.wr W10
    replace Fcl := Fcl.other W10 (Or.inl ne_lb_a)
    replace Fvl := Fvl.other W10 (Or.inl ne_lb_a)
    replace Avl := Avl.other W10 ne_lt_a
    have Z10 : n0 ≤ h10.size := Nat.le_trans Z8 (Keep.of_wr W10).1
    have Kp10 : Keep h0 h10 [a] := Kp8.wr W10 (Or.inl (List.mem_of_getElem? (i := 0) rfl))
    replace hk := Nat.le_trans hk (Keep.of_wr W10).1
    have F_coder_a := Fw10
    have N10 := Fr.snoc X10 N8 g_a
    refine own_go (A := T10.setTop (mkF m 26 #[.val (.ref a), .val (.ref ar), .val (.int 0), .val (.int 0), .val .null, .unset] [])) (fun _ kz => st10 _ kz) ?_
    obtain ⟨fs, hrr, hrun, hended, rW1, rW2, rW3, rW4⟩ := X10.leaveW hS (by rw [e10]; exact hk) (v := none) (fun _ => rfl)
    refine ⟨_, _, ?_, hrun, hended, _, _, rfl, ?_, rW1, rW2, rW3, rW4.mono (by decide) (by decide)⟩
    · show Steps p.tables e below (T10.setTop (mkF m 26 #[.val (.ref a), .val (.ref ar), .val (.int 0), .val (.int 0), .val .null, .unset] [])) _
      exact X10.returnOut hx Bd.returns (hb hby d3_26) hrr
    · refine ⟨?_, (show own_In Z T10.vm T10.heap from by rw [e10]; exact Or.inr ⟨lb, lt, lk, Lit.stays Li X10.warmed.wide, Exl, Fcl, Fvl, Avl⟩)⟩
      show QrmE3 Z a h0 n0 _ T10.heap _
      rw [e10]
      exact ⟨lt, lk, rfl, N10, Kp10, Ex, F_value_a, F_coder_a, Avl⟩
def QrmE1 (Z : State) (a : Addr) (h0 : Heap) (n0 : Nat) (v : Option Value) (h : Heap) (L : List Loc) : Prop := ∃ (t : Addr) (k : ClassId), v = none ∧ Fr n0 L ∧ Keep h0 h [a] ∧ Exa Z h a "java/lang/String" ∧ Fld Z h a "java/lang/String" "value" "[B" (.ref t) ∧ Fld Z h a "java/lang/String" "coder" "B" (.int 0) ∧ Arv Z h t k .byte (0 : Int32) [] (.int 0)
def QrmE1I (Z : State) (a : Addr) (h0 : Heap) (n0 : Nat) (v : Option Value) (h : Heap) (L : List Loc) (vm : Vm) : Prop := QrmE1 Z a h0 n0 v h L ∧ own_In Z vm h
set_option maxRecDepth 65536 in
set_option maxHeartbeats 40000000 in
theorem rmE1 (l : Launch) (Z : State) (a0 : Array Value) (hw : ∀ d ∈ tables_1, d.before a0 Z = true) (ws : List Jvm.Cond) (a ar : Addr) (ka : ClassId) (h0 : Heap) (n0 : Nat) (Z0 : n0 ≤ h0.size) (hZh : Ext Z.heap h0) (hheld : ∀ q ∈ consts_1, Jvm.Lit.constHeld Z q.1 q.2) (hcw : Jvm.Lit.compactW.before a0 Z = true) (Ex : Exa Z h0 a "java/lang/String") (Fv : Fld Z h0 a "java/lang/String" "value" "[B" .null) (Fc : Fld Z h0 a "java/lang/String" "coder" "B" (.int 0)) (g_a : n0 ≤ a) (Aa : Arv Z h0 ar ka .char (0 : Int32) [] (.int 0)) :
    MetFree l (⟨"java/lang/String", "<init>", "([C)V"⟩ : MethodName) (head1 (Jvm.Cond.code (⟨"java/lang/String", "<init>", "([C)V"⟩ : MethodName) jdk_42_method_3_code 2 none :: ws) ({ frames := 2, cells := 2, slots := 4, locals := 29 } : Room)) (fun ar_ U_ => ar_ = #[(.ref a), (.ref ar)] ∧ Z.Warmed39 U_.vm ∧ U_.heap = h0 ∧ own_In Z U_.vm h0) (fun _ _ _ _ _ => True) (fun _ U_ ou_ V_ => ∃ v_ L_, ou_ = .returned v_ ∧ QrmE1I Z a h0 n0 v_ V_.heap L_ V_.vm ∧ ReturnedEndW U_ ou_ V_ L_ ({ frames := 2, cells := 2, slots := 4, locals := 29 } : Room).cells ({ frames := 2, cells := 2, slots := 4, locals := 29 } : Room).slots) := by
  refine MetFree.of_bodySF (plainFor_of_name own_pn2) hisR ?_
  intro p e s m args below meth c s₁ Bd hml0 hP hK
  obtain ⟨rfl, hZ, hh, hIn⟩ := hP
  have hx := Bd.exec
  have hby := Bd.bytes
  have hml : c.maxLocals = 2 := hml0
  have hown : s.vm.findClass "java/lang/String" = some m.cls := findClass_of_methodNamed Bd.named
  have hnm := (name_of_methodNamed Bd.named Bd.method).1
  have X0 : Stand p l e ({ frames := 2, cells := 2, slots := 4, locals := 29 } : Room) s m #[(.ref a), (.ref ar)] below meth c s₁ [] 0 0 := Stand.of_body Bd
  have e0 : s₁.heap = h0 := by rw [← hh, Bd.state]; rfl
  have N0 := Fr.nil n0
  have hkeep : ∀ (b : Addr) (cl : Cell), Z.heap[b]? = some cl → s.heap[b]? = some cl := fun b cl q => by rw [hh]; exact hZh.2 b cl q
  have wS : ∀ a ∈ Bundle.stringAtoms, a.before a0 Z = true := fun d hd => hw d ((by decide +kernel : ∀ d ∈ Bundle.stringAtoms, d ∈ tables_1) d hd)
  replace X0 : Stand p l e ({ frames := 2, cells := 2, slots := 4, locals := 29 } : Room) (s.setVm s.vm) m #[(.ref a), (.ref ar)] below meth c s₁ [] 0 0 := X0
  replace hZ : Z.Warmed39 (s.setVm s.vm).vm := hZ
  replace hown : (s.setVm s.vm).vm.findClass "java/lang/String" = some m.cls := hown
  have hS : s.Since s.vm 0 := (State.WarmedH.refl s).since 0
  have hk : 0 ≤ h0.size := Nat.zero_le _
  have Kp0 : Keep h0 h0 [a] := Keep.refl h0 _
  refine own_go (A := s₁.setTop (mkF m 0 #[.val (.ref a), .val (.ref ar)] [])) (fun _ kz => castTop (own_ef2 m a ar) kz) ?_
  refine own_go (A := s₁.setTop (mkF m 4 #[.val (.ref a), .val (.ref ar)] [(.ref ar), (.int 0), (.ref ar), (.ref a)])) (fun _ kz => ?_) ?_
  · refine XS.aloadN X0.here hx rfl (hb hby d2_0) rfl rfl ?_
    refine XS.aloadN X0.here hx rfl (hb hby d2_1) rfl rfl ?_
    refine XS.iconst X0.here hx rfl (hb hby d2_2) ?_
    refine XS.aloadN X0.here hx rfl (hb hby d2_3) rfl rfl ?_
    exact kz
  obtain ⟨cl1, Ar1, -, S1, M1, -, -⟩ := id Aa
  refine own_go (A := s₁.setTop (mkF m 5 #[.val (.ref a), .val (.ref ar)] [(.int 0), (.int 0), (.ref ar), (.ref a)])) (fun _ kz => ?_) ?_
  · refine X0.arraylength hx (by rw [e0]; exact Ar1.1) (State.isArrayOf_alike hZ.alike Ar1.2.1) (g := (mkF m 4 #[.val (.ref a), .val (.ref ar)] [(.ref ar), (.int 0), (.ref ar), (.ref a)])) rfl rfl (hb hby d2_4) _ ?_
    rw [len_of S1 M1]
    exact kz
  refine own_go (A := s₁.setTop (mkF m 6 #[.val (.ref a), .val (.ref ar)] [.null, (.int 0), (.int 0), (.ref ar), (.ref a)])) (fun _ kz => ?_) ?_
  · refine XS.aconstNull X0.here hx rfl (hb hby d2_5) ?_
    exact kz
  obtain ⟨_, _, ⟨T2, L2, k2, n2⟩, -, X2, hSq2, -, ⟨Lc2, hQI2, l2, y2, z2⟩, st2⟩ := X0.specialBackS hx (y := (⟨"java/lang/String", "<init>", "([CIILjava/lang/Void;)V"⟩ : MethodName)) rfl hown (mvT hZ (own_w hw 12 rfl)) (mvT hZ (own_w hw 13 rfl)) (mvT hZ (own_w hw 15 rfl)) (by decide) (own_backS (W := 0) (rmE3 l Z a0 hw [] a ar h0 n0 Z0 hZh hheld hcw Ex Fv Fc g_a) hZ (own_w hw 15 rfl) (own_w hw 7 rfl) (by decide) (by decide) (fun _ hq => own_In.warm hIn hq)) (g := (mkF m 6 #[.val (.ref a), .val (.ref ar)] [.null, (.int 0), (.int 0), (.ref ar), (.ref a)])) rfl (by rw [hml]; rfl) (Steps.refl _) (a := a) (argsL := [(.ref ar), (.int 0), (.int 0), .null]) (rest := []) (lenOf own_pd7 rfl) rfl (by show 2 * 0 + _ ≤ _; exact Nat.le_of_eq rfl) (hb hby d2_6) (fun _ _ => ⟨rfl, e0, (by decide : 0 + 2 ≤ _), (by decide : 0 + 4 ≤ _)⟩)
  dsimp only [Pt.U, Pt.locs, Pt.cells, Pt.slots] at X2 l2 y2 z2 st2 hQI2
  subst l2 y2 z2
  obtain ⟨hQ2, hInq2⟩ := hQI2
  dsimp only [Pt.U] at hSq2 hInq2
  obtain ⟨t2, kt2, rfl, N2q, K2q, _, Fv2, Fc2, At2⟩ := hQ2
  have N2 := Fr.app N0 N2q
  replace Ex := Ex.keep K2q
  have Z2 : n0 ≤ T2.heap.size := Nat.le_trans Z0 K2q.1
  have Kp2 : Keep h0 T2.heap [a] := Kp0.trans K2q (allS (Or.inl (List.mem_of_getElem? (i := 0) rfl)) (all0))
  replace hk := Nat.le_trans hk K2q.1
  replace hS := hS.trans hSq2 hk
  replace hk : T2.heap.size ≤ T2.heap.size := Nat.le_refl _
  replace hZ : Z.Warmed39 (s.setVm T2.vm).vm := State.Warmed39.trans (t := s.setVm s.vm) hZ hSq2.1
  replace hown : (s.setVm T2.vm).vm.findClass "java/lang/String" = some m.cls := by rw [show (s.setVm T2.vm).vm = T2.vm from rfl, hSq2.1.alike.findClass]; exact hown
  replace X2 : Stand p l e ({ frames := 2, cells := 2, slots := 4, locals := 29 } : Room) (s.setVm T2.vm) m #[(.ref a), (.ref ar)] below meth c T2 _ _ _ := X2
  have hIn := hInq2
  refine own_go (A := T2.setTop (mkF m 9 #[.val (.ref a), .val (.ref ar)] [])) (fun _ kz => st2.trans kz) ?_
  obtain ⟨fs, hrr, hrun, hended, rW1, rW2, rW3, rW4⟩ := X2.leaveW hS hk (v := none) (fun _ => rfl)
  refine ⟨_, _, ?_, hrun, hended, _, _, rfl, ?_, rW1, rW2, rW3, rW4.mono (by decide) (by decide)⟩
  · show Steps p.tables e below (T2.setTop (mkF m 9 #[.val (.ref a), .val (.ref ar)] [])) _
    exact X2.returnOut hx Bd.returns (hb hby d2_9) hrr
  · refine ⟨?_, (show own_In Z T2.vm T2.heap from own_In.warm hIn X2.warmed)⟩
    show QrmE1 Z a h0 n0 _ T2.heap _
    exact ⟨t2, kt2, rfl, N2, Kp2, Ex, Fv2, Fc2, At2⟩
theorem d1_4 : decode method_3_code 4 = .ok (.new 35, 3) := by decide +kernel
theorem d1_7 : decode method_3_code 7 = .ok (.dup, 1) := by decide +kernel
theorem d1_8 : decode method_3_code 8 = .ok (.iconst 0, 1) := by decide +kernel
theorem d1_9 : decode method_3_code 9 = .ok (.newarray .char, 2) := by decide +kernel
theorem d1_11 : decode method_3_code 11 = .ok (.invokespecial 60, 3) := by decide +kernel
theorem d1_14 : decode method_3_code 14 = .ok (.areturn, 1) := by decide +kernel
def QrmMz (Z : State)  (h0 : Heap) (n0 : Nat) (v : Option Value) (h : Heap) (L : List Loc) : Prop := ∃ b : Addr, v = some (.ref b) ∧ Fr n0 L ∧ h0.size ≤ b ∧ Keep h0 h [] ∧ Exa Z h b "java/lang/String" ∧ own_Str0 Z h b 
def QrmMzI (Z : State)  (h0 : Heap) (n0 : Nat) (v : Option Value) (h : Heap) (L : List Loc) (vm : Vm) : Prop := QrmMz Z  h0 n0 v h L ∧ own_In Z vm h
set_option maxRecDepth 65536 in
set_option maxHeartbeats 40000000 in
theorem rmMz (l : Launch) (Z : State) (a0 : Array Value) (hw : ∀ d ∈ tables_1, d.before a0 Z = true) (ws : List Jvm.Cond) (ch0 ch1 ch2 : Int32) (h0 : Heap) (n0 : Nat) (Z0 : n0 ≤ h0.size) (hZh : Ext Z.heap h0) (hheld : ∀ q ∈ consts_1, Jvm.Lit.constHeld Z q.1 q.2) (hcw : Jvm.Lit.compactW.before a0 Z = true)  :
    MetFree l (⟨"dev/parlance/model/MessageAssistantPinLaw", "make", "(ICCC)Ljava/lang/String;"⟩ : MethodName) (head1 (Jvm.Cond.code (⟨"dev/parlance/model/MessageAssistantPinLaw", "make", "(ICCC)Ljava/lang/String;"⟩ : MethodName) method_3_code 4 (some (.object "java/lang/String")) :: ws) ({ frames := 3, cells := 4, slots := 8, locals := 43 } : Room)) (fun ar_ U_ => ar_ = #[(.int 0), (.int ch0), (.int ch1), (.int ch2)] ∧ Z.Warmed39 U_.vm ∧ U_.heap = h0 ∧ own_In Z U_.vm h0) (fun _ _ _ _ _ => True) (fun _ U_ ou_ V_ => ∃ v_ L_, ou_ = .returned v_ ∧ QrmMzI Z  h0 n0 v_ V_.heap L_ V_.vm ∧ ReturnedEndW U_ ou_ V_ L_ ({ frames := 3, cells := 4, slots := 8, locals := 43 } : Room).cells ({ frames := 3, cells := 4, slots := 8, locals := 43 } : Room).slots) := by
  refine MetFree.of_bodySF (plainFor_of_name own_pn1) hisR ?_
  intro p e s m args below meth c s₁ Bd hml0 hP hK
  obtain ⟨rfl, hZ, hh, hIn⟩ := hP
  have hx := Bd.exec
  have hby := Bd.bytes
  have hml : c.maxLocals = 4 := hml0
  have hown : s.vm.findClass "dev/parlance/model/MessageAssistantPinLaw" = some m.cls := findClass_of_methodNamed Bd.named
  have hnm := (name_of_methodNamed Bd.named Bd.method).1
  have X0 : Stand p l e ({ frames := 3, cells := 4, slots := 8, locals := 43 } : Room) s m #[(.int 0), (.int ch0), (.int ch1), (.int ch2)] below meth c s₁ [] 0 0 := Stand.of_body Bd
  have e0 : s₁.heap = h0 := by rw [← hh, Bd.state]; rfl
  have N0 := Fr.nil n0
  have hkeep : ∀ (b : Addr) (cl : Cell), Z.heap[b]? = some cl → s.heap[b]? = some cl := fun b cl q => by rw [hh]; exact hZh.2 b cl q
  have wS : ∀ a ∈ Bundle.stringAtoms, a.before a0 Z = true := fun d hd => hw d ((by decide +kernel : ∀ d ∈ Bundle.stringAtoms, d ∈ tables_1) d hd)
  replace X0 : Stand p l e ({ frames := 3, cells := 4, slots := 8, locals := 43 } : Room) (s.setVm s.vm) m #[(.int 0), (.int ch0), (.int ch1), (.int ch2)] below meth c s₁ [] 0 0 := X0
  replace hZ : Z.Warmed39 (s.setVm s.vm).vm := hZ
  replace hown : (s.setVm s.vm).vm.findClass "dev/parlance/model/MessageAssistantPinLaw" = some m.cls := hown
  have hS : s.Since s.vm 0 := (State.WarmedH.refl s).since 0
  have hk : 0 ≤ h0.size := Nat.zero_le _
  have Kp0 : Keep h0 h0 [] := Keep.refl h0 _
  refine own_go (A := s₁.setTop (mkF m 0 #[.val (.int 0), .val (.int ch0), .val (.int ch1), .val (.int ch2)] [])) (fun _ kz => castTop (own_ef1 m (0 : Int32) ch0 ch1 ch2) kz) ?_
  refine own_go (A := s₁.setTop (mkF m 4 #[.val (.int 0), .val (.int ch0), .val (.int ch1), .val (.int ch2)] [])) (fun _ kz => ?_) ?_
  · refine XS.iloadN X0.here hx rfl (hb hby d1_0) rfl ?_
    refine XS.ifNo X0.here hx rfl (hb hby d1_1) rfl ((if0 _ _).trans (teq (by decide : ((0 : Int32) = (0 : Int32)))).2) ?_
    exact kz
  obtain ⟨T1, h1, X1, e1, E1, A1, D1, -, st1⟩ := newO X0 hx hZ hown (own_w hw 5 rfl) (own_w hw 6 rfl) (own_w hw 7 rfl) e0 (g := (mkF m 4 #[.val (.int 0), .val (.int ch0), .val (.int ch1), .val (.int ch2)] [])) rfl (hb hby d1_4) (by decide) (by decide)
  obtain ⟨b1, gq1⟩ : ∃ z, z = h0.size := ⟨_, rfl⟩
  rw [← gq1] at A1 D1 st1
  have g_b1 : n0 ≤ b1 := Nat.le_trans Z0 (Nat.le_of_eq gq1.symm)
  have szk_b1 : h0.size ≤ b1 := Nat.le_trans Kp0.1 (Nat.le_of_eq gq1.symm)
  have Z1 : n0 ≤ h1.size := Nat.le_trans Z0 E1.1
  have Kp1 : Keep h0 h1 [] := Kp0.ext E1
  replace hIn := hIn.ext E1
  replace hk := Nat.le_trans hk E1.1
  have Ex_b1 := A1
  have F_coder_b1 : Fld Z h1 b1 "java/lang/String" "coder" "B" (.int 0) := D1 (Or.inr (own_w hw 32 rfl)) (ty := .byte) (by decide)
  have F_value_b1 : Fld Z h1 b1 "java/lang/String" "value" "[B" .null := D1 (Or.inr (own_w hw 34 rfl)) (ty := (.array .byte)) (by decide)
  refine own_go (A := T1.setTop (mkF m 7 #[.val (.int 0), .val (.int ch0), .val (.int ch1), .val (.int ch2)] [(.ref b1)])) (fun _ kz => st1 _ kz) ?_
  refine own_go (A := T1.setTop (mkF m 9 #[.val (.int 0), .val (.int ch0), .val (.int ch1), .val (.int ch2)] [(.int 0), (.ref b1), (.ref b1)])) (fun _ kz => ?_) ?_
  · refine XS.dup X1.here hx rfl (hb hby d1_7) rfl rfl ?_
    refine XS.iconst X1.here hx rfl (hb hby d1_8) ?_
    exact kz
  obtain ⟨T2, h2, k2, X2, e2, E2, A2, st2⟩ := newP X1 hx hZ (own_w hw 8 rfl) e1 (g := (mkF m 9 #[.val (.int 0), .val (.int ch0), .val (.int ch1), .val (.int ch2)] [(.int 0), (.ref b1), (.ref b1)])) rfl (hb hby d1_9) rfl (by decide) (cap := 0) (by decide) (by decide) (by decide) (by decide)
  obtain ⟨b2, gq2⟩ : ∃ z, z = h1.size := ⟨_, rfl⟩
  rw [← gq2] at A2 st2
  have g_b2 : n0 ≤ b2 := Nat.le_trans Z1 (Nat.le_of_eq gq2.symm)
  have ne_b1_b2 : b1 ≠ b2 := Nat.ne_of_lt (Nat.lt_of_lt_of_le Ex_b1.lt (Nat.le_of_eq gq2.symm))
  have szk_b2 : h0.size ≤ b2 := Nat.le_trans Kp1.1 (Nat.le_of_eq gq2.symm)
  replace Ex_b1 := Ex_b1.ext E2
  replace F_coder_b1 := F_coder_b1.ext E2
  replace F_value_b1 := F_value_b1.ext E2
  have Z2 : n0 ≤ h2.size := Nat.le_trans Z1 E2.1
  have Kp2 : Keep h0 h2 [] := Kp1.ext E2
  replace hIn := hIn.ext E2
  replace hk := Nat.le_trans hk E2.1
  have Av_b2 : Arv Z h2 b2 k2 .char (0 : Int32) [] (.int 0) := Arv.new A2 (by decide)
  refine own_go (A := T2.setTop (mkF m 11 #[.val (.int 0), .val (.int ch0), .val (.int ch1), .val (.int ch2)] [(.ref b2), (.ref b1), (.ref b1)])) (fun _ kz => st2 _ kz) ?_
  have hZx : Ext Z.heap h2 := ⟨Nat.le_trans hZh.1 Kp2.1, fun x_ c_ q_ => Kp2.2.1 x_ c_ (hZh.2 x_ c_ q_) (fun z_ => nomatch z_)⟩
  obtain ⟨_, _, ⟨T3, L3, k3, n3⟩, -, X3, hSq3, -, ⟨Lc3, hQI3, l3, y3, z3⟩, st3⟩ := X2.specialBackS hx (y := (⟨"java/lang/String", "<init>", "([C)V"⟩ : MethodName)) rfl hown (mvT hZ (own_w hw 9 rfl)) (mvT hZ (own_w hw 10 rfl)) (mvT hZ (own_w hw 11 rfl)) (by decide) (own_backS (W := 1) (rmE1 l Z a0 hw [] b1 b2 k2 h2 n0 Z2 hZx hheld hcw Ex_b1 F_value_b1 F_coder_b1 g_b1 Av_b2) hZ (own_w hw 11 rfl) (own_w hw 7 rfl) (by decide) (by decide) (fun _ hq => own_In.warm hIn hq)) (g := (mkF m 11 #[.val (.int 0), .val (.int ch0), .val (.int ch1), .val (.int ch2)] [(.ref b2), (.ref b1), (.ref b1)])) rfl (by rw [hml]; rfl) (Steps.refl _) (a := b1) (argsL := [(.ref b2)]) (rest := [(.ref b1)]) (lenOf own_pd8 rfl) rfl (by show 2 * 0 + _ ≤ _; exact Nat.le_of_eq rfl) (hb hby d1_11) (fun _ _ => ⟨rfl, e2, (by decide : 2 + 2 ≤ _), (by decide : 4 + 4 ≤ _)⟩)
  dsimp only [Pt.U, Pt.locs, Pt.cells, Pt.slots] at X3 l3 y3 z3 st3 hQI3
  subst l3 y3 z3
  obtain ⟨hQ3, hInq3⟩ := hQI3
  dsimp only [Pt.U] at hSq3 hInq3
  obtain ⟨tq, ktq, rfl, N3q, K3q, _, Fvq, Fcq, Atq⟩ := hQ3
  have N3 := Fr.app N0 N3q
  replace Ex_b1 := Ex_b1.keep K3q
  replace Av_b2 := Av_b2.keep K3q (ninS (Ne.symm ne_b1_b2) nin0)
  have Z3 : n0 ≤ T3.heap.size := Nat.le_trans Z2 K3q.1
  have Kp3 : Keep h0 T3.heap [] := Kp2.trans K3q (allS (Or.inr szk_b1) (all0))
  replace hk := Nat.le_trans hk K3q.1
  replace hS := hS.trans hSq3 hk
  replace hk : T3.heap.size ≤ T3.heap.size := Nat.le_refl _
  replace hZ : Z.Warmed39 (s.setVm T3.vm).vm := State.Warmed39.trans (t := s.setVm s.vm) hZ hSq3.1
  replace hown : (s.setVm T3.vm).vm.findClass "dev/parlance/model/MessageAssistantPinLaw" = some m.cls := by rw [show (s.setVm T3.vm).vm = T3.vm from rfl, hSq3.1.alike.findClass]; exact hown
  replace X3 : Stand p l e ({ frames := 3, cells := 4, slots := 8, locals := 43 } : Room) (s.setVm T3.vm) m #[(.int 0), (.int ch0), (.int ch1), (.int ch2)] below meth c T3 _ _ _ := X3
  have hIn := hInq3
  refine own_go (A := T3.setTop (mkF m 14 #[.val (.int 0), .val (.int ch0), .val (.int ch1), .val (.int ch2)] [(.ref b1)])) (fun _ kz => st3.trans kz) ?_
  obtain ⟨fs, hrr, hrun, hended, rW1, rW2, rW3, rW4⟩ := X3.leaveW hS hk (v := some (.ref b1)) (fun h => by rw [Bd.returns] at h; cases h)
  refine ⟨_, _, ?_, hrun, hended, _, _, rfl, ?_, rW1, rW2, rW3, rW4.mono (by decide) (by decide)⟩
  · show Steps p.tables e below (T3.setTop (mkF m 14 #[.val (.int 0), .val (.int ch0), .val (.int ch1), .val (.int ch2)] [(.ref b1)])) _
    exact retOut X3 hx (t := (.object "java/lang/String")) Bd.returns rfl (Or.inr (Or.inr (Or.inr (Or.inr ⟨rfl, rfl, rfl⟩)))) (hb hby d1_14) hrr
  · refine ⟨?_, (show own_In Z T3.vm T3.heap from own_In.warm hIn X3.warmed)⟩
    show QrmMz Z  h0 n0 _ T3.heap _
    exact ⟨b1, rfl, N3, szk_b1, Kp3, Ex_b1, tq, ktq, Fvq, Fcq, Atq⟩
theorem d14_0 : decode jdk_42_method_152_code 0 = .ok (.getstatic 38, 3) := by decide +kernel
theorem d14_3 : decode jdk_42_method_152_code 3 = .ok (.ifCond .eq 10, 3) := by decide +kernel
theorem d14_6 : decode jdk_42_method_152_code 6 = .ok (.aload_n 0, 1) := by decide +kernel
theorem d14_7 : decode jdk_42_method_152_code 7 = .ok (.getfield 15, 3) := by decide +kernel
theorem d14_10 : decode jdk_42_method_152_code 10 = .ok (.goto 4, 3) := by decide +kernel
theorem d14_14 : decode jdk_42_method_152_code 14 = .ok (.ireturn, 1) := by decide +kernel
theorem own_pn14 : plainName "java/lang/String" = true := by first | (simp [plainName, overriddenIn]; done) | decide +kernel
theorem own_ef14 (m : MethodId) (x0 : Addr) : entryFrame m #[(.ref x0)] 1 = mkF m 0 #[.val (.ref x0)] [] := by first | (simp [entryFrame, mkF, argsToLocals, Value.category]; done) | rfl
def QrmCd_W (Z : State)  (h0 : Heap) (n0 : Nat) (v : Option Value) (h : Heap) (L : List Loc) : Prop := v = some (.int 1) ∧ Fr n0 L ∧ h = h0
set_option maxRecDepth 65536 in
set_option maxHeartbeats 40000000 in
theorem rmCd_W (l : Launch) (Z : State) (a0 : Array Value) (hw : ∀ d ∈ tables_1, d.before a0 Z = true) (ws : List Jvm.Cond) (a : Addr) (cs : Int32) (h0 : Heap) (n0 : Nat) (Z0 : n0 ≤ h0.size) (Fc : Fld Z h0 a "java/lang/String" "coder" "B" (.int 1)) (hcs : ¬ (cs = (0 : Int32))) (S_cs : Sta Z h0 "java/lang/String" "COMPACT_STRINGS" "Z" (.int cs)) :
    MetFree l (⟨"java/lang/String", "coder", "()B"⟩ : MethodName) (head1 (Jvm.Cond.code (⟨"java/lang/String", "coder", "()B"⟩ : MethodName) jdk_42_method_152_code 1 (some .byte) :: ws) ({ frames := 0, cells := 0, slots := 0, locals := 0 } : Room)) (fun ar_ U_ => ar_ = #[(.ref a)] ∧ Z.Warmed39 U_.vm ∧ U_.heap = h0) (fun _ _ _ _ _ => True) (fun _ U_ ou_ V_ => ∃ v_ L_, ou_ = .returned v_ ∧ QrmCd_W Z  h0 n0 v_ V_.heap L_ ∧ FrameEnd U_ ou_ V_ L_ ({ frames := 0, cells := 0, slots := 0, locals := 0 } : Room).cells ({ frames := 0, cells := 0, slots := 0, locals := 0 } : Room).slots) := by
  refine MetFree.of_bodySF (plainFor_of_name own_pn14) hisR ?_
  intro p e s m args below meth c s₁ Bd hml0 hP hK
  obtain ⟨rfl, hZ, hh⟩ := hP
  have hx := Bd.exec
  have hby := Bd.bytes
  have hml : c.maxLocals = 1 := hml0
  have hown : s.vm.findClass "java/lang/String" = some m.cls := findClass_of_methodNamed Bd.named
  have hnm := (name_of_methodNamed Bd.named Bd.method).1
  have X0 : Stand p l e ({ frames := 0, cells := 0, slots := 0, locals := 0 } : Room) s m #[(.ref a)] below meth c s₁ [] 0 0 := Stand.of_body Bd
  have e0 : s₁.heap = h0 := by rw [← hh, Bd.state]; rfl
  have N0 := Fr.nil n0
  refine own_go (A := s₁.setTop (mkF m 0 #[.val (.ref a)] [])) (fun _ kz => castTop (own_ef14 m a) kz) ?_
  obtain ⟨T1, X1, e1, st1⟩ := getS2 X0 hx hZ hown (host := "") (Or.inl (own_w hw 19 rfl)) Via.refl e0 S_cs (g := (mkF m 0 #[.val (.ref a)] [])) rfl (hb hby d14_0)
  refine own_go (A := T1.setTop (mkF m 3 #[.val (.ref a)] [(.int cs)])) (fun _ kz => st1 _ kz) ?_
  refine own_go (A := T1.setTop (mkF m 7 #[.val (.ref a)] [(.ref a)])) (fun _ kz => ?_) ?_
  · refine XS.ifNo X1.here hx rfl (hb hby d14_3) rfl ((if0 _ _).trans (feq hcs).1) ?_
    refine XS.aloadN X1.here hx rfl (hb hby d14_6) rfl rfl ?_
    exact kz
  obtain ⟨T2, X2, e2, st2⟩ := getF X1 hx hZ hown (host := "") (Or.inl (own_w hw 31 rfl)) Via.refl e1 Fc (g := (mkF m 7 #[.val (.ref a)] [(.ref a)])) rfl rfl (hb hby d14_7)
  refine own_go (A := T2.setTop (mkF m 10 #[.val (.ref a)] [(.int 1)])) (fun _ kz => st2 _ kz) ?_
  refine own_go (A := T2.setTop (mkF m 14 #[.val (.ref a)] [(.int 1)])) (fun _ kz => ?_) ?_
  · refine XS.goto X2.here hx rfl (pc0 := 10) (pc' := 14) rfl (hb hby d14_10) (by decide) (by decide) ?_
    exact kz
  obtain ⟨fs, hrr, hrun, hended, hW, hsame⟩ := X2.leave (v := some (.int 1)) (fun h => by rw [Bd.returns] at h; cases h)
  refine ⟨_, _, ?_, hrun, hended, _, _, rfl, ?_, ⟨_, rfl⟩, hW, hsame.mono (by decide) (by decide)⟩
  · show Steps p.tables e below (T2.setTop (mkF m 14 #[.val (.ref a)] [(.int 1)])) _
    exact retN X2 hx (t := .byte) Bd.returns (by simp) (hb hby d14_14) hrr
  · show QrmCd_W Z  h0 n0 _ T2.heap _
    rw [e2]
    exact ⟨rfl, N0, rfl⟩
theorem d17_0 : decode jdk_42_method_154_code 0 = .ok (.getstatic 38, 3) := by decide +kernel
theorem d17_3 : decode jdk_42_method_154_code 3 = .ok (.ifCond .eq 14, 3) := by decide +kernel
theorem d17_6 : decode jdk_42_method_154_code 6 = .ok (.aload_n 0, 1) := by decide +kernel
theorem d17_7 : decode jdk_42_method_154_code 7 = .ok (.getfield 15, 3) := by decide +kernel
theorem d17_10 : decode jdk_42_method_154_code 10 = .ok (.ifCond .ne 7, 3) := by decide +kernel
theorem d17_17 : decode jdk_42_method_154_code 17 = .ok (.iconst 0, 1) := by decide +kernel
theorem d17_18 : decode jdk_42_method_154_code 18 = .ok (.ireturn, 1) := by decide +kernel
theorem own_pn17 : plainName "java/lang/String" = true := by first | (simp [plainName, overriddenIn]; done) | decide +kernel
theorem own_ef17 (m : MethodId) (x0 : Addr) : entryFrame m #[(.ref x0)] 1 = mkF m 0 #[.val (.ref x0)] [] := by first | (simp [entryFrame, mkF, argsToLocals, Value.category]; done) | rfl
def QrmIL_W (Z : State)  (h0 : Heap) (n0 : Nat) (v : Option Value) (h : Heap) (L : List Loc) : Prop := v = some (.int 0) ∧ Fr n0 L ∧ h = h0
set_option maxRecDepth 65536 in
set_option maxHeartbeats 40000000 in
theorem rmIL_W (l : Launch) (Z : State) (a0 : Array Value) (hw : ∀ d ∈ tables_1, d.before a0 Z = true) (ws : List Jvm.Cond) (a : Addr) (cs : Int32) (h0 : Heap) (n0 : Nat) (Z0 : n0 ≤ h0.size) (Fc : Fld Z h0 a "java/lang/String" "coder" "B" (.int 1)) (hcs : ¬ (cs = (0 : Int32))) (S_cs : Sta Z h0 "java/lang/String" "COMPACT_STRINGS" "Z" (.int cs)) :
    MetFree l (⟨"java/lang/String", "isLatin1", "()Z"⟩ : MethodName) (head1 (Jvm.Cond.code (⟨"java/lang/String", "isLatin1", "()Z"⟩ : MethodName) jdk_42_method_154_code 1 (some .boolean) :: ws) ({ frames := 0, cells := 0, slots := 0, locals := 0 } : Room)) (fun ar_ U_ => ar_ = #[(.ref a)] ∧ Z.Warmed39 U_.vm ∧ U_.heap = h0) (fun _ _ _ _ _ => True) (fun _ U_ ou_ V_ => ∃ v_ L_, ou_ = .returned v_ ∧ QrmIL_W Z  h0 n0 v_ V_.heap L_ ∧ FrameEnd U_ ou_ V_ L_ ({ frames := 0, cells := 0, slots := 0, locals := 0 } : Room).cells ({ frames := 0, cells := 0, slots := 0, locals := 0 } : Room).slots) := by
  refine MetFree.of_bodySF (plainFor_of_name own_pn17) hisR ?_
  intro p e s m args below meth c s₁ Bd hml0 hP hK
  obtain ⟨rfl, hZ, hh⟩ := hP
  have hx := Bd.exec
  have hby := Bd.bytes
  have hml : c.maxLocals = 1 := hml0
  have hown : s.vm.findClass "java/lang/String" = some m.cls := findClass_of_methodNamed Bd.named
  have hnm := (name_of_methodNamed Bd.named Bd.method).1
  have X0 : Stand p l e ({ frames := 0, cells := 0, slots := 0, locals := 0 } : Room) s m #[(.ref a)] below meth c s₁ [] 0 0 := Stand.of_body Bd
  have e0 : s₁.heap = h0 := by rw [← hh, Bd.state]; rfl
  have N0 := Fr.nil n0
  refine own_go (A := s₁.setTop (mkF m 0 #[.val (.ref a)] [])) (fun _ kz => castTop (own_ef17 m a) kz) ?_
  obtain ⟨T1, X1, e1, st1⟩ := getS2 X0 hx hZ hown (host := "") (Or.inl (own_w hw 19 rfl)) Via.refl e0 S_cs (g := (mkF m 0 #[.val (.ref a)] [])) rfl (hb hby d17_0)
  refine own_go (A := T1.setTop (mkF m 3 #[.val (.ref a)] [(.int cs)])) (fun _ kz => st1 _ kz) ?_
  refine own_go (A := T1.setTop (mkF m 7 #[.val (.ref a)] [(.ref a)])) (fun _ kz => ?_) ?_
  · refine XS.ifNo X1.here hx rfl (hb hby d17_3) rfl ((if0 _ _).trans (feq hcs).1) ?_
    refine XS.aloadN X1.here hx rfl (hb hby d17_6) rfl rfl ?_
    exact kz
  obtain ⟨T2, X2, e2, st2⟩ := getF X1 hx hZ hown (host := "") (Or.inl (own_w hw 31 rfl)) Via.refl e1 Fc (g := (mkF m 7 #[.val (.ref a)] [(.ref a)])) rfl rfl (hb hby d17_7)
  refine own_go (A := T2.setTop (mkF m 10 #[.val (.ref a)] [(.int 1)])) (fun _ kz => st2 _ kz) ?_
  refine own_go (A := T2.setTop (mkF m 18 #[.val (.ref a)] [(.int 0)])) (fun _ kz => ?_) ?_
  · refine XS.ifYes X2.here hx rfl (pc0 := 10) (pc' := 17) rfl (hb hby d17_10) rfl ((if0 _ _).trans (feq (by decide : ¬ ((1 : Int32) = (0 : Int32)))).2) (by decide) (by decide) ?_
    refine XS.iconst X2.here hx rfl (hb hby d17_17) ?_
    exact kz
  obtain ⟨fs, hrr, hrun, hended, hW, hsame⟩ := X2.leave (v := some (.int 0)) (fun h => by rw [Bd.returns] at h; cases h)
  refine ⟨_, _, ?_, hrun, hended, _, _, rfl, ?_, ⟨_, rfl⟩, hW, hsame.mono (by decide) (by decide)⟩
  · show Steps p.tables e below (T2.setTop (mkF m 18 #[.val (.ref a)] [(.int 0)])) _
    exact retN X2 hx (t := .boolean) Bd.returns (by simp) (hb hby d17_18) hrr
  · show QrmIL_W Z  h0 n0 _ T2.heap _
    rw [e2]
    exact ⟨rfl, N0, rfl⟩
def QrmCd_L (Z : State)  (h0 : Heap) (n0 : Nat) (v : Option Value) (h : Heap) (L : List Loc) : Prop := v = some (.int 0) ∧ Fr n0 L ∧ h = h0
set_option maxRecDepth 65536 in
set_option maxHeartbeats 40000000 in
theorem rmCd_L (l : Launch) (Z : State) (a0 : Array Value) (hw : ∀ d ∈ tables_1, d.before a0 Z = true) (ws : List Jvm.Cond) (a : Addr) (cs : Int32) (h0 : Heap) (n0 : Nat) (Z0 : n0 ≤ h0.size) (Fc : Fld Z h0 a "java/lang/String" "coder" "B" (.int 0)) (hcs : ¬ (cs = (0 : Int32))) (S_cs : Sta Z h0 "java/lang/String" "COMPACT_STRINGS" "Z" (.int cs)) :
    MetFree l (⟨"java/lang/String", "coder", "()B"⟩ : MethodName) (head1 (Jvm.Cond.code (⟨"java/lang/String", "coder", "()B"⟩ : MethodName) jdk_42_method_152_code 1 (some .byte) :: ws) ({ frames := 0, cells := 0, slots := 0, locals := 0 } : Room)) (fun ar_ U_ => ar_ = #[(.ref a)] ∧ Z.Warmed39 U_.vm ∧ U_.heap = h0) (fun _ _ _ _ _ => True) (fun _ U_ ou_ V_ => ∃ v_ L_, ou_ = .returned v_ ∧ QrmCd_L Z  h0 n0 v_ V_.heap L_ ∧ FrameEnd U_ ou_ V_ L_ ({ frames := 0, cells := 0, slots := 0, locals := 0 } : Room).cells ({ frames := 0, cells := 0, slots := 0, locals := 0 } : Room).slots) := by
  refine MetFree.of_bodySF (plainFor_of_name own_pn14) hisR ?_
  intro p e s m args below meth c s₁ Bd hml0 hP hK
  obtain ⟨rfl, hZ, hh⟩ := hP
  have hx := Bd.exec
  have hby := Bd.bytes
  have hml : c.maxLocals = 1 := hml0
  have hown : s.vm.findClass "java/lang/String" = some m.cls := findClass_of_methodNamed Bd.named
  have hnm := (name_of_methodNamed Bd.named Bd.method).1
  have X0 : Stand p l e ({ frames := 0, cells := 0, slots := 0, locals := 0 } : Room) s m #[(.ref a)] below meth c s₁ [] 0 0 := Stand.of_body Bd
  have e0 : s₁.heap = h0 := by rw [← hh, Bd.state]; rfl
  have N0 := Fr.nil n0
  refine own_go (A := s₁.setTop (mkF m 0 #[.val (.ref a)] [])) (fun _ kz => castTop (own_ef14 m a) kz) ?_
  obtain ⟨T1, X1, e1, st1⟩ := getS2 X0 hx hZ hown (host := "") (Or.inl (own_w hw 19 rfl)) Via.refl e0 S_cs (g := (mkF m 0 #[.val (.ref a)] [])) rfl (hb hby d14_0)
  refine own_go (A := T1.setTop (mkF m 3 #[.val (.ref a)] [(.int cs)])) (fun _ kz => st1 _ kz) ?_
  refine own_go (A := T1.setTop (mkF m 7 #[.val (.ref a)] [(.ref a)])) (fun _ kz => ?_) ?_
  · refine XS.ifNo X1.here hx rfl (hb hby d14_3) rfl ((if0 _ _).trans (feq hcs).1) ?_
    refine XS.aloadN X1.here hx rfl (hb hby d14_6) rfl rfl ?_
    exact kz
  obtain ⟨T2, X2, e2, st2⟩ := getF X1 hx hZ hown (host := "") (Or.inl (own_w hw 31 rfl)) Via.refl e1 Fc (g := (mkF m 7 #[.val (.ref a)] [(.ref a)])) rfl rfl (hb hby d14_7)
  refine own_go (A := T2.setTop (mkF m 10 #[.val (.ref a)] [(.int 0)])) (fun _ kz => st2 _ kz) ?_
  refine own_go (A := T2.setTop (mkF m 14 #[.val (.ref a)] [(.int 0)])) (fun _ kz => ?_) ?_
  · refine XS.goto X2.here hx rfl (pc0 := 10) (pc' := 14) rfl (hb hby d14_10) (by decide) (by decide) ?_
    exact kz
  obtain ⟨fs, hrr, hrun, hended, hW, hsame⟩ := X2.leave (v := some (.int 0)) (fun h => by rw [Bd.returns] at h; cases h)
  refine ⟨_, _, ?_, hrun, hended, _, _, rfl, ?_, ⟨_, rfl⟩, hW, hsame.mono (by decide) (by decide)⟩
  · show Steps p.tables e below (T2.setTop (mkF m 14 #[.val (.ref a)] [(.int 0)])) _
    exact retN X2 hx (t := .byte) Bd.returns (by simp) (hb hby d14_14) hrr
  · show QrmCd_L Z  h0 n0 _ T2.heap _
    rw [e2]
    exact ⟨rfl, N0, rfl⟩
theorem d17_13 : decode jdk_42_method_154_code 13 = .ok (.iconst 1, 1) := by decide +kernel
theorem d17_14 : decode jdk_42_method_154_code 14 = .ok (.goto 4, 3) := by decide +kernel
def QrmIL_L (Z : State)  (h0 : Heap) (n0 : Nat) (v : Option Value) (h : Heap) (L : List Loc) : Prop := v = some (.int 1) ∧ Fr n0 L ∧ h = h0
set_option maxRecDepth 65536 in
set_option maxHeartbeats 40000000 in
theorem rmIL_L (l : Launch) (Z : State) (a0 : Array Value) (hw : ∀ d ∈ tables_1, d.before a0 Z = true) (ws : List Jvm.Cond) (a : Addr) (cs : Int32) (h0 : Heap) (n0 : Nat) (Z0 : n0 ≤ h0.size) (Fc : Fld Z h0 a "java/lang/String" "coder" "B" (.int 0)) (hcs : ¬ (cs = (0 : Int32))) (S_cs : Sta Z h0 "java/lang/String" "COMPACT_STRINGS" "Z" (.int cs)) :
    MetFree l (⟨"java/lang/String", "isLatin1", "()Z"⟩ : MethodName) (head1 (Jvm.Cond.code (⟨"java/lang/String", "isLatin1", "()Z"⟩ : MethodName) jdk_42_method_154_code 1 (some .boolean) :: ws) ({ frames := 0, cells := 0, slots := 0, locals := 0 } : Room)) (fun ar_ U_ => ar_ = #[(.ref a)] ∧ Z.Warmed39 U_.vm ∧ U_.heap = h0) (fun _ _ _ _ _ => True) (fun _ U_ ou_ V_ => ∃ v_ L_, ou_ = .returned v_ ∧ QrmIL_L Z  h0 n0 v_ V_.heap L_ ∧ FrameEnd U_ ou_ V_ L_ ({ frames := 0, cells := 0, slots := 0, locals := 0 } : Room).cells ({ frames := 0, cells := 0, slots := 0, locals := 0 } : Room).slots) := by
  refine MetFree.of_bodySF (plainFor_of_name own_pn17) hisR ?_
  intro p e s m args below meth c s₁ Bd hml0 hP hK
  obtain ⟨rfl, hZ, hh⟩ := hP
  have hx := Bd.exec
  have hby := Bd.bytes
  have hml : c.maxLocals = 1 := hml0
  have hown : s.vm.findClass "java/lang/String" = some m.cls := findClass_of_methodNamed Bd.named
  have hnm := (name_of_methodNamed Bd.named Bd.method).1
  have X0 : Stand p l e ({ frames := 0, cells := 0, slots := 0, locals := 0 } : Room) s m #[(.ref a)] below meth c s₁ [] 0 0 := Stand.of_body Bd
  have e0 : s₁.heap = h0 := by rw [← hh, Bd.state]; rfl
  have N0 := Fr.nil n0
  refine own_go (A := s₁.setTop (mkF m 0 #[.val (.ref a)] [])) (fun _ kz => castTop (own_ef17 m a) kz) ?_
  obtain ⟨T1, X1, e1, st1⟩ := getS2 X0 hx hZ hown (host := "") (Or.inl (own_w hw 19 rfl)) Via.refl e0 S_cs (g := (mkF m 0 #[.val (.ref a)] [])) rfl (hb hby d17_0)
  refine own_go (A := T1.setTop (mkF m 3 #[.val (.ref a)] [(.int cs)])) (fun _ kz => st1 _ kz) ?_
  refine own_go (A := T1.setTop (mkF m 7 #[.val (.ref a)] [(.ref a)])) (fun _ kz => ?_) ?_
  · refine XS.ifNo X1.here hx rfl (hb hby d17_3) rfl ((if0 _ _).trans (feq hcs).1) ?_
    refine XS.aloadN X1.here hx rfl (hb hby d17_6) rfl rfl ?_
    exact kz
  obtain ⟨T2, X2, e2, st2⟩ := getF X1 hx hZ hown (host := "") (Or.inl (own_w hw 31 rfl)) Via.refl e1 Fc (g := (mkF m 7 #[.val (.ref a)] [(.ref a)])) rfl rfl (hb hby d17_7)
  refine own_go (A := T2.setTop (mkF m 10 #[.val (.ref a)] [(.int 0)])) (fun _ kz => st2 _ kz) ?_
  refine own_go (A := T2.setTop (mkF m 18 #[.val (.ref a)] [(.int 1)])) (fun _ kz => ?_) ?_
  · refine XS.ifNo X2.here hx rfl (hb hby d17_10) rfl ((if0 _ _).trans (teq (by decide : ((0 : Int32) = (0 : Int32)))).2) ?_
    refine XS.iconst X2.here hx rfl (hb hby d17_13) ?_
    refine XS.goto X2.here hx rfl (pc0 := 14) (pc' := 18) rfl (hb hby d17_14) (by decide) (by decide) ?_
    exact kz
  obtain ⟨fs, hrr, hrun, hended, hW, hsame⟩ := X2.leave (v := some (.int 1)) (fun h => by rw [Bd.returns] at h; cases h)
  refine ⟨_, _, ?_, hrun, hended, _, _, rfl, ?_, ⟨_, rfl⟩, hW, hsame.mono (by decide) (by decide)⟩
  · show Steps p.tables e below (T2.setTop (mkF m 18 #[.val (.ref a)] [(.int 1)])) _
    exact retN X2 hx (t := .boolean) Bd.returns (by simp) (hb hby d17_18) hrr
  · show QrmIL_L Z  h0 n0 _ T2.heap _
    rw [e2]
    exact ⟨rfl, N0, rfl⟩
theorem d20_0 : decode jdk_41_method_11_code 0 = .ok (.iload_n 0, 1) := by decide +kernel
theorem d20_1 : decode jdk_41_method_11_code 1 = .ok (.ifCond .lt 8, 3) := by decide +kernel
theorem d20_4 : decode jdk_41_method_11_code 4 = .ok (.iload_n 0, 1) := by decide +kernel
theorem d20_5 : decode jdk_41_method_11_code 5 = .ok (.iload_n 1, 1) := by decide +kernel
theorem d20_6 : decode jdk_41_method_11_code 6 = .ok (.if_icmp .lt 10, 3) := by decide +kernel
theorem d20_16 : decode jdk_41_method_11_code 16 = .ok (.iload_n 0, 1) := by decide +kernel
theorem d20_17 : decode jdk_41_method_11_code 17 = .ok (.ireturn, 1) := by decide +kernel
theorem own_pn20 : plainName "jdk/internal/util/Preconditions" = true := by first | (simp [plainName, overriddenIn]; done) | decide +kernel
theorem own_ef20 (m : MethodId) (x0 : Int32) (x1 : Int32) (x2 : Value) (y2 : x2.isRef = true) : entryFrame m #[(.int x0), (.int x1), x2] 3 = mkF m 0 #[.val (.int x0), .val (.int x1), .val x2] [] := by first | (cases x2 <;> first | rfl | cases y2) | (simp [entryFrame, mkF, argsToLocals, Value.category]; done) | rfl
def QrmPK (Z : State) (ix : Int32) (h0 : Heap) (n0 : Nat) (v : Option Value) (h : Heap) (L : List Loc) : Prop := v = some (.int ix) ∧ Fr n0 L ∧ h = h0
set_option maxRecDepth 65536 in
set_option maxHeartbeats 40000000 in
theorem rmPK (l : Launch) (Z : State) (a0 : Array Value) (hw : ∀ d ∈ tables_1, d.before a0 Z = true) (ws : List Jvm.Cond) (ix nx : Int32) (fm : Value) (h0 : Heap) (n0 : Nat) (Z0 : n0 ≤ h0.size) (hi0 : ¬ ix < (0 : Int32)) (hi1 : ix < nx) (rfm : fm.isRef = true) :
    MetFree l (⟨"jdk/internal/util/Preconditions", "checkIndex", "(IILjava/util/function/BiFunction;)I"⟩ : MethodName) (head1 (Jvm.Cond.code (⟨"jdk/internal/util/Preconditions", "checkIndex", "(IILjava/util/function/BiFunction;)I"⟩ : MethodName) jdk_41_method_11_code 3 (some .int) :: ws) ({ frames := 0, cells := 0, slots := 0, locals := 0 } : Room)) (fun ar_ U_ => ar_ = #[(.int ix), (.int nx), fm] ∧ Z.Warmed39 U_.vm ∧ U_.heap = h0) (fun _ _ _ _ _ => True) (fun _ U_ ou_ V_ => ∃ v_ L_, ou_ = .returned v_ ∧ QrmPK Z ix h0 n0 v_ V_.heap L_ ∧ FrameEnd U_ ou_ V_ L_ ({ frames := 0, cells := 0, slots := 0, locals := 0 } : Room).cells ({ frames := 0, cells := 0, slots := 0, locals := 0 } : Room).slots) := by
  refine MetFree.of_bodySF (plainFor_of_name own_pn20) hisR ?_
  intro p e s m args below meth c s₁ Bd hml0 hP hK
  obtain ⟨rfl, hZ, hh⟩ := hP
  have hx := Bd.exec
  have hby := Bd.bytes
  have hml : c.maxLocals = 3 := hml0
  have hown : s.vm.findClass "jdk/internal/util/Preconditions" = some m.cls := findClass_of_methodNamed Bd.named
  have hnm := (name_of_methodNamed Bd.named Bd.method).1
  have X0 : Stand p l e ({ frames := 0, cells := 0, slots := 0, locals := 0 } : Room) s m #[(.int ix), (.int nx), fm] below meth c s₁ [] 0 0 := Stand.of_body Bd
  have e0 : s₁.heap = h0 := by rw [← hh, Bd.state]; rfl
  have N0 := Fr.nil n0
  refine own_go (A := s₁.setTop (mkF m 0 #[.val (.int ix), .val (.int nx), .val fm] [])) (fun _ kz => castTop (own_ef20 m ix nx fm rfm) kz) ?_
  refine own_go (A := s₁.setTop (mkF m 17 #[.val (.int ix), .val (.int nx), .val fm] [(.int ix)])) (fun _ kz => ?_) ?_
  · refine XS.iloadN X0.here hx rfl (hb hby d20_0) rfl ?_
    refine XS.ifNo X0.here hx rfl (hb hby d20_1) rfl ((if0 _ _).trans (flt hi0).1) ?_
    refine XS.iloadN X0.here hx rfl (hb hby d20_4) rfl ?_
    refine XS.iloadN X0.here hx rfl (hb hby d20_5) rfl ?_
    refine XS.icmpYes X0.here hx rfl (pc0 := 6) (pc' := 16) rfl (hb hby d20_6) rfl (tlt hi1).1 (by decide) (by decide) ?_
    refine XS.iloadN X0.here hx rfl (hb hby d20_16) rfl ?_
    exact kz
  obtain ⟨fs, hrr, hrun, hended, hW, hsame⟩ := X0.leave (v := some (.int ix)) (fun h => by rw [Bd.returns] at h; cases h)
  refine ⟨_, _, ?_, hrun, hended, _, _, rfl, ?_, ⟨_, rfl⟩, hW, hsame.mono (by decide) (by decide)⟩
  · show Steps p.tables e below (s₁.setTop (mkF m 17 #[.val (.int ix), .val (.int nx), .val fm] [(.int ix)])) _
    exact retI X0 hx Bd.returns (hb hby d20_17) hrr
  · show QrmPK Z ix h0 n0 _ s₁.heap _
    rw [e0]
    exact ⟨rfl, N0, rfl⟩
theorem d19_0 : decode jdk_42_method_155_code 0 = .ok (.iload_n 0, 1) := by decide +kernel
theorem d19_1 : decode jdk_42_method_155_code 1 = .ok (.iload_n 1, 1) := by decide +kernel
theorem d19_2 : decode jdk_42_method_155_code 2 = .ok (.getstatic 1053, 3) := by decide +kernel
theorem d19_5 : decode jdk_42_method_155_code 5 = .ok (.invokestatic 1059, 3) := by decide +kernel
theorem d19_8 : decode jdk_42_method_155_code 8 = .ok (.pop, 1) := by decide +kernel
theorem d19_9 : decode jdk_42_method_155_code 9 = .ok (.return_, 1) := by decide +kernel
theorem own_pn19 : plainName "java/lang/String" = true := by first | (simp [plainName, overriddenIn]; done) | decide +kernel
theorem own_ef19 (m : MethodId) (x0 : Int32) (x1 : Int32) : entryFrame m #[(.int x0), (.int x1)] 2 = mkF m 0 #[.val (.int x0), .val (.int x1)] [] := by first | (simp [entryFrame, mkF, argsToLocals, Value.category]; done) | rfl
def QrmSK (Z : State)  (h0 : Heap) (n0 : Nat) (v : Option Value) (h : Heap) (L : List Loc) : Prop := v = none ∧ Fr n0 L ∧ h = h0
set_option maxRecDepth 65536 in
set_option maxHeartbeats 40000000 in
theorem rmSK (l : Launch) (Z : State) (a0 : Array Value) (hw : ∀ d ∈ tables_1, d.before a0 Z = true) (ws : List Jvm.Cond) (ix nx : Int32) (fm : Value) (h0 : Heap) (n0 : Nat) (Z0 : n0 ≤ h0.size) (hi0 : ¬ ix < (0 : Int32)) (hi1 : ix < nx) (S_fm : Sta Z h0 "jdk/internal/util/Preconditions" "SIOOBE_FORMATTER" "Ljava/util/function/BiFunction;" fm) (rfm : fm.isRef = true) :
    MetFree l (⟨"java/lang/String", "checkIndex", "(II)V"⟩ : MethodName) (head1 (Jvm.Cond.code (⟨"java/lang/String", "checkIndex", "(II)V"⟩ : MethodName) jdk_42_method_155_code 2 none :: ws) ({ frames := 1, cells := 0, slots := 0, locals := 14 } : Room)) (fun ar_ U_ => ar_ = #[(.int ix), (.int nx)] ∧ Z.Warmed39 U_.vm ∧ U_.heap = h0) (fun _ _ _ _ _ => True) (fun _ U_ ou_ V_ => ∃ v_ L_, ou_ = .returned v_ ∧ QrmSK Z  h0 n0 v_ V_.heap L_ ∧ FrameEnd U_ ou_ V_ L_ ({ frames := 1, cells := 0, slots := 0, locals := 14 } : Room).cells ({ frames := 1, cells := 0, slots := 0, locals := 14 } : Room).slots) := by
  refine MetFree.of_bodySF (plainFor_of_name own_pn19) hisR ?_
  intro p e s m args below meth c s₁ Bd hml0 hP hK
  obtain ⟨rfl, hZ, hh⟩ := hP
  have hx := Bd.exec
  have hby := Bd.bytes
  have hml : c.maxLocals = 2 := hml0
  have hown : s.vm.findClass "java/lang/String" = some m.cls := findClass_of_methodNamed Bd.named
  have hnm := (name_of_methodNamed Bd.named Bd.method).1
  have X0 : Stand p l e ({ frames := 1, cells := 0, slots := 0, locals := 14 } : Room) s m #[(.int ix), (.int nx)] below meth c s₁ [] 0 0 := Stand.of_body Bd
  have e0 : s₁.heap = h0 := by rw [← hh, Bd.state]; rfl
  have N0 := Fr.nil n0
  refine own_go (A := s₁.setTop (mkF m 0 #[.val (.int ix), .val (.int nx)] [])) (fun _ kz => castTop (own_ef19 m ix nx) kz) ?_
  refine own_go (A := s₁.setTop (mkF m 2 #[.val (.int ix), .val (.int nx)] [(.int nx), (.int ix)])) (fun _ kz => ?_) ?_
  · refine XS.iloadN X0.here hx rfl (hb hby d19_0) rfl ?_
    refine XS.iloadN X0.here hx rfl (hb hby d19_1) rfl ?_
    exact kz
  obtain ⟨T1, X1, e1, st1⟩ := getS2 X0 hx hZ hown (host := "") (Or.inl (own_w hw 105 rfl)) Via.refl e0 S_fm (g := (mkF m 2 #[.val (.int ix), .val (.int nx)] [(.int nx), (.int ix)])) rfl (hb hby d19_2)
  refine own_go (A := T1.setTop (mkF m 5 #[.val (.int ix), .val (.int nx)] [fm, (.int nx), (.int ix)])) (fun _ kz => st1 _ kz) ?_
  obtain ⟨_, _, ⟨T2, L2, k2, n2⟩, -, X2, ⟨Lc2, hQ2, l2, y2, z2⟩, st2⟩ := Jvm.LawKit.callS X1 hx (y := (⟨"jdk/internal/util/Preconditions", "checkIndex", "(IILjava/util/function/BiFunction;)I"⟩ : MethodName)) hown (mvT hZ (own_w hw 107 rfl)) (mvT hZ (own_w hw 108 rfl)) (mvT hZ (own_w hw 106 rfl)) (mvT hZ (own_w hw 109 rfl)) (by decide) (backOf (W := 0) (rmPK l Z a0 hw [] ix nx fm h0 n0 Z0 hi0 hi1 rfm) hZ (own_w hw 109 rfl) (own_w hw 106 rfl) (by decide) (by decide)) (g := (mkF m 5 #[.val (.int ix), .val (.int nx)] [fm, (.int nx), (.int ix)])) rfl (by rw [hml]; rfl) (argsL := [(.int ix), (.int nx), fm]) (rest := []) (lenOf own_pd9 rfl) rfl (by show 2 * 0 + _ ≤ _; exact Nat.le_of_eq rfl) (hb hby d19_5) (fun _ _ => ⟨rfl, e1, (by decide : 0 + 0 ≤ _), (by decide : 0 + 0 ≤ _)⟩)
  dsimp only [Pt.U, Pt.locs, Pt.cells, Pt.slots] at X2 l2 y2 z2 st2 hQ2
  subst l2 y2 z2
  obtain ⟨rfl, N2q, e2⟩ := hQ2
  have N2 := Fr.app N0 N2q
  refine own_go (A := T2.setTop (mkF m 8 #[.val (.int ix), .val (.int nx)] [(.int ix)])) (fun _ kz => st2 _ kz) ?_
  refine own_go (A := T2.setTop (mkF m 9 #[.val (.int ix), .val (.int nx)] [])) (fun _ kz => ?_) ?_
  · refine XS.pop X2.here hx rfl (hb hby d19_8) rfl rfl ?_
    exact kz
  obtain ⟨fs, hrr, hrun, hended, hW, hsame⟩ := X2.leave (v := none) (fun _ => rfl)
  refine ⟨_, _, ?_, hrun, hended, _, _, rfl, ?_, ⟨_, rfl⟩, hW, hsame.mono (by decide) (by decide)⟩
  · show Steps p.tables e below (T2.setTop (mkF m 9 #[.val (.int ix), .val (.int nx)] [])) _
    exact X2.returnOut hx Bd.returns (hb hby d19_9) hrr
  · show QrmSK Z  h0 n0 _ T2.heap _
    rw [e2]
    exact ⟨rfl, N2, rfl⟩
theorem d13_0 : decode jdk_42_method_54_code 0 = .ok (.aload_n 0, 1) := by decide +kernel
theorem d13_1 : decode jdk_42_method_54_code 1 = .ok (.getfield 9, 3) := by decide +kernel
theorem d13_4 : decode jdk_42_method_54_code 4 = .ok (.arraylength, 1) := by decide +kernel
theorem d13_5 : decode jdk_42_method_54_code 5 = .ok (.aload_n 0, 1) := by decide +kernel
theorem d13_6 : decode jdk_42_method_54_code 6 = .ok (.invokevirtual 335, 3) := by decide +kernel
theorem d13_9 : decode jdk_42_method_54_code 9 = .ok (.ishr, 1) := by decide +kernel
theorem d13_10 : decode jdk_42_method_54_code 10 = .ok (.ireturn, 1) := by decide +kernel
theorem own_pn13 : plainName "java/lang/String" = true := by first | (simp [plainName, overriddenIn]; done) | decide +kernel
theorem own_ef13 (m : MethodId) (x0 : Addr) : entryFrame m #[(.ref x0)] 1 = mkF m 0 #[.val (.ref x0)] [] := by first | (simp [entryFrame, mkF, argsToLocals, Value.category]; done) | rfl
def QrmLn_0 (Z : State)  (h0 : Heap) (n0 : Nat) (v : Option Value) (h : Heap) (L : List Loc) : Prop := v = some (.int 0) ∧ Fr n0 L ∧ h = h0
set_option maxRecDepth 65536 in
set_option maxHeartbeats 40000000 in
theorem rmLn_0 (l : Launch) (Z : State) (a0 : Array Value) (hw : ∀ d ∈ tables_1, d.before a0 Z = true) (ws : List Jvm.Cond) (a : Addr) (cs : Int32) (h0 : Heap) (n0 : Nat) (Z0 : n0 ≤ h0.size) (Ex : Exa Z h0 a "java/lang/String") (St : own_Str0 Z h0 a ) (hcs : ¬ (cs = (0 : Int32))) (S_cs : Sta Z h0 "java/lang/String" "COMPACT_STRINGS" "Z" (.int cs)) :
    MetFree l (⟨"java/lang/String", "length", "()I"⟩ : MethodName) (head1 (Jvm.Cond.code (⟨"java/lang/String", "length", "()I"⟩ : MethodName) jdk_42_method_54_code 1 (some .int) :: ws) ({ frames := 1, cells := 0, slots := 0, locals := 13 } : Room)) (fun ar_ U_ => ar_ = #[(.ref a)] ∧ Z.Warmed39 U_.vm ∧ U_.heap = h0) (fun _ _ _ _ _ => True) (fun _ U_ ou_ V_ => ∃ v_ L_, ou_ = .returned v_ ∧ QrmLn_0 Z  h0 n0 v_ V_.heap L_ ∧ FrameEnd U_ ou_ V_ L_ ({ frames := 1, cells := 0, slots := 0, locals := 13 } : Room).cells ({ frames := 1, cells := 0, slots := 0, locals := 13 } : Room).slots) := by
  refine MetFree.of_bodySF (plainFor_of_name own_pn13) hisR ?_
  intro p e s m args below meth c s₁ Bd hml0 hP hK
  obtain ⟨rfl, hZ, hh⟩ := hP
  have hx := Bd.exec
  have hby := Bd.bytes
  have hml : c.maxLocals = 1 := hml0
  have hown : s.vm.findClass "java/lang/String" = some m.cls := findClass_of_methodNamed Bd.named
  have hnm := (name_of_methodNamed Bd.named Bd.method).1
  have X0 : Stand p l e ({ frames := 1, cells := 0, slots := 0, locals := 13 } : Room) s m #[(.ref a)] below meth c s₁ [] 0 0 := Stand.of_body Bd
  have e0 : s₁.heap = h0 := by rw [← hh, Bd.state]; rfl
  have N0 := Fr.nil n0
  refine own_go (A := s₁.setTop (mkF m 0 #[.val (.ref a)] [])) (fun _ kz => castTop (own_ef13 m a) kz) ?_
  obtain ⟨t, kt, Fv, Fc, At⟩ := St
  · skip
    refine own_go (A := s₁.setTop (mkF m 1 #[.val (.ref a)] [(.ref a)])) (fun _ kz => ?_) ?_
    · refine XS.aloadN X0.here hx rfl (hb hby d13_0) rfl rfl ?_
      exact kz
    obtain ⟨T1, X1, e1, st1⟩ := getF X0 hx hZ hown (host := "") (Or.inl (own_w hw 33 rfl)) Via.refl e0 Fv (g := (mkF m 1 #[.val (.ref a)] [(.ref a)])) rfl rfl (hb hby d13_1)
    refine own_go (A := T1.setTop (mkF m 4 #[.val (.ref a)] [(.ref t)])) (fun _ kz => st1 _ kz) ?_
    obtain ⟨cl2, Ar2, -, S2, M2, -, -⟩ := id At
    refine own_go (A := T1.setTop (mkF m 5 #[.val (.ref a)] [(.int 0)])) (fun _ kz => ?_) ?_
    · refine X1.arraylength hx (by rw [e1]; exact Ar2.1) (State.isArrayOf_alike hZ.alike Ar2.2.1) (g := (mkF m 4 #[.val (.ref a)] [(.ref t)])) rfl rfl (hb hby d13_4) _ ?_
      rw [len_of S2 M2]
      exact kz
    refine own_go (A := T1.setTop (mkF m 6 #[.val (.ref a)] [(.ref a), (.int 0)])) (fun _ kz => ?_) ?_
    · refine XS.aloadN X1.here hx rfl (hb hby d13_5) rfl rfl ?_
      exact kz
    obtain ⟨cq3, kq3, q3a, q3b, q3c⟩ := isOf hZ e1 Ex
    obtain ⟨_, _, ⟨T3, L3, k3, n3⟩, -, X3, ⟨Lc3, hQ3, l3, y3, z3⟩, st3⟩ := X1.virtualBack hx (y := (⟨"java/lang/String", "coder", "()B"⟩ : MethodName)) (z := (⟨"java/lang/String", "coder", "()B"⟩ : MethodName)) hown (mvT hZ (own_w hw 78 rfl)) (mvT hZ (own_w hw 79 rfl)) (notFace_of_selects (args := #[]) (mvT hZ (own_w hw 81 rfl))) (mvT hZ (own_w hw 81 rfl)) (mvT hZ (own_w hw 80 rfl)) (by decide) (backOf (W := 1) (rmCd_L l Z a0 hw [] a cs h0 n0 Z0 Fc hcs S_cs) hZ (own_w hw 82 rfl) (own_w hw 7 rfl) (by decide) (by decide)) q3a q3c (g := (mkF m 6 #[.val (.ref a)] [(.ref a), (.int 0)])) rfl (by rw [hml]; rfl) (Steps.refl _) (argsL := []) (rest := [(.int 0)]) (lenOf own_pd10 rfl) rfl (by show 2 * 0 + _ ≤ _; exact Nat.le_of_eq rfl) (hb hby d13_6) (fun _ _ => ⟨rfl, e1, (by decide : 0 + 0 ≤ _), (by decide : 0 + 0 ≤ _)⟩)
    dsimp only [Pt.U, Pt.locs, Pt.cells, Pt.slots] at X3 l3 y3 z3 st3 hQ3
    subst l3 y3 z3
    obtain ⟨rfl, N3q, e3⟩ := hQ3
    have N3 := Fr.app N0 N3q
    refine own_go (A := T3.setTop (mkF m 9 #[.val (.ref a)] [(.int 0), (.int 0)])) (fun _ kz => st3.trans kz) ?_
    refine own_go (A := T3.setTop (mkF m 10 #[.val (.ref a)] [(.int 0)])) (fun _ kz => ?_) ?_
    · refine XS.ishr X3.here hx rfl (hb hby d13_9) rfl ?_
      exact kz
    obtain ⟨fs, hrr, hrun, hended, hW, hsame⟩ := X3.leave (v := some (.int 0)) (fun h => by rw [Bd.returns] at h; cases h)
    refine ⟨_, _, ?_, hrun, hended, _, _, rfl, ?_, ⟨_, rfl⟩, hW, hsame.mono (by decide) (by decide)⟩
    · show Steps p.tables e below (T3.setTop (mkF m 10 #[.val (.ref a)] [(.int 0)])) _
      exact retI X3 hx Bd.returns (hb hby d13_10) hrr
    · show QrmLn_0 Z  h0 n0 _ T3.heap _
      rw [e3]
      exact ⟨rfl, N3, rfl⟩
def QrmLn_1 (Z : State)  (h0 : Heap) (n0 : Nat) (v : Option Value) (h : Heap) (L : List Loc) : Prop := v = some (.int 1) ∧ Fr n0 L ∧ h = h0
set_option maxRecDepth 65536 in
set_option maxHeartbeats 40000000 in
theorem rmLn_1 (l : Launch) (Z : State) (a0 : Array Value) (hw : ∀ d ∈ tables_1, d.before a0 Z = true) (ws : List Jvm.Cond) (a : Addr) (ch0 cs : Int32) (h0 : Heap) (n0 : Nat) (Z0 : n0 ≤ h0.size) (Ex : Exa Z h0 a "java/lang/String") (St : own_Str1 Z h0 a ch0) (hcs : ¬ (cs = (0 : Int32))) (S_cs : Sta Z h0 "java/lang/String" "COMPACT_STRINGS" "Z" (.int cs)) :
    MetFree l (⟨"java/lang/String", "length", "()I"⟩ : MethodName) (head1 (Jvm.Cond.code (⟨"java/lang/String", "length", "()I"⟩ : MethodName) jdk_42_method_54_code 1 (some .int) :: ws) ({ frames := 1, cells := 0, slots := 0, locals := 13 } : Room)) (fun ar_ U_ => ar_ = #[(.ref a)] ∧ Z.Warmed39 U_.vm ∧ U_.heap = h0) (fun _ _ _ _ _ => True) (fun _ U_ ou_ V_ => ∃ v_ L_, ou_ = .returned v_ ∧ QrmLn_1 Z  h0 n0 v_ V_.heap L_ ∧ FrameEnd U_ ou_ V_ L_ ({ frames := 1, cells := 0, slots := 0, locals := 13 } : Room).cells ({ frames := 1, cells := 0, slots := 0, locals := 13 } : Room).slots) := by
  refine MetFree.of_bodySF (plainFor_of_name own_pn13) hisR ?_
  intro p e s m args below meth c s₁ Bd hml0 hP hK
  obtain ⟨rfl, hZ, hh⟩ := hP
  have hx := Bd.exec
  have hby := Bd.bytes
  have hml : c.maxLocals = 1 := hml0
  have hown : s.vm.findClass "java/lang/String" = some m.cls := findClass_of_methodNamed Bd.named
  have hnm := (name_of_methodNamed Bd.named Bd.method).1
  have X0 : Stand p l e ({ frames := 1, cells := 0, slots := 0, locals := 13 } : Room) s m #[(.ref a)] below meth c s₁ [] 0 0 := Stand.of_body Bd
  have e0 : s₁.heap = h0 := by rw [← hh, Bd.state]; rfl
  have N0 := Fr.nil n0
  refine own_go (A := s₁.setTop (mkF m 0 #[.val (.ref a)] [])) (fun _ kz => castTop (own_ef13 m a) kz) ?_
  obtain ⟨t, kt, ⟨hwd, Fv, Fc, At⟩ | ⟨hl0, Fv, Fc, At⟩⟩ := St
  · skip
    refine own_go (A := s₁.setTop (mkF m 1 #[.val (.ref a)] [(.ref a)])) (fun _ kz => ?_) ?_
    · refine XS.aloadN X0.here hx rfl (hb hby d13_0) rfl rfl ?_
      exact kz
    obtain ⟨T1, X1, e1, st1⟩ := getF X0 hx hZ hown (host := "") (Or.inl (own_w hw 33 rfl)) Via.refl e0 Fv (g := (mkF m 1 #[.val (.ref a)] [(.ref a)])) rfl rfl (hb hby d13_1)
    refine own_go (A := T1.setTop (mkF m 4 #[.val (.ref a)] [(.ref t)])) (fun _ kz => st1 _ kz) ?_
    obtain ⟨cl2, Ar2, -, S2, M2, -, -⟩ := id At
    refine own_go (A := T1.setTop (mkF m 5 #[.val (.ref a)] [(.int 2)])) (fun _ kz => ?_) ?_
    · refine X1.arraylength hx (by rw [e1]; exact Ar2.1) (State.isArrayOf_alike hZ.alike Ar2.2.1) (g := (mkF m 4 #[.val (.ref a)] [(.ref t)])) rfl rfl (hb hby d13_4) _ ?_
      rw [len_of S2 M2]
      exact kz
    refine own_go (A := T1.setTop (mkF m 6 #[.val (.ref a)] [(.ref a), (.int 2)])) (fun _ kz => ?_) ?_
    · refine XS.aloadN X1.here hx rfl (hb hby d13_5) rfl rfl ?_
      exact kz
    obtain ⟨cq3, kq3, q3a, q3b, q3c⟩ := isOf hZ e1 Ex
    obtain ⟨_, _, ⟨T3, L3, k3, n3⟩, -, X3, ⟨Lc3, hQ3, l3, y3, z3⟩, st3⟩ := X1.virtualBack hx (y := (⟨"java/lang/String", "coder", "()B"⟩ : MethodName)) (z := (⟨"java/lang/String", "coder", "()B"⟩ : MethodName)) hown (mvT hZ (own_w hw 78 rfl)) (mvT hZ (own_w hw 79 rfl)) (notFace_of_selects (args := #[]) (mvT hZ (own_w hw 81 rfl))) (mvT hZ (own_w hw 81 rfl)) (mvT hZ (own_w hw 80 rfl)) (by decide) (backOf (W := 1) (rmCd_W l Z a0 hw [] a cs h0 n0 Z0 Fc hcs S_cs) hZ (own_w hw 82 rfl) (own_w hw 7 rfl) (by decide) (by decide)) q3a q3c (g := (mkF m 6 #[.val (.ref a)] [(.ref a), (.int 2)])) rfl (by rw [hml]; rfl) (Steps.refl _) (argsL := []) (rest := [(.int 2)]) (lenOf own_pd10 rfl) rfl (by show 2 * 0 + _ ≤ _; exact Nat.le_of_eq rfl) (hb hby d13_6) (fun _ _ => ⟨rfl, e1, (by decide : 0 + 0 ≤ _), (by decide : 0 + 0 ≤ _)⟩)
    dsimp only [Pt.U, Pt.locs, Pt.cells, Pt.slots] at X3 l3 y3 z3 st3 hQ3
    subst l3 y3 z3
    obtain ⟨rfl, N3q, e3⟩ := hQ3
    have N3 := Fr.app N0 N3q
    refine own_go (A := T3.setTop (mkF m 9 #[.val (.ref a)] [(.int 1), (.int 2)])) (fun _ kz => st3.trans kz) ?_
    refine own_go (A := T3.setTop (mkF m 10 #[.val (.ref a)] [(.int 1)])) (fun _ kz => ?_) ?_
    · refine XS.ishr X3.here hx rfl (hb hby d13_9) rfl ?_
      exact kz
    obtain ⟨fs, hrr, hrun, hended, hW, hsame⟩ := X3.leave (v := some (.int 1)) (fun h => by rw [Bd.returns] at h; cases h)
    refine ⟨_, _, ?_, hrun, hended, _, _, rfl, ?_, ⟨_, rfl⟩, hW, hsame.mono (by decide) (by decide)⟩
    · show Steps p.tables e below (T3.setTop (mkF m 10 #[.val (.ref a)] [(.int 1)])) _
      exact retI X3 hx Bd.returns (hb hby d13_10) hrr
    · show QrmLn_1 Z  h0 n0 _ T3.heap _
      rw [e3]
      exact ⟨rfl, N3, rfl⟩
  · skip
    refine own_go (A := s₁.setTop (mkF m 1 #[.val (.ref a)] [(.ref a)])) (fun _ kz => ?_) ?_
    · show Steps p.tables e below (s₁.setTop (mkF m 0 #[.val (.ref a)] [])) _
      refine XS.aloadN X0.here hx rfl (hb hby d13_0) rfl rfl ?_
      exact kz
    obtain ⟨T4, X4, e4, st4⟩ := getF X0 hx hZ hown (host := "") (Or.inl (own_w hw 33 rfl)) Via.refl e0 Fv (g := (mkF m 1 #[.val (.ref a)] [(.ref a)])) rfl rfl (hb hby d13_1)
    refine own_go (A := T4.setTop (mkF m 4 #[.val (.ref a)] [(.ref t)])) (fun _ kz => st4 _ kz) ?_
    obtain ⟨cl5, Ar5, -, S5, M5, -, -⟩ := id At
    refine own_go (A := T4.setTop (mkF m 5 #[.val (.ref a)] [(.int 1)])) (fun _ kz => ?_) ?_
    · refine X4.arraylength hx (by rw [e4]; exact Ar5.1) (State.isArrayOf_alike hZ.alike Ar5.2.1) (g := (mkF m 4 #[.val (.ref a)] [(.ref t)])) rfl rfl (hb hby d13_4) _ ?_
      rw [len_of S5 M5]
      exact kz
    refine own_go (A := T4.setTop (mkF m 6 #[.val (.ref a)] [(.ref a), (.int 1)])) (fun _ kz => ?_) ?_
    · refine XS.aloadN X4.here hx rfl (hb hby d13_5) rfl rfl ?_
      exact kz
    obtain ⟨cq6, kq6, q6a, q6b, q6c⟩ := isOf hZ e4 Ex
    obtain ⟨_, _, ⟨T6, L6, k6, n6⟩, -, X6, ⟨Lc6, hQ6, l6, y6, z6⟩, st6⟩ := X4.virtualBack hx (y := (⟨"java/lang/String", "coder", "()B"⟩ : MethodName)) (z := (⟨"java/lang/String", "coder", "()B"⟩ : MethodName)) hown (mvT hZ (own_w hw 78 rfl)) (mvT hZ (own_w hw 79 rfl)) (notFace_of_selects (args := #[]) (mvT hZ (own_w hw 81 rfl))) (mvT hZ (own_w hw 81 rfl)) (mvT hZ (own_w hw 80 rfl)) (by decide) (backOf (W := 1) (rmCd_L l Z a0 hw [] a cs h0 n0 Z0 Fc hcs S_cs) hZ (own_w hw 82 rfl) (own_w hw 7 rfl) (by decide) (by decide)) q6a q6c (g := (mkF m 6 #[.val (.ref a)] [(.ref a), (.int 1)])) rfl (by rw [hml]; rfl) (Steps.refl _) (argsL := []) (rest := [(.int 1)]) (lenOf own_pd10 rfl) rfl (by show 2 * 0 + _ ≤ _; exact Nat.le_of_eq rfl) (hb hby d13_6) (fun _ _ => ⟨rfl, e4, (by decide : 0 + 0 ≤ _), (by decide : 0 + 0 ≤ _)⟩)
    dsimp only [Pt.U, Pt.locs, Pt.cells, Pt.slots] at X6 l6 y6 z6 st6 hQ6
    subst l6 y6 z6
    obtain ⟨rfl, N6q, e6⟩ := hQ6
    have N6 := Fr.app N0 N6q
    refine own_go (A := T6.setTop (mkF m 9 #[.val (.ref a)] [(.int 0), (.int 1)])) (fun _ kz => st6.trans kz) ?_
    refine own_go (A := T6.setTop (mkF m 10 #[.val (.ref a)] [(.int 1)])) (fun _ kz => ?_) ?_
    · refine XS.ishr X6.here hx rfl (hb hby d13_9) rfl ?_
      exact kz
    obtain ⟨fs, hrr, hrun, hended, hW, hsame⟩ := X6.leave (v := some (.int 1)) (fun h => by rw [Bd.returns] at h; cases h)
    refine ⟨_, _, ?_, hrun, hended, _, _, rfl, ?_, ⟨_, rfl⟩, hW, hsame.mono (by decide) (by decide)⟩
    · show Steps p.tables e below (T6.setTop (mkF m 10 #[.val (.ref a)] [(.int 1)])) _
      exact retI X6 hx Bd.returns (hb hby d13_10) hrr
    · show QrmLn_1 Z  h0 n0 _ T6.heap _
      rw [e6]
      exact ⟨rfl, N6, rfl⟩
theorem d31_0 : decode jdk_52_method_6_code 0 = .ok (.aload_n 0, 1) := by decide +kernel
theorem d31_1 : decode jdk_52_method_6_code 1 = .ok (.arraylength, 1) := by decide +kernel
theorem d31_2 : decode jdk_52_method_6_code 2 = .ok (.iconst 1, 1) := by decide +kernel
theorem d31_3 : decode jdk_52_method_6_code 3 = .ok (.ishr, 1) := by decide +kernel
theorem d31_4 : decode jdk_52_method_6_code 4 = .ok (.ireturn, 1) := by decide +kernel
theorem own_pn31 : plainName "java/lang/StringUTF16" = true := by first | (simp [plainName, overriddenIn]; done) | decide +kernel
theorem own_ef31 (m : MethodId) (x0 : Addr) : entryFrame m #[(.ref x0)] 1 = mkF m 0 #[.val (.ref x0)] [] := by first | (simp [entryFrame, mkF, argsToLocals, Value.category]; done) | rfl
def QrmUL_1 (Z : State)  (h0 : Heap) (n0 : Nat) (v : Option Value) (h : Heap) (L : List Loc) : Prop := v = some (.int 1) ∧ Fr n0 L ∧ h = h0
set_option maxRecDepth 65536 in
set_option maxHeartbeats 40000000 in
theorem rmUL_1 (l : Launch) (Z : State) (a0 : Array Value) (hw : ∀ d ∈ tables_1, d.before a0 Z = true) (ws : List Jvm.Cond) (t : Addr) (kt : ClassId) (w0 w1 : Value) (h0 : Heap) (n0 : Nat) (Z0 : n0 ≤ h0.size) (At : Arv Z h0 t kt .byte (2 : Int32) [w0, w1] (.int 0)) :
    MetFree l (⟨"java/lang/StringUTF16", "length", "([B)I"⟩ : MethodName) (head1 (Jvm.Cond.code (⟨"java/lang/StringUTF16", "length", "([B)I"⟩ : MethodName) jdk_52_method_6_code 1 (some .int) :: ws) ({ frames := 0, cells := 0, slots := 0, locals := 0 } : Room)) (fun ar_ U_ => ar_ = #[(.ref t)] ∧ Z.Warmed39 U_.vm ∧ U_.heap = h0) (fun _ _ _ _ _ => True) (fun _ U_ ou_ V_ => ∃ v_ L_, ou_ = .returned v_ ∧ QrmUL_1 Z  h0 n0 v_ V_.heap L_ ∧ FrameEnd U_ ou_ V_ L_ ({ frames := 0, cells := 0, slots := 0, locals := 0 } : Room).cells ({ frames := 0, cells := 0, slots := 0, locals := 0 } : Room).slots) := by
  refine MetFree.of_bodySF (plainFor_of_name own_pn31) hisR ?_
  intro p e s m args below meth c s₁ Bd hml0 hP hK
  obtain ⟨rfl, hZ, hh⟩ := hP
  have hx := Bd.exec
  have hby := Bd.bytes
  have hml : c.maxLocals = 1 := hml0
  have hown : s.vm.findClass "java/lang/StringUTF16" = some m.cls := findClass_of_methodNamed Bd.named
  have hnm := (name_of_methodNamed Bd.named Bd.method).1
  have X0 : Stand p l e ({ frames := 0, cells := 0, slots := 0, locals := 0 } : Room) s m #[(.ref t)] below meth c s₁ [] 0 0 := Stand.of_body Bd
  have e0 : s₁.heap = h0 := by rw [← hh, Bd.state]; rfl
  have N0 := Fr.nil n0
  refine own_go (A := s₁.setTop (mkF m 0 #[.val (.ref t)] [])) (fun _ kz => castTop (own_ef31 m t) kz) ?_
  refine own_go (A := s₁.setTop (mkF m 1 #[.val (.ref t)] [(.ref t)])) (fun _ kz => ?_) ?_
  · refine XS.aloadN X0.here hx rfl (hb hby d31_0) rfl rfl ?_
    exact kz
  obtain ⟨cl1, Ar1, -, S1, M1, -, -⟩ := id At
  refine own_go (A := s₁.setTop (mkF m 2 #[.val (.ref t)] [(.int 2)])) (fun _ kz => ?_) ?_
  · refine X0.arraylength hx (by rw [e0]; exact Ar1.1) (State.isArrayOf_alike hZ.alike Ar1.2.1) (g := (mkF m 1 #[.val (.ref t)] [(.ref t)])) rfl rfl (hb hby d31_1) _ ?_
    rw [len_of S1 M1]
    exact kz
  refine own_go (A := s₁.setTop (mkF m 4 #[.val (.ref t)] [(.int 1)])) (fun _ kz => ?_) ?_
  · refine XS.iconst X0.here hx rfl (hb hby d31_2) ?_
    refine XS.ishr X0.here hx rfl (hb hby d31_3) rfl ?_
    exact kz
  obtain ⟨fs, hrr, hrun, hended, hW, hsame⟩ := X0.leave (v := some (.int 1)) (fun h => by rw [Bd.returns] at h; cases h)
  refine ⟨_, _, ?_, hrun, hended, _, _, rfl, ?_, ⟨_, rfl⟩, hW, hsame.mono (by decide) (by decide)⟩
  · show Steps p.tables e below (s₁.setTop (mkF m 4 #[.val (.ref t)] [(.int 1)])) _
    exact retI X0 hx Bd.returns (hb hby d31_4) hrr
  · show QrmUL_1 Z  h0 n0 _ s₁.heap _
    rw [e0]
    exact ⟨rfl, N0, rfl⟩
theorem d30_0 : decode jdk_52_method_91_code 0 = .ok (.iload_n 0, 1) := by decide +kernel
theorem d30_1 : decode jdk_52_method_91_code 1 = .ok (.aload_n 1, 1) := by decide +kernel
theorem d30_2 : decode jdk_52_method_91_code 2 = .ok (.invokestatic 48, 3) := by decide +kernel
theorem d30_5 : decode jdk_52_method_91_code 5 = .ok (.invokestatic 414, 3) := by decide +kernel
theorem d30_8 : decode jdk_52_method_91_code 8 = .ok (.return_, 1) := by decide +kernel
theorem own_pn30 : plainName "java/lang/StringUTF16" = true := by first | (simp [plainName, overriddenIn]; done) | decide +kernel
theorem own_ef30 (m : MethodId) (x0 : Int32) (x1 : Addr) : entryFrame m #[(.int x0), (.ref x1)] 2 = mkF m 0 #[.val (.int x0), .val (.ref x1)] [] := by first | (simp [entryFrame, mkF, argsToLocals, Value.category]; done) | rfl
def QrmUK_1 (Z : State)  (h0 : Heap) (n0 : Nat) (v : Option Value) (h : Heap) (L : List Loc) : Prop := v = none ∧ Fr n0 L ∧ h = h0
set_option maxRecDepth 65536 in
set_option maxHeartbeats 40000000 in
theorem rmUK_1 (l : Launch) (Z : State) (a0 : Array Value) (hw : ∀ d ∈ tables_1, d.before a0 Z = true) (ws : List Jvm.Cond) (ix : Int32) (t : Addr) (kt : ClassId) (fm : Value) (w0 w1 : Value) (h0 : Heap) (n0 : Nat) (Z0 : n0 ≤ h0.size) (hi0 : ¬ ix < (0 : Int32)) (hi1 : ix < (1 : Int32)) (At : Arv Z h0 t kt .byte (2 : Int32) [w0, w1] (.int 0)) (S_fm : Sta Z h0 "jdk/internal/util/Preconditions" "SIOOBE_FORMATTER" "Ljava/util/function/BiFunction;" fm) (rfm : fm.isRef = true) :
    MetFree l (⟨"java/lang/StringUTF16", "checkIndex", "(I[B)V"⟩ : MethodName) (head1 (Jvm.Cond.code (⟨"java/lang/StringUTF16", "checkIndex", "(I[B)V"⟩ : MethodName) jdk_52_method_91_code 2 none :: ws) ({ frames := 2, cells := 0, slots := 0, locals := 27 } : Room)) (fun ar_ U_ => ar_ = #[(.int ix), (.ref t)] ∧ Z.Warmed39 U_.vm ∧ U_.heap = h0) (fun _ _ _ _ _ => True) (fun _ U_ ou_ V_ => ∃ v_ L_, ou_ = .returned v_ ∧ QrmUK_1 Z  h0 n0 v_ V_.heap L_ ∧ FrameEnd U_ ou_ V_ L_ ({ frames := 2, cells := 0, slots := 0, locals := 27 } : Room).cells ({ frames := 2, cells := 0, slots := 0, locals := 27 } : Room).slots) := by
  refine MetFree.of_bodySF (plainFor_of_name own_pn30) hisR ?_
  intro p e s m args below meth c s₁ Bd hml0 hP hK
  obtain ⟨rfl, hZ, hh⟩ := hP
  have hx := Bd.exec
  have hby := Bd.bytes
  have hml : c.maxLocals = 2 := hml0
  have hown : s.vm.findClass "java/lang/StringUTF16" = some m.cls := findClass_of_methodNamed Bd.named
  have hnm := (name_of_methodNamed Bd.named Bd.method).1
  have X0 : Stand p l e ({ frames := 2, cells := 0, slots := 0, locals := 27 } : Room) s m #[(.int ix), (.ref t)] below meth c s₁ [] 0 0 := Stand.of_body Bd
  have e0 : s₁.heap = h0 := by rw [← hh, Bd.state]; rfl
  have N0 := Fr.nil n0
  refine own_go (A := s₁.setTop (mkF m 0 #[.val (.int ix), .val (.ref t)] [])) (fun _ kz => castTop (own_ef30 m ix t) kz) ?_
  refine own_go (A := s₁.setTop (mkF m 2 #[.val (.int ix), .val (.ref t)] [(.ref t), (.int ix)])) (fun _ kz => ?_) ?_
  · refine XS.iloadN X0.here hx rfl (hb hby d30_0) rfl ?_
    refine XS.aloadN X0.here hx rfl (hb hby d30_1) rfl rfl ?_
    exact kz
  obtain ⟨_, _, ⟨T1, L1, k1, n1⟩, -, X1, ⟨Lc1, hQ1, l1, y1, z1⟩, st1⟩ := Jvm.LawKit.callS X0 hx (y := (⟨"java/lang/StringUTF16", "length", "([B)I"⟩ : MethodName)) hown (mvT hZ (own_w hw 160 rfl)) (mvT hZ (own_w hw 161 rfl)) (mvT hZ (own_w hw 22 rfl)) (mvT hZ (own_w hw 162 rfl)) (by decide) (backOf (W := 1) (rmUL_1 l Z a0 hw [] t kt w0 w1 h0 n0 Z0 At) hZ (own_w hw 162 rfl) (own_w hw 22 rfl) (by decide) (by decide)) (g := (mkF m 2 #[.val (.int ix), .val (.ref t)] [(.ref t), (.int ix)])) rfl (by rw [hml]; rfl) (argsL := [(.ref t)]) (rest := [(.int ix)]) (lenOf own_pd11 rfl) rfl (by show 2 * 0 + _ ≤ _; exact Nat.le_of_eq rfl) (hb hby d30_2) (fun _ _ => ⟨rfl, e0, (by decide : 0 + 0 ≤ _), (by decide : 0 + 0 ≤ _)⟩)
  dsimp only [Pt.U, Pt.locs, Pt.cells, Pt.slots] at X1 l1 y1 z1 st1 hQ1
  subst l1 y1 z1
  obtain ⟨rfl, N1q, e1⟩ := hQ1
  have N1 := Fr.app N0 N1q
  refine own_go (A := T1.setTop (mkF m 5 #[.val (.int ix), .val (.ref t)] [(.int 1), (.int ix)])) (fun _ kz => st1 _ kz) ?_
  obtain ⟨_, _, ⟨T2, L2, k2, n2⟩, -, X2, ⟨Lc2, hQ2, l2, y2, z2⟩, st2⟩ := Jvm.LawKit.callS X1 hx (y := (⟨"java/lang/String", "checkIndex", "(II)V"⟩ : MethodName)) hown (mvT hZ (own_w hw 163 rfl)) (mvT hZ (own_w hw 103 rfl)) (mvT hZ (own_w hw 7 rfl)) (mvT hZ (own_w hw 104 rfl)) (by decide) (backOf (W := 0) (rmSK l Z a0 hw [] ix (1 : Int32) fm h0 n0 Z0 hi0 hi1 S_fm rfm) hZ (own_w hw 104 rfl) (own_w hw 7 rfl) (by decide) (by decide)) (g := (mkF m 5 #[.val (.int ix), .val (.ref t)] [(.int 1), (.int ix)])) rfl (by rw [hml]; rfl) (argsL := [(.int ix), (.int 1)]) (rest := []) (lenOf own_pd12 rfl) rfl (by show 2 * 0 + _ ≤ _; exact Nat.le_of_eq rfl) (hb hby d30_5) (fun _ _ => ⟨rfl, e1, (by decide : 0 + 0 ≤ _), (by decide : 0 + 0 ≤ _)⟩)
  dsimp only [Pt.U, Pt.locs, Pt.cells, Pt.slots] at X2 l2 y2 z2 st2 hQ2
  subst l2 y2 z2
  obtain ⟨rfl, N2q, e2⟩ := hQ2
  have N2 := Fr.app N1 N2q
  refine own_go (A := T2.setTop (mkF m 8 #[.val (.int ix), .val (.ref t)] [])) (fun _ kz => st2 _ kz) ?_
  obtain ⟨fs, hrr, hrun, hended, hW, hsame⟩ := X2.leave (v := none) (fun _ => rfl)
  refine ⟨_, _, ?_, hrun, hended, _, _, rfl, ?_, ⟨_, rfl⟩, hW, hsame.mono (by decide) (by decide)⟩
  · show Steps p.tables e below (T2.setTop (mkF m 8 #[.val (.int ix), .val (.ref t)] [])) _
    exact X2.returnOut hx Bd.returns (hb hby d30_8) hrr
  · show QrmUK_1 Z  h0 n0 _ T2.heap _
    rw [e2]
    exact ⟨rfl, N2, rfl⟩
theorem d29_0 : decode jdk_52_method_83_code 0 = .ok (.iload_n 1, 1) := by decide +kernel
theorem d29_1 : decode jdk_52_method_83_code 1 = .ok (.aload_n 0, 1) := by decide +kernel
theorem d29_2 : decode jdk_52_method_83_code 2 = .ok (.invokestatic 67, 3) := by decide +kernel
theorem d29_5 : decode jdk_52_method_83_code 5 = .ok (.aload_n 0, 1) := by decide +kernel
theorem d29_6 : decode jdk_52_method_83_code 6 = .ok (.iload_n 1, 1) := by decide +kernel
theorem d29_7 : decode jdk_52_method_83_code 7 = .ok (.invokestatic 71, 3) := by decide +kernel
theorem d29_10 : decode jdk_52_method_83_code 10 = .ok (.ireturn, 1) := by decide +kernel
theorem own_pn29 : plainName "java/lang/StringUTF16" = true := by first | (simp [plainName, overriddenIn]; done) | decide +kernel
theorem own_ef29 (m : MethodId) (x0 : Addr) (x1 : Int32) : entryFrame m #[(.ref x0), (.int x1)] 2 = mkF m 0 #[.val (.ref x0), .val (.int x1)] [] := by first | (simp [entryFrame, mkF, argsToLocals, Value.category]; done) | rfl
def QrmUC_1_0 (Z : State) (ch0 : Int32) (h0 : Heap) (n0 : Nat) (v : Option Value) (h : Heap) (L : List Loc) : Prop := v = some (.int ch0) ∧ Fr n0 L ∧ h = h0
set_option maxRecDepth 65536 in
set_option maxHeartbeats 40000000 in
theorem rmUC_1_0 (l : Launch) (Z : State) (a0 : Array Value) (hw : ∀ d ∈ tables_1, d.before a0 Z = true) (ws : List Jvm.Cond) (t : Addr) (kt : ClassId) (ch0 : Int32) (fm : Value) (h0 : Heap) (n0 : Nat) (Z0 : n0 ≤ h0.size) (At : Arv Z h0 t kt .byte (2 : Int32) [(.int (own_l ch0)), (.int (own_h ch0))] (.int 0)) (hp0 : ¬ ch0 < 0 ∧ ¬ (65535 : Int32) < ch0) (S_fm : Sta Z h0 "jdk/internal/util/Preconditions" "SIOOBE_FORMATTER" "Ljava/util/function/BiFunction;" fm) (rfm : fm.isRef = true) (S_ad : Sta Z h0 "java/lang/StringUTF16" "$assertionsDisabled" "Z" (.int 1)) (S_hi : Sta Z h0 "java/lang/StringUTF16" "HI_BYTE_SHIFT" "I" (.int 0)) (S_lo : Sta Z h0 "java/lang/StringUTF16" "LO_BYTE_SHIFT" "I" (.int 8)) :
    MetFree l (⟨"java/lang/StringUTF16", "charAt", "([BI)C"⟩ : MethodName) (head1 (Jvm.Cond.code (⟨"java/lang/StringUTF16", "charAt", "([BI)C"⟩ : MethodName) jdk_52_method_83_code 2 (some .char) :: ws) ({ frames := 3, cells := 0, slots := 0, locals := 40 } : Room)) (fun ar_ U_ => ar_ = #[(.ref t), (.int 0)] ∧ Z.Warmed39 U_.vm ∧ U_.heap = h0) (fun _ _ _ _ _ => True) (fun _ U_ ou_ V_ => ∃ v_ L_, ou_ = .returned v_ ∧ QrmUC_1_0 Z ch0 h0 n0 v_ V_.heap L_ ∧ FrameEnd U_ ou_ V_ L_ ({ frames := 3, cells := 0, slots := 0, locals := 40 } : Room).cells ({ frames := 3, cells := 0, slots := 0, locals := 40 } : Room).slots) := by
  refine MetFree.of_bodySF (plainFor_of_name own_pn29) hisR ?_
  intro p e s m args below meth c s₁ Bd hml0 hP hK
  obtain ⟨rfl, hZ, hh⟩ := hP
  have hx := Bd.exec
  have hby := Bd.bytes
  have hml : c.maxLocals = 2 := hml0
  have hown : s.vm.findClass "java/lang/StringUTF16" = some m.cls := findClass_of_methodNamed Bd.named
  have hnm := (name_of_methodNamed Bd.named Bd.method).1
  have X0 : Stand p l e ({ frames := 3, cells := 0, slots := 0, locals := 40 } : Room) s m #[(.ref t), (.int 0)] below meth c s₁ [] 0 0 := Stand.of_body Bd
  have e0 : s₁.heap = h0 := by rw [← hh, Bd.state]; rfl
  have N0 := Fr.nil n0
  refine own_go (A := s₁.setTop (mkF m 0 #[.val (.ref t), .val (.int 0)] [])) (fun _ kz => castTop (own_ef29 m t (0 : Int32)) kz) ?_
  refine own_go (A := s₁.setTop (mkF m 2 #[.val (.ref t), .val (.int 0)] [(.ref t), (.int 0)])) (fun _ kz => ?_) ?_
  · refine XS.iloadN X0.here hx rfl (hb hby d29_0) rfl ?_
    refine XS.aloadN X0.here hx rfl (hb hby d29_1) rfl rfl ?_
    exact kz
  obtain ⟨_, _, ⟨T1, L1, k1, n1⟩, -, X1, ⟨Lc1, hQ1, l1, y1, z1⟩, st1⟩ := Jvm.LawKit.callS X0 hx (y := (⟨"java/lang/StringUTF16", "checkIndex", "(I[B)V"⟩ : MethodName)) hown (mvT hZ (own_w hw 157 rfl)) (mvT hZ (own_w hw 158 rfl)) (mvT hZ (own_w hw 22 rfl)) (mvT hZ (own_w hw 159 rfl)) (by decide) (backOf (W := 0) (rmUK_1 l Z a0 hw [] (0 : Int32) t kt fm (.int (own_l ch0)) (.int (own_h ch0)) h0 n0 Z0 (by decide) (by decide) At S_fm rfm) hZ (own_w hw 159 rfl) (own_w hw 22 rfl) (by decide) (by decide)) (g := (mkF m 2 #[.val (.ref t), .val (.int 0)] [(.ref t), (.int 0)])) rfl (by rw [hml]; rfl) (argsL := [(.int 0), (.ref t)]) (rest := []) (lenOf own_pd13 rfl) rfl (by show 2 * 0 + _ ≤ _; exact Nat.le_of_eq rfl) (hb hby d29_2) (fun _ _ => ⟨rfl, e0, (by decide : 0 + 0 ≤ _), (by decide : 0 + 0 ≤ _)⟩)
  dsimp only [Pt.U, Pt.locs, Pt.cells, Pt.slots] at X1 l1 y1 z1 st1 hQ1
  subst l1 y1 z1
  obtain ⟨rfl, N1q, e1⟩ := hQ1
  have N1 := Fr.app N0 N1q
  refine own_go (A := T1.setTop (mkF m 5 #[.val (.ref t), .val (.int 0)] [])) (fun _ kz => st1 _ kz) ?_
  refine own_go (A := T1.setTop (mkF m 7 #[.val (.ref t), .val (.int 0)] [(.int 0), (.ref t)])) (fun _ kz => ?_) ?_
  · refine XS.aloadN X1.here hx rfl (hb hby d29_5) rfl rfl ?_
    refine XS.iloadN X1.here hx rfl (hb hby d29_6) rfl ?_
    exact kz
  obtain ⟨_, _, ⟨T2, L2, k2, n2⟩, -, X2, ⟨Lc2, hQ2, l2, y2, z2⟩, st2⟩ := Jvm.LawKit.callS X1 hx (y := (⟨"java/lang/StringUTF16", "getChar", "([BI)C"⟩ : MethodName)) hown (mvT hZ (own_w hw 151 rfl)) (mvT hZ (own_w hw 152 rfl)) (mvT hZ (own_w hw 22 rfl)) (mvT hZ (own_w hw 153 rfl)) (by decide) (backOf (W := 0) (rmGC_1_0 l Z a0 hw [] t kt ch0  h0 n0 Z0 At hp0 S_ad S_hi S_lo) hZ (own_w hw 153 rfl) (own_w hw 22 rfl) (by decide) (by decide)) (g := (mkF m 7 #[.val (.ref t), .val (.int 0)] [(.int 0), (.ref t)])) rfl (by rw [hml]; rfl) (argsL := [(.ref t), (.int 0)]) (rest := []) (lenOf own_pd5 rfl) rfl (by show 2 * 0 + _ ≤ _; exact Nat.le_of_eq rfl) (hb hby d29_7) (fun _ _ => ⟨rfl, e1, (by decide : 0 + 0 ≤ _), (by decide : 0 + 0 ≤ _)⟩)
  dsimp only [Pt.U, Pt.locs, Pt.cells, Pt.slots] at X2 l2 y2 z2 st2 hQ2
  subst l2 y2 z2
  obtain ⟨rfl, N2q, e2⟩ := hQ2
  have N2 := Fr.app N1 N2q
  refine own_go (A := T2.setTop (mkF m 10 #[.val (.ref t), .val (.int 0)] [(.int ch0)])) (fun _ kz => st2 _ kz) ?_
  obtain ⟨fs, hrr, hrun, hended, hW, hsame⟩ := X2.leave (v := some (.int (nar .char ch0))) (fun h => by rw [Bd.returns] at h; cases h)
  refine ⟨_, _, ?_, hrun, hended, _, _, rfl, ?_, ⟨_, rfl⟩, hW, hsame.mono (by decide) (by decide)⟩
  · show Steps p.tables e below (T2.setTop (mkF m 10 #[.val (.ref t), .val (.int 0)] [(.int ch0)])) _
    exact retN X2 hx (t := .char) Bd.returns (by simp) (hb hby d29_10) hrr
  · show QrmUC_1_0 Z ch0 h0 n0 _ T2.heap _
    rw [e2]
    exact ⟨congrArg (fun z => some (Value.int z)) (own_narc ch0 hp0.1 hp0.2), N2, rfl⟩
theorem d18_0 : decode jdk_43_method_2_code 0 = .ok (.iload_n 1, 1) := by decide +kernel
theorem d18_1 : decode jdk_43_method_2_code 1 = .ok (.aload_n 0, 1) := by decide +kernel
theorem d18_2 : decode jdk_43_method_2_code 2 = .ok (.arraylength, 1) := by decide +kernel
theorem d18_3 : decode jdk_43_method_2_code 3 = .ok (.invokestatic 9, 3) := by decide +kernel
theorem d18_6 : decode jdk_43_method_2_code 6 = .ok (.aload_n 0, 1) := by decide +kernel
theorem d18_7 : decode jdk_43_method_2_code 7 = .ok (.iload_n 1, 1) := by decide +kernel
theorem d18_8 : decode jdk_43_method_2_code 8 = .ok (.baload, 1) := by decide +kernel
theorem d18_9 : decode jdk_43_method_2_code 9 = .ok (.sipush 255, 3) := by decide +kernel
theorem d18_12 : decode jdk_43_method_2_code 12 = .ok (.iand, 1) := by decide +kernel
theorem d18_13 : decode jdk_43_method_2_code 13 = .ok (.i2c, 1) := by decide +kernel
theorem d18_14 : decode jdk_43_method_2_code 14 = .ok (.ireturn, 1) := by decide +kernel
theorem own_pn18 : plainName "java/lang/StringLatin1" = true := by first | (simp [plainName, overriddenIn]; done) | decide +kernel
theorem own_ef18 (m : MethodId) (x0 : Addr) (x1 : Int32) : entryFrame m #[(.ref x0), (.int x1)] 2 = mkF m 0 #[.val (.ref x0), .val (.int x1)] [] := by first | (simp [entryFrame, mkF, argsToLocals, Value.category]; done) | rfl
def QrmLC_1_0 (Z : State) (ch0 : Int32) (h0 : Heap) (n0 : Nat) (v : Option Value) (h : Heap) (L : List Loc) : Prop := v = some (.int ch0) ∧ Fr n0 L ∧ h = h0
set_option maxRecDepth 65536 in
set_option maxHeartbeats 40000000 in
theorem rmLC_1_0 (l : Launch) (Z : State) (a0 : Array Value) (hw : ∀ d ∈ tables_1, d.before a0 Z = true) (ws : List Jvm.Cond) (t : Addr) (kt : ClassId) (ch0 : Int32) (fm : Value) (h0 : Heap) (n0 : Nat) (Z0 : n0 ≤ h0.size) (At : Arv Z h0 t kt .byte (1 : Int32) [(.int (ch0.toInt8.toInt32))] (.int 0)) (hl0 : ¬ (255 : Int32) < ch0) (hp0 : ¬ ch0 < 0 ∧ ¬ (65535 : Int32) < ch0) (S_fm : Sta Z h0 "jdk/internal/util/Preconditions" "SIOOBE_FORMATTER" "Ljava/util/function/BiFunction;" fm) (rfm : fm.isRef = true) :
    MetFree l (⟨"java/lang/StringLatin1", "charAt", "([BI)C"⟩ : MethodName) (head1 (Jvm.Cond.code (⟨"java/lang/StringLatin1", "charAt", "([BI)C"⟩ : MethodName) jdk_43_method_2_code 2 (some .char) :: ws) ({ frames := 2, cells := 0, slots := 0, locals := 27 } : Room)) (fun ar_ U_ => ar_ = #[(.ref t), (.int 0)] ∧ Z.Warmed39 U_.vm ∧ U_.heap = h0) (fun _ _ _ _ _ => True) (fun _ U_ ou_ V_ => ∃ v_ L_, ou_ = .returned v_ ∧ QrmLC_1_0 Z ch0 h0 n0 v_ V_.heap L_ ∧ FrameEnd U_ ou_ V_ L_ ({ frames := 2, cells := 0, slots := 0, locals := 27 } : Room).cells ({ frames := 2, cells := 0, slots := 0, locals := 27 } : Room).slots) := by
  refine MetFree.of_bodySF (plainFor_of_name own_pn18) hisR ?_
  intro p e s m args below meth c s₁ Bd hml0 hP hK
  obtain ⟨rfl, hZ, hh⟩ := hP
  have hx := Bd.exec
  have hby := Bd.bytes
  have hml : c.maxLocals = 2 := hml0
  have hown : s.vm.findClass "java/lang/StringLatin1" = some m.cls := findClass_of_methodNamed Bd.named
  have hnm := (name_of_methodNamed Bd.named Bd.method).1
  have X0 : Stand p l e ({ frames := 2, cells := 0, slots := 0, locals := 27 } : Room) s m #[(.ref t), (.int 0)] below meth c s₁ [] 0 0 := Stand.of_body Bd
  have e0 : s₁.heap = h0 := by rw [← hh, Bd.state]; rfl
  have N0 := Fr.nil n0
  refine own_go (A := s₁.setTop (mkF m 0 #[.val (.ref t), .val (.int 0)] [])) (fun _ kz => castTop (own_ef18 m t (0 : Int32)) kz) ?_
  refine own_go (A := s₁.setTop (mkF m 2 #[.val (.ref t), .val (.int 0)] [(.ref t), (.int 0)])) (fun _ kz => ?_) ?_
  · refine XS.iloadN X0.here hx rfl (hb hby d18_0) rfl ?_
    refine XS.aloadN X0.here hx rfl (hb hby d18_1) rfl rfl ?_
    exact kz
  obtain ⟨cl1, Ar1, -, S1, M1, -, -⟩ := id At
  refine own_go (A := s₁.setTop (mkF m 3 #[.val (.ref t), .val (.int 0)] [(.int 1), (.int 0)])) (fun _ kz => ?_) ?_
  · refine X0.arraylength hx (by rw [e0]; exact Ar1.1) (State.isArrayOf_alike hZ.alike Ar1.2.1) (g := (mkF m 2 #[.val (.ref t), .val (.int 0)] [(.ref t), (.int 0)])) rfl rfl (hb hby d18_2) _ ?_
    rw [len_of S1 M1]
    exact kz
  obtain ⟨_, _, ⟨T2, L2, k2, n2⟩, -, X2, ⟨Lc2, hQ2, l2, y2, z2⟩, st2⟩ := Jvm.LawKit.callS X0 hx (y := (⟨"java/lang/String", "checkIndex", "(II)V"⟩ : MethodName)) hown (mvT hZ (own_w hw 102 rfl)) (mvT hZ (own_w hw 103 rfl)) (mvT hZ (own_w hw 7 rfl)) (mvT hZ (own_w hw 104 rfl)) (by decide) (backOf (W := 0) (rmSK l Z a0 hw [] (0 : Int32) (1 : Int32) fm h0 n0 Z0 (by decide) (by decide) S_fm rfm) hZ (own_w hw 104 rfl) (own_w hw 7 rfl) (by decide) (by decide)) (g := (mkF m 3 #[.val (.ref t), .val (.int 0)] [(.int 1), (.int 0)])) rfl (by rw [hml]; rfl) (argsL := [(.int 0), (.int 1)]) (rest := []) (lenOf own_pd12 rfl) rfl (by show 2 * 0 + _ ≤ _; exact Nat.le_of_eq rfl) (hb hby d18_3) (fun _ _ => ⟨rfl, e0, (by decide : 0 + 0 ≤ _), (by decide : 0 + 0 ≤ _)⟩)
  dsimp only [Pt.U, Pt.locs, Pt.cells, Pt.slots] at X2 l2 y2 z2 st2 hQ2
  subst l2 y2 z2
  obtain ⟨rfl, N2q, e2⟩ := hQ2
  have N2 := Fr.app N0 N2q
  refine own_go (A := T2.setTop (mkF m 6 #[.val (.ref t), .val (.int 0)] [])) (fun _ kz => st2 _ kz) ?_
  refine own_go (A := T2.setTop (mkF m 8 #[.val (.ref t), .val (.int 0)] [(.int 0), (.ref t)])) (fun _ kz => ?_) ?_
  · refine XS.aloadN X2.here hx rfl (hb hby d18_6) rfl rfl ?_
    refine XS.iloadN X2.here hx rfl (hb hby d18_7) rfl ?_
    exact kz
  obtain ⟨cl3, Ar3, -, S3, M3, H3, -⟩ := id At
  have hin3 : ¬ ((0 : Int32) < 0 ∨ cl3.slots.size ≤ ((0 : Int32)).toNatClampNeg) := inb_of S3 ⟨by decide, by decide⟩
  have hat3 : cl3.slots[((0 : Int32)).toNatClampNeg]? = some (.int (ch0.toInt8.toInt32)) := H3.at hin3 rfl
  refine own_go (A := T2.setTop (mkF m 9 #[.val (.ref t), .val (.int 0)] [(.int (ch0.toInt8.toInt32))])) (fun _ kz => ?_) ?_
  · refine X2.baloadBytes hx (j := (0 : Int32)) (v := (.int (ch0.toInt8.toInt32))) (by rw [e2]; exact Ar3.1) (State.isArrayOf_alike hZ.alike Ar3.2.1) Ar3.2.2 hin3 hat3 (g := (mkF m 8 #[.val (.ref t), .val (.int 0)] [(.int 0), (.ref t)])) rfl rfl (hb hby d18_8) _ ?_
    exact kz
  refine own_go (A := T2.setTop (mkF m 14 #[.val (.ref t), .val (.int 0)] [(.int (((ch0.toInt8.toInt32) &&& (255 : Int32)).toUInt32.toUInt16.toUInt32.toInt32))])) (fun _ kz => ?_) ?_
  · refine XS.sipush X2.here hx rfl (hb hby d18_9) ?_
    refine XS.iand X2.here hx rfl (hb hby d18_12) rfl ?_
    refine XS.i2c X2.here hx rfl (hb hby d18_13) rfl ?_
    exact kz
  obtain ⟨fs, hrr, hrun, hended, hW, hsame⟩ := X2.leave (v := some (.int (nar .char (((ch0.toInt8.toInt32) &&& (255 : Int32)).toUInt32.toUInt16.toUInt32.toInt32)))) (fun h => by rw [Bd.returns] at h; cases h)
  refine ⟨_, _, ?_, hrun, hended, _, _, rfl, ?_, ⟨_, rfl⟩, hW, hsame.mono (by decide) (by decide)⟩
  · show Steps p.tables e below (T2.setTop (mkF m 14 #[.val (.ref t), .val (.int 0)] [(.int (((ch0.toInt8.toInt32) &&& (255 : Int32)).toUInt32.toUInt16.toUInt32.toInt32))])) _
    exact retN X2 hx (t := .char) Bd.returns (by simp) (hb hby d18_14) hrr
  · show QrmLC_1_0 Z ch0 h0 n0 _ T2.heap _
    rw [e2]
    exact ⟨congrArg (fun z => some (Value.int z)) (own_lat ch0 hp0.1 hl0), N2, rfl⟩
theorem d16_0 : decode jdk_42_method_56_code 0 = .ok (.aload_n 0, 1) := by decide +kernel
theorem d16_1 : decode jdk_42_method_56_code 1 = .ok (.invokevirtual 492, 3) := by decide +kernel
theorem d16_4 : decode jdk_42_method_56_code 4 = .ok (.ifCond .eq 12, 3) := by decide +kernel
theorem d16_7 : decode jdk_42_method_56_code 7 = .ok (.aload_n 0, 1) := by decide +kernel
theorem d16_8 : decode jdk_42_method_56_code 8 = .ok (.getfield 9, 3) := by decide +kernel
theorem d16_11 : decode jdk_42_method_56_code 11 = .ok (.iload_n 1, 1) := by decide +kernel
theorem d16_12 : decode jdk_42_method_56_code 12 = .ok (.invokestatic 495, 3) := by decide +kernel
theorem d16_15 : decode jdk_42_method_56_code 15 = .ok (.ireturn, 1) := by decide +kernel
theorem d16_16 : decode jdk_42_method_56_code 16 = .ok (.aload_n 0, 1) := by decide +kernel
theorem d16_17 : decode jdk_42_method_56_code 17 = .ok (.getfield 9, 3) := by decide +kernel
theorem d16_20 : decode jdk_42_method_56_code 20 = .ok (.iload_n 1, 1) := by decide +kernel
theorem d16_21 : decode jdk_42_method_56_code 21 = .ok (.invokestatic 498, 3) := by decide +kernel
theorem d16_24 : decode jdk_42_method_56_code 24 = .ok (.ireturn, 1) := by decide +kernel
theorem own_pn16 : plainName "java/lang/String" = true := by first | (simp [plainName, overriddenIn]; done) | decide +kernel
theorem own_ef16 (m : MethodId) (x0 : Addr) (x1 : Int32) : entryFrame m #[(.ref x0), (.int x1)] 2 = mkF m 0 #[.val (.ref x0), .val (.int x1)] [] := by first | (simp [entryFrame, mkF, argsToLocals, Value.category]; done) | rfl
def QrmSC_1_0 (Z : State) (ch0 : Int32) (h0 : Heap) (n0 : Nat) (v : Option Value) (h : Heap) (L : List Loc) : Prop := v = some (.int ch0) ∧ Fr n0 L ∧ h = h0
set_option maxRecDepth 65536 in
set_option maxHeartbeats 40000000 in
theorem rmSC_1_0 (l : Launch) (Z : State) (a0 : Array Value) (hw : ∀ d ∈ tables_1, d.before a0 Z = true) (ws : List Jvm.Cond) (a : Addr) (ch0 cs : Int32) (fm : Value) (h0 : Heap) (n0 : Nat) (Z0 : n0 ≤ h0.size) (Ex : Exa Z h0 a "java/lang/String") (St : own_Str1 Z h0 a ch0) (hcs : ¬ (cs = (0 : Int32))) (S_cs : Sta Z h0 "java/lang/String" "COMPACT_STRINGS" "Z" (.int cs)) (hp0 : ¬ ch0 < 0 ∧ ¬ (65535 : Int32) < ch0) (S_fm : Sta Z h0 "jdk/internal/util/Preconditions" "SIOOBE_FORMATTER" "Ljava/util/function/BiFunction;" fm) (rfm : fm.isRef = true) (S_ad : Sta Z h0 "java/lang/StringUTF16" "$assertionsDisabled" "Z" (.int 1)) (S_hi : Sta Z h0 "java/lang/StringUTF16" "HI_BYTE_SHIFT" "I" (.int 0)) (S_lo : Sta Z h0 "java/lang/StringUTF16" "LO_BYTE_SHIFT" "I" (.int 8)) :
    MetFree l (⟨"java/lang/String", "charAt", "(I)C"⟩ : MethodName) (head1 (Jvm.Cond.code (⟨"java/lang/String", "charAt", "(I)C"⟩ : MethodName) jdk_42_method_56_code 2 (some .char) :: ws) ({ frames := 4, cells := 0, slots := 0, locals := 53 } : Room)) (fun ar_ U_ => ar_ = #[(.ref a), (.int 0)] ∧ Z.Warmed39 U_.vm ∧ U_.heap = h0) (fun _ _ _ _ _ => True) (fun _ U_ ou_ V_ => ∃ v_ L_, ou_ = .returned v_ ∧ QrmSC_1_0 Z ch0 h0 n0 v_ V_.heap L_ ∧ FrameEnd U_ ou_ V_ L_ ({ frames := 4, cells := 0, slots := 0, locals := 53 } : Room).cells ({ frames := 4, cells := 0, slots := 0, locals := 53 } : Room).slots) := by
  refine MetFree.of_bodySF (plainFor_of_name own_pn16) hisR ?_
  intro p e s m args below meth c s₁ Bd hml0 hP hK
  obtain ⟨rfl, hZ, hh⟩ := hP
  have hx := Bd.exec
  have hby := Bd.bytes
  have hml : c.maxLocals = 2 := hml0
  have hown : s.vm.findClass "java/lang/String" = some m.cls := findClass_of_methodNamed Bd.named
  have hnm := (name_of_methodNamed Bd.named Bd.method).1
  have X0 : Stand p l e ({ frames := 4, cells := 0, slots := 0, locals := 53 } : Room) s m #[(.ref a), (.int 0)] below meth c s₁ [] 0 0 := Stand.of_body Bd
  have e0 : s₁.heap = h0 := by rw [← hh, Bd.state]; rfl
  have N0 := Fr.nil n0
  refine own_go (A := s₁.setTop (mkF m 0 #[.val (.ref a), .val (.int 0)] [])) (fun _ kz => castTop (own_ef16 m a (0 : Int32)) kz) ?_
  obtain ⟨t, kt, ⟨hwd, Fv, Fc, At⟩ | ⟨hl0, Fv, Fc, At⟩⟩ := St
  · skip
    refine own_go (A := s₁.setTop (mkF m 1 #[.val (.ref a), .val (.int 0)] [(.ref a)])) (fun _ kz => ?_) ?_
    · refine XS.aloadN X0.here hx rfl (hb hby d16_0) rfl rfl ?_
      exact kz
    obtain ⟨cq1, kq1, q1a, q1b, q1c⟩ := isOf hZ e0 Ex
    obtain ⟨_, _, ⟨T1, L1, k1, n1⟩, -, X1, ⟨Lc1, hQ1, l1, y1, z1⟩, st1⟩ := X0.virtualBack hx (y := (⟨"java/lang/String", "isLatin1", "()Z"⟩ : MethodName)) (z := (⟨"java/lang/String", "isLatin1", "()Z"⟩ : MethodName)) hown (mvT hZ (own_w hw 93 rfl)) (mvT hZ (own_w hw 94 rfl)) (notFace_of_selects (args := #[]) (mvT hZ (own_w hw 96 rfl))) (mvT hZ (own_w hw 96 rfl)) (mvT hZ (own_w hw 95 rfl)) (by decide) (backOf (W := 0) (rmIL_W l Z a0 hw [] a cs h0 n0 Z0 Fc hcs S_cs) hZ (own_w hw 97 rfl) (own_w hw 7 rfl) (by decide) (by decide)) q1a q1c (g := (mkF m 1 #[.val (.ref a), .val (.int 0)] [(.ref a)])) rfl (by rw [hml]; rfl) (Steps.refl _) (argsL := []) (rest := []) (lenOf own_pd14 rfl) rfl (by show 2 * 0 + _ ≤ _; exact Nat.le_of_eq rfl) (hb hby d16_1) (fun _ _ => ⟨rfl, e0, (by decide : 0 + 0 ≤ _), (by decide : 0 + 0 ≤ _)⟩)
    dsimp only [Pt.U, Pt.locs, Pt.cells, Pt.slots] at X1 l1 y1 z1 st1 hQ1
    subst l1 y1 z1
    obtain ⟨rfl, N1q, e1⟩ := hQ1
    have N1 := Fr.app N0 N1q
    refine own_go (A := T1.setTop (mkF m 4 #[.val (.ref a), .val (.int 0)] [(.int 0)])) (fun _ kz => st1.trans kz) ?_
    refine own_go (A := T1.setTop (mkF m 17 #[.val (.ref a), .val (.int 0)] [(.ref a)])) (fun _ kz => ?_) ?_
    · refine XS.ifYes X1.here hx rfl (pc0 := 4) (pc' := 16) rfl (hb hby d16_4) rfl ((if0 _ _).trans (teq (by decide : ((0 : Int32) = (0 : Int32)))).1) (by decide) (by decide) ?_
      refine XS.aloadN X1.here hx rfl (hb hby d16_16) rfl rfl ?_
      exact kz
    obtain ⟨T2, X2, e2, st2⟩ := getF X1 hx hZ hown (host := "") (Or.inl (own_w hw 33 rfl)) Via.refl e1 Fv (g := (mkF m 17 #[.val (.ref a), .val (.int 0)] [(.ref a)])) rfl rfl (hb hby d16_17)
    refine own_go (A := T2.setTop (mkF m 20 #[.val (.ref a), .val (.int 0)] [(.ref t)])) (fun _ kz => st2 _ kz) ?_
    refine own_go (A := T2.setTop (mkF m 21 #[.val (.ref a), .val (.int 0)] [(.int 0), (.ref t)])) (fun _ kz => ?_) ?_
    · refine XS.iloadN X2.here hx rfl (hb hby d16_20) rfl ?_
      exact kz
    obtain ⟨_, _, ⟨T3, L3, k3, n3⟩, -, X3, ⟨Lc3, hQ3, l3, y3, z3⟩, st3⟩ := Jvm.LawKit.callS X2 hx (y := (⟨"java/lang/StringUTF16", "charAt", "([BI)C"⟩ : MethodName)) hown (mvT hZ (own_w hw 154 rfl)) (mvT hZ (own_w hw 155 rfl)) (mvT hZ (own_w hw 22 rfl)) (mvT hZ (own_w hw 156 rfl)) (by decide) (backOf (W := 0) (rmUC_1_0 l Z a0 hw [] t kt ch0 fm h0 n0 Z0 At  hp0 S_fm rfm S_ad S_hi S_lo) hZ (own_w hw 156 rfl) (own_w hw 22 rfl) (by decide) (by decide)) (g := (mkF m 21 #[.val (.ref a), .val (.int 0)] [(.int 0), (.ref t)])) rfl (by rw [hml]; rfl) (argsL := [(.ref t), (.int 0)]) (rest := []) (lenOf own_pd5 rfl) rfl (by show 2 * 0 + _ ≤ _; exact Nat.le_of_eq rfl) (hb hby d16_21) (fun _ _ => ⟨rfl, e2, (by decide : 0 + 0 ≤ _), (by decide : 0 + 0 ≤ _)⟩)
    dsimp only [Pt.U, Pt.locs, Pt.cells, Pt.slots] at X3 l3 y3 z3 st3 hQ3
    subst l3 y3 z3
    obtain ⟨rfl, N3q, e3⟩ := hQ3
    have N3 := Fr.app N1 N3q
    refine own_go (A := T3.setTop (mkF m 24 #[.val (.ref a), .val (.int 0)] [(.int ch0)])) (fun _ kz => st3 _ kz) ?_
    obtain ⟨fs, hrr, hrun, hended, hW, hsame⟩ := X3.leave (v := some (.int (nar .char ch0))) (fun h => by rw [Bd.returns] at h; cases h)
    refine ⟨_, _, ?_, hrun, hended, _, _, rfl, ?_, ⟨_, rfl⟩, hW, hsame.mono (by decide) (by decide)⟩
    · show Steps p.tables e below (T3.setTop (mkF m 24 #[.val (.ref a), .val (.int 0)] [(.int ch0)])) _
      exact retN X3 hx (t := .char) Bd.returns (by simp) (hb hby d16_24) hrr
    · show QrmSC_1_0 Z ch0 h0 n0 _ T3.heap _
      rw [e3]
      exact ⟨congrArg (fun z => some (Value.int z)) (own_narc ch0 hp0.1 hp0.2), N3, rfl⟩
  · skip
    refine own_go (A := s₁.setTop (mkF m 1 #[.val (.ref a), .val (.int 0)] [(.ref a)])) (fun _ kz => ?_) ?_
    · refine XS.aloadN X0.here hx rfl (hb hby d16_0) rfl rfl ?_
      exact kz
    obtain ⟨cq4, kq4, q4a, q4b, q4c⟩ := isOf hZ e0 Ex
    obtain ⟨_, _, ⟨T4, L4, k4, n4⟩, -, X4, ⟨Lc4, hQ4, l4, y4, z4⟩, st4⟩ := X0.virtualBack hx (y := (⟨"java/lang/String", "isLatin1", "()Z"⟩ : MethodName)) (z := (⟨"java/lang/String", "isLatin1", "()Z"⟩ : MethodName)) hown (mvT hZ (own_w hw 93 rfl)) (mvT hZ (own_w hw 94 rfl)) (notFace_of_selects (args := #[]) (mvT hZ (own_w hw 96 rfl))) (mvT hZ (own_w hw 96 rfl)) (mvT hZ (own_w hw 95 rfl)) (by decide) (backOf (W := 0) (rmIL_L l Z a0 hw [] a cs h0 n0 Z0 Fc hcs S_cs) hZ (own_w hw 97 rfl) (own_w hw 7 rfl) (by decide) (by decide)) q4a q4c (g := (mkF m 1 #[.val (.ref a), .val (.int 0)] [(.ref a)])) rfl (by rw [hml]; rfl) (Steps.refl _) (argsL := []) (rest := []) (lenOf own_pd14 rfl) rfl (by show 2 * 0 + _ ≤ _; exact Nat.le_of_eq rfl) (hb hby d16_1) (fun _ _ => ⟨rfl, e0, (by decide : 0 + 0 ≤ _), (by decide : 0 + 0 ≤ _)⟩)
    dsimp only [Pt.U, Pt.locs, Pt.cells, Pt.slots] at X4 l4 y4 z4 st4 hQ4
    subst l4 y4 z4
    obtain ⟨rfl, N4q, e4⟩ := hQ4
    have N4 := Fr.app N0 N4q
    refine own_go (A := T4.setTop (mkF m 4 #[.val (.ref a), .val (.int 0)] [(.int 1)])) (fun _ kz => st4.trans kz) ?_
    refine own_go (A := T4.setTop (mkF m 8 #[.val (.ref a), .val (.int 0)] [(.ref a)])) (fun _ kz => ?_) ?_
    · refine XS.ifNo X4.here hx rfl (hb hby d16_4) rfl ((if0 _ _).trans (feq (by decide : ¬ ((1 : Int32) = (0 : Int32)))).1) ?_
      refine XS.aloadN X4.here hx rfl (hb hby d16_7) rfl rfl ?_
      exact kz
    obtain ⟨T5, X5, e5, st5⟩ := getF X4 hx hZ hown (host := "") (Or.inl (own_w hw 33 rfl)) Via.refl e4 Fv (g := (mkF m 8 #[.val (.ref a), .val (.int 0)] [(.ref a)])) rfl rfl (hb hby d16_8)
    refine own_go (A := T5.setTop (mkF m 11 #[.val (.ref a), .val (.int 0)] [(.ref t)])) (fun _ kz => st5 _ kz) ?_
    refine own_go (A := T5.setTop (mkF m 12 #[.val (.ref a), .val (.int 0)] [(.int 0), (.ref t)])) (fun _ kz => ?_) ?_
    · refine XS.iloadN X5.here hx rfl (hb hby d16_11) rfl ?_
      exact kz
    obtain ⟨_, _, ⟨T6, L6, k6, n6⟩, -, X6, ⟨Lc6, hQ6, l6, y6, z6⟩, st6⟩ := Jvm.LawKit.callS X5 hx (y := (⟨"java/lang/StringLatin1", "charAt", "([BI)C"⟩ : MethodName)) hown (mvT hZ (own_w hw 98 rfl)) (mvT hZ (own_w hw 99 rfl)) (mvT hZ (own_w hw 100 rfl)) (mvT hZ (own_w hw 101 rfl)) (by decide) (backOf (W := 0) (rmLC_1_0 l Z a0 hw [] t kt ch0 fm h0 n0 Z0 At hl0 hp0 S_fm rfm ) hZ (own_w hw 101 rfl) (own_w hw 100 rfl) (by decide) (by decide)) (g := (mkF m 12 #[.val (.ref a), .val (.int 0)] [(.int 0), (.ref t)])) rfl (by rw [hml]; rfl) (argsL := [(.ref t), (.int 0)]) (rest := []) (lenOf own_pd5 rfl) rfl (by show 2 * 0 + _ ≤ _; exact Nat.le_of_eq rfl) (hb hby d16_12) (fun _ _ => ⟨rfl, e5, (by decide : 0 + 0 ≤ _), (by decide : 0 + 0 ≤ _)⟩)
    dsimp only [Pt.U, Pt.locs, Pt.cells, Pt.slots] at X6 l6 y6 z6 st6 hQ6
    subst l6 y6 z6
    obtain ⟨rfl, N6q, e6⟩ := hQ6
    have N6 := Fr.app N4 N6q
    refine own_go (A := T6.setTop (mkF m 15 #[.val (.ref a), .val (.int 0)] [(.int ch0)])) (fun _ kz => st6 _ kz) ?_
    obtain ⟨fs, hrr, hrun, hended, hW, hsame⟩ := X6.leave (v := some (.int (nar .char ch0))) (fun h => by rw [Bd.returns] at h; cases h)
    refine ⟨_, _, ?_, hrun, hended, _, _, rfl, ?_, ⟨_, rfl⟩, hW, hsame.mono (by decide) (by decide)⟩
    · show Steps p.tables e below (T6.setTop (mkF m 15 #[.val (.ref a), .val (.int 0)] [(.int ch0)])) _
      exact retN X6 hx (t := .char) Bd.returns (by simp) (hb hby d16_15) hrr
    · show QrmSC_1_0 Z ch0 h0 n0 _ T6.heap _
      rw [e6]
      exact ⟨congrArg (fun z => some (Value.int z)) (own_narc ch0 hp0.1 hp0.2), N6, rfl⟩
def QrmLn_2 (Z : State)  (h0 : Heap) (n0 : Nat) (v : Option Value) (h : Heap) (L : List Loc) : Prop := v = some (.int 2) ∧ Fr n0 L ∧ h = h0
set_option maxRecDepth 65536 in
set_option maxHeartbeats 40000000 in
theorem rmLn_2 (l : Launch) (Z : State) (a0 : Array Value) (hw : ∀ d ∈ tables_1, d.before a0 Z = true) (ws : List Jvm.Cond) (a : Addr) (ch0 ch1 cs : Int32) (h0 : Heap) (n0 : Nat) (Z0 : n0 ≤ h0.size) (Ex : Exa Z h0 a "java/lang/String") (St : own_Str2 Z h0 a ch0 ch1) (hcs : ¬ (cs = (0 : Int32))) (S_cs : Sta Z h0 "java/lang/String" "COMPACT_STRINGS" "Z" (.int cs)) :
    MetFree l (⟨"java/lang/String", "length", "()I"⟩ : MethodName) (head1 (Jvm.Cond.code (⟨"java/lang/String", "length", "()I"⟩ : MethodName) jdk_42_method_54_code 1 (some .int) :: ws) ({ frames := 1, cells := 0, slots := 0, locals := 13 } : Room)) (fun ar_ U_ => ar_ = #[(.ref a)] ∧ Z.Warmed39 U_.vm ∧ U_.heap = h0) (fun _ _ _ _ _ => True) (fun _ U_ ou_ V_ => ∃ v_ L_, ou_ = .returned v_ ∧ QrmLn_2 Z  h0 n0 v_ V_.heap L_ ∧ FrameEnd U_ ou_ V_ L_ ({ frames := 1, cells := 0, slots := 0, locals := 13 } : Room).cells ({ frames := 1, cells := 0, slots := 0, locals := 13 } : Room).slots) := by
  refine MetFree.of_bodySF (plainFor_of_name own_pn13) hisR ?_
  intro p e s m args below meth c s₁ Bd hml0 hP hK
  obtain ⟨rfl, hZ, hh⟩ := hP
  have hx := Bd.exec
  have hby := Bd.bytes
  have hml : c.maxLocals = 1 := hml0
  have hown : s.vm.findClass "java/lang/String" = some m.cls := findClass_of_methodNamed Bd.named
  have hnm := (name_of_methodNamed Bd.named Bd.method).1
  have X0 : Stand p l e ({ frames := 1, cells := 0, slots := 0, locals := 13 } : Room) s m #[(.ref a)] below meth c s₁ [] 0 0 := Stand.of_body Bd
  have e0 : s₁.heap = h0 := by rw [← hh, Bd.state]; rfl
  have N0 := Fr.nil n0
  refine own_go (A := s₁.setTop (mkF m 0 #[.val (.ref a)] [])) (fun _ kz => castTop (own_ef13 m a) kz) ?_
  obtain ⟨t, kt, ⟨hwd, Fv, Fc, At⟩ | ⟨hl0, hl1, Fv, Fc, At⟩⟩ := St
  · skip
    refine own_go (A := s₁.setTop (mkF m 1 #[.val (.ref a)] [(.ref a)])) (fun _ kz => ?_) ?_
    · refine XS.aloadN X0.here hx rfl (hb hby d13_0) rfl rfl ?_
      exact kz
    obtain ⟨T1, X1, e1, st1⟩ := getF X0 hx hZ hown (host := "") (Or.inl (own_w hw 33 rfl)) Via.refl e0 Fv (g := (mkF m 1 #[.val (.ref a)] [(.ref a)])) rfl rfl (hb hby d13_1)
    refine own_go (A := T1.setTop (mkF m 4 #[.val (.ref a)] [(.ref t)])) (fun _ kz => st1 _ kz) ?_
    obtain ⟨cl2, Ar2, -, S2, M2, -, -⟩ := id At
    refine own_go (A := T1.setTop (mkF m 5 #[.val (.ref a)] [(.int 4)])) (fun _ kz => ?_) ?_
    · refine X1.arraylength hx (by rw [e1]; exact Ar2.1) (State.isArrayOf_alike hZ.alike Ar2.2.1) (g := (mkF m 4 #[.val (.ref a)] [(.ref t)])) rfl rfl (hb hby d13_4) _ ?_
      rw [len_of S2 M2]
      exact kz
    refine own_go (A := T1.setTop (mkF m 6 #[.val (.ref a)] [(.ref a), (.int 4)])) (fun _ kz => ?_) ?_
    · refine XS.aloadN X1.here hx rfl (hb hby d13_5) rfl rfl ?_
      exact kz
    obtain ⟨cq3, kq3, q3a, q3b, q3c⟩ := isOf hZ e1 Ex
    obtain ⟨_, _, ⟨T3, L3, k3, n3⟩, -, X3, ⟨Lc3, hQ3, l3, y3, z3⟩, st3⟩ := X1.virtualBack hx (y := (⟨"java/lang/String", "coder", "()B"⟩ : MethodName)) (z := (⟨"java/lang/String", "coder", "()B"⟩ : MethodName)) hown (mvT hZ (own_w hw 78 rfl)) (mvT hZ (own_w hw 79 rfl)) (notFace_of_selects (args := #[]) (mvT hZ (own_w hw 81 rfl))) (mvT hZ (own_w hw 81 rfl)) (mvT hZ (own_w hw 80 rfl)) (by decide) (backOf (W := 1) (rmCd_W l Z a0 hw [] a cs h0 n0 Z0 Fc hcs S_cs) hZ (own_w hw 82 rfl) (own_w hw 7 rfl) (by decide) (by decide)) q3a q3c (g := (mkF m 6 #[.val (.ref a)] [(.ref a), (.int 4)])) rfl (by rw [hml]; rfl) (Steps.refl _) (argsL := []) (rest := [(.int 4)]) (lenOf own_pd10 rfl) rfl (by show 2 * 0 + _ ≤ _; exact Nat.le_of_eq rfl) (hb hby d13_6) (fun _ _ => ⟨rfl, e1, (by decide : 0 + 0 ≤ _), (by decide : 0 + 0 ≤ _)⟩)
    dsimp only [Pt.U, Pt.locs, Pt.cells, Pt.slots] at X3 l3 y3 z3 st3 hQ3
    subst l3 y3 z3
    obtain ⟨rfl, N3q, e3⟩ := hQ3
    have N3 := Fr.app N0 N3q
    refine own_go (A := T3.setTop (mkF m 9 #[.val (.ref a)] [(.int 1), (.int 4)])) (fun _ kz => st3.trans kz) ?_
    refine own_go (A := T3.setTop (mkF m 10 #[.val (.ref a)] [(.int 2)])) (fun _ kz => ?_) ?_
    · refine XS.ishr X3.here hx rfl (hb hby d13_9) rfl ?_
      exact kz
    obtain ⟨fs, hrr, hrun, hended, hW, hsame⟩ := X3.leave (v := some (.int 2)) (fun h => by rw [Bd.returns] at h; cases h)
    refine ⟨_, _, ?_, hrun, hended, _, _, rfl, ?_, ⟨_, rfl⟩, hW, hsame.mono (by decide) (by decide)⟩
    · show Steps p.tables e below (T3.setTop (mkF m 10 #[.val (.ref a)] [(.int 2)])) _
      exact retI X3 hx Bd.returns (hb hby d13_10) hrr
    · show QrmLn_2 Z  h0 n0 _ T3.heap _
      rw [e3]
      exact ⟨rfl, N3, rfl⟩
  · skip
    refine own_go (A := s₁.setTop (mkF m 1 #[.val (.ref a)] [(.ref a)])) (fun _ kz => ?_) ?_
    · show Steps p.tables e below (s₁.setTop (mkF m 0 #[.val (.ref a)] [])) _
      refine XS.aloadN X0.here hx rfl (hb hby d13_0) rfl rfl ?_
      exact kz
    obtain ⟨T4, X4, e4, st4⟩ := getF X0 hx hZ hown (host := "") (Or.inl (own_w hw 33 rfl)) Via.refl e0 Fv (g := (mkF m 1 #[.val (.ref a)] [(.ref a)])) rfl rfl (hb hby d13_1)
    refine own_go (A := T4.setTop (mkF m 4 #[.val (.ref a)] [(.ref t)])) (fun _ kz => st4 _ kz) ?_
    obtain ⟨cl5, Ar5, -, S5, M5, -, -⟩ := id At
    refine own_go (A := T4.setTop (mkF m 5 #[.val (.ref a)] [(.int 2)])) (fun _ kz => ?_) ?_
    · refine X4.arraylength hx (by rw [e4]; exact Ar5.1) (State.isArrayOf_alike hZ.alike Ar5.2.1) (g := (mkF m 4 #[.val (.ref a)] [(.ref t)])) rfl rfl (hb hby d13_4) _ ?_
      rw [len_of S5 M5]
      exact kz
    refine own_go (A := T4.setTop (mkF m 6 #[.val (.ref a)] [(.ref a), (.int 2)])) (fun _ kz => ?_) ?_
    · refine XS.aloadN X4.here hx rfl (hb hby d13_5) rfl rfl ?_
      exact kz
    obtain ⟨cq6, kq6, q6a, q6b, q6c⟩ := isOf hZ e4 Ex
    obtain ⟨_, _, ⟨T6, L6, k6, n6⟩, -, X6, ⟨Lc6, hQ6, l6, y6, z6⟩, st6⟩ := X4.virtualBack hx (y := (⟨"java/lang/String", "coder", "()B"⟩ : MethodName)) (z := (⟨"java/lang/String", "coder", "()B"⟩ : MethodName)) hown (mvT hZ (own_w hw 78 rfl)) (mvT hZ (own_w hw 79 rfl)) (notFace_of_selects (args := #[]) (mvT hZ (own_w hw 81 rfl))) (mvT hZ (own_w hw 81 rfl)) (mvT hZ (own_w hw 80 rfl)) (by decide) (backOf (W := 1) (rmCd_L l Z a0 hw [] a cs h0 n0 Z0 Fc hcs S_cs) hZ (own_w hw 82 rfl) (own_w hw 7 rfl) (by decide) (by decide)) q6a q6c (g := (mkF m 6 #[.val (.ref a)] [(.ref a), (.int 2)])) rfl (by rw [hml]; rfl) (Steps.refl _) (argsL := []) (rest := [(.int 2)]) (lenOf own_pd10 rfl) rfl (by show 2 * 0 + _ ≤ _; exact Nat.le_of_eq rfl) (hb hby d13_6) (fun _ _ => ⟨rfl, e4, (by decide : 0 + 0 ≤ _), (by decide : 0 + 0 ≤ _)⟩)
    dsimp only [Pt.U, Pt.locs, Pt.cells, Pt.slots] at X6 l6 y6 z6 st6 hQ6
    subst l6 y6 z6
    obtain ⟨rfl, N6q, e6⟩ := hQ6
    have N6 := Fr.app N0 N6q
    refine own_go (A := T6.setTop (mkF m 9 #[.val (.ref a)] [(.int 0), (.int 2)])) (fun _ kz => st6.trans kz) ?_
    refine own_go (A := T6.setTop (mkF m 10 #[.val (.ref a)] [(.int 2)])) (fun _ kz => ?_) ?_
    · refine XS.ishr X6.here hx rfl (hb hby d13_9) rfl ?_
      exact kz
    obtain ⟨fs, hrr, hrun, hended, hW, hsame⟩ := X6.leave (v := some (.int 2)) (fun h => by rw [Bd.returns] at h; cases h)
    refine ⟨_, _, ?_, hrun, hended, _, _, rfl, ?_, ⟨_, rfl⟩, hW, hsame.mono (by decide) (by decide)⟩
    · show Steps p.tables e below (T6.setTop (mkF m 10 #[.val (.ref a)] [(.int 2)])) _
      exact retI X6 hx Bd.returns (hb hby d13_10) hrr
    · show QrmLn_2 Z  h0 n0 _ T6.heap _
      rw [e6]
      exact ⟨rfl, N6, rfl⟩
def QrmUL_2 (Z : State)  (h0 : Heap) (n0 : Nat) (v : Option Value) (h : Heap) (L : List Loc) : Prop := v = some (.int 2) ∧ Fr n0 L ∧ h = h0
set_option maxRecDepth 65536 in
set_option maxHeartbeats 40000000 in
theorem rmUL_2 (l : Launch) (Z : State) (a0 : Array Value) (hw : ∀ d ∈ tables_1, d.before a0 Z = true) (ws : List Jvm.Cond) (t : Addr) (kt : ClassId) (w0 w1 w2 w3 : Value) (h0 : Heap) (n0 : Nat) (Z0 : n0 ≤ h0.size) (At : Arv Z h0 t kt .byte (4 : Int32) [w0, w1, w2, w3] (.int 0)) :
    MetFree l (⟨"java/lang/StringUTF16", "length", "([B)I"⟩ : MethodName) (head1 (Jvm.Cond.code (⟨"java/lang/StringUTF16", "length", "([B)I"⟩ : MethodName) jdk_52_method_6_code 1 (some .int) :: ws) ({ frames := 0, cells := 0, slots := 0, locals := 0 } : Room)) (fun ar_ U_ => ar_ = #[(.ref t)] ∧ Z.Warmed39 U_.vm ∧ U_.heap = h0) (fun _ _ _ _ _ => True) (fun _ U_ ou_ V_ => ∃ v_ L_, ou_ = .returned v_ ∧ QrmUL_2 Z  h0 n0 v_ V_.heap L_ ∧ FrameEnd U_ ou_ V_ L_ ({ frames := 0, cells := 0, slots := 0, locals := 0 } : Room).cells ({ frames := 0, cells := 0, slots := 0, locals := 0 } : Room).slots) := by
  refine MetFree.of_bodySF (plainFor_of_name own_pn31) hisR ?_
  intro p e s m args below meth c s₁ Bd hml0 hP hK
  obtain ⟨rfl, hZ, hh⟩ := hP
  have hx := Bd.exec
  have hby := Bd.bytes
  have hml : c.maxLocals = 1 := hml0
  have hown : s.vm.findClass "java/lang/StringUTF16" = some m.cls := findClass_of_methodNamed Bd.named
  have hnm := (name_of_methodNamed Bd.named Bd.method).1
  have X0 : Stand p l e ({ frames := 0, cells := 0, slots := 0, locals := 0 } : Room) s m #[(.ref t)] below meth c s₁ [] 0 0 := Stand.of_body Bd
  have e0 : s₁.heap = h0 := by rw [← hh, Bd.state]; rfl
  have N0 := Fr.nil n0
  refine own_go (A := s₁.setTop (mkF m 0 #[.val (.ref t)] [])) (fun _ kz => castTop (own_ef31 m t) kz) ?_
  refine own_go (A := s₁.setTop (mkF m 1 #[.val (.ref t)] [(.ref t)])) (fun _ kz => ?_) ?_
  · refine XS.aloadN X0.here hx rfl (hb hby d31_0) rfl rfl ?_
    exact kz
  obtain ⟨cl1, Ar1, -, S1, M1, -, -⟩ := id At
  refine own_go (A := s₁.setTop (mkF m 2 #[.val (.ref t)] [(.int 4)])) (fun _ kz => ?_) ?_
  · refine X0.arraylength hx (by rw [e0]; exact Ar1.1) (State.isArrayOf_alike hZ.alike Ar1.2.1) (g := (mkF m 1 #[.val (.ref t)] [(.ref t)])) rfl rfl (hb hby d31_1) _ ?_
    rw [len_of S1 M1]
    exact kz
  refine own_go (A := s₁.setTop (mkF m 4 #[.val (.ref t)] [(.int 2)])) (fun _ kz => ?_) ?_
  · refine XS.iconst X0.here hx rfl (hb hby d31_2) ?_
    refine XS.ishr X0.here hx rfl (hb hby d31_3) rfl ?_
    exact kz
  obtain ⟨fs, hrr, hrun, hended, hW, hsame⟩ := X0.leave (v := some (.int 2)) (fun h => by rw [Bd.returns] at h; cases h)
  refine ⟨_, _, ?_, hrun, hended, _, _, rfl, ?_, ⟨_, rfl⟩, hW, hsame.mono (by decide) (by decide)⟩
  · show Steps p.tables e below (s₁.setTop (mkF m 4 #[.val (.ref t)] [(.int 2)])) _
    exact retI X0 hx Bd.returns (hb hby d31_4) hrr
  · show QrmUL_2 Z  h0 n0 _ s₁.heap _
    rw [e0]
    exact ⟨rfl, N0, rfl⟩
def QrmUK_2 (Z : State)  (h0 : Heap) (n0 : Nat) (v : Option Value) (h : Heap) (L : List Loc) : Prop := v = none ∧ Fr n0 L ∧ h = h0
set_option maxRecDepth 65536 in
set_option maxHeartbeats 40000000 in
theorem rmUK_2 (l : Launch) (Z : State) (a0 : Array Value) (hw : ∀ d ∈ tables_1, d.before a0 Z = true) (ws : List Jvm.Cond) (ix : Int32) (t : Addr) (kt : ClassId) (fm : Value) (w0 w1 w2 w3 : Value) (h0 : Heap) (n0 : Nat) (Z0 : n0 ≤ h0.size) (hi0 : ¬ ix < (0 : Int32)) (hi1 : ix < (2 : Int32)) (At : Arv Z h0 t kt .byte (4 : Int32) [w0, w1, w2, w3] (.int 0)) (S_fm : Sta Z h0 "jdk/internal/util/Preconditions" "SIOOBE_FORMATTER" "Ljava/util/function/BiFunction;" fm) (rfm : fm.isRef = true) :
    MetFree l (⟨"java/lang/StringUTF16", "checkIndex", "(I[B)V"⟩ : MethodName) (head1 (Jvm.Cond.code (⟨"java/lang/StringUTF16", "checkIndex", "(I[B)V"⟩ : MethodName) jdk_52_method_91_code 2 none :: ws) ({ frames := 2, cells := 0, slots := 0, locals := 27 } : Room)) (fun ar_ U_ => ar_ = #[(.int ix), (.ref t)] ∧ Z.Warmed39 U_.vm ∧ U_.heap = h0) (fun _ _ _ _ _ => True) (fun _ U_ ou_ V_ => ∃ v_ L_, ou_ = .returned v_ ∧ QrmUK_2 Z  h0 n0 v_ V_.heap L_ ∧ FrameEnd U_ ou_ V_ L_ ({ frames := 2, cells := 0, slots := 0, locals := 27 } : Room).cells ({ frames := 2, cells := 0, slots := 0, locals := 27 } : Room).slots) := by
  refine MetFree.of_bodySF (plainFor_of_name own_pn30) hisR ?_
  intro p e s m args below meth c s₁ Bd hml0 hP hK
  obtain ⟨rfl, hZ, hh⟩ := hP
  have hx := Bd.exec
  have hby := Bd.bytes
  have hml : c.maxLocals = 2 := hml0
  have hown : s.vm.findClass "java/lang/StringUTF16" = some m.cls := findClass_of_methodNamed Bd.named
  have hnm := (name_of_methodNamed Bd.named Bd.method).1
  have X0 : Stand p l e ({ frames := 2, cells := 0, slots := 0, locals := 27 } : Room) s m #[(.int ix), (.ref t)] below meth c s₁ [] 0 0 := Stand.of_body Bd
  have e0 : s₁.heap = h0 := by rw [← hh, Bd.state]; rfl
  have N0 := Fr.nil n0
  refine own_go (A := s₁.setTop (mkF m 0 #[.val (.int ix), .val (.ref t)] [])) (fun _ kz => castTop (own_ef30 m ix t) kz) ?_
  refine own_go (A := s₁.setTop (mkF m 2 #[.val (.int ix), .val (.ref t)] [(.ref t), (.int ix)])) (fun _ kz => ?_) ?_
  · refine XS.iloadN X0.here hx rfl (hb hby d30_0) rfl ?_
    refine XS.aloadN X0.here hx rfl (hb hby d30_1) rfl rfl ?_
    exact kz
  obtain ⟨_, _, ⟨T1, L1, k1, n1⟩, -, X1, ⟨Lc1, hQ1, l1, y1, z1⟩, st1⟩ := Jvm.LawKit.callS X0 hx (y := (⟨"java/lang/StringUTF16", "length", "([B)I"⟩ : MethodName)) hown (mvT hZ (own_w hw 160 rfl)) (mvT hZ (own_w hw 161 rfl)) (mvT hZ (own_w hw 22 rfl)) (mvT hZ (own_w hw 162 rfl)) (by decide) (backOf (W := 1) (rmUL_2 l Z a0 hw [] t kt w0 w1 w2 w3 h0 n0 Z0 At) hZ (own_w hw 162 rfl) (own_w hw 22 rfl) (by decide) (by decide)) (g := (mkF m 2 #[.val (.int ix), .val (.ref t)] [(.ref t), (.int ix)])) rfl (by rw [hml]; rfl) (argsL := [(.ref t)]) (rest := [(.int ix)]) (lenOf own_pd11 rfl) rfl (by show 2 * 0 + _ ≤ _; exact Nat.le_of_eq rfl) (hb hby d30_2) (fun _ _ => ⟨rfl, e0, (by decide : 0 + 0 ≤ _), (by decide : 0 + 0 ≤ _)⟩)
  dsimp only [Pt.U, Pt.locs, Pt.cells, Pt.slots] at X1 l1 y1 z1 st1 hQ1
  subst l1 y1 z1
  obtain ⟨rfl, N1q, e1⟩ := hQ1
  have N1 := Fr.app N0 N1q
  refine own_go (A := T1.setTop (mkF m 5 #[.val (.int ix), .val (.ref t)] [(.int 2), (.int ix)])) (fun _ kz => st1 _ kz) ?_
  obtain ⟨_, _, ⟨T2, L2, k2, n2⟩, -, X2, ⟨Lc2, hQ2, l2, y2, z2⟩, st2⟩ := Jvm.LawKit.callS X1 hx (y := (⟨"java/lang/String", "checkIndex", "(II)V"⟩ : MethodName)) hown (mvT hZ (own_w hw 163 rfl)) (mvT hZ (own_w hw 103 rfl)) (mvT hZ (own_w hw 7 rfl)) (mvT hZ (own_w hw 104 rfl)) (by decide) (backOf (W := 0) (rmSK l Z a0 hw [] ix (2 : Int32) fm h0 n0 Z0 hi0 hi1 S_fm rfm) hZ (own_w hw 104 rfl) (own_w hw 7 rfl) (by decide) (by decide)) (g := (mkF m 5 #[.val (.int ix), .val (.ref t)] [(.int 2), (.int ix)])) rfl (by rw [hml]; rfl) (argsL := [(.int ix), (.int 2)]) (rest := []) (lenOf own_pd12 rfl) rfl (by show 2 * 0 + _ ≤ _; exact Nat.le_of_eq rfl) (hb hby d30_5) (fun _ _ => ⟨rfl, e1, (by decide : 0 + 0 ≤ _), (by decide : 0 + 0 ≤ _)⟩)
  dsimp only [Pt.U, Pt.locs, Pt.cells, Pt.slots] at X2 l2 y2 z2 st2 hQ2
  subst l2 y2 z2
  obtain ⟨rfl, N2q, e2⟩ := hQ2
  have N2 := Fr.app N1 N2q
  refine own_go (A := T2.setTop (mkF m 8 #[.val (.int ix), .val (.ref t)] [])) (fun _ kz => st2 _ kz) ?_
  obtain ⟨fs, hrr, hrun, hended, hW, hsame⟩ := X2.leave (v := none) (fun _ => rfl)
  refine ⟨_, _, ?_, hrun, hended, _, _, rfl, ?_, ⟨_, rfl⟩, hW, hsame.mono (by decide) (by decide)⟩
  · show Steps p.tables e below (T2.setTop (mkF m 8 #[.val (.int ix), .val (.ref t)] [])) _
    exact X2.returnOut hx Bd.returns (hb hby d30_8) hrr
  · show QrmUK_2 Z  h0 n0 _ T2.heap _
    rw [e2]
    exact ⟨rfl, N2, rfl⟩
def QrmUC_2_0 (Z : State) (ch0 : Int32) (h0 : Heap) (n0 : Nat) (v : Option Value) (h : Heap) (L : List Loc) : Prop := v = some (.int ch0) ∧ Fr n0 L ∧ h = h0
set_option maxRecDepth 65536 in
set_option maxHeartbeats 40000000 in
theorem rmUC_2_0 (l : Launch) (Z : State) (a0 : Array Value) (hw : ∀ d ∈ tables_1, d.before a0 Z = true) (ws : List Jvm.Cond) (t : Addr) (kt : ClassId) (ch0 ch1 : Int32) (fm : Value) (h0 : Heap) (n0 : Nat) (Z0 : n0 ≤ h0.size) (At : Arv Z h0 t kt .byte (4 : Int32) [(.int (own_l ch0)), (.int (own_h ch0)), (.int (own_l ch1)), (.int (own_h ch1))] (.int 0)) (hp0 : ¬ ch0 < 0 ∧ ¬ (65535 : Int32) < ch0) (S_fm : Sta Z h0 "jdk/internal/util/Preconditions" "SIOOBE_FORMATTER" "Ljava/util/function/BiFunction;" fm) (rfm : fm.isRef = true) (S_ad : Sta Z h0 "java/lang/StringUTF16" "$assertionsDisabled" "Z" (.int 1)) (S_hi : Sta Z h0 "java/lang/StringUTF16" "HI_BYTE_SHIFT" "I" (.int 0)) (S_lo : Sta Z h0 "java/lang/StringUTF16" "LO_BYTE_SHIFT" "I" (.int 8)) :
    MetFree l (⟨"java/lang/StringUTF16", "charAt", "([BI)C"⟩ : MethodName) (head1 (Jvm.Cond.code (⟨"java/lang/StringUTF16", "charAt", "([BI)C"⟩ : MethodName) jdk_52_method_83_code 2 (some .char) :: ws) ({ frames := 3, cells := 0, slots := 0, locals := 40 } : Room)) (fun ar_ U_ => ar_ = #[(.ref t), (.int 0)] ∧ Z.Warmed39 U_.vm ∧ U_.heap = h0) (fun _ _ _ _ _ => True) (fun _ U_ ou_ V_ => ∃ v_ L_, ou_ = .returned v_ ∧ QrmUC_2_0 Z ch0 h0 n0 v_ V_.heap L_ ∧ FrameEnd U_ ou_ V_ L_ ({ frames := 3, cells := 0, slots := 0, locals := 40 } : Room).cells ({ frames := 3, cells := 0, slots := 0, locals := 40 } : Room).slots) := by
  refine MetFree.of_bodySF (plainFor_of_name own_pn29) hisR ?_
  intro p e s m args below meth c s₁ Bd hml0 hP hK
  obtain ⟨rfl, hZ, hh⟩ := hP
  have hx := Bd.exec
  have hby := Bd.bytes
  have hml : c.maxLocals = 2 := hml0
  have hown : s.vm.findClass "java/lang/StringUTF16" = some m.cls := findClass_of_methodNamed Bd.named
  have hnm := (name_of_methodNamed Bd.named Bd.method).1
  have X0 : Stand p l e ({ frames := 3, cells := 0, slots := 0, locals := 40 } : Room) s m #[(.ref t), (.int 0)] below meth c s₁ [] 0 0 := Stand.of_body Bd
  have e0 : s₁.heap = h0 := by rw [← hh, Bd.state]; rfl
  have N0 := Fr.nil n0
  refine own_go (A := s₁.setTop (mkF m 0 #[.val (.ref t), .val (.int 0)] [])) (fun _ kz => castTop (own_ef29 m t (0 : Int32)) kz) ?_
  refine own_go (A := s₁.setTop (mkF m 2 #[.val (.ref t), .val (.int 0)] [(.ref t), (.int 0)])) (fun _ kz => ?_) ?_
  · refine XS.iloadN X0.here hx rfl (hb hby d29_0) rfl ?_
    refine XS.aloadN X0.here hx rfl (hb hby d29_1) rfl rfl ?_
    exact kz
  obtain ⟨_, _, ⟨T1, L1, k1, n1⟩, -, X1, ⟨Lc1, hQ1, l1, y1, z1⟩, st1⟩ := Jvm.LawKit.callS X0 hx (y := (⟨"java/lang/StringUTF16", "checkIndex", "(I[B)V"⟩ : MethodName)) hown (mvT hZ (own_w hw 157 rfl)) (mvT hZ (own_w hw 158 rfl)) (mvT hZ (own_w hw 22 rfl)) (mvT hZ (own_w hw 159 rfl)) (by decide) (backOf (W := 0) (rmUK_2 l Z a0 hw [] (0 : Int32) t kt fm (.int (own_l ch0)) (.int (own_h ch0)) (.int (own_l ch1)) (.int (own_h ch1)) h0 n0 Z0 (by decide) (by decide) At S_fm rfm) hZ (own_w hw 159 rfl) (own_w hw 22 rfl) (by decide) (by decide)) (g := (mkF m 2 #[.val (.ref t), .val (.int 0)] [(.ref t), (.int 0)])) rfl (by rw [hml]; rfl) (argsL := [(.int 0), (.ref t)]) (rest := []) (lenOf own_pd13 rfl) rfl (by show 2 * 0 + _ ≤ _; exact Nat.le_of_eq rfl) (hb hby d29_2) (fun _ _ => ⟨rfl, e0, (by decide : 0 + 0 ≤ _), (by decide : 0 + 0 ≤ _)⟩)
  dsimp only [Pt.U, Pt.locs, Pt.cells, Pt.slots] at X1 l1 y1 z1 st1 hQ1
  subst l1 y1 z1
  obtain ⟨rfl, N1q, e1⟩ := hQ1
  have N1 := Fr.app N0 N1q
  refine own_go (A := T1.setTop (mkF m 5 #[.val (.ref t), .val (.int 0)] [])) (fun _ kz => st1 _ kz) ?_
  refine own_go (A := T1.setTop (mkF m 7 #[.val (.ref t), .val (.int 0)] [(.int 0), (.ref t)])) (fun _ kz => ?_) ?_
  · refine XS.aloadN X1.here hx rfl (hb hby d29_5) rfl rfl ?_
    refine XS.iloadN X1.here hx rfl (hb hby d29_6) rfl ?_
    exact kz
  obtain ⟨_, _, ⟨T2, L2, k2, n2⟩, -, X2, ⟨Lc2, hQ2, l2, y2, z2⟩, st2⟩ := Jvm.LawKit.callS X1 hx (y := (⟨"java/lang/StringUTF16", "getChar", "([BI)C"⟩ : MethodName)) hown (mvT hZ (own_w hw 151 rfl)) (mvT hZ (own_w hw 152 rfl)) (mvT hZ (own_w hw 22 rfl)) (mvT hZ (own_w hw 153 rfl)) (by decide) (backOf (W := 0) (rmGC_2_0 l Z a0 hw [] t kt ch0 (.int (own_l ch1)) (.int (own_h ch1)) h0 n0 Z0 At hp0 S_ad S_hi S_lo) hZ (own_w hw 153 rfl) (own_w hw 22 rfl) (by decide) (by decide)) (g := (mkF m 7 #[.val (.ref t), .val (.int 0)] [(.int 0), (.ref t)])) rfl (by rw [hml]; rfl) (argsL := [(.ref t), (.int 0)]) (rest := []) (lenOf own_pd5 rfl) rfl (by show 2 * 0 + _ ≤ _; exact Nat.le_of_eq rfl) (hb hby d29_7) (fun _ _ => ⟨rfl, e1, (by decide : 0 + 0 ≤ _), (by decide : 0 + 0 ≤ _)⟩)
  dsimp only [Pt.U, Pt.locs, Pt.cells, Pt.slots] at X2 l2 y2 z2 st2 hQ2
  subst l2 y2 z2
  obtain ⟨rfl, N2q, e2⟩ := hQ2
  have N2 := Fr.app N1 N2q
  refine own_go (A := T2.setTop (mkF m 10 #[.val (.ref t), .val (.int 0)] [(.int ch0)])) (fun _ kz => st2 _ kz) ?_
  obtain ⟨fs, hrr, hrun, hended, hW, hsame⟩ := X2.leave (v := some (.int (nar .char ch0))) (fun h => by rw [Bd.returns] at h; cases h)
  refine ⟨_, _, ?_, hrun, hended, _, _, rfl, ?_, ⟨_, rfl⟩, hW, hsame.mono (by decide) (by decide)⟩
  · show Steps p.tables e below (T2.setTop (mkF m 10 #[.val (.ref t), .val (.int 0)] [(.int ch0)])) _
    exact retN X2 hx (t := .char) Bd.returns (by simp) (hb hby d29_10) hrr
  · show QrmUC_2_0 Z ch0 h0 n0 _ T2.heap _
    rw [e2]
    exact ⟨congrArg (fun z => some (Value.int z)) (own_narc ch0 hp0.1 hp0.2), N2, rfl⟩
def QrmLC_2_0 (Z : State) (ch0 : Int32) (h0 : Heap) (n0 : Nat) (v : Option Value) (h : Heap) (L : List Loc) : Prop := v = some (.int ch0) ∧ Fr n0 L ∧ h = h0
set_option maxRecDepth 65536 in
set_option maxHeartbeats 40000000 in
theorem rmLC_2_0 (l : Launch) (Z : State) (a0 : Array Value) (hw : ∀ d ∈ tables_1, d.before a0 Z = true) (ws : List Jvm.Cond) (t : Addr) (kt : ClassId) (ch0 ch1 : Int32) (fm : Value) (h0 : Heap) (n0 : Nat) (Z0 : n0 ≤ h0.size) (At : Arv Z h0 t kt .byte (2 : Int32) [(.int (ch0.toInt8.toInt32)), (.int (ch1.toInt8.toInt32))] (.int 0)) (hl0 : ¬ (255 : Int32) < ch0) (hp0 : ¬ ch0 < 0 ∧ ¬ (65535 : Int32) < ch0) (S_fm : Sta Z h0 "jdk/internal/util/Preconditions" "SIOOBE_FORMATTER" "Ljava/util/function/BiFunction;" fm) (rfm : fm.isRef = true) :
    MetFree l (⟨"java/lang/StringLatin1", "charAt", "([BI)C"⟩ : MethodName) (head1 (Jvm.Cond.code (⟨"java/lang/StringLatin1", "charAt", "([BI)C"⟩ : MethodName) jdk_43_method_2_code 2 (some .char) :: ws) ({ frames := 2, cells := 0, slots := 0, locals := 27 } : Room)) (fun ar_ U_ => ar_ = #[(.ref t), (.int 0)] ∧ Z.Warmed39 U_.vm ∧ U_.heap = h0) (fun _ _ _ _ _ => True) (fun _ U_ ou_ V_ => ∃ v_ L_, ou_ = .returned v_ ∧ QrmLC_2_0 Z ch0 h0 n0 v_ V_.heap L_ ∧ FrameEnd U_ ou_ V_ L_ ({ frames := 2, cells := 0, slots := 0, locals := 27 } : Room).cells ({ frames := 2, cells := 0, slots := 0, locals := 27 } : Room).slots) := by
  refine MetFree.of_bodySF (plainFor_of_name own_pn18) hisR ?_
  intro p e s m args below meth c s₁ Bd hml0 hP hK
  obtain ⟨rfl, hZ, hh⟩ := hP
  have hx := Bd.exec
  have hby := Bd.bytes
  have hml : c.maxLocals = 2 := hml0
  have hown : s.vm.findClass "java/lang/StringLatin1" = some m.cls := findClass_of_methodNamed Bd.named
  have hnm := (name_of_methodNamed Bd.named Bd.method).1
  have X0 : Stand p l e ({ frames := 2, cells := 0, slots := 0, locals := 27 } : Room) s m #[(.ref t), (.int 0)] below meth c s₁ [] 0 0 := Stand.of_body Bd
  have e0 : s₁.heap = h0 := by rw [← hh, Bd.state]; rfl
  have N0 := Fr.nil n0
  refine own_go (A := s₁.setTop (mkF m 0 #[.val (.ref t), .val (.int 0)] [])) (fun _ kz => castTop (own_ef18 m t (0 : Int32)) kz) ?_
  refine own_go (A := s₁.setTop (mkF m 2 #[.val (.ref t), .val (.int 0)] [(.ref t), (.int 0)])) (fun _ kz => ?_) ?_
  · refine XS.iloadN X0.here hx rfl (hb hby d18_0) rfl ?_
    refine XS.aloadN X0.here hx rfl (hb hby d18_1) rfl rfl ?_
    exact kz
  obtain ⟨cl1, Ar1, -, S1, M1, -, -⟩ := id At
  refine own_go (A := s₁.setTop (mkF m 3 #[.val (.ref t), .val (.int 0)] [(.int 2), (.int 0)])) (fun _ kz => ?_) ?_
  · refine X0.arraylength hx (by rw [e0]; exact Ar1.1) (State.isArrayOf_alike hZ.alike Ar1.2.1) (g := (mkF m 2 #[.val (.ref t), .val (.int 0)] [(.ref t), (.int 0)])) rfl rfl (hb hby d18_2) _ ?_
    rw [len_of S1 M1]
    exact kz
  obtain ⟨_, _, ⟨T2, L2, k2, n2⟩, -, X2, ⟨Lc2, hQ2, l2, y2, z2⟩, st2⟩ := Jvm.LawKit.callS X0 hx (y := (⟨"java/lang/String", "checkIndex", "(II)V"⟩ : MethodName)) hown (mvT hZ (own_w hw 102 rfl)) (mvT hZ (own_w hw 103 rfl)) (mvT hZ (own_w hw 7 rfl)) (mvT hZ (own_w hw 104 rfl)) (by decide) (backOf (W := 0) (rmSK l Z a0 hw [] (0 : Int32) (2 : Int32) fm h0 n0 Z0 (by decide) (by decide) S_fm rfm) hZ (own_w hw 104 rfl) (own_w hw 7 rfl) (by decide) (by decide)) (g := (mkF m 3 #[.val (.ref t), .val (.int 0)] [(.int 2), (.int 0)])) rfl (by rw [hml]; rfl) (argsL := [(.int 0), (.int 2)]) (rest := []) (lenOf own_pd12 rfl) rfl (by show 2 * 0 + _ ≤ _; exact Nat.le_of_eq rfl) (hb hby d18_3) (fun _ _ => ⟨rfl, e0, (by decide : 0 + 0 ≤ _), (by decide : 0 + 0 ≤ _)⟩)
  dsimp only [Pt.U, Pt.locs, Pt.cells, Pt.slots] at X2 l2 y2 z2 st2 hQ2
  subst l2 y2 z2
  obtain ⟨rfl, N2q, e2⟩ := hQ2
  have N2 := Fr.app N0 N2q
  refine own_go (A := T2.setTop (mkF m 6 #[.val (.ref t), .val (.int 0)] [])) (fun _ kz => st2 _ kz) ?_
  refine own_go (A := T2.setTop (mkF m 8 #[.val (.ref t), .val (.int 0)] [(.int 0), (.ref t)])) (fun _ kz => ?_) ?_
  · refine XS.aloadN X2.here hx rfl (hb hby d18_6) rfl rfl ?_
    refine XS.iloadN X2.here hx rfl (hb hby d18_7) rfl ?_
    exact kz
  obtain ⟨cl3, Ar3, -, S3, M3, H3, -⟩ := id At
  have hin3 : ¬ ((0 : Int32) < 0 ∨ cl3.slots.size ≤ ((0 : Int32)).toNatClampNeg) := inb_of S3 ⟨by decide, by decide⟩
  have hat3 : cl3.slots[((0 : Int32)).toNatClampNeg]? = some (.int (ch0.toInt8.toInt32)) := H3.at hin3 rfl
  refine own_go (A := T2.setTop (mkF m 9 #[.val (.ref t), .val (.int 0)] [(.int (ch0.toInt8.toInt32))])) (fun _ kz => ?_) ?_
  · refine X2.baloadBytes hx (j := (0 : Int32)) (v := (.int (ch0.toInt8.toInt32))) (by rw [e2]; exact Ar3.1) (State.isArrayOf_alike hZ.alike Ar3.2.1) Ar3.2.2 hin3 hat3 (g := (mkF m 8 #[.val (.ref t), .val (.int 0)] [(.int 0), (.ref t)])) rfl rfl (hb hby d18_8) _ ?_
    exact kz
  refine own_go (A := T2.setTop (mkF m 14 #[.val (.ref t), .val (.int 0)] [(.int (((ch0.toInt8.toInt32) &&& (255 : Int32)).toUInt32.toUInt16.toUInt32.toInt32))])) (fun _ kz => ?_) ?_
  · refine XS.sipush X2.here hx rfl (hb hby d18_9) ?_
    refine XS.iand X2.here hx rfl (hb hby d18_12) rfl ?_
    refine XS.i2c X2.here hx rfl (hb hby d18_13) rfl ?_
    exact kz
  obtain ⟨fs, hrr, hrun, hended, hW, hsame⟩ := X2.leave (v := some (.int (nar .char (((ch0.toInt8.toInt32) &&& (255 : Int32)).toUInt32.toUInt16.toUInt32.toInt32)))) (fun h => by rw [Bd.returns] at h; cases h)
  refine ⟨_, _, ?_, hrun, hended, _, _, rfl, ?_, ⟨_, rfl⟩, hW, hsame.mono (by decide) (by decide)⟩
  · show Steps p.tables e below (T2.setTop (mkF m 14 #[.val (.ref t), .val (.int 0)] [(.int (((ch0.toInt8.toInt32) &&& (255 : Int32)).toUInt32.toUInt16.toUInt32.toInt32))])) _
    exact retN X2 hx (t := .char) Bd.returns (by simp) (hb hby d18_14) hrr
  · show QrmLC_2_0 Z ch0 h0 n0 _ T2.heap _
    rw [e2]
    exact ⟨congrArg (fun z => some (Value.int z)) (own_lat ch0 hp0.1 hl0), N2, rfl⟩
def QrmSC_2_0 (Z : State) (ch0 : Int32) (h0 : Heap) (n0 : Nat) (v : Option Value) (h : Heap) (L : List Loc) : Prop := v = some (.int ch0) ∧ Fr n0 L ∧ h = h0
set_option maxRecDepth 65536 in
set_option maxHeartbeats 40000000 in
theorem rmSC_2_0 (l : Launch) (Z : State) (a0 : Array Value) (hw : ∀ d ∈ tables_1, d.before a0 Z = true) (ws : List Jvm.Cond) (a : Addr) (ch0 ch1 cs : Int32) (fm : Value) (h0 : Heap) (n0 : Nat) (Z0 : n0 ≤ h0.size) (Ex : Exa Z h0 a "java/lang/String") (St : own_Str2 Z h0 a ch0 ch1) (hcs : ¬ (cs = (0 : Int32))) (S_cs : Sta Z h0 "java/lang/String" "COMPACT_STRINGS" "Z" (.int cs)) (hp0 : ¬ ch0 < 0 ∧ ¬ (65535 : Int32) < ch0) (S_fm : Sta Z h0 "jdk/internal/util/Preconditions" "SIOOBE_FORMATTER" "Ljava/util/function/BiFunction;" fm) (rfm : fm.isRef = true) (S_ad : Sta Z h0 "java/lang/StringUTF16" "$assertionsDisabled" "Z" (.int 1)) (S_hi : Sta Z h0 "java/lang/StringUTF16" "HI_BYTE_SHIFT" "I" (.int 0)) (S_lo : Sta Z h0 "java/lang/StringUTF16" "LO_BYTE_SHIFT" "I" (.int 8)) :
    MetFree l (⟨"java/lang/String", "charAt", "(I)C"⟩ : MethodName) (head1 (Jvm.Cond.code (⟨"java/lang/String", "charAt", "(I)C"⟩ : MethodName) jdk_42_method_56_code 2 (some .char) :: ws) ({ frames := 4, cells := 0, slots := 0, locals := 53 } : Room)) (fun ar_ U_ => ar_ = #[(.ref a), (.int 0)] ∧ Z.Warmed39 U_.vm ∧ U_.heap = h0) (fun _ _ _ _ _ => True) (fun _ U_ ou_ V_ => ∃ v_ L_, ou_ = .returned v_ ∧ QrmSC_2_0 Z ch0 h0 n0 v_ V_.heap L_ ∧ FrameEnd U_ ou_ V_ L_ ({ frames := 4, cells := 0, slots := 0, locals := 53 } : Room).cells ({ frames := 4, cells := 0, slots := 0, locals := 53 } : Room).slots) := by
  refine MetFree.of_bodySF (plainFor_of_name own_pn16) hisR ?_
  intro p e s m args below meth c s₁ Bd hml0 hP hK
  obtain ⟨rfl, hZ, hh⟩ := hP
  have hx := Bd.exec
  have hby := Bd.bytes
  have hml : c.maxLocals = 2 := hml0
  have hown : s.vm.findClass "java/lang/String" = some m.cls := findClass_of_methodNamed Bd.named
  have hnm := (name_of_methodNamed Bd.named Bd.method).1
  have X0 : Stand p l e ({ frames := 4, cells := 0, slots := 0, locals := 53 } : Room) s m #[(.ref a), (.int 0)] below meth c s₁ [] 0 0 := Stand.of_body Bd
  have e0 : s₁.heap = h0 := by rw [← hh, Bd.state]; rfl
  have N0 := Fr.nil n0
  refine own_go (A := s₁.setTop (mkF m 0 #[.val (.ref a), .val (.int 0)] [])) (fun _ kz => castTop (own_ef16 m a (0 : Int32)) kz) ?_
  obtain ⟨t, kt, ⟨hwd, Fv, Fc, At⟩ | ⟨hl0, hl1, Fv, Fc, At⟩⟩ := St
  · skip
    refine own_go (A := s₁.setTop (mkF m 1 #[.val (.ref a), .val (.int 0)] [(.ref a)])) (fun _ kz => ?_) ?_
    · refine XS.aloadN X0.here hx rfl (hb hby d16_0) rfl rfl ?_
      exact kz
    obtain ⟨cq1, kq1, q1a, q1b, q1c⟩ := isOf hZ e0 Ex
    obtain ⟨_, _, ⟨T1, L1, k1, n1⟩, -, X1, ⟨Lc1, hQ1, l1, y1, z1⟩, st1⟩ := X0.virtualBack hx (y := (⟨"java/lang/String", "isLatin1", "()Z"⟩ : MethodName)) (z := (⟨"java/lang/String", "isLatin1", "()Z"⟩ : MethodName)) hown (mvT hZ (own_w hw 93 rfl)) (mvT hZ (own_w hw 94 rfl)) (notFace_of_selects (args := #[]) (mvT hZ (own_w hw 96 rfl))) (mvT hZ (own_w hw 96 rfl)) (mvT hZ (own_w hw 95 rfl)) (by decide) (backOf (W := 0) (rmIL_W l Z a0 hw [] a cs h0 n0 Z0 Fc hcs S_cs) hZ (own_w hw 97 rfl) (own_w hw 7 rfl) (by decide) (by decide)) q1a q1c (g := (mkF m 1 #[.val (.ref a), .val (.int 0)] [(.ref a)])) rfl (by rw [hml]; rfl) (Steps.refl _) (argsL := []) (rest := []) (lenOf own_pd14 rfl) rfl (by show 2 * 0 + _ ≤ _; exact Nat.le_of_eq rfl) (hb hby d16_1) (fun _ _ => ⟨rfl, e0, (by decide : 0 + 0 ≤ _), (by decide : 0 + 0 ≤ _)⟩)
    dsimp only [Pt.U, Pt.locs, Pt.cells, Pt.slots] at X1 l1 y1 z1 st1 hQ1
    subst l1 y1 z1
    obtain ⟨rfl, N1q, e1⟩ := hQ1
    have N1 := Fr.app N0 N1q
    refine own_go (A := T1.setTop (mkF m 4 #[.val (.ref a), .val (.int 0)] [(.int 0)])) (fun _ kz => st1.trans kz) ?_
    refine own_go (A := T1.setTop (mkF m 17 #[.val (.ref a), .val (.int 0)] [(.ref a)])) (fun _ kz => ?_) ?_
    · refine XS.ifYes X1.here hx rfl (pc0 := 4) (pc' := 16) rfl (hb hby d16_4) rfl ((if0 _ _).trans (teq (by decide : ((0 : Int32) = (0 : Int32)))).1) (by decide) (by decide) ?_
      refine XS.aloadN X1.here hx rfl (hb hby d16_16) rfl rfl ?_
      exact kz
    obtain ⟨T2, X2, e2, st2⟩ := getF X1 hx hZ hown (host := "") (Or.inl (own_w hw 33 rfl)) Via.refl e1 Fv (g := (mkF m 17 #[.val (.ref a), .val (.int 0)] [(.ref a)])) rfl rfl (hb hby d16_17)
    refine own_go (A := T2.setTop (mkF m 20 #[.val (.ref a), .val (.int 0)] [(.ref t)])) (fun _ kz => st2 _ kz) ?_
    refine own_go (A := T2.setTop (mkF m 21 #[.val (.ref a), .val (.int 0)] [(.int 0), (.ref t)])) (fun _ kz => ?_) ?_
    · refine XS.iloadN X2.here hx rfl (hb hby d16_20) rfl ?_
      exact kz
    obtain ⟨_, _, ⟨T3, L3, k3, n3⟩, -, X3, ⟨Lc3, hQ3, l3, y3, z3⟩, st3⟩ := Jvm.LawKit.callS X2 hx (y := (⟨"java/lang/StringUTF16", "charAt", "([BI)C"⟩ : MethodName)) hown (mvT hZ (own_w hw 154 rfl)) (mvT hZ (own_w hw 155 rfl)) (mvT hZ (own_w hw 22 rfl)) (mvT hZ (own_w hw 156 rfl)) (by decide) (backOf (W := 0) (rmUC_2_0 l Z a0 hw [] t kt ch0 ch1 fm h0 n0 Z0 At  hp0 S_fm rfm S_ad S_hi S_lo) hZ (own_w hw 156 rfl) (own_w hw 22 rfl) (by decide) (by decide)) (g := (mkF m 21 #[.val (.ref a), .val (.int 0)] [(.int 0), (.ref t)])) rfl (by rw [hml]; rfl) (argsL := [(.ref t), (.int 0)]) (rest := []) (lenOf own_pd5 rfl) rfl (by show 2 * 0 + _ ≤ _; exact Nat.le_of_eq rfl) (hb hby d16_21) (fun _ _ => ⟨rfl, e2, (by decide : 0 + 0 ≤ _), (by decide : 0 + 0 ≤ _)⟩)
    dsimp only [Pt.U, Pt.locs, Pt.cells, Pt.slots] at X3 l3 y3 z3 st3 hQ3
    subst l3 y3 z3
    obtain ⟨rfl, N3q, e3⟩ := hQ3
    have N3 := Fr.app N1 N3q
    refine own_go (A := T3.setTop (mkF m 24 #[.val (.ref a), .val (.int 0)] [(.int ch0)])) (fun _ kz => st3 _ kz) ?_
    obtain ⟨fs, hrr, hrun, hended, hW, hsame⟩ := X3.leave (v := some (.int (nar .char ch0))) (fun h => by rw [Bd.returns] at h; cases h)
    refine ⟨_, _, ?_, hrun, hended, _, _, rfl, ?_, ⟨_, rfl⟩, hW, hsame.mono (by decide) (by decide)⟩
    · show Steps p.tables e below (T3.setTop (mkF m 24 #[.val (.ref a), .val (.int 0)] [(.int ch0)])) _
      exact retN X3 hx (t := .char) Bd.returns (by simp) (hb hby d16_24) hrr
    · show QrmSC_2_0 Z ch0 h0 n0 _ T3.heap _
      rw [e3]
      exact ⟨congrArg (fun z => some (Value.int z)) (own_narc ch0 hp0.1 hp0.2), N3, rfl⟩
  · skip
    refine own_go (A := s₁.setTop (mkF m 1 #[.val (.ref a), .val (.int 0)] [(.ref a)])) (fun _ kz => ?_) ?_
    · refine XS.aloadN X0.here hx rfl (hb hby d16_0) rfl rfl ?_
      exact kz
    obtain ⟨cq4, kq4, q4a, q4b, q4c⟩ := isOf hZ e0 Ex
    obtain ⟨_, _, ⟨T4, L4, k4, n4⟩, -, X4, ⟨Lc4, hQ4, l4, y4, z4⟩, st4⟩ := X0.virtualBack hx (y := (⟨"java/lang/String", "isLatin1", "()Z"⟩ : MethodName)) (z := (⟨"java/lang/String", "isLatin1", "()Z"⟩ : MethodName)) hown (mvT hZ (own_w hw 93 rfl)) (mvT hZ (own_w hw 94 rfl)) (notFace_of_selects (args := #[]) (mvT hZ (own_w hw 96 rfl))) (mvT hZ (own_w hw 96 rfl)) (mvT hZ (own_w hw 95 rfl)) (by decide) (backOf (W := 0) (rmIL_L l Z a0 hw [] a cs h0 n0 Z0 Fc hcs S_cs) hZ (own_w hw 97 rfl) (own_w hw 7 rfl) (by decide) (by decide)) q4a q4c (g := (mkF m 1 #[.val (.ref a), .val (.int 0)] [(.ref a)])) rfl (by rw [hml]; rfl) (Steps.refl _) (argsL := []) (rest := []) (lenOf own_pd14 rfl) rfl (by show 2 * 0 + _ ≤ _; exact Nat.le_of_eq rfl) (hb hby d16_1) (fun _ _ => ⟨rfl, e0, (by decide : 0 + 0 ≤ _), (by decide : 0 + 0 ≤ _)⟩)
    dsimp only [Pt.U, Pt.locs, Pt.cells, Pt.slots] at X4 l4 y4 z4 st4 hQ4
    subst l4 y4 z4
    obtain ⟨rfl, N4q, e4⟩ := hQ4
    have N4 := Fr.app N0 N4q
    refine own_go (A := T4.setTop (mkF m 4 #[.val (.ref a), .val (.int 0)] [(.int 1)])) (fun _ kz => st4.trans kz) ?_
    refine own_go (A := T4.setTop (mkF m 8 #[.val (.ref a), .val (.int 0)] [(.ref a)])) (fun _ kz => ?_) ?_
    · refine XS.ifNo X4.here hx rfl (hb hby d16_4) rfl ((if0 _ _).trans (feq (by decide : ¬ ((1 : Int32) = (0 : Int32)))).1) ?_
      refine XS.aloadN X4.here hx rfl (hb hby d16_7) rfl rfl ?_
      exact kz
    obtain ⟨T5, X5, e5, st5⟩ := getF X4 hx hZ hown (host := "") (Or.inl (own_w hw 33 rfl)) Via.refl e4 Fv (g := (mkF m 8 #[.val (.ref a), .val (.int 0)] [(.ref a)])) rfl rfl (hb hby d16_8)
    refine own_go (A := T5.setTop (mkF m 11 #[.val (.ref a), .val (.int 0)] [(.ref t)])) (fun _ kz => st5 _ kz) ?_
    refine own_go (A := T5.setTop (mkF m 12 #[.val (.ref a), .val (.int 0)] [(.int 0), (.ref t)])) (fun _ kz => ?_) ?_
    · refine XS.iloadN X5.here hx rfl (hb hby d16_11) rfl ?_
      exact kz
    obtain ⟨_, _, ⟨T6, L6, k6, n6⟩, -, X6, ⟨Lc6, hQ6, l6, y6, z6⟩, st6⟩ := Jvm.LawKit.callS X5 hx (y := (⟨"java/lang/StringLatin1", "charAt", "([BI)C"⟩ : MethodName)) hown (mvT hZ (own_w hw 98 rfl)) (mvT hZ (own_w hw 99 rfl)) (mvT hZ (own_w hw 100 rfl)) (mvT hZ (own_w hw 101 rfl)) (by decide) (backOf (W := 0) (rmLC_2_0 l Z a0 hw [] t kt ch0 ch1 fm h0 n0 Z0 At hl0 hp0 S_fm rfm ) hZ (own_w hw 101 rfl) (own_w hw 100 rfl) (by decide) (by decide)) (g := (mkF m 12 #[.val (.ref a), .val (.int 0)] [(.int 0), (.ref t)])) rfl (by rw [hml]; rfl) (argsL := [(.ref t), (.int 0)]) (rest := []) (lenOf own_pd5 rfl) rfl (by show 2 * 0 + _ ≤ _; exact Nat.le_of_eq rfl) (hb hby d16_12) (fun _ _ => ⟨rfl, e5, (by decide : 0 + 0 ≤ _), (by decide : 0 + 0 ≤ _)⟩)
    dsimp only [Pt.U, Pt.locs, Pt.cells, Pt.slots] at X6 l6 y6 z6 st6 hQ6
    subst l6 y6 z6
    obtain ⟨rfl, N6q, e6⟩ := hQ6
    have N6 := Fr.app N4 N6q
    refine own_go (A := T6.setTop (mkF m 15 #[.val (.ref a), .val (.int 0)] [(.int ch0)])) (fun _ kz => st6 _ kz) ?_
    obtain ⟨fs, hrr, hrun, hended, hW, hsame⟩ := X6.leave (v := some (.int (nar .char ch0))) (fun h => by rw [Bd.returns] at h; cases h)
    refine ⟨_, _, ?_, hrun, hended, _, _, rfl, ?_, ⟨_, rfl⟩, hW, hsame.mono (by decide) (by decide)⟩
    · show Steps p.tables e below (T6.setTop (mkF m 15 #[.val (.ref a), .val (.int 0)] [(.int ch0)])) _
      exact retN X6 hx (t := .char) Bd.returns (by simp) (hb hby d16_15) hrr
    · show QrmSC_2_0 Z ch0 h0 n0 _ T6.heap _
      rw [e6]
      exact ⟨congrArg (fun z => some (Value.int z)) (own_narc ch0 hp0.1 hp0.2), N6, rfl⟩
def QrmUC_2_1 (Z : State) (ch1 : Int32) (h0 : Heap) (n0 : Nat) (v : Option Value) (h : Heap) (L : List Loc) : Prop := v = some (.int ch1) ∧ Fr n0 L ∧ h = h0
set_option maxRecDepth 65536 in
set_option maxHeartbeats 40000000 in
theorem rmUC_2_1 (l : Launch) (Z : State) (a0 : Array Value) (hw : ∀ d ∈ tables_1, d.before a0 Z = true) (ws : List Jvm.Cond) (t : Addr) (kt : ClassId) (ch0 ch1 : Int32) (fm : Value) (h0 : Heap) (n0 : Nat) (Z0 : n0 ≤ h0.size) (At : Arv Z h0 t kt .byte (4 : Int32) [(.int (own_l ch0)), (.int (own_h ch0)), (.int (own_l ch1)), (.int (own_h ch1))] (.int 0)) (hp1 : ¬ ch1 < 0 ∧ ¬ (65535 : Int32) < ch1) (S_fm : Sta Z h0 "jdk/internal/util/Preconditions" "SIOOBE_FORMATTER" "Ljava/util/function/BiFunction;" fm) (rfm : fm.isRef = true) (S_ad : Sta Z h0 "java/lang/StringUTF16" "$assertionsDisabled" "Z" (.int 1)) (S_hi : Sta Z h0 "java/lang/StringUTF16" "HI_BYTE_SHIFT" "I" (.int 0)) (S_lo : Sta Z h0 "java/lang/StringUTF16" "LO_BYTE_SHIFT" "I" (.int 8)) :
    MetFree l (⟨"java/lang/StringUTF16", "charAt", "([BI)C"⟩ : MethodName) (head1 (Jvm.Cond.code (⟨"java/lang/StringUTF16", "charAt", "([BI)C"⟩ : MethodName) jdk_52_method_83_code 2 (some .char) :: ws) ({ frames := 3, cells := 0, slots := 0, locals := 40 } : Room)) (fun ar_ U_ => ar_ = #[(.ref t), (.int 1)] ∧ Z.Warmed39 U_.vm ∧ U_.heap = h0) (fun _ _ _ _ _ => True) (fun _ U_ ou_ V_ => ∃ v_ L_, ou_ = .returned v_ ∧ QrmUC_2_1 Z ch1 h0 n0 v_ V_.heap L_ ∧ FrameEnd U_ ou_ V_ L_ ({ frames := 3, cells := 0, slots := 0, locals := 40 } : Room).cells ({ frames := 3, cells := 0, slots := 0, locals := 40 } : Room).slots) := by
  refine MetFree.of_bodySF (plainFor_of_name own_pn29) hisR ?_
  intro p e s m args below meth c s₁ Bd hml0 hP hK
  obtain ⟨rfl, hZ, hh⟩ := hP
  have hx := Bd.exec
  have hby := Bd.bytes
  have hml : c.maxLocals = 2 := hml0
  have hown : s.vm.findClass "java/lang/StringUTF16" = some m.cls := findClass_of_methodNamed Bd.named
  have hnm := (name_of_methodNamed Bd.named Bd.method).1
  have X0 : Stand p l e ({ frames := 3, cells := 0, slots := 0, locals := 40 } : Room) s m #[(.ref t), (.int 1)] below meth c s₁ [] 0 0 := Stand.of_body Bd
  have e0 : s₁.heap = h0 := by rw [← hh, Bd.state]; rfl
  have N0 := Fr.nil n0
  refine own_go (A := s₁.setTop (mkF m 0 #[.val (.ref t), .val (.int 1)] [])) (fun _ kz => castTop (own_ef29 m t (1 : Int32)) kz) ?_
  refine own_go (A := s₁.setTop (mkF m 2 #[.val (.ref t), .val (.int 1)] [(.ref t), (.int 1)])) (fun _ kz => ?_) ?_
  · refine XS.iloadN X0.here hx rfl (hb hby d29_0) rfl ?_
    refine XS.aloadN X0.here hx rfl (hb hby d29_1) rfl rfl ?_
    exact kz
  obtain ⟨_, _, ⟨T1, L1, k1, n1⟩, -, X1, ⟨Lc1, hQ1, l1, y1, z1⟩, st1⟩ := Jvm.LawKit.callS X0 hx (y := (⟨"java/lang/StringUTF16", "checkIndex", "(I[B)V"⟩ : MethodName)) hown (mvT hZ (own_w hw 157 rfl)) (mvT hZ (own_w hw 158 rfl)) (mvT hZ (own_w hw 22 rfl)) (mvT hZ (own_w hw 159 rfl)) (by decide) (backOf (W := 0) (rmUK_2 l Z a0 hw [] (1 : Int32) t kt fm (.int (own_l ch0)) (.int (own_h ch0)) (.int (own_l ch1)) (.int (own_h ch1)) h0 n0 Z0 (by decide) (by decide) At S_fm rfm) hZ (own_w hw 159 rfl) (own_w hw 22 rfl) (by decide) (by decide)) (g := (mkF m 2 #[.val (.ref t), .val (.int 1)] [(.ref t), (.int 1)])) rfl (by rw [hml]; rfl) (argsL := [(.int 1), (.ref t)]) (rest := []) (lenOf own_pd13 rfl) rfl (by show 2 * 0 + _ ≤ _; exact Nat.le_of_eq rfl) (hb hby d29_2) (fun _ _ => ⟨rfl, e0, (by decide : 0 + 0 ≤ _), (by decide : 0 + 0 ≤ _)⟩)
  dsimp only [Pt.U, Pt.locs, Pt.cells, Pt.slots] at X1 l1 y1 z1 st1 hQ1
  subst l1 y1 z1
  obtain ⟨rfl, N1q, e1⟩ := hQ1
  have N1 := Fr.app N0 N1q
  refine own_go (A := T1.setTop (mkF m 5 #[.val (.ref t), .val (.int 1)] [])) (fun _ kz => st1 _ kz) ?_
  refine own_go (A := T1.setTop (mkF m 7 #[.val (.ref t), .val (.int 1)] [(.int 1), (.ref t)])) (fun _ kz => ?_) ?_
  · refine XS.aloadN X1.here hx rfl (hb hby d29_5) rfl rfl ?_
    refine XS.iloadN X1.here hx rfl (hb hby d29_6) rfl ?_
    exact kz
  obtain ⟨_, _, ⟨T2, L2, k2, n2⟩, -, X2, ⟨Lc2, hQ2, l2, y2, z2⟩, st2⟩ := Jvm.LawKit.callS X1 hx (y := (⟨"java/lang/StringUTF16", "getChar", "([BI)C"⟩ : MethodName)) hown (mvT hZ (own_w hw 151 rfl)) (mvT hZ (own_w hw 152 rfl)) (mvT hZ (own_w hw 22 rfl)) (mvT hZ (own_w hw 153 rfl)) (by decide) (backOf (W := 0) (rmGC_2_1 l Z a0 hw [] t kt ch1 (.int (own_l ch0)) (.int (own_h ch0)) h0 n0 Z0 At hp1 S_ad S_hi S_lo) hZ (own_w hw 153 rfl) (own_w hw 22 rfl) (by decide) (by decide)) (g := (mkF m 7 #[.val (.ref t), .val (.int 1)] [(.int 1), (.ref t)])) rfl (by rw [hml]; rfl) (argsL := [(.ref t), (.int 1)]) (rest := []) (lenOf own_pd5 rfl) rfl (by show 2 * 0 + _ ≤ _; exact Nat.le_of_eq rfl) (hb hby d29_7) (fun _ _ => ⟨rfl, e1, (by decide : 0 + 0 ≤ _), (by decide : 0 + 0 ≤ _)⟩)
  dsimp only [Pt.U, Pt.locs, Pt.cells, Pt.slots] at X2 l2 y2 z2 st2 hQ2
  subst l2 y2 z2
  obtain ⟨rfl, N2q, e2⟩ := hQ2
  have N2 := Fr.app N1 N2q
  refine own_go (A := T2.setTop (mkF m 10 #[.val (.ref t), .val (.int 1)] [(.int ch1)])) (fun _ kz => st2 _ kz) ?_
  obtain ⟨fs, hrr, hrun, hended, hW, hsame⟩ := X2.leave (v := some (.int (nar .char ch1))) (fun h => by rw [Bd.returns] at h; cases h)
  refine ⟨_, _, ?_, hrun, hended, _, _, rfl, ?_, ⟨_, rfl⟩, hW, hsame.mono (by decide) (by decide)⟩
  · show Steps p.tables e below (T2.setTop (mkF m 10 #[.val (.ref t), .val (.int 1)] [(.int ch1)])) _
    exact retN X2 hx (t := .char) Bd.returns (by simp) (hb hby d29_10) hrr
  · show QrmUC_2_1 Z ch1 h0 n0 _ T2.heap _
    rw [e2]
    exact ⟨congrArg (fun z => some (Value.int z)) (own_narc ch1 hp1.1 hp1.2), N2, rfl⟩
def QrmLC_2_1 (Z : State) (ch1 : Int32) (h0 : Heap) (n0 : Nat) (v : Option Value) (h : Heap) (L : List Loc) : Prop := v = some (.int ch1) ∧ Fr n0 L ∧ h = h0
set_option maxRecDepth 65536 in
set_option maxHeartbeats 40000000 in
theorem rmLC_2_1 (l : Launch) (Z : State) (a0 : Array Value) (hw : ∀ d ∈ tables_1, d.before a0 Z = true) (ws : List Jvm.Cond) (t : Addr) (kt : ClassId) (ch0 ch1 : Int32) (fm : Value) (h0 : Heap) (n0 : Nat) (Z0 : n0 ≤ h0.size) (At : Arv Z h0 t kt .byte (2 : Int32) [(.int (ch0.toInt8.toInt32)), (.int (ch1.toInt8.toInt32))] (.int 0)) (hl1 : ¬ (255 : Int32) < ch1) (hp1 : ¬ ch1 < 0 ∧ ¬ (65535 : Int32) < ch1) (S_fm : Sta Z h0 "jdk/internal/util/Preconditions" "SIOOBE_FORMATTER" "Ljava/util/function/BiFunction;" fm) (rfm : fm.isRef = true) :
    MetFree l (⟨"java/lang/StringLatin1", "charAt", "([BI)C"⟩ : MethodName) (head1 (Jvm.Cond.code (⟨"java/lang/StringLatin1", "charAt", "([BI)C"⟩ : MethodName) jdk_43_method_2_code 2 (some .char) :: ws) ({ frames := 2, cells := 0, slots := 0, locals := 27 } : Room)) (fun ar_ U_ => ar_ = #[(.ref t), (.int 1)] ∧ Z.Warmed39 U_.vm ∧ U_.heap = h0) (fun _ _ _ _ _ => True) (fun _ U_ ou_ V_ => ∃ v_ L_, ou_ = .returned v_ ∧ QrmLC_2_1 Z ch1 h0 n0 v_ V_.heap L_ ∧ FrameEnd U_ ou_ V_ L_ ({ frames := 2, cells := 0, slots := 0, locals := 27 } : Room).cells ({ frames := 2, cells := 0, slots := 0, locals := 27 } : Room).slots) := by
  refine MetFree.of_bodySF (plainFor_of_name own_pn18) hisR ?_
  intro p e s m args below meth c s₁ Bd hml0 hP hK
  obtain ⟨rfl, hZ, hh⟩ := hP
  have hx := Bd.exec
  have hby := Bd.bytes
  have hml : c.maxLocals = 2 := hml0
  have hown : s.vm.findClass "java/lang/StringLatin1" = some m.cls := findClass_of_methodNamed Bd.named
  have hnm := (name_of_methodNamed Bd.named Bd.method).1
  have X0 : Stand p l e ({ frames := 2, cells := 0, slots := 0, locals := 27 } : Room) s m #[(.ref t), (.int 1)] below meth c s₁ [] 0 0 := Stand.of_body Bd
  have e0 : s₁.heap = h0 := by rw [← hh, Bd.state]; rfl
  have N0 := Fr.nil n0
  refine own_go (A := s₁.setTop (mkF m 0 #[.val (.ref t), .val (.int 1)] [])) (fun _ kz => castTop (own_ef18 m t (1 : Int32)) kz) ?_
  refine own_go (A := s₁.setTop (mkF m 2 #[.val (.ref t), .val (.int 1)] [(.ref t), (.int 1)])) (fun _ kz => ?_) ?_
  · refine XS.iloadN X0.here hx rfl (hb hby d18_0) rfl ?_
    refine XS.aloadN X0.here hx rfl (hb hby d18_1) rfl rfl ?_
    exact kz
  obtain ⟨cl1, Ar1, -, S1, M1, -, -⟩ := id At
  refine own_go (A := s₁.setTop (mkF m 3 #[.val (.ref t), .val (.int 1)] [(.int 2), (.int 1)])) (fun _ kz => ?_) ?_
  · refine X0.arraylength hx (by rw [e0]; exact Ar1.1) (State.isArrayOf_alike hZ.alike Ar1.2.1) (g := (mkF m 2 #[.val (.ref t), .val (.int 1)] [(.ref t), (.int 1)])) rfl rfl (hb hby d18_2) _ ?_
    rw [len_of S1 M1]
    exact kz
  obtain ⟨_, _, ⟨T2, L2, k2, n2⟩, -, X2, ⟨Lc2, hQ2, l2, y2, z2⟩, st2⟩ := Jvm.LawKit.callS X0 hx (y := (⟨"java/lang/String", "checkIndex", "(II)V"⟩ : MethodName)) hown (mvT hZ (own_w hw 102 rfl)) (mvT hZ (own_w hw 103 rfl)) (mvT hZ (own_w hw 7 rfl)) (mvT hZ (own_w hw 104 rfl)) (by decide) (backOf (W := 0) (rmSK l Z a0 hw [] (1 : Int32) (2 : Int32) fm h0 n0 Z0 (by decide) (by decide) S_fm rfm) hZ (own_w hw 104 rfl) (own_w hw 7 rfl) (by decide) (by decide)) (g := (mkF m 3 #[.val (.ref t), .val (.int 1)] [(.int 2), (.int 1)])) rfl (by rw [hml]; rfl) (argsL := [(.int 1), (.int 2)]) (rest := []) (lenOf own_pd12 rfl) rfl (by show 2 * 0 + _ ≤ _; exact Nat.le_of_eq rfl) (hb hby d18_3) (fun _ _ => ⟨rfl, e0, (by decide : 0 + 0 ≤ _), (by decide : 0 + 0 ≤ _)⟩)
  dsimp only [Pt.U, Pt.locs, Pt.cells, Pt.slots] at X2 l2 y2 z2 st2 hQ2
  subst l2 y2 z2
  obtain ⟨rfl, N2q, e2⟩ := hQ2
  have N2 := Fr.app N0 N2q
  refine own_go (A := T2.setTop (mkF m 6 #[.val (.ref t), .val (.int 1)] [])) (fun _ kz => st2 _ kz) ?_
  refine own_go (A := T2.setTop (mkF m 8 #[.val (.ref t), .val (.int 1)] [(.int 1), (.ref t)])) (fun _ kz => ?_) ?_
  · refine XS.aloadN X2.here hx rfl (hb hby d18_6) rfl rfl ?_
    refine XS.iloadN X2.here hx rfl (hb hby d18_7) rfl ?_
    exact kz
  obtain ⟨cl3, Ar3, -, S3, M3, H3, -⟩ := id At
  have hin3 : ¬ ((1 : Int32) < 0 ∨ cl3.slots.size ≤ ((1 : Int32)).toNatClampNeg) := inb_of S3 ⟨by decide, by decide⟩
  have hat3 : cl3.slots[((1 : Int32)).toNatClampNeg]? = some (.int (ch1.toInt8.toInt32)) := H3.at hin3 rfl
  refine own_go (A := T2.setTop (mkF m 9 #[.val (.ref t), .val (.int 1)] [(.int (ch1.toInt8.toInt32))])) (fun _ kz => ?_) ?_
  · refine X2.baloadBytes hx (j := (1 : Int32)) (v := (.int (ch1.toInt8.toInt32))) (by rw [e2]; exact Ar3.1) (State.isArrayOf_alike hZ.alike Ar3.2.1) Ar3.2.2 hin3 hat3 (g := (mkF m 8 #[.val (.ref t), .val (.int 1)] [(.int 1), (.ref t)])) rfl rfl (hb hby d18_8) _ ?_
    exact kz
  refine own_go (A := T2.setTop (mkF m 14 #[.val (.ref t), .val (.int 1)] [(.int (((ch1.toInt8.toInt32) &&& (255 : Int32)).toUInt32.toUInt16.toUInt32.toInt32))])) (fun _ kz => ?_) ?_
  · refine XS.sipush X2.here hx rfl (hb hby d18_9) ?_
    refine XS.iand X2.here hx rfl (hb hby d18_12) rfl ?_
    refine XS.i2c X2.here hx rfl (hb hby d18_13) rfl ?_
    exact kz
  obtain ⟨fs, hrr, hrun, hended, hW, hsame⟩ := X2.leave (v := some (.int (nar .char (((ch1.toInt8.toInt32) &&& (255 : Int32)).toUInt32.toUInt16.toUInt32.toInt32)))) (fun h => by rw [Bd.returns] at h; cases h)
  refine ⟨_, _, ?_, hrun, hended, _, _, rfl, ?_, ⟨_, rfl⟩, hW, hsame.mono (by decide) (by decide)⟩
  · show Steps p.tables e below (T2.setTop (mkF m 14 #[.val (.ref t), .val (.int 1)] [(.int (((ch1.toInt8.toInt32) &&& (255 : Int32)).toUInt32.toUInt16.toUInt32.toInt32))])) _
    exact retN X2 hx (t := .char) Bd.returns (by simp) (hb hby d18_14) hrr
  · show QrmLC_2_1 Z ch1 h0 n0 _ T2.heap _
    rw [e2]
    exact ⟨congrArg (fun z => some (Value.int z)) (own_lat ch1 hp1.1 hl1), N2, rfl⟩
def QrmSC_2_1 (Z : State) (ch1 : Int32) (h0 : Heap) (n0 : Nat) (v : Option Value) (h : Heap) (L : List Loc) : Prop := v = some (.int ch1) ∧ Fr n0 L ∧ h = h0
set_option maxRecDepth 65536 in
set_option maxHeartbeats 40000000 in
theorem rmSC_2_1 (l : Launch) (Z : State) (a0 : Array Value) (hw : ∀ d ∈ tables_1, d.before a0 Z = true) (ws : List Jvm.Cond) (a : Addr) (ch0 ch1 cs : Int32) (fm : Value) (h0 : Heap) (n0 : Nat) (Z0 : n0 ≤ h0.size) (Ex : Exa Z h0 a "java/lang/String") (St : own_Str2 Z h0 a ch0 ch1) (hcs : ¬ (cs = (0 : Int32))) (S_cs : Sta Z h0 "java/lang/String" "COMPACT_STRINGS" "Z" (.int cs)) (hp1 : ¬ ch1 < 0 ∧ ¬ (65535 : Int32) < ch1) (S_fm : Sta Z h0 "jdk/internal/util/Preconditions" "SIOOBE_FORMATTER" "Ljava/util/function/BiFunction;" fm) (rfm : fm.isRef = true) (S_ad : Sta Z h0 "java/lang/StringUTF16" "$assertionsDisabled" "Z" (.int 1)) (S_hi : Sta Z h0 "java/lang/StringUTF16" "HI_BYTE_SHIFT" "I" (.int 0)) (S_lo : Sta Z h0 "java/lang/StringUTF16" "LO_BYTE_SHIFT" "I" (.int 8)) :
    MetFree l (⟨"java/lang/String", "charAt", "(I)C"⟩ : MethodName) (head1 (Jvm.Cond.code (⟨"java/lang/String", "charAt", "(I)C"⟩ : MethodName) jdk_42_method_56_code 2 (some .char) :: ws) ({ frames := 4, cells := 0, slots := 0, locals := 53 } : Room)) (fun ar_ U_ => ar_ = #[(.ref a), (.int 1)] ∧ Z.Warmed39 U_.vm ∧ U_.heap = h0) (fun _ _ _ _ _ => True) (fun _ U_ ou_ V_ => ∃ v_ L_, ou_ = .returned v_ ∧ QrmSC_2_1 Z ch1 h0 n0 v_ V_.heap L_ ∧ FrameEnd U_ ou_ V_ L_ ({ frames := 4, cells := 0, slots := 0, locals := 53 } : Room).cells ({ frames := 4, cells := 0, slots := 0, locals := 53 } : Room).slots) := by
  refine MetFree.of_bodySF (plainFor_of_name own_pn16) hisR ?_
  intro p e s m args below meth c s₁ Bd hml0 hP hK
  obtain ⟨rfl, hZ, hh⟩ := hP
  have hx := Bd.exec
  have hby := Bd.bytes
  have hml : c.maxLocals = 2 := hml0
  have hown : s.vm.findClass "java/lang/String" = some m.cls := findClass_of_methodNamed Bd.named
  have hnm := (name_of_methodNamed Bd.named Bd.method).1
  have X0 : Stand p l e ({ frames := 4, cells := 0, slots := 0, locals := 53 } : Room) s m #[(.ref a), (.int 1)] below meth c s₁ [] 0 0 := Stand.of_body Bd
  have e0 : s₁.heap = h0 := by rw [← hh, Bd.state]; rfl
  have N0 := Fr.nil n0
  refine own_go (A := s₁.setTop (mkF m 0 #[.val (.ref a), .val (.int 1)] [])) (fun _ kz => castTop (own_ef16 m a (1 : Int32)) kz) ?_
  obtain ⟨t, kt, ⟨hwd, Fv, Fc, At⟩ | ⟨hl0, hl1, Fv, Fc, At⟩⟩ := St
  · skip
    refine own_go (A := s₁.setTop (mkF m 1 #[.val (.ref a), .val (.int 1)] [(.ref a)])) (fun _ kz => ?_) ?_
    · refine XS.aloadN X0.here hx rfl (hb hby d16_0) rfl rfl ?_
      exact kz
    obtain ⟨cq1, kq1, q1a, q1b, q1c⟩ := isOf hZ e0 Ex
    obtain ⟨_, _, ⟨T1, L1, k1, n1⟩, -, X1, ⟨Lc1, hQ1, l1, y1, z1⟩, st1⟩ := X0.virtualBack hx (y := (⟨"java/lang/String", "isLatin1", "()Z"⟩ : MethodName)) (z := (⟨"java/lang/String", "isLatin1", "()Z"⟩ : MethodName)) hown (mvT hZ (own_w hw 93 rfl)) (mvT hZ (own_w hw 94 rfl)) (notFace_of_selects (args := #[]) (mvT hZ (own_w hw 96 rfl))) (mvT hZ (own_w hw 96 rfl)) (mvT hZ (own_w hw 95 rfl)) (by decide) (backOf (W := 0) (rmIL_W l Z a0 hw [] a cs h0 n0 Z0 Fc hcs S_cs) hZ (own_w hw 97 rfl) (own_w hw 7 rfl) (by decide) (by decide)) q1a q1c (g := (mkF m 1 #[.val (.ref a), .val (.int 1)] [(.ref a)])) rfl (by rw [hml]; rfl) (Steps.refl _) (argsL := []) (rest := []) (lenOf own_pd14 rfl) rfl (by show 2 * 0 + _ ≤ _; exact Nat.le_of_eq rfl) (hb hby d16_1) (fun _ _ => ⟨rfl, e0, (by decide : 0 + 0 ≤ _), (by decide : 0 + 0 ≤ _)⟩)
    dsimp only [Pt.U, Pt.locs, Pt.cells, Pt.slots] at X1 l1 y1 z1 st1 hQ1
    subst l1 y1 z1
    obtain ⟨rfl, N1q, e1⟩ := hQ1
    have N1 := Fr.app N0 N1q
    refine own_go (A := T1.setTop (mkF m 4 #[.val (.ref a), .val (.int 1)] [(.int 0)])) (fun _ kz => st1.trans kz) ?_
    refine own_go (A := T1.setTop (mkF m 17 #[.val (.ref a), .val (.int 1)] [(.ref a)])) (fun _ kz => ?_) ?_
    · refine XS.ifYes X1.here hx rfl (pc0 := 4) (pc' := 16) rfl (hb hby d16_4) rfl ((if0 _ _).trans (teq (by decide : ((0 : Int32) = (0 : Int32)))).1) (by decide) (by decide) ?_
      refine XS.aloadN X1.here hx rfl (hb hby d16_16) rfl rfl ?_
      exact kz
    obtain ⟨T2, X2, e2, st2⟩ := getF X1 hx hZ hown (host := "") (Or.inl (own_w hw 33 rfl)) Via.refl e1 Fv (g := (mkF m 17 #[.val (.ref a), .val (.int 1)] [(.ref a)])) rfl rfl (hb hby d16_17)
    refine own_go (A := T2.setTop (mkF m 20 #[.val (.ref a), .val (.int 1)] [(.ref t)])) (fun _ kz => st2 _ kz) ?_
    refine own_go (A := T2.setTop (mkF m 21 #[.val (.ref a), .val (.int 1)] [(.int 1), (.ref t)])) (fun _ kz => ?_) ?_
    · refine XS.iloadN X2.here hx rfl (hb hby d16_20) rfl ?_
      exact kz
    obtain ⟨_, _, ⟨T3, L3, k3, n3⟩, -, X3, ⟨Lc3, hQ3, l3, y3, z3⟩, st3⟩ := Jvm.LawKit.callS X2 hx (y := (⟨"java/lang/StringUTF16", "charAt", "([BI)C"⟩ : MethodName)) hown (mvT hZ (own_w hw 154 rfl)) (mvT hZ (own_w hw 155 rfl)) (mvT hZ (own_w hw 22 rfl)) (mvT hZ (own_w hw 156 rfl)) (by decide) (backOf (W := 0) (rmUC_2_1 l Z a0 hw [] t kt ch0 ch1 fm h0 n0 Z0 At  hp1 S_fm rfm S_ad S_hi S_lo) hZ (own_w hw 156 rfl) (own_w hw 22 rfl) (by decide) (by decide)) (g := (mkF m 21 #[.val (.ref a), .val (.int 1)] [(.int 1), (.ref t)])) rfl (by rw [hml]; rfl) (argsL := [(.ref t), (.int 1)]) (rest := []) (lenOf own_pd5 rfl) rfl (by show 2 * 0 + _ ≤ _; exact Nat.le_of_eq rfl) (hb hby d16_21) (fun _ _ => ⟨rfl, e2, (by decide : 0 + 0 ≤ _), (by decide : 0 + 0 ≤ _)⟩)
    dsimp only [Pt.U, Pt.locs, Pt.cells, Pt.slots] at X3 l3 y3 z3 st3 hQ3
    subst l3 y3 z3
    obtain ⟨rfl, N3q, e3⟩ := hQ3
    have N3 := Fr.app N1 N3q
    refine own_go (A := T3.setTop (mkF m 24 #[.val (.ref a), .val (.int 1)] [(.int ch1)])) (fun _ kz => st3 _ kz) ?_
    obtain ⟨fs, hrr, hrun, hended, hW, hsame⟩ := X3.leave (v := some (.int (nar .char ch1))) (fun h => by rw [Bd.returns] at h; cases h)
    refine ⟨_, _, ?_, hrun, hended, _, _, rfl, ?_, ⟨_, rfl⟩, hW, hsame.mono (by decide) (by decide)⟩
    · show Steps p.tables e below (T3.setTop (mkF m 24 #[.val (.ref a), .val (.int 1)] [(.int ch1)])) _
      exact retN X3 hx (t := .char) Bd.returns (by simp) (hb hby d16_24) hrr
    · show QrmSC_2_1 Z ch1 h0 n0 _ T3.heap _
      rw [e3]
      exact ⟨congrArg (fun z => some (Value.int z)) (own_narc ch1 hp1.1 hp1.2), N3, rfl⟩
  · skip
    refine own_go (A := s₁.setTop (mkF m 1 #[.val (.ref a), .val (.int 1)] [(.ref a)])) (fun _ kz => ?_) ?_
    · refine XS.aloadN X0.here hx rfl (hb hby d16_0) rfl rfl ?_
      exact kz
    obtain ⟨cq4, kq4, q4a, q4b, q4c⟩ := isOf hZ e0 Ex
    obtain ⟨_, _, ⟨T4, L4, k4, n4⟩, -, X4, ⟨Lc4, hQ4, l4, y4, z4⟩, st4⟩ := X0.virtualBack hx (y := (⟨"java/lang/String", "isLatin1", "()Z"⟩ : MethodName)) (z := (⟨"java/lang/String", "isLatin1", "()Z"⟩ : MethodName)) hown (mvT hZ (own_w hw 93 rfl)) (mvT hZ (own_w hw 94 rfl)) (notFace_of_selects (args := #[]) (mvT hZ (own_w hw 96 rfl))) (mvT hZ (own_w hw 96 rfl)) (mvT hZ (own_w hw 95 rfl)) (by decide) (backOf (W := 0) (rmIL_L l Z a0 hw [] a cs h0 n0 Z0 Fc hcs S_cs) hZ (own_w hw 97 rfl) (own_w hw 7 rfl) (by decide) (by decide)) q4a q4c (g := (mkF m 1 #[.val (.ref a), .val (.int 1)] [(.ref a)])) rfl (by rw [hml]; rfl) (Steps.refl _) (argsL := []) (rest := []) (lenOf own_pd14 rfl) rfl (by show 2 * 0 + _ ≤ _; exact Nat.le_of_eq rfl) (hb hby d16_1) (fun _ _ => ⟨rfl, e0, (by decide : 0 + 0 ≤ _), (by decide : 0 + 0 ≤ _)⟩)
    dsimp only [Pt.U, Pt.locs, Pt.cells, Pt.slots] at X4 l4 y4 z4 st4 hQ4
    subst l4 y4 z4
    obtain ⟨rfl, N4q, e4⟩ := hQ4
    have N4 := Fr.app N0 N4q
    refine own_go (A := T4.setTop (mkF m 4 #[.val (.ref a), .val (.int 1)] [(.int 1)])) (fun _ kz => st4.trans kz) ?_
    refine own_go (A := T4.setTop (mkF m 8 #[.val (.ref a), .val (.int 1)] [(.ref a)])) (fun _ kz => ?_) ?_
    · refine XS.ifNo X4.here hx rfl (hb hby d16_4) rfl ((if0 _ _).trans (feq (by decide : ¬ ((1 : Int32) = (0 : Int32)))).1) ?_
      refine XS.aloadN X4.here hx rfl (hb hby d16_7) rfl rfl ?_
      exact kz
    obtain ⟨T5, X5, e5, st5⟩ := getF X4 hx hZ hown (host := "") (Or.inl (own_w hw 33 rfl)) Via.refl e4 Fv (g := (mkF m 8 #[.val (.ref a), .val (.int 1)] [(.ref a)])) rfl rfl (hb hby d16_8)
    refine own_go (A := T5.setTop (mkF m 11 #[.val (.ref a), .val (.int 1)] [(.ref t)])) (fun _ kz => st5 _ kz) ?_
    refine own_go (A := T5.setTop (mkF m 12 #[.val (.ref a), .val (.int 1)] [(.int 1), (.ref t)])) (fun _ kz => ?_) ?_
    · refine XS.iloadN X5.here hx rfl (hb hby d16_11) rfl ?_
      exact kz
    obtain ⟨_, _, ⟨T6, L6, k6, n6⟩, -, X6, ⟨Lc6, hQ6, l6, y6, z6⟩, st6⟩ := Jvm.LawKit.callS X5 hx (y := (⟨"java/lang/StringLatin1", "charAt", "([BI)C"⟩ : MethodName)) hown (mvT hZ (own_w hw 98 rfl)) (mvT hZ (own_w hw 99 rfl)) (mvT hZ (own_w hw 100 rfl)) (mvT hZ (own_w hw 101 rfl)) (by decide) (backOf (W := 0) (rmLC_2_1 l Z a0 hw [] t kt ch0 ch1 fm h0 n0 Z0 At hl1 hp1 S_fm rfm ) hZ (own_w hw 101 rfl) (own_w hw 100 rfl) (by decide) (by decide)) (g := (mkF m 12 #[.val (.ref a), .val (.int 1)] [(.int 1), (.ref t)])) rfl (by rw [hml]; rfl) (argsL := [(.ref t), (.int 1)]) (rest := []) (lenOf own_pd5 rfl) rfl (by show 2 * 0 + _ ≤ _; exact Nat.le_of_eq rfl) (hb hby d16_12) (fun _ _ => ⟨rfl, e5, (by decide : 0 + 0 ≤ _), (by decide : 0 + 0 ≤ _)⟩)
    dsimp only [Pt.U, Pt.locs, Pt.cells, Pt.slots] at X6 l6 y6 z6 st6 hQ6
    subst l6 y6 z6
    obtain ⟨rfl, N6q, e6⟩ := hQ6
    have N6 := Fr.app N4 N6q
    refine own_go (A := T6.setTop (mkF m 15 #[.val (.ref a), .val (.int 1)] [(.int ch1)])) (fun _ kz => st6 _ kz) ?_
    obtain ⟨fs, hrr, hrun, hended, hW, hsame⟩ := X6.leave (v := some (.int (nar .char ch1))) (fun h => by rw [Bd.returns] at h; cases h)
    refine ⟨_, _, ?_, hrun, hended, _, _, rfl, ?_, ⟨_, rfl⟩, hW, hsame.mono (by decide) (by decide)⟩
    · show Steps p.tables e below (T6.setTop (mkF m 15 #[.val (.ref a), .val (.int 1)] [(.int ch1)])) _
      exact retN X6 hx (t := .char) Bd.returns (by simp) (hb hby d16_15) hrr
    · show QrmSC_2_1 Z ch1 h0 n0 _ T6.heap _
      rw [e6]
      exact ⟨congrArg (fun z => some (Value.int z)) (own_narc ch1 hp1.1 hp1.2), N6, rfl⟩
def QrmLn_3 (Z : State)  (h0 : Heap) (n0 : Nat) (v : Option Value) (h : Heap) (L : List Loc) : Prop := v = some (.int 3) ∧ Fr n0 L ∧ h = h0
set_option maxRecDepth 65536 in
set_option maxHeartbeats 40000000 in
theorem rmLn_3 (l : Launch) (Z : State) (a0 : Array Value) (hw : ∀ d ∈ tables_1, d.before a0 Z = true) (ws : List Jvm.Cond) (a : Addr) (ch0 ch1 ch2 cs : Int32) (h0 : Heap) (n0 : Nat) (Z0 : n0 ≤ h0.size) (Ex : Exa Z h0 a "java/lang/String") (St : own_Str3 Z h0 a ch0 ch1 ch2) (hcs : ¬ (cs = (0 : Int32))) (S_cs : Sta Z h0 "java/lang/String" "COMPACT_STRINGS" "Z" (.int cs)) :
    MetFree l (⟨"java/lang/String", "length", "()I"⟩ : MethodName) (head1 (Jvm.Cond.code (⟨"java/lang/String", "length", "()I"⟩ : MethodName) jdk_42_method_54_code 1 (some .int) :: ws) ({ frames := 1, cells := 0, slots := 0, locals := 13 } : Room)) (fun ar_ U_ => ar_ = #[(.ref a)] ∧ Z.Warmed39 U_.vm ∧ U_.heap = h0) (fun _ _ _ _ _ => True) (fun _ U_ ou_ V_ => ∃ v_ L_, ou_ = .returned v_ ∧ QrmLn_3 Z  h0 n0 v_ V_.heap L_ ∧ FrameEnd U_ ou_ V_ L_ ({ frames := 1, cells := 0, slots := 0, locals := 13 } : Room).cells ({ frames := 1, cells := 0, slots := 0, locals := 13 } : Room).slots) := by
  refine MetFree.of_bodySF (plainFor_of_name own_pn13) hisR ?_
  intro p e s m args below meth c s₁ Bd hml0 hP hK
  obtain ⟨rfl, hZ, hh⟩ := hP
  have hx := Bd.exec
  have hby := Bd.bytes
  have hml : c.maxLocals = 1 := hml0
  have hown : s.vm.findClass "java/lang/String" = some m.cls := findClass_of_methodNamed Bd.named
  have hnm := (name_of_methodNamed Bd.named Bd.method).1
  have X0 : Stand p l e ({ frames := 1, cells := 0, slots := 0, locals := 13 } : Room) s m #[(.ref a)] below meth c s₁ [] 0 0 := Stand.of_body Bd
  have e0 : s₁.heap = h0 := by rw [← hh, Bd.state]; rfl
  have N0 := Fr.nil n0
  refine own_go (A := s₁.setTop (mkF m 0 #[.val (.ref a)] [])) (fun _ kz => castTop (own_ef13 m a) kz) ?_
  obtain ⟨t, kt, ⟨hwd, Fv, Fc, At⟩ | ⟨hl0, hl1, hl2, Fv, Fc, At⟩⟩ := St
  · skip
    refine own_go (A := s₁.setTop (mkF m 1 #[.val (.ref a)] [(.ref a)])) (fun _ kz => ?_) ?_
    · refine XS.aloadN X0.here hx rfl (hb hby d13_0) rfl rfl ?_
      exact kz
    obtain ⟨T1, X1, e1, st1⟩ := getF X0 hx hZ hown (host := "") (Or.inl (own_w hw 33 rfl)) Via.refl e0 Fv (g := (mkF m 1 #[.val (.ref a)] [(.ref a)])) rfl rfl (hb hby d13_1)
    refine own_go (A := T1.setTop (mkF m 4 #[.val (.ref a)] [(.ref t)])) (fun _ kz => st1 _ kz) ?_
    obtain ⟨cl2, Ar2, -, S2, M2, -, -⟩ := id At
    refine own_go (A := T1.setTop (mkF m 5 #[.val (.ref a)] [(.int 6)])) (fun _ kz => ?_) ?_
    · refine X1.arraylength hx (by rw [e1]; exact Ar2.1) (State.isArrayOf_alike hZ.alike Ar2.2.1) (g := (mkF m 4 #[.val (.ref a)] [(.ref t)])) rfl rfl (hb hby d13_4) _ ?_
      rw [len_of S2 M2]
      exact kz
    refine own_go (A := T1.setTop (mkF m 6 #[.val (.ref a)] [(.ref a), (.int 6)])) (fun _ kz => ?_) ?_
    · refine XS.aloadN X1.here hx rfl (hb hby d13_5) rfl rfl ?_
      exact kz
    obtain ⟨cq3, kq3, q3a, q3b, q3c⟩ := isOf hZ e1 Ex
    obtain ⟨_, _, ⟨T3, L3, k3, n3⟩, -, X3, ⟨Lc3, hQ3, l3, y3, z3⟩, st3⟩ := X1.virtualBack hx (y := (⟨"java/lang/String", "coder", "()B"⟩ : MethodName)) (z := (⟨"java/lang/String", "coder", "()B"⟩ : MethodName)) hown (mvT hZ (own_w hw 78 rfl)) (mvT hZ (own_w hw 79 rfl)) (notFace_of_selects (args := #[]) (mvT hZ (own_w hw 81 rfl))) (mvT hZ (own_w hw 81 rfl)) (mvT hZ (own_w hw 80 rfl)) (by decide) (backOf (W := 1) (rmCd_W l Z a0 hw [] a cs h0 n0 Z0 Fc hcs S_cs) hZ (own_w hw 82 rfl) (own_w hw 7 rfl) (by decide) (by decide)) q3a q3c (g := (mkF m 6 #[.val (.ref a)] [(.ref a), (.int 6)])) rfl (by rw [hml]; rfl) (Steps.refl _) (argsL := []) (rest := [(.int 6)]) (lenOf own_pd10 rfl) rfl (by show 2 * 0 + _ ≤ _; exact Nat.le_of_eq rfl) (hb hby d13_6) (fun _ _ => ⟨rfl, e1, (by decide : 0 + 0 ≤ _), (by decide : 0 + 0 ≤ _)⟩)
    dsimp only [Pt.U, Pt.locs, Pt.cells, Pt.slots] at X3 l3 y3 z3 st3 hQ3
    subst l3 y3 z3
    obtain ⟨rfl, N3q, e3⟩ := hQ3
    have N3 := Fr.app N0 N3q
    refine own_go (A := T3.setTop (mkF m 9 #[.val (.ref a)] [(.int 1), (.int 6)])) (fun _ kz => st3.trans kz) ?_
    refine own_go (A := T3.setTop (mkF m 10 #[.val (.ref a)] [(.int 3)])) (fun _ kz => ?_) ?_
    · refine XS.ishr X3.here hx rfl (hb hby d13_9) rfl ?_
      exact kz
    obtain ⟨fs, hrr, hrun, hended, hW, hsame⟩ := X3.leave (v := some (.int 3)) (fun h => by rw [Bd.returns] at h; cases h)
    refine ⟨_, _, ?_, hrun, hended, _, _, rfl, ?_, ⟨_, rfl⟩, hW, hsame.mono (by decide) (by decide)⟩
    · show Steps p.tables e below (T3.setTop (mkF m 10 #[.val (.ref a)] [(.int 3)])) _
      exact retI X3 hx Bd.returns (hb hby d13_10) hrr
    · show QrmLn_3 Z  h0 n0 _ T3.heap _
      rw [e3]
      exact ⟨rfl, N3, rfl⟩
  · skip
    refine own_go (A := s₁.setTop (mkF m 1 #[.val (.ref a)] [(.ref a)])) (fun _ kz => ?_) ?_
    · show Steps p.tables e below (s₁.setTop (mkF m 0 #[.val (.ref a)] [])) _
      refine XS.aloadN X0.here hx rfl (hb hby d13_0) rfl rfl ?_
      exact kz
    obtain ⟨T4, X4, e4, st4⟩ := getF X0 hx hZ hown (host := "") (Or.inl (own_w hw 33 rfl)) Via.refl e0 Fv (g := (mkF m 1 #[.val (.ref a)] [(.ref a)])) rfl rfl (hb hby d13_1)
    refine own_go (A := T4.setTop (mkF m 4 #[.val (.ref a)] [(.ref t)])) (fun _ kz => st4 _ kz) ?_
    obtain ⟨cl5, Ar5, -, S5, M5, -, -⟩ := id At
    refine own_go (A := T4.setTop (mkF m 5 #[.val (.ref a)] [(.int 3)])) (fun _ kz => ?_) ?_
    · refine X4.arraylength hx (by rw [e4]; exact Ar5.1) (State.isArrayOf_alike hZ.alike Ar5.2.1) (g := (mkF m 4 #[.val (.ref a)] [(.ref t)])) rfl rfl (hb hby d13_4) _ ?_
      rw [len_of S5 M5]
      exact kz
    refine own_go (A := T4.setTop (mkF m 6 #[.val (.ref a)] [(.ref a), (.int 3)])) (fun _ kz => ?_) ?_
    · refine XS.aloadN X4.here hx rfl (hb hby d13_5) rfl rfl ?_
      exact kz
    obtain ⟨cq6, kq6, q6a, q6b, q6c⟩ := isOf hZ e4 Ex
    obtain ⟨_, _, ⟨T6, L6, k6, n6⟩, -, X6, ⟨Lc6, hQ6, l6, y6, z6⟩, st6⟩ := X4.virtualBack hx (y := (⟨"java/lang/String", "coder", "()B"⟩ : MethodName)) (z := (⟨"java/lang/String", "coder", "()B"⟩ : MethodName)) hown (mvT hZ (own_w hw 78 rfl)) (mvT hZ (own_w hw 79 rfl)) (notFace_of_selects (args := #[]) (mvT hZ (own_w hw 81 rfl))) (mvT hZ (own_w hw 81 rfl)) (mvT hZ (own_w hw 80 rfl)) (by decide) (backOf (W := 1) (rmCd_L l Z a0 hw [] a cs h0 n0 Z0 Fc hcs S_cs) hZ (own_w hw 82 rfl) (own_w hw 7 rfl) (by decide) (by decide)) q6a q6c (g := (mkF m 6 #[.val (.ref a)] [(.ref a), (.int 3)])) rfl (by rw [hml]; rfl) (Steps.refl _) (argsL := []) (rest := [(.int 3)]) (lenOf own_pd10 rfl) rfl (by show 2 * 0 + _ ≤ _; exact Nat.le_of_eq rfl) (hb hby d13_6) (fun _ _ => ⟨rfl, e4, (by decide : 0 + 0 ≤ _), (by decide : 0 + 0 ≤ _)⟩)
    dsimp only [Pt.U, Pt.locs, Pt.cells, Pt.slots] at X6 l6 y6 z6 st6 hQ6
    subst l6 y6 z6
    obtain ⟨rfl, N6q, e6⟩ := hQ6
    have N6 := Fr.app N0 N6q
    refine own_go (A := T6.setTop (mkF m 9 #[.val (.ref a)] [(.int 0), (.int 3)])) (fun _ kz => st6.trans kz) ?_
    refine own_go (A := T6.setTop (mkF m 10 #[.val (.ref a)] [(.int 3)])) (fun _ kz => ?_) ?_
    · refine XS.ishr X6.here hx rfl (hb hby d13_9) rfl ?_
      exact kz
    obtain ⟨fs, hrr, hrun, hended, hW, hsame⟩ := X6.leave (v := some (.int 3)) (fun h => by rw [Bd.returns] at h; cases h)
    refine ⟨_, _, ?_, hrun, hended, _, _, rfl, ?_, ⟨_, rfl⟩, hW, hsame.mono (by decide) (by decide)⟩
    · show Steps p.tables e below (T6.setTop (mkF m 10 #[.val (.ref a)] [(.int 3)])) _
      exact retI X6 hx Bd.returns (hb hby d13_10) hrr
    · show QrmLn_3 Z  h0 n0 _ T6.heap _
      rw [e6]
      exact ⟨rfl, N6, rfl⟩
def QrmUL_3 (Z : State)  (h0 : Heap) (n0 : Nat) (v : Option Value) (h : Heap) (L : List Loc) : Prop := v = some (.int 3) ∧ Fr n0 L ∧ h = h0
set_option maxRecDepth 65536 in
set_option maxHeartbeats 40000000 in
theorem rmUL_3 (l : Launch) (Z : State) (a0 : Array Value) (hw : ∀ d ∈ tables_1, d.before a0 Z = true) (ws : List Jvm.Cond) (t : Addr) (kt : ClassId) (w0 w1 w2 w3 w4 w5 : Value) (h0 : Heap) (n0 : Nat) (Z0 : n0 ≤ h0.size) (At : Arv Z h0 t kt .byte (6 : Int32) [w0, w1, w2, w3, w4, w5] (.int 0)) :
    MetFree l (⟨"java/lang/StringUTF16", "length", "([B)I"⟩ : MethodName) (head1 (Jvm.Cond.code (⟨"java/lang/StringUTF16", "length", "([B)I"⟩ : MethodName) jdk_52_method_6_code 1 (some .int) :: ws) ({ frames := 0, cells := 0, slots := 0, locals := 0 } : Room)) (fun ar_ U_ => ar_ = #[(.ref t)] ∧ Z.Warmed39 U_.vm ∧ U_.heap = h0) (fun _ _ _ _ _ => True) (fun _ U_ ou_ V_ => ∃ v_ L_, ou_ = .returned v_ ∧ QrmUL_3 Z  h0 n0 v_ V_.heap L_ ∧ FrameEnd U_ ou_ V_ L_ ({ frames := 0, cells := 0, slots := 0, locals := 0 } : Room).cells ({ frames := 0, cells := 0, slots := 0, locals := 0 } : Room).slots) := by
  refine MetFree.of_bodySF (plainFor_of_name own_pn31) hisR ?_
  intro p e s m args below meth c s₁ Bd hml0 hP hK
  obtain ⟨rfl, hZ, hh⟩ := hP
  have hx := Bd.exec
  have hby := Bd.bytes
  have hml : c.maxLocals = 1 := hml0
  have hown : s.vm.findClass "java/lang/StringUTF16" = some m.cls := findClass_of_methodNamed Bd.named
  have hnm := (name_of_methodNamed Bd.named Bd.method).1
  have X0 : Stand p l e ({ frames := 0, cells := 0, slots := 0, locals := 0 } : Room) s m #[(.ref t)] below meth c s₁ [] 0 0 := Stand.of_body Bd
  have e0 : s₁.heap = h0 := by rw [← hh, Bd.state]; rfl
  have N0 := Fr.nil n0
  refine own_go (A := s₁.setTop (mkF m 0 #[.val (.ref t)] [])) (fun _ kz => castTop (own_ef31 m t) kz) ?_
  refine own_go (A := s₁.setTop (mkF m 1 #[.val (.ref t)] [(.ref t)])) (fun _ kz => ?_) ?_
  · refine XS.aloadN X0.here hx rfl (hb hby d31_0) rfl rfl ?_
    exact kz
  obtain ⟨cl1, Ar1, -, S1, M1, -, -⟩ := id At
  refine own_go (A := s₁.setTop (mkF m 2 #[.val (.ref t)] [(.int 6)])) (fun _ kz => ?_) ?_
  · refine X0.arraylength hx (by rw [e0]; exact Ar1.1) (State.isArrayOf_alike hZ.alike Ar1.2.1) (g := (mkF m 1 #[.val (.ref t)] [(.ref t)])) rfl rfl (hb hby d31_1) _ ?_
    rw [len_of S1 M1]
    exact kz
  refine own_go (A := s₁.setTop (mkF m 4 #[.val (.ref t)] [(.int 3)])) (fun _ kz => ?_) ?_
  · refine XS.iconst X0.here hx rfl (hb hby d31_2) ?_
    refine XS.ishr X0.here hx rfl (hb hby d31_3) rfl ?_
    exact kz
  obtain ⟨fs, hrr, hrun, hended, hW, hsame⟩ := X0.leave (v := some (.int 3)) (fun h => by rw [Bd.returns] at h; cases h)
  refine ⟨_, _, ?_, hrun, hended, _, _, rfl, ?_, ⟨_, rfl⟩, hW, hsame.mono (by decide) (by decide)⟩
  · show Steps p.tables e below (s₁.setTop (mkF m 4 #[.val (.ref t)] [(.int 3)])) _
    exact retI X0 hx Bd.returns (hb hby d31_4) hrr
  · show QrmUL_3 Z  h0 n0 _ s₁.heap _
    rw [e0]
    exact ⟨rfl, N0, rfl⟩
def QrmUK_3 (Z : State)  (h0 : Heap) (n0 : Nat) (v : Option Value) (h : Heap) (L : List Loc) : Prop := v = none ∧ Fr n0 L ∧ h = h0
set_option maxRecDepth 65536 in
set_option maxHeartbeats 40000000 in
theorem rmUK_3 (l : Launch) (Z : State) (a0 : Array Value) (hw : ∀ d ∈ tables_1, d.before a0 Z = true) (ws : List Jvm.Cond) (ix : Int32) (t : Addr) (kt : ClassId) (fm : Value) (w0 w1 w2 w3 w4 w5 : Value) (h0 : Heap) (n0 : Nat) (Z0 : n0 ≤ h0.size) (hi0 : ¬ ix < (0 : Int32)) (hi1 : ix < (3 : Int32)) (At : Arv Z h0 t kt .byte (6 : Int32) [w0, w1, w2, w3, w4, w5] (.int 0)) (S_fm : Sta Z h0 "jdk/internal/util/Preconditions" "SIOOBE_FORMATTER" "Ljava/util/function/BiFunction;" fm) (rfm : fm.isRef = true) :
    MetFree l (⟨"java/lang/StringUTF16", "checkIndex", "(I[B)V"⟩ : MethodName) (head1 (Jvm.Cond.code (⟨"java/lang/StringUTF16", "checkIndex", "(I[B)V"⟩ : MethodName) jdk_52_method_91_code 2 none :: ws) ({ frames := 2, cells := 0, slots := 0, locals := 27 } : Room)) (fun ar_ U_ => ar_ = #[(.int ix), (.ref t)] ∧ Z.Warmed39 U_.vm ∧ U_.heap = h0) (fun _ _ _ _ _ => True) (fun _ U_ ou_ V_ => ∃ v_ L_, ou_ = .returned v_ ∧ QrmUK_3 Z  h0 n0 v_ V_.heap L_ ∧ FrameEnd U_ ou_ V_ L_ ({ frames := 2, cells := 0, slots := 0, locals := 27 } : Room).cells ({ frames := 2, cells := 0, slots := 0, locals := 27 } : Room).slots) := by
  refine MetFree.of_bodySF (plainFor_of_name own_pn30) hisR ?_
  intro p e s m args below meth c s₁ Bd hml0 hP hK
  obtain ⟨rfl, hZ, hh⟩ := hP
  have hx := Bd.exec
  have hby := Bd.bytes
  have hml : c.maxLocals = 2 := hml0
  have hown : s.vm.findClass "java/lang/StringUTF16" = some m.cls := findClass_of_methodNamed Bd.named
  have hnm := (name_of_methodNamed Bd.named Bd.method).1
  have X0 : Stand p l e ({ frames := 2, cells := 0, slots := 0, locals := 27 } : Room) s m #[(.int ix), (.ref t)] below meth c s₁ [] 0 0 := Stand.of_body Bd
  have e0 : s₁.heap = h0 := by rw [← hh, Bd.state]; rfl
  have N0 := Fr.nil n0
  refine own_go (A := s₁.setTop (mkF m 0 #[.val (.int ix), .val (.ref t)] [])) (fun _ kz => castTop (own_ef30 m ix t) kz) ?_
  refine own_go (A := s₁.setTop (mkF m 2 #[.val (.int ix), .val (.ref t)] [(.ref t), (.int ix)])) (fun _ kz => ?_) ?_
  · refine XS.iloadN X0.here hx rfl (hb hby d30_0) rfl ?_
    refine XS.aloadN X0.here hx rfl (hb hby d30_1) rfl rfl ?_
    exact kz
  obtain ⟨_, _, ⟨T1, L1, k1, n1⟩, -, X1, ⟨Lc1, hQ1, l1, y1, z1⟩, st1⟩ := Jvm.LawKit.callS X0 hx (y := (⟨"java/lang/StringUTF16", "length", "([B)I"⟩ : MethodName)) hown (mvT hZ (own_w hw 160 rfl)) (mvT hZ (own_w hw 161 rfl)) (mvT hZ (own_w hw 22 rfl)) (mvT hZ (own_w hw 162 rfl)) (by decide) (backOf (W := 1) (rmUL_3 l Z a0 hw [] t kt w0 w1 w2 w3 w4 w5 h0 n0 Z0 At) hZ (own_w hw 162 rfl) (own_w hw 22 rfl) (by decide) (by decide)) (g := (mkF m 2 #[.val (.int ix), .val (.ref t)] [(.ref t), (.int ix)])) rfl (by rw [hml]; rfl) (argsL := [(.ref t)]) (rest := [(.int ix)]) (lenOf own_pd11 rfl) rfl (by show 2 * 0 + _ ≤ _; exact Nat.le_of_eq rfl) (hb hby d30_2) (fun _ _ => ⟨rfl, e0, (by decide : 0 + 0 ≤ _), (by decide : 0 + 0 ≤ _)⟩)
  dsimp only [Pt.U, Pt.locs, Pt.cells, Pt.slots] at X1 l1 y1 z1 st1 hQ1
  subst l1 y1 z1
  obtain ⟨rfl, N1q, e1⟩ := hQ1
  have N1 := Fr.app N0 N1q
  refine own_go (A := T1.setTop (mkF m 5 #[.val (.int ix), .val (.ref t)] [(.int 3), (.int ix)])) (fun _ kz => st1 _ kz) ?_
  obtain ⟨_, _, ⟨T2, L2, k2, n2⟩, -, X2, ⟨Lc2, hQ2, l2, y2, z2⟩, st2⟩ := Jvm.LawKit.callS X1 hx (y := (⟨"java/lang/String", "checkIndex", "(II)V"⟩ : MethodName)) hown (mvT hZ (own_w hw 163 rfl)) (mvT hZ (own_w hw 103 rfl)) (mvT hZ (own_w hw 7 rfl)) (mvT hZ (own_w hw 104 rfl)) (by decide) (backOf (W := 0) (rmSK l Z a0 hw [] ix (3 : Int32) fm h0 n0 Z0 hi0 hi1 S_fm rfm) hZ (own_w hw 104 rfl) (own_w hw 7 rfl) (by decide) (by decide)) (g := (mkF m 5 #[.val (.int ix), .val (.ref t)] [(.int 3), (.int ix)])) rfl (by rw [hml]; rfl) (argsL := [(.int ix), (.int 3)]) (rest := []) (lenOf own_pd12 rfl) rfl (by show 2 * 0 + _ ≤ _; exact Nat.le_of_eq rfl) (hb hby d30_5) (fun _ _ => ⟨rfl, e1, (by decide : 0 + 0 ≤ _), (by decide : 0 + 0 ≤ _)⟩)
  dsimp only [Pt.U, Pt.locs, Pt.cells, Pt.slots] at X2 l2 y2 z2 st2 hQ2
  subst l2 y2 z2
  obtain ⟨rfl, N2q, e2⟩ := hQ2
  have N2 := Fr.app N1 N2q
  refine own_go (A := T2.setTop (mkF m 8 #[.val (.int ix), .val (.ref t)] [])) (fun _ kz => st2 _ kz) ?_
  obtain ⟨fs, hrr, hrun, hended, hW, hsame⟩ := X2.leave (v := none) (fun _ => rfl)
  refine ⟨_, _, ?_, hrun, hended, _, _, rfl, ?_, ⟨_, rfl⟩, hW, hsame.mono (by decide) (by decide)⟩
  · show Steps p.tables e below (T2.setTop (mkF m 8 #[.val (.int ix), .val (.ref t)] [])) _
    exact X2.returnOut hx Bd.returns (hb hby d30_8) hrr
  · show QrmUK_3 Z  h0 n0 _ T2.heap _
    rw [e2]
    exact ⟨rfl, N2, rfl⟩
def QrmUC_3_0 (Z : State) (ch0 : Int32) (h0 : Heap) (n0 : Nat) (v : Option Value) (h : Heap) (L : List Loc) : Prop := v = some (.int ch0) ∧ Fr n0 L ∧ h = h0
set_option maxRecDepth 65536 in
set_option maxHeartbeats 40000000 in
theorem rmUC_3_0 (l : Launch) (Z : State) (a0 : Array Value) (hw : ∀ d ∈ tables_1, d.before a0 Z = true) (ws : List Jvm.Cond) (t : Addr) (kt : ClassId) (ch0 ch1 ch2 : Int32) (fm : Value) (h0 : Heap) (n0 : Nat) (Z0 : n0 ≤ h0.size) (At : Arv Z h0 t kt .byte (6 : Int32) [(.int (own_l ch0)), (.int (own_h ch0)), (.int (own_l ch1)), (.int (own_h ch1)), (.int (own_l ch2)), (.int (own_h ch2))] (.int 0)) (hp0 : ¬ ch0 < 0 ∧ ¬ (65535 : Int32) < ch0) (S_fm : Sta Z h0 "jdk/internal/util/Preconditions" "SIOOBE_FORMATTER" "Ljava/util/function/BiFunction;" fm) (rfm : fm.isRef = true) (S_ad : Sta Z h0 "java/lang/StringUTF16" "$assertionsDisabled" "Z" (.int 1)) (S_hi : Sta Z h0 "java/lang/StringUTF16" "HI_BYTE_SHIFT" "I" (.int 0)) (S_lo : Sta Z h0 "java/lang/StringUTF16" "LO_BYTE_SHIFT" "I" (.int 8)) :
    MetFree l (⟨"java/lang/StringUTF16", "charAt", "([BI)C"⟩ : MethodName) (head1 (Jvm.Cond.code (⟨"java/lang/StringUTF16", "charAt", "([BI)C"⟩ : MethodName) jdk_52_method_83_code 2 (some .char) :: ws) ({ frames := 3, cells := 0, slots := 0, locals := 40 } : Room)) (fun ar_ U_ => ar_ = #[(.ref t), (.int 0)] ∧ Z.Warmed39 U_.vm ∧ U_.heap = h0) (fun _ _ _ _ _ => True) (fun _ U_ ou_ V_ => ∃ v_ L_, ou_ = .returned v_ ∧ QrmUC_3_0 Z ch0 h0 n0 v_ V_.heap L_ ∧ FrameEnd U_ ou_ V_ L_ ({ frames := 3, cells := 0, slots := 0, locals := 40 } : Room).cells ({ frames := 3, cells := 0, slots := 0, locals := 40 } : Room).slots) := by
  refine MetFree.of_bodySF (plainFor_of_name own_pn29) hisR ?_
  intro p e s m args below meth c s₁ Bd hml0 hP hK
  obtain ⟨rfl, hZ, hh⟩ := hP
  have hx := Bd.exec
  have hby := Bd.bytes
  have hml : c.maxLocals = 2 := hml0
  have hown : s.vm.findClass "java/lang/StringUTF16" = some m.cls := findClass_of_methodNamed Bd.named
  have hnm := (name_of_methodNamed Bd.named Bd.method).1
  have X0 : Stand p l e ({ frames := 3, cells := 0, slots := 0, locals := 40 } : Room) s m #[(.ref t), (.int 0)] below meth c s₁ [] 0 0 := Stand.of_body Bd
  have e0 : s₁.heap = h0 := by rw [← hh, Bd.state]; rfl
  have N0 := Fr.nil n0
  refine own_go (A := s₁.setTop (mkF m 0 #[.val (.ref t), .val (.int 0)] [])) (fun _ kz => castTop (own_ef29 m t (0 : Int32)) kz) ?_
  refine own_go (A := s₁.setTop (mkF m 2 #[.val (.ref t), .val (.int 0)] [(.ref t), (.int 0)])) (fun _ kz => ?_) ?_
  · refine XS.iloadN X0.here hx rfl (hb hby d29_0) rfl ?_
    refine XS.aloadN X0.here hx rfl (hb hby d29_1) rfl rfl ?_
    exact kz
  obtain ⟨_, _, ⟨T1, L1, k1, n1⟩, -, X1, ⟨Lc1, hQ1, l1, y1, z1⟩, st1⟩ := Jvm.LawKit.callS X0 hx (y := (⟨"java/lang/StringUTF16", "checkIndex", "(I[B)V"⟩ : MethodName)) hown (mvT hZ (own_w hw 157 rfl)) (mvT hZ (own_w hw 158 rfl)) (mvT hZ (own_w hw 22 rfl)) (mvT hZ (own_w hw 159 rfl)) (by decide) (backOf (W := 0) (rmUK_3 l Z a0 hw [] (0 : Int32) t kt fm (.int (own_l ch0)) (.int (own_h ch0)) (.int (own_l ch1)) (.int (own_h ch1)) (.int (own_l ch2)) (.int (own_h ch2)) h0 n0 Z0 (by decide) (by decide) At S_fm rfm) hZ (own_w hw 159 rfl) (own_w hw 22 rfl) (by decide) (by decide)) (g := (mkF m 2 #[.val (.ref t), .val (.int 0)] [(.ref t), (.int 0)])) rfl (by rw [hml]; rfl) (argsL := [(.int 0), (.ref t)]) (rest := []) (lenOf own_pd13 rfl) rfl (by show 2 * 0 + _ ≤ _; exact Nat.le_of_eq rfl) (hb hby d29_2) (fun _ _ => ⟨rfl, e0, (by decide : 0 + 0 ≤ _), (by decide : 0 + 0 ≤ _)⟩)
  dsimp only [Pt.U, Pt.locs, Pt.cells, Pt.slots] at X1 l1 y1 z1 st1 hQ1
  subst l1 y1 z1
  obtain ⟨rfl, N1q, e1⟩ := hQ1
  have N1 := Fr.app N0 N1q
  refine own_go (A := T1.setTop (mkF m 5 #[.val (.ref t), .val (.int 0)] [])) (fun _ kz => st1 _ kz) ?_
  refine own_go (A := T1.setTop (mkF m 7 #[.val (.ref t), .val (.int 0)] [(.int 0), (.ref t)])) (fun _ kz => ?_) ?_
  · refine XS.aloadN X1.here hx rfl (hb hby d29_5) rfl rfl ?_
    refine XS.iloadN X1.here hx rfl (hb hby d29_6) rfl ?_
    exact kz
  obtain ⟨_, _, ⟨T2, L2, k2, n2⟩, -, X2, ⟨Lc2, hQ2, l2, y2, z2⟩, st2⟩ := Jvm.LawKit.callS X1 hx (y := (⟨"java/lang/StringUTF16", "getChar", "([BI)C"⟩ : MethodName)) hown (mvT hZ (own_w hw 151 rfl)) (mvT hZ (own_w hw 152 rfl)) (mvT hZ (own_w hw 22 rfl)) (mvT hZ (own_w hw 153 rfl)) (by decide) (backOf (W := 0) (rmGC_3_0 l Z a0 hw [] t kt ch0 (.int (own_l ch1)) (.int (own_h ch1)) (.int (own_l ch2)) (.int (own_h ch2)) h0 n0 Z0 At hp0 S_ad S_hi S_lo) hZ (own_w hw 153 rfl) (own_w hw 22 rfl) (by decide) (by decide)) (g := (mkF m 7 #[.val (.ref t), .val (.int 0)] [(.int 0), (.ref t)])) rfl (by rw [hml]; rfl) (argsL := [(.ref t), (.int 0)]) (rest := []) (lenOf own_pd5 rfl) rfl (by show 2 * 0 + _ ≤ _; exact Nat.le_of_eq rfl) (hb hby d29_7) (fun _ _ => ⟨rfl, e1, (by decide : 0 + 0 ≤ _), (by decide : 0 + 0 ≤ _)⟩)
  dsimp only [Pt.U, Pt.locs, Pt.cells, Pt.slots] at X2 l2 y2 z2 st2 hQ2
  subst l2 y2 z2
  obtain ⟨rfl, N2q, e2⟩ := hQ2
  have N2 := Fr.app N1 N2q
  refine own_go (A := T2.setTop (mkF m 10 #[.val (.ref t), .val (.int 0)] [(.int ch0)])) (fun _ kz => st2 _ kz) ?_
  obtain ⟨fs, hrr, hrun, hended, hW, hsame⟩ := X2.leave (v := some (.int (nar .char ch0))) (fun h => by rw [Bd.returns] at h; cases h)
  refine ⟨_, _, ?_, hrun, hended, _, _, rfl, ?_, ⟨_, rfl⟩, hW, hsame.mono (by decide) (by decide)⟩
  · show Steps p.tables e below (T2.setTop (mkF m 10 #[.val (.ref t), .val (.int 0)] [(.int ch0)])) _
    exact retN X2 hx (t := .char) Bd.returns (by simp) (hb hby d29_10) hrr
  · show QrmUC_3_0 Z ch0 h0 n0 _ T2.heap _
    rw [e2]
    exact ⟨congrArg (fun z => some (Value.int z)) (own_narc ch0 hp0.1 hp0.2), N2, rfl⟩
def QrmLC_3_0 (Z : State) (ch0 : Int32) (h0 : Heap) (n0 : Nat) (v : Option Value) (h : Heap) (L : List Loc) : Prop := v = some (.int ch0) ∧ Fr n0 L ∧ h = h0
set_option maxRecDepth 65536 in
set_option maxHeartbeats 40000000 in
theorem rmLC_3_0 (l : Launch) (Z : State) (a0 : Array Value) (hw : ∀ d ∈ tables_1, d.before a0 Z = true) (ws : List Jvm.Cond) (t : Addr) (kt : ClassId) (ch0 ch1 ch2 : Int32) (fm : Value) (h0 : Heap) (n0 : Nat) (Z0 : n0 ≤ h0.size) (At : Arv Z h0 t kt .byte (3 : Int32) [(.int (ch0.toInt8.toInt32)), (.int (ch1.toInt8.toInt32)), (.int (ch2.toInt8.toInt32))] (.int 0)) (hl0 : ¬ (255 : Int32) < ch0) (hp0 : ¬ ch0 < 0 ∧ ¬ (65535 : Int32) < ch0) (S_fm : Sta Z h0 "jdk/internal/util/Preconditions" "SIOOBE_FORMATTER" "Ljava/util/function/BiFunction;" fm) (rfm : fm.isRef = true) :
    MetFree l (⟨"java/lang/StringLatin1", "charAt", "([BI)C"⟩ : MethodName) (head1 (Jvm.Cond.code (⟨"java/lang/StringLatin1", "charAt", "([BI)C"⟩ : MethodName) jdk_43_method_2_code 2 (some .char) :: ws) ({ frames := 2, cells := 0, slots := 0, locals := 27 } : Room)) (fun ar_ U_ => ar_ = #[(.ref t), (.int 0)] ∧ Z.Warmed39 U_.vm ∧ U_.heap = h0) (fun _ _ _ _ _ => True) (fun _ U_ ou_ V_ => ∃ v_ L_, ou_ = .returned v_ ∧ QrmLC_3_0 Z ch0 h0 n0 v_ V_.heap L_ ∧ FrameEnd U_ ou_ V_ L_ ({ frames := 2, cells := 0, slots := 0, locals := 27 } : Room).cells ({ frames := 2, cells := 0, slots := 0, locals := 27 } : Room).slots) := by
  refine MetFree.of_bodySF (plainFor_of_name own_pn18) hisR ?_
  intro p e s m args below meth c s₁ Bd hml0 hP hK
  obtain ⟨rfl, hZ, hh⟩ := hP
  have hx := Bd.exec
  have hby := Bd.bytes
  have hml : c.maxLocals = 2 := hml0
  have hown : s.vm.findClass "java/lang/StringLatin1" = some m.cls := findClass_of_methodNamed Bd.named
  have hnm := (name_of_methodNamed Bd.named Bd.method).1
  have X0 : Stand p l e ({ frames := 2, cells := 0, slots := 0, locals := 27 } : Room) s m #[(.ref t), (.int 0)] below meth c s₁ [] 0 0 := Stand.of_body Bd
  have e0 : s₁.heap = h0 := by rw [← hh, Bd.state]; rfl
  have N0 := Fr.nil n0
  refine own_go (A := s₁.setTop (mkF m 0 #[.val (.ref t), .val (.int 0)] [])) (fun _ kz => castTop (own_ef18 m t (0 : Int32)) kz) ?_
  refine own_go (A := s₁.setTop (mkF m 2 #[.val (.ref t), .val (.int 0)] [(.ref t), (.int 0)])) (fun _ kz => ?_) ?_
  · refine XS.iloadN X0.here hx rfl (hb hby d18_0) rfl ?_
    refine XS.aloadN X0.here hx rfl (hb hby d18_1) rfl rfl ?_
    exact kz
  obtain ⟨cl1, Ar1, -, S1, M1, -, -⟩ := id At
  refine own_go (A := s₁.setTop (mkF m 3 #[.val (.ref t), .val (.int 0)] [(.int 3), (.int 0)])) (fun _ kz => ?_) ?_
  · refine X0.arraylength hx (by rw [e0]; exact Ar1.1) (State.isArrayOf_alike hZ.alike Ar1.2.1) (g := (mkF m 2 #[.val (.ref t), .val (.int 0)] [(.ref t), (.int 0)])) rfl rfl (hb hby d18_2) _ ?_
    rw [len_of S1 M1]
    exact kz
  obtain ⟨_, _, ⟨T2, L2, k2, n2⟩, -, X2, ⟨Lc2, hQ2, l2, y2, z2⟩, st2⟩ := Jvm.LawKit.callS X0 hx (y := (⟨"java/lang/String", "checkIndex", "(II)V"⟩ : MethodName)) hown (mvT hZ (own_w hw 102 rfl)) (mvT hZ (own_w hw 103 rfl)) (mvT hZ (own_w hw 7 rfl)) (mvT hZ (own_w hw 104 rfl)) (by decide) (backOf (W := 0) (rmSK l Z a0 hw [] (0 : Int32) (3 : Int32) fm h0 n0 Z0 (by decide) (by decide) S_fm rfm) hZ (own_w hw 104 rfl) (own_w hw 7 rfl) (by decide) (by decide)) (g := (mkF m 3 #[.val (.ref t), .val (.int 0)] [(.int 3), (.int 0)])) rfl (by rw [hml]; rfl) (argsL := [(.int 0), (.int 3)]) (rest := []) (lenOf own_pd12 rfl) rfl (by show 2 * 0 + _ ≤ _; exact Nat.le_of_eq rfl) (hb hby d18_3) (fun _ _ => ⟨rfl, e0, (by decide : 0 + 0 ≤ _), (by decide : 0 + 0 ≤ _)⟩)
  dsimp only [Pt.U, Pt.locs, Pt.cells, Pt.slots] at X2 l2 y2 z2 st2 hQ2
  subst l2 y2 z2
  obtain ⟨rfl, N2q, e2⟩ := hQ2
  have N2 := Fr.app N0 N2q
  refine own_go (A := T2.setTop (mkF m 6 #[.val (.ref t), .val (.int 0)] [])) (fun _ kz => st2 _ kz) ?_
  refine own_go (A := T2.setTop (mkF m 8 #[.val (.ref t), .val (.int 0)] [(.int 0), (.ref t)])) (fun _ kz => ?_) ?_
  · refine XS.aloadN X2.here hx rfl (hb hby d18_6) rfl rfl ?_
    refine XS.iloadN X2.here hx rfl (hb hby d18_7) rfl ?_
    exact kz
  obtain ⟨cl3, Ar3, -, S3, M3, H3, -⟩ := id At
  have hin3 : ¬ ((0 : Int32) < 0 ∨ cl3.slots.size ≤ ((0 : Int32)).toNatClampNeg) := inb_of S3 ⟨by decide, by decide⟩
  have hat3 : cl3.slots[((0 : Int32)).toNatClampNeg]? = some (.int (ch0.toInt8.toInt32)) := H3.at hin3 rfl
  refine own_go (A := T2.setTop (mkF m 9 #[.val (.ref t), .val (.int 0)] [(.int (ch0.toInt8.toInt32))])) (fun _ kz => ?_) ?_
  · refine X2.baloadBytes hx (j := (0 : Int32)) (v := (.int (ch0.toInt8.toInt32))) (by rw [e2]; exact Ar3.1) (State.isArrayOf_alike hZ.alike Ar3.2.1) Ar3.2.2 hin3 hat3 (g := (mkF m 8 #[.val (.ref t), .val (.int 0)] [(.int 0), (.ref t)])) rfl rfl (hb hby d18_8) _ ?_
    exact kz
  refine own_go (A := T2.setTop (mkF m 14 #[.val (.ref t), .val (.int 0)] [(.int (((ch0.toInt8.toInt32) &&& (255 : Int32)).toUInt32.toUInt16.toUInt32.toInt32))])) (fun _ kz => ?_) ?_
  · refine XS.sipush X2.here hx rfl (hb hby d18_9) ?_
    refine XS.iand X2.here hx rfl (hb hby d18_12) rfl ?_
    refine XS.i2c X2.here hx rfl (hb hby d18_13) rfl ?_
    exact kz
  obtain ⟨fs, hrr, hrun, hended, hW, hsame⟩ := X2.leave (v := some (.int (nar .char (((ch0.toInt8.toInt32) &&& (255 : Int32)).toUInt32.toUInt16.toUInt32.toInt32)))) (fun h => by rw [Bd.returns] at h; cases h)
  refine ⟨_, _, ?_, hrun, hended, _, _, rfl, ?_, ⟨_, rfl⟩, hW, hsame.mono (by decide) (by decide)⟩
  · show Steps p.tables e below (T2.setTop (mkF m 14 #[.val (.ref t), .val (.int 0)] [(.int (((ch0.toInt8.toInt32) &&& (255 : Int32)).toUInt32.toUInt16.toUInt32.toInt32))])) _
    exact retN X2 hx (t := .char) Bd.returns (by simp) (hb hby d18_14) hrr
  · show QrmLC_3_0 Z ch0 h0 n0 _ T2.heap _
    rw [e2]
    exact ⟨congrArg (fun z => some (Value.int z)) (own_lat ch0 hp0.1 hl0), N2, rfl⟩
def QrmSC_3_0 (Z : State) (ch0 : Int32) (h0 : Heap) (n0 : Nat) (v : Option Value) (h : Heap) (L : List Loc) : Prop := v = some (.int ch0) ∧ Fr n0 L ∧ h = h0
set_option maxRecDepth 65536 in
set_option maxHeartbeats 40000000 in
theorem rmSC_3_0 (l : Launch) (Z : State) (a0 : Array Value) (hw : ∀ d ∈ tables_1, d.before a0 Z = true) (ws : List Jvm.Cond) (a : Addr) (ch0 ch1 ch2 cs : Int32) (fm : Value) (h0 : Heap) (n0 : Nat) (Z0 : n0 ≤ h0.size) (Ex : Exa Z h0 a "java/lang/String") (St : own_Str3 Z h0 a ch0 ch1 ch2) (hcs : ¬ (cs = (0 : Int32))) (S_cs : Sta Z h0 "java/lang/String" "COMPACT_STRINGS" "Z" (.int cs)) (hp0 : ¬ ch0 < 0 ∧ ¬ (65535 : Int32) < ch0) (S_fm : Sta Z h0 "jdk/internal/util/Preconditions" "SIOOBE_FORMATTER" "Ljava/util/function/BiFunction;" fm) (rfm : fm.isRef = true) (S_ad : Sta Z h0 "java/lang/StringUTF16" "$assertionsDisabled" "Z" (.int 1)) (S_hi : Sta Z h0 "java/lang/StringUTF16" "HI_BYTE_SHIFT" "I" (.int 0)) (S_lo : Sta Z h0 "java/lang/StringUTF16" "LO_BYTE_SHIFT" "I" (.int 8)) :
    MetFree l (⟨"java/lang/String", "charAt", "(I)C"⟩ : MethodName) (head1 (Jvm.Cond.code (⟨"java/lang/String", "charAt", "(I)C"⟩ : MethodName) jdk_42_method_56_code 2 (some .char) :: ws) ({ frames := 4, cells := 0, slots := 0, locals := 53 } : Room)) (fun ar_ U_ => ar_ = #[(.ref a), (.int 0)] ∧ Z.Warmed39 U_.vm ∧ U_.heap = h0) (fun _ _ _ _ _ => True) (fun _ U_ ou_ V_ => ∃ v_ L_, ou_ = .returned v_ ∧ QrmSC_3_0 Z ch0 h0 n0 v_ V_.heap L_ ∧ FrameEnd U_ ou_ V_ L_ ({ frames := 4, cells := 0, slots := 0, locals := 53 } : Room).cells ({ frames := 4, cells := 0, slots := 0, locals := 53 } : Room).slots) := by
  refine MetFree.of_bodySF (plainFor_of_name own_pn16) hisR ?_
  intro p e s m args below meth c s₁ Bd hml0 hP hK
  obtain ⟨rfl, hZ, hh⟩ := hP
  have hx := Bd.exec
  have hby := Bd.bytes
  have hml : c.maxLocals = 2 := hml0
  have hown : s.vm.findClass "java/lang/String" = some m.cls := findClass_of_methodNamed Bd.named
  have hnm := (name_of_methodNamed Bd.named Bd.method).1
  have X0 : Stand p l e ({ frames := 4, cells := 0, slots := 0, locals := 53 } : Room) s m #[(.ref a), (.int 0)] below meth c s₁ [] 0 0 := Stand.of_body Bd
  have e0 : s₁.heap = h0 := by rw [← hh, Bd.state]; rfl
  have N0 := Fr.nil n0
  refine own_go (A := s₁.setTop (mkF m 0 #[.val (.ref a), .val (.int 0)] [])) (fun _ kz => castTop (own_ef16 m a (0 : Int32)) kz) ?_
  obtain ⟨t, kt, ⟨hwd, Fv, Fc, At⟩ | ⟨hl0, hl1, hl2, Fv, Fc, At⟩⟩ := St
  · skip
    refine own_go (A := s₁.setTop (mkF m 1 #[.val (.ref a), .val (.int 0)] [(.ref a)])) (fun _ kz => ?_) ?_
    · refine XS.aloadN X0.here hx rfl (hb hby d16_0) rfl rfl ?_
      exact kz
    obtain ⟨cq1, kq1, q1a, q1b, q1c⟩ := isOf hZ e0 Ex
    obtain ⟨_, _, ⟨T1, L1, k1, n1⟩, -, X1, ⟨Lc1, hQ1, l1, y1, z1⟩, st1⟩ := X0.virtualBack hx (y := (⟨"java/lang/String", "isLatin1", "()Z"⟩ : MethodName)) (z := (⟨"java/lang/String", "isLatin1", "()Z"⟩ : MethodName)) hown (mvT hZ (own_w hw 93 rfl)) (mvT hZ (own_w hw 94 rfl)) (notFace_of_selects (args := #[]) (mvT hZ (own_w hw 96 rfl))) (mvT hZ (own_w hw 96 rfl)) (mvT hZ (own_w hw 95 rfl)) (by decide) (backOf (W := 0) (rmIL_W l Z a0 hw [] a cs h0 n0 Z0 Fc hcs S_cs) hZ (own_w hw 97 rfl) (own_w hw 7 rfl) (by decide) (by decide)) q1a q1c (g := (mkF m 1 #[.val (.ref a), .val (.int 0)] [(.ref a)])) rfl (by rw [hml]; rfl) (Steps.refl _) (argsL := []) (rest := []) (lenOf own_pd14 rfl) rfl (by show 2 * 0 + _ ≤ _; exact Nat.le_of_eq rfl) (hb hby d16_1) (fun _ _ => ⟨rfl, e0, (by decide : 0 + 0 ≤ _), (by decide : 0 + 0 ≤ _)⟩)
    dsimp only [Pt.U, Pt.locs, Pt.cells, Pt.slots] at X1 l1 y1 z1 st1 hQ1
    subst l1 y1 z1
    obtain ⟨rfl, N1q, e1⟩ := hQ1
    have N1 := Fr.app N0 N1q
    refine own_go (A := T1.setTop (mkF m 4 #[.val (.ref a), .val (.int 0)] [(.int 0)])) (fun _ kz => st1.trans kz) ?_
    refine own_go (A := T1.setTop (mkF m 17 #[.val (.ref a), .val (.int 0)] [(.ref a)])) (fun _ kz => ?_) ?_
    · refine XS.ifYes X1.here hx rfl (pc0 := 4) (pc' := 16) rfl (hb hby d16_4) rfl ((if0 _ _).trans (teq (by decide : ((0 : Int32) = (0 : Int32)))).1) (by decide) (by decide) ?_
      refine XS.aloadN X1.here hx rfl (hb hby d16_16) rfl rfl ?_
      exact kz
    obtain ⟨T2, X2, e2, st2⟩ := getF X1 hx hZ hown (host := "") (Or.inl (own_w hw 33 rfl)) Via.refl e1 Fv (g := (mkF m 17 #[.val (.ref a), .val (.int 0)] [(.ref a)])) rfl rfl (hb hby d16_17)
    refine own_go (A := T2.setTop (mkF m 20 #[.val (.ref a), .val (.int 0)] [(.ref t)])) (fun _ kz => st2 _ kz) ?_
    refine own_go (A := T2.setTop (mkF m 21 #[.val (.ref a), .val (.int 0)] [(.int 0), (.ref t)])) (fun _ kz => ?_) ?_
    · refine XS.iloadN X2.here hx rfl (hb hby d16_20) rfl ?_
      exact kz
    obtain ⟨_, _, ⟨T3, L3, k3, n3⟩, -, X3, ⟨Lc3, hQ3, l3, y3, z3⟩, st3⟩ := Jvm.LawKit.callS X2 hx (y := (⟨"java/lang/StringUTF16", "charAt", "([BI)C"⟩ : MethodName)) hown (mvT hZ (own_w hw 154 rfl)) (mvT hZ (own_w hw 155 rfl)) (mvT hZ (own_w hw 22 rfl)) (mvT hZ (own_w hw 156 rfl)) (by decide) (backOf (W := 0) (rmUC_3_0 l Z a0 hw [] t kt ch0 ch1 ch2 fm h0 n0 Z0 At  hp0 S_fm rfm S_ad S_hi S_lo) hZ (own_w hw 156 rfl) (own_w hw 22 rfl) (by decide) (by decide)) (g := (mkF m 21 #[.val (.ref a), .val (.int 0)] [(.int 0), (.ref t)])) rfl (by rw [hml]; rfl) (argsL := [(.ref t), (.int 0)]) (rest := []) (lenOf own_pd5 rfl) rfl (by show 2 * 0 + _ ≤ _; exact Nat.le_of_eq rfl) (hb hby d16_21) (fun _ _ => ⟨rfl, e2, (by decide : 0 + 0 ≤ _), (by decide : 0 + 0 ≤ _)⟩)
    dsimp only [Pt.U, Pt.locs, Pt.cells, Pt.slots] at X3 l3 y3 z3 st3 hQ3
    subst l3 y3 z3
    obtain ⟨rfl, N3q, e3⟩ := hQ3
    have N3 := Fr.app N1 N3q
    refine own_go (A := T3.setTop (mkF m 24 #[.val (.ref a), .val (.int 0)] [(.int ch0)])) (fun _ kz => st3 _ kz) ?_
    obtain ⟨fs, hrr, hrun, hended, hW, hsame⟩ := X3.leave (v := some (.int (nar .char ch0))) (fun h => by rw [Bd.returns] at h; cases h)
    refine ⟨_, _, ?_, hrun, hended, _, _, rfl, ?_, ⟨_, rfl⟩, hW, hsame.mono (by decide) (by decide)⟩
    · show Steps p.tables e below (T3.setTop (mkF m 24 #[.val (.ref a), .val (.int 0)] [(.int ch0)])) _
      exact retN X3 hx (t := .char) Bd.returns (by simp) (hb hby d16_24) hrr
    · show QrmSC_3_0 Z ch0 h0 n0 _ T3.heap _
      rw [e3]
      exact ⟨congrArg (fun z => some (Value.int z)) (own_narc ch0 hp0.1 hp0.2), N3, rfl⟩
  · skip
    refine own_go (A := s₁.setTop (mkF m 1 #[.val (.ref a), .val (.int 0)] [(.ref a)])) (fun _ kz => ?_) ?_
    · refine XS.aloadN X0.here hx rfl (hb hby d16_0) rfl rfl ?_
      exact kz
    obtain ⟨cq4, kq4, q4a, q4b, q4c⟩ := isOf hZ e0 Ex
    obtain ⟨_, _, ⟨T4, L4, k4, n4⟩, -, X4, ⟨Lc4, hQ4, l4, y4, z4⟩, st4⟩ := X0.virtualBack hx (y := (⟨"java/lang/String", "isLatin1", "()Z"⟩ : MethodName)) (z := (⟨"java/lang/String", "isLatin1", "()Z"⟩ : MethodName)) hown (mvT hZ (own_w hw 93 rfl)) (mvT hZ (own_w hw 94 rfl)) (notFace_of_selects (args := #[]) (mvT hZ (own_w hw 96 rfl))) (mvT hZ (own_w hw 96 rfl)) (mvT hZ (own_w hw 95 rfl)) (by decide) (backOf (W := 0) (rmIL_L l Z a0 hw [] a cs h0 n0 Z0 Fc hcs S_cs) hZ (own_w hw 97 rfl) (own_w hw 7 rfl) (by decide) (by decide)) q4a q4c (g := (mkF m 1 #[.val (.ref a), .val (.int 0)] [(.ref a)])) rfl (by rw [hml]; rfl) (Steps.refl _) (argsL := []) (rest := []) (lenOf own_pd14 rfl) rfl (by show 2 * 0 + _ ≤ _; exact Nat.le_of_eq rfl) (hb hby d16_1) (fun _ _ => ⟨rfl, e0, (by decide : 0 + 0 ≤ _), (by decide : 0 + 0 ≤ _)⟩)
    dsimp only [Pt.U, Pt.locs, Pt.cells, Pt.slots] at X4 l4 y4 z4 st4 hQ4
    subst l4 y4 z4
    obtain ⟨rfl, N4q, e4⟩ := hQ4
    have N4 := Fr.app N0 N4q
    refine own_go (A := T4.setTop (mkF m 4 #[.val (.ref a), .val (.int 0)] [(.int 1)])) (fun _ kz => st4.trans kz) ?_
    refine own_go (A := T4.setTop (mkF m 8 #[.val (.ref a), .val (.int 0)] [(.ref a)])) (fun _ kz => ?_) ?_
    · refine XS.ifNo X4.here hx rfl (hb hby d16_4) rfl ((if0 _ _).trans (feq (by decide : ¬ ((1 : Int32) = (0 : Int32)))).1) ?_
      refine XS.aloadN X4.here hx rfl (hb hby d16_7) rfl rfl ?_
      exact kz
    obtain ⟨T5, X5, e5, st5⟩ := getF X4 hx hZ hown (host := "") (Or.inl (own_w hw 33 rfl)) Via.refl e4 Fv (g := (mkF m 8 #[.val (.ref a), .val (.int 0)] [(.ref a)])) rfl rfl (hb hby d16_8)
    refine own_go (A := T5.setTop (mkF m 11 #[.val (.ref a), .val (.int 0)] [(.ref t)])) (fun _ kz => st5 _ kz) ?_
    refine own_go (A := T5.setTop (mkF m 12 #[.val (.ref a), .val (.int 0)] [(.int 0), (.ref t)])) (fun _ kz => ?_) ?_
    · refine XS.iloadN X5.here hx rfl (hb hby d16_11) rfl ?_
      exact kz
    obtain ⟨_, _, ⟨T6, L6, k6, n6⟩, -, X6, ⟨Lc6, hQ6, l6, y6, z6⟩, st6⟩ := Jvm.LawKit.callS X5 hx (y := (⟨"java/lang/StringLatin1", "charAt", "([BI)C"⟩ : MethodName)) hown (mvT hZ (own_w hw 98 rfl)) (mvT hZ (own_w hw 99 rfl)) (mvT hZ (own_w hw 100 rfl)) (mvT hZ (own_w hw 101 rfl)) (by decide) (backOf (W := 0) (rmLC_3_0 l Z a0 hw [] t kt ch0 ch1 ch2 fm h0 n0 Z0 At hl0 hp0 S_fm rfm ) hZ (own_w hw 101 rfl) (own_w hw 100 rfl) (by decide) (by decide)) (g := (mkF m 12 #[.val (.ref a), .val (.int 0)] [(.int 0), (.ref t)])) rfl (by rw [hml]; rfl) (argsL := [(.ref t), (.int 0)]) (rest := []) (lenOf own_pd5 rfl) rfl (by show 2 * 0 + _ ≤ _; exact Nat.le_of_eq rfl) (hb hby d16_12) (fun _ _ => ⟨rfl, e5, (by decide : 0 + 0 ≤ _), (by decide : 0 + 0 ≤ _)⟩)
    dsimp only [Pt.U, Pt.locs, Pt.cells, Pt.slots] at X6 l6 y6 z6 st6 hQ6
    subst l6 y6 z6
    obtain ⟨rfl, N6q, e6⟩ := hQ6
    have N6 := Fr.app N4 N6q
    refine own_go (A := T6.setTop (mkF m 15 #[.val (.ref a), .val (.int 0)] [(.int ch0)])) (fun _ kz => st6 _ kz) ?_
    obtain ⟨fs, hrr, hrun, hended, hW, hsame⟩ := X6.leave (v := some (.int (nar .char ch0))) (fun h => by rw [Bd.returns] at h; cases h)
    refine ⟨_, _, ?_, hrun, hended, _, _, rfl, ?_, ⟨_, rfl⟩, hW, hsame.mono (by decide) (by decide)⟩
    · show Steps p.tables e below (T6.setTop (mkF m 15 #[.val (.ref a), .val (.int 0)] [(.int ch0)])) _
      exact retN X6 hx (t := .char) Bd.returns (by simp) (hb hby d16_15) hrr
    · show QrmSC_3_0 Z ch0 h0 n0 _ T6.heap _
      rw [e6]
      exact ⟨congrArg (fun z => some (Value.int z)) (own_narc ch0 hp0.1 hp0.2), N6, rfl⟩
def QrmUC_3_1 (Z : State) (ch1 : Int32) (h0 : Heap) (n0 : Nat) (v : Option Value) (h : Heap) (L : List Loc) : Prop := v = some (.int ch1) ∧ Fr n0 L ∧ h = h0
set_option maxRecDepth 65536 in
set_option maxHeartbeats 40000000 in
theorem rmUC_3_1 (l : Launch) (Z : State) (a0 : Array Value) (hw : ∀ d ∈ tables_1, d.before a0 Z = true) (ws : List Jvm.Cond) (t : Addr) (kt : ClassId) (ch0 ch1 ch2 : Int32) (fm : Value) (h0 : Heap) (n0 : Nat) (Z0 : n0 ≤ h0.size) (At : Arv Z h0 t kt .byte (6 : Int32) [(.int (own_l ch0)), (.int (own_h ch0)), (.int (own_l ch1)), (.int (own_h ch1)), (.int (own_l ch2)), (.int (own_h ch2))] (.int 0)) (hp1 : ¬ ch1 < 0 ∧ ¬ (65535 : Int32) < ch1) (S_fm : Sta Z h0 "jdk/internal/util/Preconditions" "SIOOBE_FORMATTER" "Ljava/util/function/BiFunction;" fm) (rfm : fm.isRef = true) (S_ad : Sta Z h0 "java/lang/StringUTF16" "$assertionsDisabled" "Z" (.int 1)) (S_hi : Sta Z h0 "java/lang/StringUTF16" "HI_BYTE_SHIFT" "I" (.int 0)) (S_lo : Sta Z h0 "java/lang/StringUTF16" "LO_BYTE_SHIFT" "I" (.int 8)) :
    MetFree l (⟨"java/lang/StringUTF16", "charAt", "([BI)C"⟩ : MethodName) (head1 (Jvm.Cond.code (⟨"java/lang/StringUTF16", "charAt", "([BI)C"⟩ : MethodName) jdk_52_method_83_code 2 (some .char) :: ws) ({ frames := 3, cells := 0, slots := 0, locals := 40 } : Room)) (fun ar_ U_ => ar_ = #[(.ref t), (.int 1)] ∧ Z.Warmed39 U_.vm ∧ U_.heap = h0) (fun _ _ _ _ _ => True) (fun _ U_ ou_ V_ => ∃ v_ L_, ou_ = .returned v_ ∧ QrmUC_3_1 Z ch1 h0 n0 v_ V_.heap L_ ∧ FrameEnd U_ ou_ V_ L_ ({ frames := 3, cells := 0, slots := 0, locals := 40 } : Room).cells ({ frames := 3, cells := 0, slots := 0, locals := 40 } : Room).slots) := by
  refine MetFree.of_bodySF (plainFor_of_name own_pn29) hisR ?_
  intro p e s m args below meth c s₁ Bd hml0 hP hK
  obtain ⟨rfl, hZ, hh⟩ := hP
  have hx := Bd.exec
  have hby := Bd.bytes
  have hml : c.maxLocals = 2 := hml0
  have hown : s.vm.findClass "java/lang/StringUTF16" = some m.cls := findClass_of_methodNamed Bd.named
  have hnm := (name_of_methodNamed Bd.named Bd.method).1
  have X0 : Stand p l e ({ frames := 3, cells := 0, slots := 0, locals := 40 } : Room) s m #[(.ref t), (.int 1)] below meth c s₁ [] 0 0 := Stand.of_body Bd
  have e0 : s₁.heap = h0 := by rw [← hh, Bd.state]; rfl
  have N0 := Fr.nil n0
  refine own_go (A := s₁.setTop (mkF m 0 #[.val (.ref t), .val (.int 1)] [])) (fun _ kz => castTop (own_ef29 m t (1 : Int32)) kz) ?_
  refine own_go (A := s₁.setTop (mkF m 2 #[.val (.ref t), .val (.int 1)] [(.ref t), (.int 1)])) (fun _ kz => ?_) ?_
  · refine XS.iloadN X0.here hx rfl (hb hby d29_0) rfl ?_
    refine XS.aloadN X0.here hx rfl (hb hby d29_1) rfl rfl ?_
    exact kz
  obtain ⟨_, _, ⟨T1, L1, k1, n1⟩, -, X1, ⟨Lc1, hQ1, l1, y1, z1⟩, st1⟩ := Jvm.LawKit.callS X0 hx (y := (⟨"java/lang/StringUTF16", "checkIndex", "(I[B)V"⟩ : MethodName)) hown (mvT hZ (own_w hw 157 rfl)) (mvT hZ (own_w hw 158 rfl)) (mvT hZ (own_w hw 22 rfl)) (mvT hZ (own_w hw 159 rfl)) (by decide) (backOf (W := 0) (rmUK_3 l Z a0 hw [] (1 : Int32) t kt fm (.int (own_l ch0)) (.int (own_h ch0)) (.int (own_l ch1)) (.int (own_h ch1)) (.int (own_l ch2)) (.int (own_h ch2)) h0 n0 Z0 (by decide) (by decide) At S_fm rfm) hZ (own_w hw 159 rfl) (own_w hw 22 rfl) (by decide) (by decide)) (g := (mkF m 2 #[.val (.ref t), .val (.int 1)] [(.ref t), (.int 1)])) rfl (by rw [hml]; rfl) (argsL := [(.int 1), (.ref t)]) (rest := []) (lenOf own_pd13 rfl) rfl (by show 2 * 0 + _ ≤ _; exact Nat.le_of_eq rfl) (hb hby d29_2) (fun _ _ => ⟨rfl, e0, (by decide : 0 + 0 ≤ _), (by decide : 0 + 0 ≤ _)⟩)
  dsimp only [Pt.U, Pt.locs, Pt.cells, Pt.slots] at X1 l1 y1 z1 st1 hQ1
  subst l1 y1 z1
  obtain ⟨rfl, N1q, e1⟩ := hQ1
  have N1 := Fr.app N0 N1q
  refine own_go (A := T1.setTop (mkF m 5 #[.val (.ref t), .val (.int 1)] [])) (fun _ kz => st1 _ kz) ?_
  refine own_go (A := T1.setTop (mkF m 7 #[.val (.ref t), .val (.int 1)] [(.int 1), (.ref t)])) (fun _ kz => ?_) ?_
  · refine XS.aloadN X1.here hx rfl (hb hby d29_5) rfl rfl ?_
    refine XS.iloadN X1.here hx rfl (hb hby d29_6) rfl ?_
    exact kz
  obtain ⟨_, _, ⟨T2, L2, k2, n2⟩, -, X2, ⟨Lc2, hQ2, l2, y2, z2⟩, st2⟩ := Jvm.LawKit.callS X1 hx (y := (⟨"java/lang/StringUTF16", "getChar", "([BI)C"⟩ : MethodName)) hown (mvT hZ (own_w hw 151 rfl)) (mvT hZ (own_w hw 152 rfl)) (mvT hZ (own_w hw 22 rfl)) (mvT hZ (own_w hw 153 rfl)) (by decide) (backOf (W := 0) (rmGC_3_1 l Z a0 hw [] t kt ch1 (.int (own_l ch0)) (.int (own_h ch0)) (.int (own_l ch2)) (.int (own_h ch2)) h0 n0 Z0 At hp1 S_ad S_hi S_lo) hZ (own_w hw 153 rfl) (own_w hw 22 rfl) (by decide) (by decide)) (g := (mkF m 7 #[.val (.ref t), .val (.int 1)] [(.int 1), (.ref t)])) rfl (by rw [hml]; rfl) (argsL := [(.ref t), (.int 1)]) (rest := []) (lenOf own_pd5 rfl) rfl (by show 2 * 0 + _ ≤ _; exact Nat.le_of_eq rfl) (hb hby d29_7) (fun _ _ => ⟨rfl, e1, (by decide : 0 + 0 ≤ _), (by decide : 0 + 0 ≤ _)⟩)
  dsimp only [Pt.U, Pt.locs, Pt.cells, Pt.slots] at X2 l2 y2 z2 st2 hQ2
  subst l2 y2 z2
  obtain ⟨rfl, N2q, e2⟩ := hQ2
  have N2 := Fr.app N1 N2q
  refine own_go (A := T2.setTop (mkF m 10 #[.val (.ref t), .val (.int 1)] [(.int ch1)])) (fun _ kz => st2 _ kz) ?_
  obtain ⟨fs, hrr, hrun, hended, hW, hsame⟩ := X2.leave (v := some (.int (nar .char ch1))) (fun h => by rw [Bd.returns] at h; cases h)
  refine ⟨_, _, ?_, hrun, hended, _, _, rfl, ?_, ⟨_, rfl⟩, hW, hsame.mono (by decide) (by decide)⟩
  · show Steps p.tables e below (T2.setTop (mkF m 10 #[.val (.ref t), .val (.int 1)] [(.int ch1)])) _
    exact retN X2 hx (t := .char) Bd.returns (by simp) (hb hby d29_10) hrr
  · show QrmUC_3_1 Z ch1 h0 n0 _ T2.heap _
    rw [e2]
    exact ⟨congrArg (fun z => some (Value.int z)) (own_narc ch1 hp1.1 hp1.2), N2, rfl⟩
def QrmLC_3_1 (Z : State) (ch1 : Int32) (h0 : Heap) (n0 : Nat) (v : Option Value) (h : Heap) (L : List Loc) : Prop := v = some (.int ch1) ∧ Fr n0 L ∧ h = h0
set_option maxRecDepth 65536 in
set_option maxHeartbeats 40000000 in
theorem rmLC_3_1 (l : Launch) (Z : State) (a0 : Array Value) (hw : ∀ d ∈ tables_1, d.before a0 Z = true) (ws : List Jvm.Cond) (t : Addr) (kt : ClassId) (ch0 ch1 ch2 : Int32) (fm : Value) (h0 : Heap) (n0 : Nat) (Z0 : n0 ≤ h0.size) (At : Arv Z h0 t kt .byte (3 : Int32) [(.int (ch0.toInt8.toInt32)), (.int (ch1.toInt8.toInt32)), (.int (ch2.toInt8.toInt32))] (.int 0)) (hl1 : ¬ (255 : Int32) < ch1) (hp1 : ¬ ch1 < 0 ∧ ¬ (65535 : Int32) < ch1) (S_fm : Sta Z h0 "jdk/internal/util/Preconditions" "SIOOBE_FORMATTER" "Ljava/util/function/BiFunction;" fm) (rfm : fm.isRef = true) :
    MetFree l (⟨"java/lang/StringLatin1", "charAt", "([BI)C"⟩ : MethodName) (head1 (Jvm.Cond.code (⟨"java/lang/StringLatin1", "charAt", "([BI)C"⟩ : MethodName) jdk_43_method_2_code 2 (some .char) :: ws) ({ frames := 2, cells := 0, slots := 0, locals := 27 } : Room)) (fun ar_ U_ => ar_ = #[(.ref t), (.int 1)] ∧ Z.Warmed39 U_.vm ∧ U_.heap = h0) (fun _ _ _ _ _ => True) (fun _ U_ ou_ V_ => ∃ v_ L_, ou_ = .returned v_ ∧ QrmLC_3_1 Z ch1 h0 n0 v_ V_.heap L_ ∧ FrameEnd U_ ou_ V_ L_ ({ frames := 2, cells := 0, slots := 0, locals := 27 } : Room).cells ({ frames := 2, cells := 0, slots := 0, locals := 27 } : Room).slots) := by
  refine MetFree.of_bodySF (plainFor_of_name own_pn18) hisR ?_
  intro p e s m args below meth c s₁ Bd hml0 hP hK
  obtain ⟨rfl, hZ, hh⟩ := hP
  have hx := Bd.exec
  have hby := Bd.bytes
  have hml : c.maxLocals = 2 := hml0
  have hown : s.vm.findClass "java/lang/StringLatin1" = some m.cls := findClass_of_methodNamed Bd.named
  have hnm := (name_of_methodNamed Bd.named Bd.method).1
  have X0 : Stand p l e ({ frames := 2, cells := 0, slots := 0, locals := 27 } : Room) s m #[(.ref t), (.int 1)] below meth c s₁ [] 0 0 := Stand.of_body Bd
  have e0 : s₁.heap = h0 := by rw [← hh, Bd.state]; rfl
  have N0 := Fr.nil n0
  refine own_go (A := s₁.setTop (mkF m 0 #[.val (.ref t), .val (.int 1)] [])) (fun _ kz => castTop (own_ef18 m t (1 : Int32)) kz) ?_
  refine own_go (A := s₁.setTop (mkF m 2 #[.val (.ref t), .val (.int 1)] [(.ref t), (.int 1)])) (fun _ kz => ?_) ?_
  · refine XS.iloadN X0.here hx rfl (hb hby d18_0) rfl ?_
    refine XS.aloadN X0.here hx rfl (hb hby d18_1) rfl rfl ?_
    exact kz
  obtain ⟨cl1, Ar1, -, S1, M1, -, -⟩ := id At
  refine own_go (A := s₁.setTop (mkF m 3 #[.val (.ref t), .val (.int 1)] [(.int 3), (.int 1)])) (fun _ kz => ?_) ?_
  · refine X0.arraylength hx (by rw [e0]; exact Ar1.1) (State.isArrayOf_alike hZ.alike Ar1.2.1) (g := (mkF m 2 #[.val (.ref t), .val (.int 1)] [(.ref t), (.int 1)])) rfl rfl (hb hby d18_2) _ ?_
    rw [len_of S1 M1]
    exact kz
  obtain ⟨_, _, ⟨T2, L2, k2, n2⟩, -, X2, ⟨Lc2, hQ2, l2, y2, z2⟩, st2⟩ := Jvm.LawKit.callS X0 hx (y := (⟨"java/lang/String", "checkIndex", "(II)V"⟩ : MethodName)) hown (mvT hZ (own_w hw 102 rfl)) (mvT hZ (own_w hw 103 rfl)) (mvT hZ (own_w hw 7 rfl)) (mvT hZ (own_w hw 104 rfl)) (by decide) (backOf (W := 0) (rmSK l Z a0 hw [] (1 : Int32) (3 : Int32) fm h0 n0 Z0 (by decide) (by decide) S_fm rfm) hZ (own_w hw 104 rfl) (own_w hw 7 rfl) (by decide) (by decide)) (g := (mkF m 3 #[.val (.ref t), .val (.int 1)] [(.int 3), (.int 1)])) rfl (by rw [hml]; rfl) (argsL := [(.int 1), (.int 3)]) (rest := []) (lenOf own_pd12 rfl) rfl (by show 2 * 0 + _ ≤ _; exact Nat.le_of_eq rfl) (hb hby d18_3) (fun _ _ => ⟨rfl, e0, (by decide : 0 + 0 ≤ _), (by decide : 0 + 0 ≤ _)⟩)
  dsimp only [Pt.U, Pt.locs, Pt.cells, Pt.slots] at X2 l2 y2 z2 st2 hQ2
  subst l2 y2 z2
  obtain ⟨rfl, N2q, e2⟩ := hQ2
  have N2 := Fr.app N0 N2q
  refine own_go (A := T2.setTop (mkF m 6 #[.val (.ref t), .val (.int 1)] [])) (fun _ kz => st2 _ kz) ?_
  refine own_go (A := T2.setTop (mkF m 8 #[.val (.ref t), .val (.int 1)] [(.int 1), (.ref t)])) (fun _ kz => ?_) ?_
  · refine XS.aloadN X2.here hx rfl (hb hby d18_6) rfl rfl ?_
    refine XS.iloadN X2.here hx rfl (hb hby d18_7) rfl ?_
    exact kz
  obtain ⟨cl3, Ar3, -, S3, M3, H3, -⟩ := id At
  have hin3 : ¬ ((1 : Int32) < 0 ∨ cl3.slots.size ≤ ((1 : Int32)).toNatClampNeg) := inb_of S3 ⟨by decide, by decide⟩
  have hat3 : cl3.slots[((1 : Int32)).toNatClampNeg]? = some (.int (ch1.toInt8.toInt32)) := H3.at hin3 rfl
  refine own_go (A := T2.setTop (mkF m 9 #[.val (.ref t), .val (.int 1)] [(.int (ch1.toInt8.toInt32))])) (fun _ kz => ?_) ?_
  · refine X2.baloadBytes hx (j := (1 : Int32)) (v := (.int (ch1.toInt8.toInt32))) (by rw [e2]; exact Ar3.1) (State.isArrayOf_alike hZ.alike Ar3.2.1) Ar3.2.2 hin3 hat3 (g := (mkF m 8 #[.val (.ref t), .val (.int 1)] [(.int 1), (.ref t)])) rfl rfl (hb hby d18_8) _ ?_
    exact kz
  refine own_go (A := T2.setTop (mkF m 14 #[.val (.ref t), .val (.int 1)] [(.int (((ch1.toInt8.toInt32) &&& (255 : Int32)).toUInt32.toUInt16.toUInt32.toInt32))])) (fun _ kz => ?_) ?_
  · refine XS.sipush X2.here hx rfl (hb hby d18_9) ?_
    refine XS.iand X2.here hx rfl (hb hby d18_12) rfl ?_
    refine XS.i2c X2.here hx rfl (hb hby d18_13) rfl ?_
    exact kz
  obtain ⟨fs, hrr, hrun, hended, hW, hsame⟩ := X2.leave (v := some (.int (nar .char (((ch1.toInt8.toInt32) &&& (255 : Int32)).toUInt32.toUInt16.toUInt32.toInt32)))) (fun h => by rw [Bd.returns] at h; cases h)
  refine ⟨_, _, ?_, hrun, hended, _, _, rfl, ?_, ⟨_, rfl⟩, hW, hsame.mono (by decide) (by decide)⟩
  · show Steps p.tables e below (T2.setTop (mkF m 14 #[.val (.ref t), .val (.int 1)] [(.int (((ch1.toInt8.toInt32) &&& (255 : Int32)).toUInt32.toUInt16.toUInt32.toInt32))])) _
    exact retN X2 hx (t := .char) Bd.returns (by simp) (hb hby d18_14) hrr
  · show QrmLC_3_1 Z ch1 h0 n0 _ T2.heap _
    rw [e2]
    exact ⟨congrArg (fun z => some (Value.int z)) (own_lat ch1 hp1.1 hl1), N2, rfl⟩
def QrmSC_3_1 (Z : State) (ch1 : Int32) (h0 : Heap) (n0 : Nat) (v : Option Value) (h : Heap) (L : List Loc) : Prop := v = some (.int ch1) ∧ Fr n0 L ∧ h = h0
set_option maxRecDepth 65536 in
set_option maxHeartbeats 40000000 in
theorem rmSC_3_1 (l : Launch) (Z : State) (a0 : Array Value) (hw : ∀ d ∈ tables_1, d.before a0 Z = true) (ws : List Jvm.Cond) (a : Addr) (ch0 ch1 ch2 cs : Int32) (fm : Value) (h0 : Heap) (n0 : Nat) (Z0 : n0 ≤ h0.size) (Ex : Exa Z h0 a "java/lang/String") (St : own_Str3 Z h0 a ch0 ch1 ch2) (hcs : ¬ (cs = (0 : Int32))) (S_cs : Sta Z h0 "java/lang/String" "COMPACT_STRINGS" "Z" (.int cs)) (hp1 : ¬ ch1 < 0 ∧ ¬ (65535 : Int32) < ch1) (S_fm : Sta Z h0 "jdk/internal/util/Preconditions" "SIOOBE_FORMATTER" "Ljava/util/function/BiFunction;" fm) (rfm : fm.isRef = true) (S_ad : Sta Z h0 "java/lang/StringUTF16" "$assertionsDisabled" "Z" (.int 1)) (S_hi : Sta Z h0 "java/lang/StringUTF16" "HI_BYTE_SHIFT" "I" (.int 0)) (S_lo : Sta Z h0 "java/lang/StringUTF16" "LO_BYTE_SHIFT" "I" (.int 8)) :
    MetFree l (⟨"java/lang/String", "charAt", "(I)C"⟩ : MethodName) (head1 (Jvm.Cond.code (⟨"java/lang/String", "charAt", "(I)C"⟩ : MethodName) jdk_42_method_56_code 2 (some .char) :: ws) ({ frames := 4, cells := 0, slots := 0, locals := 53 } : Room)) (fun ar_ U_ => ar_ = #[(.ref a), (.int 1)] ∧ Z.Warmed39 U_.vm ∧ U_.heap = h0) (fun _ _ _ _ _ => True) (fun _ U_ ou_ V_ => ∃ v_ L_, ou_ = .returned v_ ∧ QrmSC_3_1 Z ch1 h0 n0 v_ V_.heap L_ ∧ FrameEnd U_ ou_ V_ L_ ({ frames := 4, cells := 0, slots := 0, locals := 53 } : Room).cells ({ frames := 4, cells := 0, slots := 0, locals := 53 } : Room).slots) := by
  refine MetFree.of_bodySF (plainFor_of_name own_pn16) hisR ?_
  intro p e s m args below meth c s₁ Bd hml0 hP hK
  obtain ⟨rfl, hZ, hh⟩ := hP
  have hx := Bd.exec
  have hby := Bd.bytes
  have hml : c.maxLocals = 2 := hml0
  have hown : s.vm.findClass "java/lang/String" = some m.cls := findClass_of_methodNamed Bd.named
  have hnm := (name_of_methodNamed Bd.named Bd.method).1
  have X0 : Stand p l e ({ frames := 4, cells := 0, slots := 0, locals := 53 } : Room) s m #[(.ref a), (.int 1)] below meth c s₁ [] 0 0 := Stand.of_body Bd
  have e0 : s₁.heap = h0 := by rw [← hh, Bd.state]; rfl
  have N0 := Fr.nil n0
  refine own_go (A := s₁.setTop (mkF m 0 #[.val (.ref a), .val (.int 1)] [])) (fun _ kz => castTop (own_ef16 m a (1 : Int32)) kz) ?_
  obtain ⟨t, kt, ⟨hwd, Fv, Fc, At⟩ | ⟨hl0, hl1, hl2, Fv, Fc, At⟩⟩ := St
  · skip
    refine own_go (A := s₁.setTop (mkF m 1 #[.val (.ref a), .val (.int 1)] [(.ref a)])) (fun _ kz => ?_) ?_
    · refine XS.aloadN X0.here hx rfl (hb hby d16_0) rfl rfl ?_
      exact kz
    obtain ⟨cq1, kq1, q1a, q1b, q1c⟩ := isOf hZ e0 Ex
    obtain ⟨_, _, ⟨T1, L1, k1, n1⟩, -, X1, ⟨Lc1, hQ1, l1, y1, z1⟩, st1⟩ := X0.virtualBack hx (y := (⟨"java/lang/String", "isLatin1", "()Z"⟩ : MethodName)) (z := (⟨"java/lang/String", "isLatin1", "()Z"⟩ : MethodName)) hown (mvT hZ (own_w hw 93 rfl)) (mvT hZ (own_w hw 94 rfl)) (notFace_of_selects (args := #[]) (mvT hZ (own_w hw 96 rfl))) (mvT hZ (own_w hw 96 rfl)) (mvT hZ (own_w hw 95 rfl)) (by decide) (backOf (W := 0) (rmIL_W l Z a0 hw [] a cs h0 n0 Z0 Fc hcs S_cs) hZ (own_w hw 97 rfl) (own_w hw 7 rfl) (by decide) (by decide)) q1a q1c (g := (mkF m 1 #[.val (.ref a), .val (.int 1)] [(.ref a)])) rfl (by rw [hml]; rfl) (Steps.refl _) (argsL := []) (rest := []) (lenOf own_pd14 rfl) rfl (by show 2 * 0 + _ ≤ _; exact Nat.le_of_eq rfl) (hb hby d16_1) (fun _ _ => ⟨rfl, e0, (by decide : 0 + 0 ≤ _), (by decide : 0 + 0 ≤ _)⟩)
    dsimp only [Pt.U, Pt.locs, Pt.cells, Pt.slots] at X1 l1 y1 z1 st1 hQ1
    subst l1 y1 z1
    obtain ⟨rfl, N1q, e1⟩ := hQ1
    have N1 := Fr.app N0 N1q
    refine own_go (A := T1.setTop (mkF m 4 #[.val (.ref a), .val (.int 1)] [(.int 0)])) (fun _ kz => st1.trans kz) ?_
    refine own_go (A := T1.setTop (mkF m 17 #[.val (.ref a), .val (.int 1)] [(.ref a)])) (fun _ kz => ?_) ?_
    · refine XS.ifYes X1.here hx rfl (pc0 := 4) (pc' := 16) rfl (hb hby d16_4) rfl ((if0 _ _).trans (teq (by decide : ((0 : Int32) = (0 : Int32)))).1) (by decide) (by decide) ?_
      refine XS.aloadN X1.here hx rfl (hb hby d16_16) rfl rfl ?_
      exact kz
    obtain ⟨T2, X2, e2, st2⟩ := getF X1 hx hZ hown (host := "") (Or.inl (own_w hw 33 rfl)) Via.refl e1 Fv (g := (mkF m 17 #[.val (.ref a), .val (.int 1)] [(.ref a)])) rfl rfl (hb hby d16_17)
    refine own_go (A := T2.setTop (mkF m 20 #[.val (.ref a), .val (.int 1)] [(.ref t)])) (fun _ kz => st2 _ kz) ?_
    refine own_go (A := T2.setTop (mkF m 21 #[.val (.ref a), .val (.int 1)] [(.int 1), (.ref t)])) (fun _ kz => ?_) ?_
    · refine XS.iloadN X2.here hx rfl (hb hby d16_20) rfl ?_
      exact kz
    obtain ⟨_, _, ⟨T3, L3, k3, n3⟩, -, X3, ⟨Lc3, hQ3, l3, y3, z3⟩, st3⟩ := Jvm.LawKit.callS X2 hx (y := (⟨"java/lang/StringUTF16", "charAt", "([BI)C"⟩ : MethodName)) hown (mvT hZ (own_w hw 154 rfl)) (mvT hZ (own_w hw 155 rfl)) (mvT hZ (own_w hw 22 rfl)) (mvT hZ (own_w hw 156 rfl)) (by decide) (backOf (W := 0) (rmUC_3_1 l Z a0 hw [] t kt ch0 ch1 ch2 fm h0 n0 Z0 At  hp1 S_fm rfm S_ad S_hi S_lo) hZ (own_w hw 156 rfl) (own_w hw 22 rfl) (by decide) (by decide)) (g := (mkF m 21 #[.val (.ref a), .val (.int 1)] [(.int 1), (.ref t)])) rfl (by rw [hml]; rfl) (argsL := [(.ref t), (.int 1)]) (rest := []) (lenOf own_pd5 rfl) rfl (by show 2 * 0 + _ ≤ _; exact Nat.le_of_eq rfl) (hb hby d16_21) (fun _ _ => ⟨rfl, e2, (by decide : 0 + 0 ≤ _), (by decide : 0 + 0 ≤ _)⟩)
    dsimp only [Pt.U, Pt.locs, Pt.cells, Pt.slots] at X3 l3 y3 z3 st3 hQ3
    subst l3 y3 z3
    obtain ⟨rfl, N3q, e3⟩ := hQ3
    have N3 := Fr.app N1 N3q
    refine own_go (A := T3.setTop (mkF m 24 #[.val (.ref a), .val (.int 1)] [(.int ch1)])) (fun _ kz => st3 _ kz) ?_
    obtain ⟨fs, hrr, hrun, hended, hW, hsame⟩ := X3.leave (v := some (.int (nar .char ch1))) (fun h => by rw [Bd.returns] at h; cases h)
    refine ⟨_, _, ?_, hrun, hended, _, _, rfl, ?_, ⟨_, rfl⟩, hW, hsame.mono (by decide) (by decide)⟩
    · show Steps p.tables e below (T3.setTop (mkF m 24 #[.val (.ref a), .val (.int 1)] [(.int ch1)])) _
      exact retN X3 hx (t := .char) Bd.returns (by simp) (hb hby d16_24) hrr
    · show QrmSC_3_1 Z ch1 h0 n0 _ T3.heap _
      rw [e3]
      exact ⟨congrArg (fun z => some (Value.int z)) (own_narc ch1 hp1.1 hp1.2), N3, rfl⟩
  · skip
    refine own_go (A := s₁.setTop (mkF m 1 #[.val (.ref a), .val (.int 1)] [(.ref a)])) (fun _ kz => ?_) ?_
    · refine XS.aloadN X0.here hx rfl (hb hby d16_0) rfl rfl ?_
      exact kz
    obtain ⟨cq4, kq4, q4a, q4b, q4c⟩ := isOf hZ e0 Ex
    obtain ⟨_, _, ⟨T4, L4, k4, n4⟩, -, X4, ⟨Lc4, hQ4, l4, y4, z4⟩, st4⟩ := X0.virtualBack hx (y := (⟨"java/lang/String", "isLatin1", "()Z"⟩ : MethodName)) (z := (⟨"java/lang/String", "isLatin1", "()Z"⟩ : MethodName)) hown (mvT hZ (own_w hw 93 rfl)) (mvT hZ (own_w hw 94 rfl)) (notFace_of_selects (args := #[]) (mvT hZ (own_w hw 96 rfl))) (mvT hZ (own_w hw 96 rfl)) (mvT hZ (own_w hw 95 rfl)) (by decide) (backOf (W := 0) (rmIL_L l Z a0 hw [] a cs h0 n0 Z0 Fc hcs S_cs) hZ (own_w hw 97 rfl) (own_w hw 7 rfl) (by decide) (by decide)) q4a q4c (g := (mkF m 1 #[.val (.ref a), .val (.int 1)] [(.ref a)])) rfl (by rw [hml]; rfl) (Steps.refl _) (argsL := []) (rest := []) (lenOf own_pd14 rfl) rfl (by show 2 * 0 + _ ≤ _; exact Nat.le_of_eq rfl) (hb hby d16_1) (fun _ _ => ⟨rfl, e0, (by decide : 0 + 0 ≤ _), (by decide : 0 + 0 ≤ _)⟩)
    dsimp only [Pt.U, Pt.locs, Pt.cells, Pt.slots] at X4 l4 y4 z4 st4 hQ4
    subst l4 y4 z4
    obtain ⟨rfl, N4q, e4⟩ := hQ4
    have N4 := Fr.app N0 N4q
    refine own_go (A := T4.setTop (mkF m 4 #[.val (.ref a), .val (.int 1)] [(.int 1)])) (fun _ kz => st4.trans kz) ?_
    refine own_go (A := T4.setTop (mkF m 8 #[.val (.ref a), .val (.int 1)] [(.ref a)])) (fun _ kz => ?_) ?_
    · refine XS.ifNo X4.here hx rfl (hb hby d16_4) rfl ((if0 _ _).trans (feq (by decide : ¬ ((1 : Int32) = (0 : Int32)))).1) ?_
      refine XS.aloadN X4.here hx rfl (hb hby d16_7) rfl rfl ?_
      exact kz
    obtain ⟨T5, X5, e5, st5⟩ := getF X4 hx hZ hown (host := "") (Or.inl (own_w hw 33 rfl)) Via.refl e4 Fv (g := (mkF m 8 #[.val (.ref a), .val (.int 1)] [(.ref a)])) rfl rfl (hb hby d16_8)
    refine own_go (A := T5.setTop (mkF m 11 #[.val (.ref a), .val (.int 1)] [(.ref t)])) (fun _ kz => st5 _ kz) ?_
    refine own_go (A := T5.setTop (mkF m 12 #[.val (.ref a), .val (.int 1)] [(.int 1), (.ref t)])) (fun _ kz => ?_) ?_
    · refine XS.iloadN X5.here hx rfl (hb hby d16_11) rfl ?_
      exact kz
    obtain ⟨_, _, ⟨T6, L6, k6, n6⟩, -, X6, ⟨Lc6, hQ6, l6, y6, z6⟩, st6⟩ := Jvm.LawKit.callS X5 hx (y := (⟨"java/lang/StringLatin1", "charAt", "([BI)C"⟩ : MethodName)) hown (mvT hZ (own_w hw 98 rfl)) (mvT hZ (own_w hw 99 rfl)) (mvT hZ (own_w hw 100 rfl)) (mvT hZ (own_w hw 101 rfl)) (by decide) (backOf (W := 0) (rmLC_3_1 l Z a0 hw [] t kt ch0 ch1 ch2 fm h0 n0 Z0 At hl1 hp1 S_fm rfm ) hZ (own_w hw 101 rfl) (own_w hw 100 rfl) (by decide) (by decide)) (g := (mkF m 12 #[.val (.ref a), .val (.int 1)] [(.int 1), (.ref t)])) rfl (by rw [hml]; rfl) (argsL := [(.ref t), (.int 1)]) (rest := []) (lenOf own_pd5 rfl) rfl (by show 2 * 0 + _ ≤ _; exact Nat.le_of_eq rfl) (hb hby d16_12) (fun _ _ => ⟨rfl, e5, (by decide : 0 + 0 ≤ _), (by decide : 0 + 0 ≤ _)⟩)
    dsimp only [Pt.U, Pt.locs, Pt.cells, Pt.slots] at X6 l6 y6 z6 st6 hQ6
    subst l6 y6 z6
    obtain ⟨rfl, N6q, e6⟩ := hQ6
    have N6 := Fr.app N4 N6q
    refine own_go (A := T6.setTop (mkF m 15 #[.val (.ref a), .val (.int 1)] [(.int ch1)])) (fun _ kz => st6 _ kz) ?_
    obtain ⟨fs, hrr, hrun, hended, hW, hsame⟩ := X6.leave (v := some (.int (nar .char ch1))) (fun h => by rw [Bd.returns] at h; cases h)
    refine ⟨_, _, ?_, hrun, hended, _, _, rfl, ?_, ⟨_, rfl⟩, hW, hsame.mono (by decide) (by decide)⟩
    · show Steps p.tables e below (T6.setTop (mkF m 15 #[.val (.ref a), .val (.int 1)] [(.int ch1)])) _
      exact retN X6 hx (t := .char) Bd.returns (by simp) (hb hby d16_15) hrr
    · show QrmSC_3_1 Z ch1 h0 n0 _ T6.heap _
      rw [e6]
      exact ⟨congrArg (fun z => some (Value.int z)) (own_narc ch1 hp1.1 hp1.2), N6, rfl⟩
def QrmUC_3_2 (Z : State) (ch2 : Int32) (h0 : Heap) (n0 : Nat) (v : Option Value) (h : Heap) (L : List Loc) : Prop := v = some (.int ch2) ∧ Fr n0 L ∧ h = h0
set_option maxRecDepth 65536 in
set_option maxHeartbeats 40000000 in
theorem rmUC_3_2 (l : Launch) (Z : State) (a0 : Array Value) (hw : ∀ d ∈ tables_1, d.before a0 Z = true) (ws : List Jvm.Cond) (t : Addr) (kt : ClassId) (ch0 ch1 ch2 : Int32) (fm : Value) (h0 : Heap) (n0 : Nat) (Z0 : n0 ≤ h0.size) (At : Arv Z h0 t kt .byte (6 : Int32) [(.int (own_l ch0)), (.int (own_h ch0)), (.int (own_l ch1)), (.int (own_h ch1)), (.int (own_l ch2)), (.int (own_h ch2))] (.int 0)) (hp2 : ¬ ch2 < 0 ∧ ¬ (65535 : Int32) < ch2) (S_fm : Sta Z h0 "jdk/internal/util/Preconditions" "SIOOBE_FORMATTER" "Ljava/util/function/BiFunction;" fm) (rfm : fm.isRef = true) (S_ad : Sta Z h0 "java/lang/StringUTF16" "$assertionsDisabled" "Z" (.int 1)) (S_hi : Sta Z h0 "java/lang/StringUTF16" "HI_BYTE_SHIFT" "I" (.int 0)) (S_lo : Sta Z h0 "java/lang/StringUTF16" "LO_BYTE_SHIFT" "I" (.int 8)) :
    MetFree l (⟨"java/lang/StringUTF16", "charAt", "([BI)C"⟩ : MethodName) (head1 (Jvm.Cond.code (⟨"java/lang/StringUTF16", "charAt", "([BI)C"⟩ : MethodName) jdk_52_method_83_code 2 (some .char) :: ws) ({ frames := 3, cells := 0, slots := 0, locals := 40 } : Room)) (fun ar_ U_ => ar_ = #[(.ref t), (.int 2)] ∧ Z.Warmed39 U_.vm ∧ U_.heap = h0) (fun _ _ _ _ _ => True) (fun _ U_ ou_ V_ => ∃ v_ L_, ou_ = .returned v_ ∧ QrmUC_3_2 Z ch2 h0 n0 v_ V_.heap L_ ∧ FrameEnd U_ ou_ V_ L_ ({ frames := 3, cells := 0, slots := 0, locals := 40 } : Room).cells ({ frames := 3, cells := 0, slots := 0, locals := 40 } : Room).slots) := by
  refine MetFree.of_bodySF (plainFor_of_name own_pn29) hisR ?_
  intro p e s m args below meth c s₁ Bd hml0 hP hK
  obtain ⟨rfl, hZ, hh⟩ := hP
  have hx := Bd.exec
  have hby := Bd.bytes
  have hml : c.maxLocals = 2 := hml0
  have hown : s.vm.findClass "java/lang/StringUTF16" = some m.cls := findClass_of_methodNamed Bd.named
  have hnm := (name_of_methodNamed Bd.named Bd.method).1
  have X0 : Stand p l e ({ frames := 3, cells := 0, slots := 0, locals := 40 } : Room) s m #[(.ref t), (.int 2)] below meth c s₁ [] 0 0 := Stand.of_body Bd
  have e0 : s₁.heap = h0 := by rw [← hh, Bd.state]; rfl
  have N0 := Fr.nil n0
  refine own_go (A := s₁.setTop (mkF m 0 #[.val (.ref t), .val (.int 2)] [])) (fun _ kz => castTop (own_ef29 m t (2 : Int32)) kz) ?_
  refine own_go (A := s₁.setTop (mkF m 2 #[.val (.ref t), .val (.int 2)] [(.ref t), (.int 2)])) (fun _ kz => ?_) ?_
  · refine XS.iloadN X0.here hx rfl (hb hby d29_0) rfl ?_
    refine XS.aloadN X0.here hx rfl (hb hby d29_1) rfl rfl ?_
    exact kz
  obtain ⟨_, _, ⟨T1, L1, k1, n1⟩, -, X1, ⟨Lc1, hQ1, l1, y1, z1⟩, st1⟩ := Jvm.LawKit.callS X0 hx (y := (⟨"java/lang/StringUTF16", "checkIndex", "(I[B)V"⟩ : MethodName)) hown (mvT hZ (own_w hw 157 rfl)) (mvT hZ (own_w hw 158 rfl)) (mvT hZ (own_w hw 22 rfl)) (mvT hZ (own_w hw 159 rfl)) (by decide) (backOf (W := 0) (rmUK_3 l Z a0 hw [] (2 : Int32) t kt fm (.int (own_l ch0)) (.int (own_h ch0)) (.int (own_l ch1)) (.int (own_h ch1)) (.int (own_l ch2)) (.int (own_h ch2)) h0 n0 Z0 (by decide) (by decide) At S_fm rfm) hZ (own_w hw 159 rfl) (own_w hw 22 rfl) (by decide) (by decide)) (g := (mkF m 2 #[.val (.ref t), .val (.int 2)] [(.ref t), (.int 2)])) rfl (by rw [hml]; rfl) (argsL := [(.int 2), (.ref t)]) (rest := []) (lenOf own_pd13 rfl) rfl (by show 2 * 0 + _ ≤ _; exact Nat.le_of_eq rfl) (hb hby d29_2) (fun _ _ => ⟨rfl, e0, (by decide : 0 + 0 ≤ _), (by decide : 0 + 0 ≤ _)⟩)
  dsimp only [Pt.U, Pt.locs, Pt.cells, Pt.slots] at X1 l1 y1 z1 st1 hQ1
  subst l1 y1 z1
  obtain ⟨rfl, N1q, e1⟩ := hQ1
  have N1 := Fr.app N0 N1q
  refine own_go (A := T1.setTop (mkF m 5 #[.val (.ref t), .val (.int 2)] [])) (fun _ kz => st1 _ kz) ?_
  refine own_go (A := T1.setTop (mkF m 7 #[.val (.ref t), .val (.int 2)] [(.int 2), (.ref t)])) (fun _ kz => ?_) ?_
  · refine XS.aloadN X1.here hx rfl (hb hby d29_5) rfl rfl ?_
    refine XS.iloadN X1.here hx rfl (hb hby d29_6) rfl ?_
    exact kz
  obtain ⟨_, _, ⟨T2, L2, k2, n2⟩, -, X2, ⟨Lc2, hQ2, l2, y2, z2⟩, st2⟩ := Jvm.LawKit.callS X1 hx (y := (⟨"java/lang/StringUTF16", "getChar", "([BI)C"⟩ : MethodName)) hown (mvT hZ (own_w hw 151 rfl)) (mvT hZ (own_w hw 152 rfl)) (mvT hZ (own_w hw 22 rfl)) (mvT hZ (own_w hw 153 rfl)) (by decide) (backOf (W := 0) (rmGC_3_2 l Z a0 hw [] t kt ch2 (.int (own_l ch0)) (.int (own_h ch0)) (.int (own_l ch1)) (.int (own_h ch1)) h0 n0 Z0 At hp2 S_ad S_hi S_lo) hZ (own_w hw 153 rfl) (own_w hw 22 rfl) (by decide) (by decide)) (g := (mkF m 7 #[.val (.ref t), .val (.int 2)] [(.int 2), (.ref t)])) rfl (by rw [hml]; rfl) (argsL := [(.ref t), (.int 2)]) (rest := []) (lenOf own_pd5 rfl) rfl (by show 2 * 0 + _ ≤ _; exact Nat.le_of_eq rfl) (hb hby d29_7) (fun _ _ => ⟨rfl, e1, (by decide : 0 + 0 ≤ _), (by decide : 0 + 0 ≤ _)⟩)
  dsimp only [Pt.U, Pt.locs, Pt.cells, Pt.slots] at X2 l2 y2 z2 st2 hQ2
  subst l2 y2 z2
  obtain ⟨rfl, N2q, e2⟩ := hQ2
  have N2 := Fr.app N1 N2q
  refine own_go (A := T2.setTop (mkF m 10 #[.val (.ref t), .val (.int 2)] [(.int ch2)])) (fun _ kz => st2 _ kz) ?_
  obtain ⟨fs, hrr, hrun, hended, hW, hsame⟩ := X2.leave (v := some (.int (nar .char ch2))) (fun h => by rw [Bd.returns] at h; cases h)
  refine ⟨_, _, ?_, hrun, hended, _, _, rfl, ?_, ⟨_, rfl⟩, hW, hsame.mono (by decide) (by decide)⟩
  · show Steps p.tables e below (T2.setTop (mkF m 10 #[.val (.ref t), .val (.int 2)] [(.int ch2)])) _
    exact retN X2 hx (t := .char) Bd.returns (by simp) (hb hby d29_10) hrr
  · show QrmUC_3_2 Z ch2 h0 n0 _ T2.heap _
    rw [e2]
    exact ⟨congrArg (fun z => some (Value.int z)) (own_narc ch2 hp2.1 hp2.2), N2, rfl⟩
def QrmLC_3_2 (Z : State) (ch2 : Int32) (h0 : Heap) (n0 : Nat) (v : Option Value) (h : Heap) (L : List Loc) : Prop := v = some (.int ch2) ∧ Fr n0 L ∧ h = h0
set_option maxRecDepth 65536 in
set_option maxHeartbeats 40000000 in
theorem rmLC_3_2 (l : Launch) (Z : State) (a0 : Array Value) (hw : ∀ d ∈ tables_1, d.before a0 Z = true) (ws : List Jvm.Cond) (t : Addr) (kt : ClassId) (ch0 ch1 ch2 : Int32) (fm : Value) (h0 : Heap) (n0 : Nat) (Z0 : n0 ≤ h0.size) (At : Arv Z h0 t kt .byte (3 : Int32) [(.int (ch0.toInt8.toInt32)), (.int (ch1.toInt8.toInt32)), (.int (ch2.toInt8.toInt32))] (.int 0)) (hl2 : ¬ (255 : Int32) < ch2) (hp2 : ¬ ch2 < 0 ∧ ¬ (65535 : Int32) < ch2) (S_fm : Sta Z h0 "jdk/internal/util/Preconditions" "SIOOBE_FORMATTER" "Ljava/util/function/BiFunction;" fm) (rfm : fm.isRef = true) :
    MetFree l (⟨"java/lang/StringLatin1", "charAt", "([BI)C"⟩ : MethodName) (head1 (Jvm.Cond.code (⟨"java/lang/StringLatin1", "charAt", "([BI)C"⟩ : MethodName) jdk_43_method_2_code 2 (some .char) :: ws) ({ frames := 2, cells := 0, slots := 0, locals := 27 } : Room)) (fun ar_ U_ => ar_ = #[(.ref t), (.int 2)] ∧ Z.Warmed39 U_.vm ∧ U_.heap = h0) (fun _ _ _ _ _ => True) (fun _ U_ ou_ V_ => ∃ v_ L_, ou_ = .returned v_ ∧ QrmLC_3_2 Z ch2 h0 n0 v_ V_.heap L_ ∧ FrameEnd U_ ou_ V_ L_ ({ frames := 2, cells := 0, slots := 0, locals := 27 } : Room).cells ({ frames := 2, cells := 0, slots := 0, locals := 27 } : Room).slots) := by
  refine MetFree.of_bodySF (plainFor_of_name own_pn18) hisR ?_
  intro p e s m args below meth c s₁ Bd hml0 hP hK
  obtain ⟨rfl, hZ, hh⟩ := hP
  have hx := Bd.exec
  have hby := Bd.bytes
  have hml : c.maxLocals = 2 := hml0
  have hown : s.vm.findClass "java/lang/StringLatin1" = some m.cls := findClass_of_methodNamed Bd.named
  have hnm := (name_of_methodNamed Bd.named Bd.method).1
  have X0 : Stand p l e ({ frames := 2, cells := 0, slots := 0, locals := 27 } : Room) s m #[(.ref t), (.int 2)] below meth c s₁ [] 0 0 := Stand.of_body Bd
  have e0 : s₁.heap = h0 := by rw [← hh, Bd.state]; rfl
  have N0 := Fr.nil n0
  refine own_go (A := s₁.setTop (mkF m 0 #[.val (.ref t), .val (.int 2)] [])) (fun _ kz => castTop (own_ef18 m t (2 : Int32)) kz) ?_
  refine own_go (A := s₁.setTop (mkF m 2 #[.val (.ref t), .val (.int 2)] [(.ref t), (.int 2)])) (fun _ kz => ?_) ?_
  · refine XS.iloadN X0.here hx rfl (hb hby d18_0) rfl ?_
    refine XS.aloadN X0.here hx rfl (hb hby d18_1) rfl rfl ?_
    exact kz
  obtain ⟨cl1, Ar1, -, S1, M1, -, -⟩ := id At
  refine own_go (A := s₁.setTop (mkF m 3 #[.val (.ref t), .val (.int 2)] [(.int 3), (.int 2)])) (fun _ kz => ?_) ?_
  · refine X0.arraylength hx (by rw [e0]; exact Ar1.1) (State.isArrayOf_alike hZ.alike Ar1.2.1) (g := (mkF m 2 #[.val (.ref t), .val (.int 2)] [(.ref t), (.int 2)])) rfl rfl (hb hby d18_2) _ ?_
    rw [len_of S1 M1]
    exact kz
  obtain ⟨_, _, ⟨T2, L2, k2, n2⟩, -, X2, ⟨Lc2, hQ2, l2, y2, z2⟩, st2⟩ := Jvm.LawKit.callS X0 hx (y := (⟨"java/lang/String", "checkIndex", "(II)V"⟩ : MethodName)) hown (mvT hZ (own_w hw 102 rfl)) (mvT hZ (own_w hw 103 rfl)) (mvT hZ (own_w hw 7 rfl)) (mvT hZ (own_w hw 104 rfl)) (by decide) (backOf (W := 0) (rmSK l Z a0 hw [] (2 : Int32) (3 : Int32) fm h0 n0 Z0 (by decide) (by decide) S_fm rfm) hZ (own_w hw 104 rfl) (own_w hw 7 rfl) (by decide) (by decide)) (g := (mkF m 3 #[.val (.ref t), .val (.int 2)] [(.int 3), (.int 2)])) rfl (by rw [hml]; rfl) (argsL := [(.int 2), (.int 3)]) (rest := []) (lenOf own_pd12 rfl) rfl (by show 2 * 0 + _ ≤ _; exact Nat.le_of_eq rfl) (hb hby d18_3) (fun _ _ => ⟨rfl, e0, (by decide : 0 + 0 ≤ _), (by decide : 0 + 0 ≤ _)⟩)
  dsimp only [Pt.U, Pt.locs, Pt.cells, Pt.slots] at X2 l2 y2 z2 st2 hQ2
  subst l2 y2 z2
  obtain ⟨rfl, N2q, e2⟩ := hQ2
  have N2 := Fr.app N0 N2q
  refine own_go (A := T2.setTop (mkF m 6 #[.val (.ref t), .val (.int 2)] [])) (fun _ kz => st2 _ kz) ?_
  refine own_go (A := T2.setTop (mkF m 8 #[.val (.ref t), .val (.int 2)] [(.int 2), (.ref t)])) (fun _ kz => ?_) ?_
  · refine XS.aloadN X2.here hx rfl (hb hby d18_6) rfl rfl ?_
    refine XS.iloadN X2.here hx rfl (hb hby d18_7) rfl ?_
    exact kz
  obtain ⟨cl3, Ar3, -, S3, M3, H3, -⟩ := id At
  have hin3 : ¬ ((2 : Int32) < 0 ∨ cl3.slots.size ≤ ((2 : Int32)).toNatClampNeg) := inb_of S3 ⟨by decide, by decide⟩
  have hat3 : cl3.slots[((2 : Int32)).toNatClampNeg]? = some (.int (ch2.toInt8.toInt32)) := H3.at hin3 rfl
  refine own_go (A := T2.setTop (mkF m 9 #[.val (.ref t), .val (.int 2)] [(.int (ch2.toInt8.toInt32))])) (fun _ kz => ?_) ?_
  · refine X2.baloadBytes hx (j := (2 : Int32)) (v := (.int (ch2.toInt8.toInt32))) (by rw [e2]; exact Ar3.1) (State.isArrayOf_alike hZ.alike Ar3.2.1) Ar3.2.2 hin3 hat3 (g := (mkF m 8 #[.val (.ref t), .val (.int 2)] [(.int 2), (.ref t)])) rfl rfl (hb hby d18_8) _ ?_
    exact kz
  refine own_go (A := T2.setTop (mkF m 14 #[.val (.ref t), .val (.int 2)] [(.int (((ch2.toInt8.toInt32) &&& (255 : Int32)).toUInt32.toUInt16.toUInt32.toInt32))])) (fun _ kz => ?_) ?_
  · refine XS.sipush X2.here hx rfl (hb hby d18_9) ?_
    refine XS.iand X2.here hx rfl (hb hby d18_12) rfl ?_
    refine XS.i2c X2.here hx rfl (hb hby d18_13) rfl ?_
    exact kz
  obtain ⟨fs, hrr, hrun, hended, hW, hsame⟩ := X2.leave (v := some (.int (nar .char (((ch2.toInt8.toInt32) &&& (255 : Int32)).toUInt32.toUInt16.toUInt32.toInt32)))) (fun h => by rw [Bd.returns] at h; cases h)
  refine ⟨_, _, ?_, hrun, hended, _, _, rfl, ?_, ⟨_, rfl⟩, hW, hsame.mono (by decide) (by decide)⟩
  · show Steps p.tables e below (T2.setTop (mkF m 14 #[.val (.ref t), .val (.int 2)] [(.int (((ch2.toInt8.toInt32) &&& (255 : Int32)).toUInt32.toUInt16.toUInt32.toInt32))])) _
    exact retN X2 hx (t := .char) Bd.returns (by simp) (hb hby d18_14) hrr
  · show QrmLC_3_2 Z ch2 h0 n0 _ T2.heap _
    rw [e2]
    exact ⟨congrArg (fun z => some (Value.int z)) (own_lat ch2 hp2.1 hl2), N2, rfl⟩
def QrmSC_3_2 (Z : State) (ch2 : Int32) (h0 : Heap) (n0 : Nat) (v : Option Value) (h : Heap) (L : List Loc) : Prop := v = some (.int ch2) ∧ Fr n0 L ∧ h = h0
set_option maxRecDepth 65536 in
set_option maxHeartbeats 40000000 in
theorem rmSC_3_2 (l : Launch) (Z : State) (a0 : Array Value) (hw : ∀ d ∈ tables_1, d.before a0 Z = true) (ws : List Jvm.Cond) (a : Addr) (ch0 ch1 ch2 cs : Int32) (fm : Value) (h0 : Heap) (n0 : Nat) (Z0 : n0 ≤ h0.size) (Ex : Exa Z h0 a "java/lang/String") (St : own_Str3 Z h0 a ch0 ch1 ch2) (hcs : ¬ (cs = (0 : Int32))) (S_cs : Sta Z h0 "java/lang/String" "COMPACT_STRINGS" "Z" (.int cs)) (hp2 : ¬ ch2 < 0 ∧ ¬ (65535 : Int32) < ch2) (S_fm : Sta Z h0 "jdk/internal/util/Preconditions" "SIOOBE_FORMATTER" "Ljava/util/function/BiFunction;" fm) (rfm : fm.isRef = true) (S_ad : Sta Z h0 "java/lang/StringUTF16" "$assertionsDisabled" "Z" (.int 1)) (S_hi : Sta Z h0 "java/lang/StringUTF16" "HI_BYTE_SHIFT" "I" (.int 0)) (S_lo : Sta Z h0 "java/lang/StringUTF16" "LO_BYTE_SHIFT" "I" (.int 8)) :
    MetFree l (⟨"java/lang/String", "charAt", "(I)C"⟩ : MethodName) (head1 (Jvm.Cond.code (⟨"java/lang/String", "charAt", "(I)C"⟩ : MethodName) jdk_42_method_56_code 2 (some .char) :: ws) ({ frames := 4, cells := 0, slots := 0, locals := 53 } : Room)) (fun ar_ U_ => ar_ = #[(.ref a), (.int 2)] ∧ Z.Warmed39 U_.vm ∧ U_.heap = h0) (fun _ _ _ _ _ => True) (fun _ U_ ou_ V_ => ∃ v_ L_, ou_ = .returned v_ ∧ QrmSC_3_2 Z ch2 h0 n0 v_ V_.heap L_ ∧ FrameEnd U_ ou_ V_ L_ ({ frames := 4, cells := 0, slots := 0, locals := 53 } : Room).cells ({ frames := 4, cells := 0, slots := 0, locals := 53 } : Room).slots) := by
  refine MetFree.of_bodySF (plainFor_of_name own_pn16) hisR ?_
  intro p e s m args below meth c s₁ Bd hml0 hP hK
  obtain ⟨rfl, hZ, hh⟩ := hP
  have hx := Bd.exec
  have hby := Bd.bytes
  have hml : c.maxLocals = 2 := hml0
  have hown : s.vm.findClass "java/lang/String" = some m.cls := findClass_of_methodNamed Bd.named
  have hnm := (name_of_methodNamed Bd.named Bd.method).1
  have X0 : Stand p l e ({ frames := 4, cells := 0, slots := 0, locals := 53 } : Room) s m #[(.ref a), (.int 2)] below meth c s₁ [] 0 0 := Stand.of_body Bd
  have e0 : s₁.heap = h0 := by rw [← hh, Bd.state]; rfl
  have N0 := Fr.nil n0
  refine own_go (A := s₁.setTop (mkF m 0 #[.val (.ref a), .val (.int 2)] [])) (fun _ kz => castTop (own_ef16 m a (2 : Int32)) kz) ?_
  obtain ⟨t, kt, ⟨hwd, Fv, Fc, At⟩ | ⟨hl0, hl1, hl2, Fv, Fc, At⟩⟩ := St
  · skip
    refine own_go (A := s₁.setTop (mkF m 1 #[.val (.ref a), .val (.int 2)] [(.ref a)])) (fun _ kz => ?_) ?_
    · refine XS.aloadN X0.here hx rfl (hb hby d16_0) rfl rfl ?_
      exact kz
    obtain ⟨cq1, kq1, q1a, q1b, q1c⟩ := isOf hZ e0 Ex
    obtain ⟨_, _, ⟨T1, L1, k1, n1⟩, -, X1, ⟨Lc1, hQ1, l1, y1, z1⟩, st1⟩ := X0.virtualBack hx (y := (⟨"java/lang/String", "isLatin1", "()Z"⟩ : MethodName)) (z := (⟨"java/lang/String", "isLatin1", "()Z"⟩ : MethodName)) hown (mvT hZ (own_w hw 93 rfl)) (mvT hZ (own_w hw 94 rfl)) (notFace_of_selects (args := #[]) (mvT hZ (own_w hw 96 rfl))) (mvT hZ (own_w hw 96 rfl)) (mvT hZ (own_w hw 95 rfl)) (by decide) (backOf (W := 0) (rmIL_W l Z a0 hw [] a cs h0 n0 Z0 Fc hcs S_cs) hZ (own_w hw 97 rfl) (own_w hw 7 rfl) (by decide) (by decide)) q1a q1c (g := (mkF m 1 #[.val (.ref a), .val (.int 2)] [(.ref a)])) rfl (by rw [hml]; rfl) (Steps.refl _) (argsL := []) (rest := []) (lenOf own_pd14 rfl) rfl (by show 2 * 0 + _ ≤ _; exact Nat.le_of_eq rfl) (hb hby d16_1) (fun _ _ => ⟨rfl, e0, (by decide : 0 + 0 ≤ _), (by decide : 0 + 0 ≤ _)⟩)
    dsimp only [Pt.U, Pt.locs, Pt.cells, Pt.slots] at X1 l1 y1 z1 st1 hQ1
    subst l1 y1 z1
    obtain ⟨rfl, N1q, e1⟩ := hQ1
    have N1 := Fr.app N0 N1q
    refine own_go (A := T1.setTop (mkF m 4 #[.val (.ref a), .val (.int 2)] [(.int 0)])) (fun _ kz => st1.trans kz) ?_
    refine own_go (A := T1.setTop (mkF m 17 #[.val (.ref a), .val (.int 2)] [(.ref a)])) (fun _ kz => ?_) ?_
    · refine XS.ifYes X1.here hx rfl (pc0 := 4) (pc' := 16) rfl (hb hby d16_4) rfl ((if0 _ _).trans (teq (by decide : ((0 : Int32) = (0 : Int32)))).1) (by decide) (by decide) ?_
      refine XS.aloadN X1.here hx rfl (hb hby d16_16) rfl rfl ?_
      exact kz
    obtain ⟨T2, X2, e2, st2⟩ := getF X1 hx hZ hown (host := "") (Or.inl (own_w hw 33 rfl)) Via.refl e1 Fv (g := (mkF m 17 #[.val (.ref a), .val (.int 2)] [(.ref a)])) rfl rfl (hb hby d16_17)
    refine own_go (A := T2.setTop (mkF m 20 #[.val (.ref a), .val (.int 2)] [(.ref t)])) (fun _ kz => st2 _ kz) ?_
    refine own_go (A := T2.setTop (mkF m 21 #[.val (.ref a), .val (.int 2)] [(.int 2), (.ref t)])) (fun _ kz => ?_) ?_
    · refine XS.iloadN X2.here hx rfl (hb hby d16_20) rfl ?_
      exact kz
    obtain ⟨_, _, ⟨T3, L3, k3, n3⟩, -, X3, ⟨Lc3, hQ3, l3, y3, z3⟩, st3⟩ := Jvm.LawKit.callS X2 hx (y := (⟨"java/lang/StringUTF16", "charAt", "([BI)C"⟩ : MethodName)) hown (mvT hZ (own_w hw 154 rfl)) (mvT hZ (own_w hw 155 rfl)) (mvT hZ (own_w hw 22 rfl)) (mvT hZ (own_w hw 156 rfl)) (by decide) (backOf (W := 0) (rmUC_3_2 l Z a0 hw [] t kt ch0 ch1 ch2 fm h0 n0 Z0 At  hp2 S_fm rfm S_ad S_hi S_lo) hZ (own_w hw 156 rfl) (own_w hw 22 rfl) (by decide) (by decide)) (g := (mkF m 21 #[.val (.ref a), .val (.int 2)] [(.int 2), (.ref t)])) rfl (by rw [hml]; rfl) (argsL := [(.ref t), (.int 2)]) (rest := []) (lenOf own_pd5 rfl) rfl (by show 2 * 0 + _ ≤ _; exact Nat.le_of_eq rfl) (hb hby d16_21) (fun _ _ => ⟨rfl, e2, (by decide : 0 + 0 ≤ _), (by decide : 0 + 0 ≤ _)⟩)
    dsimp only [Pt.U, Pt.locs, Pt.cells, Pt.slots] at X3 l3 y3 z3 st3 hQ3
    subst l3 y3 z3
    obtain ⟨rfl, N3q, e3⟩ := hQ3
    have N3 := Fr.app N1 N3q
    refine own_go (A := T3.setTop (mkF m 24 #[.val (.ref a), .val (.int 2)] [(.int ch2)])) (fun _ kz => st3 _ kz) ?_
    obtain ⟨fs, hrr, hrun, hended, hW, hsame⟩ := X3.leave (v := some (.int (nar .char ch2))) (fun h => by rw [Bd.returns] at h; cases h)
    refine ⟨_, _, ?_, hrun, hended, _, _, rfl, ?_, ⟨_, rfl⟩, hW, hsame.mono (by decide) (by decide)⟩
    · show Steps p.tables e below (T3.setTop (mkF m 24 #[.val (.ref a), .val (.int 2)] [(.int ch2)])) _
      exact retN X3 hx (t := .char) Bd.returns (by simp) (hb hby d16_24) hrr
    · show QrmSC_3_2 Z ch2 h0 n0 _ T3.heap _
      rw [e3]
      exact ⟨congrArg (fun z => some (Value.int z)) (own_narc ch2 hp2.1 hp2.2), N3, rfl⟩
  · skip
    refine own_go (A := s₁.setTop (mkF m 1 #[.val (.ref a), .val (.int 2)] [(.ref a)])) (fun _ kz => ?_) ?_
    · refine XS.aloadN X0.here hx rfl (hb hby d16_0) rfl rfl ?_
      exact kz
    obtain ⟨cq4, kq4, q4a, q4b, q4c⟩ := isOf hZ e0 Ex
    obtain ⟨_, _, ⟨T4, L4, k4, n4⟩, -, X4, ⟨Lc4, hQ4, l4, y4, z4⟩, st4⟩ := X0.virtualBack hx (y := (⟨"java/lang/String", "isLatin1", "()Z"⟩ : MethodName)) (z := (⟨"java/lang/String", "isLatin1", "()Z"⟩ : MethodName)) hown (mvT hZ (own_w hw 93 rfl)) (mvT hZ (own_w hw 94 rfl)) (notFace_of_selects (args := #[]) (mvT hZ (own_w hw 96 rfl))) (mvT hZ (own_w hw 96 rfl)) (mvT hZ (own_w hw 95 rfl)) (by decide) (backOf (W := 0) (rmIL_L l Z a0 hw [] a cs h0 n0 Z0 Fc hcs S_cs) hZ (own_w hw 97 rfl) (own_w hw 7 rfl) (by decide) (by decide)) q4a q4c (g := (mkF m 1 #[.val (.ref a), .val (.int 2)] [(.ref a)])) rfl (by rw [hml]; rfl) (Steps.refl _) (argsL := []) (rest := []) (lenOf own_pd14 rfl) rfl (by show 2 * 0 + _ ≤ _; exact Nat.le_of_eq rfl) (hb hby d16_1) (fun _ _ => ⟨rfl, e0, (by decide : 0 + 0 ≤ _), (by decide : 0 + 0 ≤ _)⟩)
    dsimp only [Pt.U, Pt.locs, Pt.cells, Pt.slots] at X4 l4 y4 z4 st4 hQ4
    subst l4 y4 z4
    obtain ⟨rfl, N4q, e4⟩ := hQ4
    have N4 := Fr.app N0 N4q
    refine own_go (A := T4.setTop (mkF m 4 #[.val (.ref a), .val (.int 2)] [(.int 1)])) (fun _ kz => st4.trans kz) ?_
    refine own_go (A := T4.setTop (mkF m 8 #[.val (.ref a), .val (.int 2)] [(.ref a)])) (fun _ kz => ?_) ?_
    · refine XS.ifNo X4.here hx rfl (hb hby d16_4) rfl ((if0 _ _).trans (feq (by decide : ¬ ((1 : Int32) = (0 : Int32)))).1) ?_
      refine XS.aloadN X4.here hx rfl (hb hby d16_7) rfl rfl ?_
      exact kz
    obtain ⟨T5, X5, e5, st5⟩ := getF X4 hx hZ hown (host := "") (Or.inl (own_w hw 33 rfl)) Via.refl e4 Fv (g := (mkF m 8 #[.val (.ref a), .val (.int 2)] [(.ref a)])) rfl rfl (hb hby d16_8)
    refine own_go (A := T5.setTop (mkF m 11 #[.val (.ref a), .val (.int 2)] [(.ref t)])) (fun _ kz => st5 _ kz) ?_
    refine own_go (A := T5.setTop (mkF m 12 #[.val (.ref a), .val (.int 2)] [(.int 2), (.ref t)])) (fun _ kz => ?_) ?_
    · refine XS.iloadN X5.here hx rfl (hb hby d16_11) rfl ?_
      exact kz
    obtain ⟨_, _, ⟨T6, L6, k6, n6⟩, -, X6, ⟨Lc6, hQ6, l6, y6, z6⟩, st6⟩ := Jvm.LawKit.callS X5 hx (y := (⟨"java/lang/StringLatin1", "charAt", "([BI)C"⟩ : MethodName)) hown (mvT hZ (own_w hw 98 rfl)) (mvT hZ (own_w hw 99 rfl)) (mvT hZ (own_w hw 100 rfl)) (mvT hZ (own_w hw 101 rfl)) (by decide) (backOf (W := 0) (rmLC_3_2 l Z a0 hw [] t kt ch0 ch1 ch2 fm h0 n0 Z0 At hl2 hp2 S_fm rfm ) hZ (own_w hw 101 rfl) (own_w hw 100 rfl) (by decide) (by decide)) (g := (mkF m 12 #[.val (.ref a), .val (.int 2)] [(.int 2), (.ref t)])) rfl (by rw [hml]; rfl) (argsL := [(.ref t), (.int 2)]) (rest := []) (lenOf own_pd5 rfl) rfl (by show 2 * 0 + _ ≤ _; exact Nat.le_of_eq rfl) (hb hby d16_12) (fun _ _ => ⟨rfl, e5, (by decide : 0 + 0 ≤ _), (by decide : 0 + 0 ≤ _)⟩)
    dsimp only [Pt.U, Pt.locs, Pt.cells, Pt.slots] at X6 l6 y6 z6 st6 hQ6
    subst l6 y6 z6
    obtain ⟨rfl, N6q, e6⟩ := hQ6
    have N6 := Fr.app N4 N6q
    refine own_go (A := T6.setTop (mkF m 15 #[.val (.ref a), .val (.int 2)] [(.int ch2)])) (fun _ kz => st6 _ kz) ?_
    obtain ⟨fs, hrr, hrun, hended, hW, hsame⟩ := X6.leave (v := some (.int (nar .char ch2))) (fun h => by rw [Bd.returns] at h; cases h)
    refine ⟨_, _, ?_, hrun, hended, _, _, rfl, ?_, ⟨_, rfl⟩, hW, hsame.mono (by decide) (by decide)⟩
    · show Steps p.tables e below (T6.setTop (mkF m 15 #[.val (.ref a), .val (.int 2)] [(.int ch2)])) _
      exact retN X6 hx (t := .char) Bd.returns (by simp) (hb hby d16_15) hrr
    · show QrmSC_3_2 Z ch2 h0 n0 _ T6.heap _
      rw [e6]
      exact ⟨congrArg (fun z => some (Value.int z)) (own_narc ch2 hp2.1 hp2.2), N6, rfl⟩
theorem d9_0 : decode jdk_40_method_36_code 0 = .ok (.getstatic 90, 3) := by decide +kernel
theorem d9_3 : decode jdk_40_method_36_code 3 = .ok (.areturn, 1) := by decide +kernel
theorem own_pn9 : plainName "java/util/List" = true := by first | (simp [plainName, overriddenIn]; done) | decide +kernel
theorem own_ef9 (m : MethodId)  : entryFrame m #[] 0 = mkF m 0 #[] [] := by first | (simp [entryFrame, mkF, argsToLocals, Value.category]; done) | rfl
def QrmOf (Z : State) (lst : Addr) (h0 : Heap) (n0 : Nat) (v : Option Value) (h : Heap) (L : List Loc) : Prop := v = some (.ref lst) ∧ Fr n0 L ∧ h = h0
set_option maxRecDepth 65536 in
set_option maxHeartbeats 40000000 in
theorem rmOf (l : Launch) (Z : State) (a0 : Array Value) (hw : ∀ d ∈ tables_1, d.before a0 Z = true) (ws : List Jvm.Cond) (lst : Addr) (h0 : Heap) (n0 : Nat) (Z0 : n0 ≤ h0.size) (S_l : Sta Z h0 "java/util/ImmutableCollections" "EMPTY_LIST" "Ljava/util/ImmutableCollections$ListN;" (.ref lst)) :
    MetFree l (⟨"java/util/List", "of", "()Ljava/util/List;"⟩ : MethodName) (head1 (Jvm.Cond.code (⟨"java/util/List", "of", "()Ljava/util/List;"⟩ : MethodName) jdk_40_method_36_code 0 (some (.object "java/util/List")) :: ws) ({ frames := 0, cells := 0, slots := 0, locals := 0 } : Room)) (fun ar_ U_ => ar_ = #[] ∧ Z.Warmed39 U_.vm ∧ U_.heap = h0) (fun _ _ _ _ _ => True) (fun _ U_ ou_ V_ => ∃ v_ L_, ou_ = .returned v_ ∧ QrmOf Z lst h0 n0 v_ V_.heap L_ ∧ FrameEnd U_ ou_ V_ L_ ({ frames := 0, cells := 0, slots := 0, locals := 0 } : Room).cells ({ frames := 0, cells := 0, slots := 0, locals := 0 } : Room).slots) := by
  refine MetFree.of_bodySF (plainFor_of_name own_pn9) hisR ?_
  intro p e s m args below meth c s₁ Bd hml0 hP hK
  obtain ⟨rfl, hZ, hh⟩ := hP
  have hx := Bd.exec
  have hby := Bd.bytes
  have hml : c.maxLocals = 0 := hml0
  have hown : s.vm.findClass "java/util/List" = some m.cls := findClass_of_methodNamed Bd.named
  have hnm := (name_of_methodNamed Bd.named Bd.method).1
  have X0 : Stand p l e ({ frames := 0, cells := 0, slots := 0, locals := 0 } : Room) s m #[] below meth c s₁ [] 0 0 := Stand.of_body Bd
  have e0 : s₁.heap = h0 := by rw [← hh, Bd.state]; rfl
  have N0 := Fr.nil n0
  refine own_go (A := s₁.setTop (mkF m 0 #[] [])) (fun _ kz => castTop (own_ef9 m ) kz) ?_
  obtain ⟨T1, X1, e1, st1⟩ := getS2 X0 hx hZ hown (host := "") (Or.inl (own_w hw 48 rfl)) Via.refl e0 S_l (g := (mkF m 0 #[] [])) rfl (hb hby d9_0)
  refine own_go (A := T1.setTop (mkF m 3 #[] [(.ref lst)])) (fun _ kz => st1 _ kz) ?_
  obtain ⟨fs, hrr, hrun, hended, hW, hsame⟩ := X1.leave (v := some (.ref lst)) (fun h => by rw [Bd.returns] at h; cases h)
  refine ⟨_, _, ?_, hrun, hended, _, _, rfl, ?_, ⟨_, rfl⟩, hW, hsame.mono (by decide) (by decide)⟩
  · show Steps p.tables e below (T1.setTop (mkF m 3 #[] [(.ref lst)])) _
    exact retOut X1 hx (t := (.object "java/util/List")) Bd.returns rfl (Or.inr (Or.inr (Or.inr (Or.inr ⟨rfl, rfl, rfl⟩)))) (hb hby d9_3) hrr
  · show QrmOf Z lst h0 n0 _ T1.heap _
    rw [e1]
    exact ⟨rfl, N0, rfl⟩
theorem d10_0 : decode prog_32_method_1_code 0 = .ok (.aload_n 0, 1) := by decide +kernel
theorem d10_1 : decode prog_32_method_1_code 1 = .ok (.invokespecial 1, 3) := by decide +kernel
theorem d10_4 : decode prog_32_method_1_code 4 = .ok (.aload_n 0, 1) := by decide +kernel
theorem d10_5 : decode prog_32_method_1_code 5 = .ok (.aload_n 1, 1) := by decide +kernel
theorem d10_6 : decode prog_32_method_1_code 6 = .ok (.putfield 7, 3) := by decide +kernel
theorem d10_9 : decode prog_32_method_1_code 9 = .ok (.aload_n 0, 1) := by decide +kernel
theorem d10_10 : decode prog_32_method_1_code 10 = .ok (.aload_n 2, 1) := by decide +kernel
theorem d10_11 : decode prog_32_method_1_code 11 = .ok (.putfield 13, 3) := by decide +kernel
theorem d10_14 : decode prog_32_method_1_code 14 = .ok (.aload_n 0, 1) := by decide +kernel
theorem d10_15 : decode prog_32_method_1_code 15 = .ok (.aload_n 3, 1) := by decide +kernel
theorem d10_16 : decode prog_32_method_1_code 16 = .ok (.putfield 17, 3) := by decide +kernel
theorem d10_19 : decode prog_32_method_1_code 19 = .ok (.aload_n 0, 1) := by decide +kernel
theorem d10_20 : decode prog_32_method_1_code 20 = .ok (.aload 4, 2) := by decide +kernel
theorem d10_22 : decode prog_32_method_1_code 22 = .ok (.putfield 21, 3) := by decide +kernel
theorem d10_25 : decode prog_32_method_1_code 25 = .ok (.aload_n 2, 1) := by decide +kernel
theorem d10_26 : decode prog_32_method_1_code 26 = .ok (.ifnonnull 20, 3) := by decide +kernel
theorem d10_46 : decode prog_32_method_1_code 46 = .ok (.return_, 1) := by decide +kernel
theorem own_pn10 : plainName "dev/parlance/model/Message" = true := by first | (simp [plainName, overriddenIn]; done) | decide +kernel
theorem own_ef10 (m : MethodId) (x0 : Addr) (x1 : Addr) (x2 : Addr) (x3 : Addr) : entryFrame m #[(.ref x0), (.ref x1), (.ref x2), (.ref x3), .null] 5 = mkF m 0 #[.val (.ref x0), .val (.ref x1), .val (.ref x2), .val (.ref x3), .val .null] [] := by first | (simp [entryFrame, mkF, argsToLocals, Value.category]; done) | rfl
def QrmMi (Z : State) (a ra rb rc : Addr) (h0 : Heap) (n0 : Nat) (v : Option Value) (h : Heap) (L : List Loc) : Prop := v = none ∧ Fr n0 L ∧ Keep h0 h [a] ∧ Exa Z h a "dev/parlance/model/Message" ∧ Fld Z h a "dev/parlance/model/Message" "role" "Ldev/parlance/model/Role;" (.ref ra) ∧ Fld Z h a "dev/parlance/model/Message" "content" "Ljava/lang/String;" (.ref rb) ∧ Fld Z h a "dev/parlance/model/Message" "toolCalls" "Ljava/util/List;" (.ref rc) ∧ Fld Z h a "dev/parlance/model/Message" "toolCallId" "Ljava/lang/String;" .null
set_option maxRecDepth 65536 in
set_option maxHeartbeats 40000000 in
theorem rmMi (l : Launch) (Z : State) (a0 : Array Value) (hw : ∀ d ∈ tables_1, d.before a0 Z = true) (ws : List Jvm.Cond) (a ra rb rc : Addr) (h0 : Heap) (n0 : Nat) (Z0 : n0 ≤ h0.size) (Ex : Exa Z h0 a "dev/parlance/model/Message") (g_a : n0 ≤ a) (F_role : Fld Z h0 a "dev/parlance/model/Message" "role" "Ldev/parlance/model/Role;" .null) (F_content : Fld Z h0 a "dev/parlance/model/Message" "content" "Ljava/lang/String;" .null) (F_toolCalls : Fld Z h0 a "dev/parlance/model/Message" "toolCalls" "Ljava/util/List;" .null) (F_toolCallId : Fld Z h0 a "dev/parlance/model/Message" "toolCallId" "Ljava/lang/String;" .null) :
    MetFree l (⟨"dev/parlance/model/Message", "<init>", "(Ldev/parlance/model/Role;Ljava/lang/String;Ljava/util/List;Ljava/lang/String;)V"⟩ : MethodName) (head1 (Jvm.Cond.code (⟨"dev/parlance/model/Message", "<init>", "(Ldev/parlance/model/Role;Ljava/lang/String;Ljava/util/List;Ljava/lang/String;)V"⟩ : MethodName) prog_32_method_1_code 5 none :: ws) ({ frames := 1, cells := 0, slots := 0, locals := 12 } : Room)) (fun ar_ U_ => ar_ = #[(.ref a), (.ref ra), (.ref rb), (.ref rc), .null] ∧ Z.Warmed39 U_.vm ∧ U_.heap = h0) (fun _ _ _ _ _ => True) (fun _ U_ ou_ V_ => ∃ v_ L_, ou_ = .returned v_ ∧ QrmMi Z a ra rb rc h0 n0 v_ V_.heap L_ ∧ FrameEnd U_ ou_ V_ L_ ({ frames := 1, cells := 0, slots := 0, locals := 12 } : Room).cells ({ frames := 1, cells := 0, slots := 0, locals := 12 } : Room).slots) := by
  refine MetFree.of_bodySF (plainFor_of_name own_pn10) hisR ?_
  intro p e s m args below meth c s₁ Bd hml0 hP hK
  obtain ⟨rfl, hZ, hh⟩ := hP
  have hx := Bd.exec
  have hby := Bd.bytes
  have hml : c.maxLocals = 5 := hml0
  have hown : s.vm.findClass "dev/parlance/model/Message" = some m.cls := findClass_of_methodNamed Bd.named
  have hnm := (name_of_methodNamed Bd.named Bd.method).1
  have X0 : Stand p l e ({ frames := 1, cells := 0, slots := 0, locals := 12 } : Room) s m #[(.ref a), (.ref ra), (.ref rb), (.ref rc), .null] below meth c s₁ [] 0 0 := Stand.of_body Bd
  have e0 : s₁.heap = h0 := by rw [← hh, Bd.state]; rfl
  have N0 := Fr.nil n0
  have Kp0 : Keep h0 h0 [a] := Keep.refl h0 _
  refine own_go (A := s₁.setTop (mkF m 0 #[.val (.ref a), .val (.ref ra), .val (.ref rb), .val (.ref rc), .val .null] [])) (fun _ kz => castTop (own_ef10 m a ra rb rc) kz) ?_
  refine own_go (A := s₁.setTop (mkF m 1 #[.val (.ref a), .val (.ref ra), .val (.ref rb), .val (.ref rc), .val .null] [(.ref a)])) (fun _ kz => ?_) ?_
  · refine XS.aloadN X0.here hx rfl (hb hby d10_0) rfl rfl ?_
    exact kz
  obtain ⟨T1, X1, e1, st1⟩ := initO X0 hx hZ hown (own_w hw 53 rfl) (own_w hw 17 rfl) (own_w hw 18 rfl) e0 (g := (mkF m 1 #[.val (.ref a), .val (.ref ra), .val (.ref rb), .val (.ref rc), .val .null] [(.ref a)])) rfl (by rw [hml]; rfl) rfl (hb hby d10_1) (by decide) (W := 0) (by show 2 * 0 + _ ≤ _; exact Nat.le_of_eq rfl) (by decide)
  refine own_go (A := T1.setTop (mkF m 4 #[.val (.ref a), .val (.ref ra), .val (.ref rb), .val (.ref rc), .val .null] [])) (fun _ kz => st1 _ kz) ?_
  refine own_go (A := T1.setTop (mkF m 6 #[.val (.ref a), .val (.ref ra), .val (.ref rb), .val (.ref rc), .val .null] [(.ref ra), (.ref a)])) (fun _ kz => ?_) ?_
  · refine XS.aloadN X1.here hx rfl (hb hby d10_4) rfl rfl ?_
    refine XS.aloadN X1.here hx rfl (hb hby d10_5) rfl rfl ?_
    exact kz
  obtain ⟨T2, h2, X2, e2, W2, st2⟩ := putF X1 hx hZ hown (host := "") (Or.inl (own_w hw 54 rfl)) Via.refl e1 F_role Ex (Or.inr ⟨(own_w hw 55 rfl), rfl, hnm⟩) (own_w hw 40 rfl) (ty := (.object "dev/parlance/model/Role")) (by decide) rfl rfl (g := (mkF m 6 #[.val (.ref a), .val (.ref ra), .val (.ref rb), .val (.ref rc), .val .null] [(.ref ra), (.ref a)])) rfl rfl (hb hby d10_6)
  have Fw2 := F_role.same W2
  replace Ex := Ex.wr W2
  replace F_content := F_content.other W2 (Or.inr (slot_ne (Or.inr (own_w hw 57 rfl)) (Or.inr (own_w hw 55 rfl)) (by decide) (t := (.object "java/lang/String")) (t' := (.object "dev/parlance/model/Role")) (by decide) (by decide)))
  replace F_toolCalls := F_toolCalls.other W2 (Or.inr (slot_ne (Or.inr (own_w hw 59 rfl)) (Or.inr (own_w hw 55 rfl)) (by decide) (t := (.object "java/util/List")) (t' := (.object "dev/parlance/model/Role")) (by decide) (by decide)))
  replace F_toolCallId := F_toolCallId.other W2 (Or.inr (slot_ne (Or.inr (own_w hw 61 rfl)) (Or.inr (own_w hw 55 rfl)) (by decide) (t := (.object "java/lang/String")) (t' := (.object "dev/parlance/model/Role")) (by decide) (by decide)))
  have Z2 : n0 ≤ h2.size := Nat.le_trans Z0 (Keep.of_wr W2).1
  have Kp2 : Keep h0 h2 [a] := Kp0.wr W2 (Or.inl (List.mem_of_getElem? (i := 0) rfl))
  have F_role_a := Fw2
  have N2 := Fr.snoc X2 N0 g_a
  refine own_go (A := T2.setTop (mkF m 9 #[.val (.ref a), .val (.ref ra), .val (.ref rb), .val (.ref rc), .val .null] [])) (fun _ kz => st2 _ kz) ?_
  refine own_go (A := T2.setTop (mkF m 11 #[.val (.ref a), .val (.ref ra), .val (.ref rb), .val (.ref rc), .val .null] [(.ref rb), (.ref a)])) (fun _ kz => ?_) ?_
  · refine XS.aloadN X2.here hx rfl (hb hby d10_9) rfl rfl ?_
    refine XS.aloadN X2.here hx rfl (hb hby d10_10) rfl rfl ?_
    exact kz
  obtain ⟨T3, h3, X3, e3, W3, st3⟩ := putF X2 hx hZ hown (host := "") (Or.inl (own_w hw 56 rfl)) Via.refl e2 F_content Ex (Or.inr ⟨(own_w hw 57 rfl), rfl, hnm⟩) (own_w hw 40 rfl) (ty := (.object "java/lang/String")) (by decide) rfl rfl (g := (mkF m 11 #[.val (.ref a), .val (.ref ra), .val (.ref rb), .val (.ref rc), .val .null] [(.ref rb), (.ref a)])) rfl rfl (hb hby d10_11)
  have Fw3 := F_content.same W3
  replace Ex := Ex.wr W3
  replace F_role_a := F_role_a.other W3 (Or.inr (slot_ne (Or.inr (own_w hw 55 rfl)) (Or.inr (own_w hw 57 rfl)) (by decide) (t := (.object "dev/parlance/model/Role")) (t' := (.object "java/lang/String")) (by decide) (by decide)))
  replace F_toolCalls := F_toolCalls.other W3 (Or.inr (slot_ne (Or.inr (own_w hw 59 rfl)) (Or.inr (own_w hw 57 rfl)) (by decide) (t := (.object "java/util/List")) (t' := (.object "java/lang/String")) (by decide) (by decide)))
  replace F_toolCallId := F_toolCallId.other W3 (Or.inr (slot_ne (Or.inr (own_w hw 61 rfl)) (Or.inr (own_w hw 57 rfl)) (by decide) (t := (.object "java/lang/String")) (t' := (.object "java/lang/String")) (by decide) (by decide)))
  have Z3 : n0 ≤ h3.size := Nat.le_trans Z2 (Keep.of_wr W3).1
  have Kp3 : Keep h0 h3 [a] := Kp2.wr W3 (Or.inl (List.mem_of_getElem? (i := 0) rfl))
  have F_content_a := Fw3
  have N3 := Fr.snoc X3 N2 g_a
  refine own_go (A := T3.setTop (mkF m 14 #[.val (.ref a), .val (.ref ra), .val (.ref rb), .val (.ref rc), .val .null] [])) (fun _ kz => st3 _ kz) ?_
  refine own_go (A := T3.setTop (mkF m 16 #[.val (.ref a), .val (.ref ra), .val (.ref rb), .val (.ref rc), .val .null] [(.ref rc), (.ref a)])) (fun _ kz => ?_) ?_
  · refine XS.aloadN X3.here hx rfl (hb hby d10_14) rfl rfl ?_
    refine XS.aloadN X3.here hx rfl (hb hby d10_15) rfl rfl ?_
    exact kz
  obtain ⟨T4, h4, X4, e4, W4, st4⟩ := putF X3 hx hZ hown (host := "") (Or.inl (own_w hw 58 rfl)) Via.refl e3 F_toolCalls Ex (Or.inr ⟨(own_w hw 59 rfl), rfl, hnm⟩) (own_w hw 40 rfl) (ty := (.object "java/util/List")) (by decide) rfl rfl (g := (mkF m 16 #[.val (.ref a), .val (.ref ra), .val (.ref rb), .val (.ref rc), .val .null] [(.ref rc), (.ref a)])) rfl rfl (hb hby d10_16)
  have Fw4 := F_toolCalls.same W4
  replace Ex := Ex.wr W4
  replace F_role_a := F_role_a.other W4 (Or.inr (slot_ne (Or.inr (own_w hw 55 rfl)) (Or.inr (own_w hw 59 rfl)) (by decide) (t := (.object "dev/parlance/model/Role")) (t' := (.object "java/util/List")) (by decide) (by decide)))
  replace F_content_a := F_content_a.other W4 (Or.inr (slot_ne (Or.inr (own_w hw 57 rfl)) (Or.inr (own_w hw 59 rfl)) (by decide) (t := (.object "java/lang/String")) (t' := (.object "java/util/List")) (by decide) (by decide)))
  replace F_toolCallId := F_toolCallId.other W4 (Or.inr (slot_ne (Or.inr (own_w hw 61 rfl)) (Or.inr (own_w hw 59 rfl)) (by decide) (t := (.object "java/lang/String")) (t' := (.object "java/util/List")) (by decide) (by decide)))
  have Z4 : n0 ≤ h4.size := Nat.le_trans Z3 (Keep.of_wr W4).1
  have Kp4 : Keep h0 h4 [a] := Kp3.wr W4 (Or.inl (List.mem_of_getElem? (i := 0) rfl))
  have F_toolCalls_a := Fw4
  have N4 := Fr.snoc X4 N3 g_a
  refine own_go (A := T4.setTop (mkF m 19 #[.val (.ref a), .val (.ref ra), .val (.ref rb), .val (.ref rc), .val .null] [])) (fun _ kz => st4 _ kz) ?_
  refine own_go (A := T4.setTop (mkF m 22 #[.val (.ref a), .val (.ref ra), .val (.ref rb), .val (.ref rc), .val .null] [.null, (.ref a)])) (fun _ kz => ?_) ?_
  · refine XS.aloadN X4.here hx rfl (hb hby d10_19) rfl rfl ?_
    refine XS.aload X4.here hx rfl (hb hby d10_20) rfl rfl ?_
    exact kz
  obtain ⟨T5, h5, X5, e5, W5, st5⟩ := putF X4 hx hZ hown (host := "") (Or.inl (own_w hw 60 rfl)) Via.refl e4 F_toolCallId Ex (Or.inr ⟨(own_w hw 61 rfl), rfl, hnm⟩) (own_w hw 40 rfl) (ty := (.object "java/lang/String")) (by decide) rfl rfl (g := (mkF m 22 #[.val (.ref a), .val (.ref ra), .val (.ref rb), .val (.ref rc), .val .null] [.null, (.ref a)])) rfl rfl (hb hby d10_22)
  have Fw5 := F_toolCallId.same W5
  replace Ex := Ex.wr W5
  replace F_role_a := F_role_a.other W5 (Or.inr (slot_ne (Or.inr (own_w hw 55 rfl)) (Or.inr (own_w hw 61 rfl)) (by decide) (t := (.object "dev/parlance/model/Role")) (t' := (.object "java/lang/String")) (by decide) (by decide)))
  replace F_content_a := F_content_a.other W5 (Or.inr (slot_ne (Or.inr (own_w hw 57 rfl)) (Or.inr (own_w hw 61 rfl)) (by decide) (t := (.object "java/lang/String")) (t' := (.object "java/lang/String")) (by decide) (by decide)))
  replace F_toolCalls_a := F_toolCalls_a.other W5 (Or.inr (slot_ne (Or.inr (own_w hw 59 rfl)) (Or.inr (own_w hw 61 rfl)) (by decide) (t := (.object "java/util/List")) (t' := (.object "java/lang/String")) (by decide) (by decide)))
  have Z5 : n0 ≤ h5.size := Nat.le_trans Z4 (Keep.of_wr W5).1
  have Kp5 : Keep h0 h5 [a] := Kp4.wr W5 (Or.inl (List.mem_of_getElem? (i := 0) rfl))
  have F_toolCallId_a := Fw5
  have N5 := Fr.snoc X5 N4 g_a
  refine own_go (A := T5.setTop (mkF m 25 #[.val (.ref a), .val (.ref ra), .val (.ref rb), .val (.ref rc), .val .null] [])) (fun _ kz => st5 _ kz) ?_
  refine own_go (A := T5.setTop (mkF m 46 #[.val (.ref a), .val (.ref ra), .val (.ref rb), .val (.ref rc), .val .null] [])) (fun _ kz => ?_) ?_
  · refine XS.aloadN X5.here hx rfl (hb hby d10_25) rfl rfl ?_
    refine XS.ifnonnullYes X5.here hx rfl (pc0 := 26) (pc' := 46) rfl (hb hby d10_26) rfl (by decide) (by decide) ?_
    exact kz
  obtain ⟨fs, hrr, hrun, hended, hW, hsame⟩ := X5.leave (v := none) (fun _ => rfl)
  refine ⟨_, _, ?_, hrun, hended, _, _, rfl, ?_, ⟨_, rfl⟩, hW, hsame.mono (by decide) (by decide)⟩
  · show Steps p.tables e below (T5.setTop (mkF m 46 #[.val (.ref a), .val (.ref ra), .val (.ref rb), .val (.ref rc), .val .null] [])) _
    exact X5.returnOut hx Bd.returns (hb hby d10_46) hrr
  · show QrmMi Z a ra rb rc h0 n0 _ T5.heap _
    rw [e5]
    exact ⟨rfl, N5, Kp5, Ex, F_role_a, F_content_a, F_toolCalls_a, F_toolCallId_a⟩
theorem d8_0 : decode prog_32_method_4_code 0 = .ok (.new 8, 3) := by decide +kernel
theorem d8_3 : decode prog_32_method_4_code 3 = .ok (.dup, 1) := by decide +kernel
theorem d8_4 : decode prog_32_method_4_code 4 = .ok (.getstatic 54, 3) := by decide +kernel
theorem d8_7 : decode prog_32_method_4_code 7 = .ok (.aload_n 0, 1) := by decide +kernel
theorem d8_8 : decode prog_32_method_4_code 8 = .ok (.invokestatic 42, 3) := by decide +kernel
theorem d8_11 : decode prog_32_method_4_code 11 = .ok (.aconst_null, 1) := by decide +kernel
theorem d8_12 : decode prog_32_method_4_code 12 = .ok (.invokespecial 48, 3) := by decide +kernel
theorem d8_15 : decode prog_32_method_4_code 15 = .ok (.areturn, 1) := by decide +kernel
theorem own_pn8 : plainName "dev/parlance/model/Message" = true := by first | (simp [plainName, overriddenIn]; done) | decide +kernel
theorem own_ef8 (m : MethodId) (x0 : Addr) : entryFrame m #[(.ref x0)] 1 = mkF m 0 #[.val (.ref x0)] [] := by first | (simp [entryFrame, mkF, argsToLocals, Value.category]; done) | rfl
def QrmTo (Z : State) (ac kT lst : Addr) (h0 : Heap) (n0 : Nat) (v : Option Value) (h : Heap) (L : List Loc) : Prop := ∃ b : Addr, v = some (.ref b) ∧ Fr n0 L ∧ h0.size ≤ b ∧ Keep h0 h [] ∧ Exa Z h b "dev/parlance/model/Message" ∧ Fld Z h b "dev/parlance/model/Message" "role" "Ldev/parlance/model/Role;" (.ref kT) ∧ Fld Z h b "dev/parlance/model/Message" "content" "Ljava/lang/String;" (.ref ac) ∧ Fld Z h b "dev/parlance/model/Message" "toolCalls" "Ljava/util/List;" (.ref lst) ∧ Fld Z h b "dev/parlance/model/Message" "toolCallId" "Ljava/lang/String;" .null
set_option maxRecDepth 65536 in
set_option maxHeartbeats 40000000 in
theorem rmTo (l : Launch) (Z : State) (a0 : Array Value) (hw : ∀ d ∈ tables_1, d.before a0 Z = true) (ws : List Jvm.Cond) (ac kT lst : Addr) (h0 : Heap) (n0 : Nat) (Z0 : n0 ≤ h0.size) (S_T : Sta Z h0 "dev/parlance/model/Role" "ASSISTANT" "Ldev/parlance/model/Role;" (.ref kT)) (S_l : Sta Z h0 "java/util/ImmutableCollections" "EMPTY_LIST" "Ljava/util/ImmutableCollections$ListN;" (.ref lst)) :
    MetFree l (⟨"dev/parlance/model/Message", "assistant", "(Ljava/lang/String;)Ldev/parlance/model/Message;"⟩ : MethodName) (head1 (Jvm.Cond.code (⟨"dev/parlance/model/Message", "assistant", "(Ljava/lang/String;)Ldev/parlance/model/Message;"⟩ : MethodName) prog_32_method_4_code 1 (some (.object "dev/parlance/model/Message")) :: ws) ({ frames := 2, cells := 1, slots := 4, locals := 32 } : Room)) (fun ar_ U_ => ar_ = #[(.ref ac)] ∧ Z.Warmed39 U_.vm ∧ U_.heap = h0) (fun _ _ _ _ _ => True) (fun _ U_ ou_ V_ => ∃ v_ L_, ou_ = .returned v_ ∧ QrmTo Z ac kT lst h0 n0 v_ V_.heap L_ ∧ FrameEnd U_ ou_ V_ L_ ({ frames := 2, cells := 1, slots := 4, locals := 32 } : Room).cells ({ frames := 2, cells := 1, slots := 4, locals := 32 } : Room).slots) := by
  refine MetFree.of_bodySF (plainFor_of_name own_pn8) hisR ?_
  intro p e s m args below meth c s₁ Bd hml0 hP hK
  obtain ⟨rfl, hZ, hh⟩ := hP
  have hx := Bd.exec
  have hby := Bd.bytes
  have hml : c.maxLocals = 1 := hml0
  have hown : s.vm.findClass "dev/parlance/model/Message" = some m.cls := findClass_of_methodNamed Bd.named
  have hnm := (name_of_methodNamed Bd.named Bd.method).1
  have X0 : Stand p l e ({ frames := 2, cells := 1, slots := 4, locals := 32 } : Room) s m #[(.ref ac)] below meth c s₁ [] 0 0 := Stand.of_body Bd
  have e0 : s₁.heap = h0 := by rw [← hh, Bd.state]; rfl
  have N0 := Fr.nil n0
  have Kp0 : Keep h0 h0 [] := Keep.refl h0 _
  refine own_go (A := s₁.setTop (mkF m 0 #[.val (.ref ac)] [])) (fun _ kz => castTop (own_ef8 m ac) kz) ?_
  obtain ⟨T1, h1, X1, e1, E1, A1, D1, -, st1⟩ := newO X0 hx hZ hown (own_w hw 39 rfl) (own_w hw 40 rfl) (own_w hw 37 rfl) e0 (g := (mkF m 0 #[.val (.ref ac)] [])) rfl (hb hby d8_0) (by decide) (by decide)
  obtain ⟨b1, gq1⟩ : ∃ z, z = h0.size := ⟨_, rfl⟩
  rw [← gq1] at A1 D1 st1
  have g_b1 : n0 ≤ b1 := Nat.le_trans Z0 (Nat.le_of_eq gq1.symm)
  have szk_b1 : h0.size ≤ b1 := Nat.le_trans Kp0.1 (Nat.le_of_eq gq1.symm)
  replace S_l := S_l.ext E1
  replace S_T := S_T.ext E1
  have Z1 : n0 ≤ h1.size := Nat.le_trans Z0 E1.1
  have Kp1 : Keep h0 h1 [] := Kp0.ext E1
  have Ex_b1 := A1
  have F_role_b1 : Fld Z h1 b1 "dev/parlance/model/Message" "role" "Ldev/parlance/model/Role;" .null := D1 (Or.inr (own_w hw 55 rfl)) (ty := (.object "dev/parlance/model/Role")) (by decide)
  have F_content_b1 : Fld Z h1 b1 "dev/parlance/model/Message" "content" "Ljava/lang/String;" .null := D1 (Or.inr (own_w hw 57 rfl)) (ty := (.object "java/lang/String")) (by decide)
  have F_toolCalls_b1 : Fld Z h1 b1 "dev/parlance/model/Message" "toolCalls" "Ljava/util/List;" .null := D1 (Or.inr (own_w hw 59 rfl)) (ty := (.object "java/util/List")) (by decide)
  have F_toolCallId_b1 : Fld Z h1 b1 "dev/parlance/model/Message" "toolCallId" "Ljava/lang/String;" .null := D1 (Or.inr (own_w hw 61 rfl)) (ty := (.object "java/lang/String")) (by decide)
  refine own_go (A := T1.setTop (mkF m 3 #[.val (.ref ac)] [(.ref b1)])) (fun _ kz => st1 _ kz) ?_
  refine own_go (A := T1.setTop (mkF m 4 #[.val (.ref ac)] [(.ref b1), (.ref b1)])) (fun _ kz => ?_) ?_
  · refine XS.dup X1.here hx rfl (hb hby d8_3) rfl rfl ?_
    exact kz
  obtain ⟨T2, X2, e2, st2⟩ := getS2 X1 hx hZ hown (host := "") (Or.inl (own_w hw 41 rfl)) Via.refl e1 S_T (g := (mkF m 4 #[.val (.ref ac)] [(.ref b1), (.ref b1)])) rfl (hb hby d8_4)
  refine own_go (A := T2.setTop (mkF m 7 #[.val (.ref ac)] [(.ref kT), (.ref b1), (.ref b1)])) (fun _ kz => st2 _ kz) ?_
  refine own_go (A := T2.setTop (mkF m 8 #[.val (.ref ac)] [(.ref ac), (.ref kT), (.ref b1), (.ref b1)])) (fun _ kz => ?_) ?_
  · refine XS.aloadN X2.here hx rfl (hb hby d8_7) rfl rfl ?_
    exact kz
  obtain ⟨_, _, ⟨T3, L3, k3, n3⟩, -, X3, ⟨Lc3, hQ3, l3, y3, z3⟩, st3⟩ := Jvm.LawKit.callS X2 hx (y := (⟨"java/util/List", "of", "()Ljava/util/List;"⟩ : MethodName)) hown (mvT hZ (own_w hw 44 rfl)) (mvT hZ (own_w hw 45 rfl)) (mvT hZ (own_w hw 46 rfl)) (mvT hZ (own_w hw 47 rfl)) (by decide) (backOf (W := 4) (rmOf l Z a0 hw [] lst h1 n0 Z1 S_l) hZ (own_w hw 47 rfl) (own_w hw 46 rfl) (by decide) (by decide)) (g := (mkF m 8 #[.val (.ref ac)] [(.ref ac), (.ref kT), (.ref b1), (.ref b1)])) rfl (by rw [hml]; rfl) (argsL := []) (rest := [(.ref ac), (.ref kT), (.ref b1), (.ref b1)]) (lenOf own_pd15 rfl) rfl (by show 2 * 0 + _ ≤ _; exact Nat.le_of_eq rfl) (hb hby d8_8) (fun _ _ => ⟨rfl, e2, (by decide : 1 + 0 ≤ _), (by decide : 4 + 0 ≤ _)⟩)
  dsimp only [Pt.U, Pt.locs, Pt.cells, Pt.slots] at X3 l3 y3 z3 st3 hQ3
  subst l3 y3 z3
  obtain ⟨rfl, N3q, e3⟩ := hQ3
  have N3 := Fr.app N0 N3q
  refine own_go (A := T3.setTop (mkF m 11 #[.val (.ref ac)] [(.ref lst), (.ref ac), (.ref kT), (.ref b1), (.ref b1)])) (fun _ kz => st3 _ kz) ?_
  refine own_go (A := T3.setTop (mkF m 12 #[.val (.ref ac)] [.null, (.ref lst), (.ref ac), (.ref kT), (.ref b1), (.ref b1)])) (fun _ kz => ?_) ?_
  · refine XS.aconstNull X3.here hx rfl (hb hby d8_11) ?_
    exact kz
  obtain ⟨_, _, ⟨T4, L4, k4, n4⟩, -, X4, ⟨Lc4, hQ4, l4, y4, z4⟩, st4⟩ := X3.specialBack hx (y := (⟨"dev/parlance/model/Message", "<init>", "(Ldev/parlance/model/Role;Ljava/lang/String;Ljava/util/List;Ljava/lang/String;)V"⟩ : MethodName)) rfl hown (mvT hZ (own_w hw 50 rfl)) (mvT hZ (own_w hw 51 rfl)) (mvT hZ (own_w hw 52 rfl)) (by decide) (backOf (W := 1) (rmMi l Z a0 hw [] b1 kT ac lst h1 n0 Z1 Ex_b1 g_b1 F_role_b1 F_content_b1 F_toolCalls_b1 F_toolCallId_b1) hZ (own_w hw 52 rfl) (own_w hw 37 rfl) (by decide) (by decide)) (g := (mkF m 12 #[.val (.ref ac)] [.null, (.ref lst), (.ref ac), (.ref kT), (.ref b1), (.ref b1)])) rfl (by rw [hml]; rfl) (Steps.refl _) (a := b1) (argsL := [(.ref kT), (.ref ac), (.ref lst), .null]) (rest := [(.ref b1)]) (lenOf own_pd16 rfl) rfl (by show 2 * 0 + _ ≤ _; exact Nat.le_of_eq rfl) (hb hby d8_12) (fun _ _ => ⟨rfl, e3, (by decide : 1 + 0 ≤ _), (by decide : 4 + 0 ≤ _)⟩)
  dsimp only [Pt.U, Pt.locs, Pt.cells, Pt.slots] at X4 l4 y4 z4 st4 hQ4
  subst l4 y4 z4
  obtain ⟨rfl, N4q, K4q, _, Fm04, Fm14, Fm24, Fm34⟩ := hQ4
  have N4 := Fr.app N3 N4q
  replace S_l := own_staKeep S_l K4q (allS (own_ns Ex_b1) all0)
  replace S_T := own_staKeep S_T K4q (allS (own_ns Ex_b1) all0)
  replace Ex_b1 := Ex_b1.keep K4q
  have Z4 : n0 ≤ T4.heap.size := Nat.le_trans Z1 K4q.1
  have Kp4 : Keep h0 T4.heap [] := Kp1.trans K4q (allS (Or.inr szk_b1) (all0))
  refine own_go (A := T4.setTop (mkF m 15 #[.val (.ref ac)] [(.ref b1)])) (fun _ kz => st4.trans kz) ?_
  obtain ⟨fs, hrr, hrun, hended, hW, hsame⟩ := X4.leave (v := some (.ref b1)) (fun h => by rw [Bd.returns] at h; cases h)
  refine ⟨_, _, ?_, hrun, hended, _, _, rfl, ?_, ⟨_, rfl⟩, hW, hsame.mono (by decide) (by decide)⟩
  · show Steps p.tables e below (T4.setTop (mkF m 15 #[.val (.ref ac)] [(.ref b1)])) _
    exact retOut X4 hx (t := (.object "dev/parlance/model/Message")) Bd.returns rfl (Or.inr (Or.inr (Or.inr (Or.inr ⟨rfl, rfl, rfl⟩)))) (hb hby d8_15) hrr
  · show QrmTo Z ac kT lst h0 n0 _ T4.heap _
    exact ⟨b1, rfl, N4, szk_b1, Kp4, Ex_b1, Fm04, Fm14, Fm24, Fm34⟩
theorem d11_0 : decode prog_32_method_7_code 0 = .ok (.aload_n 0, 1) := by decide +kernel
theorem d11_1 : decode prog_32_method_7_code 1 = .ok (.getfield 7, 3) := by decide +kernel
theorem d11_4 : decode prog_32_method_7_code 4 = .ok (.areturn, 1) := by decide +kernel
theorem own_pn11 : plainName "dev/parlance/model/Message" = true := by first | (simp [plainName, overriddenIn]; done) | decide +kernel
theorem own_ef11 (m : MethodId) (x0 : Addr) : entryFrame m #[(.ref x0)] 1 = mkF m 0 #[.val (.ref x0)] [] := by first | (simp [entryFrame, mkF, argsToLocals, Value.category]; done) | rfl
def QrmG_role (Z : State) (t : Addr) (h0 : Heap) (n0 : Nat) (v : Option Value) (h : Heap) (L : List Loc) : Prop := v = some (.ref t) ∧ Fr n0 L ∧ h = h0
set_option maxRecDepth 65536 in
set_option maxHeartbeats 40000000 in
theorem rmG_role (l : Launch) (Z : State) (a0 : Array Value) (hw : ∀ d ∈ tables_1, d.before a0 Z = true) (ws : List Jvm.Cond) (a t : Addr) (h0 : Heap) (n0 : Nat) (Z0 : n0 ≤ h0.size) (Fg : Fld Z h0 a "dev/parlance/model/Message" "role" "Ldev/parlance/model/Role;" (.ref t)) :
    MetFree l (⟨"dev/parlance/model/Message", "role", "()Ldev/parlance/model/Role;"⟩ : MethodName) (head1 (Jvm.Cond.code (⟨"dev/parlance/model/Message", "role", "()Ldev/parlance/model/Role;"⟩ : MethodName) prog_32_method_7_code 1 (some (.object "dev/parlance/model/Role")) :: ws) ({ frames := 0, cells := 0, slots := 0, locals := 0 } : Room)) (fun ar_ U_ => ar_ = #[(.ref a)] ∧ Z.Warmed39 U_.vm ∧ U_.heap = h0) (fun _ _ _ _ _ => True) (fun _ U_ ou_ V_ => ∃ v_ L_, ou_ = .returned v_ ∧ QrmG_role Z t h0 n0 v_ V_.heap L_ ∧ FrameEnd U_ ou_ V_ L_ ({ frames := 0, cells := 0, slots := 0, locals := 0 } : Room).cells ({ frames := 0, cells := 0, slots := 0, locals := 0 } : Room).slots) := by
  refine MetFree.of_bodySF (plainFor_of_name own_pn11) hisR ?_
  intro p e s m args below meth c s₁ Bd hml0 hP hK
  obtain ⟨rfl, hZ, hh⟩ := hP
  have hx := Bd.exec
  have hby := Bd.bytes
  have hml : c.maxLocals = 1 := hml0
  have hown : s.vm.findClass "dev/parlance/model/Message" = some m.cls := findClass_of_methodNamed Bd.named
  have hnm := (name_of_methodNamed Bd.named Bd.method).1
  have X0 : Stand p l e ({ frames := 0, cells := 0, slots := 0, locals := 0 } : Room) s m #[(.ref a)] below meth c s₁ [] 0 0 := Stand.of_body Bd
  have e0 : s₁.heap = h0 := by rw [← hh, Bd.state]; rfl
  have N0 := Fr.nil n0
  refine own_go (A := s₁.setTop (mkF m 0 #[.val (.ref a)] [])) (fun _ kz => castTop (own_ef11 m a) kz) ?_
  refine own_go (A := s₁.setTop (mkF m 1 #[.val (.ref a)] [(.ref a)])) (fun _ kz => ?_) ?_
  · refine XS.aloadN X0.here hx rfl (hb hby d11_0) rfl rfl ?_
    exact kz
  obtain ⟨T1, X1, e1, st1⟩ := getF X0 hx hZ hown (host := "") (Or.inl (own_w hw 54 rfl)) Via.refl e0 Fg (g := (mkF m 1 #[.val (.ref a)] [(.ref a)])) rfl rfl (hb hby d11_1)
  refine own_go (A := T1.setTop (mkF m 4 #[.val (.ref a)] [(.ref t)])) (fun _ kz => st1 _ kz) ?_
  obtain ⟨fs, hrr, hrun, hended, hW, hsame⟩ := X1.leave (v := some (.ref t)) (fun h => by rw [Bd.returns] at h; cases h)
  refine ⟨_, _, ?_, hrun, hended, _, _, rfl, ?_, ⟨_, rfl⟩, hW, hsame.mono (by decide) (by decide)⟩
  · show Steps p.tables e below (T1.setTop (mkF m 4 #[.val (.ref a)] [(.ref t)])) _
    exact retOut X1 hx (t := (.object "dev/parlance/model/Role")) Bd.returns rfl (Or.inr (Or.inr (Or.inr (Or.inr ⟨rfl, rfl, rfl⟩)))) (hb hby d11_4) hrr
  · show QrmG_role Z t h0 n0 _ T1.heap _
    rw [e1]
    exact ⟨rfl, N0, rfl⟩
theorem d12_0 : decode prog_32_method_8_code 0 = .ok (.aload_n 0, 1) := by decide +kernel
theorem d12_1 : decode prog_32_method_8_code 1 = .ok (.getfield 13, 3) := by decide +kernel
theorem d12_4 : decode prog_32_method_8_code 4 = .ok (.areturn, 1) := by decide +kernel
theorem own_pn12 : plainName "dev/parlance/model/Message" = true := by first | (simp [plainName, overriddenIn]; done) | decide +kernel
theorem own_ef12 (m : MethodId) (x0 : Addr) : entryFrame m #[(.ref x0)] 1 = mkF m 0 #[.val (.ref x0)] [] := by first | (simp [entryFrame, mkF, argsToLocals, Value.category]; done) | rfl
def QrmG_content (Z : State) (t : Addr) (h0 : Heap) (n0 : Nat) (v : Option Value) (h : Heap) (L : List Loc) : Prop := v = some (.ref t) ∧ Fr n0 L ∧ h = h0
set_option maxRecDepth 65536 in
set_option maxHeartbeats 40000000 in
theorem rmG_content (l : Launch) (Z : State) (a0 : Array Value) (hw : ∀ d ∈ tables_1, d.before a0 Z = true) (ws : List Jvm.Cond) (a t : Addr) (h0 : Heap) (n0 : Nat) (Z0 : n0 ≤ h0.size) (Fg : Fld Z h0 a "dev/parlance/model/Message" "content" "Ljava/lang/String;" (.ref t)) :
    MetFree l (⟨"dev/parlance/model/Message", "content", "()Ljava/lang/String;"⟩ : MethodName) (head1 (Jvm.Cond.code (⟨"dev/parlance/model/Message", "content", "()Ljava/lang/String;"⟩ : MethodName) prog_32_method_8_code 1 (some (.object "java/lang/String")) :: ws) ({ frames := 0, cells := 0, slots := 0, locals := 0 } : Room)) (fun ar_ U_ => ar_ = #[(.ref a)] ∧ Z.Warmed39 U_.vm ∧ U_.heap = h0) (fun _ _ _ _ _ => True) (fun _ U_ ou_ V_ => ∃ v_ L_, ou_ = .returned v_ ∧ QrmG_content Z t h0 n0 v_ V_.heap L_ ∧ FrameEnd U_ ou_ V_ L_ ({ frames := 0, cells := 0, slots := 0, locals := 0 } : Room).cells ({ frames := 0, cells := 0, slots := 0, locals := 0 } : Room).slots) := by
  refine MetFree.of_bodySF (plainFor_of_name own_pn12) hisR ?_
  intro p e s m args below meth c s₁ Bd hml0 hP hK
  obtain ⟨rfl, hZ, hh⟩ := hP
  have hx := Bd.exec
  have hby := Bd.bytes
  have hml : c.maxLocals = 1 := hml0
  have hown : s.vm.findClass "dev/parlance/model/Message" = some m.cls := findClass_of_methodNamed Bd.named
  have hnm := (name_of_methodNamed Bd.named Bd.method).1
  have X0 : Stand p l e ({ frames := 0, cells := 0, slots := 0, locals := 0 } : Room) s m #[(.ref a)] below meth c s₁ [] 0 0 := Stand.of_body Bd
  have e0 : s₁.heap = h0 := by rw [← hh, Bd.state]; rfl
  have N0 := Fr.nil n0
  refine own_go (A := s₁.setTop (mkF m 0 #[.val (.ref a)] [])) (fun _ kz => castTop (own_ef12 m a) kz) ?_
  refine own_go (A := s₁.setTop (mkF m 1 #[.val (.ref a)] [(.ref a)])) (fun _ kz => ?_) ?_
  · refine XS.aloadN X0.here hx rfl (hb hby d12_0) rfl rfl ?_
    exact kz
  obtain ⟨T1, X1, e1, st1⟩ := getF X0 hx hZ hown (host := "") (Or.inl (own_w hw 56 rfl)) Via.refl e0 Fg (g := (mkF m 1 #[.val (.ref a)] [(.ref a)])) rfl rfl (hb hby d12_1)
  refine own_go (A := T1.setTop (mkF m 4 #[.val (.ref a)] [(.ref t)])) (fun _ kz => st1 _ kz) ?_
  obtain ⟨fs, hrr, hrun, hended, hW, hsame⟩ := X1.leave (v := some (.ref t)) (fun h => by rw [Bd.returns] at h; cases h)
  refine ⟨_, _, ?_, hrun, hended, _, _, rfl, ?_, ⟨_, rfl⟩, hW, hsame.mono (by decide) (by decide)⟩
  · show Steps p.tables e below (T1.setTop (mkF m 4 #[.val (.ref a)] [(.ref t)])) _
    exact retOut X1 hx (t := (.object "java/lang/String")) Bd.returns rfl (Or.inr (Or.inr (Or.inr (Or.inr ⟨rfl, rfl, rfl⟩)))) (hb hby d12_4) hrr
  · show QrmG_content Z t h0 n0 _ T1.heap _
    rw [e1]
    exact ⟨rfl, N0, rfl⟩
theorem d21_0 : decode prog_32_method_9_code 0 = .ok (.aload_n 0, 1) := by decide +kernel
theorem d21_1 : decode prog_32_method_9_code 1 = .ok (.getfield 17, 3) := by decide +kernel
theorem d21_4 : decode prog_32_method_9_code 4 = .ok (.areturn, 1) := by decide +kernel
theorem own_pn21 : plainName "dev/parlance/model/Message" = true := by first | (simp [plainName, overriddenIn]; done) | decide +kernel
theorem own_ef21 (m : MethodId) (x0 : Addr) : entryFrame m #[(.ref x0)] 1 = mkF m 0 #[.val (.ref x0)] [] := by first | (simp [entryFrame, mkF, argsToLocals, Value.category]; done) | rfl
def QrmG_toolCalls (Z : State) (t : Addr) (h0 : Heap) (n0 : Nat) (v : Option Value) (h : Heap) (L : List Loc) : Prop := v = some (.ref t) ∧ Fr n0 L ∧ h = h0
set_option maxRecDepth 65536 in
set_option maxHeartbeats 40000000 in
theorem rmG_toolCalls (l : Launch) (Z : State) (a0 : Array Value) (hw : ∀ d ∈ tables_1, d.before a0 Z = true) (ws : List Jvm.Cond) (a t : Addr) (h0 : Heap) (n0 : Nat) (Z0 : n0 ≤ h0.size) (Fg : Fld Z h0 a "dev/parlance/model/Message" "toolCalls" "Ljava/util/List;" (.ref t)) :
    MetFree l (⟨"dev/parlance/model/Message", "toolCalls", "()Ljava/util/List;"⟩ : MethodName) (head1 (Jvm.Cond.code (⟨"dev/parlance/model/Message", "toolCalls", "()Ljava/util/List;"⟩ : MethodName) prog_32_method_9_code 1 (some (.object "java/util/List")) :: ws) ({ frames := 0, cells := 0, slots := 0, locals := 0 } : Room)) (fun ar_ U_ => ar_ = #[(.ref a)] ∧ Z.Warmed39 U_.vm ∧ U_.heap = h0) (fun _ _ _ _ _ => True) (fun _ U_ ou_ V_ => ∃ v_ L_, ou_ = .returned v_ ∧ QrmG_toolCalls Z t h0 n0 v_ V_.heap L_ ∧ FrameEnd U_ ou_ V_ L_ ({ frames := 0, cells := 0, slots := 0, locals := 0 } : Room).cells ({ frames := 0, cells := 0, slots := 0, locals := 0 } : Room).slots) := by
  refine MetFree.of_bodySF (plainFor_of_name own_pn21) hisR ?_
  intro p e s m args below meth c s₁ Bd hml0 hP hK
  obtain ⟨rfl, hZ, hh⟩ := hP
  have hx := Bd.exec
  have hby := Bd.bytes
  have hml : c.maxLocals = 1 := hml0
  have hown : s.vm.findClass "dev/parlance/model/Message" = some m.cls := findClass_of_methodNamed Bd.named
  have hnm := (name_of_methodNamed Bd.named Bd.method).1
  have X0 : Stand p l e ({ frames := 0, cells := 0, slots := 0, locals := 0 } : Room) s m #[(.ref a)] below meth c s₁ [] 0 0 := Stand.of_body Bd
  have e0 : s₁.heap = h0 := by rw [← hh, Bd.state]; rfl
  have N0 := Fr.nil n0
  refine own_go (A := s₁.setTop (mkF m 0 #[.val (.ref a)] [])) (fun _ kz => castTop (own_ef21 m a) kz) ?_
  refine own_go (A := s₁.setTop (mkF m 1 #[.val (.ref a)] [(.ref a)])) (fun _ kz => ?_) ?_
  · refine XS.aloadN X0.here hx rfl (hb hby d21_0) rfl rfl ?_
    exact kz
  obtain ⟨T1, X1, e1, st1⟩ := getF X0 hx hZ hown (host := "") (Or.inl (own_w hw 58 rfl)) Via.refl e0 Fg (g := (mkF m 1 #[.val (.ref a)] [(.ref a)])) rfl rfl (hb hby d21_1)
  refine own_go (A := T1.setTop (mkF m 4 #[.val (.ref a)] [(.ref t)])) (fun _ kz => st1 _ kz) ?_
  obtain ⟨fs, hrr, hrun, hended, hW, hsame⟩ := X1.leave (v := some (.ref t)) (fun h => by rw [Bd.returns] at h; cases h)
  refine ⟨_, _, ?_, hrun, hended, _, _, rfl, ?_, ⟨_, rfl⟩, hW, hsame.mono (by decide) (by decide)⟩
  · show Steps p.tables e below (T1.setTop (mkF m 4 #[.val (.ref a)] [(.ref t)])) _
    exact retOut X1 hx (t := (.object "java/util/List")) Bd.returns rfl (Or.inr (Or.inr (Or.inr (Or.inr ⟨rfl, rfl, rfl⟩)))) (hb hby d21_4) hrr
  · show QrmG_toolCalls Z t h0 n0 _ T1.heap _
    rw [e1]
    exact ⟨rfl, N0, rfl⟩
theorem d23_0 : decode prog_32_method_10_code 0 = .ok (.aload_n 0, 1) := by decide +kernel
theorem d23_1 : decode prog_32_method_10_code 1 = .ok (.getfield 21, 3) := by decide +kernel
theorem d23_4 : decode prog_32_method_10_code 4 = .ok (.areturn, 1) := by decide +kernel
theorem own_pn23 : plainName "dev/parlance/model/Message" = true := by first | (simp [plainName, overriddenIn]; done) | decide +kernel
theorem own_ef23 (m : MethodId) (x0 : Addr) : entryFrame m #[(.ref x0)] 1 = mkF m 0 #[.val (.ref x0)] [] := by first | (simp [entryFrame, mkF, argsToLocals, Value.category]; done) | rfl
def QrmG_toolCallId (Z : State)  (h0 : Heap) (n0 : Nat) (v : Option Value) (h : Heap) (L : List Loc) : Prop := v = some .null ∧ Fr n0 L ∧ h = h0
set_option maxRecDepth 65536 in
set_option maxHeartbeats 40000000 in
theorem rmG_toolCallId (l : Launch) (Z : State) (a0 : Array Value) (hw : ∀ d ∈ tables_1, d.before a0 Z = true) (ws : List Jvm.Cond) (a : Addr) (h0 : Heap) (n0 : Nat) (Z0 : n0 ≤ h0.size) (Fg : Fld Z h0 a "dev/parlance/model/Message" "toolCallId" "Ljava/lang/String;" .null) :
    MetFree l (⟨"dev/parlance/model/Message", "toolCallId", "()Ljava/lang/String;"⟩ : MethodName) (head1 (Jvm.Cond.code (⟨"dev/parlance/model/Message", "toolCallId", "()Ljava/lang/String;"⟩ : MethodName) prog_32_method_10_code 1 (some (.object "java/lang/String")) :: ws) ({ frames := 0, cells := 0, slots := 0, locals := 0 } : Room)) (fun ar_ U_ => ar_ = #[(.ref a)] ∧ Z.Warmed39 U_.vm ∧ U_.heap = h0) (fun _ _ _ _ _ => True) (fun _ U_ ou_ V_ => ∃ v_ L_, ou_ = .returned v_ ∧ QrmG_toolCallId Z  h0 n0 v_ V_.heap L_ ∧ FrameEnd U_ ou_ V_ L_ ({ frames := 0, cells := 0, slots := 0, locals := 0 } : Room).cells ({ frames := 0, cells := 0, slots := 0, locals := 0 } : Room).slots) := by
  refine MetFree.of_bodySF (plainFor_of_name own_pn23) hisR ?_
  intro p e s m args below meth c s₁ Bd hml0 hP hK
  obtain ⟨rfl, hZ, hh⟩ := hP
  have hx := Bd.exec
  have hby := Bd.bytes
  have hml : c.maxLocals = 1 := hml0
  have hown : s.vm.findClass "dev/parlance/model/Message" = some m.cls := findClass_of_methodNamed Bd.named
  have hnm := (name_of_methodNamed Bd.named Bd.method).1
  have X0 : Stand p l e ({ frames := 0, cells := 0, slots := 0, locals := 0 } : Room) s m #[(.ref a)] below meth c s₁ [] 0 0 := Stand.of_body Bd
  have e0 : s₁.heap = h0 := by rw [← hh, Bd.state]; rfl
  have N0 := Fr.nil n0
  refine own_go (A := s₁.setTop (mkF m 0 #[.val (.ref a)] [])) (fun _ kz => castTop (own_ef23 m a) kz) ?_
  refine own_go (A := s₁.setTop (mkF m 1 #[.val (.ref a)] [(.ref a)])) (fun _ kz => ?_) ?_
  · refine XS.aloadN X0.here hx rfl (hb hby d23_0) rfl rfl ?_
    exact kz
  obtain ⟨T1, X1, e1, st1⟩ := getF X0 hx hZ hown (host := "") (Or.inl (own_w hw 60 rfl)) Via.refl e0 Fg (g := (mkF m 1 #[.val (.ref a)] [(.ref a)])) rfl rfl (hb hby d23_1)
  refine own_go (A := T1.setTop (mkF m 4 #[.val (.ref a)] [.null])) (fun _ kz => st1 _ kz) ?_
  obtain ⟨fs, hrr, hrun, hended, hW, hsame⟩ := X1.leave (v := some .null) (fun h => by rw [Bd.returns] at h; cases h)
  refine ⟨_, _, ?_, hrun, hended, _, _, rfl, ?_, ⟨_, rfl⟩, hW, hsame.mono (by decide) (by decide)⟩
  · show Steps p.tables e below (T1.setTop (mkF m 4 #[.val (.ref a)] [.null])) _
    exact retOut X1 hx (t := (.object "java/lang/String")) Bd.returns rfl (Or.inr (Or.inr (Or.inr (Or.inr ⟨rfl, rfl, rfl⟩)))) (hb hby d23_4) hrr
  · show QrmG_toolCallId Z  h0 n0 _ T1.heap _
    rw [e1]
    exact ⟨rfl, N0, rfl⟩
theorem d15_0 : decode jdk_42_method_66_code 0 = .ok (.aload_n 0, 1) := by decide +kernel
theorem d15_1 : decode jdk_42_method_66_code 1 = .ok (.aload_n 1, 1) := by decide +kernel
theorem d15_2 : decode jdk_42_method_66_code 2 = .ok (.if_acmp .ne 5, 3) := by decide +kernel
theorem d15_5 : decode jdk_42_method_66_code 5 = .ok (.iconst 1, 1) := by decide +kernel
theorem d15_6 : decode jdk_42_method_66_code 6 = .ok (.ireturn, 1) := by decide +kernel
theorem own_pn15 : plainName "java/lang/String" = true := by first | (simp [plainName, overriddenIn]; done) | decide +kernel
theorem own_ef15 (m : MethodId) (x0 : Addr) (x1 : Addr) : entryFrame m #[(.ref x0), (.ref x1)] 3 = mkF m 0 #[.val (.ref x0), .val (.ref x1), .unset] [] := by first | (simp [entryFrame, mkF, argsToLocals, Value.category]; done) | rfl
def QrmEq (Z : State)  (h0 : Heap) (n0 : Nat) (v : Option Value) (h : Heap) (L : List Loc) : Prop := v = some (.int 1) ∧ Fr n0 L ∧ h = h0
set_option maxRecDepth 65536 in
set_option maxHeartbeats 40000000 in
theorem rmEq (l : Launch) (Z : State) (a0 : Array Value) (hw : ∀ d ∈ tables_1, d.before a0 Z = true) (ws : List Jvm.Cond) (a : Addr) (h0 : Heap) (n0 : Nat) (Z0 : n0 ≤ h0.size)  :
    MetFree l (⟨"java/lang/String", "equals", "(Ljava/lang/Object;)Z"⟩ : MethodName) (head1 (Jvm.Cond.code (⟨"java/lang/String", "equals", "(Ljava/lang/Object;)Z"⟩ : MethodName) jdk_42_method_66_code 3 (some .boolean) :: ws) ({ frames := 0, cells := 0, slots := 0, locals := 0 } : Room)) (fun ar_ U_ => ar_ = #[(.ref a), (.ref a)] ∧ Z.Warmed39 U_.vm ∧ U_.heap = h0) (fun _ _ _ _ _ => True) (fun _ U_ ou_ V_ => ∃ v_ L_, ou_ = .returned v_ ∧ QrmEq Z  h0 n0 v_ V_.heap L_ ∧ FrameEnd U_ ou_ V_ L_ ({ frames := 0, cells := 0, slots := 0, locals := 0 } : Room).cells ({ frames := 0, cells := 0, slots := 0, locals := 0 } : Room).slots) := by
  refine MetFree.of_bodySF (plainFor_of_name own_pn15) hisR ?_
  intro p e s m args below meth c s₁ Bd hml0 hP hK
  obtain ⟨rfl, hZ, hh⟩ := hP
  have hx := Bd.exec
  have hby := Bd.bytes
  have hml : c.maxLocals = 3 := hml0
  have hown : s.vm.findClass "java/lang/String" = some m.cls := findClass_of_methodNamed Bd.named
  have hnm := (name_of_methodNamed Bd.named Bd.method).1
  have X0 : Stand p l e ({ frames := 0, cells := 0, slots := 0, locals := 0 } : Room) s m #[(.ref a), (.ref a)] below meth c s₁ [] 0 0 := Stand.of_body Bd
  have e0 : s₁.heap = h0 := by rw [← hh, Bd.state]; rfl
  have N0 := Fr.nil n0
  refine own_go (A := s₁.setTop (mkF m 0 #[.val (.ref a), .val (.ref a), .unset] [])) (fun _ kz => castTop (own_ef15 m a a) kz) ?_
  refine own_go (A := s₁.setTop (mkF m 6 #[.val (.ref a), .val (.ref a), .unset] [(.int 1)])) (fun _ kz => ?_) ?_
  · refine XS.aloadN X0.here hx rfl (hb hby d15_0) rfl rfl ?_
    refine XS.aloadN X0.here hx rfl (hb hby d15_1) rfl rfl ?_
    refine Jvm.RoadKit.acmp (g := (mkF m 2 #[.val (.ref a), .val (.ref a), .unset] [(.ref a), (.ref a)])) X0 hx rfl rfl rfl (pc0 := 2) (pc' := 5) (same := true) rfl (hb hby d15_2) rfl (decide_eq_true rfl) (by decide) (by decide) ?_
    refine XS.iconst X0.here hx rfl (hb hby d15_5) ?_
    exact kz
  obtain ⟨fs, hrr, hrun, hended, hW, hsame⟩ := X0.leave (v := some (.int 1)) (fun h => by rw [Bd.returns] at h; cases h)
  refine ⟨_, _, ?_, hrun, hended, _, _, rfl, ?_, ⟨_, rfl⟩, hW, hsame.mono (by decide) (by decide)⟩
  · show Steps p.tables e below (s₁.setTop (mkF m 6 #[.val (.ref a), .val (.ref a), .unset] [(.int 1)])) _
    exact retN X0 hx (t := .boolean) Bd.returns (by simp) (hb hby d15_6) hrr
  · show QrmEq Z  h0 n0 _ s₁.heap _
    rw [e0]
    exact ⟨rfl, N0, rfl⟩
theorem d22_0 : decode jdk_45_method_3_code 0 = .ok (.aload_n 0, 1) := by decide +kernel
theorem d22_1 : decode jdk_45_method_3_code 1 = .ok (.getfield 7, 3) := by decide +kernel
theorem d22_4 : decode jdk_45_method_3_code 4 = .ok (.arraylength, 1) := by decide +kernel
theorem d22_5 : decode jdk_45_method_3_code 5 = .ok (.ireturn, 1) := by decide +kernel
theorem own_pn22 : plainName "java/util/ImmutableCollections$ListN" = true := by first | (simp [plainName, overriddenIn]; done) | decide +kernel
theorem own_ef22 (m : MethodId) (x0 : Addr) : entryFrame m #[(.ref x0)] 1 = mkF m 0 #[.val (.ref x0)] [] := by first | (simp [entryFrame, mkF, argsToLocals, Value.category]; done) | rfl
def QrmSz (Z : State)  (h0 : Heap) (n0 : Nat) (v : Option Value) (h : Heap) (L : List Loc) : Prop := v = some (.int 0) ∧ Fr n0 L ∧ h = h0
set_option maxRecDepth 65536 in
set_option maxHeartbeats 40000000 in
theorem rmSz (l : Launch) (Z : State) (a0 : Array Value) (hw : ∀ d ∈ tables_1, d.before a0 Z = true) (ws : List Jvm.Cond) (a t : Addr) (k : ClassId) (h0 : Heap) (n0 : Nat) (Z0 : n0 ≤ h0.size) (Fe : Fld Z h0 a "java/util/ImmutableCollections$ListN" "elements" "[Ljava/lang/Object;" (.ref t)) (Ae : Arv Z h0 t k (.object "java/lang/Object") (0 : Int32) [] .null) :
    MetFree l (⟨"java/util/ImmutableCollections$ListN", "size", "()I"⟩ : MethodName) (head1 (Jvm.Cond.code (⟨"java/util/ImmutableCollections$ListN", "size", "()I"⟩ : MethodName) jdk_45_method_3_code 1 (some .int) :: ws) ({ frames := 0, cells := 0, slots := 0, locals := 0 } : Room)) (fun ar_ U_ => ar_ = #[(.ref a)] ∧ Z.Warmed39 U_.vm ∧ U_.heap = h0) (fun _ _ _ _ _ => True) (fun _ U_ ou_ V_ => ∃ v_ L_, ou_ = .returned v_ ∧ QrmSz Z  h0 n0 v_ V_.heap L_ ∧ FrameEnd U_ ou_ V_ L_ ({ frames := 0, cells := 0, slots := 0, locals := 0 } : Room).cells ({ frames := 0, cells := 0, slots := 0, locals := 0 } : Room).slots) := by
  refine MetFree.of_bodySF (plainFor_of_name own_pn22) hisR ?_
  intro p e s m args below meth c s₁ Bd hml0 hP hK
  obtain ⟨rfl, hZ, hh⟩ := hP
  have hx := Bd.exec
  have hby := Bd.bytes
  have hml : c.maxLocals = 1 := hml0
  have hown : s.vm.findClass "java/util/ImmutableCollections$ListN" = some m.cls := findClass_of_methodNamed Bd.named
  have hnm := (name_of_methodNamed Bd.named Bd.method).1
  have X0 : Stand p l e ({ frames := 0, cells := 0, slots := 0, locals := 0 } : Room) s m #[(.ref a)] below meth c s₁ [] 0 0 := Stand.of_body Bd
  have e0 : s₁.heap = h0 := by rw [← hh, Bd.state]; rfl
  have N0 := Fr.nil n0
  refine own_go (A := s₁.setTop (mkF m 0 #[.val (.ref a)] [])) (fun _ kz => castTop (own_ef22 m a) kz) ?_
  refine own_go (A := s₁.setTop (mkF m 1 #[.val (.ref a)] [(.ref a)])) (fun _ kz => ?_) ?_
  · refine XS.aloadN X0.here hx rfl (hb hby d22_0) rfl rfl ?_
    exact kz
  obtain ⟨T1, X1, e1, st1⟩ := getF X0 hx hZ hown (host := "") (Or.inl (own_w hw 125 rfl)) Via.refl e0 Fe (g := (mkF m 1 #[.val (.ref a)] [(.ref a)])) rfl rfl (hb hby d22_1)
  refine own_go (A := T1.setTop (mkF m 4 #[.val (.ref a)] [(.ref t)])) (fun _ kz => st1 _ kz) ?_
  obtain ⟨cl2, Ar2, -, S2, M2, -, -⟩ := id Ae
  refine own_go (A := T1.setTop (mkF m 5 #[.val (.ref a)] [(.int 0)])) (fun _ kz => ?_) ?_
  · refine X1.arraylength hx (by rw [e1]; exact Ar2.1) (State.isArrayOf_alike hZ.alike Ar2.2.1) (g := (mkF m 4 #[.val (.ref a)] [(.ref t)])) rfl rfl (hb hby d22_4) _ ?_
    rw [len_of S2 M2]
    exact kz
  obtain ⟨fs, hrr, hrun, hended, hW, hsame⟩ := X1.leave (v := some (.int 0)) (fun h => by rw [Bd.returns] at h; cases h)
  refine ⟨_, _, ?_, hrun, hended, _, _, rfl, ?_, ⟨_, rfl⟩, hW, hsame.mono (by decide) (by decide)⟩
  · show Steps p.tables e below (T1.setTop (mkF m 5 #[.val (.ref a)] [(.int 0)])) _
    exact retI X1 hx Bd.returns (hb hby d22_5) hrr
  · show QrmSz Z  h0 n0 _ T1.heap _
    rw [e1]
    exact ⟨rfl, N0, rfl⟩
theorem own_pn0 : plainName "dev/parlance/model/MessageAssistantPinLaw" = true := by first | (simp [plainName, overriddenIn]; done) | decide +kernel
theorem own_ef0 (m : MethodId) (x0 : Int32) (x1 : Int32) (x2 : Int32) (x3 : Int32) : entryFrame m #[(.int x0), (.int x1), (.int x2), (.int x3)] maxLocals = mkF m 0 #[.val (.int x0), .val (.int x1), .val (.int x2), .val (.int x3), .unset, .unset, .unset, .unset, .unset, .unset, .unset] [] := by first | (simp [entryFrame, mkF, argsToLocals, Value.category, maxLocals]; done) | rfl
def Qrm0 (Z : State)  (h0 : Heap) (n0 : Nat) (v : Option Value) (h : Heap) (L : List Loc) : Prop := v = some (.int 1) ∧ Fr n0 L
set_option maxRecDepth 65536 in
set_option maxHeartbeats 40000000 in
theorem rm0 (l : Launch) (Z : State) (a0 : Array Value) (hw : ∀ d ∈ tables_1, d.before a0 Z = true) (ws : List Jvm.Cond) (p1 p2 p3 p4 cs : Int32) (fm : Value) (kT lst el : Addr) (ke : ClassId) (h0 : Heap) (n0 : Nat) (Z0 : n0 ≤ h0.size) (hZh : Ext Z.heap h0) (hheld : ∀ q ∈ consts_1, Jvm.Lit.constHeld Z q.1 q.2) (hcw : Jvm.Lit.compactW.before a0 Z = true) (hcs : ¬ (cs = (0 : Int32))) (S_cs : Sta Z h0 "java/lang/String" "COMPACT_STRINGS" "Z" (.int cs)) (S_ad : Sta Z h0 "java/lang/StringUTF16" "$assertionsDisabled" "Z" (.int 1)) (S_hi : Sta Z h0 "java/lang/StringUTF16" "HI_BYTE_SHIFT" "I" (.int 0)) (S_lo : Sta Z h0 "java/lang/StringUTF16" "LO_BYTE_SHIFT" "I" (.int 8)) (S_fm : Sta Z h0 "jdk/internal/util/Preconditions" "SIOOBE_FORMATTER" "Ljava/util/function/BiFunction;" fm) (rfm : fm.isRef = true) (S_T : Sta Z h0 "dev/parlance/model/Role" "ASSISTANT" "Ldev/parlance/model/Role;" (.ref kT)) (S_l : Sta Z h0 "java/util/ImmutableCollections" "EMPTY_LIST" "Ljava/util/ImmutableCollections$ListN;" (.ref lst)) (Exl_ : Exa Z h0 lst "java/util/ImmutableCollections$ListN") (Fel : Fld Z h0 lst "java/util/ImmutableCollections$ListN" "elements" "[Ljava/lang/Object;" (.ref el)) (Ael : Arv Z h0 el ke (.object "java/lang/Object") (0 : Int32) [] .null) :
    MetFree l x (head1 (Jvm.Cond.code x code maxLocals ret :: ws) room_1) (fun ar_ U_ => ar_ = #[(.int p1), (.int p2), (.int p3), (.int p4)] ∧ Z.Warmed39 U_.vm ∧ U_.heap = h0 ∧ own_In Z U_.vm h0) (fun _ _ _ _ _ => True) (fun _ U_ ou_ V_ => ∃ v_ L_, ou_ = .returned v_ ∧ Qrm0 Z  h0 n0 v_ V_.heap L_ ∧ ReturnedEndW U_ ou_ V_ L_ room_1.cells room_1.slots) := by
  refine MetFree.of_bodySF (plainFor_of_name own_pn0) hisR ?_
  intro p e s m args below meth c s₁ Bd hml0 hP hK
  obtain ⟨rfl, hZ, hh, hIn⟩ := hP
  have hx := Bd.exec
  have hby := Bd.bytes
  have hml : c.maxLocals = 11 := hml0
  have hown : s.vm.findClass "dev/parlance/model/MessageAssistantPinLaw" = some m.cls := findClass_of_methodNamed Bd.named
  have hnm := (name_of_methodNamed Bd.named Bd.method).1
  have X0 : Stand p l e room_1 s m #[(.int p1), (.int p2), (.int p3), (.int p4)] below meth c s₁ [] 0 0 := Stand.of_body Bd
  have e0 : s₁.heap = h0 := by rw [← hh, Bd.state]; rfl
  have N0 := Fr.nil n0
  have hkeep : ∀ (b : Addr) (cl : Cell), Z.heap[b]? = some cl → s.heap[b]? = some cl := fun b cl q => by rw [hh]; exact hZh.2 b cl q
  have wS : ∀ a ∈ Bundle.stringAtoms, a.before a0 Z = true := fun d hd => hw d ((by decide +kernel : ∀ d ∈ Bundle.stringAtoms, d ∈ tables_1) d hd)
  replace X0 : Stand p l e room_1 (s.setVm s.vm) m #[(.int p1), (.int p2), (.int p3), (.int p4)] below meth c s₁ [] 0 0 := X0
  replace hZ : Z.Warmed39 (s.setVm s.vm).vm := hZ
  replace hown : (s.setVm s.vm).vm.findClass "dev/parlance/model/MessageAssistantPinLaw" = some m.cls := hown
  have hS : s.Since s.vm 0 := (State.WarmedH.refl s).since 0
  have hk : 0 ≤ h0.size := Nat.zero_le _
  have Kp0 : Keep h0 h0 [] := Keep.refl h0 _
  refine own_go (A := s₁.setTop (mkF m 0 #[.val (.int p1), .val (.int p2), .val (.int p3), .val (.int p4), .unset, .unset, .unset, .unset, .unset, .unset, .unset] [])) (fun _ kz => castTop (own_ef0 m p1 p2 p3 p4) kz) ?_
  refine own_go (A := s₁.setTop (mkF m 26 #[.val (.int p1), .val (.int p2), .val (.int p3), .val (.int p4), .val (.int (p4 &&& (3 : Int32))), .val (.int ((p1 &&& (65535 : Int32)).toUInt32.toUInt16.toUInt32.toInt32)), .val (.int ((p2 &&& (65535 : Int32)).toUInt32.toUInt16.toUInt32.toInt32)), .val (.int ((p3 &&& (65535 : Int32)).toUInt32.toUInt16.toUInt32.toInt32)), .unset, .unset, .unset] [])) (fun _ kz => ?_) ?_
  · refine XS.iloadN X0.here hx rfl (hb hby at_0) rfl ?_
    refine XS.iconst X0.here hx rfl (hb hby at_1) ?_
    refine XS.iand X0.here hx rfl (hb hby at_2) rfl ?_
    refine XS.istore X0.here hx rfl (hb hby at_3) rfl (l' := #[.val (.int p1), .val (.int p2), .val (.int p3), .val (.int p4), .val (.int (p4 &&& (3 : Int32))), .unset, .unset, .unset, .unset, .unset, .unset]) rfl ?_
    refine XS.iloadN X0.here hx rfl (hb hby at_5) rfl ?_
    refine X0.ldcInt hx hown (mvT hZ (own_w hw 0 rfl)) (g := (mkF m 6 #[.val (.int p1), .val (.int p2), .val (.int p3), .val (.int p4), .val (.int (p4 &&& (3 : Int32))), .unset, .unset, .unset, .unset, .unset, .unset] [(.int p1)])) rfl (hb hby at_6) _ ?_
    refine XS.iand X0.here hx rfl (hb hby at_8) rfl ?_
    refine XS.i2c X0.here hx rfl (hb hby at_9) rfl ?_
    refine XS.istore X0.here hx rfl (hb hby at_10) rfl (l' := #[.val (.int p1), .val (.int p2), .val (.int p3), .val (.int p4), .val (.int (p4 &&& (3 : Int32))), .val (.int ((p1 &&& (65535 : Int32)).toUInt32.toUInt16.toUInt32.toInt32)), .unset, .unset, .unset, .unset, .unset]) rfl ?_
    refine XS.iloadN X0.here hx rfl (hb hby at_12) rfl ?_
    refine X0.ldcInt hx hown (mvT hZ (own_w hw 0 rfl)) (g := (mkF m 13 #[.val (.int p1), .val (.int p2), .val (.int p3), .val (.int p4), .val (.int (p4 &&& (3 : Int32))), .val (.int ((p1 &&& (65535 : Int32)).toUInt32.toUInt16.toUInt32.toInt32)), .unset, .unset, .unset, .unset, .unset] [(.int p2)])) rfl (hb hby at_13) _ ?_
    refine XS.iand X0.here hx rfl (hb hby at_15) rfl ?_
    refine XS.i2c X0.here hx rfl (hb hby at_16) rfl ?_
    refine XS.istore X0.here hx rfl (hb hby at_17) rfl (l' := #[.val (.int p1), .val (.int p2), .val (.int p3), .val (.int p4), .val (.int (p4 &&& (3 : Int32))), .val (.int ((p1 &&& (65535 : Int32)).toUInt32.toUInt16.toUInt32.toInt32)), .val (.int ((p2 &&& (65535 : Int32)).toUInt32.toUInt16.toUInt32.toInt32)), .unset, .unset, .unset, .unset]) rfl ?_
    refine XS.iloadN X0.here hx rfl (hb hby at_19) rfl ?_
    refine X0.ldcInt hx hown (mvT hZ (own_w hw 0 rfl)) (g := (mkF m 20 #[.val (.int p1), .val (.int p2), .val (.int p3), .val (.int p4), .val (.int (p4 &&& (3 : Int32))), .val (.int ((p1 &&& (65535 : Int32)).toUInt32.toUInt16.toUInt32.toInt32)), .val (.int ((p2 &&& (65535 : Int32)).toUInt32.toUInt16.toUInt32.toInt32)), .unset, .unset, .unset, .unset] [(.int p3)])) rfl (hb hby at_20) _ ?_
    refine XS.iand X0.here hx rfl (hb hby at_22) rfl ?_
    refine XS.i2c X0.here hx rfl (hb hby at_23) rfl ?_
    refine XS.istore X0.here hx rfl (hb hby at_24) rfl (l' := #[.val (.int p1), .val (.int p2), .val (.int p3), .val (.int p4), .val (.int (p4 &&& (3 : Int32))), .val (.int ((p1 &&& (65535 : Int32)).toUInt32.toUInt16.toUInt32.toInt32)), .val (.int ((p2 &&& (65535 : Int32)).toUInt32.toUInt16.toUInt32.toInt32)), .val (.int ((p3 &&& (65535 : Int32)).toUInt32.toUInt16.toUInt32.toInt32)), .unset, .unset, .unset]) rfl ?_
    exact kz
  obtain ⟨ch0, hch0⟩ : ∃ z, z = ((p1 &&& (65535 : Int32)).toUInt32.toUInt16.toUInt32.toInt32) := ⟨_, rfl⟩
  refine own_go (A := s₁.setTop (mkF m 26 #[.val (.int p1), .val (.int p2), .val (.int p3), .val (.int p4), .val (.int (p4 &&& (3 : Int32))), .val (.int ch0), .val (.int ((p2 &&& (65535 : Int32)).toUInt32.toUInt16.toUInt32.toInt32)), .val (.int ((p3 &&& (65535 : Int32)).toUInt32.toUInt16.toUInt32.toInt32)), .unset, .unset, .unset] [])) (fun _ kz => by rw [hch0] at kz; exact kz) ?_
  have hp0 := own_chr hch0
  obtain ⟨ch1, hch1⟩ : ∃ z, z = ((p2 &&& (65535 : Int32)).toUInt32.toUInt16.toUInt32.toInt32) := ⟨_, rfl⟩
  refine own_go (A := s₁.setTop (mkF m 26 #[.val (.int p1), .val (.int p2), .val (.int p3), .val (.int p4), .val (.int (p4 &&& (3 : Int32))), .val (.int ch0), .val (.int ch1), .val (.int ((p3 &&& (65535 : Int32)).toUInt32.toUInt16.toUInt32.toInt32)), .unset, .unset, .unset] [])) (fun _ kz => by rw [hch1] at kz; exact kz) ?_
  have hp1 := own_chr hch1
  obtain ⟨ch2, hch2⟩ : ∃ z, z = ((p3 &&& (65535 : Int32)).toUInt32.toUInt16.toUInt32.toInt32) := ⟨_, rfl⟩
  refine own_go (A := s₁.setTop (mkF m 26 #[.val (.int p1), .val (.int p2), .val (.int p3), .val (.int p4), .val (.int (p4 &&& (3 : Int32))), .val (.int ch0), .val (.int ch1), .val (.int ch2), .unset, .unset, .unset] [])) (fun _ kz => by rw [hch2] at kz; exact kz) ?_
  have hp2 := own_chr hch2
  obtain ⟨ln, hln⟩ : ∃ z, z = (p4 &&& (3 : Int32)) := ⟨_, rfl⟩
  refine own_go (A := s₁.setTop (mkF m 26 #[.val (.int p1), .val (.int p2), .val (.int p3), .val (.int p4), .val (.int ln), .val (.int ch0), .val (.int ch1), .val (.int ch2), .unset, .unset, .unset] [])) (fun _ kz => by rw [hln] at kz; exact kz) ?_
  rcases own_and3 hln with rfl | rfl | rfl | rfl
  · skip
    refine own_go (A := s₁.setTop (mkF m 34 #[.val (.int p1), .val (.int p2), .val (.int p3), .val (.int p4), .val (.int 0), .val (.int ch0), .val (.int ch1), .val (.int ch2), .unset, .unset, .unset] [(.int ch2), (.int ch1), (.int ch0), (.int 0)])) (fun _ kz => ?_) ?_
    · refine XS.iload X0.here hx rfl (hb hby at_26) rfl ?_
      refine XS.iload X0.here hx rfl (hb hby at_28) rfl ?_
      refine XS.iload X0.here hx rfl (hb hby at_30) rfl ?_
      refine XS.iload X0.here hx rfl (hb hby at_32) rfl ?_
      exact kz
    obtain ⟨_, _, ⟨T1, L1, k1, n1⟩, -, X1, hSq1, -, ⟨Lc1, hQI1, l1, y1, z1⟩, st1⟩ := callSS X0 hx (y := (⟨"dev/parlance/model/MessageAssistantPinLaw", "make", "(ICCC)Ljava/lang/String;"⟩ : MethodName)) hown (mvT hZ (own_w hw 1 rfl)) (mvT hZ (own_w hw 2 rfl)) (mvT hZ (own_w hw 3 rfl)) (mvT hZ (own_w hw 4 rfl)) (by decide) (own_backS (W := 0) (rmMz l Z a0 hw [] ch0 ch1 ch2 h0 n0 Z0 hZh hheld hcw) hZ (own_w hw 4 rfl) (own_w hw 3 rfl) (by decide) (by decide) (fun _ hq => own_In.warm hIn hq)) (g := (mkF m 34 #[.val (.int p1), .val (.int p2), .val (.int p3), .val (.int p4), .val (.int 0), .val (.int ch0), .val (.int ch1), .val (.int ch2), .unset, .unset, .unset] [(.int ch2), (.int ch1), (.int ch0), (.int 0)])) rfl (by rw [hml]; rfl) (argsL := [(.int 0), (.int ch0), (.int ch1), (.int ch2)]) (rest := []) (lenOf own_pd17 rfl) rfl (by show 2 * 0 + _ ≤ _; exact Nat.le_of_eq rfl) (hb hby at_34) (fun _ _ => ⟨rfl, e0, (by decide : 0 + 4 ≤ _), (by decide : 0 + 8 ≤ _)⟩)
    dsimp only [Pt.U, Pt.locs, Pt.cells, Pt.slots] at X1 l1 y1 z1 st1 hQI1
    subst l1 y1 z1
    obtain ⟨hQ1, hInq1⟩ := hQI1
    dsimp only [Pt.U] at hSq1 hInq1
    obtain ⟨c1, rfl, N1q, zc1, K1q, Ex1, St1⟩ := hQ1
    have N1 := Fr.app N0 N1q
    have ne_lst_c1 : lst ≠ c1 := Nat.ne_of_lt (Nat.lt_of_lt_of_le Exl_.lt zc1)
    have ne_el_c1 : el ≠ c1 := Nat.ne_of_lt (Nat.lt_of_lt_of_le Ael.lt zc1)
    have g_c1 : n0 ≤ c1 := Nat.le_trans Z0 zc1
    have szk_c1 : h0.size ≤ c1 := Nat.le_trans Kp0.1 zc1
    replace S_cs := own_staKeep S_cs K1q all0
    replace S_ad := own_staKeep S_ad K1q all0
    replace S_hi := own_staKeep S_hi K1q all0
    replace S_lo := own_staKeep S_lo K1q all0
    replace S_fm := own_staKeep S_fm K1q all0
    replace S_l := own_staKeep S_l K1q all0
    replace S_T := own_staKeep S_T K1q all0
    replace Exl_ := Exl_.keep K1q
    replace Fel := Fel.keep K1q nin0
    replace Ael := Ael.keep K1q nin0
    have Z1 : n0 ≤ T1.heap.size := Nat.le_trans Z0 K1q.1
    have Kp1 : Keep h0 T1.heap [] := Kp0.trans K1q (all0)
    replace hIn := hIn.keep0 K1q
    replace hk := Nat.le_trans hk K1q.1
    replace hS := hS.trans hSq1 hk
    replace hk : T1.heap.size ≤ T1.heap.size := Nat.le_refl _
    replace hZ : Z.Warmed39 (s.setVm T1.vm).vm := State.Warmed39.trans (t := s.setVm s.vm) hZ hSq1.1
    replace hown : (s.setVm T1.vm).vm.findClass "dev/parlance/model/MessageAssistantPinLaw" = some m.cls := by rw [show (s.setVm T1.vm).vm = T1.vm from rfl, hSq1.1.alike.findClass]; exact hown
    replace X1 : Stand p l e room_1 (s.setVm T1.vm) m #[(.int p1), (.int p2), (.int p3), (.int p4)] below meth c T1 _ _ _ := X1
    have hIn := hInq1
    refine own_go (A := T1.setTop (mkF m 37 #[.val (.int p1), .val (.int p2), .val (.int p3), .val (.int p4), .val (.int 0), .val (.int ch0), .val (.int ch1), .val (.int ch2), .unset, .unset, .unset] [(.ref c1)])) (fun _ kz => st1.trans kz) ?_
    refine own_go (A := T1.setTop (mkF m 41 #[.val (.int p1), .val (.int p2), .val (.int p3), .val (.int p4), .val (.int 0), .val (.int ch0), .val (.int ch1), .val (.int ch2), .val (.ref c1), .unset, .unset] [(.ref c1)])) (fun _ kz => ?_) ?_
    · refine XS.astore X1.here hx rfl (hb hby at_37) rfl rfl (l' := #[.val (.int p1), .val (.int p2), .val (.int p3), .val (.int p4), .val (.int 0), .val (.int ch0), .val (.int ch1), .val (.int ch2), .val (.ref c1), .unset, .unset]) rfl ?_
      refine XS.aload X1.here hx rfl (hb hby at_39) rfl rfl ?_
      exact kz
    obtain ⟨_, _, ⟨T2, L2, k2, n2⟩, -, X2, ⟨Lc2, hQ2, l2, y2, z2⟩, st2⟩ := Jvm.LawKit.callS X1 hx (y := (⟨"dev/parlance/model/Message", "assistant", "(Ljava/lang/String;)Ldev/parlance/model/Message;"⟩ : MethodName)) hown (mvT hZ (own_w hw 35 rfl)) (mvT hZ (own_w hw 36 rfl)) (mvT hZ (own_w hw 37 rfl)) (mvT hZ (own_w hw 38 rfl)) (by decide) (backOf (W := 0) (rmTo l Z a0 hw [] c1 kT lst T1.heap n0 Z1 S_T S_l) hZ (own_w hw 38 rfl) (own_w hw 37 rfl) (by decide) (by decide)) (g := (mkF m 41 #[.val (.int p1), .val (.int p2), .val (.int p3), .val (.int p4), .val (.int 0), .val (.int ch0), .val (.int ch1), .val (.int ch2), .val (.ref c1), .unset, .unset] [(.ref c1)])) rfl (by rw [hml]; rfl) (argsL := [(.ref c1)]) (rest := []) (lenOf own_pd18 rfl) rfl (by show 2 * 0 + _ ≤ _; exact Nat.le_of_eq rfl) (hb hby at_41) (fun _ _ => ⟨rfl, rfl, (by decide : 4 + 1 ≤ _), (by decide : 8 + 4 ≤ _)⟩)
    dsimp only [Pt.U, Pt.locs, Pt.cells, Pt.slots] at X2 l2 y2 z2 st2 hQ2
    subst l2 y2 z2
    obtain ⟨c2, rfl, N2q, zc2, K2q, Ex2, Fm02, Fm12, Fm22, Fm32⟩ := hQ2
    have N2 := Fr.app N1 N2q
    have ne_lst_c2 : lst ≠ c2 := Nat.ne_of_lt (Nat.lt_of_lt_of_le Exl_.lt zc2)
    have ne_el_c2 : el ≠ c2 := Nat.ne_of_lt (Nat.lt_of_lt_of_le Ael.lt zc2)
    have ne_c1_c2 : c1 ≠ c2 := Nat.ne_of_lt (Nat.lt_of_lt_of_le Ex1.lt zc2)
    have g_c2 : n0 ≤ c2 := Nat.le_trans Z1 zc2
    have szk_c2 : h0.size ≤ c2 := Nat.le_trans Kp1.1 zc2
    replace S_cs := own_staKeep S_cs K2q all0
    replace S_ad := own_staKeep S_ad K2q all0
    replace S_hi := own_staKeep S_hi K2q all0
    replace S_lo := own_staKeep S_lo K2q all0
    replace S_fm := own_staKeep S_fm K2q all0
    replace S_l := own_staKeep S_l K2q all0
    replace S_T := own_staKeep S_T K2q all0
    replace Exl_ := Exl_.keep K2q
    replace Fel := Fel.keep K2q nin0
    replace Ael := Ael.keep K2q nin0
    replace Ex1 := Ex1.keep K2q
    replace St1 := St1.keep K2q nin0
    have Z2 : n0 ≤ T2.heap.size := Nat.le_trans Z1 K2q.1
    have Kp2 : Keep h0 T2.heap [] := Kp1.trans K2q (all0)
    replace hIn := hIn.keep0 K2q
    replace hk := Nat.le_trans hk K2q.1
    refine own_go (A := T2.setTop (mkF m 44 #[.val (.int p1), .val (.int p2), .val (.int p3), .val (.int p4), .val (.int 0), .val (.int ch0), .val (.int ch1), .val (.int ch2), .val (.ref c1), .unset, .unset] [(.ref c2)])) (fun _ kz => st2 _ kz) ?_
    refine own_go (A := T2.setTop (mkF m 55 #[.val (.int p1), .val (.int p2), .val (.int p3), .val (.int p4), .val (.int 0), .val (.int ch0), .val (.int ch1), .val (.int ch2), .val (.ref c1), .val (.ref c2), .unset] [(.ref c2)])) (fun _ kz => ?_) ?_
    · refine XS.astore X2.here hx rfl (hb hby at_44) rfl rfl (l' := #[.val (.int p1), .val (.int p2), .val (.int p3), .val (.int p4), .val (.int 0), .val (.int ch0), .val (.int ch1), .val (.int ch2), .val (.ref c1), .val (.ref c2), .unset]) rfl ?_
      refine XS.aload X2.here hx rfl (hb hby at_46) rfl rfl ?_
      refine XS.ifnonnullYes X2.here hx rfl (pc0 := 48) (pc' := 53) rfl (hb hby at_48) rfl (by decide) (by decide) ?_
      refine XS.aload X2.here hx rfl (hb hby at_53) rfl rfl ?_
      exact kz
    obtain ⟨cq3, kq3, q3a, q3b, q3c⟩ := isOf hZ rfl Ex2
    obtain ⟨_, _, ⟨T3, L3, k3, n3⟩, -, X3, ⟨Lc3, hQ3, l3, y3, z3⟩, st3⟩ := X2.virtualBack hx (y := (⟨"dev/parlance/model/Message", "role", "()Ldev/parlance/model/Role;"⟩ : MethodName)) (z := (⟨"dev/parlance/model/Message", "role", "()Ldev/parlance/model/Role;"⟩ : MethodName)) hown (mvT hZ (own_w hw 62 rfl)) (mvT hZ (own_w hw 63 rfl)) (notFace_of_selects (args := #[]) (mvT hZ (own_w hw 65 rfl))) (mvT hZ (own_w hw 65 rfl)) (mvT hZ (own_w hw 64 rfl)) (by decide) (backOf (W := 0) (rmG_role l Z a0 hw [] c2 kT T2.heap n0 Z2 Fm02) hZ (own_w hw 66 rfl) (own_w hw 37 rfl) (by decide) (by decide)) q3a q3c (g := (mkF m 55 #[.val (.int p1), .val (.int p2), .val (.int p3), .val (.int p4), .val (.int 0), .val (.int ch0), .val (.int ch1), .val (.int ch2), .val (.ref c1), .val (.ref c2), .unset] [(.ref c2)])) rfl (by rw [hml]; rfl) (Steps.refl _) (argsL := []) (rest := []) (lenOf own_pd19 rfl) rfl (by show 2 * 0 + _ ≤ _; exact Nat.le_of_eq rfl) (hb hby at_55) (fun _ _ => ⟨rfl, rfl, (by decide : 5 + 0 ≤ _), (by decide : 12 + 0 ≤ _)⟩)
    dsimp only [Pt.U, Pt.locs, Pt.cells, Pt.slots] at X3 l3 y3 z3 st3 hQ3
    subst l3 y3 z3
    obtain ⟨rfl, N3q, e3⟩ := hQ3
    have N3 := Fr.app N2 N3q
    refine own_go (A := T3.setTop (mkF m 58 #[.val (.int p1), .val (.int p2), .val (.int p3), .val (.int p4), .val (.int 0), .val (.int ch0), .val (.int ch1), .val (.int ch2), .val (.ref c1), .val (.ref c2), .unset] [(.ref kT)])) (fun _ kz => st3.trans kz) ?_
    obtain ⟨T4, X4, e4, st4⟩ := getS2 X3 hx hZ hown (host := "") (Or.inl (own_w hw 67 rfl)) Via.refl e3 S_T (g := (mkF m 58 #[.val (.int p1), .val (.int p2), .val (.int p3), .val (.int p4), .val (.int 0), .val (.int ch0), .val (.int ch1), .val (.int ch2), .val (.ref c1), .val (.ref c2), .unset] [(.ref kT)])) rfl (hb hby at_58)
    refine own_go (A := T4.setTop (mkF m 61 #[.val (.int p1), .val (.int p2), .val (.int p3), .val (.int p4), .val (.int 0), .val (.int ch0), .val (.int ch1), .val (.int ch2), .val (.ref c1), .val (.ref c2), .unset] [(.ref kT), (.ref kT)])) (fun _ kz => st4 _ kz) ?_
    refine own_go (A := T4.setTop (mkF m 68 #[.val (.int p1), .val (.int p2), .val (.int p3), .val (.int p4), .val (.int 0), .val (.int ch0), .val (.int ch1), .val (.int ch2), .val (.ref c1), .val (.ref c2), .unset] [(.ref c2)])) (fun _ kz => ?_) ?_
    · refine Jvm.RoadKit.acmp (g := (mkF m 61 #[.val (.int p1), .val (.int p2), .val (.int p3), .val (.int p4), .val (.int 0), .val (.int ch0), .val (.int ch1), .val (.int ch2), .val (.ref c1), .val (.ref c2), .unset] [(.ref kT), (.ref kT)])) X4 hx rfl rfl rfl (pc0 := 61) (pc' := 66) (same := true) rfl (hb hby at_61) rfl (decide_eq_true rfl) (by decide) (by decide) ?_
      refine XS.aload X4.here hx rfl (hb hby at_66) rfl rfl ?_
      exact kz
    obtain ⟨cq5, kq5, q5a, q5b, q5c⟩ := isOf hZ e4 Ex2
    obtain ⟨_, _, ⟨T5, L5, k5, n5⟩, -, X5, ⟨Lc5, hQ5, l5, y5, z5⟩, st5⟩ := X4.virtualBack hx (y := (⟨"dev/parlance/model/Message", "content", "()Ljava/lang/String;"⟩ : MethodName)) (z := (⟨"dev/parlance/model/Message", "content", "()Ljava/lang/String;"⟩ : MethodName)) hown (mvT hZ (own_w hw 68 rfl)) (mvT hZ (own_w hw 69 rfl)) (notFace_of_selects (args := #[]) (mvT hZ (own_w hw 71 rfl))) (mvT hZ (own_w hw 71 rfl)) (mvT hZ (own_w hw 70 rfl)) (by decide) (backOf (W := 0) (rmG_content l Z a0 hw [] c2 c1 T2.heap n0 Z2 Fm12) hZ (own_w hw 72 rfl) (own_w hw 37 rfl) (by decide) (by decide)) q5a q5c (g := (mkF m 68 #[.val (.int p1), .val (.int p2), .val (.int p3), .val (.int p4), .val (.int 0), .val (.int ch0), .val (.int ch1), .val (.int ch2), .val (.ref c1), .val (.ref c2), .unset] [(.ref c2)])) rfl (by rw [hml]; rfl) (Steps.refl _) (argsL := []) (rest := []) (lenOf own_pd20 rfl) rfl (by show 2 * 0 + _ ≤ _; exact Nat.le_of_eq rfl) (hb hby at_68) (fun _ _ => ⟨rfl, e4, (by decide : 5 + 0 ≤ _), (by decide : 12 + 0 ≤ _)⟩)
    dsimp only [Pt.U, Pt.locs, Pt.cells, Pt.slots] at X5 l5 y5 z5 st5 hQ5
    subst l5 y5 z5
    obtain ⟨rfl, N5q, e5⟩ := hQ5
    have N5 := Fr.app N3 N5q
    refine own_go (A := T5.setTop (mkF m 71 #[.val (.int p1), .val (.int p2), .val (.int p3), .val (.int p4), .val (.int 0), .val (.int ch0), .val (.int ch1), .val (.int ch2), .val (.ref c1), .val (.ref c2), .unset] [(.ref c1)])) (fun _ kz => st5.trans kz) ?_
    refine own_go (A := T5.setTop (mkF m 80 #[.val (.int p1), .val (.int p2), .val (.int p3), .val (.int p4), .val (.int 0), .val (.int ch0), .val (.int ch1), .val (.int ch2), .val (.ref c1), .val (.ref c2), .val (.ref c1)] [(.ref c1)])) (fun _ kz => ?_) ?_
    · refine XS.astore X5.here hx rfl (hb hby at_71) rfl rfl (l' := #[.val (.int p1), .val (.int p2), .val (.int p3), .val (.int p4), .val (.int 0), .val (.int ch0), .val (.int ch1), .val (.int ch2), .val (.ref c1), .val (.ref c2), .val (.ref c1)]) rfl ?_
      refine XS.aload X5.here hx rfl (hb hby at_73) rfl rfl ?_
      refine XS.ifnullNo X5.here hx rfl (hb hby at_75) rfl ?_
      refine XS.aload X5.here hx rfl (hb hby at_78) rfl rfl ?_
      exact kz
    obtain ⟨cq6, kq6, q6a, q6b, q6c⟩ := isOf hZ e5 Ex1
    obtain ⟨_, _, ⟨T6, L6, k6, n6⟩, -, X6, ⟨Lc6, hQ6, l6, y6, z6⟩, st6⟩ := X5.virtualBack hx (y := (⟨"java/lang/String", "length", "()I"⟩ : MethodName)) (z := (⟨"java/lang/String", "length", "()I"⟩ : MethodName)) hown (mvT hZ (own_w hw 73 rfl)) (mvT hZ (own_w hw 74 rfl)) (notFace_of_selects (args := #[]) (mvT hZ (own_w hw 76 rfl))) (mvT hZ (own_w hw 76 rfl)) (mvT hZ (own_w hw 75 rfl)) (by decide) (backOf (W := 0) (rmLn_0 l Z a0 hw [] c1  cs T2.heap n0 Z2 Ex1 St1 hcs S_cs) hZ (own_w hw 77 rfl) (own_w hw 7 rfl) (by decide) (by decide)) q6a q6c (g := (mkF m 80 #[.val (.int p1), .val (.int p2), .val (.int p3), .val (.int p4), .val (.int 0), .val (.int ch0), .val (.int ch1), .val (.int ch2), .val (.ref c1), .val (.ref c2), .val (.ref c1)] [(.ref c1)])) rfl (by rw [hml]; rfl) (Steps.refl _) (argsL := []) (rest := []) (lenOf own_pd21 rfl) rfl (by show 2 * 0 + _ ≤ _; exact Nat.le_of_eq rfl) (hb hby at_80) (fun _ _ => ⟨rfl, e5, (by decide : 5 + 0 ≤ _), (by decide : 12 + 0 ≤ _)⟩)
    dsimp only [Pt.U, Pt.locs, Pt.cells, Pt.slots] at X6 l6 y6 z6 st6 hQ6
    subst l6 y6 z6
    obtain ⟨rfl, N6q, e6⟩ := hQ6
    have N6 := Fr.app N5 N6q
    refine own_go (A := T6.setTop (mkF m 83 #[.val (.int p1), .val (.int p2), .val (.int p3), .val (.int p4), .val (.int 0), .val (.int ch0), .val (.int ch1), .val (.int ch2), .val (.ref c1), .val (.ref c2), .val (.ref c1)] [(.int 0)])) (fun _ kz => st6.trans kz) ?_
    refine own_go (A := T6.setTop (mkF m 92 #[.val (.int p1), .val (.int p2), .val (.int p3), .val (.int p4), .val (.int 0), .val (.int ch0), .val (.int ch1), .val (.int ch2), .val (.ref c1), .val (.ref c2), .val (.ref c1)] [(.ref c1), (.ref c1)])) (fun _ kz => ?_) ?_
    · refine XS.iload X6.here hx rfl (hb hby at_83) rfl ?_
      refine XS.icmpNo X6.here hx rfl (hb hby at_85) rfl (teq (by decide : ((0 : Int32) = (0 : Int32)))).2 ?_
      refine XS.aload X6.here hx rfl (hb hby at_88) rfl rfl ?_
      refine XS.aload X6.here hx rfl (hb hby at_90) rfl rfl ?_
      exact kz
    obtain ⟨cq7, kq7, q7a, q7b, q7c⟩ := isOf hZ e6 Ex1
    obtain ⟨_, _, ⟨T7, L7, k7, n7⟩, -, X7, ⟨Lc7, hQ7, l7, y7, z7⟩, st7⟩ := X6.virtualBack hx (y := (⟨"java/lang/String", "equals", "(Ljava/lang/Object;)Z"⟩ : MethodName)) (z := (⟨"java/lang/String", "equals", "(Ljava/lang/Object;)Z"⟩ : MethodName)) hown (mvT hZ (own_w hw 83 rfl)) (mvT hZ (own_w hw 84 rfl)) (notFace_of_selects (args := #[]) (mvT hZ (own_w hw 86 rfl))) (mvT hZ (own_w hw 86 rfl)) (mvT hZ (own_w hw 85 rfl)) (by decide) (backOf (W := 0) (rmEq l Z a0 hw [] c1 T2.heap n0 Z2) hZ (own_w hw 87 rfl) (own_w hw 7 rfl) (by decide) (by decide)) q7a q7c (g := (mkF m 92 #[.val (.int p1), .val (.int p2), .val (.int p3), .val (.int p4), .val (.int 0), .val (.int ch0), .val (.int ch1), .val (.int ch2), .val (.ref c1), .val (.ref c2), .val (.ref c1)] [(.ref c1), (.ref c1)])) rfl (by rw [hml]; rfl) (Steps.refl _) (argsL := [(.ref c1)]) (rest := []) (lenOf own_pd22 rfl) rfl (by show 2 * 0 + _ ≤ _; exact Nat.le_of_eq rfl) (hb hby at_92) (fun _ _ => ⟨rfl, e6, (by decide : 5 + 0 ≤ _), (by decide : 12 + 0 ≤ _)⟩)
    dsimp only [Pt.U, Pt.locs, Pt.cells, Pt.slots] at X7 l7 y7 z7 st7 hQ7
    subst l7 y7 z7
    obtain ⟨rfl, N7q, e7⟩ := hQ7
    have N7 := Fr.app N6 N7q
    refine own_go (A := T7.setTop (mkF m 95 #[.val (.int p1), .val (.int p2), .val (.int p3), .val (.int p4), .val (.int 0), .val (.int ch0), .val (.int ch1), .val (.int ch2), .val (.ref c1), .val (.ref c2), .val (.ref c1)] [(.int 1)])) (fun _ kz => st7.trans kz) ?_
    refine own_go (A := T7.setTop (mkF m 159 #[.val (.int p1), .val (.int p2), .val (.int p3), .val (.int p4), .val (.int 0), .val (.int ch0), .val (.int ch1), .val (.int ch2), .val (.ref c1), .val (.ref c2), .val (.ref c1)] [(.ref c2)])) (fun _ kz => ?_) ?_
    · refine XS.ifYes X7.here hx rfl (pc0 := 95) (pc' := 100) rfl (hb hby at_95) rfl ((if0 _ _).trans (feq (by decide : ¬ ((1 : Int32) = (0 : Int32)))).2) (by decide) (by decide) ?_
      refine XS.iload X7.here hx rfl (hb hby at_100) rfl ?_
      refine XS.iconst X7.here hx rfl (hb hby at_102) ?_
      refine XS.icmpYes X7.here hx rfl (pc0 := 103) (pc' := 119) rfl (hb hby at_103) rfl (tlt (by decide : ((0 : Int32) < (1 : Int32)))).1 (by decide) (by decide) ?_
      refine XS.iload X7.here hx rfl (hb hby at_119) rfl ?_
      refine XS.iconst X7.here hx rfl (hb hby at_121) ?_
      refine XS.icmpYes X7.here hx rfl (pc0 := 122) (pc' := 138) rfl (hb hby at_122) rfl (tlt (by decide : ((0 : Int32) < (2 : Int32)))).1 (by decide) (by decide) ?_
      refine XS.iload X7.here hx rfl (hb hby at_138) rfl ?_
      refine XS.iconst X7.here hx rfl (hb hby at_140) ?_
      refine XS.icmpYes X7.here hx rfl (pc0 := 141) (pc' := 157) rfl (hb hby at_141) rfl (tlt (by decide : ((0 : Int32) < (3 : Int32)))).1 (by decide) (by decide) ?_
      refine XS.aload X7.here hx rfl (hb hby at_157) rfl rfl ?_
      exact kz
    obtain ⟨cq8, kq8, q8a, q8b, q8c⟩ := isOf hZ e7 Ex2
    obtain ⟨_, _, ⟨T8, L8, k8, n8⟩, -, X8, ⟨Lc8, hQ8, l8, y8, z8⟩, st8⟩ := X7.virtualBack hx (y := (⟨"dev/parlance/model/Message", "toolCalls", "()Ljava/util/List;"⟩ : MethodName)) (z := (⟨"dev/parlance/model/Message", "toolCalls", "()Ljava/util/List;"⟩ : MethodName)) hown (mvT hZ (own_w hw 110 rfl)) (mvT hZ (own_w hw 111 rfl)) (notFace_of_selects (args := #[]) (mvT hZ (own_w hw 113 rfl))) (mvT hZ (own_w hw 113 rfl)) (mvT hZ (own_w hw 112 rfl)) (by decide) (backOf (W := 0) (rmG_toolCalls l Z a0 hw [] c2 lst T2.heap n0 Z2 Fm22) hZ (own_w hw 114 rfl) (own_w hw 37 rfl) (by decide) (by decide)) q8a q8c (g := (mkF m 159 #[.val (.int p1), .val (.int p2), .val (.int p3), .val (.int p4), .val (.int 0), .val (.int ch0), .val (.int ch1), .val (.int ch2), .val (.ref c1), .val (.ref c2), .val (.ref c1)] [(.ref c2)])) rfl (by rw [hml]; rfl) (Steps.refl _) (argsL := []) (rest := []) (lenOf own_pd15 rfl) rfl (by show 2 * 0 + _ ≤ _; exact Nat.le_of_eq rfl) (hb hby at_159) (fun _ _ => ⟨rfl, e7, (by decide : 5 + 0 ≤ _), (by decide : 12 + 0 ≤ _)⟩)
    dsimp only [Pt.U, Pt.locs, Pt.cells, Pt.slots] at X8 l8 y8 z8 st8 hQ8
    subst l8 y8 z8
    obtain ⟨rfl, N8q, e8⟩ := hQ8
    have N8 := Fr.app N7 N8q
    refine own_go (A := T8.setTop (mkF m 162 #[.val (.int p1), .val (.int p2), .val (.int p3), .val (.int p4), .val (.int 0), .val (.int ch0), .val (.int ch1), .val (.int ch2), .val (.ref c1), .val (.ref c2), .val (.ref c1)] [(.ref lst)])) (fun _ kz => st8.trans kz) ?_
    refine own_go (A := T8.setTop (mkF m 167 #[.val (.int p1), .val (.int p2), .val (.int p3), .val (.int p4), .val (.int 0), .val (.int ch0), .val (.int ch1), .val (.int ch2), .val (.ref c1), .val (.ref c2), .val (.ref c1)] [(.ref c2)])) (fun _ kz => ?_) ?_
    · refine XS.ifnullNo X8.here hx rfl (hb hby at_162) rfl ?_
      refine XS.aload X8.here hx rfl (hb hby at_165) rfl rfl ?_
      exact kz
    obtain ⟨cq9, kq9, q9a, q9b, q9c⟩ := isOf hZ e8 Ex2
    obtain ⟨_, _, ⟨T9, L9, k9, n9⟩, -, X9, ⟨Lc9, hQ9, l9, y9, z9⟩, st9⟩ := X8.virtualBack hx (y := (⟨"dev/parlance/model/Message", "toolCalls", "()Ljava/util/List;"⟩ : MethodName)) (z := (⟨"dev/parlance/model/Message", "toolCalls", "()Ljava/util/List;"⟩ : MethodName)) hown (mvT hZ (own_w hw 110 rfl)) (mvT hZ (own_w hw 111 rfl)) (notFace_of_selects (args := #[]) (mvT hZ (own_w hw 113 rfl))) (mvT hZ (own_w hw 113 rfl)) (mvT hZ (own_w hw 112 rfl)) (by decide) (backOf (W := 0) (rmG_toolCalls l Z a0 hw [] c2 lst T2.heap n0 Z2 Fm22) hZ (own_w hw 114 rfl) (own_w hw 37 rfl) (by decide) (by decide)) q9a q9c (g := (mkF m 167 #[.val (.int p1), .val (.int p2), .val (.int p3), .val (.int p4), .val (.int 0), .val (.int ch0), .val (.int ch1), .val (.int ch2), .val (.ref c1), .val (.ref c2), .val (.ref c1)] [(.ref c2)])) rfl (by rw [hml]; rfl) (Steps.refl _) (argsL := []) (rest := []) (lenOf own_pd15 rfl) rfl (by show 2 * 0 + _ ≤ _; exact Nat.le_of_eq rfl) (hb hby at_167) (fun _ _ => ⟨rfl, e8, (by decide : 5 + 0 ≤ _), (by decide : 12 + 0 ≤ _)⟩)
    dsimp only [Pt.U, Pt.locs, Pt.cells, Pt.slots] at X9 l9 y9 z9 st9 hQ9
    subst l9 y9 z9
    obtain ⟨rfl, N9q, e9⟩ := hQ9
    have N9 := Fr.app N8 N9q
    refine own_go (A := T9.setTop (mkF m 170 #[.val (.int p1), .val (.int p2), .val (.int p3), .val (.int p4), .val (.int 0), .val (.int ch0), .val (.int ch1), .val (.int ch2), .val (.ref c1), .val (.ref c2), .val (.ref c1)] [(.ref lst)])) (fun _ kz => st9.trans kz) ?_
    obtain ⟨cq10, kq10, q10a, q10b, q10c⟩ := isOf hZ e9 Exl_
    obtain ⟨_, _, ⟨T10, L10, k10, n10⟩, -, X10, ⟨Lc10, hQ10, l10, y10, z10⟩, st10⟩ := X9.interfaceBack hx (xi := (⟨"java/util/List", "size", "()I"⟩ : MethodName)) (y := (⟨"java/util/ImmutableCollections$ListN", "size", "()I"⟩ : MethodName)) hown (mvT hZ (own_w hw 115 rfl)) (mvT hZ (own_w hw 116 rfl)) (mvT hZ (own_w hw 117 rfl)) (mvT hZ (own_w hw 118 rfl)) (mvT hZ (own_w hw 119 rfl)) (mvT hZ (own_w hw 120 rfl)) (mvT hZ (own_w hw 121 rfl)) (mvT hZ (own_w hw 122 rfl)) (by decide) (backOf (W := 0) (rmSz l Z a0 hw [] lst el ke T2.heap n0 Z2 Fel Ael) hZ (own_w hw 124 rfl) (own_w hw 123 rfl) (by decide) (by decide)) q10a q10b q10c (g := (mkF m 170 #[.val (.int p1), .val (.int p2), .val (.int p3), .val (.int p4), .val (.int 0), .val (.int ch0), .val (.int ch1), .val (.int ch2), .val (.ref c1), .val (.ref c2), .val (.ref c1)] [(.ref lst)])) rfl (by rw [hml]; rfl) (Steps.refl _) (argsL := []) (rest := []) (lenOf own_pd21 rfl) rfl (by show 2 * 0 + _ ≤ _; exact Nat.le_of_eq rfl) (hb hby at_170) (fun _ _ => ⟨rfl, e9, (by decide : 5 + 0 ≤ _), (by decide : 12 + 0 ≤ _)⟩)
    dsimp only [Pt.U, Pt.locs, Pt.cells, Pt.slots] at X10 l10 y10 z10 st10 hQ10
    subst l10 y10 z10
    obtain ⟨rfl, N10q, e10⟩ := hQ10
    have N10 := Fr.app N9 N10q
    refine own_go (A := T10.setTop (mkF m 175 #[.val (.int p1), .val (.int p2), .val (.int p3), .val (.int p4), .val (.int 0), .val (.int ch0), .val (.int ch1), .val (.int ch2), .val (.ref c1), .val (.ref c2), .val (.ref c1)] [(.int 0)])) (fun _ kz => st10.trans kz) ?_
    refine own_go (A := T10.setTop (mkF m 182 #[.val (.int p1), .val (.int p2), .val (.int p3), .val (.int p4), .val (.int 0), .val (.int ch0), .val (.int ch1), .val (.int ch2), .val (.ref c1), .val (.ref c2), .val (.ref c1)] [(.ref c2)])) (fun _ kz => ?_) ?_
    · refine XS.ifYes X10.here hx rfl (pc0 := 175) (pc' := 180) rfl (hb hby at_175) rfl ((if0 _ _).trans (teq (by decide : ((0 : Int32) = (0 : Int32)))).1) (by decide) (by decide) ?_
      refine XS.aload X10.here hx rfl (hb hby at_180) rfl rfl ?_
      exact kz
    obtain ⟨cq11, kq11, q11a, q11b, q11c⟩ := isOf hZ e10 Ex2
    obtain ⟨_, _, ⟨T11, L11, k11, n11⟩, -, X11, ⟨Lc11, hQ11, l11, y11, z11⟩, st11⟩ := X10.virtualBack hx (y := (⟨"dev/parlance/model/Message", "toolCallId", "()Ljava/lang/String;"⟩ : MethodName)) (z := (⟨"dev/parlance/model/Message", "toolCallId", "()Ljava/lang/String;"⟩ : MethodName)) hown (mvT hZ (own_w hw 127 rfl)) (mvT hZ (own_w hw 128 rfl)) (notFace_of_selects (args := #[]) (mvT hZ (own_w hw 130 rfl))) (mvT hZ (own_w hw 130 rfl)) (mvT hZ (own_w hw 129 rfl)) (by decide) (backOf (W := 0) (rmG_toolCallId l Z a0 hw [] c2  T2.heap n0 Z2 Fm32) hZ (own_w hw 131 rfl) (own_w hw 37 rfl) (by decide) (by decide)) q11a q11c (g := (mkF m 182 #[.val (.int p1), .val (.int p2), .val (.int p3), .val (.int p4), .val (.int 0), .val (.int ch0), .val (.int ch1), .val (.int ch2), .val (.ref c1), .val (.ref c2), .val (.ref c1)] [(.ref c2)])) rfl (by rw [hml]; rfl) (Steps.refl _) (argsL := []) (rest := []) (lenOf own_pd20 rfl) rfl (by show 2 * 0 + _ ≤ _; exact Nat.le_of_eq rfl) (hb hby at_182) (fun _ _ => ⟨rfl, e10, (by decide : 5 + 0 ≤ _), (by decide : 12 + 0 ≤ _)⟩)
    dsimp only [Pt.U, Pt.locs, Pt.cells, Pt.slots] at X11 l11 y11 z11 st11 hQ11
    subst l11 y11 z11
    obtain ⟨rfl, N11q, e11⟩ := hQ11
    have N11 := Fr.app N10 N11q
    refine own_go (A := T11.setTop (mkF m 185 #[.val (.int p1), .val (.int p2), .val (.int p3), .val (.int p4), .val (.int 0), .val (.int ch0), .val (.int ch1), .val (.int ch2), .val (.ref c1), .val (.ref c2), .val (.ref c1)] [.null])) (fun _ kz => st11.trans kz) ?_
    refine own_go (A := T11.setTop (mkF m 193 #[.val (.int p1), .val (.int p2), .val (.int p3), .val (.int p4), .val (.int 0), .val (.int ch0), .val (.int ch1), .val (.int ch2), .val (.ref c1), .val (.ref c2), .val (.ref c1)] [(.int 1)])) (fun _ kz => ?_) ?_
    · refine XS.ifnonnullNo X11.here hx rfl (hb hby at_185) rfl ?_
      refine XS.iconst X11.here hx rfl (hb hby at_188) ?_
      refine XS.goto X11.here hx rfl (pc0 := 189) (pc' := 193) rfl (hb hby at_189) (by decide) (by decide) ?_
      exact kz
    obtain ⟨fs, hrr, hrun, hended, rW1, rW2, rW3, rW4⟩ := X11.leaveW hS (by rw [e11]; exact hk) (v := some (.int 1)) (fun h => by rw [Bd.returns] at h; cases h)
    refine ⟨_, _, ?_, hrun, hended, _, _, rfl, ?_, rW1, rW2, rW3, rW4.mono (by decide) (by decide)⟩
    · show Steps p.tables e below (T11.setTop (mkF m 193 #[.val (.int p1), .val (.int p2), .val (.int p3), .val (.int p4), .val (.int 0), .val (.int ch0), .val (.int ch1), .val (.int ch2), .val (.ref c1), .val (.ref c2), .val (.ref c1)] [(.int 1)])) _
      exact retN X11 hx (t := .boolean) Bd.returns (by simp) (hb hby at_193) hrr
    · show Qrm0 Z  h0 n0 _ T11.heap _
      rw [e11]
      exact ⟨rfl, N11⟩
  · skip
    refine own_go (A := s₁.setTop (mkF m 34 #[.val (.int p1), .val (.int p2), .val (.int p3), .val (.int p4), .val (.int 1), .val (.int ch0), .val (.int ch1), .val (.int ch2), .unset, .unset, .unset] [(.int ch2), (.int ch1), (.int ch0), (.int 1)])) (fun _ kz => ?_) ?_
    · refine XS.iload X0.here hx rfl (hb hby at_26) rfl ?_
      refine XS.iload X0.here hx rfl (hb hby at_28) rfl ?_
      refine XS.iload X0.here hx rfl (hb hby at_30) rfl ?_
      refine XS.iload X0.here hx rfl (hb hby at_32) rfl ?_
      exact kz
    obtain ⟨_, _, ⟨T12, L12, k12, n12⟩, -, X12, ⟨Lc12, hQ12, l12, y12, z12⟩, st12⟩ := Jvm.LawKit.callS X0 hx (y := (⟨"dev/parlance/model/MessageAssistantPinLaw", "make", "(ICCC)Ljava/lang/String;"⟩ : MethodName)) hown (mvT hZ (own_w hw 1 rfl)) (mvT hZ (own_w hw 2 rfl)) (mvT hZ (own_w hw 3 rfl)) (mvT hZ (own_w hw 4 rfl)) (by decide) (backOf (W := 0) (rmMk_1 l Z a0 hw [] ch0 ch1 ch2 cs h0 n0 Z0 hp0 hcs S_cs S_ad S_hi S_lo) hZ (own_w hw 4 rfl) (own_w hw 3 rfl) (by decide) (by decide)) (g := (mkF m 34 #[.val (.int p1), .val (.int p2), .val (.int p3), .val (.int p4), .val (.int 1), .val (.int ch0), .val (.int ch1), .val (.int ch2), .unset, .unset, .unset] [(.int ch2), (.int ch1), (.int ch0), (.int 1)])) rfl (by rw [hml]; rfl) (argsL := [(.int 1), (.int ch0), (.int ch1), (.int ch2)]) (rest := []) (lenOf own_pd17 rfl) rfl (by show 2 * 0 + _ ≤ _; exact Nat.le_of_eq rfl) (hb hby at_34) (fun _ _ => ⟨rfl, e0, (by decide : 0 + 4 ≤ _), (by decide : 0 + 8 ≤ _)⟩)
    dsimp only [Pt.U, Pt.locs, Pt.cells, Pt.slots] at X12 l12 y12 z12 st12 hQ12
    subst l12 y12 z12
    obtain ⟨c12, rfl, N12q, zc12, K12q, Ex12, St12⟩ := hQ12
    have N12 := Fr.app N0 N12q
    have ne_lst_c12 : lst ≠ c12 := Nat.ne_of_lt (Nat.lt_of_lt_of_le Exl_.lt zc12)
    have ne_el_c12 : el ≠ c12 := Nat.ne_of_lt (Nat.lt_of_lt_of_le Ael.lt zc12)
    have g_c12 : n0 ≤ c12 := Nat.le_trans Z0 zc12
    have szk_c12 : h0.size ≤ c12 := Nat.le_trans Kp0.1 zc12
    replace S_cs := own_staKeep S_cs K12q all0
    replace S_ad := own_staKeep S_ad K12q all0
    replace S_hi := own_staKeep S_hi K12q all0
    replace S_lo := own_staKeep S_lo K12q all0
    replace S_fm := own_staKeep S_fm K12q all0
    replace S_l := own_staKeep S_l K12q all0
    replace S_T := own_staKeep S_T K12q all0
    replace Exl_ := Exl_.keep K12q
    replace Fel := Fel.keep K12q nin0
    replace Ael := Ael.keep K12q nin0
    have Z12 : n0 ≤ T12.heap.size := Nat.le_trans Z0 K12q.1
    have Kp12 : Keep h0 T12.heap [] := Kp0.trans K12q (all0)
    replace hIn := hIn.keep0 K12q
    replace hk := Nat.le_trans hk K12q.1
    refine own_go (A := T12.setTop (mkF m 37 #[.val (.int p1), .val (.int p2), .val (.int p3), .val (.int p4), .val (.int 1), .val (.int ch0), .val (.int ch1), .val (.int ch2), .unset, .unset, .unset] [(.ref c12)])) (fun _ kz => st12 _ kz) ?_
    refine own_go (A := T12.setTop (mkF m 41 #[.val (.int p1), .val (.int p2), .val (.int p3), .val (.int p4), .val (.int 1), .val (.int ch0), .val (.int ch1), .val (.int ch2), .val (.ref c12), .unset, .unset] [(.ref c12)])) (fun _ kz => ?_) ?_
    · refine XS.astore X12.here hx rfl (hb hby at_37) rfl rfl (l' := #[.val (.int p1), .val (.int p2), .val (.int p3), .val (.int p4), .val (.int 1), .val (.int ch0), .val (.int ch1), .val (.int ch2), .val (.ref c12), .unset, .unset]) rfl ?_
      refine XS.aload X12.here hx rfl (hb hby at_39) rfl rfl ?_
      exact kz
    obtain ⟨_, _, ⟨T13, L13, k13, n13⟩, -, X13, ⟨Lc13, hQ13, l13, y13, z13⟩, st13⟩ := Jvm.LawKit.callS X12 hx (y := (⟨"dev/parlance/model/Message", "assistant", "(Ljava/lang/String;)Ldev/parlance/model/Message;"⟩ : MethodName)) hown (mvT hZ (own_w hw 35 rfl)) (mvT hZ (own_w hw 36 rfl)) (mvT hZ (own_w hw 37 rfl)) (mvT hZ (own_w hw 38 rfl)) (by decide) (backOf (W := 0) (rmTo l Z a0 hw [] c12 kT lst T12.heap n0 Z12 S_T S_l) hZ (own_w hw 38 rfl) (own_w hw 37 rfl) (by decide) (by decide)) (g := (mkF m 41 #[.val (.int p1), .val (.int p2), .val (.int p3), .val (.int p4), .val (.int 1), .val (.int ch0), .val (.int ch1), .val (.int ch2), .val (.ref c12), .unset, .unset] [(.ref c12)])) rfl (by rw [hml]; rfl) (argsL := [(.ref c12)]) (rest := []) (lenOf own_pd18 rfl) rfl (by show 2 * 0 + _ ≤ _; exact Nat.le_of_eq rfl) (hb hby at_41) (fun _ _ => ⟨rfl, rfl, (by decide : 4 + 1 ≤ _), (by decide : 8 + 4 ≤ _)⟩)
    dsimp only [Pt.U, Pt.locs, Pt.cells, Pt.slots] at X13 l13 y13 z13 st13 hQ13
    subst l13 y13 z13
    obtain ⟨c13, rfl, N13q, zc13, K13q, Ex13, Fm013, Fm113, Fm213, Fm313⟩ := hQ13
    have N13 := Fr.app N12 N13q
    have ne_lst_c13 : lst ≠ c13 := Nat.ne_of_lt (Nat.lt_of_lt_of_le Exl_.lt zc13)
    have ne_el_c13 : el ≠ c13 := Nat.ne_of_lt (Nat.lt_of_lt_of_le Ael.lt zc13)
    have ne_c12_c13 : c12 ≠ c13 := Nat.ne_of_lt (Nat.lt_of_lt_of_le Ex12.lt zc13)
    have g_c13 : n0 ≤ c13 := Nat.le_trans Z12 zc13
    have szk_c13 : h0.size ≤ c13 := Nat.le_trans Kp12.1 zc13
    replace S_cs := own_staKeep S_cs K13q all0
    replace S_ad := own_staKeep S_ad K13q all0
    replace S_hi := own_staKeep S_hi K13q all0
    replace S_lo := own_staKeep S_lo K13q all0
    replace S_fm := own_staKeep S_fm K13q all0
    replace S_l := own_staKeep S_l K13q all0
    replace S_T := own_staKeep S_T K13q all0
    replace Exl_ := Exl_.keep K13q
    replace Fel := Fel.keep K13q nin0
    replace Ael := Ael.keep K13q nin0
    replace Ex12 := Ex12.keep K13q
    replace St12 := St12.keep K13q nin0
    have Z13 : n0 ≤ T13.heap.size := Nat.le_trans Z12 K13q.1
    have Kp13 : Keep h0 T13.heap [] := Kp12.trans K13q (all0)
    replace hIn := hIn.keep0 K13q
    replace hk := Nat.le_trans hk K13q.1
    refine own_go (A := T13.setTop (mkF m 44 #[.val (.int p1), .val (.int p2), .val (.int p3), .val (.int p4), .val (.int 1), .val (.int ch0), .val (.int ch1), .val (.int ch2), .val (.ref c12), .unset, .unset] [(.ref c13)])) (fun _ kz => st13 _ kz) ?_
    refine own_go (A := T13.setTop (mkF m 55 #[.val (.int p1), .val (.int p2), .val (.int p3), .val (.int p4), .val (.int 1), .val (.int ch0), .val (.int ch1), .val (.int ch2), .val (.ref c12), .val (.ref c13), .unset] [(.ref c13)])) (fun _ kz => ?_) ?_
    · refine XS.astore X13.here hx rfl (hb hby at_44) rfl rfl (l' := #[.val (.int p1), .val (.int p2), .val (.int p3), .val (.int p4), .val (.int 1), .val (.int ch0), .val (.int ch1), .val (.int ch2), .val (.ref c12), .val (.ref c13), .unset]) rfl ?_
      refine XS.aload X13.here hx rfl (hb hby at_46) rfl rfl ?_
      refine XS.ifnonnullYes X13.here hx rfl (pc0 := 48) (pc' := 53) rfl (hb hby at_48) rfl (by decide) (by decide) ?_
      refine XS.aload X13.here hx rfl (hb hby at_53) rfl rfl ?_
      exact kz
    obtain ⟨cq14, kq14, q14a, q14b, q14c⟩ := isOf hZ rfl Ex13
    obtain ⟨_, _, ⟨T14, L14, k14, n14⟩, -, X14, ⟨Lc14, hQ14, l14, y14, z14⟩, st14⟩ := X13.virtualBack hx (y := (⟨"dev/parlance/model/Message", "role", "()Ldev/parlance/model/Role;"⟩ : MethodName)) (z := (⟨"dev/parlance/model/Message", "role", "()Ldev/parlance/model/Role;"⟩ : MethodName)) hown (mvT hZ (own_w hw 62 rfl)) (mvT hZ (own_w hw 63 rfl)) (notFace_of_selects (args := #[]) (mvT hZ (own_w hw 65 rfl))) (mvT hZ (own_w hw 65 rfl)) (mvT hZ (own_w hw 64 rfl)) (by decide) (backOf (W := 0) (rmG_role l Z a0 hw [] c13 kT T13.heap n0 Z13 Fm013) hZ (own_w hw 66 rfl) (own_w hw 37 rfl) (by decide) (by decide)) q14a q14c (g := (mkF m 55 #[.val (.int p1), .val (.int p2), .val (.int p3), .val (.int p4), .val (.int 1), .val (.int ch0), .val (.int ch1), .val (.int ch2), .val (.ref c12), .val (.ref c13), .unset] [(.ref c13)])) rfl (by rw [hml]; rfl) (Steps.refl _) (argsL := []) (rest := []) (lenOf own_pd19 rfl) rfl (by show 2 * 0 + _ ≤ _; exact Nat.le_of_eq rfl) (hb hby at_55) (fun _ _ => ⟨rfl, rfl, (by decide : 5 + 0 ≤ _), (by decide : 12 + 0 ≤ _)⟩)
    dsimp only [Pt.U, Pt.locs, Pt.cells, Pt.slots] at X14 l14 y14 z14 st14 hQ14
    subst l14 y14 z14
    obtain ⟨rfl, N14q, e14⟩ := hQ14
    have N14 := Fr.app N13 N14q
    refine own_go (A := T14.setTop (mkF m 58 #[.val (.int p1), .val (.int p2), .val (.int p3), .val (.int p4), .val (.int 1), .val (.int ch0), .val (.int ch1), .val (.int ch2), .val (.ref c12), .val (.ref c13), .unset] [(.ref kT)])) (fun _ kz => st14.trans kz) ?_
    obtain ⟨T15, X15, e15, st15⟩ := getS2 X14 hx hZ hown (host := "") (Or.inl (own_w hw 67 rfl)) Via.refl e14 S_T (g := (mkF m 58 #[.val (.int p1), .val (.int p2), .val (.int p3), .val (.int p4), .val (.int 1), .val (.int ch0), .val (.int ch1), .val (.int ch2), .val (.ref c12), .val (.ref c13), .unset] [(.ref kT)])) rfl (hb hby at_58)
    refine own_go (A := T15.setTop (mkF m 61 #[.val (.int p1), .val (.int p2), .val (.int p3), .val (.int p4), .val (.int 1), .val (.int ch0), .val (.int ch1), .val (.int ch2), .val (.ref c12), .val (.ref c13), .unset] [(.ref kT), (.ref kT)])) (fun _ kz => st15 _ kz) ?_
    refine own_go (A := T15.setTop (mkF m 68 #[.val (.int p1), .val (.int p2), .val (.int p3), .val (.int p4), .val (.int 1), .val (.int ch0), .val (.int ch1), .val (.int ch2), .val (.ref c12), .val (.ref c13), .unset] [(.ref c13)])) (fun _ kz => ?_) ?_
    · refine Jvm.RoadKit.acmp (g := (mkF m 61 #[.val (.int p1), .val (.int p2), .val (.int p3), .val (.int p4), .val (.int 1), .val (.int ch0), .val (.int ch1), .val (.int ch2), .val (.ref c12), .val (.ref c13), .unset] [(.ref kT), (.ref kT)])) X15 hx rfl rfl rfl (pc0 := 61) (pc' := 66) (same := true) rfl (hb hby at_61) rfl (decide_eq_true rfl) (by decide) (by decide) ?_
      refine XS.aload X15.here hx rfl (hb hby at_66) rfl rfl ?_
      exact kz
    obtain ⟨cq16, kq16, q16a, q16b, q16c⟩ := isOf hZ e15 Ex13
    obtain ⟨_, _, ⟨T16, L16, k16, n16⟩, -, X16, ⟨Lc16, hQ16, l16, y16, z16⟩, st16⟩ := X15.virtualBack hx (y := (⟨"dev/parlance/model/Message", "content", "()Ljava/lang/String;"⟩ : MethodName)) (z := (⟨"dev/parlance/model/Message", "content", "()Ljava/lang/String;"⟩ : MethodName)) hown (mvT hZ (own_w hw 68 rfl)) (mvT hZ (own_w hw 69 rfl)) (notFace_of_selects (args := #[]) (mvT hZ (own_w hw 71 rfl))) (mvT hZ (own_w hw 71 rfl)) (mvT hZ (own_w hw 70 rfl)) (by decide) (backOf (W := 0) (rmG_content l Z a0 hw [] c13 c12 T13.heap n0 Z13 Fm113) hZ (own_w hw 72 rfl) (own_w hw 37 rfl) (by decide) (by decide)) q16a q16c (g := (mkF m 68 #[.val (.int p1), .val (.int p2), .val (.int p3), .val (.int p4), .val (.int 1), .val (.int ch0), .val (.int ch1), .val (.int ch2), .val (.ref c12), .val (.ref c13), .unset] [(.ref c13)])) rfl (by rw [hml]; rfl) (Steps.refl _) (argsL := []) (rest := []) (lenOf own_pd20 rfl) rfl (by show 2 * 0 + _ ≤ _; exact Nat.le_of_eq rfl) (hb hby at_68) (fun _ _ => ⟨rfl, e15, (by decide : 5 + 0 ≤ _), (by decide : 12 + 0 ≤ _)⟩)
    dsimp only [Pt.U, Pt.locs, Pt.cells, Pt.slots] at X16 l16 y16 z16 st16 hQ16
    subst l16 y16 z16
    obtain ⟨rfl, N16q, e16⟩ := hQ16
    have N16 := Fr.app N14 N16q
    refine own_go (A := T16.setTop (mkF m 71 #[.val (.int p1), .val (.int p2), .val (.int p3), .val (.int p4), .val (.int 1), .val (.int ch0), .val (.int ch1), .val (.int ch2), .val (.ref c12), .val (.ref c13), .unset] [(.ref c12)])) (fun _ kz => st16.trans kz) ?_
    refine own_go (A := T16.setTop (mkF m 80 #[.val (.int p1), .val (.int p2), .val (.int p3), .val (.int p4), .val (.int 1), .val (.int ch0), .val (.int ch1), .val (.int ch2), .val (.ref c12), .val (.ref c13), .val (.ref c12)] [(.ref c12)])) (fun _ kz => ?_) ?_
    · refine XS.astore X16.here hx rfl (hb hby at_71) rfl rfl (l' := #[.val (.int p1), .val (.int p2), .val (.int p3), .val (.int p4), .val (.int 1), .val (.int ch0), .val (.int ch1), .val (.int ch2), .val (.ref c12), .val (.ref c13), .val (.ref c12)]) rfl ?_
      refine XS.aload X16.here hx rfl (hb hby at_73) rfl rfl ?_
      refine XS.ifnullNo X16.here hx rfl (hb hby at_75) rfl ?_
      refine XS.aload X16.here hx rfl (hb hby at_78) rfl rfl ?_
      exact kz
    obtain ⟨cq17, kq17, q17a, q17b, q17c⟩ := isOf hZ e16 Ex12
    obtain ⟨_, _, ⟨T17, L17, k17, n17⟩, -, X17, ⟨Lc17, hQ17, l17, y17, z17⟩, st17⟩ := X16.virtualBack hx (y := (⟨"java/lang/String", "length", "()I"⟩ : MethodName)) (z := (⟨"java/lang/String", "length", "()I"⟩ : MethodName)) hown (mvT hZ (own_w hw 73 rfl)) (mvT hZ (own_w hw 74 rfl)) (notFace_of_selects (args := #[]) (mvT hZ (own_w hw 76 rfl))) (mvT hZ (own_w hw 76 rfl)) (mvT hZ (own_w hw 75 rfl)) (by decide) (backOf (W := 0) (rmLn_1 l Z a0 hw [] c12 ch0 cs T13.heap n0 Z13 Ex12 St12 hcs S_cs) hZ (own_w hw 77 rfl) (own_w hw 7 rfl) (by decide) (by decide)) q17a q17c (g := (mkF m 80 #[.val (.int p1), .val (.int p2), .val (.int p3), .val (.int p4), .val (.int 1), .val (.int ch0), .val (.int ch1), .val (.int ch2), .val (.ref c12), .val (.ref c13), .val (.ref c12)] [(.ref c12)])) rfl (by rw [hml]; rfl) (Steps.refl _) (argsL := []) (rest := []) (lenOf own_pd21 rfl) rfl (by show 2 * 0 + _ ≤ _; exact Nat.le_of_eq rfl) (hb hby at_80) (fun _ _ => ⟨rfl, e16, (by decide : 5 + 0 ≤ _), (by decide : 12 + 0 ≤ _)⟩)
    dsimp only [Pt.U, Pt.locs, Pt.cells, Pt.slots] at X17 l17 y17 z17 st17 hQ17
    subst l17 y17 z17
    obtain ⟨rfl, N17q, e17⟩ := hQ17
    have N17 := Fr.app N16 N17q
    refine own_go (A := T17.setTop (mkF m 83 #[.val (.int p1), .val (.int p2), .val (.int p3), .val (.int p4), .val (.int 1), .val (.int ch0), .val (.int ch1), .val (.int ch2), .val (.ref c12), .val (.ref c13), .val (.ref c12)] [(.int 1)])) (fun _ kz => st17.trans kz) ?_
    refine own_go (A := T17.setTop (mkF m 92 #[.val (.int p1), .val (.int p2), .val (.int p3), .val (.int p4), .val (.int 1), .val (.int ch0), .val (.int ch1), .val (.int ch2), .val (.ref c12), .val (.ref c13), .val (.ref c12)] [(.ref c12), (.ref c12)])) (fun _ kz => ?_) ?_
    · refine XS.iload X17.here hx rfl (hb hby at_83) rfl ?_
      refine XS.icmpNo X17.here hx rfl (hb hby at_85) rfl (teq (by decide : ((1 : Int32) = (1 : Int32)))).2 ?_
      refine XS.aload X17.here hx rfl (hb hby at_88) rfl rfl ?_
      refine XS.aload X17.here hx rfl (hb hby at_90) rfl rfl ?_
      exact kz
    obtain ⟨cq18, kq18, q18a, q18b, q18c⟩ := isOf hZ e17 Ex12
    obtain ⟨_, _, ⟨T18, L18, k18, n18⟩, -, X18, ⟨Lc18, hQ18, l18, y18, z18⟩, st18⟩ := X17.virtualBack hx (y := (⟨"java/lang/String", "equals", "(Ljava/lang/Object;)Z"⟩ : MethodName)) (z := (⟨"java/lang/String", "equals", "(Ljava/lang/Object;)Z"⟩ : MethodName)) hown (mvT hZ (own_w hw 83 rfl)) (mvT hZ (own_w hw 84 rfl)) (notFace_of_selects (args := #[]) (mvT hZ (own_w hw 86 rfl))) (mvT hZ (own_w hw 86 rfl)) (mvT hZ (own_w hw 85 rfl)) (by decide) (backOf (W := 0) (rmEq l Z a0 hw [] c12 T13.heap n0 Z13) hZ (own_w hw 87 rfl) (own_w hw 7 rfl) (by decide) (by decide)) q18a q18c (g := (mkF m 92 #[.val (.int p1), .val (.int p2), .val (.int p3), .val (.int p4), .val (.int 1), .val (.int ch0), .val (.int ch1), .val (.int ch2), .val (.ref c12), .val (.ref c13), .val (.ref c12)] [(.ref c12), (.ref c12)])) rfl (by rw [hml]; rfl) (Steps.refl _) (argsL := [(.ref c12)]) (rest := []) (lenOf own_pd22 rfl) rfl (by show 2 * 0 + _ ≤ _; exact Nat.le_of_eq rfl) (hb hby at_92) (fun _ _ => ⟨rfl, e17, (by decide : 5 + 0 ≤ _), (by decide : 12 + 0 ≤ _)⟩)
    dsimp only [Pt.U, Pt.locs, Pt.cells, Pt.slots] at X18 l18 y18 z18 st18 hQ18
    subst l18 y18 z18
    obtain ⟨rfl, N18q, e18⟩ := hQ18
    have N18 := Fr.app N17 N18q
    refine own_go (A := T18.setTop (mkF m 95 #[.val (.int p1), .val (.int p2), .val (.int p3), .val (.int p4), .val (.int 1), .val (.int ch0), .val (.int ch1), .val (.int ch2), .val (.ref c12), .val (.ref c13), .val (.ref c12)] [(.int 1)])) (fun _ kz => st18.trans kz) ?_
    refine own_go (A := T18.setTop (mkF m 109 #[.val (.int p1), .val (.int p2), .val (.int p3), .val (.int p4), .val (.int 1), .val (.int ch0), .val (.int ch1), .val (.int ch2), .val (.ref c12), .val (.ref c13), .val (.ref c12)] [(.int 0), (.ref c12)])) (fun _ kz => ?_) ?_
    · refine XS.ifYes X18.here hx rfl (pc0 := 95) (pc' := 100) rfl (hb hby at_95) rfl ((if0 _ _).trans (feq (by decide : ¬ ((1 : Int32) = (0 : Int32)))).2) (by decide) (by decide) ?_
      refine XS.iload X18.here hx rfl (hb hby at_100) rfl ?_
      refine XS.iconst X18.here hx rfl (hb hby at_102) ?_
      refine XS.icmpNo X18.here hx rfl (hb hby at_103) rfl (flt (by decide : ¬ ((1 : Int32) < (1 : Int32)))).1 ?_
      refine XS.aload X18.here hx rfl (hb hby at_106) rfl rfl ?_
      refine XS.iconst X18.here hx rfl (hb hby at_108) ?_
      exact kz
    obtain ⟨cq19, kq19, q19a, q19b, q19c⟩ := isOf hZ e18 Ex12
    obtain ⟨_, _, ⟨T19, L19, k19, n19⟩, -, X19, ⟨Lc19, hQ19, l19, y19, z19⟩, st19⟩ := X18.virtualBack hx (y := (⟨"java/lang/String", "charAt", "(I)C"⟩ : MethodName)) (z := (⟨"java/lang/String", "charAt", "(I)C"⟩ : MethodName)) hown (mvT hZ (own_w hw 88 rfl)) (mvT hZ (own_w hw 89 rfl)) (notFace_of_selects (args := #[]) (mvT hZ (own_w hw 91 rfl))) (mvT hZ (own_w hw 91 rfl)) (mvT hZ (own_w hw 90 rfl)) (by decide) (backOf (W := 0) (rmSC_1_0 l Z a0 hw [] c12 ch0 cs fm T13.heap n0 Z13 Ex12 St12 hcs S_cs hp0 S_fm rfm S_ad S_hi S_lo) hZ (own_w hw 92 rfl) (own_w hw 7 rfl) (by decide) (by decide)) q19a q19c (g := (mkF m 109 #[.val (.int p1), .val (.int p2), .val (.int p3), .val (.int p4), .val (.int 1), .val (.int ch0), .val (.int ch1), .val (.int ch2), .val (.ref c12), .val (.ref c13), .val (.ref c12)] [(.int 0), (.ref c12)])) rfl (by rw [hml]; rfl) (Steps.refl _) (argsL := [(.int 0)]) (rest := []) (lenOf own_pd23 rfl) rfl (by show 2 * 0 + _ ≤ _; exact Nat.le_of_eq rfl) (hb hby at_109) (fun _ _ => ⟨rfl, e18, (by decide : 5 + 0 ≤ _), (by decide : 12 + 0 ≤ _)⟩)
    dsimp only [Pt.U, Pt.locs, Pt.cells, Pt.slots] at X19 l19 y19 z19 st19 hQ19
    subst l19 y19 z19
    obtain ⟨rfl, N19q, e19⟩ := hQ19
    have N19 := Fr.app N18 N19q
    refine own_go (A := T19.setTop (mkF m 112 #[.val (.int p1), .val (.int p2), .val (.int p3), .val (.int p4), .val (.int 1), .val (.int ch0), .val (.int ch1), .val (.int ch2), .val (.ref c12), .val (.ref c13), .val (.ref c12)] [(.int ch0)])) (fun _ kz => st19.trans kz) ?_
    refine own_go (A := T19.setTop (mkF m 159 #[.val (.int p1), .val (.int p2), .val (.int p3), .val (.int p4), .val (.int 1), .val (.int ch0), .val (.int ch1), .val (.int ch2), .val (.ref c12), .val (.ref c13), .val (.ref c12)] [(.ref c13)])) (fun _ kz => ?_) ?_
    · refine XS.iload X19.here hx rfl (hb hby at_112) rfl ?_
      refine XS.icmpYes X19.here hx rfl (pc0 := 114) (pc' := 119) rfl (hb hby at_114) rfl (teq rfl).1 (by decide) (by decide) ?_
      refine XS.iload X19.here hx rfl (hb hby at_119) rfl ?_
      refine XS.iconst X19.here hx rfl (hb hby at_121) ?_
      refine XS.icmpYes X19.here hx rfl (pc0 := 122) (pc' := 138) rfl (hb hby at_122) rfl (tlt (by decide : ((1 : Int32) < (2 : Int32)))).1 (by decide) (by decide) ?_
      refine XS.iload X19.here hx rfl (hb hby at_138) rfl ?_
      refine XS.iconst X19.here hx rfl (hb hby at_140) ?_
      refine XS.icmpYes X19.here hx rfl (pc0 := 141) (pc' := 157) rfl (hb hby at_141) rfl (tlt (by decide : ((1 : Int32) < (3 : Int32)))).1 (by decide) (by decide) ?_
      refine XS.aload X19.here hx rfl (hb hby at_157) rfl rfl ?_
      exact kz
    obtain ⟨cq20, kq20, q20a, q20b, q20c⟩ := isOf hZ e19 Ex13
    obtain ⟨_, _, ⟨T20, L20, k20, n20⟩, -, X20, ⟨Lc20, hQ20, l20, y20, z20⟩, st20⟩ := X19.virtualBack hx (y := (⟨"dev/parlance/model/Message", "toolCalls", "()Ljava/util/List;"⟩ : MethodName)) (z := (⟨"dev/parlance/model/Message", "toolCalls", "()Ljava/util/List;"⟩ : MethodName)) hown (mvT hZ (own_w hw 110 rfl)) (mvT hZ (own_w hw 111 rfl)) (notFace_of_selects (args := #[]) (mvT hZ (own_w hw 113 rfl))) (mvT hZ (own_w hw 113 rfl)) (mvT hZ (own_w hw 112 rfl)) (by decide) (backOf (W := 0) (rmG_toolCalls l Z a0 hw [] c13 lst T13.heap n0 Z13 Fm213) hZ (own_w hw 114 rfl) (own_w hw 37 rfl) (by decide) (by decide)) q20a q20c (g := (mkF m 159 #[.val (.int p1), .val (.int p2), .val (.int p3), .val (.int p4), .val (.int 1), .val (.int ch0), .val (.int ch1), .val (.int ch2), .val (.ref c12), .val (.ref c13), .val (.ref c12)] [(.ref c13)])) rfl (by rw [hml]; rfl) (Steps.refl _) (argsL := []) (rest := []) (lenOf own_pd15 rfl) rfl (by show 2 * 0 + _ ≤ _; exact Nat.le_of_eq rfl) (hb hby at_159) (fun _ _ => ⟨rfl, e19, (by decide : 5 + 0 ≤ _), (by decide : 12 + 0 ≤ _)⟩)
    dsimp only [Pt.U, Pt.locs, Pt.cells, Pt.slots] at X20 l20 y20 z20 st20 hQ20
    subst l20 y20 z20
    obtain ⟨rfl, N20q, e20⟩ := hQ20
    have N20 := Fr.app N19 N20q
    refine own_go (A := T20.setTop (mkF m 162 #[.val (.int p1), .val (.int p2), .val (.int p3), .val (.int p4), .val (.int 1), .val (.int ch0), .val (.int ch1), .val (.int ch2), .val (.ref c12), .val (.ref c13), .val (.ref c12)] [(.ref lst)])) (fun _ kz => st20.trans kz) ?_
    refine own_go (A := T20.setTop (mkF m 167 #[.val (.int p1), .val (.int p2), .val (.int p3), .val (.int p4), .val (.int 1), .val (.int ch0), .val (.int ch1), .val (.int ch2), .val (.ref c12), .val (.ref c13), .val (.ref c12)] [(.ref c13)])) (fun _ kz => ?_) ?_
    · refine XS.ifnullNo X20.here hx rfl (hb hby at_162) rfl ?_
      refine XS.aload X20.here hx rfl (hb hby at_165) rfl rfl ?_
      exact kz
    obtain ⟨cq21, kq21, q21a, q21b, q21c⟩ := isOf hZ e20 Ex13
    obtain ⟨_, _, ⟨T21, L21, k21, n21⟩, -, X21, ⟨Lc21, hQ21, l21, y21, z21⟩, st21⟩ := X20.virtualBack hx (y := (⟨"dev/parlance/model/Message", "toolCalls", "()Ljava/util/List;"⟩ : MethodName)) (z := (⟨"dev/parlance/model/Message", "toolCalls", "()Ljava/util/List;"⟩ : MethodName)) hown (mvT hZ (own_w hw 110 rfl)) (mvT hZ (own_w hw 111 rfl)) (notFace_of_selects (args := #[]) (mvT hZ (own_w hw 113 rfl))) (mvT hZ (own_w hw 113 rfl)) (mvT hZ (own_w hw 112 rfl)) (by decide) (backOf (W := 0) (rmG_toolCalls l Z a0 hw [] c13 lst T13.heap n0 Z13 Fm213) hZ (own_w hw 114 rfl) (own_w hw 37 rfl) (by decide) (by decide)) q21a q21c (g := (mkF m 167 #[.val (.int p1), .val (.int p2), .val (.int p3), .val (.int p4), .val (.int 1), .val (.int ch0), .val (.int ch1), .val (.int ch2), .val (.ref c12), .val (.ref c13), .val (.ref c12)] [(.ref c13)])) rfl (by rw [hml]; rfl) (Steps.refl _) (argsL := []) (rest := []) (lenOf own_pd15 rfl) rfl (by show 2 * 0 + _ ≤ _; exact Nat.le_of_eq rfl) (hb hby at_167) (fun _ _ => ⟨rfl, e20, (by decide : 5 + 0 ≤ _), (by decide : 12 + 0 ≤ _)⟩)
    dsimp only [Pt.U, Pt.locs, Pt.cells, Pt.slots] at X21 l21 y21 z21 st21 hQ21
    subst l21 y21 z21
    obtain ⟨rfl, N21q, e21⟩ := hQ21
    have N21 := Fr.app N20 N21q
    refine own_go (A := T21.setTop (mkF m 170 #[.val (.int p1), .val (.int p2), .val (.int p3), .val (.int p4), .val (.int 1), .val (.int ch0), .val (.int ch1), .val (.int ch2), .val (.ref c12), .val (.ref c13), .val (.ref c12)] [(.ref lst)])) (fun _ kz => st21.trans kz) ?_
    obtain ⟨cq22, kq22, q22a, q22b, q22c⟩ := isOf hZ e21 Exl_
    obtain ⟨_, _, ⟨T22, L22, k22, n22⟩, -, X22, ⟨Lc22, hQ22, l22, y22, z22⟩, st22⟩ := X21.interfaceBack hx (xi := (⟨"java/util/List", "size", "()I"⟩ : MethodName)) (y := (⟨"java/util/ImmutableCollections$ListN", "size", "()I"⟩ : MethodName)) hown (mvT hZ (own_w hw 115 rfl)) (mvT hZ (own_w hw 116 rfl)) (mvT hZ (own_w hw 117 rfl)) (mvT hZ (own_w hw 118 rfl)) (mvT hZ (own_w hw 119 rfl)) (mvT hZ (own_w hw 120 rfl)) (mvT hZ (own_w hw 121 rfl)) (mvT hZ (own_w hw 122 rfl)) (by decide) (backOf (W := 0) (rmSz l Z a0 hw [] lst el ke T13.heap n0 Z13 Fel Ael) hZ (own_w hw 124 rfl) (own_w hw 123 rfl) (by decide) (by decide)) q22a q22b q22c (g := (mkF m 170 #[.val (.int p1), .val (.int p2), .val (.int p3), .val (.int p4), .val (.int 1), .val (.int ch0), .val (.int ch1), .val (.int ch2), .val (.ref c12), .val (.ref c13), .val (.ref c12)] [(.ref lst)])) rfl (by rw [hml]; rfl) (Steps.refl _) (argsL := []) (rest := []) (lenOf own_pd21 rfl) rfl (by show 2 * 0 + _ ≤ _; exact Nat.le_of_eq rfl) (hb hby at_170) (fun _ _ => ⟨rfl, e21, (by decide : 5 + 0 ≤ _), (by decide : 12 + 0 ≤ _)⟩)
    dsimp only [Pt.U, Pt.locs, Pt.cells, Pt.slots] at X22 l22 y22 z22 st22 hQ22
    subst l22 y22 z22
    obtain ⟨rfl, N22q, e22⟩ := hQ22
    have N22 := Fr.app N21 N22q
    refine own_go (A := T22.setTop (mkF m 175 #[.val (.int p1), .val (.int p2), .val (.int p3), .val (.int p4), .val (.int 1), .val (.int ch0), .val (.int ch1), .val (.int ch2), .val (.ref c12), .val (.ref c13), .val (.ref c12)] [(.int 0)])) (fun _ kz => st22.trans kz) ?_
    refine own_go (A := T22.setTop (mkF m 182 #[.val (.int p1), .val (.int p2), .val (.int p3), .val (.int p4), .val (.int 1), .val (.int ch0), .val (.int ch1), .val (.int ch2), .val (.ref c12), .val (.ref c13), .val (.ref c12)] [(.ref c13)])) (fun _ kz => ?_) ?_
    · refine XS.ifYes X22.here hx rfl (pc0 := 175) (pc' := 180) rfl (hb hby at_175) rfl ((if0 _ _).trans (teq (by decide : ((0 : Int32) = (0 : Int32)))).1) (by decide) (by decide) ?_
      refine XS.aload X22.here hx rfl (hb hby at_180) rfl rfl ?_
      exact kz
    obtain ⟨cq23, kq23, q23a, q23b, q23c⟩ := isOf hZ e22 Ex13
    obtain ⟨_, _, ⟨T23, L23, k23, n23⟩, -, X23, ⟨Lc23, hQ23, l23, y23, z23⟩, st23⟩ := X22.virtualBack hx (y := (⟨"dev/parlance/model/Message", "toolCallId", "()Ljava/lang/String;"⟩ : MethodName)) (z := (⟨"dev/parlance/model/Message", "toolCallId", "()Ljava/lang/String;"⟩ : MethodName)) hown (mvT hZ (own_w hw 127 rfl)) (mvT hZ (own_w hw 128 rfl)) (notFace_of_selects (args := #[]) (mvT hZ (own_w hw 130 rfl))) (mvT hZ (own_w hw 130 rfl)) (mvT hZ (own_w hw 129 rfl)) (by decide) (backOf (W := 0) (rmG_toolCallId l Z a0 hw [] c13  T13.heap n0 Z13 Fm313) hZ (own_w hw 131 rfl) (own_w hw 37 rfl) (by decide) (by decide)) q23a q23c (g := (mkF m 182 #[.val (.int p1), .val (.int p2), .val (.int p3), .val (.int p4), .val (.int 1), .val (.int ch0), .val (.int ch1), .val (.int ch2), .val (.ref c12), .val (.ref c13), .val (.ref c12)] [(.ref c13)])) rfl (by rw [hml]; rfl) (Steps.refl _) (argsL := []) (rest := []) (lenOf own_pd20 rfl) rfl (by show 2 * 0 + _ ≤ _; exact Nat.le_of_eq rfl) (hb hby at_182) (fun _ _ => ⟨rfl, e22, (by decide : 5 + 0 ≤ _), (by decide : 12 + 0 ≤ _)⟩)
    dsimp only [Pt.U, Pt.locs, Pt.cells, Pt.slots] at X23 l23 y23 z23 st23 hQ23
    subst l23 y23 z23
    obtain ⟨rfl, N23q, e23⟩ := hQ23
    have N23 := Fr.app N22 N23q
    refine own_go (A := T23.setTop (mkF m 185 #[.val (.int p1), .val (.int p2), .val (.int p3), .val (.int p4), .val (.int 1), .val (.int ch0), .val (.int ch1), .val (.int ch2), .val (.ref c12), .val (.ref c13), .val (.ref c12)] [.null])) (fun _ kz => st23.trans kz) ?_
    refine own_go (A := T23.setTop (mkF m 193 #[.val (.int p1), .val (.int p2), .val (.int p3), .val (.int p4), .val (.int 1), .val (.int ch0), .val (.int ch1), .val (.int ch2), .val (.ref c12), .val (.ref c13), .val (.ref c12)] [(.int 1)])) (fun _ kz => ?_) ?_
    · refine XS.ifnonnullNo X23.here hx rfl (hb hby at_185) rfl ?_
      refine XS.iconst X23.here hx rfl (hb hby at_188) ?_
      refine XS.goto X23.here hx rfl (pc0 := 189) (pc' := 193) rfl (hb hby at_189) (by decide) (by decide) ?_
      exact kz
    obtain ⟨fs, hrr, hrun, hended, rW1, rW2, rW3, rW4⟩ := X23.leaveW hS (by rw [e23]; exact hk) (v := some (.int 1)) (fun h => by rw [Bd.returns] at h; cases h)
    refine ⟨_, _, ?_, hrun, hended, _, _, rfl, ?_, rW1, rW2, rW3, rW4.mono (by decide) (by decide)⟩
    · show Steps p.tables e below (T23.setTop (mkF m 193 #[.val (.int p1), .val (.int p2), .val (.int p3), .val (.int p4), .val (.int 1), .val (.int ch0), .val (.int ch1), .val (.int ch2), .val (.ref c12), .val (.ref c13), .val (.ref c12)] [(.int 1)])) _
      exact retN X23 hx (t := .boolean) Bd.returns (by simp) (hb hby at_193) hrr
    · show Qrm0 Z  h0 n0 _ T23.heap _
      rw [e23]
      exact ⟨rfl, N23⟩
  · skip
    refine own_go (A := s₁.setTop (mkF m 34 #[.val (.int p1), .val (.int p2), .val (.int p3), .val (.int p4), .val (.int 2), .val (.int ch0), .val (.int ch1), .val (.int ch2), .unset, .unset, .unset] [(.int ch2), (.int ch1), (.int ch0), (.int 2)])) (fun _ kz => ?_) ?_
    · refine XS.iload X0.here hx rfl (hb hby at_26) rfl ?_
      refine XS.iload X0.here hx rfl (hb hby at_28) rfl ?_
      refine XS.iload X0.here hx rfl (hb hby at_30) rfl ?_
      refine XS.iload X0.here hx rfl (hb hby at_32) rfl ?_
      exact kz
    obtain ⟨_, _, ⟨T24, L24, k24, n24⟩, -, X24, ⟨Lc24, hQ24, l24, y24, z24⟩, st24⟩ := Jvm.LawKit.callS X0 hx (y := (⟨"dev/parlance/model/MessageAssistantPinLaw", "make", "(ICCC)Ljava/lang/String;"⟩ : MethodName)) hown (mvT hZ (own_w hw 1 rfl)) (mvT hZ (own_w hw 2 rfl)) (mvT hZ (own_w hw 3 rfl)) (mvT hZ (own_w hw 4 rfl)) (by decide) (backOf (W := 0) (rmMk_2 l Z a0 hw [] ch0 ch1 ch2 cs h0 n0 Z0 hp0 hp1 hcs S_cs S_ad S_hi S_lo) hZ (own_w hw 4 rfl) (own_w hw 3 rfl) (by decide) (by decide)) (g := (mkF m 34 #[.val (.int p1), .val (.int p2), .val (.int p3), .val (.int p4), .val (.int 2), .val (.int ch0), .val (.int ch1), .val (.int ch2), .unset, .unset, .unset] [(.int ch2), (.int ch1), (.int ch0), (.int 2)])) rfl (by rw [hml]; rfl) (argsL := [(.int 2), (.int ch0), (.int ch1), (.int ch2)]) (rest := []) (lenOf own_pd17 rfl) rfl (by show 2 * 0 + _ ≤ _; exact Nat.le_of_eq rfl) (hb hby at_34) (fun _ _ => ⟨rfl, e0, (by decide : 0 + 4 ≤ _), (by decide : 0 + 12 ≤ _)⟩)
    dsimp only [Pt.U, Pt.locs, Pt.cells, Pt.slots] at X24 l24 y24 z24 st24 hQ24
    subst l24 y24 z24
    obtain ⟨c24, rfl, N24q, zc24, K24q, Ex24, St24⟩ := hQ24
    have N24 := Fr.app N0 N24q
    have ne_lst_c24 : lst ≠ c24 := Nat.ne_of_lt (Nat.lt_of_lt_of_le Exl_.lt zc24)
    have ne_el_c24 : el ≠ c24 := Nat.ne_of_lt (Nat.lt_of_lt_of_le Ael.lt zc24)
    have g_c24 : n0 ≤ c24 := Nat.le_trans Z0 zc24
    have szk_c24 : h0.size ≤ c24 := Nat.le_trans Kp0.1 zc24
    replace S_cs := own_staKeep S_cs K24q all0
    replace S_ad := own_staKeep S_ad K24q all0
    replace S_hi := own_staKeep S_hi K24q all0
    replace S_lo := own_staKeep S_lo K24q all0
    replace S_fm := own_staKeep S_fm K24q all0
    replace S_l := own_staKeep S_l K24q all0
    replace S_T := own_staKeep S_T K24q all0
    replace Exl_ := Exl_.keep K24q
    replace Fel := Fel.keep K24q nin0
    replace Ael := Ael.keep K24q nin0
    have Z24 : n0 ≤ T24.heap.size := Nat.le_trans Z0 K24q.1
    have Kp24 : Keep h0 T24.heap [] := Kp0.trans K24q (all0)
    replace hIn := hIn.keep0 K24q
    replace hk := Nat.le_trans hk K24q.1
    refine own_go (A := T24.setTop (mkF m 37 #[.val (.int p1), .val (.int p2), .val (.int p3), .val (.int p4), .val (.int 2), .val (.int ch0), .val (.int ch1), .val (.int ch2), .unset, .unset, .unset] [(.ref c24)])) (fun _ kz => st24 _ kz) ?_
    refine own_go (A := T24.setTop (mkF m 41 #[.val (.int p1), .val (.int p2), .val (.int p3), .val (.int p4), .val (.int 2), .val (.int ch0), .val (.int ch1), .val (.int ch2), .val (.ref c24), .unset, .unset] [(.ref c24)])) (fun _ kz => ?_) ?_
    · refine XS.astore X24.here hx rfl (hb hby at_37) rfl rfl (l' := #[.val (.int p1), .val (.int p2), .val (.int p3), .val (.int p4), .val (.int 2), .val (.int ch0), .val (.int ch1), .val (.int ch2), .val (.ref c24), .unset, .unset]) rfl ?_
      refine XS.aload X24.here hx rfl (hb hby at_39) rfl rfl ?_
      exact kz
    obtain ⟨_, _, ⟨T25, L25, k25, n25⟩, -, X25, ⟨Lc25, hQ25, l25, y25, z25⟩, st25⟩ := Jvm.LawKit.callS X24 hx (y := (⟨"dev/parlance/model/Message", "assistant", "(Ljava/lang/String;)Ldev/parlance/model/Message;"⟩ : MethodName)) hown (mvT hZ (own_w hw 35 rfl)) (mvT hZ (own_w hw 36 rfl)) (mvT hZ (own_w hw 37 rfl)) (mvT hZ (own_w hw 38 rfl)) (by decide) (backOf (W := 0) (rmTo l Z a0 hw [] c24 kT lst T24.heap n0 Z24 S_T S_l) hZ (own_w hw 38 rfl) (own_w hw 37 rfl) (by decide) (by decide)) (g := (mkF m 41 #[.val (.int p1), .val (.int p2), .val (.int p3), .val (.int p4), .val (.int 2), .val (.int ch0), .val (.int ch1), .val (.int ch2), .val (.ref c24), .unset, .unset] [(.ref c24)])) rfl (by rw [hml]; rfl) (argsL := [(.ref c24)]) (rest := []) (lenOf own_pd18 rfl) rfl (by show 2 * 0 + _ ≤ _; exact Nat.le_of_eq rfl) (hb hby at_41) (fun _ _ => ⟨rfl, rfl, (by decide : 4 + 1 ≤ _), (by decide : 12 + 4 ≤ _)⟩)
    dsimp only [Pt.U, Pt.locs, Pt.cells, Pt.slots] at X25 l25 y25 z25 st25 hQ25
    subst l25 y25 z25
    obtain ⟨c25, rfl, N25q, zc25, K25q, Ex25, Fm025, Fm125, Fm225, Fm325⟩ := hQ25
    have N25 := Fr.app N24 N25q
    have ne_lst_c25 : lst ≠ c25 := Nat.ne_of_lt (Nat.lt_of_lt_of_le Exl_.lt zc25)
    have ne_el_c25 : el ≠ c25 := Nat.ne_of_lt (Nat.lt_of_lt_of_le Ael.lt zc25)
    have ne_c24_c25 : c24 ≠ c25 := Nat.ne_of_lt (Nat.lt_of_lt_of_le Ex24.lt zc25)
    have g_c25 : n0 ≤ c25 := Nat.le_trans Z24 zc25
    have szk_c25 : h0.size ≤ c25 := Nat.le_trans Kp24.1 zc25
    replace S_cs := own_staKeep S_cs K25q all0
    replace S_ad := own_staKeep S_ad K25q all0
    replace S_hi := own_staKeep S_hi K25q all0
    replace S_lo := own_staKeep S_lo K25q all0
    replace S_fm := own_staKeep S_fm K25q all0
    replace S_l := own_staKeep S_l K25q all0
    replace S_T := own_staKeep S_T K25q all0
    replace Exl_ := Exl_.keep K25q
    replace Fel := Fel.keep K25q nin0
    replace Ael := Ael.keep K25q nin0
    replace Ex24 := Ex24.keep K25q
    replace St24 := St24.keep K25q nin0
    have Z25 : n0 ≤ T25.heap.size := Nat.le_trans Z24 K25q.1
    have Kp25 : Keep h0 T25.heap [] := Kp24.trans K25q (all0)
    replace hIn := hIn.keep0 K25q
    replace hk := Nat.le_trans hk K25q.1
    refine own_go (A := T25.setTop (mkF m 44 #[.val (.int p1), .val (.int p2), .val (.int p3), .val (.int p4), .val (.int 2), .val (.int ch0), .val (.int ch1), .val (.int ch2), .val (.ref c24), .unset, .unset] [(.ref c25)])) (fun _ kz => st25 _ kz) ?_
    refine own_go (A := T25.setTop (mkF m 55 #[.val (.int p1), .val (.int p2), .val (.int p3), .val (.int p4), .val (.int 2), .val (.int ch0), .val (.int ch1), .val (.int ch2), .val (.ref c24), .val (.ref c25), .unset] [(.ref c25)])) (fun _ kz => ?_) ?_
    · refine XS.astore X25.here hx rfl (hb hby at_44) rfl rfl (l' := #[.val (.int p1), .val (.int p2), .val (.int p3), .val (.int p4), .val (.int 2), .val (.int ch0), .val (.int ch1), .val (.int ch2), .val (.ref c24), .val (.ref c25), .unset]) rfl ?_
      refine XS.aload X25.here hx rfl (hb hby at_46) rfl rfl ?_
      refine XS.ifnonnullYes X25.here hx rfl (pc0 := 48) (pc' := 53) rfl (hb hby at_48) rfl (by decide) (by decide) ?_
      refine XS.aload X25.here hx rfl (hb hby at_53) rfl rfl ?_
      exact kz
    obtain ⟨cq26, kq26, q26a, q26b, q26c⟩ := isOf hZ rfl Ex25
    obtain ⟨_, _, ⟨T26, L26, k26, n26⟩, -, X26, ⟨Lc26, hQ26, l26, y26, z26⟩, st26⟩ := X25.virtualBack hx (y := (⟨"dev/parlance/model/Message", "role", "()Ldev/parlance/model/Role;"⟩ : MethodName)) (z := (⟨"dev/parlance/model/Message", "role", "()Ldev/parlance/model/Role;"⟩ : MethodName)) hown (mvT hZ (own_w hw 62 rfl)) (mvT hZ (own_w hw 63 rfl)) (notFace_of_selects (args := #[]) (mvT hZ (own_w hw 65 rfl))) (mvT hZ (own_w hw 65 rfl)) (mvT hZ (own_w hw 64 rfl)) (by decide) (backOf (W := 0) (rmG_role l Z a0 hw [] c25 kT T25.heap n0 Z25 Fm025) hZ (own_w hw 66 rfl) (own_w hw 37 rfl) (by decide) (by decide)) q26a q26c (g := (mkF m 55 #[.val (.int p1), .val (.int p2), .val (.int p3), .val (.int p4), .val (.int 2), .val (.int ch0), .val (.int ch1), .val (.int ch2), .val (.ref c24), .val (.ref c25), .unset] [(.ref c25)])) rfl (by rw [hml]; rfl) (Steps.refl _) (argsL := []) (rest := []) (lenOf own_pd19 rfl) rfl (by show 2 * 0 + _ ≤ _; exact Nat.le_of_eq rfl) (hb hby at_55) (fun _ _ => ⟨rfl, rfl, (by decide : 5 + 0 ≤ _), (by decide : 16 + 0 ≤ _)⟩)
    dsimp only [Pt.U, Pt.locs, Pt.cells, Pt.slots] at X26 l26 y26 z26 st26 hQ26
    subst l26 y26 z26
    obtain ⟨rfl, N26q, e26⟩ := hQ26
    have N26 := Fr.app N25 N26q
    refine own_go (A := T26.setTop (mkF m 58 #[.val (.int p1), .val (.int p2), .val (.int p3), .val (.int p4), .val (.int 2), .val (.int ch0), .val (.int ch1), .val (.int ch2), .val (.ref c24), .val (.ref c25), .unset] [(.ref kT)])) (fun _ kz => st26.trans kz) ?_
    obtain ⟨T27, X27, e27, st27⟩ := getS2 X26 hx hZ hown (host := "") (Or.inl (own_w hw 67 rfl)) Via.refl e26 S_T (g := (mkF m 58 #[.val (.int p1), .val (.int p2), .val (.int p3), .val (.int p4), .val (.int 2), .val (.int ch0), .val (.int ch1), .val (.int ch2), .val (.ref c24), .val (.ref c25), .unset] [(.ref kT)])) rfl (hb hby at_58)
    refine own_go (A := T27.setTop (mkF m 61 #[.val (.int p1), .val (.int p2), .val (.int p3), .val (.int p4), .val (.int 2), .val (.int ch0), .val (.int ch1), .val (.int ch2), .val (.ref c24), .val (.ref c25), .unset] [(.ref kT), (.ref kT)])) (fun _ kz => st27 _ kz) ?_
    refine own_go (A := T27.setTop (mkF m 68 #[.val (.int p1), .val (.int p2), .val (.int p3), .val (.int p4), .val (.int 2), .val (.int ch0), .val (.int ch1), .val (.int ch2), .val (.ref c24), .val (.ref c25), .unset] [(.ref c25)])) (fun _ kz => ?_) ?_
    · refine Jvm.RoadKit.acmp (g := (mkF m 61 #[.val (.int p1), .val (.int p2), .val (.int p3), .val (.int p4), .val (.int 2), .val (.int ch0), .val (.int ch1), .val (.int ch2), .val (.ref c24), .val (.ref c25), .unset] [(.ref kT), (.ref kT)])) X27 hx rfl rfl rfl (pc0 := 61) (pc' := 66) (same := true) rfl (hb hby at_61) rfl (decide_eq_true rfl) (by decide) (by decide) ?_
      refine XS.aload X27.here hx rfl (hb hby at_66) rfl rfl ?_
      exact kz
    obtain ⟨cq28, kq28, q28a, q28b, q28c⟩ := isOf hZ e27 Ex25
    obtain ⟨_, _, ⟨T28, L28, k28, n28⟩, -, X28, ⟨Lc28, hQ28, l28, y28, z28⟩, st28⟩ := X27.virtualBack hx (y := (⟨"dev/parlance/model/Message", "content", "()Ljava/lang/String;"⟩ : MethodName)) (z := (⟨"dev/parlance/model/Message", "content", "()Ljava/lang/String;"⟩ : MethodName)) hown (mvT hZ (own_w hw 68 rfl)) (mvT hZ (own_w hw 69 rfl)) (notFace_of_selects (args := #[]) (mvT hZ (own_w hw 71 rfl))) (mvT hZ (own_w hw 71 rfl)) (mvT hZ (own_w hw 70 rfl)) (by decide) (backOf (W := 0) (rmG_content l Z a0 hw [] c25 c24 T25.heap n0 Z25 Fm125) hZ (own_w hw 72 rfl) (own_w hw 37 rfl) (by decide) (by decide)) q28a q28c (g := (mkF m 68 #[.val (.int p1), .val (.int p2), .val (.int p3), .val (.int p4), .val (.int 2), .val (.int ch0), .val (.int ch1), .val (.int ch2), .val (.ref c24), .val (.ref c25), .unset] [(.ref c25)])) rfl (by rw [hml]; rfl) (Steps.refl _) (argsL := []) (rest := []) (lenOf own_pd20 rfl) rfl (by show 2 * 0 + _ ≤ _; exact Nat.le_of_eq rfl) (hb hby at_68) (fun _ _ => ⟨rfl, e27, (by decide : 5 + 0 ≤ _), (by decide : 16 + 0 ≤ _)⟩)
    dsimp only [Pt.U, Pt.locs, Pt.cells, Pt.slots] at X28 l28 y28 z28 st28 hQ28
    subst l28 y28 z28
    obtain ⟨rfl, N28q, e28⟩ := hQ28
    have N28 := Fr.app N26 N28q
    refine own_go (A := T28.setTop (mkF m 71 #[.val (.int p1), .val (.int p2), .val (.int p3), .val (.int p4), .val (.int 2), .val (.int ch0), .val (.int ch1), .val (.int ch2), .val (.ref c24), .val (.ref c25), .unset] [(.ref c24)])) (fun _ kz => st28.trans kz) ?_
    refine own_go (A := T28.setTop (mkF m 80 #[.val (.int p1), .val (.int p2), .val (.int p3), .val (.int p4), .val (.int 2), .val (.int ch0), .val (.int ch1), .val (.int ch2), .val (.ref c24), .val (.ref c25), .val (.ref c24)] [(.ref c24)])) (fun _ kz => ?_) ?_
    · refine XS.astore X28.here hx rfl (hb hby at_71) rfl rfl (l' := #[.val (.int p1), .val (.int p2), .val (.int p3), .val (.int p4), .val (.int 2), .val (.int ch0), .val (.int ch1), .val (.int ch2), .val (.ref c24), .val (.ref c25), .val (.ref c24)]) rfl ?_
      refine XS.aload X28.here hx rfl (hb hby at_73) rfl rfl ?_
      refine XS.ifnullNo X28.here hx rfl (hb hby at_75) rfl ?_
      refine XS.aload X28.here hx rfl (hb hby at_78) rfl rfl ?_
      exact kz
    obtain ⟨cq29, kq29, q29a, q29b, q29c⟩ := isOf hZ e28 Ex24
    obtain ⟨_, _, ⟨T29, L29, k29, n29⟩, -, X29, ⟨Lc29, hQ29, l29, y29, z29⟩, st29⟩ := X28.virtualBack hx (y := (⟨"java/lang/String", "length", "()I"⟩ : MethodName)) (z := (⟨"java/lang/String", "length", "()I"⟩ : MethodName)) hown (mvT hZ (own_w hw 73 rfl)) (mvT hZ (own_w hw 74 rfl)) (notFace_of_selects (args := #[]) (mvT hZ (own_w hw 76 rfl))) (mvT hZ (own_w hw 76 rfl)) (mvT hZ (own_w hw 75 rfl)) (by decide) (backOf (W := 0) (rmLn_2 l Z a0 hw [] c24 ch0 ch1 cs T25.heap n0 Z25 Ex24 St24 hcs S_cs) hZ (own_w hw 77 rfl) (own_w hw 7 rfl) (by decide) (by decide)) q29a q29c (g := (mkF m 80 #[.val (.int p1), .val (.int p2), .val (.int p3), .val (.int p4), .val (.int 2), .val (.int ch0), .val (.int ch1), .val (.int ch2), .val (.ref c24), .val (.ref c25), .val (.ref c24)] [(.ref c24)])) rfl (by rw [hml]; rfl) (Steps.refl _) (argsL := []) (rest := []) (lenOf own_pd21 rfl) rfl (by show 2 * 0 + _ ≤ _; exact Nat.le_of_eq rfl) (hb hby at_80) (fun _ _ => ⟨rfl, e28, (by decide : 5 + 0 ≤ _), (by decide : 16 + 0 ≤ _)⟩)
    dsimp only [Pt.U, Pt.locs, Pt.cells, Pt.slots] at X29 l29 y29 z29 st29 hQ29
    subst l29 y29 z29
    obtain ⟨rfl, N29q, e29⟩ := hQ29
    have N29 := Fr.app N28 N29q
    refine own_go (A := T29.setTop (mkF m 83 #[.val (.int p1), .val (.int p2), .val (.int p3), .val (.int p4), .val (.int 2), .val (.int ch0), .val (.int ch1), .val (.int ch2), .val (.ref c24), .val (.ref c25), .val (.ref c24)] [(.int 2)])) (fun _ kz => st29.trans kz) ?_
    refine own_go (A := T29.setTop (mkF m 92 #[.val (.int p1), .val (.int p2), .val (.int p3), .val (.int p4), .val (.int 2), .val (.int ch0), .val (.int ch1), .val (.int ch2), .val (.ref c24), .val (.ref c25), .val (.ref c24)] [(.ref c24), (.ref c24)])) (fun _ kz => ?_) ?_
    · refine XS.iload X29.here hx rfl (hb hby at_83) rfl ?_
      refine XS.icmpNo X29.here hx rfl (hb hby at_85) rfl (teq (by decide : ((2 : Int32) = (2 : Int32)))).2 ?_
      refine XS.aload X29.here hx rfl (hb hby at_88) rfl rfl ?_
      refine XS.aload X29.here hx rfl (hb hby at_90) rfl rfl ?_
      exact kz
    obtain ⟨cq30, kq30, q30a, q30b, q30c⟩ := isOf hZ e29 Ex24
    obtain ⟨_, _, ⟨T30, L30, k30, n30⟩, -, X30, ⟨Lc30, hQ30, l30, y30, z30⟩, st30⟩ := X29.virtualBack hx (y := (⟨"java/lang/String", "equals", "(Ljava/lang/Object;)Z"⟩ : MethodName)) (z := (⟨"java/lang/String", "equals", "(Ljava/lang/Object;)Z"⟩ : MethodName)) hown (mvT hZ (own_w hw 83 rfl)) (mvT hZ (own_w hw 84 rfl)) (notFace_of_selects (args := #[]) (mvT hZ (own_w hw 86 rfl))) (mvT hZ (own_w hw 86 rfl)) (mvT hZ (own_w hw 85 rfl)) (by decide) (backOf (W := 0) (rmEq l Z a0 hw [] c24 T25.heap n0 Z25) hZ (own_w hw 87 rfl) (own_w hw 7 rfl) (by decide) (by decide)) q30a q30c (g := (mkF m 92 #[.val (.int p1), .val (.int p2), .val (.int p3), .val (.int p4), .val (.int 2), .val (.int ch0), .val (.int ch1), .val (.int ch2), .val (.ref c24), .val (.ref c25), .val (.ref c24)] [(.ref c24), (.ref c24)])) rfl (by rw [hml]; rfl) (Steps.refl _) (argsL := [(.ref c24)]) (rest := []) (lenOf own_pd22 rfl) rfl (by show 2 * 0 + _ ≤ _; exact Nat.le_of_eq rfl) (hb hby at_92) (fun _ _ => ⟨rfl, e29, (by decide : 5 + 0 ≤ _), (by decide : 16 + 0 ≤ _)⟩)
    dsimp only [Pt.U, Pt.locs, Pt.cells, Pt.slots] at X30 l30 y30 z30 st30 hQ30
    subst l30 y30 z30
    obtain ⟨rfl, N30q, e30⟩ := hQ30
    have N30 := Fr.app N29 N30q
    refine own_go (A := T30.setTop (mkF m 95 #[.val (.int p1), .val (.int p2), .val (.int p3), .val (.int p4), .val (.int 2), .val (.int ch0), .val (.int ch1), .val (.int ch2), .val (.ref c24), .val (.ref c25), .val (.ref c24)] [(.int 1)])) (fun _ kz => st30.trans kz) ?_
    refine own_go (A := T30.setTop (mkF m 109 #[.val (.int p1), .val (.int p2), .val (.int p3), .val (.int p4), .val (.int 2), .val (.int ch0), .val (.int ch1), .val (.int ch2), .val (.ref c24), .val (.ref c25), .val (.ref c24)] [(.int 0), (.ref c24)])) (fun _ kz => ?_) ?_
    · refine XS.ifYes X30.here hx rfl (pc0 := 95) (pc' := 100) rfl (hb hby at_95) rfl ((if0 _ _).trans (feq (by decide : ¬ ((1 : Int32) = (0 : Int32)))).2) (by decide) (by decide) ?_
      refine XS.iload X30.here hx rfl (hb hby at_100) rfl ?_
      refine XS.iconst X30.here hx rfl (hb hby at_102) ?_
      refine XS.icmpNo X30.here hx rfl (hb hby at_103) rfl (flt (by decide : ¬ ((2 : Int32) < (1 : Int32)))).1 ?_
      refine XS.aload X30.here hx rfl (hb hby at_106) rfl rfl ?_
      refine XS.iconst X30.here hx rfl (hb hby at_108) ?_
      exact kz
    obtain ⟨cq31, kq31, q31a, q31b, q31c⟩ := isOf hZ e30 Ex24
    obtain ⟨_, _, ⟨T31, L31, k31, n31⟩, -, X31, ⟨Lc31, hQ31, l31, y31, z31⟩, st31⟩ := X30.virtualBack hx (y := (⟨"java/lang/String", "charAt", "(I)C"⟩ : MethodName)) (z := (⟨"java/lang/String", "charAt", "(I)C"⟩ : MethodName)) hown (mvT hZ (own_w hw 88 rfl)) (mvT hZ (own_w hw 89 rfl)) (notFace_of_selects (args := #[]) (mvT hZ (own_w hw 91 rfl))) (mvT hZ (own_w hw 91 rfl)) (mvT hZ (own_w hw 90 rfl)) (by decide) (backOf (W := 0) (rmSC_2_0 l Z a0 hw [] c24 ch0 ch1 cs fm T25.heap n0 Z25 Ex24 St24 hcs S_cs hp0 S_fm rfm S_ad S_hi S_lo) hZ (own_w hw 92 rfl) (own_w hw 7 rfl) (by decide) (by decide)) q31a q31c (g := (mkF m 109 #[.val (.int p1), .val (.int p2), .val (.int p3), .val (.int p4), .val (.int 2), .val (.int ch0), .val (.int ch1), .val (.int ch2), .val (.ref c24), .val (.ref c25), .val (.ref c24)] [(.int 0), (.ref c24)])) rfl (by rw [hml]; rfl) (Steps.refl _) (argsL := [(.int 0)]) (rest := []) (lenOf own_pd23 rfl) rfl (by show 2 * 0 + _ ≤ _; exact Nat.le_of_eq rfl) (hb hby at_109) (fun _ _ => ⟨rfl, e30, (by decide : 5 + 0 ≤ _), (by decide : 16 + 0 ≤ _)⟩)
    dsimp only [Pt.U, Pt.locs, Pt.cells, Pt.slots] at X31 l31 y31 z31 st31 hQ31
    subst l31 y31 z31
    obtain ⟨rfl, N31q, e31⟩ := hQ31
    have N31 := Fr.app N30 N31q
    refine own_go (A := T31.setTop (mkF m 112 #[.val (.int p1), .val (.int p2), .val (.int p3), .val (.int p4), .val (.int 2), .val (.int ch0), .val (.int ch1), .val (.int ch2), .val (.ref c24), .val (.ref c25), .val (.ref c24)] [(.int ch0)])) (fun _ kz => st31.trans kz) ?_
    refine own_go (A := T31.setTop (mkF m 128 #[.val (.int p1), .val (.int p2), .val (.int p3), .val (.int p4), .val (.int 2), .val (.int ch0), .val (.int ch1), .val (.int ch2), .val (.ref c24), .val (.ref c25), .val (.ref c24)] [(.int 1), (.ref c24)])) (fun _ kz => ?_) ?_
    · refine XS.iload X31.here hx rfl (hb hby at_112) rfl ?_
      refine XS.icmpYes X31.here hx rfl (pc0 := 114) (pc' := 119) rfl (hb hby at_114) rfl (teq rfl).1 (by decide) (by decide) ?_
      refine XS.iload X31.here hx rfl (hb hby at_119) rfl ?_
      refine XS.iconst X31.here hx rfl (hb hby at_121) ?_
      refine XS.icmpNo X31.here hx rfl (hb hby at_122) rfl (flt (by decide : ¬ ((2 : Int32) < (2 : Int32)))).1 ?_
      refine XS.aload X31.here hx rfl (hb hby at_125) rfl rfl ?_
      refine XS.iconst X31.here hx rfl (hb hby at_127) ?_
      exact kz
    obtain ⟨cq32, kq32, q32a, q32b, q32c⟩ := isOf hZ e31 Ex24
    obtain ⟨_, _, ⟨T32, L32, k32, n32⟩, -, X32, ⟨Lc32, hQ32, l32, y32, z32⟩, st32⟩ := X31.virtualBack hx (y := (⟨"java/lang/String", "charAt", "(I)C"⟩ : MethodName)) (z := (⟨"java/lang/String", "charAt", "(I)C"⟩ : MethodName)) hown (mvT hZ (own_w hw 88 rfl)) (mvT hZ (own_w hw 89 rfl)) (notFace_of_selects (args := #[]) (mvT hZ (own_w hw 91 rfl))) (mvT hZ (own_w hw 91 rfl)) (mvT hZ (own_w hw 90 rfl)) (by decide) (backOf (W := 0) (rmSC_2_1 l Z a0 hw [] c24 ch0 ch1 cs fm T25.heap n0 Z25 Ex24 St24 hcs S_cs hp1 S_fm rfm S_ad S_hi S_lo) hZ (own_w hw 92 rfl) (own_w hw 7 rfl) (by decide) (by decide)) q32a q32c (g := (mkF m 128 #[.val (.int p1), .val (.int p2), .val (.int p3), .val (.int p4), .val (.int 2), .val (.int ch0), .val (.int ch1), .val (.int ch2), .val (.ref c24), .val (.ref c25), .val (.ref c24)] [(.int 1), (.ref c24)])) rfl (by rw [hml]; rfl) (Steps.refl _) (argsL := [(.int 1)]) (rest := []) (lenOf own_pd23 rfl) rfl (by show 2 * 0 + _ ≤ _; exact Nat.le_of_eq rfl) (hb hby at_128) (fun _ _ => ⟨rfl, e31, (by decide : 5 + 0 ≤ _), (by decide : 16 + 0 ≤ _)⟩)
    dsimp only [Pt.U, Pt.locs, Pt.cells, Pt.slots] at X32 l32 y32 z32 st32 hQ32
    subst l32 y32 z32
    obtain ⟨rfl, N32q, e32⟩ := hQ32
    have N32 := Fr.app N31 N32q
    refine own_go (A := T32.setTop (mkF m 131 #[.val (.int p1), .val (.int p2), .val (.int p3), .val (.int p4), .val (.int 2), .val (.int ch0), .val (.int ch1), .val (.int ch2), .val (.ref c24), .val (.ref c25), .val (.ref c24)] [(.int ch1)])) (fun _ kz => st32.trans kz) ?_
    refine own_go (A := T32.setTop (mkF m 159 #[.val (.int p1), .val (.int p2), .val (.int p3), .val (.int p4), .val (.int 2), .val (.int ch0), .val (.int ch1), .val (.int ch2), .val (.ref c24), .val (.ref c25), .val (.ref c24)] [(.ref c25)])) (fun _ kz => ?_) ?_
    · refine XS.iload X32.here hx rfl (hb hby at_131) rfl ?_
      refine XS.icmpYes X32.here hx rfl (pc0 := 133) (pc' := 138) rfl (hb hby at_133) rfl (teq rfl).1 (by decide) (by decide) ?_
      refine XS.iload X32.here hx rfl (hb hby at_138) rfl ?_
      refine XS.iconst X32.here hx rfl (hb hby at_140) ?_
      refine XS.icmpYes X32.here hx rfl (pc0 := 141) (pc' := 157) rfl (hb hby at_141) rfl (tlt (by decide : ((2 : Int32) < (3 : Int32)))).1 (by decide) (by decide) ?_
      refine XS.aload X32.here hx rfl (hb hby at_157) rfl rfl ?_
      exact kz
    obtain ⟨cq33, kq33, q33a, q33b, q33c⟩ := isOf hZ e32 Ex25
    obtain ⟨_, _, ⟨T33, L33, k33, n33⟩, -, X33, ⟨Lc33, hQ33, l33, y33, z33⟩, st33⟩ := X32.virtualBack hx (y := (⟨"dev/parlance/model/Message", "toolCalls", "()Ljava/util/List;"⟩ : MethodName)) (z := (⟨"dev/parlance/model/Message", "toolCalls", "()Ljava/util/List;"⟩ : MethodName)) hown (mvT hZ (own_w hw 110 rfl)) (mvT hZ (own_w hw 111 rfl)) (notFace_of_selects (args := #[]) (mvT hZ (own_w hw 113 rfl))) (mvT hZ (own_w hw 113 rfl)) (mvT hZ (own_w hw 112 rfl)) (by decide) (backOf (W := 0) (rmG_toolCalls l Z a0 hw [] c25 lst T25.heap n0 Z25 Fm225) hZ (own_w hw 114 rfl) (own_w hw 37 rfl) (by decide) (by decide)) q33a q33c (g := (mkF m 159 #[.val (.int p1), .val (.int p2), .val (.int p3), .val (.int p4), .val (.int 2), .val (.int ch0), .val (.int ch1), .val (.int ch2), .val (.ref c24), .val (.ref c25), .val (.ref c24)] [(.ref c25)])) rfl (by rw [hml]; rfl) (Steps.refl _) (argsL := []) (rest := []) (lenOf own_pd15 rfl) rfl (by show 2 * 0 + _ ≤ _; exact Nat.le_of_eq rfl) (hb hby at_159) (fun _ _ => ⟨rfl, e32, (by decide : 5 + 0 ≤ _), (by decide : 16 + 0 ≤ _)⟩)
    dsimp only [Pt.U, Pt.locs, Pt.cells, Pt.slots] at X33 l33 y33 z33 st33 hQ33
    subst l33 y33 z33
    obtain ⟨rfl, N33q, e33⟩ := hQ33
    have N33 := Fr.app N32 N33q
    refine own_go (A := T33.setTop (mkF m 162 #[.val (.int p1), .val (.int p2), .val (.int p3), .val (.int p4), .val (.int 2), .val (.int ch0), .val (.int ch1), .val (.int ch2), .val (.ref c24), .val (.ref c25), .val (.ref c24)] [(.ref lst)])) (fun _ kz => st33.trans kz) ?_
    refine own_go (A := T33.setTop (mkF m 167 #[.val (.int p1), .val (.int p2), .val (.int p3), .val (.int p4), .val (.int 2), .val (.int ch0), .val (.int ch1), .val (.int ch2), .val (.ref c24), .val (.ref c25), .val (.ref c24)] [(.ref c25)])) (fun _ kz => ?_) ?_
    · refine XS.ifnullNo X33.here hx rfl (hb hby at_162) rfl ?_
      refine XS.aload X33.here hx rfl (hb hby at_165) rfl rfl ?_
      exact kz
    obtain ⟨cq34, kq34, q34a, q34b, q34c⟩ := isOf hZ e33 Ex25
    obtain ⟨_, _, ⟨T34, L34, k34, n34⟩, -, X34, ⟨Lc34, hQ34, l34, y34, z34⟩, st34⟩ := X33.virtualBack hx (y := (⟨"dev/parlance/model/Message", "toolCalls", "()Ljava/util/List;"⟩ : MethodName)) (z := (⟨"dev/parlance/model/Message", "toolCalls", "()Ljava/util/List;"⟩ : MethodName)) hown (mvT hZ (own_w hw 110 rfl)) (mvT hZ (own_w hw 111 rfl)) (notFace_of_selects (args := #[]) (mvT hZ (own_w hw 113 rfl))) (mvT hZ (own_w hw 113 rfl)) (mvT hZ (own_w hw 112 rfl)) (by decide) (backOf (W := 0) (rmG_toolCalls l Z a0 hw [] c25 lst T25.heap n0 Z25 Fm225) hZ (own_w hw 114 rfl) (own_w hw 37 rfl) (by decide) (by decide)) q34a q34c (g := (mkF m 167 #[.val (.int p1), .val (.int p2), .val (.int p3), .val (.int p4), .val (.int 2), .val (.int ch0), .val (.int ch1), .val (.int ch2), .val (.ref c24), .val (.ref c25), .val (.ref c24)] [(.ref c25)])) rfl (by rw [hml]; rfl) (Steps.refl _) (argsL := []) (rest := []) (lenOf own_pd15 rfl) rfl (by show 2 * 0 + _ ≤ _; exact Nat.le_of_eq rfl) (hb hby at_167) (fun _ _ => ⟨rfl, e33, (by decide : 5 + 0 ≤ _), (by decide : 16 + 0 ≤ _)⟩)
    dsimp only [Pt.U, Pt.locs, Pt.cells, Pt.slots] at X34 l34 y34 z34 st34 hQ34
    subst l34 y34 z34
    obtain ⟨rfl, N34q, e34⟩ := hQ34
    have N34 := Fr.app N33 N34q
    refine own_go (A := T34.setTop (mkF m 170 #[.val (.int p1), .val (.int p2), .val (.int p3), .val (.int p4), .val (.int 2), .val (.int ch0), .val (.int ch1), .val (.int ch2), .val (.ref c24), .val (.ref c25), .val (.ref c24)] [(.ref lst)])) (fun _ kz => st34.trans kz) ?_
    obtain ⟨cq35, kq35, q35a, q35b, q35c⟩ := isOf hZ e34 Exl_
    obtain ⟨_, _, ⟨T35, L35, k35, n35⟩, -, X35, ⟨Lc35, hQ35, l35, y35, z35⟩, st35⟩ := X34.interfaceBack hx (xi := (⟨"java/util/List", "size", "()I"⟩ : MethodName)) (y := (⟨"java/util/ImmutableCollections$ListN", "size", "()I"⟩ : MethodName)) hown (mvT hZ (own_w hw 115 rfl)) (mvT hZ (own_w hw 116 rfl)) (mvT hZ (own_w hw 117 rfl)) (mvT hZ (own_w hw 118 rfl)) (mvT hZ (own_w hw 119 rfl)) (mvT hZ (own_w hw 120 rfl)) (mvT hZ (own_w hw 121 rfl)) (mvT hZ (own_w hw 122 rfl)) (by decide) (backOf (W := 0) (rmSz l Z a0 hw [] lst el ke T25.heap n0 Z25 Fel Ael) hZ (own_w hw 124 rfl) (own_w hw 123 rfl) (by decide) (by decide)) q35a q35b q35c (g := (mkF m 170 #[.val (.int p1), .val (.int p2), .val (.int p3), .val (.int p4), .val (.int 2), .val (.int ch0), .val (.int ch1), .val (.int ch2), .val (.ref c24), .val (.ref c25), .val (.ref c24)] [(.ref lst)])) rfl (by rw [hml]; rfl) (Steps.refl _) (argsL := []) (rest := []) (lenOf own_pd21 rfl) rfl (by show 2 * 0 + _ ≤ _; exact Nat.le_of_eq rfl) (hb hby at_170) (fun _ _ => ⟨rfl, e34, (by decide : 5 + 0 ≤ _), (by decide : 16 + 0 ≤ _)⟩)
    dsimp only [Pt.U, Pt.locs, Pt.cells, Pt.slots] at X35 l35 y35 z35 st35 hQ35
    subst l35 y35 z35
    obtain ⟨rfl, N35q, e35⟩ := hQ35
    have N35 := Fr.app N34 N35q
    refine own_go (A := T35.setTop (mkF m 175 #[.val (.int p1), .val (.int p2), .val (.int p3), .val (.int p4), .val (.int 2), .val (.int ch0), .val (.int ch1), .val (.int ch2), .val (.ref c24), .val (.ref c25), .val (.ref c24)] [(.int 0)])) (fun _ kz => st35.trans kz) ?_
    refine own_go (A := T35.setTop (mkF m 182 #[.val (.int p1), .val (.int p2), .val (.int p3), .val (.int p4), .val (.int 2), .val (.int ch0), .val (.int ch1), .val (.int ch2), .val (.ref c24), .val (.ref c25), .val (.ref c24)] [(.ref c25)])) (fun _ kz => ?_) ?_
    · refine XS.ifYes X35.here hx rfl (pc0 := 175) (pc' := 180) rfl (hb hby at_175) rfl ((if0 _ _).trans (teq (by decide : ((0 : Int32) = (0 : Int32)))).1) (by decide) (by decide) ?_
      refine XS.aload X35.here hx rfl (hb hby at_180) rfl rfl ?_
      exact kz
    obtain ⟨cq36, kq36, q36a, q36b, q36c⟩ := isOf hZ e35 Ex25
    obtain ⟨_, _, ⟨T36, L36, k36, n36⟩, -, X36, ⟨Lc36, hQ36, l36, y36, z36⟩, st36⟩ := X35.virtualBack hx (y := (⟨"dev/parlance/model/Message", "toolCallId", "()Ljava/lang/String;"⟩ : MethodName)) (z := (⟨"dev/parlance/model/Message", "toolCallId", "()Ljava/lang/String;"⟩ : MethodName)) hown (mvT hZ (own_w hw 127 rfl)) (mvT hZ (own_w hw 128 rfl)) (notFace_of_selects (args := #[]) (mvT hZ (own_w hw 130 rfl))) (mvT hZ (own_w hw 130 rfl)) (mvT hZ (own_w hw 129 rfl)) (by decide) (backOf (W := 0) (rmG_toolCallId l Z a0 hw [] c25  T25.heap n0 Z25 Fm325) hZ (own_w hw 131 rfl) (own_w hw 37 rfl) (by decide) (by decide)) q36a q36c (g := (mkF m 182 #[.val (.int p1), .val (.int p2), .val (.int p3), .val (.int p4), .val (.int 2), .val (.int ch0), .val (.int ch1), .val (.int ch2), .val (.ref c24), .val (.ref c25), .val (.ref c24)] [(.ref c25)])) rfl (by rw [hml]; rfl) (Steps.refl _) (argsL := []) (rest := []) (lenOf own_pd20 rfl) rfl (by show 2 * 0 + _ ≤ _; exact Nat.le_of_eq rfl) (hb hby at_182) (fun _ _ => ⟨rfl, e35, (by decide : 5 + 0 ≤ _), (by decide : 16 + 0 ≤ _)⟩)
    dsimp only [Pt.U, Pt.locs, Pt.cells, Pt.slots] at X36 l36 y36 z36 st36 hQ36
    subst l36 y36 z36
    obtain ⟨rfl, N36q, e36⟩ := hQ36
    have N36 := Fr.app N35 N36q
    refine own_go (A := T36.setTop (mkF m 185 #[.val (.int p1), .val (.int p2), .val (.int p3), .val (.int p4), .val (.int 2), .val (.int ch0), .val (.int ch1), .val (.int ch2), .val (.ref c24), .val (.ref c25), .val (.ref c24)] [.null])) (fun _ kz => st36.trans kz) ?_
    refine own_go (A := T36.setTop (mkF m 193 #[.val (.int p1), .val (.int p2), .val (.int p3), .val (.int p4), .val (.int 2), .val (.int ch0), .val (.int ch1), .val (.int ch2), .val (.ref c24), .val (.ref c25), .val (.ref c24)] [(.int 1)])) (fun _ kz => ?_) ?_
    · refine XS.ifnonnullNo X36.here hx rfl (hb hby at_185) rfl ?_
      refine XS.iconst X36.here hx rfl (hb hby at_188) ?_
      refine XS.goto X36.here hx rfl (pc0 := 189) (pc' := 193) rfl (hb hby at_189) (by decide) (by decide) ?_
      exact kz
    obtain ⟨fs, hrr, hrun, hended, rW1, rW2, rW3, rW4⟩ := X36.leaveW hS (by rw [e36]; exact hk) (v := some (.int 1)) (fun h => by rw [Bd.returns] at h; cases h)
    refine ⟨_, _, ?_, hrun, hended, _, _, rfl, ?_, rW1, rW2, rW3, rW4.mono (by decide) (by decide)⟩
    · show Steps p.tables e below (T36.setTop (mkF m 193 #[.val (.int p1), .val (.int p2), .val (.int p3), .val (.int p4), .val (.int 2), .val (.int ch0), .val (.int ch1), .val (.int ch2), .val (.ref c24), .val (.ref c25), .val (.ref c24)] [(.int 1)])) _
      exact retN X36 hx (t := .boolean) Bd.returns (by simp) (hb hby at_193) hrr
    · show Qrm0 Z  h0 n0 _ T36.heap _
      rw [e36]
      exact ⟨rfl, N36⟩
  · skip
    refine own_go (A := s₁.setTop (mkF m 34 #[.val (.int p1), .val (.int p2), .val (.int p3), .val (.int p4), .val (.int 3), .val (.int ch0), .val (.int ch1), .val (.int ch2), .unset, .unset, .unset] [(.int ch2), (.int ch1), (.int ch0), (.int 3)])) (fun _ kz => ?_) ?_
    · refine XS.iload X0.here hx rfl (hb hby at_26) rfl ?_
      refine XS.iload X0.here hx rfl (hb hby at_28) rfl ?_
      refine XS.iload X0.here hx rfl (hb hby at_30) rfl ?_
      refine XS.iload X0.here hx rfl (hb hby at_32) rfl ?_
      exact kz
    obtain ⟨_, _, ⟨T37, L37, k37, n37⟩, -, X37, ⟨Lc37, hQ37, l37, y37, z37⟩, st37⟩ := Jvm.LawKit.callS X0 hx (y := (⟨"dev/parlance/model/MessageAssistantPinLaw", "make", "(ICCC)Ljava/lang/String;"⟩ : MethodName)) hown (mvT hZ (own_w hw 1 rfl)) (mvT hZ (own_w hw 2 rfl)) (mvT hZ (own_w hw 3 rfl)) (mvT hZ (own_w hw 4 rfl)) (by decide) (backOf (W := 0) (rmMk_3 l Z a0 hw [] ch0 ch1 ch2 cs h0 n0 Z0 hp0 hp1 hp2 hcs S_cs S_ad S_hi S_lo) hZ (own_w hw 4 rfl) (own_w hw 3 rfl) (by decide) (by decide)) (g := (mkF m 34 #[.val (.int p1), .val (.int p2), .val (.int p3), .val (.int p4), .val (.int 3), .val (.int ch0), .val (.int ch1), .val (.int ch2), .unset, .unset, .unset] [(.int ch2), (.int ch1), (.int ch0), (.int 3)])) rfl (by rw [hml]; rfl) (argsL := [(.int 3), (.int ch0), (.int ch1), (.int ch2)]) (rest := []) (lenOf own_pd17 rfl) rfl (by show 2 * 0 + _ ≤ _; exact Nat.le_of_eq rfl) (hb hby at_34) (fun _ _ => ⟨rfl, e0, (by decide : 0 + 4 ≤ _), (by decide : 0 + 16 ≤ _)⟩)
    dsimp only [Pt.U, Pt.locs, Pt.cells, Pt.slots] at X37 l37 y37 z37 st37 hQ37
    subst l37 y37 z37
    obtain ⟨c37, rfl, N37q, zc37, K37q, Ex37, St37⟩ := hQ37
    have N37 := Fr.app N0 N37q
    have ne_lst_c37 : lst ≠ c37 := Nat.ne_of_lt (Nat.lt_of_lt_of_le Exl_.lt zc37)
    have ne_el_c37 : el ≠ c37 := Nat.ne_of_lt (Nat.lt_of_lt_of_le Ael.lt zc37)
    have g_c37 : n0 ≤ c37 := Nat.le_trans Z0 zc37
    have szk_c37 : h0.size ≤ c37 := Nat.le_trans Kp0.1 zc37
    replace S_cs := own_staKeep S_cs K37q all0
    replace S_ad := own_staKeep S_ad K37q all0
    replace S_hi := own_staKeep S_hi K37q all0
    replace S_lo := own_staKeep S_lo K37q all0
    replace S_fm := own_staKeep S_fm K37q all0
    replace S_l := own_staKeep S_l K37q all0
    replace S_T := own_staKeep S_T K37q all0
    replace Exl_ := Exl_.keep K37q
    replace Fel := Fel.keep K37q nin0
    replace Ael := Ael.keep K37q nin0
    have Z37 : n0 ≤ T37.heap.size := Nat.le_trans Z0 K37q.1
    have Kp37 : Keep h0 T37.heap [] := Kp0.trans K37q (all0)
    replace hIn := hIn.keep0 K37q
    replace hk := Nat.le_trans hk K37q.1
    refine own_go (A := T37.setTop (mkF m 37 #[.val (.int p1), .val (.int p2), .val (.int p3), .val (.int p4), .val (.int 3), .val (.int ch0), .val (.int ch1), .val (.int ch2), .unset, .unset, .unset] [(.ref c37)])) (fun _ kz => st37 _ kz) ?_
    refine own_go (A := T37.setTop (mkF m 41 #[.val (.int p1), .val (.int p2), .val (.int p3), .val (.int p4), .val (.int 3), .val (.int ch0), .val (.int ch1), .val (.int ch2), .val (.ref c37), .unset, .unset] [(.ref c37)])) (fun _ kz => ?_) ?_
    · refine XS.astore X37.here hx rfl (hb hby at_37) rfl rfl (l' := #[.val (.int p1), .val (.int p2), .val (.int p3), .val (.int p4), .val (.int 3), .val (.int ch0), .val (.int ch1), .val (.int ch2), .val (.ref c37), .unset, .unset]) rfl ?_
      refine XS.aload X37.here hx rfl (hb hby at_39) rfl rfl ?_
      exact kz
    obtain ⟨_, _, ⟨T38, L38, k38, n38⟩, -, X38, ⟨Lc38, hQ38, l38, y38, z38⟩, st38⟩ := Jvm.LawKit.callS X37 hx (y := (⟨"dev/parlance/model/Message", "assistant", "(Ljava/lang/String;)Ldev/parlance/model/Message;"⟩ : MethodName)) hown (mvT hZ (own_w hw 35 rfl)) (mvT hZ (own_w hw 36 rfl)) (mvT hZ (own_w hw 37 rfl)) (mvT hZ (own_w hw 38 rfl)) (by decide) (backOf (W := 0) (rmTo l Z a0 hw [] c37 kT lst T37.heap n0 Z37 S_T S_l) hZ (own_w hw 38 rfl) (own_w hw 37 rfl) (by decide) (by decide)) (g := (mkF m 41 #[.val (.int p1), .val (.int p2), .val (.int p3), .val (.int p4), .val (.int 3), .val (.int ch0), .val (.int ch1), .val (.int ch2), .val (.ref c37), .unset, .unset] [(.ref c37)])) rfl (by rw [hml]; rfl) (argsL := [(.ref c37)]) (rest := []) (lenOf own_pd18 rfl) rfl (by show 2 * 0 + _ ≤ _; exact Nat.le_of_eq rfl) (hb hby at_41) (fun _ _ => ⟨rfl, rfl, (by decide : 4 + 1 ≤ _), (by decide : 16 + 4 ≤ _)⟩)
    dsimp only [Pt.U, Pt.locs, Pt.cells, Pt.slots] at X38 l38 y38 z38 st38 hQ38
    subst l38 y38 z38
    obtain ⟨c38, rfl, N38q, zc38, K38q, Ex38, Fm038, Fm138, Fm238, Fm338⟩ := hQ38
    have N38 := Fr.app N37 N38q
    have ne_lst_c38 : lst ≠ c38 := Nat.ne_of_lt (Nat.lt_of_lt_of_le Exl_.lt zc38)
    have ne_el_c38 : el ≠ c38 := Nat.ne_of_lt (Nat.lt_of_lt_of_le Ael.lt zc38)
    have ne_c37_c38 : c37 ≠ c38 := Nat.ne_of_lt (Nat.lt_of_lt_of_le Ex37.lt zc38)
    have g_c38 : n0 ≤ c38 := Nat.le_trans Z37 zc38
    have szk_c38 : h0.size ≤ c38 := Nat.le_trans Kp37.1 zc38
    replace S_cs := own_staKeep S_cs K38q all0
    replace S_ad := own_staKeep S_ad K38q all0
    replace S_hi := own_staKeep S_hi K38q all0
    replace S_lo := own_staKeep S_lo K38q all0
    replace S_fm := own_staKeep S_fm K38q all0
    replace S_l := own_staKeep S_l K38q all0
    replace S_T := own_staKeep S_T K38q all0
    replace Exl_ := Exl_.keep K38q
    replace Fel := Fel.keep K38q nin0
    replace Ael := Ael.keep K38q nin0
    replace Ex37 := Ex37.keep K38q
    replace St37 := St37.keep K38q nin0
    have Z38 : n0 ≤ T38.heap.size := Nat.le_trans Z37 K38q.1
    have Kp38 : Keep h0 T38.heap [] := Kp37.trans K38q (all0)
    replace hIn := hIn.keep0 K38q
    replace hk := Nat.le_trans hk K38q.1
    refine own_go (A := T38.setTop (mkF m 44 #[.val (.int p1), .val (.int p2), .val (.int p3), .val (.int p4), .val (.int 3), .val (.int ch0), .val (.int ch1), .val (.int ch2), .val (.ref c37), .unset, .unset] [(.ref c38)])) (fun _ kz => st38 _ kz) ?_
    refine own_go (A := T38.setTop (mkF m 55 #[.val (.int p1), .val (.int p2), .val (.int p3), .val (.int p4), .val (.int 3), .val (.int ch0), .val (.int ch1), .val (.int ch2), .val (.ref c37), .val (.ref c38), .unset] [(.ref c38)])) (fun _ kz => ?_) ?_
    · refine XS.astore X38.here hx rfl (hb hby at_44) rfl rfl (l' := #[.val (.int p1), .val (.int p2), .val (.int p3), .val (.int p4), .val (.int 3), .val (.int ch0), .val (.int ch1), .val (.int ch2), .val (.ref c37), .val (.ref c38), .unset]) rfl ?_
      refine XS.aload X38.here hx rfl (hb hby at_46) rfl rfl ?_
      refine XS.ifnonnullYes X38.here hx rfl (pc0 := 48) (pc' := 53) rfl (hb hby at_48) rfl (by decide) (by decide) ?_
      refine XS.aload X38.here hx rfl (hb hby at_53) rfl rfl ?_
      exact kz
    obtain ⟨cq39, kq39, q39a, q39b, q39c⟩ := isOf hZ rfl Ex38
    obtain ⟨_, _, ⟨T39, L39, k39, n39⟩, -, X39, ⟨Lc39, hQ39, l39, y39, z39⟩, st39⟩ := X38.virtualBack hx (y := (⟨"dev/parlance/model/Message", "role", "()Ldev/parlance/model/Role;"⟩ : MethodName)) (z := (⟨"dev/parlance/model/Message", "role", "()Ldev/parlance/model/Role;"⟩ : MethodName)) hown (mvT hZ (own_w hw 62 rfl)) (mvT hZ (own_w hw 63 rfl)) (notFace_of_selects (args := #[]) (mvT hZ (own_w hw 65 rfl))) (mvT hZ (own_w hw 65 rfl)) (mvT hZ (own_w hw 64 rfl)) (by decide) (backOf (W := 0) (rmG_role l Z a0 hw [] c38 kT T38.heap n0 Z38 Fm038) hZ (own_w hw 66 rfl) (own_w hw 37 rfl) (by decide) (by decide)) q39a q39c (g := (mkF m 55 #[.val (.int p1), .val (.int p2), .val (.int p3), .val (.int p4), .val (.int 3), .val (.int ch0), .val (.int ch1), .val (.int ch2), .val (.ref c37), .val (.ref c38), .unset] [(.ref c38)])) rfl (by rw [hml]; rfl) (Steps.refl _) (argsL := []) (rest := []) (lenOf own_pd19 rfl) rfl (by show 2 * 0 + _ ≤ _; exact Nat.le_of_eq rfl) (hb hby at_55) (fun _ _ => ⟨rfl, rfl, (by decide : 5 + 0 ≤ _), (by decide : 20 + 0 ≤ _)⟩)
    dsimp only [Pt.U, Pt.locs, Pt.cells, Pt.slots] at X39 l39 y39 z39 st39 hQ39
    subst l39 y39 z39
    obtain ⟨rfl, N39q, e39⟩ := hQ39
    have N39 := Fr.app N38 N39q
    refine own_go (A := T39.setTop (mkF m 58 #[.val (.int p1), .val (.int p2), .val (.int p3), .val (.int p4), .val (.int 3), .val (.int ch0), .val (.int ch1), .val (.int ch2), .val (.ref c37), .val (.ref c38), .unset] [(.ref kT)])) (fun _ kz => st39.trans kz) ?_
    obtain ⟨T40, X40, e40, st40⟩ := getS2 X39 hx hZ hown (host := "") (Or.inl (own_w hw 67 rfl)) Via.refl e39 S_T (g := (mkF m 58 #[.val (.int p1), .val (.int p2), .val (.int p3), .val (.int p4), .val (.int 3), .val (.int ch0), .val (.int ch1), .val (.int ch2), .val (.ref c37), .val (.ref c38), .unset] [(.ref kT)])) rfl (hb hby at_58)
    refine own_go (A := T40.setTop (mkF m 61 #[.val (.int p1), .val (.int p2), .val (.int p3), .val (.int p4), .val (.int 3), .val (.int ch0), .val (.int ch1), .val (.int ch2), .val (.ref c37), .val (.ref c38), .unset] [(.ref kT), (.ref kT)])) (fun _ kz => st40 _ kz) ?_
    refine own_go (A := T40.setTop (mkF m 68 #[.val (.int p1), .val (.int p2), .val (.int p3), .val (.int p4), .val (.int 3), .val (.int ch0), .val (.int ch1), .val (.int ch2), .val (.ref c37), .val (.ref c38), .unset] [(.ref c38)])) (fun _ kz => ?_) ?_
    · refine Jvm.RoadKit.acmp (g := (mkF m 61 #[.val (.int p1), .val (.int p2), .val (.int p3), .val (.int p4), .val (.int 3), .val (.int ch0), .val (.int ch1), .val (.int ch2), .val (.ref c37), .val (.ref c38), .unset] [(.ref kT), (.ref kT)])) X40 hx rfl rfl rfl (pc0 := 61) (pc' := 66) (same := true) rfl (hb hby at_61) rfl (decide_eq_true rfl) (by decide) (by decide) ?_
      refine XS.aload X40.here hx rfl (hb hby at_66) rfl rfl ?_
      exact kz
    obtain ⟨cq41, kq41, q41a, q41b, q41c⟩ := isOf hZ e40 Ex38
    obtain ⟨_, _, ⟨T41, L41, k41, n41⟩, -, X41, ⟨Lc41, hQ41, l41, y41, z41⟩, st41⟩ := X40.virtualBack hx (y := (⟨"dev/parlance/model/Message", "content", "()Ljava/lang/String;"⟩ : MethodName)) (z := (⟨"dev/parlance/model/Message", "content", "()Ljava/lang/String;"⟩ : MethodName)) hown (mvT hZ (own_w hw 68 rfl)) (mvT hZ (own_w hw 69 rfl)) (notFace_of_selects (args := #[]) (mvT hZ (own_w hw 71 rfl))) (mvT hZ (own_w hw 71 rfl)) (mvT hZ (own_w hw 70 rfl)) (by decide) (backOf (W := 0) (rmG_content l Z a0 hw [] c38 c37 T38.heap n0 Z38 Fm138) hZ (own_w hw 72 rfl) (own_w hw 37 rfl) (by decide) (by decide)) q41a q41c (g := (mkF m 68 #[.val (.int p1), .val (.int p2), .val (.int p3), .val (.int p4), .val (.int 3), .val (.int ch0), .val (.int ch1), .val (.int ch2), .val (.ref c37), .val (.ref c38), .unset] [(.ref c38)])) rfl (by rw [hml]; rfl) (Steps.refl _) (argsL := []) (rest := []) (lenOf own_pd20 rfl) rfl (by show 2 * 0 + _ ≤ _; exact Nat.le_of_eq rfl) (hb hby at_68) (fun _ _ => ⟨rfl, e40, (by decide : 5 + 0 ≤ _), (by decide : 20 + 0 ≤ _)⟩)
    dsimp only [Pt.U, Pt.locs, Pt.cells, Pt.slots] at X41 l41 y41 z41 st41 hQ41
    subst l41 y41 z41
    obtain ⟨rfl, N41q, e41⟩ := hQ41
    have N41 := Fr.app N39 N41q
    refine own_go (A := T41.setTop (mkF m 71 #[.val (.int p1), .val (.int p2), .val (.int p3), .val (.int p4), .val (.int 3), .val (.int ch0), .val (.int ch1), .val (.int ch2), .val (.ref c37), .val (.ref c38), .unset] [(.ref c37)])) (fun _ kz => st41.trans kz) ?_
    refine own_go (A := T41.setTop (mkF m 80 #[.val (.int p1), .val (.int p2), .val (.int p3), .val (.int p4), .val (.int 3), .val (.int ch0), .val (.int ch1), .val (.int ch2), .val (.ref c37), .val (.ref c38), .val (.ref c37)] [(.ref c37)])) (fun _ kz => ?_) ?_
    · refine XS.astore X41.here hx rfl (hb hby at_71) rfl rfl (l' := #[.val (.int p1), .val (.int p2), .val (.int p3), .val (.int p4), .val (.int 3), .val (.int ch0), .val (.int ch1), .val (.int ch2), .val (.ref c37), .val (.ref c38), .val (.ref c37)]) rfl ?_
      refine XS.aload X41.here hx rfl (hb hby at_73) rfl rfl ?_
      refine XS.ifnullNo X41.here hx rfl (hb hby at_75) rfl ?_
      refine XS.aload X41.here hx rfl (hb hby at_78) rfl rfl ?_
      exact kz
    obtain ⟨cq42, kq42, q42a, q42b, q42c⟩ := isOf hZ e41 Ex37
    obtain ⟨_, _, ⟨T42, L42, k42, n42⟩, -, X42, ⟨Lc42, hQ42, l42, y42, z42⟩, st42⟩ := X41.virtualBack hx (y := (⟨"java/lang/String", "length", "()I"⟩ : MethodName)) (z := (⟨"java/lang/String", "length", "()I"⟩ : MethodName)) hown (mvT hZ (own_w hw 73 rfl)) (mvT hZ (own_w hw 74 rfl)) (notFace_of_selects (args := #[]) (mvT hZ (own_w hw 76 rfl))) (mvT hZ (own_w hw 76 rfl)) (mvT hZ (own_w hw 75 rfl)) (by decide) (backOf (W := 0) (rmLn_3 l Z a0 hw [] c37 ch0 ch1 ch2 cs T38.heap n0 Z38 Ex37 St37 hcs S_cs) hZ (own_w hw 77 rfl) (own_w hw 7 rfl) (by decide) (by decide)) q42a q42c (g := (mkF m 80 #[.val (.int p1), .val (.int p2), .val (.int p3), .val (.int p4), .val (.int 3), .val (.int ch0), .val (.int ch1), .val (.int ch2), .val (.ref c37), .val (.ref c38), .val (.ref c37)] [(.ref c37)])) rfl (by rw [hml]; rfl) (Steps.refl _) (argsL := []) (rest := []) (lenOf own_pd21 rfl) rfl (by show 2 * 0 + _ ≤ _; exact Nat.le_of_eq rfl) (hb hby at_80) (fun _ _ => ⟨rfl, e41, (by decide : 5 + 0 ≤ _), (by decide : 20 + 0 ≤ _)⟩)
    dsimp only [Pt.U, Pt.locs, Pt.cells, Pt.slots] at X42 l42 y42 z42 st42 hQ42
    subst l42 y42 z42
    obtain ⟨rfl, N42q, e42⟩ := hQ42
    have N42 := Fr.app N41 N42q
    refine own_go (A := T42.setTop (mkF m 83 #[.val (.int p1), .val (.int p2), .val (.int p3), .val (.int p4), .val (.int 3), .val (.int ch0), .val (.int ch1), .val (.int ch2), .val (.ref c37), .val (.ref c38), .val (.ref c37)] [(.int 3)])) (fun _ kz => st42.trans kz) ?_
    refine own_go (A := T42.setTop (mkF m 92 #[.val (.int p1), .val (.int p2), .val (.int p3), .val (.int p4), .val (.int 3), .val (.int ch0), .val (.int ch1), .val (.int ch2), .val (.ref c37), .val (.ref c38), .val (.ref c37)] [(.ref c37), (.ref c37)])) (fun _ kz => ?_) ?_
    · refine XS.iload X42.here hx rfl (hb hby at_83) rfl ?_
      refine XS.icmpNo X42.here hx rfl (hb hby at_85) rfl (teq (by decide : ((3 : Int32) = (3 : Int32)))).2 ?_
      refine XS.aload X42.here hx rfl (hb hby at_88) rfl rfl ?_
      refine XS.aload X42.here hx rfl (hb hby at_90) rfl rfl ?_
      exact kz
    obtain ⟨cq43, kq43, q43a, q43b, q43c⟩ := isOf hZ e42 Ex37
    obtain ⟨_, _, ⟨T43, L43, k43, n43⟩, -, X43, ⟨Lc43, hQ43, l43, y43, z43⟩, st43⟩ := X42.virtualBack hx (y := (⟨"java/lang/String", "equals", "(Ljava/lang/Object;)Z"⟩ : MethodName)) (z := (⟨"java/lang/String", "equals", "(Ljava/lang/Object;)Z"⟩ : MethodName)) hown (mvT hZ (own_w hw 83 rfl)) (mvT hZ (own_w hw 84 rfl)) (notFace_of_selects (args := #[]) (mvT hZ (own_w hw 86 rfl))) (mvT hZ (own_w hw 86 rfl)) (mvT hZ (own_w hw 85 rfl)) (by decide) (backOf (W := 0) (rmEq l Z a0 hw [] c37 T38.heap n0 Z38) hZ (own_w hw 87 rfl) (own_w hw 7 rfl) (by decide) (by decide)) q43a q43c (g := (mkF m 92 #[.val (.int p1), .val (.int p2), .val (.int p3), .val (.int p4), .val (.int 3), .val (.int ch0), .val (.int ch1), .val (.int ch2), .val (.ref c37), .val (.ref c38), .val (.ref c37)] [(.ref c37), (.ref c37)])) rfl (by rw [hml]; rfl) (Steps.refl _) (argsL := [(.ref c37)]) (rest := []) (lenOf own_pd22 rfl) rfl (by show 2 * 0 + _ ≤ _; exact Nat.le_of_eq rfl) (hb hby at_92) (fun _ _ => ⟨rfl, e42, (by decide : 5 + 0 ≤ _), (by decide : 20 + 0 ≤ _)⟩)
    dsimp only [Pt.U, Pt.locs, Pt.cells, Pt.slots] at X43 l43 y43 z43 st43 hQ43
    subst l43 y43 z43
    obtain ⟨rfl, N43q, e43⟩ := hQ43
    have N43 := Fr.app N42 N43q
    refine own_go (A := T43.setTop (mkF m 95 #[.val (.int p1), .val (.int p2), .val (.int p3), .val (.int p4), .val (.int 3), .val (.int ch0), .val (.int ch1), .val (.int ch2), .val (.ref c37), .val (.ref c38), .val (.ref c37)] [(.int 1)])) (fun _ kz => st43.trans kz) ?_
    refine own_go (A := T43.setTop (mkF m 109 #[.val (.int p1), .val (.int p2), .val (.int p3), .val (.int p4), .val (.int 3), .val (.int ch0), .val (.int ch1), .val (.int ch2), .val (.ref c37), .val (.ref c38), .val (.ref c37)] [(.int 0), (.ref c37)])) (fun _ kz => ?_) ?_
    · refine XS.ifYes X43.here hx rfl (pc0 := 95) (pc' := 100) rfl (hb hby at_95) rfl ((if0 _ _).trans (feq (by decide : ¬ ((1 : Int32) = (0 : Int32)))).2) (by decide) (by decide) ?_
      refine XS.iload X43.here hx rfl (hb hby at_100) rfl ?_
      refine XS.iconst X43.here hx rfl (hb hby at_102) ?_
      refine XS.icmpNo X43.here hx rfl (hb hby at_103) rfl (flt (by decide : ¬ ((3 : Int32) < (1 : Int32)))).1 ?_
      refine XS.aload X43.here hx rfl (hb hby at_106) rfl rfl ?_
      refine XS.iconst X43.here hx rfl (hb hby at_108) ?_
      exact kz
    obtain ⟨cq44, kq44, q44a, q44b, q44c⟩ := isOf hZ e43 Ex37
    obtain ⟨_, _, ⟨T44, L44, k44, n44⟩, -, X44, ⟨Lc44, hQ44, l44, y44, z44⟩, st44⟩ := X43.virtualBack hx (y := (⟨"java/lang/String", "charAt", "(I)C"⟩ : MethodName)) (z := (⟨"java/lang/String", "charAt", "(I)C"⟩ : MethodName)) hown (mvT hZ (own_w hw 88 rfl)) (mvT hZ (own_w hw 89 rfl)) (notFace_of_selects (args := #[]) (mvT hZ (own_w hw 91 rfl))) (mvT hZ (own_w hw 91 rfl)) (mvT hZ (own_w hw 90 rfl)) (by decide) (backOf (W := 0) (rmSC_3_0 l Z a0 hw [] c37 ch0 ch1 ch2 cs fm T38.heap n0 Z38 Ex37 St37 hcs S_cs hp0 S_fm rfm S_ad S_hi S_lo) hZ (own_w hw 92 rfl) (own_w hw 7 rfl) (by decide) (by decide)) q44a q44c (g := (mkF m 109 #[.val (.int p1), .val (.int p2), .val (.int p3), .val (.int p4), .val (.int 3), .val (.int ch0), .val (.int ch1), .val (.int ch2), .val (.ref c37), .val (.ref c38), .val (.ref c37)] [(.int 0), (.ref c37)])) rfl (by rw [hml]; rfl) (Steps.refl _) (argsL := [(.int 0)]) (rest := []) (lenOf own_pd23 rfl) rfl (by show 2 * 0 + _ ≤ _; exact Nat.le_of_eq rfl) (hb hby at_109) (fun _ _ => ⟨rfl, e43, (by decide : 5 + 0 ≤ _), (by decide : 20 + 0 ≤ _)⟩)
    dsimp only [Pt.U, Pt.locs, Pt.cells, Pt.slots] at X44 l44 y44 z44 st44 hQ44
    subst l44 y44 z44
    obtain ⟨rfl, N44q, e44⟩ := hQ44
    have N44 := Fr.app N43 N44q
    refine own_go (A := T44.setTop (mkF m 112 #[.val (.int p1), .val (.int p2), .val (.int p3), .val (.int p4), .val (.int 3), .val (.int ch0), .val (.int ch1), .val (.int ch2), .val (.ref c37), .val (.ref c38), .val (.ref c37)] [(.int ch0)])) (fun _ kz => st44.trans kz) ?_
    refine own_go (A := T44.setTop (mkF m 128 #[.val (.int p1), .val (.int p2), .val (.int p3), .val (.int p4), .val (.int 3), .val (.int ch0), .val (.int ch1), .val (.int ch2), .val (.ref c37), .val (.ref c38), .val (.ref c37)] [(.int 1), (.ref c37)])) (fun _ kz => ?_) ?_
    · refine XS.iload X44.here hx rfl (hb hby at_112) rfl ?_
      refine XS.icmpYes X44.here hx rfl (pc0 := 114) (pc' := 119) rfl (hb hby at_114) rfl (teq rfl).1 (by decide) (by decide) ?_
      refine XS.iload X44.here hx rfl (hb hby at_119) rfl ?_
      refine XS.iconst X44.here hx rfl (hb hby at_121) ?_
      refine XS.icmpNo X44.here hx rfl (hb hby at_122) rfl (flt (by decide : ¬ ((3 : Int32) < (2 : Int32)))).1 ?_
      refine XS.aload X44.here hx rfl (hb hby at_125) rfl rfl ?_
      refine XS.iconst X44.here hx rfl (hb hby at_127) ?_
      exact kz
    obtain ⟨cq45, kq45, q45a, q45b, q45c⟩ := isOf hZ e44 Ex37
    obtain ⟨_, _, ⟨T45, L45, k45, n45⟩, -, X45, ⟨Lc45, hQ45, l45, y45, z45⟩, st45⟩ := X44.virtualBack hx (y := (⟨"java/lang/String", "charAt", "(I)C"⟩ : MethodName)) (z := (⟨"java/lang/String", "charAt", "(I)C"⟩ : MethodName)) hown (mvT hZ (own_w hw 88 rfl)) (mvT hZ (own_w hw 89 rfl)) (notFace_of_selects (args := #[]) (mvT hZ (own_w hw 91 rfl))) (mvT hZ (own_w hw 91 rfl)) (mvT hZ (own_w hw 90 rfl)) (by decide) (backOf (W := 0) (rmSC_3_1 l Z a0 hw [] c37 ch0 ch1 ch2 cs fm T38.heap n0 Z38 Ex37 St37 hcs S_cs hp1 S_fm rfm S_ad S_hi S_lo) hZ (own_w hw 92 rfl) (own_w hw 7 rfl) (by decide) (by decide)) q45a q45c (g := (mkF m 128 #[.val (.int p1), .val (.int p2), .val (.int p3), .val (.int p4), .val (.int 3), .val (.int ch0), .val (.int ch1), .val (.int ch2), .val (.ref c37), .val (.ref c38), .val (.ref c37)] [(.int 1), (.ref c37)])) rfl (by rw [hml]; rfl) (Steps.refl _) (argsL := [(.int 1)]) (rest := []) (lenOf own_pd23 rfl) rfl (by show 2 * 0 + _ ≤ _; exact Nat.le_of_eq rfl) (hb hby at_128) (fun _ _ => ⟨rfl, e44, (by decide : 5 + 0 ≤ _), (by decide : 20 + 0 ≤ _)⟩)
    dsimp only [Pt.U, Pt.locs, Pt.cells, Pt.slots] at X45 l45 y45 z45 st45 hQ45
    subst l45 y45 z45
    obtain ⟨rfl, N45q, e45⟩ := hQ45
    have N45 := Fr.app N44 N45q
    refine own_go (A := T45.setTop (mkF m 131 #[.val (.int p1), .val (.int p2), .val (.int p3), .val (.int p4), .val (.int 3), .val (.int ch0), .val (.int ch1), .val (.int ch2), .val (.ref c37), .val (.ref c38), .val (.ref c37)] [(.int ch1)])) (fun _ kz => st45.trans kz) ?_
    refine own_go (A := T45.setTop (mkF m 147 #[.val (.int p1), .val (.int p2), .val (.int p3), .val (.int p4), .val (.int 3), .val (.int ch0), .val (.int ch1), .val (.int ch2), .val (.ref c37), .val (.ref c38), .val (.ref c37)] [(.int 2), (.ref c37)])) (fun _ kz => ?_) ?_
    · refine XS.iload X45.here hx rfl (hb hby at_131) rfl ?_
      refine XS.icmpYes X45.here hx rfl (pc0 := 133) (pc' := 138) rfl (hb hby at_133) rfl (teq rfl).1 (by decide) (by decide) ?_
      refine XS.iload X45.here hx rfl (hb hby at_138) rfl ?_
      refine XS.iconst X45.here hx rfl (hb hby at_140) ?_
      refine XS.icmpNo X45.here hx rfl (hb hby at_141) rfl (flt (by decide : ¬ ((3 : Int32) < (3 : Int32)))).1 ?_
      refine XS.aload X45.here hx rfl (hb hby at_144) rfl rfl ?_
      refine XS.iconst X45.here hx rfl (hb hby at_146) ?_
      exact kz
    obtain ⟨cq46, kq46, q46a, q46b, q46c⟩ := isOf hZ e45 Ex37
    obtain ⟨_, _, ⟨T46, L46, k46, n46⟩, -, X46, ⟨Lc46, hQ46, l46, y46, z46⟩, st46⟩ := X45.virtualBack hx (y := (⟨"java/lang/String", "charAt", "(I)C"⟩ : MethodName)) (z := (⟨"java/lang/String", "charAt", "(I)C"⟩ : MethodName)) hown (mvT hZ (own_w hw 88 rfl)) (mvT hZ (own_w hw 89 rfl)) (notFace_of_selects (args := #[]) (mvT hZ (own_w hw 91 rfl))) (mvT hZ (own_w hw 91 rfl)) (mvT hZ (own_w hw 90 rfl)) (by decide) (backOf (W := 0) (rmSC_3_2 l Z a0 hw [] c37 ch0 ch1 ch2 cs fm T38.heap n0 Z38 Ex37 St37 hcs S_cs hp2 S_fm rfm S_ad S_hi S_lo) hZ (own_w hw 92 rfl) (own_w hw 7 rfl) (by decide) (by decide)) q46a q46c (g := (mkF m 147 #[.val (.int p1), .val (.int p2), .val (.int p3), .val (.int p4), .val (.int 3), .val (.int ch0), .val (.int ch1), .val (.int ch2), .val (.ref c37), .val (.ref c38), .val (.ref c37)] [(.int 2), (.ref c37)])) rfl (by rw [hml]; rfl) (Steps.refl _) (argsL := [(.int 2)]) (rest := []) (lenOf own_pd23 rfl) rfl (by show 2 * 0 + _ ≤ _; exact Nat.le_of_eq rfl) (hb hby at_147) (fun _ _ => ⟨rfl, e45, (by decide : 5 + 0 ≤ _), (by decide : 20 + 0 ≤ _)⟩)
    dsimp only [Pt.U, Pt.locs, Pt.cells, Pt.slots] at X46 l46 y46 z46 st46 hQ46
    subst l46 y46 z46
    obtain ⟨rfl, N46q, e46⟩ := hQ46
    have N46 := Fr.app N45 N46q
    refine own_go (A := T46.setTop (mkF m 150 #[.val (.int p1), .val (.int p2), .val (.int p3), .val (.int p4), .val (.int 3), .val (.int ch0), .val (.int ch1), .val (.int ch2), .val (.ref c37), .val (.ref c38), .val (.ref c37)] [(.int ch2)])) (fun _ kz => st46.trans kz) ?_
    refine own_go (A := T46.setTop (mkF m 159 #[.val (.int p1), .val (.int p2), .val (.int p3), .val (.int p4), .val (.int 3), .val (.int ch0), .val (.int ch1), .val (.int ch2), .val (.ref c37), .val (.ref c38), .val (.ref c37)] [(.ref c38)])) (fun _ kz => ?_) ?_
    · refine XS.iload X46.here hx rfl (hb hby at_150) rfl ?_
      refine XS.icmpYes X46.here hx rfl (pc0 := 152) (pc' := 157) rfl (hb hby at_152) rfl (teq rfl).1 (by decide) (by decide) ?_
      refine XS.aload X46.here hx rfl (hb hby at_157) rfl rfl ?_
      exact kz
    obtain ⟨cq47, kq47, q47a, q47b, q47c⟩ := isOf hZ e46 Ex38
    obtain ⟨_, _, ⟨T47, L47, k47, n47⟩, -, X47, ⟨Lc47, hQ47, l47, y47, z47⟩, st47⟩ := X46.virtualBack hx (y := (⟨"dev/parlance/model/Message", "toolCalls", "()Ljava/util/List;"⟩ : MethodName)) (z := (⟨"dev/parlance/model/Message", "toolCalls", "()Ljava/util/List;"⟩ : MethodName)) hown (mvT hZ (own_w hw 110 rfl)) (mvT hZ (own_w hw 111 rfl)) (notFace_of_selects (args := #[]) (mvT hZ (own_w hw 113 rfl))) (mvT hZ (own_w hw 113 rfl)) (mvT hZ (own_w hw 112 rfl)) (by decide) (backOf (W := 0) (rmG_toolCalls l Z a0 hw [] c38 lst T38.heap n0 Z38 Fm238) hZ (own_w hw 114 rfl) (own_w hw 37 rfl) (by decide) (by decide)) q47a q47c (g := (mkF m 159 #[.val (.int p1), .val (.int p2), .val (.int p3), .val (.int p4), .val (.int 3), .val (.int ch0), .val (.int ch1), .val (.int ch2), .val (.ref c37), .val (.ref c38), .val (.ref c37)] [(.ref c38)])) rfl (by rw [hml]; rfl) (Steps.refl _) (argsL := []) (rest := []) (lenOf own_pd15 rfl) rfl (by show 2 * 0 + _ ≤ _; exact Nat.le_of_eq rfl) (hb hby at_159) (fun _ _ => ⟨rfl, e46, (by decide : 5 + 0 ≤ _), (by decide : 20 + 0 ≤ _)⟩)
    dsimp only [Pt.U, Pt.locs, Pt.cells, Pt.slots] at X47 l47 y47 z47 st47 hQ47
    subst l47 y47 z47
    obtain ⟨rfl, N47q, e47⟩ := hQ47
    have N47 := Fr.app N46 N47q
    refine own_go (A := T47.setTop (mkF m 162 #[.val (.int p1), .val (.int p2), .val (.int p3), .val (.int p4), .val (.int 3), .val (.int ch0), .val (.int ch1), .val (.int ch2), .val (.ref c37), .val (.ref c38), .val (.ref c37)] [(.ref lst)])) (fun _ kz => st47.trans kz) ?_
    refine own_go (A := T47.setTop (mkF m 167 #[.val (.int p1), .val (.int p2), .val (.int p3), .val (.int p4), .val (.int 3), .val (.int ch0), .val (.int ch1), .val (.int ch2), .val (.ref c37), .val (.ref c38), .val (.ref c37)] [(.ref c38)])) (fun _ kz => ?_) ?_
    · refine XS.ifnullNo X47.here hx rfl (hb hby at_162) rfl ?_
      refine XS.aload X47.here hx rfl (hb hby at_165) rfl rfl ?_
      exact kz
    obtain ⟨cq48, kq48, q48a, q48b, q48c⟩ := isOf hZ e47 Ex38
    obtain ⟨_, _, ⟨T48, L48, k48, n48⟩, -, X48, ⟨Lc48, hQ48, l48, y48, z48⟩, st48⟩ := X47.virtualBack hx (y := (⟨"dev/parlance/model/Message", "toolCalls", "()Ljava/util/List;"⟩ : MethodName)) (z := (⟨"dev/parlance/model/Message", "toolCalls", "()Ljava/util/List;"⟩ : MethodName)) hown (mvT hZ (own_w hw 110 rfl)) (mvT hZ (own_w hw 111 rfl)) (notFace_of_selects (args := #[]) (mvT hZ (own_w hw 113 rfl))) (mvT hZ (own_w hw 113 rfl)) (mvT hZ (own_w hw 112 rfl)) (by decide) (backOf (W := 0) (rmG_toolCalls l Z a0 hw [] c38 lst T38.heap n0 Z38 Fm238) hZ (own_w hw 114 rfl) (own_w hw 37 rfl) (by decide) (by decide)) q48a q48c (g := (mkF m 167 #[.val (.int p1), .val (.int p2), .val (.int p3), .val (.int p4), .val (.int 3), .val (.int ch0), .val (.int ch1), .val (.int ch2), .val (.ref c37), .val (.ref c38), .val (.ref c37)] [(.ref c38)])) rfl (by rw [hml]; rfl) (Steps.refl _) (argsL := []) (rest := []) (lenOf own_pd15 rfl) rfl (by show 2 * 0 + _ ≤ _; exact Nat.le_of_eq rfl) (hb hby at_167) (fun _ _ => ⟨rfl, e47, (by decide : 5 + 0 ≤ _), (by decide : 20 + 0 ≤ _)⟩)
    dsimp only [Pt.U, Pt.locs, Pt.cells, Pt.slots] at X48 l48 y48 z48 st48 hQ48
    subst l48 y48 z48
    obtain ⟨rfl, N48q, e48⟩ := hQ48
    have N48 := Fr.app N47 N48q
    refine own_go (A := T48.setTop (mkF m 170 #[.val (.int p1), .val (.int p2), .val (.int p3), .val (.int p4), .val (.int 3), .val (.int ch0), .val (.int ch1), .val (.int ch2), .val (.ref c37), .val (.ref c38), .val (.ref c37)] [(.ref lst)])) (fun _ kz => st48.trans kz) ?_
    obtain ⟨cq49, kq49, q49a, q49b, q49c⟩ := isOf hZ e48 Exl_
    obtain ⟨_, _, ⟨T49, L49, k49, n49⟩, -, X49, ⟨Lc49, hQ49, l49, y49, z49⟩, st49⟩ := X48.interfaceBack hx (xi := (⟨"java/util/List", "size", "()I"⟩ : MethodName)) (y := (⟨"java/util/ImmutableCollections$ListN", "size", "()I"⟩ : MethodName)) hown (mvT hZ (own_w hw 115 rfl)) (mvT hZ (own_w hw 116 rfl)) (mvT hZ (own_w hw 117 rfl)) (mvT hZ (own_w hw 118 rfl)) (mvT hZ (own_w hw 119 rfl)) (mvT hZ (own_w hw 120 rfl)) (mvT hZ (own_w hw 121 rfl)) (mvT hZ (own_w hw 122 rfl)) (by decide) (backOf (W := 0) (rmSz l Z a0 hw [] lst el ke T38.heap n0 Z38 Fel Ael) hZ (own_w hw 124 rfl) (own_w hw 123 rfl) (by decide) (by decide)) q49a q49b q49c (g := (mkF m 170 #[.val (.int p1), .val (.int p2), .val (.int p3), .val (.int p4), .val (.int 3), .val (.int ch0), .val (.int ch1), .val (.int ch2), .val (.ref c37), .val (.ref c38), .val (.ref c37)] [(.ref lst)])) rfl (by rw [hml]; rfl) (Steps.refl _) (argsL := []) (rest := []) (lenOf own_pd21 rfl) rfl (by show 2 * 0 + _ ≤ _; exact Nat.le_of_eq rfl) (hb hby at_170) (fun _ _ => ⟨rfl, e48, (by decide : 5 + 0 ≤ _), (by decide : 20 + 0 ≤ _)⟩)
    dsimp only [Pt.U, Pt.locs, Pt.cells, Pt.slots] at X49 l49 y49 z49 st49 hQ49
    subst l49 y49 z49
    obtain ⟨rfl, N49q, e49⟩ := hQ49
    have N49 := Fr.app N48 N49q
    refine own_go (A := T49.setTop (mkF m 175 #[.val (.int p1), .val (.int p2), .val (.int p3), .val (.int p4), .val (.int 3), .val (.int ch0), .val (.int ch1), .val (.int ch2), .val (.ref c37), .val (.ref c38), .val (.ref c37)] [(.int 0)])) (fun _ kz => st49.trans kz) ?_
    refine own_go (A := T49.setTop (mkF m 182 #[.val (.int p1), .val (.int p2), .val (.int p3), .val (.int p4), .val (.int 3), .val (.int ch0), .val (.int ch1), .val (.int ch2), .val (.ref c37), .val (.ref c38), .val (.ref c37)] [(.ref c38)])) (fun _ kz => ?_) ?_
    · refine XS.ifYes X49.here hx rfl (pc0 := 175) (pc' := 180) rfl (hb hby at_175) rfl ((if0 _ _).trans (teq (by decide : ((0 : Int32) = (0 : Int32)))).1) (by decide) (by decide) ?_
      refine XS.aload X49.here hx rfl (hb hby at_180) rfl rfl ?_
      exact kz
    obtain ⟨cq50, kq50, q50a, q50b, q50c⟩ := isOf hZ e49 Ex38
    obtain ⟨_, _, ⟨T50, L50, k50, n50⟩, -, X50, ⟨Lc50, hQ50, l50, y50, z50⟩, st50⟩ := X49.virtualBack hx (y := (⟨"dev/parlance/model/Message", "toolCallId", "()Ljava/lang/String;"⟩ : MethodName)) (z := (⟨"dev/parlance/model/Message", "toolCallId", "()Ljava/lang/String;"⟩ : MethodName)) hown (mvT hZ (own_w hw 127 rfl)) (mvT hZ (own_w hw 128 rfl)) (notFace_of_selects (args := #[]) (mvT hZ (own_w hw 130 rfl))) (mvT hZ (own_w hw 130 rfl)) (mvT hZ (own_w hw 129 rfl)) (by decide) (backOf (W := 0) (rmG_toolCallId l Z a0 hw [] c38  T38.heap n0 Z38 Fm338) hZ (own_w hw 131 rfl) (own_w hw 37 rfl) (by decide) (by decide)) q50a q50c (g := (mkF m 182 #[.val (.int p1), .val (.int p2), .val (.int p3), .val (.int p4), .val (.int 3), .val (.int ch0), .val (.int ch1), .val (.int ch2), .val (.ref c37), .val (.ref c38), .val (.ref c37)] [(.ref c38)])) rfl (by rw [hml]; rfl) (Steps.refl _) (argsL := []) (rest := []) (lenOf own_pd20 rfl) rfl (by show 2 * 0 + _ ≤ _; exact Nat.le_of_eq rfl) (hb hby at_182) (fun _ _ => ⟨rfl, e49, (by decide : 5 + 0 ≤ _), (by decide : 20 + 0 ≤ _)⟩)
    dsimp only [Pt.U, Pt.locs, Pt.cells, Pt.slots] at X50 l50 y50 z50 st50 hQ50
    subst l50 y50 z50
    obtain ⟨rfl, N50q, e50⟩ := hQ50
    have N50 := Fr.app N49 N50q
    refine own_go (A := T50.setTop (mkF m 185 #[.val (.int p1), .val (.int p2), .val (.int p3), .val (.int p4), .val (.int 3), .val (.int ch0), .val (.int ch1), .val (.int ch2), .val (.ref c37), .val (.ref c38), .val (.ref c37)] [.null])) (fun _ kz => st50.trans kz) ?_
    refine own_go (A := T50.setTop (mkF m 193 #[.val (.int p1), .val (.int p2), .val (.int p3), .val (.int p4), .val (.int 3), .val (.int ch0), .val (.int ch1), .val (.int ch2), .val (.ref c37), .val (.ref c38), .val (.ref c37)] [(.int 1)])) (fun _ kz => ?_) ?_
    · refine XS.ifnonnullNo X50.here hx rfl (hb hby at_185) rfl ?_
      refine XS.iconst X50.here hx rfl (hb hby at_188) ?_
      refine XS.goto X50.here hx rfl (pc0 := 189) (pc' := 193) rfl (hb hby at_189) (by decide) (by decide) ?_
      exact kz
    obtain ⟨fs, hrr, hrun, hended, rW1, rW2, rW3, rW4⟩ := X50.leaveW hS (by rw [e50]; exact hk) (v := some (.int 1)) (fun h => by rw [Bd.returns] at h; cases h)
    refine ⟨_, _, ?_, hrun, hended, _, _, rfl, ?_, rW1, rW2, rW3, rW4.mono (by decide) (by decide)⟩
    · show Steps p.tables e below (T50.setTop (mkF m 193 #[.val (.int p1), .val (.int p2), .val (.int p3), .val (.int p4), .val (.int 3), .val (.int ch0), .val (.int ch1), .val (.int ch2), .val (.ref c37), .val (.ref c38), .val (.ref c37)] [(.int 1)])) _
      exact retN X50 hx (t := .boolean) Bd.returns (by simp) (hb hby at_193) hrr
    · show Qrm0 Z  h0 n0 _ T50.heap _
      rw [e50]
      exact ⟨rfl, N50⟩
set_option maxRecDepth 65536 in
set_option maxHeartbeats 40000000 in
theorem comes_1 {Post : Tables → Env → Array Value → State → Outcome → State → Prop} (hpost : ∀ tb e args s v u, (limb_1_1.after args s (.returned v) u = true ∧ limb_1_2.after args s (.returned v) u = true ∧ True) → ReturnedEndW s (.returned v) u (Jvm.fieldLocs frame_1_writes args s ++ Jvm.arrayLocs frame_1_arrays args s ++ Jvm.staticLocs frame_1_statics s) 24 1152 → Post tb e args s (.returned v) u) :
    ArmFor flags0 classFile x code maxLocals ret World_1 tables_1 room_1 Calls_1 rest_1 Pre_1 Post := by
  intro l hfl _ _ p e ha hc hk s m args below hf hA hF happ hP
  obtain ⟨hcalls, hrest, hpre⟩ := hP
  obtain ⟨-, -, -, hnamed, -, -, -, hat⟩ := (Spec.applies_iff hf).mp happ
  obtain ⟨hg, hn⟩ := and_e (Cond.before_iff.mp (show (Jvm.Cond.and given_1 narrow_1).before args s = true from hpre))
  obtain ⟨hcnt, hg1⟩ := and_e hg
  obtain ⟨ha0, hg2⟩ := and_e hg1
  obtain ⟨ha1, hg3⟩ := and_e hg2
  obtain ⟨ha2, hg4⟩ := and_e hg3
  obtain ⟨w0, w1, w2, w3, rfl⟩ : ∃ w0 w1 w2 w3 : Value, args = #[w0, w1, w2, w3] := by
    have hs : args.size = 4 := by simpa [Cond.value, given_1] using hcnt
    obtain ⟨L⟩ := args
    match L, hs with
    | [w0, w1, w2, w3], _ => exact ⟨w0, w1, w2, w3, rfl⟩
  have hw := fun d (hd : d ∈ tables_1) => atoms_spec (ws := Jvm.Cond.code x code maxLocals ret :: tables_1) hat d (List.mem_cons_of_mem _ hd)
  have hfit : Fit s := fun {y c} hc i hi => by
    obtain ⟨ha, rfl⟩ := Array.getElem?_eq_some_iff.mp hc
    have q := List.all_eq_true.mp ((Array.all_eq_true_iff_forall_mem.mp hF) _ (Array.getElem_mem ha)) i (List.mem_range.mpr hi)
    simpa [Array.getElem?_eq_getElem hi] using q
  obtain ⟨i0, ei0⟩ := is_v ha0
  obtain rfl : w0 = (.int i0) := Option.some.inj ei0
  obtain ⟨i1, ei1⟩ := is_v ha1
  obtain rfl : w1 = (.int i1) := Option.some.inj ei1
  obtain ⟨i2, ei2⟩ := is_v ha2
  obtain rfl : w2 = (.int i2) := Option.some.inj ei2
  obtain ⟨i3, ei3⟩ := is_v hg4
  obtain rfl : w3 = (.int i3) := Option.some.inj ei3
  obtain ⟨hsets, hown0⟩ := atoms_of _ (rest_1_c_eq ▸ (show rest_1_c.before _ s = true from hrest))
  have hcw : Jvm.Lit.compactW.before _ s = true := hsets _ (List.mem_of_getElem? (i := 2) rfl)
  have n3 := not_v (Cond.before_iff.mp (hsets _ (List.mem_of_getElem? (i := 2) rfl)))
  obtain ⟨cs, ecs⟩ := is_v (Cond.before_iff.mp (hsets _ (List.mem_of_getElem? (i := 1) rfl)))
  have S_cs : Sta s s.heap "java/lang/String" "COMPACT_STRINGS" "Z" (.int cs) := Sta.start ecs (Or.inl (hsets _ (List.mem_of_getElem? (i := 0) rfl)))
  have hcs : ¬ (cs = (0 : Int32)) := gotF (Cond.eq_ints ecs (Term.int_eval (0))) n3
  obtain ⟨fm, efm, rfm⟩ := isR_v (Cond.before_iff.mp (hsets _ (List.mem_of_getElem? (i := 8) rfl)))
  have S_fm : Sta s s.heap "jdk/internal/util/Preconditions" "SIOOBE_FORMATTER" "Ljava/util/function/BiFunction;" fm := Sta.start efm (Or.inl (hsets _ (List.mem_of_getElem? (i := 7) rfl)))
  have S_ad : Sta s s.heap "java/lang/StringUTF16" "$assertionsDisabled" "Z" (.int 1) := Sta.start (own_eqInt (Cond.before_iff.mp (hsets _ (List.mem_of_getElem? (i := 19) rfl)))) (Or.inl (hsets _ (List.mem_of_getElem? (i := 18) rfl)))
  have S_hi : Sta s s.heap "java/lang/StringUTF16" "HI_BYTE_SHIFT" "I" (.int 0) := Sta.start (own_eqInt (Cond.before_iff.mp (hsets _ (List.mem_of_getElem? (i := 22) rfl)))) (Or.inl (hsets _ (List.mem_of_getElem? (i := 21) rfl)))
  have S_lo : Sta s s.heap "java/lang/StringUTF16" "LO_BYTE_SHIFT" "I" (.int 8) := Sta.start (own_eqInt (Cond.before_iff.mp (hsets _ (List.mem_of_getElem? (i := 25) rfl)))) (Or.inl (hsets _ (List.mem_of_getElem? (i := 24) rfl)))
  obtain ⟨lst, elst⟩ := exa_v (Cond.before_iff.mp (hsets _ (List.mem_of_getElem? (i := 11) rfl)))
  have S_l : Sta s s.heap "java/util/ImmutableCollections" "EMPTY_LIST" "Ljava/util/ImmutableCollections$ListN;" (.ref lst) := Sta.start elst (Or.inl (hsets _ (List.mem_of_getElem? (i := 10) rfl)))
  have Exl_ := Exa.start elst (Cond.before_iff.mp (hsets _ (List.mem_of_getElem? (i := 11) rfl)))
  obtain ⟨el, ke, Fel, Ael⟩ := own_emptyArr hfit elst (Cond.before_iff.mp (hsets _ (List.mem_of_getElem? (i := 12) rfl))) (Cond.before_iff.mp (hsets _ (List.mem_of_getElem? (i := 14) rfl)))
  obtain ⟨kT, ekT⟩ := exa_v hn
  have S_T : Sta s s.heap "dev/parlance/model/Role" "ASSISTANT" "Ldev/parlance/model/Role;" (.ref kT) := Sta.start ekT (Or.inr ⟨(own_w hw 42 rfl), (own_w hw 43 rfl)⟩)
  have hheld : ∀ q ∈ consts_1, Jvm.Lit.constHeld s q.1 q.2 := fun q hq => hcalls.1 q hq
  obtain ⟨n, o, h1, h2, h3, _, L, rfl, ⟨rfl, N⟩, hq⟩ := rm0 l s _ hw tables_1 i0 i1 i2 i3 cs fm kT lst el ke s.heap s.heap.size (Nat.le_refl _) ⟨Nat.le_refl _, fun _ _ q => q⟩ hheld hcw hcs S_cs S_ad S_hi S_lo S_fm rfm S_T S_l Exl_ Fel Ael p e ha hc hk s m _ below hf ((Spec.applies_iff_loose hf).mp happ).1 ⟨rfl, State.Warmed39.refl s, rfl, Or.inl IB.start⟩ trivial
  refine ⟨n, _, h1, h2, h3, hpost _ _ _ _ _ _ ⟨Cond.after_iff.mpr rfl, Cond.after_iff.mpr (eq_i res_at (Term.int_eval (1)) rfl), trivial⟩ ⟨hq.1, hq.2.1, hq.2.2.1, (hq.2.2.2.sift fun y hy => Or.inr (N y hy)).mono (by decide) (by decide)⟩⟩
theorem main_1_1 : Claimed_1_1 := comes_1 fun _ _ _ _ _ _ h hF => ⟨h.1, hF⟩
theorem main_1_2 : Claimed_1_2 := comes_1 fun _ _ _ _ _ _ h hF => ⟨h.2.1, hF⟩
end Jvm.Pilot.@@N@@
namespace Jvm.Pilot.@@N@@
open Jvm Jvm.ClassFile Sem Op Lib Jvm.Free Jvm.Stand Jvm.Pilot.@@N@@.Jvm.D
/-! MADE BY PROGRAM (witnessworld.py) out of the Statement's table words and the real class files: 31 classes; the members and pool entries that the words name. The judged class is class 1, her method 1. -/
namespace start1
open Jvm.ClassFile
def u (s : String) : CpInfo := .utf8 (stringToUtf16 s)
/-- a pool by its gaps: so many unusable entries, then the entry; so many at the end -/
def gap : Nat → List CpInfo → List CpInfo
  | 0, r => r
  | n + 1, r => .unusable :: gap n r
def poolList (es : List (Nat × CpInfo)) (last : Nat) : List CpInfo := es.foldr (fun e r => gap e.1 (e.2 :: r)) (gap last [])
def pool (es : List (Nat × CpInfo)) (last : Nat) : Array CpInfo := ⟨poolList es last⟩
def fileOf (pool : Array CpInfo) (this : Nat) (attrs : Array Attribute := #[]) (ms : Array MethodInfo := #[]) (fl : Nat := 33) (sup : Nat := 0) (ifs : Array Nat := #[]) (fds : Array FieldInfo := #[]) : ClassFile where
  minorVersion := 0
  majorVersion := 65
  constantPool := pool
  accessFlags := fl
  thisClass := this
  superClass := sup
  interfaces := ifs
  fields := fds
  methods := ms
  attributes := attrs
def plain (name : String) (sup : Option ClassId) : Class where
  name := name
  kind := .ordinary
  loader := none
  accessFlags := 33
  super := sup
  interfaces := #[]
  cf := none
  fields := #[]
  methods := #[]
  instanceTypes := #[]
  staticTypes := #[]
  resolved := #[]
  callSites := []
  init := .initialized
  statics := none
  mirror := none

def pool0 : Array CpInfo := pool [(5, u "<init>"), (0, u "()V"), (1, .class_ 10), (1, u "java/lang/Object")] 113

def k0c0 : Code := { maxStack := 0, maxLocals := 1, code := object_method_1_code, exceptionTable := #[], attributes := #[] }
def k0m0 : Method := { name := "<init>", desc := "()V", sig := { parameters := [], returnType := none }, accessFlags := 1, code := some k0c0 }
/-- java/lang/Object -/
def k0 : Class := { plain "java/lang/Object" none with
  accessFlags := 33
  interfaces := #[]
  cf := some (fileOf pool0 8 #[] #[{ accessFlags := 1, nameIndex := 5, descriptorIndex := 6, attributes := #[] }] 33 0 #[] #[])
  fields := #[]
  methods := #[k0m0]
  instanceTypes := #[]
  staticTypes := #[]
  resolved := Array.replicate 124 none
  statics := none }

def pool1 : Array CpInfo := pool [(2, .class_ 4), (1, u "java/lang/Object"), (0, u "<init>"), (0, u "()V"), (0, .integer 65535), (0, .methodref 9 10), (0, .class_ 11), (0, .nameAndType 12 13), (0, u "dev/parlance/model/MessageAssistantPinLaw"), (0, u "make"), (0, u "(ICCC)Ljava/lang/String;"), (0, .methodref 15 16), (0, .class_ 17), (0, .nameAndType 18 19), (0, u "dev/parlance/model/Message"), (0, u "assistant"), (0, u "(Ljava/lang/String;)Ldev/parlance/model/Message;"), (0, .methodref 15 21), (0, .nameAndType 22 23), (0, u "role"), (0, u "()Ldev/parlance/model/Role;"), (0, .fieldref 25 26), (0, .class_ 27), (0, .nameAndType 28 29), (0, u "dev/parlance/model/Role"), (0, u "ASSISTANT"), (0, u "Ldev/parlance/model/Role;"), (0, .methodref 15 31), (0, .nameAndType 32 33), (0, u "content"), (0, u "()Ljava/lang/String;"), (0, .methodref 35 36), (0, .class_ 37), (0, .nameAndType 38 39), (0, u "java/lang/String"), (0, u "length"), (0, u "()I"), (0, .methodref 35 41), (0, .nameAndType 42 43), (0, u "equals"), (0, u "(Ljava/lang/Object;)Z"), (0, .methodref 35 45), (0, .nameAndType 46 47), (0, u "charAt"), (0, u "(I)C"), (0, .methodref 15 49), (0, .nameAndType 50 51), (0, u "toolCalls"), (0, u "()Ljava/util/List;"), (0, .interfaceMethodref 53 54), (0, .class_ 55), (0, .nameAndType 56 39), (0, u "java/util/List"), (0, u "size"), (0, .methodref 15 58), (0, .nameAndType 59 33), (0, u "toolCallId"), (0, .methodref 35 61), (0, .nameAndType 5 62), (0, u "([C)V"), (2, u "law"), (0, u "(IIII)Z")] 3

def k1m0 : Method := { name := "<init>", desc := "()V", sig := { parameters := [], returnType := none }, accessFlags := 1, code := none }
def k1c1 : Code := { maxStack := 4, maxLocals := 11, code := code, exceptionTable := #[], attributes := #[] }
def k1m1 : Method := { name := "law", desc := "(IIII)Z", sig := { parameters := [.int, .int, .int, .int], returnType := some .boolean }, accessFlags := 9, code := some k1c1 }
def k1c2 : Code := { maxStack := 6, maxLocals := 4, code := method_3_code, exceptionTable := #[], attributes := #[] }
def k1m2 : Method := { name := "make", desc := "(ICCC)Ljava/lang/String;", sig := { parameters := [.int, .char, .char, .char], returnType := some (.object "java/lang/String") }, accessFlags := 10, code := some k1c2 }
/-- dev/parlance/model/MessageAssistantPinLaw -/
def k1 : Class := { plain "dev/parlance/model/MessageAssistantPinLaw" (some 0) with
  accessFlags := 49
  interfaces := #[]
  cf := some (fileOf pool1 9 #[] #[{ accessFlags := 1, nameIndex := 5, descriptorIndex := 6, attributes := #[] }, { accessFlags := 9, nameIndex := 65, descriptorIndex := 66, attributes := #[] }, { accessFlags := 10, nameIndex := 12, descriptorIndex := 13, attributes := #[] }] 49 2 #[] #[])
  fields := #[]
  methods := #[k1m0, k1m1, k1m2]
  instanceTypes := #[]
  staticTypes := #[]
  resolved := Array.replicate 70 none
  statics := none }

def pool2 : Array CpInfo := pool [(1, .class_ 2), (0, u "java/io/Serializable"), (0, .class_ 4), (0, u "java/lang/Object")] 2

/-- java/io/Serializable -/
def k2 : Class := { plain "java/io/Serializable" (some 0) with
  accessFlags := 1537
  interfaces := #[]
  cf := some (fileOf pool2 1 #[] #[] 1537 3 #[] #[])
  fields := #[]
  methods := #[]
  instanceTypes := #[]
  staticTypes := #[]
  resolved := Array.replicate 7 none
  statics := none }

def pool3 : Array CpInfo := pool [(1, .class_ 2), (0, u "java/lang/Comparable"), (0, .class_ 4), (0, u "java/lang/Object")] 7

/-- java/lang/Comparable -/
def k3 : Class := { plain "java/lang/Comparable" (some 0) with
  accessFlags := 1537
  interfaces := #[]
  cf := some (fileOf pool3 1 #[] #[] 1537 3 #[] #[])
  fields := #[]
  methods := #[]
  instanceTypes := #[]
  staticTypes := #[]
  resolved := Array.replicate 12 none
  statics := none }

def pool4 : Array CpInfo := pool [(2, .class_ 4), (1, u "java/lang/CharSequence"), (42, .class_ 48), (0, u "java/lang/CharSequence$1CodePointIterator"), (10, .class_ 60), (0, u "java/lang/CharSequence$1CharIterator"), (5, .class_ 67), (0, u "java/lang/Object")] 63

/-- java/lang/CharSequence -/
def k4 : Class := { plain "java/lang/CharSequence" (some 0) with
  accessFlags := 1537
  interfaces := #[]
  cf := some (fileOf pool4 2 #[.nestMembers #[47, 59]] #[] 1537 66 #[] #[])
  fields := #[]
  methods := #[]
  instanceTypes := #[]
  staticTypes := #[]
  resolved := Array.replicate 131 none
  statics := none }

def pool5 : Array CpInfo := pool [(1, .class_ 2), (0, u "java/lang/constant/Constable"), (0, .class_ 4), (0, u "java/lang/Object")] 6

/-- java/lang/constant/Constable -/
def k5 : Class := { plain "java/lang/constant/Constable" (some 0) with
  accessFlags := 1537
  interfaces := #[]
  cf := some (fileOf pool5 1 #[] #[] 1537 3 #[] #[])
  fields := #[]
  methods := #[]
  instanceTypes := #[]
  staticTypes := #[]
  resolved := Array.replicate 11 none
  statics := none }

def pool6 : Array CpInfo := pool [(1, .class_ 2), (0, u "java/lang/constant/ConstantDesc"), (0, .class_ 4), (0, u "java/lang/Object")] 32

/-- java/lang/constant/ConstantDesc -/
def k6 : Class := { plain "java/lang/constant/ConstantDesc" (some 0) with
  accessFlags := 1537
  interfaces := #[]
  cf := some (fileOf pool6 1 #[] #[] 1537 3 #[] #[])
  fields := #[]
  methods := #[]
  instanceTypes := #[]
  staticTypes := #[]
  resolved := Array.replicate 37 none
  statics := none }

def pool7 : Array CpInfo := pool [(1, .methodref 2 3), (0, .class_ 4), (0, .nameAndType 5 6), (0, u "java/lang/Object"), (0, u "<init>"), (0, u "()V"), (0, .string 8), (0, u ""), (0, .fieldref 10 11), (0, .class_ 12), (0, .nameAndType 13 14), (0, u "java/lang/String"), (0, u "value"), (0, u "[B"), (0, .fieldref 10 16), (0, .nameAndType 17 18), (0, u "coder"), (0, u "B"), (2, u "hash"), (0, u "I"), (2, u "hashIsZero"), (0, u "Z"), (0, .methodref 10 28), (0, .nameAndType 5 29), (0, u "([CIILjava/lang/Void;)V"), (8, .fieldref 10 39), (0, .nameAndType 40 26), (0, u "COMPACT_STRINGS"), (1, .class_ 44), (1, u "java/lang/StringUTF16"), (0, u "compress"), (1, .methodref 42 48), (0, .nameAndType 49 50), (0, u "coderFromArrayLen"), (0, u "([BI)B"), (56, .class_ 109), (1, u "java/lang/StringLatin1"), (32, u "()Z"), (34, .methodref 42 178), (0, .nameAndType 45 179), (0, u "([CII)[B"), (154, u "()I"), (0, .methodref 10 336), (0, .nameAndType 17 337), (0, u "()B"), (25, u "([BI)C"), (27, u "(II)V"), (35, u "(I)C"), (64, .methodref 10 493), (0, .nameAndType 494 142), (0, u "isLatin1"), (0, .methodref 107 496), (0, .nameAndType 497 363), (0, u "charAt"), (0, .methodref 42 496), (2, u "checkIndex"), (5, u "length"), (35, u "equals"), (29, u "(Ljava/lang/Object;)Z"), (1, .class_ 576), (0, u "java/lang/CharSequence"), (22, u "CASE_INSENSITIVE_ORDER"), (0, u "Ljava/util/Comparator;"), (409, u "([C)V"), (42, .fieldref 1054 1055), (0, .class_ 1056), (0, .nameAndType 1057 1058), (0, u "jdk/internal/util/Preconditions"), (0, u "SIOOBE_FORMATTER"), (0, u "Ljava/util/function/BiFunction;"), (0, .methodref 1054 1060), (0, .nameAndType 501 1061), (0, u "(IILjava/util/function/BiFunction;)I"), (39, u "serialPersistentFields"), (0, u "[Ljava/io/ObjectStreamField;"), (0, .class_ 1104), (0, u "java/lang/String$CaseInsensitiveComparator"), (1, .class_ 1107), (0, u "java/io/Serializable"), (0, .class_ 1109), (0, u "java/lang/Comparable"), (0, .class_ 1111), (0, u "java/lang/constant/Constable"), (0, .class_ 1113), (0, u "java/lang/constant/ConstantDesc"), (2, u "serialVersionUID"), (0, u "J"), (3, u "REPL"), (0, u "C"), (2, u "LATIN1"), (1, u "UTF16")] 323

def k7m0 : Method := { name := "<init>", desc := "()V", sig := { parameters := [], returnType := none }, accessFlags := 1, code := none }
def k7c1 : Code := { maxStack := 5, maxLocals := 2, code := jdk_42_method_3_code, exceptionTable := #[], attributes := #[] }
def k7m1 : Method := { name := "<init>", desc := "([C)V", sig := { parameters := [(.array .char)], returnType := none }, accessFlags := 1, code := some k7c1 }
def k7c2 : Code := { maxStack := 2, maxLocals := 1, code := jdk_42_method_54_code, exceptionTable := #[], attributes := #[] }
def k7m2 : Method := { name := "length", desc := "()I", sig := { parameters := [], returnType := some .int }, accessFlags := 1, code := some k7c2 }
def k7c3 : Code := { maxStack := 2, maxLocals := 2, code := jdk_42_method_56_code, exceptionTable := #[], attributes := #[] }
def k7m3 : Method := { name := "charAt", desc := "(I)C", sig := { parameters := [.int], returnType := some .char }, accessFlags := 1, code := some k7c3 }
def k7c4 : Code := { maxStack := 2, maxLocals := 3, code := jdk_42_method_66_code, exceptionTable := #[], attributes := #[] }
def k7m4 : Method := { name := "equals", desc := "(Ljava/lang/Object;)Z", sig := { parameters := [(.object "java/lang/Object")], returnType := some .boolean }, accessFlags := 1, code := some k7c4 }
def k7c5 : Code := { maxStack := 4, maxLocals := 6, code := jdk_42_method_149_code, exceptionTable := #[], attributes := #[] }
def k7m5 : Method := { name := "<init>", desc := "([CIILjava/lang/Void;)V", sig := { parameters := [(.array .char), .int, .int, (.object "java/lang/Void")], returnType := none }, accessFlags := 2, code := some k7c5 }
def k7c6 : Code := { maxStack := 1, maxLocals := 1, code := jdk_42_method_152_code, exceptionTable := #[], attributes := #[] }
def k7m6 : Method := { name := "coder", desc := "()B", sig := { parameters := [], returnType := some .byte }, accessFlags := 0, code := some k7c6 }
def k7c7 : Code := { maxStack := 1, maxLocals := 1, code := jdk_42_method_154_code, exceptionTable := #[], attributes := #[] }
def k7m7 : Method := { name := "isLatin1", desc := "()Z", sig := { parameters := [], returnType := some .boolean }, accessFlags := 0, code := some k7c7 }
def k7c8 : Code := { maxStack := 3, maxLocals := 2, code := jdk_42_method_155_code, exceptionTable := #[], attributes := #[] }
def k7m8 : Method := { name := "checkIndex", desc := "(II)V", sig := { parameters := [.int, .int], returnType := none }, accessFlags := 8, code := some k7c8 }
/-- java/lang/String -/
def k7 : Class := { plain "java/lang/String" (some 0) with
  accessFlags := 49
  interfaces := #[2, 3, 4, 5, 6]
  cf := some (fileOf pool7 10 #[.nestMembers #[1103]] #[{ accessFlags := 1, nameIndex := 5, descriptorIndex := 6, attributes := #[] }, { accessFlags := 1, nameIndex := 5, descriptorIndex := 1010, attributes := #[] }, { accessFlags := 1, nameIndex := 507, descriptorIndex := 334, attributes := #[] }, { accessFlags := 1, nameIndex := 497, descriptorIndex := 427, attributes := #[] }, { accessFlags := 1, nameIndex := 543, descriptorIndex := 573, attributes := #[] }, { accessFlags := 2, nameIndex := 5, descriptorIndex := 29, attributes := #[] }, { accessFlags := 0, nameIndex := 17, descriptorIndex := 337, attributes := #[] }, { accessFlags := 0, nameIndex := 494, descriptorIndex := 142, attributes := #[] }, { accessFlags := 8, nameIndex := 501, descriptorIndex := 391, attributes := #[] }] 49 2 #[1106, 1108, 575, 1110, 1112] #[{ accessFlags := 18, nameIndex := 13, descriptorIndex := 14, attributes := #[] }, { accessFlags := 18, nameIndex := 17, descriptorIndex := 18, attributes := #[] }, { accessFlags := 2, nameIndex := 21, descriptorIndex := 22, attributes := #[] }, { accessFlags := 2, nameIndex := 25, descriptorIndex := 26, attributes := #[] }, { accessFlags := 26, nameIndex := 1116, descriptorIndex := 1117, attributes := #[] }, { accessFlags := 24, nameIndex := 40, descriptorIndex := 26, attributes := #[] }, { accessFlags := 26, nameIndex := 1101, descriptorIndex := 1102, attributes := #[] }, { accessFlags := 26, nameIndex := 1121, descriptorIndex := 1122, attributes := #[] }, { accessFlags := 25, nameIndex := 599, descriptorIndex := 600, attributes := #[] }, { accessFlags := 24, nameIndex := 1125, descriptorIndex := 18, attributes := #[] }, { accessFlags := 24, nameIndex := 1127, descriptorIndex := 18, attributes := #[] }])
  fields := #[{ name := "value", type := (.array .byte), accessFlags := 18, slot := 0, constantValue := 0 }, { name := "coder", type := .byte, accessFlags := 18, slot := 1, constantValue := 0 }, { name := "hash", type := .int, accessFlags := 2, slot := 2, constantValue := 0 }, { name := "hashIsZero", type := .boolean, accessFlags := 2, slot := 3, constantValue := 0 }, { name := "serialVersionUID", type := .long, accessFlags := 26, slot := 0, constantValue := 0 }, { name := "COMPACT_STRINGS", type := .boolean, accessFlags := 24, slot := 1, constantValue := 0 }, { name := "serialPersistentFields", type := (.array (.object "java/io/ObjectStreamField")), accessFlags := 26, slot := 2, constantValue := 0 }, { name := "REPL", type := .char, accessFlags := 26, slot := 3, constantValue := 0 }, { name := "CASE_INSENSITIVE_ORDER", type := (.object "java/util/Comparator"), accessFlags := 25, slot := 4, constantValue := 0 }, { name := "LATIN1", type := .byte, accessFlags := 24, slot := 5, constantValue := 0 }, { name := "UTF16", type := .byte, accessFlags := 24, slot := 6, constantValue := 0 }]
  methods := #[k7m0, k7m1, k7m2, k7m3, k7m4, k7m5, k7m6, k7m7, k7m8]
  instanceTypes := #[(.array .byte), .byte, .int, .boolean]
  staticTypes := #[.long, .boolean, (.array (.object "java/io/ObjectStreamField")), .char, (.object "java/util/Comparator"), .byte, .byte]
  resolved := Array.replicate 1451 none
  statics := some 0 }

def pool8 : Array CpInfo := pool [(3, .class_ 4), (0, u "java/lang/String"), (1, .class_ 8), (1, u "java/lang/Object"), (0, u "<init>"), (0, u "()V"), (0, .methodref 12 13), (0, .class_ 14), (0, .nameAndType 15 16), (0, u "java/lang/StringUTF16"), (0, u "newBytesLength"), (0, u "(I)I"), (3, .integer 1073741823), (23, .fieldref 12 45), (0, .nameAndType 46 47), (0, u "$assertionsDisabled"), (0, u "Z"), (0, .methodref 12 49), (0, .nameAndType 50 51), (0, u "length"), (0, u "([B)I"), (7, .fieldref 12 60), (0, .nameAndType 61 62), (0, u "HI_BYTE_SHIFT"), (0, u "I"), (0, .fieldref 12 64), (0, .nameAndType 65 62), (0, u "LO_BYTE_SHIFT"), (1, .methodref 12 68), (0, .nameAndType 69 70), (0, u "checkIndex"), (0, u "(I[B)V"), (0, .methodref 12 72), (0, .nameAndType 73 74), (0, u "getChar"), (0, u "([BI)C"), (32, .methodref 12 108), (0, .nameAndType 109 110), (0, u "newBytesFor"), (0, u "(I)[B"), (0, .methodref 12 112), (0, .nameAndType 113 114), (0, u "putChar"), (0, u "([BII)V"), (0, .methodref 12 116), (0, .nameAndType 117 118), (0, u "compress"), (0, u "([CI[BII)I"), (0, .methodref 12 120), (0, .nameAndType 121 122), (0, u "toBytes"), (0, u "([CII)[B"), (138, u "coderFromArrayLen"), (0, u "([BI)B"), (106, .class_ 371), (1, u "java/lang/StringUTF16$LinesSpliterator"), (20, u "charAt"), (21, .methodref 3 415), (0, .nameAndType 69 416), (0, u "(II)V"), (13, u "MAX_LENGTH"), (196, .class_ 628), (0, u "java/lang/StringUTF16$CodePointsSpliterator"), (0, .class_ 630), (0, u "java/lang/StringUTF16$CharsSpliterator")] 4

def k8m0 : Method := { name := "<init>", desc := "()V", sig := { parameters := [], returnType := none }, accessFlags := 0, code := none }
def k8c1 : Code := { maxStack := 1, maxLocals := 1, code := jdk_52_method_2_code, exceptionTable := #[], attributes := #[] }
def k8m1 : Method := { name := "newBytesFor", desc := "(I)[B", sig := { parameters := [.int], returnType := some (.array .byte) }, accessFlags := 9, code := some k8c1 }
def k8c2 : Code := { maxStack := 4, maxLocals := 1, code := jdk_52_method_3_code, exceptionTable := #[], attributes := #[] }
def k8m2 : Method := { name := "newBytesLength", desc := "(I)I", sig := { parameters := [.int], returnType := some .int }, accessFlags := 9, code := some k8c2 }
def k8c3 : Code := { maxStack := 4, maxLocals := 3, code := jdk_52_method_4_code, exceptionTable := #[], attributes := #[] }
def k8m3 : Method := { name := "putChar", desc := "([BII)V", sig := { parameters := [(.array .byte), .int, .int], returnType := none }, accessFlags := 8, code := some k8c3 }
def k8c4 : Code := { maxStack := 3, maxLocals := 2, code := jdk_52_method_5_code, exceptionTable := #[], attributes := #[] }
def k8m4 : Method := { name := "getChar", desc := "([BI)C", sig := { parameters := [(.array .byte), .int], returnType := some .char }, accessFlags := 8, code := some k8c4 }
def k8c5 : Code := { maxStack := 2, maxLocals := 1, code := jdk_52_method_6_code, exceptionTable := #[], attributes := #[] }
def k8m5 : Method := { name := "length", desc := "([B)I", sig := { parameters := [(.array .byte)], returnType := some .int }, accessFlags := 9, code := some k8c5 }
def k8c6 : Code := { maxStack := 4, maxLocals := 5, code := jdk_52_method_14_code, exceptionTable := #[], attributes := #[] }
def k8m6 : Method := { name := "toBytes", desc := "([CII)[B", sig := { parameters := [(.array .char), .int, .int], returnType := some (.array .byte) }, accessFlags := 9, code := some k8c6 }
def k8c7 : Code := { maxStack := 2, maxLocals := 2, code := jdk_52_method_15_code, exceptionTable := #[], attributes := #[] }
def k8m7 : Method := { name := "coderFromArrayLen", desc := "([BI)B", sig := { parameters := [(.array .byte), .int], returnType := some .byte }, accessFlags := 8, code := some k8c7 }
def k8c8 : Code := { maxStack := 5, maxLocals := 6, code := jdk_52_method_16_code, exceptionTable := #[], attributes := #[] }
def k8m8 : Method := { name := "compress", desc := "([CII)[B", sig := { parameters := [(.array .char), .int, .int], returnType := some (.array .byte) }, accessFlags := 9, code := some k8c8 }
def k8c9 : Code := { maxStack := 3, maxLocals := 7, code := jdk_52_method_21_code, exceptionTable := #[], attributes := #[] }
def k8m9 : Method := { name := "compress", desc := "([CI[BII)I", sig := { parameters := [(.array .char), .int, (.array .byte), .int, .int], returnType := some .int }, accessFlags := 9, code := some k8c9 }
def k8c10 : Code := { maxStack := 2, maxLocals := 2, code := jdk_52_method_83_code, exceptionTable := #[], attributes := #[] }
def k8m10 : Method := { name := "charAt", desc := "([BI)C", sig := { parameters := [(.array .byte), .int], returnType := some .char }, accessFlags := 9, code := some k8c10 }
def k8c11 : Code := { maxStack := 2, maxLocals := 2, code := jdk_52_method_91_code, exceptionTable := #[], attributes := #[] }
def k8m11 : Method := { name := "checkIndex", desc := "(I[B)V", sig := { parameters := [.int, (.array .byte)], returnType := none }, accessFlags := 9, code := some k8c11 }
/-- java/lang/StringUTF16 -/
def k8 : Class := { plain "java/lang/StringUTF16" (some 0) with
  accessFlags := 48
  interfaces := #[]
  cf := some (fileOf pool8 12 #[.nestMembers #[627, 629, 369]] #[{ accessFlags := 0, nameIndex := 9, descriptorIndex := 10, attributes := #[] }, { accessFlags := 9, nameIndex := 109, descriptorIndex := 110, attributes := #[] }, { accessFlags := 9, nameIndex := 15, descriptorIndex := 16, attributes := #[] }, { accessFlags := 8, nameIndex := 113, descriptorIndex := 114, attributes := #[] }, { accessFlags := 8, nameIndex := 73, descriptorIndex := 74, attributes := #[] }, { accessFlags := 9, nameIndex := 50, descriptorIndex := 51, attributes := #[] }, { accessFlags := 9, nameIndex := 121, descriptorIndex := 122, attributes := #[] }, { accessFlags := 8, nameIndex := 261, descriptorIndex := 262, attributes := #[] }, { accessFlags := 9, nameIndex := 117, descriptorIndex := 122, attributes := #[] }, { accessFlags := 9, nameIndex := 117, descriptorIndex := 118, attributes := #[] }, { accessFlags := 9, nameIndex := 392, descriptorIndex := 74, attributes := #[] }, { accessFlags := 9, nameIndex := 69, descriptorIndex := 70, attributes := #[] }] 48 6 #[] #[{ accessFlags := 26, nameIndex := 61, descriptorIndex := 62, attributes := #[] }, { accessFlags := 26, nameIndex := 65, descriptorIndex := 62, attributes := #[] }, { accessFlags := 24, nameIndex := 430, descriptorIndex := 62, attributes := #[] }, { accessFlags := 4120, nameIndex := 46, descriptorIndex := 47, attributes := #[] }])
  fields := #[{ name := "HI_BYTE_SHIFT", type := .int, accessFlags := 26, slot := 0, constantValue := 0 }, { name := "LO_BYTE_SHIFT", type := .int, accessFlags := 26, slot := 1, constantValue := 0 }, { name := "MAX_LENGTH", type := .int, accessFlags := 24, slot := 2, constantValue := 0 }, { name := "$assertionsDisabled", type := .boolean, accessFlags := 4120, slot := 3, constantValue := 0 }]
  methods := #[k8m0, k8m1, k8m2, k8m3, k8m4, k8m5, k8m6, k8m7, k8m8, k8m9, k8m10, k8m11]
  instanceTypes := #[]
  staticTypes := #[.int, .int, .int, .boolean]
  resolved := Array.replicate 635 none
  statics := some 1 }

def pool9 : Array CpInfo := pool [(1, .methodref 2 3), (0, .class_ 4), (0, .nameAndType 5 6), (0, u "java/lang/Object"), (0, u "<init>"), (0, u "()V"), (0, .fieldref 8 9), (0, .class_ 10), (0, .nameAndType 11 12), (0, u "dev/parlance/model/Message"), (0, u "role"), (0, u "Ldev/parlance/model/Role;"), (0, .fieldref 8 14), (0, .nameAndType 15 16), (0, u "content"), (0, u "Ljava/lang/String;"), (0, .fieldref 8 18), (0, .nameAndType 19 20), (0, u "toolCalls"), (0, u "Ljava/util/List;"), (0, .fieldref 8 22), (0, .nameAndType 23 16), (0, u "toolCallId"), (5, u "()Ljava/lang/String;"), (8, .class_ 40), (1, u "dev/parlance/model/Role"), (1, .interfaceMethodref 43 44), (0, .class_ 45), (0, .nameAndType 46 47), (0, u "java/util/List"), (0, u "of"), (0, u "()Ljava/util/List;"), (0, .methodref 8 49), (0, .nameAndType 5 50), (0, u "(Ldev/parlance/model/Role;Ljava/lang/String;Ljava/util/List;Ljava/lang/String;)V"), (3, .fieldref 38 55), (0, .nameAndType 56 12), (0, u "ASSISTANT"), (70, u "(Ljava/lang/String;)Ldev/parlance/model/Message;"), (1, u "assistant"), (4, u "()Ldev/parlance/model/Role;")] 40

def k9c0 : Code := { maxStack := 3, maxLocals := 5, code := prog_32_method_1_code, exceptionTable := #[], attributes := #[] }
def k9m0 : Method := { name := "<init>", desc := "(Ldev/parlance/model/Role;Ljava/lang/String;Ljava/util/List;Ljava/lang/String;)V", sig := { parameters := [(.object "dev/parlance/model/Role"), (.object "java/lang/String"), (.object "java/util/List"), (.object "java/lang/String")], returnType := none }, accessFlags := 2, code := some k9c0 }
def k9c1 : Code := { maxStack := 6, maxLocals := 1, code := prog_32_method_4_code, exceptionTable := #[], attributes := #[] }
def k9m1 : Method := { name := "assistant", desc := "(Ljava/lang/String;)Ldev/parlance/model/Message;", sig := { parameters := [(.object "java/lang/String")], returnType := some (.object "dev/parlance/model/Message") }, accessFlags := 9, code := some k9c1 }
def k9c2 : Code := { maxStack := 1, maxLocals := 1, code := prog_32_method_7_code, exceptionTable := #[], attributes := #[] }
def k9m2 : Method := { name := "role", desc := "()Ldev/parlance/model/Role;", sig := { parameters := [], returnType := some (.object "dev/parlance/model/Role") }, accessFlags := 1, code := some k9c2 }
def k9c3 : Code := { maxStack := 1, maxLocals := 1, code := prog_32_method_8_code, exceptionTable := #[], attributes := #[] }
def k9m3 : Method := { name := "content", desc := "()Ljava/lang/String;", sig := { parameters := [], returnType := some (.object "java/lang/String") }, accessFlags := 1, code := some k9c3 }
def k9c4 : Code := { maxStack := 1, maxLocals := 1, code := prog_32_method_9_code, exceptionTable := #[], attributes := #[] }
def k9m4 : Method := { name := "toolCalls", desc := "()Ljava/util/List;", sig := { parameters := [], returnType := some (.object "java/util/List") }, accessFlags := 1, code := some k9c4 }
def k9c5 : Code := { maxStack := 1, maxLocals := 1, code := prog_32_method_10_code, exceptionTable := #[], attributes := #[] }
def k9m5 : Method := { name := "toolCallId", desc := "()Ljava/lang/String;", sig := { parameters := [], returnType := some (.object "java/lang/String") }, accessFlags := 1, code := some k9c5 }
/-- dev/parlance/model/Message -/
def k9 : Class := { plain "dev/parlance/model/Message" (some 0) with
  accessFlags := 49
  interfaces := #[]
  cf := some (fileOf pool9 8 #[] #[{ accessFlags := 2, nameIndex := 5, descriptorIndex := 50, attributes := #[] }, { accessFlags := 9, nameIndex := 129, descriptorIndex := 127, attributes := #[] }, { accessFlags := 1, nameIndex := 11, descriptorIndex := 134, attributes := #[] }, { accessFlags := 1, nameIndex := 15, descriptorIndex := 29, attributes := #[] }, { accessFlags := 1, nameIndex := 19, descriptorIndex := 47, attributes := #[] }, { accessFlags := 1, nameIndex := 23, descriptorIndex := 29, attributes := #[] }] 49 2 #[] #[{ accessFlags := 18, nameIndex := 11, descriptorIndex := 12, attributes := #[] }, { accessFlags := 18, nameIndex := 15, descriptorIndex := 16, attributes := #[] }, { accessFlags := 18, nameIndex := 19, descriptorIndex := 20, attributes := #[] }, { accessFlags := 18, nameIndex := 23, descriptorIndex := 16, attributes := #[] }])
  fields := #[{ name := "role", type := (.object "dev/parlance/model/Role"), accessFlags := 18, slot := 0, constantValue := 0 }, { name := "content", type := (.object "java/lang/String"), accessFlags := 18, slot := 1, constantValue := 0 }, { name := "toolCalls", type := (.object "java/util/List"), accessFlags := 18, slot := 2, constantValue := 0 }, { name := "toolCallId", type := (.object "java/lang/String"), accessFlags := 18, slot := 3, constantValue := 0 }]
  methods := #[k9m0, k9m1, k9m2, k9m3, k9m4, k9m5]
  instanceTypes := #[(.object "dev/parlance/model/Role"), (.object "java/lang/String"), (.object "java/util/List"), (.object "java/lang/String")]
  staticTypes := #[]
  resolved := Array.replicate 175 none
  statics := none }

def pool10 : Array CpInfo := pool [(2, .class_ 4), (1, u "java/lang/Enum"), (0, u "name"), (0, u "Ljava/lang/String;"), (2, u "ordinal"), (0, u "I"), (1, .class_ 14), (1, u "java/lang/Object"), (4, u "hash"), (86, .class_ 108), (1, u "java/lang/Enum$EnumDesc"), (2, .class_ 112), (0, u "java/lang/constant/Constable"), (0, .class_ 114), (0, u "java/lang/Comparable"), (0, .class_ 116), (0, u "java/io/Serializable")] 87

/-- java/lang/Enum -/
def k10 : Class := { plain "java/lang/Enum" (some 0) with
  accessFlags := 1057
  interfaces := #[5, 3, 2]
  cf := some (fileOf pool10 2 #[.nestMembers #[106]] #[] 1057 12 #[111, 113, 115] #[{ accessFlags := 18, nameIndex := 5, descriptorIndex := 6, attributes := #[] }, { accessFlags := 18, nameIndex := 9, descriptorIndex := 10, attributes := #[] }, { accessFlags := 2, nameIndex := 19, descriptorIndex := 10, attributes := #[] }])
  fields := #[{ name := "name", type := (.object "java/lang/String"), accessFlags := 18, slot := 0, constantValue := 0 }, { name := "ordinal", type := .int, accessFlags := 18, slot := 1, constantValue := 0 }, { name := "hash", type := .int, accessFlags := 2, slot := 2, constantValue := 0 }]
  methods := #[]
  instanceTypes := #[(.object "java/lang/String"), .int, .int]
  staticTypes := #[]
  resolved := Array.replicate 204 none
  statics := none }

def pool11 : Array CpInfo := pool [(1, .class_ 2), (0, u "dev/parlance/model/Role"), (2, u "SYSTEM"), (0, u "Ldev/parlance/model/Role;"), (2, u "USER"), (2, u "ASSISTANT"), (2, u "TOOL"), (2, u "$VALUES"), (0, u "[Ldev/parlance/model/Role;"), (6, .class_ 28), (1, u "java/lang/Enum")] 26

/-- dev/parlance/model/Role -/
def k11 : Class := { plain "dev/parlance/model/Role" (some 10) with
  accessFlags := 16433
  interfaces := #[]
  cf := some (fileOf pool11 1 #[] #[] 16433 26 #[] #[{ accessFlags := 16409, nameIndex := 5, descriptorIndex := 6, attributes := #[] }, { accessFlags := 16409, nameIndex := 9, descriptorIndex := 6, attributes := #[] }, { accessFlags := 16409, nameIndex := 12, descriptorIndex := 6, attributes := #[] }, { accessFlags := 16409, nameIndex := 15, descriptorIndex := 6, attributes := #[] }, { accessFlags := 4122, nameIndex := 18, descriptorIndex := 19, attributes := #[] }])
  fields := #[{ name := "SYSTEM", type := (.object "dev/parlance/model/Role"), accessFlags := 16409, slot := 0, constantValue := 0 }, { name := "USER", type := (.object "dev/parlance/model/Role"), accessFlags := 16409, slot := 1, constantValue := 0 }, { name := "ASSISTANT", type := (.object "dev/parlance/model/Role"), accessFlags := 16409, slot := 2, constantValue := 0 }, { name := "TOOL", type := (.object "dev/parlance/model/Role"), accessFlags := 16409, slot := 3, constantValue := 0 }, { name := "$VALUES", type := (.array (.object "dev/parlance/model/Role")), accessFlags := 4122, slot := 4, constantValue := 0 }]
  methods := #[]
  instanceTypes := #[(.object "java/lang/String"), .int, .int]
  staticTypes := #[(.object "dev/parlance/model/Role"), (.object "dev/parlance/model/Role"), (.object "dev/parlance/model/Role"), (.object "dev/parlance/model/Role"), (.array (.object "dev/parlance/model/Role"))]
  resolved := Array.replicate 55 none
  statics := some 2 }

def pool12 : Array CpInfo := pool [(8, .class_ 10), (1, u "java/lang/Iterable"), (24, .class_ 36), (0, u "java/lang/Object")] 25

/-- java/lang/Iterable -/
def k12 : Class := { plain "java/lang/Iterable" (some 0) with
  accessFlags := 1537
  interfaces := #[]
  cf := some (fileOf pool12 8 #[] #[] 1537 35 #[] #[])
  fields := #[]
  methods := #[]
  instanceTypes := #[]
  staticTypes := #[]
  resolved := Array.replicate 62 none
  statics := none }

def pool13 : Array CpInfo := pool [(10, .class_ 12), (1, u "java/util/Collection"), (47, .class_ 61), (0, u "java/lang/Object"), (0, .class_ 63), (0, u "java/lang/Iterable")] 51

/-- java/util/Collection -/
def k13 : Class := { plain "java/util/Collection" (some 0) with
  accessFlags := 1537
  interfaces := #[12]
  cf := some (fileOf pool13 10 #[] #[] 1537 60 #[62] #[])
  fields := #[]
  methods := #[]
  instanceTypes := #[]
  staticTypes := #[]
  resolved := Array.replicate 115 none
  statics := none }

def pool14 : Array CpInfo := pool [(8, .class_ 10), (1, u "java/util/SequencedCollection"), (15, .class_ 27), (0, u "java/lang/Object"), (0, .class_ 29), (0, u "java/util/Collection")] 27

/-- java/util/SequencedCollection -/
def k14 : Class := { plain "java/util/SequencedCollection" (some 0) with
  accessFlags := 1537
  interfaces := #[13]
  cf := some (fileOf pool14 8 #[] #[] 1537 26 #[28] #[])
  fields := #[]
  methods := #[]
  instanceTypes := #[]
  staticTypes := #[]
  resolved := Array.replicate 57 none
  statics := none }

def pool15 : Array CpInfo := pool [(8, .class_ 10), (1, u "java/util/List"), (68, u "size"), (0, u "()I"), (7, u "of"), (1, .fieldref 91 92), (0, .class_ 93), (0, .nameAndType 94 95), (0, u "java/util/ImmutableCollections"), (0, u "EMPTY_LIST"), (0, u "Ljava/util/ImmutableCollections$ListN;"), (7, .class_ 104), (0, u "java/lang/Object"), (14, u "()Ljava/util/List;"), (0, .class_ 121), (0, u "java/util/SequencedCollection")] 129

def k15m0 : Method := { name := "size", desc := "()I", sig := { parameters := [], returnType := some .int }, accessFlags := 1025, code := none }
def k15c1 : Code := { maxStack := 1, maxLocals := 0, code := jdk_40_method_36_code, exceptionTable := #[], attributes := #[] }
def k15m1 : Method := { name := "of", desc := "()Ljava/util/List;", sig := { parameters := [], returnType := some (.object "java/util/List") }, accessFlags := 9, code := some k15c1 }
/-- java/util/List -/
def k15 : Class := { plain "java/util/List" (some 0) with
  accessFlags := 1537
  interfaces := #[14]
  cf := some (fileOf pool15 8 #[] #[{ accessFlags := 1025, nameIndex := 79, descriptorIndex := 80, attributes := #[] }, { accessFlags := 9, nameIndex := 88, descriptorIndex := 119, attributes := #[] }] 1537 103 #[120] #[])
  fields := #[]
  methods := #[k15m0, k15m1]
  instanceTypes := #[]
  staticTypes := #[]
  resolved := Array.replicate 251 none
  statics := none }

def pool16 : Array CpInfo := pool [(2, .class_ 4), (1, u "java/lang/Object"), (0, u "<init>"), (0, u "()V"), (3, .class_ 11), (0, u "java/util/ImmutableCollections$List12"), (0, .class_ 13), (0, u "java/util/ImmutableCollections$ListN"), (3, u "Z"), (29, .class_ 49), (1, u "java/util/ImmutableCollections"), (0, u "$assertionsDisabled"), (5, u "[Ljava/lang/Object;"), (5, u "EMPTY_LIST"), (0, u "Ljava/util/ImmutableCollections$ListN;"), (8, u "EMPTY_LIST_NULLS"), (22, u "SALT32L"), (0, u "J"), (2, u "REVERSE"), (6, u "archivedObjects"), (2, u "EMPTY"), (0, u "Ljava/lang/Object;"), (0, .class_ 112), (0, u "java/util/ImmutableCollections$SetN"), (5, u "EMPTY_SET"), (0, u "Ljava/util/ImmutableCollections$SetN;"), (0, .class_ 121), (0, u "java/util/ImmutableCollections$MapN"), (3, u "EMPTY_MAP"), (0, u "Ljava/util/ImmutableCollections$MapN;"), (4, u "EXPAND_FACTOR"), (0, u "I"), (36, .class_ 170), (0, u "java/util/ImmutableCollections$MapN$MapNIterator"), (0, .class_ 172), (0, u "java/util/ImmutableCollections$MapN$1"), (0, .class_ 174), (0, u "java/util/ImmutableCollections$Map1"), (0, .class_ 176), (0, u "java/util/ImmutableCollections$AbstractImmutableMap"), (0, .class_ 178), (0, u "java/util/ImmutableCollections$SetN$SetNIterator"), (0, .class_ 180), (0, u "java/util/ImmutableCollections$Set12"), (0, .class_ 182), (0, u "java/util/ImmutableCollections$Set12$1"), (0, .class_ 184), (0, u "java/util/ImmutableCollections$AbstractImmutableSet"), (0, .class_ 186), (0, u "java/util/ImmutableCollections$SubList"), (0, .class_ 188), (0, u "java/util/ImmutableCollections$ListItr"), (0, .class_ 190), (0, u "java/util/ImmutableCollections$AbstractImmutableList"), (0, .class_ 192), (0, u "java/util/ImmutableCollections$AbstractImmutableCollection"), (0, .class_ 194), (0, u "java/util/ImmutableCollections$Access"), (0, .class_ 196), (0, u "java/util/ImmutableCollections$Access$1")] 16

def k16m0 : Method := { name := "<init>", desc := "()V", sig := { parameters := [], returnType := none }, accessFlags := 2, code := none }
/-- java/util/ImmutableCollections -/
def k16 : Class := { plain "java/util/ImmutableCollections" (some 0) with
  accessFlags := 32
  interfaces := #[]
  cf := some (fileOf pool16 47 #[.nestMembers #[120, 169, 171, 173, 175, 111, 177, 179, 181, 183, 12, 10, 185, 187, 189, 191, 193, 195]] #[{ accessFlags := 2, nameIndex := 5, descriptorIndex := 6, attributes := #[] }] 32 2 #[] #[{ accessFlags := 26, nameIndex := 95, descriptorIndex := 96, attributes := #[] }, { accessFlags := 26, nameIndex := 99, descriptorIndex := 17, attributes := #[] }, { accessFlags := 10, nameIndex := 106, descriptorIndex := 56, attributes := #[] }, { accessFlags := 26, nameIndex := 109, descriptorIndex := 110, attributes := #[] }, { accessFlags := 24, nameIndex := 62, descriptorIndex := 63, attributes := #[] }, { accessFlags := 24, nameIndex := 72, descriptorIndex := 63, attributes := #[] }, { accessFlags := 24, nameIndex := 118, descriptorIndex := 119, attributes := #[] }, { accessFlags := 24, nameIndex := 125, descriptorIndex := 126, attributes := #[] }, { accessFlags := 24, nameIndex := 131, descriptorIndex := 132, attributes := #[] }, { accessFlags := 4120, nameIndex := 50, descriptorIndex := 17, attributes := #[] }])
  fields := #[{ name := "SALT32L", type := .long, accessFlags := 26, slot := 0, constantValue := 0 }, { name := "REVERSE", type := .boolean, accessFlags := 26, slot := 1, constantValue := 0 }, { name := "archivedObjects", type := (.array (.object "java/lang/Object")), accessFlags := 10, slot := 2, constantValue := 0 }, { name := "EMPTY", type := (.object "java/lang/Object"), accessFlags := 26, slot := 3, constantValue := 0 }, { name := "EMPTY_LIST", type := (.object "java/util/ImmutableCollections$ListN"), accessFlags := 24, slot := 4, constantValue := 0 }, { name := "EMPTY_LIST_NULLS", type := (.object "java/util/ImmutableCollections$ListN"), accessFlags := 24, slot := 5, constantValue := 0 }, { name := "EMPTY_SET", type := (.object "java/util/ImmutableCollections$SetN"), accessFlags := 24, slot := 6, constantValue := 0 }, { name := "EMPTY_MAP", type := (.object "java/util/ImmutableCollections$MapN"), accessFlags := 24, slot := 7, constantValue := 0 }, { name := "EXPAND_FACTOR", type := .int, accessFlags := 24, slot := 8, constantValue := 0 }, { name := "$assertionsDisabled", type := .boolean, accessFlags := 4120, slot := 9, constantValue := 0 }]
  methods := #[k16m0]
  instanceTypes := #[]
  staticTypes := #[.long, .boolean, (.array (.object "java/lang/Object")), (.object "java/lang/Object"), (.object "java/util/ImmutableCollections$ListN"), (.object "java/util/ImmutableCollections$ListN"), (.object "java/util/ImmutableCollections$SetN"), (.object "java/util/ImmutableCollections$MapN"), .int, .boolean]
  resolved := Array.replicate 213 none
  statics := some 3 }

def pool17 : Array CpInfo := pool [(1, .class_ 2), (0, u "java/lang/String"), (1, .class_ 6), (1, u "java/lang/Object"), (0, u "<init>"), (0, u "()V"), (0, .methodref 1 10), (0, .nameAndType 11 12), (0, u "checkIndex"), (0, u "(II)V"), (1, .class_ 16), (1, u "java/lang/StringLatin1"), (36, u "([BI)C"), (67, u "$assertionsDisabled"), (0, u "Z"), (98, .class_ 223), (1, u "java/lang/StringLatin1$LinesSpliterator"), (28, u "charAt"), (137, .class_ 391), (0, u "java/lang/StringLatin1$CharsSpliterator")] 3

def k17m0 : Method := { name := "<init>", desc := "()V", sig := { parameters := [], returnType := none }, accessFlags := 0, code := none }
def k17c1 : Code := { maxStack := 2, maxLocals := 2, code := jdk_43_method_2_code, exceptionTable := #[], attributes := #[] }
def k17m1 : Method := { name := "charAt", desc := "([BI)C", sig := { parameters := [(.array .byte), .int], returnType := some .char }, accessFlags := 9, code := some k17c1 }
/-- java/lang/StringLatin1 -/
def k17 : Class := { plain "java/lang/StringLatin1" (some 0) with
  accessFlags := 48
  interfaces := #[]
  cf := some (fileOf pool17 14 #[.nestMembers #[390, 221]] #[{ accessFlags := 0, nameIndex := 7, descriptorIndex := 8, attributes := #[] }, { accessFlags := 9, nameIndex := 252, descriptorIndex := 53, attributes := #[] }] 48 4 #[] #[{ accessFlags := 4120, nameIndex := 121, descriptorIndex := 122, attributes := #[] }])
  fields := #[{ name := "$assertionsDisabled", type := .boolean, accessFlags := 4120, slot := 0, constantValue := 0 }]
  methods := #[k17m0, k17m1]
  instanceTypes := #[]
  staticTypes := #[.boolean]
  resolved := Array.replicate 395 none
  statics := none }

def pool18 : Array CpInfo := pool [(2, .class_ 4), (1, u "java/lang/Object"), (0, u "<init>"), (0, u "()V"), (17, .class_ 26), (1, u "jdk/internal/util/Preconditions"), (6, u "checkIndex"), (21, .class_ 56), (0, u "jdk/internal/util/Preconditions$4"), (57, .class_ 115), (0, u "jdk/internal/util/Preconditions$1"), (7, u "SIOOBE_FORMATTER"), (0, u "Ljava/util/function/BiFunction;"), (0, .class_ 126), (0, u "jdk/internal/util/Preconditions$2"), (3, u "AIOOBE_FORMATTER"), (0, .class_ 132), (0, u "jdk/internal/util/Preconditions$3"), (3, u "IOOBE_FORMATTER"), (41, u "(IILjava/util/function/BiFunction;)I")] 15

def k18m0 : Method := { name := "<init>", desc := "()V", sig := { parameters := [], returnType := none }, accessFlags := 1, code := none }
def k18c1 : Code := { maxStack := 3, maxLocals := 3, code := jdk_41_method_11_code, exceptionTable := #[], attributes := #[] }
def k18m1 : Method := { name := "checkIndex", desc := "(IILjava/util/function/BiFunction;)I", sig := { parameters := [.int, .int, (.object "java/util/function/BiFunction")], returnType := some .int }, accessFlags := 9, code := some k18c1 }
/-- jdk/internal/util/Preconditions -/
def k18 : Class := { plain "jdk/internal/util/Preconditions" (some 0) with
  accessFlags := 33
  interfaces := #[]
  cf := some (fileOf pool18 24 #[.nestMembers #[55, 131, 125, 114]] #[{ accessFlags := 1, nameIndex := 5, descriptorIndex := 6, attributes := #[] }, { accessFlags := 9, nameIndex := 33, descriptorIndex := 178, attributes := #[] }] 33 2 #[] #[{ accessFlags := 25, nameIndex := 123, descriptorIndex := 124, attributes := #[] }, { accessFlags := 25, nameIndex := 130, descriptorIndex := 124, attributes := #[] }, { accessFlags := 25, nameIndex := 136, descriptorIndex := 124, attributes := #[] }])
  fields := #[{ name := "SIOOBE_FORMATTER", type := (.object "java/util/function/BiFunction"), accessFlags := 25, slot := 0, constantValue := 0 }, { name := "AIOOBE_FORMATTER", type := (.object "java/util/function/BiFunction"), accessFlags := 25, slot := 1, constantValue := 0 }, { name := "IOOBE_FORMATTER", type := (.object "java/util/function/BiFunction"), accessFlags := 25, slot := 2, constantValue := 0 }]
  methods := #[k18m0, k18m1]
  instanceTypes := #[]
  staticTypes := #[(.object "java/util/function/BiFunction"), (.object "java/util/function/BiFunction"), (.object "java/util/function/BiFunction")]
  resolved := Array.replicate 194 none
  statics := some 4 }

def pool19 : Array CpInfo := pool [(2, .class_ 4), (1, u "java/lang/Object"), (0, u "<init>"), (0, u "()V"), (1, .class_ 10), (1, u "java/util/AbstractCollection"), (66, .class_ 78), (0, u "java/util/Collection")] 81

def k19m0 : Method := { name := "<init>", desc := "()V", sig := { parameters := [], returnType := none }, accessFlags := 4, code := none }
/-- java/util/AbstractCollection -/
def k19 : Class := { plain "java/util/AbstractCollection" (some 0) with
  accessFlags := 1057
  interfaces := #[13]
  cf := some (fileOf pool19 8 #[] #[{ accessFlags := 4, nameIndex := 5, descriptorIndex := 6, attributes := #[] }] 1057 2 #[77] #[])
  fields := #[]
  methods := #[k19m0]
  instanceTypes := #[]
  staticTypes := #[]
  resolved := Array.replicate 160 none
  statics := none }

def pool20 : Array CpInfo := pool [(2, .class_ 4), (1, u "java/util/AbstractCollection"), (0, u "<init>"), (0, u "()V"), (1, .class_ 10), (1, u "java/util/ImmutableCollections"), (2, .class_ 14), (0, u "java/util/ImmutableCollections$AbstractImmutableCollection")] 41

def k20m0 : Method := { name := "<init>", desc := "()V", sig := { parameters := [], returnType := none }, accessFlags := 0, code := none }
/-- java/util/ImmutableCollections$AbstractImmutableCollection -/
def k20 : Class := { plain "java/util/ImmutableCollections$AbstractImmutableCollection" (some 19) with
  accessFlags := 1056
  interfaces := #[]
  cf := some (fileOf pool20 13 #[.nestHost 8] #[{ accessFlags := 0, nameIndex := 5, descriptorIndex := 6, attributes := #[] }] 1056 2 #[] #[])
  fields := #[]
  methods := #[k20m0]
  instanceTypes := #[]
  staticTypes := #[]
  resolved := Array.replicate 56 none
  statics := none }

def pool21 : Array CpInfo := pool [(1, .class_ 2), (0, u "java/util/RandomAccess"), (0, .class_ 4), (0, u "java/lang/Object")] 2

/-- java/util/RandomAccess -/
def k21 : Class := { plain "java/util/RandomAccess" (some 0) with
  accessFlags := 1537
  interfaces := #[]
  cf := some (fileOf pool21 1 #[] #[] 1537 3 #[] #[])
  fields := #[]
  methods := #[]
  instanceTypes := #[]
  staticTypes := #[]
  resolved := Array.replicate 7 none
  statics := none }

def pool22 : Array CpInfo := pool [(2, .class_ 4), (1, u "java/util/ImmutableCollections$AbstractImmutableCollection"), (0, u "<init>"), (0, u "()V"), (1, .class_ 10), (1, u "java/util/ImmutableCollections"), (3, .class_ 16), (1, u "java/util/ImmutableCollections$AbstractImmutableList"), (60, .class_ 78), (0, u "java/util/List"), (45, .class_ 125), (0, u "java/util/RandomAccess")] 70

def k22m0 : Method := { name := "<init>", desc := "()V", sig := { parameters := [], returnType := none }, accessFlags := 0, code := none }
/-- java/util/ImmutableCollections$AbstractImmutableList -/
def k22 : Class := { plain "java/util/ImmutableCollections$AbstractImmutableList" (some 20) with
  accessFlags := 1056
  interfaces := #[15, 21]
  cf := some (fileOf pool22 14 #[.nestHost 8] #[{ accessFlags := 0, nameIndex := 5, descriptorIndex := 6, attributes := #[] }] 1056 2 #[77, 124] #[])
  fields := #[]
  methods := #[k22m0]
  instanceTypes := #[]
  staticTypes := #[]
  resolved := Array.replicate 196 none
  statics := none }

def pool23 : Array CpInfo := pool [(2, .class_ 4), (1, u "java/util/ImmutableCollections$AbstractImmutableList"), (2, .fieldref 8 9), (0, .class_ 10), (0, .nameAndType 11 12), (0, u "java/util/ImmutableCollections$ListN"), (0, u "elements"), (0, u "[Ljava/lang/Object;"), (2, u "allowNulls"), (0, u "Z"), (42, .class_ 60), (0, u "java/io/Serializable"), (16, u "size"), (0, u "()I"), (35, .class_ 115), (0, u "java/util/ImmutableCollections")] 3

def k23c0 : Code := { maxStack := 1, maxLocals := 1, code := jdk_45_method_3_code, exceptionTable := #[], attributes := #[] }
def k23m0 : Method := { name := "size", desc := "()I", sig := { parameters := [], returnType := some .int }, accessFlags := 1, code := some k23c0 }
/-- java/util/ImmutableCollections$ListN -/
def k23 : Class := { plain "java/util/ImmutableCollections$ListN" (some 22) with
  accessFlags := 48
  interfaces := #[2]
  cf := some (fileOf pool23 8 #[.nestHost 114] #[{ accessFlags := 1, nameIndex := 77, descriptorIndex := 78, attributes := #[] }] 48 2 #[59] #[{ accessFlags := 18, nameIndex := 11, descriptorIndex := 12, attributes := #[] }, { accessFlags := 18, nameIndex := 15, descriptorIndex := 16, attributes := #[] }])
  fields := #[{ name := "elements", type := (.array (.object "java/lang/Object")), accessFlags := 18, slot := 0, constantValue := 0 }, { name := "allowNulls", type := .boolean, accessFlags := 18, slot := 1, constantValue := 0 }]
  methods := #[k23m0]
  instanceTypes := #[(.array (.object "java/lang/Object")), .boolean]
  staticTypes := #[]
  resolved := Array.replicate 119 none
  statics := none }

def pool24 : Array CpInfo := pool [(9, u "<init>"), (6, .class_ 18), (1, u "java/lang/Object"), (0, u "()V"), (1, .class_ 23), (1, u "jdk/internal/util/ArraysSupport"), (0, u "LOG2_ARRAY_LONG_INDEX_SCALE"), (0, u "I"), (2, u "U"), (0, u "Ljdk/internal/misc/Unsafe;"), (8, u "BIG_ENDIAN"), (0, u "Z"), (8, u "LOG2_BYTE_BIT_SIZE"), (4, u "LOG2_ARRAY_INT_INDEX_SCALE"), (54, u "JLA"), (0, u "Ljdk/internal/access/JavaLangAccess;"), (11, u "LOG2_ARRAY_BOOLEAN_INDEX_SCALE"), (9, u "LOG2_ARRAY_BYTE_INDEX_SCALE"), (5, u "LOG2_ARRAY_CHAR_INDEX_SCALE"), (5, u "LOG2_ARRAY_SHORT_INDEX_SCALE"), (18, u "LOG2_ARRAY_FLOAT_INDEX_SCALE"), (24, u "LOG2_ARRAY_DOUBLE_INDEX_SCALE"), (89, u "T_BOOLEAN"), (2, u "T_CHAR"), (1, u "T_FLOAT"), (1, u "T_DOUBLE"), (1, u "T_BYTE"), (1, u "T_SHORT"), (1, u "T_INT"), (1, u "T_LONG"), (1, u "SOFT_MAX_ARRAY_LENGTH")] 83

def k24m0 : Method := { name := "<init>", desc := "()V", sig := { parameters := [], returnType := none }, accessFlags := 2, code := none }
/-- jdk/internal/util/ArraysSupport -/
def k24 : Class := { plain "jdk/internal/util/ArraysSupport" (some 0) with
  accessFlags := 33
  interfaces := #[]
  cf := some (fileOf pool24 21 #[] #[{ accessFlags := 2, nameIndex := 9, descriptorIndex := 19, attributes := #[] }] 33 16 #[] #[{ accessFlags := 24, nameIndex := 28, descriptorIndex := 29, attributes := #[] }, { accessFlags := 26, nameIndex := 38, descriptorIndex := 39, attributes := #[] }, { accessFlags := 25, nameIndex := 121, descriptorIndex := 25, attributes := #[] }, { accessFlags := 25, nameIndex := 131, descriptorIndex := 25, attributes := #[] }, { accessFlags := 25, nameIndex := 137, descriptorIndex := 25, attributes := #[] }, { accessFlags := 25, nameIndex := 143, descriptorIndex := 25, attributes := #[] }, { accessFlags := 25, nameIndex := 53, descriptorIndex := 25, attributes := #[] }, { accessFlags := 25, nameIndex := 24, descriptorIndex := 25, attributes := #[] }, { accessFlags := 25, nameIndex := 162, descriptorIndex := 25, attributes := #[] }, { accessFlags := 25, nameIndex := 187, descriptorIndex := 25, attributes := #[] }, { accessFlags := 26, nameIndex := 48, descriptorIndex := 25, attributes := #[] }, { accessFlags := 25, nameIndex := 277, descriptorIndex := 25, attributes := #[] }, { accessFlags := 25, nameIndex := 280, descriptorIndex := 25, attributes := #[] }, { accessFlags := 25, nameIndex := 282, descriptorIndex := 25, attributes := #[] }, { accessFlags := 25, nameIndex := 284, descriptorIndex := 25, attributes := #[] }, { accessFlags := 25, nameIndex := 286, descriptorIndex := 25, attributes := #[] }, { accessFlags := 25, nameIndex := 288, descriptorIndex := 25, attributes := #[] }, { accessFlags := 25, nameIndex := 290, descriptorIndex := 25, attributes := #[] }, { accessFlags := 25, nameIndex := 292, descriptorIndex := 25, attributes := #[] }, { accessFlags := 26, nameIndex := 108, descriptorIndex := 109, attributes := #[] }, { accessFlags := 25, nameIndex := 294, descriptorIndex := 25, attributes := #[] }])
  fields := #[{ name := "U", type := (.object "jdk/internal/misc/Unsafe"), accessFlags := 24, slot := 0, constantValue := 0 }, { name := "BIG_ENDIAN", type := .boolean, accessFlags := 26, slot := 1, constantValue := 0 }, { name := "LOG2_ARRAY_BOOLEAN_INDEX_SCALE", type := .int, accessFlags := 25, slot := 2, constantValue := 0 }, { name := "LOG2_ARRAY_BYTE_INDEX_SCALE", type := .int, accessFlags := 25, slot := 3, constantValue := 0 }, { name := "LOG2_ARRAY_CHAR_INDEX_SCALE", type := .int, accessFlags := 25, slot := 4, constantValue := 0 }, { name := "LOG2_ARRAY_SHORT_INDEX_SCALE", type := .int, accessFlags := 25, slot := 5, constantValue := 0 }, { name := "LOG2_ARRAY_INT_INDEX_SCALE", type := .int, accessFlags := 25, slot := 6, constantValue := 0 }, { name := "LOG2_ARRAY_LONG_INDEX_SCALE", type := .int, accessFlags := 25, slot := 7, constantValue := 0 }, { name := "LOG2_ARRAY_FLOAT_INDEX_SCALE", type := .int, accessFlags := 25, slot := 8, constantValue := 0 }, { name := "LOG2_ARRAY_DOUBLE_INDEX_SCALE", type := .int, accessFlags := 25, slot := 9, constantValue := 0 }, { name := "LOG2_BYTE_BIT_SIZE", type := .int, accessFlags := 26, slot := 10, constantValue := 0 }, { name := "T_BOOLEAN", type := .int, accessFlags := 25, slot := 11, constantValue := 0 }, { name := "T_CHAR", type := .int, accessFlags := 25, slot := 12, constantValue := 0 }, { name := "T_FLOAT", type := .int, accessFlags := 25, slot := 13, constantValue := 0 }, { name := "T_DOUBLE", type := .int, accessFlags := 25, slot := 14, constantValue := 0 }, { name := "T_BYTE", type := .int, accessFlags := 25, slot := 15, constantValue := 0 }, { name := "T_SHORT", type := .int, accessFlags := 25, slot := 16, constantValue := 0 }, { name := "T_INT", type := .int, accessFlags := 25, slot := 17, constantValue := 0 }, { name := "T_LONG", type := .int, accessFlags := 25, slot := 18, constantValue := 0 }, { name := "JLA", type := (.object "jdk/internal/access/JavaLangAccess"), accessFlags := 26, slot := 19, constantValue := 0 }, { name := "SOFT_MAX_ARRAY_LENGTH", type := .int, accessFlags := 25, slot := 20, constantValue := 0 }]
  methods := #[k24m0]
  instanceTypes := #[]
  staticTypes := #[(.object "jdk/internal/misc/Unsafe"), .boolean, .int, .int, .int, .int, .int, .int, .int, .int, .int, .int, .int, .int, .int, .int, .int, .int, .int, (.object "jdk/internal/access/JavaLangAccess"), .int]
  resolved := Array.replicate 378 none
  statics := none }

def pool25 : Array CpInfo := pool [(1, u "java/lang/Cloneable"), (0, .class_ 1), (0, u "java/lang/Object"), (0, .class_ 3)] 3

/-- java/lang/Cloneable -/
def k25 : Class := { plain "java/lang/Cloneable" (some 0) with
  accessFlags := 1537
  interfaces := #[]
  cf := some (fileOf pool25 2 #[] #[] 1537 4 #[] #[])
  fields := #[]
  methods := #[]
  instanceTypes := #[]
  staticTypes := #[]
  resolved := Array.replicate 8 none
  statics := none }

/-- the primitive byte -/
def k26 : Class := { plain "byte" none with kind := .primitive 'B', accessFlags := 0x411 }
/-- [B -/
def k27 : Class := { plain "[B" (some 0) with kind := .array 26 .byte, interfaces := #[25, 2], accessFlags := 1041 }

/-- the primitive char -/
def k28 : Class := { plain "char" none with kind := .primitive 'C', accessFlags := 0x411 }
/-- [C -/
def k29 : Class := { plain "[C" (some 0) with kind := .array 28 .char, interfaces := #[25, 2], accessFlags := 1041 }

/-- [Ljava/lang/Object; -/
def k30 : Class := { plain "[Ljava/lang/Object;" (some 0) with kind := .array 0 (.object "java/lang/Object"), interfaces := #[25, 2], accessFlags := 1041 }

def heap : Heap := #[{ cls := 7, slots := #[.long 0, .int 1, .null, .int 0, .null, .int 0, .int 0], vm := .statics 7 },
  { cls := 8, slots := #[.int 0, .int 8, .int 0, .int 1], vm := .statics 8 },
  { cls := 11, slots := #[.null, .null, .ref 6, .null, .null], vm := .statics 11 },
  { cls := 16, slots := #[.long 0, .int 0, .null, .null, .ref 7, .null, .null, .null, .int 0, .int 0], vm := .statics 16 },
  { cls := 18, slots := #[.null, .null, .null], vm := .statics 18 },
  { cls := 30, slots := #[], vm := .none },
  { cls := 11, slots := #[.null, .int 0, .int 0], vm := .none },
  { cls := 23, slots := #[.ref 5, .int 0], vm := .none }]
def classes : Array Class := #[k0, k1, k2, k3, k4, k5, k6, k7, k8, k9, k10, k11, k12, k13, k14, k15, k16, k17, k18, k19, k20, k21, k22, k23, k24, k25, k26, k27, k28, k29, k30]
def interned : List (Array UInt16 × Addr) := []
def slotsUsed : Nat := 34
def theMethod : MethodId := ⟨1, 1⟩
def args0 : Array Value := #[.int 5, .int 5, .int 5, .int 5]
def aboutOver (below : List Frame) : State where
  vm := { classes := classes, interned := interned.toArray }
  heap := heap
  slotsUsed := slotsUsed
  threads := #[{ frames := .invoking theMethod args0 :: below }]
def below0 : List Frame := [.native { method := ⟨0, 0⟩, args := #[] }]
def about1 : State := aboutOver below0
def p0 : Program := .bare "" "" ""
def e0 : Env := launch0.env 0 0 0
theorem w_frames : about1.frames = Frame.invoking theMethod args0 :: below0 := rfl
set_option maxRecDepth 65536 in
theorem w_args : argsFit about1.vm theMethod args0 = true := by decide +kernel
set_option maxRecDepth 65536 in
theorem w_heap : heapFits about1 = true := by decide +kernel
set_option maxRecDepth 65536 in
theorem w_runnable : about1.curStatus? = some .runnable := by decide +kernel
set_option maxRecDepth 65536 in
theorem w_alone : about1.alone = true := by decide +kernel
set_option maxRecDepth 65536 in
theorem w_named : about1.methodNamed? x = some theMethod := by decide +kernel
set_option maxRecDepth 65536 in
theorem w_hears : about1.hears theMethod below0 = true := by decide +kernel
set_option maxRecDepth 65536 in
theorem w_ripe : about1.ripe theMethod args0 below0 = true := by decide +kernel
theorem w_running : about1.status = .running := rfl
set_option maxRecDepth 65536 in
theorem w_room : about1.hasRoom e0.platform room_1 = true :=
  launch0.hasRoom_least _ room_1 (by decide +kernel) (by decide +kernel) (by decide +kernel) (by decide +kernel) (by decide +kernel) (by decide +kernel)
theorem allAtoms_all (ts : List Jvm.Cond) (a : Array Jvm.Value) (st : Jvm.State) : (allAtoms ts).before a st = ts.all (fun c => c.before a st) := by
  induction ts with
  | nil => rfl
  | cons c t ih =>
    show (Jvm.Cond.and c (allAtoms t)).before a st = _
    rw [Jvm.Cond.before_and, ih, List.all_cons]
def words1 : List Jvm.Cond := Jvm.Cond.code x code maxLocals ret :: tables_1
/-- a 'code' word, met by the world's own term for the bytes: nothing is compared byte by byte -/
theorem code_word {y : MethodName} {bytes : ByteArray} {mx : Nat} {rt : Option FieldType} {a : Array Value} {s : State} {m : MethodId} {meth : Method} {c : Code} (h1 : s.methodNamed? y = some m) (h2 : s.vm.method? m = some meth) (h3 : meth.code = some c) (h4 : c.code = bytes)
    (h5 : (c.maxLocals == mx && c.exceptionTable.isEmpty && decide (c.maxStack ≤ mostOperands) && decide (meth.sig.returnType = rt) && !meth.locks && decide (parseMethodDescriptor y.desc = some meth.sig)) = true) : (Jvm.Cond.code y bytes mx rt).before a s = true := by
  simp only [Bool.and_eq_true, beq_iff_eq, Bool.not_eq_true', decide_eq_true_eq] at h5
  obtain ⟨⟨⟨⟨⟨g1, g2⟩, g3⟩, g4⟩, g5⟩, g6⟩ := h5
  simp [Cond.before, Cond.holds, Cond.value, h1, h2, h3, h4, g1, g2, g3, g4, g5, g6]
def isCode : Jvm.Cond → Bool
  | .code _ _ _ _ => true
  | _ => false
theorem all_split {L : List Jvm.Cond} {P : Jvm.Cond → Bool} (h1 : L.all (fun c => isCode c || P c) = true) (h2 : ∀ c ∈ L.filter isCode, P c = true) : L.all P = true := by
  refine List.all_eq_true.mpr fun c hc => ?_
  have h := List.all_eq_true.mp h1 c hc
  rcases Bool.eq_false_or_eq_true (isCode c) with hi | hi
  · exact h2 c (List.mem_filter.mpr ⟨hc, hi⟩)
  · simpa [hi] using h
set_option maxRecDepth 65536 in
theorem w_c0 : (Jvm.Cond.code x code maxLocals ret).before args0 about1 = true := code_word (m := ⟨1, 1⟩) (meth := k1m1) (c := k1c1) (by decide +kernel) rfl rfl rfl (by decide +kernel)
set_option maxRecDepth 65536 in
theorem w_c1 : (Jvm.Cond.code ({ cls := "dev/parlance/model/MessageAssistantPinLaw", name := "make", desc := "(ICCC)Ljava/lang/String;" } : Jvm.MethodName) method_3_code (4 : Nat) (Option.some (Jvm.ClassFile.FieldType.object "java/lang/String"))).before args0 about1 = true := code_word (m := ⟨1, 2⟩) (meth := k1m2) (c := k1c2) (by decide +kernel) rfl rfl rfl (by decide +kernel)
set_option maxRecDepth 65536 in
theorem w_c2 : (Jvm.Cond.code ({ cls := "java/lang/String", name := "<init>", desc := "([C)V" } : Jvm.MethodName) jdk_42_method_3_code (2 : Nat) (Option.none : Option Jvm.ClassFile.FieldType)).before args0 about1 = true := code_word (m := ⟨7, 1⟩) (meth := k7m1) (c := k7c1) (by decide +kernel) rfl rfl rfl (by decide +kernel)
set_option maxRecDepth 65536 in
theorem w_c3 : (Jvm.Cond.code ({ cls := "java/lang/String", name := "<init>", desc := "([CIILjava/lang/Void;)V" } : Jvm.MethodName) jdk_42_method_149_code (6 : Nat) (Option.none : Option Jvm.ClassFile.FieldType)).before args0 about1 = true := code_word (m := ⟨7, 5⟩) (meth := k7m5) (c := k7c5) (by decide +kernel) rfl rfl rfl (by decide +kernel)
set_option maxRecDepth 65536 in
theorem w_c4 : (Jvm.Cond.code ({ cls := "java/lang/Object", name := "<init>", desc := "()V" } : Jvm.MethodName) object_method_1_code (1 : Nat) (Option.none : Option Jvm.ClassFile.FieldType)).before args0 about1 = true := code_word (m := ⟨0, 0⟩) (meth := k0m0) (c := k0c0) (by decide +kernel) rfl rfl rfl (by decide +kernel)
set_option maxRecDepth 65536 in
theorem w_c5 : (Jvm.Cond.code ({ cls := "java/lang/StringUTF16", name := "compress", desc := "([CII)[B" } : Jvm.MethodName) jdk_52_method_16_code (6 : Nat) (Option.some (Jvm.ClassFile.FieldType.array Jvm.ClassFile.FieldType.byte))).before args0 about1 = true := code_word (m := ⟨8, 8⟩) (meth := k8m8) (c := k8c8) (by decide +kernel) rfl rfl rfl (by decide +kernel)
set_option maxRecDepth 65536 in
theorem w_c6 : (Jvm.Cond.code ({ cls := "java/lang/StringUTF16", name := "compress", desc := "([CI[BII)I" } : Jvm.MethodName) jdk_52_method_21_code (7 : Nat) (Option.some Jvm.ClassFile.FieldType.int)).before args0 about1 = true := code_word (m := ⟨8, 9⟩) (meth := k8m9) (c := k8c9) (by decide +kernel) rfl rfl rfl (by decide +kernel)
set_option maxRecDepth 65536 in
theorem w_c7 : (Jvm.Cond.code ({ cls := "java/lang/StringUTF16", name := "coderFromArrayLen", desc := "([BI)B" } : Jvm.MethodName) jdk_52_method_15_code (2 : Nat) (Option.some Jvm.ClassFile.FieldType.byte)).before args0 about1 = true := code_word (m := ⟨8, 7⟩) (meth := k8m7) (c := k8c7) (by decide +kernel) rfl rfl rfl (by decide +kernel)
set_option maxRecDepth 65536 in
theorem w_c8 : (Jvm.Cond.code ({ cls := "dev/parlance/model/Message", name := "assistant", desc := "(Ljava/lang/String;)Ldev/parlance/model/Message;" } : Jvm.MethodName) prog_32_method_4_code (1 : Nat) (Option.some (Jvm.ClassFile.FieldType.object "dev/parlance/model/Message"))).before args0 about1 = true := code_word (m := ⟨9, 1⟩) (meth := k9m1) (c := k9c1) (by decide +kernel) rfl rfl rfl (by decide +kernel)
set_option maxRecDepth 65536 in
theorem w_c9 : (Jvm.Cond.code ({ cls := "java/util/List", name := "of", desc := "()Ljava/util/List;" } : Jvm.MethodName) jdk_40_method_36_code (0 : Nat) (Option.some (Jvm.ClassFile.FieldType.object "java/util/List"))).before args0 about1 = true := code_word (m := ⟨15, 1⟩) (meth := k15m1) (c := k15c1) (by decide +kernel) rfl rfl rfl (by decide +kernel)
set_option maxRecDepth 65536 in
theorem w_c10 : (Jvm.Cond.code ({ cls := "dev/parlance/model/Message", name := "<init>", desc := "(Ldev/parlance/model/Role;Ljava/lang/String;Ljava/util/List;Ljava/lang/String;)V" } : Jvm.MethodName) prog_32_method_1_code (5 : Nat) (Option.none : Option Jvm.ClassFile.FieldType)).before args0 about1 = true := code_word (m := ⟨9, 0⟩) (meth := k9m0) (c := k9c0) (by decide +kernel) rfl rfl rfl (by decide +kernel)
set_option maxRecDepth 65536 in
theorem w_c11 : (Jvm.Cond.code ({ cls := "dev/parlance/model/Message", name := "role", desc := "()Ldev/parlance/model/Role;" } : Jvm.MethodName) prog_32_method_7_code (1 : Nat) (Option.some (Jvm.ClassFile.FieldType.object "dev/parlance/model/Role"))).before args0 about1 = true := code_word (m := ⟨9, 2⟩) (meth := k9m2) (c := k9c2) (by decide +kernel) rfl rfl rfl (by decide +kernel)
set_option maxRecDepth 65536 in
theorem w_c12 : (Jvm.Cond.code ({ cls := "dev/parlance/model/Message", name := "content", desc := "()Ljava/lang/String;" } : Jvm.MethodName) prog_32_method_8_code (1 : Nat) (Option.some (Jvm.ClassFile.FieldType.object "java/lang/String"))).before args0 about1 = true := code_word (m := ⟨9, 3⟩) (meth := k9m3) (c := k9c3) (by decide +kernel) rfl rfl rfl (by decide +kernel)
set_option maxRecDepth 65536 in
theorem w_c13 : (Jvm.Cond.code ({ cls := "java/lang/String", name := "length", desc := "()I" } : Jvm.MethodName) jdk_42_method_54_code (1 : Nat) (Option.some Jvm.ClassFile.FieldType.int)).before args0 about1 = true := code_word (m := ⟨7, 2⟩) (meth := k7m2) (c := k7c2) (by decide +kernel) rfl rfl rfl (by decide +kernel)
set_option maxRecDepth 65536 in
theorem w_c14 : (Jvm.Cond.code ({ cls := "java/lang/String", name := "coder", desc := "()B" } : Jvm.MethodName) jdk_42_method_152_code (1 : Nat) (Option.some Jvm.ClassFile.FieldType.byte)).before args0 about1 = true := code_word (m := ⟨7, 6⟩) (meth := k7m6) (c := k7c6) (by decide +kernel) rfl rfl rfl (by decide +kernel)
set_option maxRecDepth 65536 in
theorem w_c15 : (Jvm.Cond.code ({ cls := "java/lang/String", name := "equals", desc := "(Ljava/lang/Object;)Z" } : Jvm.MethodName) jdk_42_method_66_code (3 : Nat) (Option.some Jvm.ClassFile.FieldType.boolean)).before args0 about1 = true := code_word (m := ⟨7, 4⟩) (meth := k7m4) (c := k7c4) (by decide +kernel) rfl rfl rfl (by decide +kernel)
set_option maxRecDepth 65536 in
theorem w_c16 : (Jvm.Cond.code ({ cls := "java/lang/String", name := "charAt", desc := "(I)C" } : Jvm.MethodName) jdk_42_method_56_code (2 : Nat) (Option.some Jvm.ClassFile.FieldType.char)).before args0 about1 = true := code_word (m := ⟨7, 3⟩) (meth := k7m3) (c := k7c3) (by decide +kernel) rfl rfl rfl (by decide +kernel)
set_option maxRecDepth 65536 in
theorem w_c17 : (Jvm.Cond.code ({ cls := "java/lang/String", name := "isLatin1", desc := "()Z" } : Jvm.MethodName) jdk_42_method_154_code (1 : Nat) (Option.some Jvm.ClassFile.FieldType.boolean)).before args0 about1 = true := code_word (m := ⟨7, 7⟩) (meth := k7m7) (c := k7c7) (by decide +kernel) rfl rfl rfl (by decide +kernel)
set_option maxRecDepth 65536 in
theorem w_c18 : (Jvm.Cond.code ({ cls := "java/lang/StringLatin1", name := "charAt", desc := "([BI)C" } : Jvm.MethodName) jdk_43_method_2_code (2 : Nat) (Option.some Jvm.ClassFile.FieldType.char)).before args0 about1 = true := code_word (m := ⟨17, 1⟩) (meth := k17m1) (c := k17c1) (by decide +kernel) rfl rfl rfl (by decide +kernel)
set_option maxRecDepth 65536 in
theorem w_c19 : (Jvm.Cond.code ({ cls := "java/lang/String", name := "checkIndex", desc := "(II)V" } : Jvm.MethodName) jdk_42_method_155_code (2 : Nat) (Option.none : Option Jvm.ClassFile.FieldType)).before args0 about1 = true := code_word (m := ⟨7, 8⟩) (meth := k7m8) (c := k7c8) (by decide +kernel) rfl rfl rfl (by decide +kernel)
set_option maxRecDepth 65536 in
theorem w_c20 : (Jvm.Cond.code ({ cls := "jdk/internal/util/Preconditions", name := "checkIndex", desc := "(IILjava/util/function/BiFunction;)I" } : Jvm.MethodName) jdk_41_method_11_code (3 : Nat) (Option.some Jvm.ClassFile.FieldType.int)).before args0 about1 = true := code_word (m := ⟨18, 1⟩) (meth := k18m1) (c := k18c1) (by decide +kernel) rfl rfl rfl (by decide +kernel)
set_option maxRecDepth 65536 in
theorem w_c21 : (Jvm.Cond.code ({ cls := "dev/parlance/model/Message", name := "toolCalls", desc := "()Ljava/util/List;" } : Jvm.MethodName) prog_32_method_9_code (1 : Nat) (Option.some (Jvm.ClassFile.FieldType.object "java/util/List"))).before args0 about1 = true := code_word (m := ⟨9, 4⟩) (meth := k9m4) (c := k9c4) (by decide +kernel) rfl rfl rfl (by decide +kernel)
set_option maxRecDepth 65536 in
theorem w_c22 : (Jvm.Cond.code ({ cls := "java/util/ImmutableCollections$ListN", name := "size", desc := "()I" } : Jvm.MethodName) jdk_45_method_3_code (1 : Nat) (Option.some Jvm.ClassFile.FieldType.int)).before args0 about1 = true := code_word (m := ⟨23, 0⟩) (meth := k23m0) (c := k23c0) (by decide +kernel) rfl rfl rfl (by decide +kernel)
set_option maxRecDepth 65536 in
theorem w_c23 : (Jvm.Cond.code ({ cls := "dev/parlance/model/Message", name := "toolCallId", desc := "()Ljava/lang/String;" } : Jvm.MethodName) prog_32_method_10_code (1 : Nat) (Option.some (Jvm.ClassFile.FieldType.object "java/lang/String"))).before args0 about1 = true := code_word (m := ⟨9, 5⟩) (meth := k9m5) (c := k9c5) (by decide +kernel) rfl rfl rfl (by decide +kernel)
set_option maxRecDepth 65536 in
theorem w_c24 : (Jvm.Cond.code ({ cls := "java/lang/StringUTF16", name := "toBytes", desc := "([CII)[B" } : Jvm.MethodName) jdk_52_method_14_code (5 : Nat) (Option.some (Jvm.ClassFile.FieldType.array Jvm.ClassFile.FieldType.byte))).before args0 about1 = true := code_word (m := ⟨8, 6⟩) (meth := k8m6) (c := k8c6) (by decide +kernel) rfl rfl rfl (by decide +kernel)
set_option maxRecDepth 65536 in
theorem w_c25 : (Jvm.Cond.code ({ cls := "java/lang/StringUTF16", name := "newBytesFor", desc := "(I)[B" } : Jvm.MethodName) jdk_52_method_2_code (1 : Nat) (Option.some (Jvm.ClassFile.FieldType.array Jvm.ClassFile.FieldType.byte))).before args0 about1 = true := code_word (m := ⟨8, 1⟩) (meth := k8m1) (c := k8c1) (by decide +kernel) rfl rfl rfl (by decide +kernel)
set_option maxRecDepth 65536 in
theorem w_c26 : (Jvm.Cond.code ({ cls := "java/lang/StringUTF16", name := "newBytesLength", desc := "(I)I" } : Jvm.MethodName) jdk_52_method_3_code (1 : Nat) (Option.some Jvm.ClassFile.FieldType.int)).before args0 about1 = true := code_word (m := ⟨8, 2⟩) (meth := k8m2) (c := k8c2) (by decide +kernel) rfl rfl rfl (by decide +kernel)
set_option maxRecDepth 65536 in
theorem w_c27 : (Jvm.Cond.code ({ cls := "java/lang/StringUTF16", name := "putChar", desc := "([BII)V" } : Jvm.MethodName) jdk_52_method_4_code (3 : Nat) (Option.none : Option Jvm.ClassFile.FieldType)).before args0 about1 = true := code_word (m := ⟨8, 3⟩) (meth := k8m3) (c := k8c3) (by decide +kernel) rfl rfl rfl (by decide +kernel)
set_option maxRecDepth 65536 in
theorem w_c28 : (Jvm.Cond.code ({ cls := "java/lang/StringUTF16", name := "getChar", desc := "([BI)C" } : Jvm.MethodName) jdk_52_method_5_code (2 : Nat) (Option.some Jvm.ClassFile.FieldType.char)).before args0 about1 = true := code_word (m := ⟨8, 4⟩) (meth := k8m4) (c := k8c4) (by decide +kernel) rfl rfl rfl (by decide +kernel)
set_option maxRecDepth 65536 in
theorem w_c29 : (Jvm.Cond.code ({ cls := "java/lang/StringUTF16", name := "charAt", desc := "([BI)C" } : Jvm.MethodName) jdk_52_method_83_code (2 : Nat) (Option.some Jvm.ClassFile.FieldType.char)).before args0 about1 = true := code_word (m := ⟨8, 10⟩) (meth := k8m10) (c := k8c10) (by decide +kernel) rfl rfl rfl (by decide +kernel)
set_option maxRecDepth 65536 in
theorem w_c30 : (Jvm.Cond.code ({ cls := "java/lang/StringUTF16", name := "checkIndex", desc := "(I[B)V" } : Jvm.MethodName) jdk_52_method_91_code (2 : Nat) (Option.none : Option Jvm.ClassFile.FieldType)).before args0 about1 = true := code_word (m := ⟨8, 11⟩) (meth := k8m11) (c := k8c11) (by decide +kernel) rfl rfl rfl (by decide +kernel)
set_option maxRecDepth 65536 in
theorem w_c31 : (Jvm.Cond.code ({ cls := "java/lang/StringUTF16", name := "length", desc := "([B)I" } : Jvm.MethodName) jdk_52_method_6_code (1 : Nat) (Option.some Jvm.ClassFile.FieldType.int)).before args0 about1 = true := code_word (m := ⟨8, 5⟩) (meth := k8m5) (c := k8c5) (by decide +kernel) rfl rfl rfl (by decide +kernel)
def codes1 : List Jvm.Cond := [Jvm.Cond.code x code maxLocals ret, Jvm.Cond.code ({ cls := "dev/parlance/model/MessageAssistantPinLaw", name := "make", desc := "(ICCC)Ljava/lang/String;" } : Jvm.MethodName) method_3_code (4 : Nat) (Option.some (Jvm.ClassFile.FieldType.object "java/lang/String")), Jvm.Cond.code ({ cls := "java/lang/String", name := "<init>", desc := "([C)V" } : Jvm.MethodName) jdk_42_method_3_code (2 : Nat) (Option.none : Option Jvm.ClassFile.FieldType), Jvm.Cond.code ({ cls := "java/lang/String", name := "<init>", desc := "([CIILjava/lang/Void;)V" } : Jvm.MethodName) jdk_42_method_149_code (6 : Nat) (Option.none : Option Jvm.ClassFile.FieldType), Jvm.Cond.code ({ cls := "java/lang/Object", name := "<init>", desc := "()V" } : Jvm.MethodName) object_method_1_code (1 : Nat) (Option.none : Option Jvm.ClassFile.FieldType), Jvm.Cond.code ({ cls := "java/lang/StringUTF16", name := "compress", desc := "([CII)[B" } : Jvm.MethodName) jdk_52_method_16_code (6 : Nat) (Option.some (Jvm.ClassFile.FieldType.array Jvm.ClassFile.FieldType.byte)), Jvm.Cond.code ({ cls := "java/lang/StringUTF16", name := "compress", desc := "([CI[BII)I" } : Jvm.MethodName) jdk_52_method_21_code (7 : Nat) (Option.some Jvm.ClassFile.FieldType.int), Jvm.Cond.code ({ cls := "java/lang/StringUTF16", name := "coderFromArrayLen", desc := "([BI)B" } : Jvm.MethodName) jdk_52_method_15_code (2 : Nat) (Option.some Jvm.ClassFile.FieldType.byte), Jvm.Cond.code ({ cls := "dev/parlance/model/Message", name := "assistant", desc := "(Ljava/lang/String;)Ldev/parlance/model/Message;" } : Jvm.MethodName) prog_32_method_4_code (1 : Nat) (Option.some (Jvm.ClassFile.FieldType.object "dev/parlance/model/Message")), Jvm.Cond.code ({ cls := "java/util/List", name := "of", desc := "()Ljava/util/List;" } : Jvm.MethodName) jdk_40_method_36_code (0 : Nat) (Option.some (Jvm.ClassFile.FieldType.object "java/util/List")), Jvm.Cond.code ({ cls := "dev/parlance/model/Message", name := "<init>", desc := "(Ldev/parlance/model/Role;Ljava/lang/String;Ljava/util/List;Ljava/lang/String;)V" } : Jvm.MethodName) prog_32_method_1_code (5 : Nat) (Option.none : Option Jvm.ClassFile.FieldType), Jvm.Cond.code ({ cls := "dev/parlance/model/Message", name := "role", desc := "()Ldev/parlance/model/Role;" } : Jvm.MethodName) prog_32_method_7_code (1 : Nat) (Option.some (Jvm.ClassFile.FieldType.object "dev/parlance/model/Role")), Jvm.Cond.code ({ cls := "dev/parlance/model/Message", name := "content", desc := "()Ljava/lang/String;" } : Jvm.MethodName) prog_32_method_8_code (1 : Nat) (Option.some (Jvm.ClassFile.FieldType.object "java/lang/String")), Jvm.Cond.code ({ cls := "java/lang/String", name := "length", desc := "()I" } : Jvm.MethodName) jdk_42_method_54_code (1 : Nat) (Option.some Jvm.ClassFile.FieldType.int), Jvm.Cond.code ({ cls := "java/lang/String", name := "coder", desc := "()B" } : Jvm.MethodName) jdk_42_method_152_code (1 : Nat) (Option.some Jvm.ClassFile.FieldType.byte), Jvm.Cond.code ({ cls := "java/lang/String", name := "equals", desc := "(Ljava/lang/Object;)Z" } : Jvm.MethodName) jdk_42_method_66_code (3 : Nat) (Option.some Jvm.ClassFile.FieldType.boolean), Jvm.Cond.code ({ cls := "java/lang/String", name := "charAt", desc := "(I)C" } : Jvm.MethodName) jdk_42_method_56_code (2 : Nat) (Option.some Jvm.ClassFile.FieldType.char), Jvm.Cond.code ({ cls := "java/lang/String", name := "isLatin1", desc := "()Z" } : Jvm.MethodName) jdk_42_method_154_code (1 : Nat) (Option.some Jvm.ClassFile.FieldType.boolean), Jvm.Cond.code ({ cls := "java/lang/StringLatin1", name := "charAt", desc := "([BI)C" } : Jvm.MethodName) jdk_43_method_2_code (2 : Nat) (Option.some Jvm.ClassFile.FieldType.char), Jvm.Cond.code ({ cls := "java/lang/String", name := "checkIndex", desc := "(II)V" } : Jvm.MethodName) jdk_42_method_155_code (2 : Nat) (Option.none : Option Jvm.ClassFile.FieldType), Jvm.Cond.code ({ cls := "jdk/internal/util/Preconditions", name := "checkIndex", desc := "(IILjava/util/function/BiFunction;)I" } : Jvm.MethodName) jdk_41_method_11_code (3 : Nat) (Option.some Jvm.ClassFile.FieldType.int), Jvm.Cond.code ({ cls := "dev/parlance/model/Message", name := "toolCalls", desc := "()Ljava/util/List;" } : Jvm.MethodName) prog_32_method_9_code (1 : Nat) (Option.some (Jvm.ClassFile.FieldType.object "java/util/List")), Jvm.Cond.code ({ cls := "java/util/ImmutableCollections$ListN", name := "size", desc := "()I" } : Jvm.MethodName) jdk_45_method_3_code (1 : Nat) (Option.some Jvm.ClassFile.FieldType.int), Jvm.Cond.code ({ cls := "dev/parlance/model/Message", name := "toolCallId", desc := "()Ljava/lang/String;" } : Jvm.MethodName) prog_32_method_10_code (1 : Nat) (Option.some (Jvm.ClassFile.FieldType.object "java/lang/String")), Jvm.Cond.code ({ cls := "java/lang/StringUTF16", name := "toBytes", desc := "([CII)[B" } : Jvm.MethodName) jdk_52_method_14_code (5 : Nat) (Option.some (Jvm.ClassFile.FieldType.array Jvm.ClassFile.FieldType.byte)), Jvm.Cond.code ({ cls := "java/lang/StringUTF16", name := "newBytesFor", desc := "(I)[B" } : Jvm.MethodName) jdk_52_method_2_code (1 : Nat) (Option.some (Jvm.ClassFile.FieldType.array Jvm.ClassFile.FieldType.byte)), Jvm.Cond.code ({ cls := "java/lang/StringUTF16", name := "newBytesLength", desc := "(I)I" } : Jvm.MethodName) jdk_52_method_3_code (1 : Nat) (Option.some Jvm.ClassFile.FieldType.int), Jvm.Cond.code ({ cls := "java/lang/StringUTF16", name := "putChar", desc := "([BII)V" } : Jvm.MethodName) jdk_52_method_4_code (3 : Nat) (Option.none : Option Jvm.ClassFile.FieldType), Jvm.Cond.code ({ cls := "java/lang/StringUTF16", name := "getChar", desc := "([BI)C" } : Jvm.MethodName) jdk_52_method_5_code (2 : Nat) (Option.some Jvm.ClassFile.FieldType.char), Jvm.Cond.code ({ cls := "java/lang/StringUTF16", name := "charAt", desc := "([BI)C" } : Jvm.MethodName) jdk_52_method_83_code (2 : Nat) (Option.some Jvm.ClassFile.FieldType.char), Jvm.Cond.code ({ cls := "java/lang/StringUTF16", name := "checkIndex", desc := "(I[B)V" } : Jvm.MethodName) jdk_52_method_91_code (2 : Nat) (Option.none : Option Jvm.ClassFile.FieldType), Jvm.Cond.code ({ cls := "java/lang/StringUTF16", name := "length", desc := "([B)I" } : Jvm.MethodName) jdk_52_method_6_code (1 : Nat) (Option.some Jvm.ClassFile.FieldType.int)]
set_option maxRecDepth 65536 in
theorem codes_eq : words1.filter isCode = codes1 := rfl
theorem w_codes : ∀ c ∈ words1.filter isCode, c.before args0 about1 = true := by
  rw [codes_eq]
  intro c hc
  simp only [codes1, List.mem_cons, List.not_mem_nil, or_false] at hc
  rcases hc with rfl | rfl | rfl | rfl | rfl | rfl | rfl | rfl | rfl | rfl | rfl | rfl | rfl | rfl | rfl | rfl | rfl | rfl | rfl | rfl | rfl | rfl | rfl | rfl | rfl | rfl | rfl | rfl | rfl | rfl | rfl | rfl
  · exact w_c0
  · exact w_c1
  · exact w_c2
  · exact w_c3
  · exact w_c4
  · exact w_c5
  · exact w_c6
  · exact w_c7
  · exact w_c8
  · exact w_c9
  · exact w_c10
  · exact w_c11
  · exact w_c12
  · exact w_c13
  · exact w_c14
  · exact w_c15
  · exact w_c16
  · exact w_c17
  · exact w_c18
  · exact w_c19
  · exact w_c20
  · exact w_c21
  · exact w_c22
  · exact w_c23
  · exact w_c24
  · exact w_c25
  · exact w_c26
  · exact w_c27
  · exact w_c28
  · exact w_c29
  · exact w_c30
  · exact w_c31
set_option maxRecDepth 65536 in
theorem w_t1 : (words1.take 24).all (fun c => isCode c || c.before args0 about1) = true := by decide +kernel
set_option maxRecDepth 65536 in
theorem w_t2 : ((words1.drop 24).take 24).all (fun c => isCode c || c.before args0 about1) = true := by decide +kernel
set_option maxRecDepth 65536 in
theorem w_t3 : (((words1.drop 24).drop 24).take 24).all (fun c => isCode c || c.before args0 about1) = true := by decide +kernel
set_option maxRecDepth 65536 in
theorem w_t4 : ((((words1.drop 24).drop 24).drop 24).take 24).all (fun c => isCode c || c.before args0 about1) = true := by decide +kernel
set_option maxRecDepth 65536 in
theorem w_t5 : (((((words1.drop 24).drop 24).drop 24).drop 24).take 24).all (fun c => isCode c || c.before args0 about1) = true := by decide +kernel
set_option maxRecDepth 65536 in
theorem w_t6 : ((((((words1.drop 24).drop 24).drop 24).drop 24).drop 24).take 24).all (fun c => isCode c || c.before args0 about1) = true := by decide +kernel
set_option maxRecDepth 65536 in
theorem w_t7 : ((((((words1.drop 24).drop 24).drop 24).drop 24).drop 24).drop 24).all (fun c => isCode c || c.before args0 about1) = true := by decide +kernel
theorem w_tables : (allAtoms (Jvm.Cond.code x code maxLocals ret :: tables_1)).before args0 about1 = true := by
  rw [allAtoms_all]
  show words1.all (fun c => c.before args0 about1) = true
  refine all_split ?_ w_codes
  rw [← List.take_append_drop 24 words1, List.all_append, w_t1, ← List.take_append_drop 24 (words1.drop 24), List.all_append, w_t2, ← List.take_append_drop 24 ((words1.drop 24).drop 24), List.all_append, w_t3, ← List.take_append_drop 24 (((words1.drop 24).drop 24).drop 24), List.all_append, w_t4, ← List.take_append_drop 24 ((((words1.drop 24).drop 24).drop 24).drop 24), List.all_append, w_t5, ← List.take_append_drop 24 (((((words1.drop 24).drop 24).drop 24).drop 24).drop 24), List.all_append, w_t6, w_t7]
  rfl
set_option maxRecDepth 65536 in
theorem w_rest : rest_1_c.before args0 about1 = true := by decide +kernel
set_option maxRecDepth 65536 in
theorem w_case : (Jvm.Cond.and given_1 narrow_1).before args0 about1 = true := by decide +kernel
set_option maxRecDepth 65536 in
theorem w_consts : constsHeld consts_1 about1 := Jvm.Lit.constsHeldB_iff.mp (by decide +kernel)
theorem w_applies : (headSpec (Jvm.Cond.code x code maxLocals ret :: tables_1) room_1).applies x e0.platform about1 = true :=
  (Spec.applies_iff w_frames).mpr ⟨w_running, w_runnable, w_alone, w_named, w_hears, w_ripe, w_room, w_tables⟩
theorem atStart : AtStart classFile x code maxLocals ret World_1 tables_1 room_1 Calls_1 rest_1 Pre_1 launch0 p0 e0 about1 theMethod args0 below0 :=
  ⟨lists_1, trivial, launch0.admits_env _ _ _, launch0.least_env, fairChoices_fair.cas, fairChoices_fair.clock, w_frames, w_args, w_heap, w_applies, ⟨w_consts, trivial⟩, w_rest, w_case⟩
end start1
theorem witness_1 : WitnessClaimed_1 := ⟨start1.p0, start1.e0, start1.about1, start1.theMethod, start1.args0, start1.below0, start1.atStart⟩
end Jvm.Pilot.@@N@@
