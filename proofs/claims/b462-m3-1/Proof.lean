import JvmDerived
import JvmDerived.Pilot.@@N@@Statement
import JvmDerived.Pilot.@@N@@Code
set_option linter.unusedVariables false
set_option linter.unusedSimpArgs false
namespace Jvm.RoadKit
open Sem ClassFile Op Lib Jvm.Stand Jvm.Free Jvm.LawKit
section New
variable {p : Program} {l : Launch} {e : Env} {R : Room} {s : State} {m : MethodId} {args : Array Value} {below : List Frame} {meth : Method} {c : Code} {T : State} {locs : List Loc} {cells slots : Nat}
theorem retI (X : Stand p l e R s m args below meth c T locs cells slots) (hx : p.tables.exec = Jvm.exec) {pc : Nat} {Ls : Array Slot} {z : Int32} {rest : List Value} (hret : meth.sig.returnType = some .int) (hd : decode c.code pc = .ok (.ireturn, 1)) {fs : List Frame}
    (hl : ∀ (f : JFrame) (acts : List Action), f.method = m → f.locked = none → f.entered = [] → (doReturn e (T.setTop f) acts (some (.int z))).1 = T.setFrames fs) : Steps p.tables e below (T.setTop (mkF m pc Ls (.int z :: rest))) (T.setFrames fs) := by
  have hm' : T.vm.method? m = some meth := X.method'
  have hn : narrow .int (.int z) = .int z := rfl
  show Steps p.tables e below (T.setTop { method := m, pc := pc, locals := Ls, stack := _ :: rest, locked := none }) _
  jvm_step X.here [X.here.top, hx, hd, hm', hret, hn]
  first | (intro acts; rw [hl _ acts rfl rfl rfl]) | rw [hl _ _ rfl rfl rfl]
  exact Steps.refl _
end New
end Jvm.RoadKit
namespace Jvm.Pilot.@@N@@
open Jvm Jvm.ClassFile Sem Op Lib Jvm.Free Jvm.Stand Jvm.LawKit Jvm.RoadKit Bundle Jvm.Pilot.@@N@@.Jvm.D
/-- the same for a part of a walk that comes to the frame F -/
theorem own_via {α : Type} {tb : Tables} {e : Env} {below : List Frame} {A B : State} {P : State → α → Prop} {F : α → JFrame} (h : ∀ t, Steps tb e below A t → Steps tb e below B t) (k : ∃ (T : State) (x : α), P T x ∧ ∀ t, Steps tb e below (T.setTop (F x)) t → Steps tb e below A t) : ∃ (T : State) (x : α), P T x ∧ ∀ t, Steps tb e below (T.setTop (F x)) t → Steps tb e below B t := by
  obtain ⟨T, x, k1, k2⟩ := k
  exact ⟨T, x, k1, fun t q => h t (k2 t q)⟩
theorem own_ns {Z : State} {h : Heap} {a : Addr} {C : String} (F : Exa Z h a C) : ∀ c : Cell, h[a]? = some c → c.vm.isStatics = false := fun c hc => by
  obtain ⟨c1, k, h1, -, -, h4, -⟩ := F
  cases hc.symm.trans h1
  exact h4
theorem own_nsA {Z : State} {h : Heap} {a : Addr} {k : ClassId} {ty : FieldType} {z : Int32} {vs : List Value} {dv : Value} (F : Arv Z h a k ty z vs dv) : ∀ c : Cell, h[a]? = some c → c.vm.isStatics = false := fun c hc => by
  obtain ⟨c1, A, -⟩ := F
  cases hc.symm.trans A.1
  exact A.plain
theorem own_nsF {Z : State} {h : Heap} {a : Addr} {C n d : String} {v : Value} (F : Fld Z h a C n d v) : ∀ c : Cell, h[a]? = some c → c.vm.isStatics = false := fun c hc => by
  obtain ⟨c1, _, _, _, _, h1, _, _, _, h5, _⟩ := F
  cases hc.symm.trans h1
  exact h5
theorem own_neA {Z : State} {a0 : Array Value} {h : Heap} {a b : Addr} {C : String} {n : Nat} {k : ClassId} {ty : FieldType} {z : Int32} {vs : List Value} {dv : Value} (F : Exa Z h a C) (wi : (Cond.instantiable C n).before a0 Z = true) (G : Arv Z h b k ty z vs dv) : a ≠ b := by
  obtain ⟨c1, A, -⟩ := G
  exact ne_arr F wi A
theorem own_staKeep {Z : State} {h h' : Heap} {C n d : String} {v : Value} {ws : List Addr} (F : Sta Z h C n d v) (K : Keep h h' ws) (q : ∀ x ∈ ws, ∀ c : Cell, h[x]? = some c → c.vm.isStatics = false) : Sta Z h' C n d v := by
  obtain ⟨cf, i, k, f, st, cell, h1, h2, h3, h4, h5, h6, h7⟩ := F
  exact ⟨cf, i, k, f, st, cell, h1, h2, h3, h4, K.2.1 st cell h5 (fun hm => by rw [q st hm cell h5] at h6; cases h6), h6, h7⟩
/-- a byte made a byte again -/
theorem own_nb (y : Int32) : y.toInt8.toInt32.toInt8.toInt32 = y.toInt8.toInt32 := by 
  have h1 := c_i2b y
  have h2 := c_i2b (y.toInt8.toInt32)
  apply Int32.toInt_inj.mp
  omega
theorem own_nbn (y : Int32) : nar .byte (y.toInt8.toInt32) = y.toInt8.toInt32 := own_nb y
/-- the walk goes on from A where it comes from B to A -/
theorem own_go {tb : Tables} {e : Env} {below : List Frame} {A B : State} {P : State → Outcome → Prop} (h : ∀ t, Steps tb e below A t → Steps tb e below B t) (k : ∃ t o, Steps tb e below A t ∧ P t o) : ∃ t o, Steps tb e below B t ∧ P t o := by
  obtain ⟨t, o, k1, k2⟩ := k
  exact ⟨t, o, h t k1, k2⟩
theorem own_pd0 : parseMethodDescriptor "(JJ)J" = some ⟨[.long, .long], some .long⟩ := by decide +kernel
theorem own_pd1 : parseMethodDescriptor "([BJ)[B" = some ⟨[(.array .byte), .long], some (.array .byte)⟩ := by decide +kernel
theorem own_pd2 : parseMethodDescriptor "(II)[B" = some ⟨[.int, .int], some (.array .byte)⟩ := by decide +kernel
theorem own_pd3 : parseMethodDescriptor "(IJ[B[BJJ)V" = some ⟨[.int, .long, (.array .byte), (.array .byte), .long, .long], none⟩ := by decide +kernel
theorem own_pd4 : parseMethodDescriptor "()J" = some ⟨[], some .long⟩ := by decide +kernel
theorem own_eqInt {s : State} {args : Array Value} {t : Term} {k : Int32} (h : (Cond.eq t (.int k)).value args s none s [] = some true) : t.eval args s none [] s = some (.int k) := by
  cases he : t.eval args s none [] s with
  | none => simp [Cond.value, he] at h
  | some v => cases v <;> simp_all [Cond.value, Term.eval]
/-- a constant of an enum as the case's words pin it: the static, the object's class, its ordinal -/
theorem own_enum {s : State} {args : Array Value} {C n d : String} {k : Int32} (hx : (Cond.exactly (.static C n d) C).value args s none s [] = some true) (ho : (Cond.eq (.field (.static C n d) "java/lang/Enum" "ordinal" "I") (.int k)).value args s none s [] = some true) (hi : (Cond.initialized C).before args s = true) (hl : (Cond.laysStatic C n d).before args s = true) :
    ∃ a, Sta s s.heap C n d (.ref a) ∧ Exa s s.heap a C ∧ Fld s s.heap a "java/lang/Enum" "ordinal" "I" (.int k) := by
  obtain ⟨a, ea⟩ := exa_v hx
  refine ⟨a, Sta.start ea (Or.inr ⟨hi, hl⟩), Exa.start ea hx, Fld.start ?_⟩
  have h := own_eqInt ho
  rwa [fld_at ea] at h
def own_l (n x0 x1 x2 : Int32) : List Value := if n = (0 : Int32) then [] else if n = (1 : Int32) then [(.int x0)] else if n = (2 : Int32) then [(.int x0), (.int x1)] else [(.int x0), (.int x1), (.int x2)]
def own_By (Z : State) (h : Heap) (a : Addr) (n : Int32) : Prop := ∃ (kc : ClassId) (x0 x1 x2 : Int32), Arv Z h a kc .byte n (own_l n x0 x1 x2) (.int (0 : Int32))
theorem own_By.ext {Z : State} {h h' : Heap} {a : Addr} {n : Int32} (F : own_By Z h a n) (E : Ext h h') : own_By Z h' a n := by obtain ⟨k, x0, x1, x2, A⟩ := F; exact ⟨k, x0, x1, x2, A.ext E⟩
theorem own_By.other {Z : State} {h h' : Heap} {a b : Addr} {sl : Nat} {v : Value} {n : Int32} (F : own_By Z h b n) (W : Wr h h' a sl v) (q : b ≠ a) : own_By Z h' b n := by obtain ⟨k, x0, x1, x2, A⟩ := F; exact ⟨k, x0, x1, x2, A.other W q⟩
theorem own_By.keep {Z : State} {h h' : Heap} {a : Addr} {n : Int32} {ws : List Addr} (F : own_By Z h a n) (K : Keep h h' ws) (q : a ∉ ws) : own_By Z h' a n := by obtain ⟨k, x0, x1, x2, A⟩ := F; exact ⟨k, x0, x1, x2, A.keep K q⟩
theorem own_By.lt {Z : State} {h : Heap} {a : Addr} {n : Int32} (F : own_By Z h a n) : a < h.size := by obtain ⟨k, x0, x1, x2, A⟩ := F; exact A.lt
def own_reach (qo qr : Int64) (n : Int32) : Int64 := (if lcmpW qr (0 : Int64) = (0 : Int32) then (0 : Int64) else (((qo + qr) - (1 : Int64)) + (n.toInt64)))
theorem own_n4 {p : Int32} (n : Int32) (h : n = p &&& (3 : Int32)) : n = (0 : Int32) ∨ n = (1 : Int32) ∨ n = (2 : Int32) ∨ n = (3 : Int32) := by
  have h1 := c_mask p (3 : Int32) 2 (by decide) (by decide)
  rw [← h] at h1
  have e0 : (0 : Int32).toInt = 0 := by decide
  have e1 : (1 : Int32).toInt = 1 := by decide
  have e2 : (2 : Int32).toInt = 2 := by decide
  have e3 : (3 : Int32).toInt = 3 := by decide
  simp only [← Int32.toInt_inj, e0, e1, e2, e3]
  omega
theorem own_r0 {qo qr : Int64} {n : Int32} (h : lcmpW qr (0 : Int64) = (0 : Int32)) : own_reach qo qr n = (0 : Int64) := by
  unfold own_reach; rw [if_pos h]
theorem own_r2 {q : Int64} {n : Int32} : own_reach q (1 : Int64) n = q + n.toInt64 := by
  unfold own_reach
  rw [if_neg (by decide), Int64.add_sub_cancel]
theorem own_r1 {qo qr : Int64} {n : Int32} (h : ¬ lcmpW qr (0 : Int64) = (0 : Int32)) : own_reach qo qr n = own_reach (qo + (qr - (1 : Int64))) (1 : Int64) n := by
  rw [own_r2]
  unfold own_reach
  rw [if_neg h]
  have e : qo + qr - (1 : Int64) = qo + (qr - (1 : Int64)) := by rw [Int64.sub_eq_add_neg, Int64.sub_eq_add_neg, Int64.add_assoc]
  rw [e]
theorem own_wd0 (q1 : Int64) (wd : Int32) (hs : (0 : Int32) < lcmpW q1 (1 : Int64)) (h : wd = ((if (0 : Int32) < lcmpW q1 (((0 : Int32)).toInt64 + (1 : Int64)) then (((0 : Int32)).toInt64 + (1 : Int64)) else q1).toInt32)) : wd = (1 : Int32) := by
  rw [lw_gt] at hs
  by_cases hq : (0 : Int32) < lcmpW q1 (((0 : Int32)).toInt64 + (1 : Int64))
  · rw [if_pos hq] at h
    subst h
    decide
  · rw [if_neg hq] at h
    rw [lw_gt] at hq
    have h1 := c_l2i q1
    have h2 := rng32 q1.toInt32
    rw [← h] at h1 h2
    have e1 : (1 : Int64).toInt = 1 := by decide
    have em : (((0 : Int32)).toInt64 + (1 : Int64)).toInt = 1 := by decide
    rw [Int64.lt_iff_toInt_lt] at hs hq
    simp only [← Int32.toInt_inj, (by decide : (1 : Int32).toInt = 1)]
    omega
theorem own_wd1 (q1 : Int64) (wd : Int32) (hs : (0 : Int32) < lcmpW q1 (1 : Int64)) (h : wd = ((if (0 : Int32) < lcmpW q1 (((1 : Int32)).toInt64 + (1 : Int64)) then (((1 : Int32)).toInt64 + (1 : Int64)) else q1).toInt32)) : wd = (2 : Int32) := by
  rw [lw_gt] at hs
  by_cases hq : (0 : Int32) < lcmpW q1 (((1 : Int32)).toInt64 + (1 : Int64))
  · rw [if_pos hq] at h
    subst h
    decide
  · rw [if_neg hq] at h
    rw [lw_gt] at hq
    have h1 := c_l2i q1
    have h2 := rng32 q1.toInt32
    rw [← h] at h1 h2
    have e1 : (1 : Int64).toInt = 1 := by decide
    have em : (((1 : Int32)).toInt64 + (1 : Int64)).toInt = 2 := by decide
    rw [Int64.lt_iff_toInt_lt] at hs hq
    simp only [← Int32.toInt_inj, (by decide : (2 : Int32).toInt = 2)]
    omega
theorem own_wd2 (q1 : Int64) (wd : Int32) (hs : (0 : Int32) < lcmpW q1 (1 : Int64)) (h : wd = ((if (0 : Int32) < lcmpW q1 (((2 : Int32)).toInt64 + (1 : Int64)) then (((2 : Int32)).toInt64 + (1 : Int64)) else q1).toInt32)) : wd = (2 : Int32) ∨ wd = (3 : Int32) := by
  rw [lw_gt] at hs
  by_cases hq : (0 : Int32) < lcmpW q1 (((2 : Int32)).toInt64 + (1 : Int64))
  · rw [if_pos hq] at h
    subst h
    decide
  · rw [if_neg hq] at h
    rw [lw_gt] at hq
    have h1 := c_l2i q1
    have h2 := rng32 q1.toInt32
    rw [← h] at h1 h2
    have e1 : (1 : Int64).toInt = 1 := by decide
    have em : (((2 : Int32)).toInt64 + (1 : Int64)).toInt = 3 := by decide
    rw [Int64.lt_iff_toInt_lt] at hs hq
    simp only [← Int32.toInt_inj, (by decide : (2 : Int32).toInt = 2), (by decide : (3 : Int32).toInt = 3)]
    omega
theorem own_wd3 (q1 : Int64) (wd : Int32) (hs : (0 : Int32) < lcmpW q1 (1 : Int64)) (h : wd = ((if (0 : Int32) < lcmpW q1 (((3 : Int32)).toInt64 + (1 : Int64)) then (((3 : Int32)).toInt64 + (1 : Int64)) else q1).toInt32)) : wd = (2 : Int32) ∨ wd = (3 : Int32) ∨ wd = (4 : Int32) := by
  rw [lw_gt] at hs
  by_cases hq : (0 : Int32) < lcmpW q1 (((3 : Int32)).toInt64 + (1 : Int64))
  · rw [if_pos hq] at h
    subst h
    decide
  · rw [if_neg hq] at h
    rw [lw_gt] at hq
    have h1 := c_l2i q1
    have h2 := rng32 q1.toInt32
    rw [← h] at h1 h2
    have e1 : (1 : Int64).toInt = 1 := by decide
    have em : (((3 : Int32)).toInt64 + (1 : Int64)).toInt = 4 := by decide
    rw [Int64.lt_iff_toInt_lt] at hs hq
    simp only [← Int32.toInt_inj, (by decide : (2 : Int32).toInt = 2), (by decide : (3 : Int32).toInt = 3), (by decide : (4 : Int32).toInt = 4)]
    omega
theorem d1_0 : decode method_3_code 0 = .ok (.iload_n 0, 1) := by decide +kernel
theorem d1_1 : decode method_3_code 1 = .ok (.ifCond .ne 7, 3) := by decide +kernel
theorem d1_4 : decode method_3_code 4 = .ok (.iconst 0, 1) := by decide +kernel
theorem d1_5 : decode method_3_code 5 = .ok (.newarray .byte, 2) := by decide +kernel
theorem d1_7 : decode method_3_code 7 = .ok (.areturn, 1) := by decide +kernel
theorem d1_8 : decode method_3_code 8 = .ok (.iload_n 0, 1) := by decide +kernel
theorem d1_9 : decode method_3_code 9 = .ok (.iconst 1, 1) := by decide +kernel
theorem d1_10 : decode method_3_code 10 = .ok (.if_icmp .ne 12, 3) := by decide +kernel
theorem d1_13 : decode method_3_code 13 = .ok (.iconst 1, 1) := by decide +kernel
theorem d1_14 : decode method_3_code 14 = .ok (.newarray .byte, 2) := by decide +kernel
theorem d1_16 : decode method_3_code 16 = .ok (.dup, 1) := by decide +kernel
theorem d1_17 : decode method_3_code 17 = .ok (.iconst 0, 1) := by decide +kernel
theorem d1_18 : decode method_3_code 18 = .ok (.iload_n 1, 1) := by decide +kernel
theorem d1_19 : decode method_3_code 19 = .ok (.i2b, 1) := by decide +kernel
theorem d1_20 : decode method_3_code 20 = .ok (.bastore, 1) := by decide +kernel
theorem d1_21 : decode method_3_code 21 = .ok (.areturn, 1) := by decide +kernel
theorem d1_22 : decode method_3_code 22 = .ok (.iload_n 0, 1) := by decide +kernel
theorem d1_23 : decode method_3_code 23 = .ok (.iconst 2, 1) := by decide +kernel
theorem d1_24 : decode method_3_code 24 = .ok (.if_icmp .ne 20, 3) := by decide +kernel
theorem d1_27 : decode method_3_code 27 = .ok (.iconst 2, 1) := by decide +kernel
theorem d1_28 : decode method_3_code 28 = .ok (.newarray .byte, 2) := by decide +kernel
theorem d1_30 : decode method_3_code 30 = .ok (.dup, 1) := by decide +kernel
theorem d1_31 : decode method_3_code 31 = .ok (.iconst 0, 1) := by decide +kernel
theorem d1_32 : decode method_3_code 32 = .ok (.iload_n 1, 1) := by decide +kernel
theorem d1_33 : decode method_3_code 33 = .ok (.i2b, 1) := by decide +kernel
theorem d1_34 : decode method_3_code 34 = .ok (.bastore, 1) := by decide +kernel
theorem d1_35 : decode method_3_code 35 = .ok (.dup, 1) := by decide +kernel
theorem d1_36 : decode method_3_code 36 = .ok (.iconst 1, 1) := by decide +kernel
theorem d1_37 : decode method_3_code 37 = .ok (.iload_n 1, 1) := by decide +kernel
theorem d1_38 : decode method_3_code 38 = .ok (.bipush 8, 2) := by decide +kernel
theorem d1_40 : decode method_3_code 40 = .ok (.ishr, 1) := by decide +kernel
theorem d1_41 : decode method_3_code 41 = .ok (.i2b, 1) := by decide +kernel
theorem d1_42 : decode method_3_code 42 = .ok (.bastore, 1) := by decide +kernel
theorem d1_43 : decode method_3_code 43 = .ok (.areturn, 1) := by decide +kernel
theorem d1_44 : decode method_3_code 44 = .ok (.iconst 3, 1) := by decide +kernel
theorem d1_45 : decode method_3_code 45 = .ok (.newarray .byte, 2) := by decide +kernel
theorem d1_47 : decode method_3_code 47 = .ok (.dup, 1) := by decide +kernel
theorem d1_48 : decode method_3_code 48 = .ok (.iconst 0, 1) := by decide +kernel
theorem d1_49 : decode method_3_code 49 = .ok (.iload_n 1, 1) := by decide +kernel
theorem d1_50 : decode method_3_code 50 = .ok (.i2b, 1) := by decide +kernel
theorem d1_51 : decode method_3_code 51 = .ok (.bastore, 1) := by decide +kernel
theorem d1_52 : decode method_3_code 52 = .ok (.dup, 1) := by decide +kernel
theorem d1_53 : decode method_3_code 53 = .ok (.iconst 1, 1) := by decide +kernel
theorem d1_54 : decode method_3_code 54 = .ok (.iload_n 1, 1) := by decide +kernel
theorem d1_55 : decode method_3_code 55 = .ok (.bipush 8, 2) := by decide +kernel
theorem d1_57 : decode method_3_code 57 = .ok (.ishr, 1) := by decide +kernel
theorem d1_58 : decode method_3_code 58 = .ok (.i2b, 1) := by decide +kernel
theorem d1_59 : decode method_3_code 59 = .ok (.bastore, 1) := by decide +kernel
theorem d1_60 : decode method_3_code 60 = .ok (.dup, 1) := by decide +kernel
theorem d1_61 : decode method_3_code 61 = .ok (.iconst 2, 1) := by decide +kernel
theorem d1_62 : decode method_3_code 62 = .ok (.iload_n 1, 1) := by decide +kernel
theorem d1_63 : decode method_3_code 63 = .ok (.bipush 16, 2) := by decide +kernel
theorem d1_65 : decode method_3_code 65 = .ok (.ishr, 1) := by decide +kernel
theorem d1_66 : decode method_3_code 66 = .ok (.i2b, 1) := by decide +kernel
theorem d1_67 : decode method_3_code 67 = .ok (.bastore, 1) := by decide +kernel
theorem d1_68 : decode method_3_code 68 = .ok (.areturn, 1) := by decide +kernel
theorem own_pn1 : plainName "com/example/sharp_nose/sharpnose/desktop/MagicRuleReachPinLaw" = true := by first | (simp [plainName, overriddenIn]; done) | decide +kernel
theorem own_ef1 (m : MethodId) (x0 : Int32) (x1 : Int32) : entryFrame m #[(.int x0), (.int x1)] 2 = mkF m 0 #[.val (.int x0), .val (.int x1)] [] := by first | (simp [entryFrame, mkF, argsToLocals, Value.category]; done) | rfl
def QrmBytes (Z : State) (n : Int32) (h0 : Heap) (n0 : Nat) (v : Option Value) (h : Heap) (L : List Loc) : Prop := ∃ b : Addr, v = some (.ref b) ∧ Fr n0 L ∧ h0.size ≤ b ∧ Keep h0 h [] ∧ own_By Z h b n ∧ Exa Z h b "[B"
set_option maxRecDepth 65536 in
set_option maxHeartbeats 40000000 in
theorem rmBytes (l : Launch) (Z : State) (a0 : Array Value) (hw : ∀ d ∈ tables_1, d.before a0 Z = true) (ws : List Jvm.Cond) (n x : Int32) (h0 : Heap) (n0 : Nat) (Z0 : n0 ≤ h0.size) (hn : n = (0 : Int32) ∨ n = (1 : Int32) ∨ n = (2 : Int32) ∨ n = (3 : Int32)) :
    MetFree l (⟨"com/example/sharp_nose/sharpnose/desktop/MagicRuleReachPinLaw", "bytes", "(II)[B"⟩ : MethodName) (head1 (Jvm.Cond.code (⟨"com/example/sharp_nose/sharpnose/desktop/MagicRuleReachPinLaw", "bytes", "(II)[B"⟩ : MethodName) method_3_code 2 (some (.array .byte)) :: ws) ({ frames := 0, cells := 1, slots := 3, locals := 0 } : Room)) (fun ar_ U_ => ar_ = #[(.int n), (.int x)] ∧ Z.Warmed39 U_.vm ∧ U_.heap = h0) (fun _ _ _ _ _ => True) (fun _ U_ ou_ V_ => ∃ v_ L_, ou_ = .returned v_ ∧ QrmBytes Z n h0 n0 v_ V_.heap L_ ∧ FrameEnd U_ ou_ V_ L_ ({ frames := 0, cells := 1, slots := 3, locals := 0 } : Room).cells ({ frames := 0, cells := 1, slots := 3, locals := 0 } : Room).slots) := by
  refine MetFree.of_bodySF (plainFor_of_name own_pn1) hisR ?_
  intro p e s m args below meth c s₁ Bd hml0 hP hK
  obtain ⟨rfl, hZ, hh⟩ := hP
  have hx := Bd.exec
  have hby := Bd.bytes
  have hml : c.maxLocals = 2 := hml0
  have hown : s.vm.findClass "com/example/sharp_nose/sharpnose/desktop/MagicRuleReachPinLaw" = some m.cls := findClass_of_methodNamed Bd.named
  have hnm := (name_of_methodNamed Bd.named Bd.method).1
  have X0 : Stand p l e ({ frames := 0, cells := 1, slots := 3, locals := 0 } : Room) s m #[(.int n), (.int x)] below meth c s₁ [] 0 0 := Stand.of_body Bd
  have e0 : s₁.heap = h0 := by rw [← hh, Bd.state]; rfl
  have N0 := Fr.nil n0
  have Kp0 : Keep h0 h0 [] := Keep.refl h0 _
  refine own_go (A := s₁.setTop (mkF m 0 #[.val (.int n), .val (.int x)] [])) (fun t kz => castTop (own_ef1 m n x) kz) ?_
  rcases hn with rfl | rfl | rfl | rfl
  · skip
    refine own_go (A := s₁.setTop (mkF m 5 #[.val (.int (0 : Int32)), .val (.int x)] [(.int (0 : Int32))])) (fun _ kz => ?_) ?_
    · show Steps p.tables e below (s₁.setTop (mkF m 0 #[.val (.int (0 : Int32)), .val (.int x)] [])) _
      refine XS.iloadN X0.here hx rfl (hb hby d1_0) rfl ?_
      show Steps p.tables e below (s₁.setTop (mkF m 1 #[.val (.int (0 : Int32)), .val (.int x)] [(.int (0 : Int32))])) _
      refine XS.ifNo X0.here hx rfl (hb hby d1_1) rfl ((if0 _ _).trans (teq (by decide : ((0 : Int32) = (0 : Int32)))).2) ?_
      show Steps p.tables e below (s₁.setTop (mkF m 4 #[.val (.int (0 : Int32)), .val (.int x)] [])) _
      refine XS.iconst X0.here hx rfl (hb hby d1_4) ?_
      exact kz
    obtain ⟨T1, h1, k1, X1, e1, E1, A1, Q1, st1⟩ := newPE X0 hx hZ (hw _ (List.mem_of_getElem? (i := 5) rfl)) e0 (g := (mkF m 5 #[.val (.int (0 : Int32)), .val (.int x)] [(.int (0 : Int32))])) rfl (hb hby d1_5) rfl (by decide) (cap := 0) (by decide) (by decide) (by decide) (by decide) (ad := "[B") (by decide)
    obtain ⟨b1, gq1⟩ : ∃ z, z = h0.size := ⟨_, rfl⟩
    rw [← gq1] at A1 Q1 st1
    have g_b1 : n0 ≤ b1 := Nat.le_trans Z0 (Nat.le_of_eq gq1.symm)
    have szk_b1 : h0.size ≤ b1 := Nat.le_trans Kp0.1 (Nat.le_of_eq gq1.symm)
    have Z1 : n0 ≤ h1.size := Nat.le_trans Z0 E1.1
    have Kp1 : Keep h0 h1 [] := Kp0.ext E1
    have Ex_b1 := Q1
    have Av_b1 : Arv Z h1 b1 k1 .byte (0 : Int32) [] (.int (0 : Int32)) := Arv.new A1 (by decide)
    refine own_go (A := T1.setTop (mkF m 7 #[.val (.int (0 : Int32)), .val (.int x)] [(.ref b1)])) (fun _ kz => st1 _ kz) ?_
    obtain ⟨fs, hrr, hrun, hended, hW, hsame⟩ := X1.leave (v := some (.ref b1)) (fun h => by rw [Bd.returns] at h; cases h)
    refine ⟨_, _, ?_, hrun, hended, _, _, rfl, ?_, ⟨_, rfl⟩, hW, hsame.mono (by decide) (by decide)⟩
    · show Steps p.tables e below (T1.setTop (mkF m 7 #[.val (.int (0 : Int32)), .val (.int x)] [(.ref b1)])) _
      exact retOut X1 hx (t := (.array .byte)) Bd.returns rfl (Or.inr (Or.inr (Or.inr (Or.inr ⟨rfl, rfl, rfl⟩)))) (hb hby d1_7) hrr
    · show QrmBytes Z (0 : Int32) h0 n0 _ T1.heap _
      rw [e1]
      exact ⟨b1, rfl, N0, szk_b1, Kp1, ⟨k1, (0 : Int32), (0 : Int32), (0 : Int32), Av_b1⟩, Ex_b1⟩
  · skip
    refine own_go (A := s₁.setTop (mkF m 14 #[.val (.int (1 : Int32)), .val (.int x)] [(.int (1 : Int32))])) (fun _ kz => ?_) ?_
    · show Steps p.tables e below (s₁.setTop (mkF m 0 #[.val (.int (1 : Int32)), .val (.int x)] [])) _
      refine XS.iloadN X0.here hx rfl (hb hby d1_0) rfl ?_
      show Steps p.tables e below (s₁.setTop (mkF m 1 #[.val (.int (1 : Int32)), .val (.int x)] [(.int (1 : Int32))])) _
      refine XS.ifYes X0.here hx rfl (pc0 := 1) (pc' := 8) rfl (hb hby d1_1) rfl ((if0 _ _).trans (feq (by decide : ¬ ((1 : Int32) = (0 : Int32)))).2) (by decide) (by decide) ?_
      show Steps p.tables e below (s₁.setTop (mkF m 8 #[.val (.int (1 : Int32)), .val (.int x)] [])) _
      refine XS.iloadN X0.here hx rfl (hb hby d1_8) rfl ?_
      show Steps p.tables e below (s₁.setTop (mkF m 9 #[.val (.int (1 : Int32)), .val (.int x)] [(.int (1 : Int32))])) _
      refine XS.iconst X0.here hx rfl (hb hby d1_9) ?_
      show Steps p.tables e below (s₁.setTop (mkF m 10 #[.val (.int (1 : Int32)), .val (.int x)] [(.int (1 : Int32)), (.int (1 : Int32))])) _
      refine XS.icmpNo X0.here hx rfl (hb hby d1_10) rfl (teq (by decide : ((1 : Int32) = (1 : Int32)))).2 ?_
      show Steps p.tables e below (s₁.setTop (mkF m 13 #[.val (.int (1 : Int32)), .val (.int x)] [])) _
      refine XS.iconst X0.here hx rfl (hb hby d1_13) ?_
      exact kz
    obtain ⟨T2, h2, k2, X2, e2, E2, A2, Q2, st2⟩ := newPE X0 hx hZ (hw _ (List.mem_of_getElem? (i := 5) rfl)) e0 (g := (mkF m 14 #[.val (.int (1 : Int32)), .val (.int x)] [(.int (1 : Int32))])) rfl (hb hby d1_14) rfl (by decide) (cap := 1) (by decide) (by decide) (by decide) (by decide) (ad := "[B") (by decide)
    obtain ⟨b2, gq2⟩ : ∃ z, z = h0.size := ⟨_, rfl⟩
    rw [← gq2] at A2 Q2 st2
    have g_b2 : n0 ≤ b2 := Nat.le_trans Z0 (Nat.le_of_eq gq2.symm)
    have szk_b2 : h0.size ≤ b2 := Nat.le_trans Kp0.1 (Nat.le_of_eq gq2.symm)
    have Z2 : n0 ≤ h2.size := Nat.le_trans Z0 E2.1
    have Kp2 : Keep h0 h2 [] := Kp0.ext E2
    have Ex_b2 := Q2
    have Av_b2 : Arv Z h2 b2 k2 .byte (1 : Int32) [(.int (0 : Int32))] (.int (0 : Int32)) := (Arv.new A2 (by decide)).pad (pad_rep [] (.int (0 : Int32)) 1)
    refine own_go (A := T2.setTop (mkF m 16 #[.val (.int (1 : Int32)), .val (.int x)] [(.ref b2)])) (fun _ kz => st2 _ kz) ?_
    refine own_go (A := T2.setTop (mkF m 20 #[.val (.int (1 : Int32)), .val (.int x)] [(.int (x.toInt8.toInt32)), (.int (0 : Int32)), (.ref b2), (.ref b2)])) (fun _ kz => ?_) ?_
    · show Steps p.tables e below (T2.setTop (mkF m 16 #[.val (.int (1 : Int32)), .val (.int x)] [(.ref b2)])) _
      refine XS.dup X2.here hx rfl (hb hby d1_16) rfl rfl ?_
      show Steps p.tables e below (T2.setTop (mkF m 17 #[.val (.int (1 : Int32)), .val (.int x)] [(.ref b2), (.ref b2)])) _
      refine XS.iconst X2.here hx rfl (hb hby d1_17) ?_
      show Steps p.tables e below (T2.setTop (mkF m 18 #[.val (.int (1 : Int32)), .val (.int x)] [(.int (0 : Int32)), (.ref b2), (.ref b2)])) _
      refine XS.iloadN X2.here hx rfl (hb hby d1_18) rfl ?_
      show Steps p.tables e below (T2.setTop (mkF m 19 #[.val (.int (1 : Int32)), .val (.int x)] [(.int x), (.int (0 : Int32)), (.ref b2), (.ref b2)])) _
      refine XS.i2b X2.here hx rfl (hb hby d1_19) rfl ?_
      exact kz
    obtain ⟨cl3, Ar3, q3, S3, M3, H3, G3⟩ := id Av_b2
    have hin3 : ¬ ((0 : Int32) < 0 ∨ cl3.slots.size ≤ ((0 : Int32)).toNatClampNeg) := inb_of S3 ⟨by decide, by decide⟩
    obtain ⟨T3, h3, X3, e3, W3, st3⟩ := stB X2 hx hZ e2 Ar3 (j := (0 : Int32)) hin3 (g := (mkF m 20 #[.val (.int (1 : Int32)), .val (.int x)] [(.int (x.toInt8.toInt32)), (.int (0 : Int32)), (.ref b2), (.ref b2)])) rfl rfl (hb hby d1_20)
    rw [own_nbn] at W3
    have Aw3 := Arv.set Ar3 q3 S3 M3 H3 G3 (fits_nar_byte _) W3 0 rfl (Nat.le_of_ble_eq_true rfl)
    replace Ex_b2 := Ex_b2.wr W3
    have Z3 : n0 ≤ h3.size := Nat.le_trans Z2 (Keep.of_wr W3).1
    have Kp3 : Keep h0 h3 [] := Kp2.wr W3 (Or.inr szk_b2)
    have Av_b2 : Arv Z h3 b2 k2 .byte (1 : Int32) [(.int (x.toInt8.toInt32))] (.int (0 : Int32)) := Aw3
    have N3 := Fr.snoc X3 N0 g_b2
    refine own_go (A := T3.setTop (mkF m 21 #[.val (.int (1 : Int32)), .val (.int x)] [(.ref b2)])) (fun _ kz => st3 _ kz) ?_
    obtain ⟨fs, hrr, hrun, hended, hW, hsame⟩ := X3.leave (v := some (.ref b2)) (fun h => by rw [Bd.returns] at h; cases h)
    refine ⟨_, _, ?_, hrun, hended, _, _, rfl, ?_, ⟨_, rfl⟩, hW, hsame.mono (by decide) (by decide)⟩
    · show Steps p.tables e below (T3.setTop (mkF m 21 #[.val (.int (1 : Int32)), .val (.int x)] [(.ref b2)])) _
      exact retOut X3 hx (t := (.array .byte)) Bd.returns rfl (Or.inr (Or.inr (Or.inr (Or.inr ⟨rfl, rfl, rfl⟩)))) (hb hby d1_21) hrr
    · show QrmBytes Z (1 : Int32) h0 n0 _ T3.heap _
      rw [e3]
      exact ⟨b2, rfl, N3, szk_b2, Kp3, ⟨k2, (x.toInt8.toInt32), (0 : Int32), (0 : Int32), Av_b2⟩, Ex_b2⟩
  · skip
    refine own_go (A := s₁.setTop (mkF m 28 #[.val (.int (2 : Int32)), .val (.int x)] [(.int (2 : Int32))])) (fun _ kz => ?_) ?_
    · show Steps p.tables e below (s₁.setTop (mkF m 0 #[.val (.int (2 : Int32)), .val (.int x)] [])) _
      refine XS.iloadN X0.here hx rfl (hb hby d1_0) rfl ?_
      show Steps p.tables e below (s₁.setTop (mkF m 1 #[.val (.int (2 : Int32)), .val (.int x)] [(.int (2 : Int32))])) _
      refine XS.ifYes X0.here hx rfl (pc0 := 1) (pc' := 8) rfl (hb hby d1_1) rfl ((if0 _ _).trans (feq (by decide : ¬ ((2 : Int32) = (0 : Int32)))).2) (by decide) (by decide) ?_
      show Steps p.tables e below (s₁.setTop (mkF m 8 #[.val (.int (2 : Int32)), .val (.int x)] [])) _
      refine XS.iloadN X0.here hx rfl (hb hby d1_8) rfl ?_
      show Steps p.tables e below (s₁.setTop (mkF m 9 #[.val (.int (2 : Int32)), .val (.int x)] [(.int (2 : Int32))])) _
      refine XS.iconst X0.here hx rfl (hb hby d1_9) ?_
      show Steps p.tables e below (s₁.setTop (mkF m 10 #[.val (.int (2 : Int32)), .val (.int x)] [(.int (1 : Int32)), (.int (2 : Int32))])) _
      refine XS.icmpYes X0.here hx rfl (pc0 := 10) (pc' := 22) rfl (hb hby d1_10) rfl (feq (by decide : ¬ ((2 : Int32) = (1 : Int32)))).2 (by decide) (by decide) ?_
      show Steps p.tables e below (s₁.setTop (mkF m 22 #[.val (.int (2 : Int32)), .val (.int x)] [])) _
      refine XS.iloadN X0.here hx rfl (hb hby d1_22) rfl ?_
      show Steps p.tables e below (s₁.setTop (mkF m 23 #[.val (.int (2 : Int32)), .val (.int x)] [(.int (2 : Int32))])) _
      refine XS.iconst X0.here hx rfl (hb hby d1_23) ?_
      show Steps p.tables e below (s₁.setTop (mkF m 24 #[.val (.int (2 : Int32)), .val (.int x)] [(.int (2 : Int32)), (.int (2 : Int32))])) _
      refine XS.icmpNo X0.here hx rfl (hb hby d1_24) rfl (teq (by decide : ((2 : Int32) = (2 : Int32)))).2 ?_
      show Steps p.tables e below (s₁.setTop (mkF m 27 #[.val (.int (2 : Int32)), .val (.int x)] [])) _
      refine XS.iconst X0.here hx rfl (hb hby d1_27) ?_
      exact kz
    obtain ⟨T4, h4, k4, X4, e4, E4, A4, Q4, st4⟩ := newPE X0 hx hZ (hw _ (List.mem_of_getElem? (i := 5) rfl)) e0 (g := (mkF m 28 #[.val (.int (2 : Int32)), .val (.int x)] [(.int (2 : Int32))])) rfl (hb hby d1_28) rfl (by decide) (cap := 2) (by decide) (by decide) (by decide) (by decide) (ad := "[B") (by decide)
    obtain ⟨b4, gq4⟩ : ∃ z, z = h0.size := ⟨_, rfl⟩
    rw [← gq4] at A4 Q4 st4
    have g_b4 : n0 ≤ b4 := Nat.le_trans Z0 (Nat.le_of_eq gq4.symm)
    have szk_b4 : h0.size ≤ b4 := Nat.le_trans Kp0.1 (Nat.le_of_eq gq4.symm)
    have Z4 : n0 ≤ h4.size := Nat.le_trans Z0 E4.1
    have Kp4 : Keep h0 h4 [] := Kp0.ext E4
    have Ex_b4 := Q4
    have Av_b4 : Arv Z h4 b4 k4 .byte (2 : Int32) [(.int (0 : Int32)), (.int (0 : Int32))] (.int (0 : Int32)) := (Arv.new A4 (by decide)).pad (pad_rep [] (.int (0 : Int32)) 2)
    refine own_go (A := T4.setTop (mkF m 30 #[.val (.int (2 : Int32)), .val (.int x)] [(.ref b4)])) (fun _ kz => st4 _ kz) ?_
    refine own_go (A := T4.setTop (mkF m 34 #[.val (.int (2 : Int32)), .val (.int x)] [(.int (x.toInt8.toInt32)), (.int (0 : Int32)), (.ref b4), (.ref b4)])) (fun _ kz => ?_) ?_
    · show Steps p.tables e below (T4.setTop (mkF m 30 #[.val (.int (2 : Int32)), .val (.int x)] [(.ref b4)])) _
      refine XS.dup X4.here hx rfl (hb hby d1_30) rfl rfl ?_
      show Steps p.tables e below (T4.setTop (mkF m 31 #[.val (.int (2 : Int32)), .val (.int x)] [(.ref b4), (.ref b4)])) _
      refine XS.iconst X4.here hx rfl (hb hby d1_31) ?_
      show Steps p.tables e below (T4.setTop (mkF m 32 #[.val (.int (2 : Int32)), .val (.int x)] [(.int (0 : Int32)), (.ref b4), (.ref b4)])) _
      refine XS.iloadN X4.here hx rfl (hb hby d1_32) rfl ?_
      show Steps p.tables e below (T4.setTop (mkF m 33 #[.val (.int (2 : Int32)), .val (.int x)] [(.int x), (.int (0 : Int32)), (.ref b4), (.ref b4)])) _
      refine XS.i2b X4.here hx rfl (hb hby d1_33) rfl ?_
      exact kz
    obtain ⟨cl5, Ar5, q5, S5, M5, H5, G5⟩ := id Av_b4
    have hin5 : ¬ ((0 : Int32) < 0 ∨ cl5.slots.size ≤ ((0 : Int32)).toNatClampNeg) := inb_of S5 ⟨by decide, by decide⟩
    obtain ⟨T5, h5, X5, e5, W5, st5⟩ := stB X4 hx hZ e4 Ar5 (j := (0 : Int32)) hin5 (g := (mkF m 34 #[.val (.int (2 : Int32)), .val (.int x)] [(.int (x.toInt8.toInt32)), (.int (0 : Int32)), (.ref b4), (.ref b4)])) rfl rfl (hb hby d1_34)
    rw [own_nbn] at W5
    have Aw5 := Arv.set Ar5 q5 S5 M5 H5 G5 (fits_nar_byte _) W5 0 rfl (Nat.le_of_ble_eq_true rfl)
    replace Ex_b4 := Ex_b4.wr W5
    have Z5 : n0 ≤ h5.size := Nat.le_trans Z4 (Keep.of_wr W5).1
    have Kp5 : Keep h0 h5 [] := Kp4.wr W5 (Or.inr szk_b4)
    have Av_b4 : Arv Z h5 b4 k4 .byte (2 : Int32) [(.int (x.toInt8.toInt32)), (.int (0 : Int32))] (.int (0 : Int32)) := Aw5
    have N5 := Fr.snoc X5 N0 g_b4
    refine own_go (A := T5.setTop (mkF m 35 #[.val (.int (2 : Int32)), .val (.int x)] [(.ref b4)])) (fun _ kz => st5 _ kz) ?_
    refine own_go (A := T5.setTop (mkF m 42 #[.val (.int (2 : Int32)), .val (.int x)] [(.int ((x >>> ((8 : Int32) &&& 31)).toInt8.toInt32)), (.int (1 : Int32)), (.ref b4), (.ref b4)])) (fun _ kz => ?_) ?_
    · show Steps p.tables e below (T5.setTop (mkF m 35 #[.val (.int (2 : Int32)), .val (.int x)] [(.ref b4)])) _
      refine XS.dup X5.here hx rfl (hb hby d1_35) rfl rfl ?_
      show Steps p.tables e below (T5.setTop (mkF m 36 #[.val (.int (2 : Int32)), .val (.int x)] [(.ref b4), (.ref b4)])) _
      refine XS.iconst X5.here hx rfl (hb hby d1_36) ?_
      show Steps p.tables e below (T5.setTop (mkF m 37 #[.val (.int (2 : Int32)), .val (.int x)] [(.int (1 : Int32)), (.ref b4), (.ref b4)])) _
      refine XS.iloadN X5.here hx rfl (hb hby d1_37) rfl ?_
      show Steps p.tables e below (T5.setTop (mkF m 38 #[.val (.int (2 : Int32)), .val (.int x)] [(.int x), (.int (1 : Int32)), (.ref b4), (.ref b4)])) _
      refine XS.bipush X5.here hx rfl (hb hby d1_38) ?_
      show Steps p.tables e below (T5.setTop (mkF m 40 #[.val (.int (2 : Int32)), .val (.int x)] [(.int (8 : Int32)), (.int x), (.int (1 : Int32)), (.ref b4), (.ref b4)])) _
      refine XS.ishr X5.here hx rfl (hb hby d1_40) rfl ?_
      show Steps p.tables e below (T5.setTop (mkF m 41 #[.val (.int (2 : Int32)), .val (.int x)] [(.int (x >>> ((8 : Int32) &&& 31))), (.int (1 : Int32)), (.ref b4), (.ref b4)])) _
      refine XS.i2b X5.here hx rfl (hb hby d1_41) rfl ?_
      exact kz
    obtain ⟨cl6, Ar6, q6, S6, M6, H6, G6⟩ := id Av_b4
    have hin6 : ¬ ((1 : Int32) < 0 ∨ cl6.slots.size ≤ ((1 : Int32)).toNatClampNeg) := inb_of S6 ⟨by decide, by decide⟩
    obtain ⟨T6, h6, X6, e6, W6, st6⟩ := stB X5 hx hZ e5 Ar6 (j := (1 : Int32)) hin6 (g := (mkF m 42 #[.val (.int (2 : Int32)), .val (.int x)] [(.int ((x >>> ((8 : Int32) &&& 31)).toInt8.toInt32)), (.int (1 : Int32)), (.ref b4), (.ref b4)])) rfl rfl (hb hby d1_42)
    rw [own_nbn] at W6
    have Aw6 := Arv.set Ar6 q6 S6 M6 H6 G6 (fits_nar_byte _) W6 1 rfl (Nat.le_of_ble_eq_true rfl)
    replace Ex_b4 := Ex_b4.wr W6
    have Z6 : n0 ≤ h6.size := Nat.le_trans Z5 (Keep.of_wr W6).1
    have Kp6 : Keep h0 h6 [] := Kp5.wr W6 (Or.inr szk_b4)
    have Av_b4 : Arv Z h6 b4 k4 .byte (2 : Int32) [(.int (x.toInt8.toInt32)), (.int ((x >>> ((8 : Int32) &&& 31)).toInt8.toInt32))] (.int (0 : Int32)) := Aw6
    have N6 := Fr.snoc X6 N5 g_b4
    refine own_go (A := T6.setTop (mkF m 43 #[.val (.int (2 : Int32)), .val (.int x)] [(.ref b4)])) (fun _ kz => st6 _ kz) ?_
    obtain ⟨fs, hrr, hrun, hended, hW, hsame⟩ := X6.leave (v := some (.ref b4)) (fun h => by rw [Bd.returns] at h; cases h)
    refine ⟨_, _, ?_, hrun, hended, _, _, rfl, ?_, ⟨_, rfl⟩, hW, hsame.mono (by decide) (by decide)⟩
    · show Steps p.tables e below (T6.setTop (mkF m 43 #[.val (.int (2 : Int32)), .val (.int x)] [(.ref b4)])) _
      exact retOut X6 hx (t := (.array .byte)) Bd.returns rfl (Or.inr (Or.inr (Or.inr (Or.inr ⟨rfl, rfl, rfl⟩)))) (hb hby d1_43) hrr
    · show QrmBytes Z (2 : Int32) h0 n0 _ T6.heap _
      rw [e6]
      exact ⟨b4, rfl, N6, szk_b4, Kp6, ⟨k4, (x.toInt8.toInt32), ((x >>> ((8 : Int32) &&& 31)).toInt8.toInt32), (0 : Int32), Av_b4⟩, Ex_b4⟩
  · skip
    refine own_go (A := s₁.setTop (mkF m 45 #[.val (.int (3 : Int32)), .val (.int x)] [(.int (3 : Int32))])) (fun _ kz => ?_) ?_
    · show Steps p.tables e below (s₁.setTop (mkF m 0 #[.val (.int (3 : Int32)), .val (.int x)] [])) _
      refine XS.iloadN X0.here hx rfl (hb hby d1_0) rfl ?_
      show Steps p.tables e below (s₁.setTop (mkF m 1 #[.val (.int (3 : Int32)), .val (.int x)] [(.int (3 : Int32))])) _
      refine XS.ifYes X0.here hx rfl (pc0 := 1) (pc' := 8) rfl (hb hby d1_1) rfl ((if0 _ _).trans (feq (by decide : ¬ ((3 : Int32) = (0 : Int32)))).2) (by decide) (by decide) ?_
      show Steps p.tables e below (s₁.setTop (mkF m 8 #[.val (.int (3 : Int32)), .val (.int x)] [])) _
      refine XS.iloadN X0.here hx rfl (hb hby d1_8) rfl ?_
      show Steps p.tables e below (s₁.setTop (mkF m 9 #[.val (.int (3 : Int32)), .val (.int x)] [(.int (3 : Int32))])) _
      refine XS.iconst X0.here hx rfl (hb hby d1_9) ?_
      show Steps p.tables e below (s₁.setTop (mkF m 10 #[.val (.int (3 : Int32)), .val (.int x)] [(.int (1 : Int32)), (.int (3 : Int32))])) _
      refine XS.icmpYes X0.here hx rfl (pc0 := 10) (pc' := 22) rfl (hb hby d1_10) rfl (feq (by decide : ¬ ((3 : Int32) = (1 : Int32)))).2 (by decide) (by decide) ?_
      show Steps p.tables e below (s₁.setTop (mkF m 22 #[.val (.int (3 : Int32)), .val (.int x)] [])) _
      refine XS.iloadN X0.here hx rfl (hb hby d1_22) rfl ?_
      show Steps p.tables e below (s₁.setTop (mkF m 23 #[.val (.int (3 : Int32)), .val (.int x)] [(.int (3 : Int32))])) _
      refine XS.iconst X0.here hx rfl (hb hby d1_23) ?_
      show Steps p.tables e below (s₁.setTop (mkF m 24 #[.val (.int (3 : Int32)), .val (.int x)] [(.int (2 : Int32)), (.int (3 : Int32))])) _
      refine XS.icmpYes X0.here hx rfl (pc0 := 24) (pc' := 44) rfl (hb hby d1_24) rfl (feq (by decide : ¬ ((3 : Int32) = (2 : Int32)))).2 (by decide) (by decide) ?_
      show Steps p.tables e below (s₁.setTop (mkF m 44 #[.val (.int (3 : Int32)), .val (.int x)] [])) _
      refine XS.iconst X0.here hx rfl (hb hby d1_44) ?_
      exact kz
    obtain ⟨T7, h7, k7, X7, e7, E7, A7, Q7, st7⟩ := newPE X0 hx hZ (hw _ (List.mem_of_getElem? (i := 5) rfl)) e0 (g := (mkF m 45 #[.val (.int (3 : Int32)), .val (.int x)] [(.int (3 : Int32))])) rfl (hb hby d1_45) rfl (by decide) (cap := 3) (by decide) (by decide) (by decide) (by decide) (ad := "[B") (by decide)
    obtain ⟨b7, gq7⟩ : ∃ z, z = h0.size := ⟨_, rfl⟩
    rw [← gq7] at A7 Q7 st7
    have g_b7 : n0 ≤ b7 := Nat.le_trans Z0 (Nat.le_of_eq gq7.symm)
    have szk_b7 : h0.size ≤ b7 := Nat.le_trans Kp0.1 (Nat.le_of_eq gq7.symm)
    have Z7 : n0 ≤ h7.size := Nat.le_trans Z0 E7.1
    have Kp7 : Keep h0 h7 [] := Kp0.ext E7
    have Ex_b7 := Q7
    have Av_b7 : Arv Z h7 b7 k7 .byte (3 : Int32) [(.int (0 : Int32)), (.int (0 : Int32)), (.int (0 : Int32))] (.int (0 : Int32)) := (Arv.new A7 (by decide)).pad (pad_rep [] (.int (0 : Int32)) 3)
    refine own_go (A := T7.setTop (mkF m 47 #[.val (.int (3 : Int32)), .val (.int x)] [(.ref b7)])) (fun _ kz => st7 _ kz) ?_
    refine own_go (A := T7.setTop (mkF m 51 #[.val (.int (3 : Int32)), .val (.int x)] [(.int (x.toInt8.toInt32)), (.int (0 : Int32)), (.ref b7), (.ref b7)])) (fun _ kz => ?_) ?_
    · show Steps p.tables e below (T7.setTop (mkF m 47 #[.val (.int (3 : Int32)), .val (.int x)] [(.ref b7)])) _
      refine XS.dup X7.here hx rfl (hb hby d1_47) rfl rfl ?_
      show Steps p.tables e below (T7.setTop (mkF m 48 #[.val (.int (3 : Int32)), .val (.int x)] [(.ref b7), (.ref b7)])) _
      refine XS.iconst X7.here hx rfl (hb hby d1_48) ?_
      show Steps p.tables e below (T7.setTop (mkF m 49 #[.val (.int (3 : Int32)), .val (.int x)] [(.int (0 : Int32)), (.ref b7), (.ref b7)])) _
      refine XS.iloadN X7.here hx rfl (hb hby d1_49) rfl ?_
      show Steps p.tables e below (T7.setTop (mkF m 50 #[.val (.int (3 : Int32)), .val (.int x)] [(.int x), (.int (0 : Int32)), (.ref b7), (.ref b7)])) _
      refine XS.i2b X7.here hx rfl (hb hby d1_50) rfl ?_
      exact kz
    obtain ⟨cl8, Ar8, q8, S8, M8, H8, G8⟩ := id Av_b7
    have hin8 : ¬ ((0 : Int32) < 0 ∨ cl8.slots.size ≤ ((0 : Int32)).toNatClampNeg) := inb_of S8 ⟨by decide, by decide⟩
    obtain ⟨T8, h8, X8, e8, W8, st8⟩ := stB X7 hx hZ e7 Ar8 (j := (0 : Int32)) hin8 (g := (mkF m 51 #[.val (.int (3 : Int32)), .val (.int x)] [(.int (x.toInt8.toInt32)), (.int (0 : Int32)), (.ref b7), (.ref b7)])) rfl rfl (hb hby d1_51)
    rw [own_nbn] at W8
    have Aw8 := Arv.set Ar8 q8 S8 M8 H8 G8 (fits_nar_byte _) W8 0 rfl (Nat.le_of_ble_eq_true rfl)
    replace Ex_b7 := Ex_b7.wr W8
    have Z8 : n0 ≤ h8.size := Nat.le_trans Z7 (Keep.of_wr W8).1
    have Kp8 : Keep h0 h8 [] := Kp7.wr W8 (Or.inr szk_b7)
    have Av_b7 : Arv Z h8 b7 k7 .byte (3 : Int32) [(.int (x.toInt8.toInt32)), (.int (0 : Int32)), (.int (0 : Int32))] (.int (0 : Int32)) := Aw8
    have N8 := Fr.snoc X8 N0 g_b7
    refine own_go (A := T8.setTop (mkF m 52 #[.val (.int (3 : Int32)), .val (.int x)] [(.ref b7)])) (fun _ kz => st8 _ kz) ?_
    refine own_go (A := T8.setTop (mkF m 59 #[.val (.int (3 : Int32)), .val (.int x)] [(.int ((x >>> ((8 : Int32) &&& 31)).toInt8.toInt32)), (.int (1 : Int32)), (.ref b7), (.ref b7)])) (fun _ kz => ?_) ?_
    · show Steps p.tables e below (T8.setTop (mkF m 52 #[.val (.int (3 : Int32)), .val (.int x)] [(.ref b7)])) _
      refine XS.dup X8.here hx rfl (hb hby d1_52) rfl rfl ?_
      show Steps p.tables e below (T8.setTop (mkF m 53 #[.val (.int (3 : Int32)), .val (.int x)] [(.ref b7), (.ref b7)])) _
      refine XS.iconst X8.here hx rfl (hb hby d1_53) ?_
      show Steps p.tables e below (T8.setTop (mkF m 54 #[.val (.int (3 : Int32)), .val (.int x)] [(.int (1 : Int32)), (.ref b7), (.ref b7)])) _
      refine XS.iloadN X8.here hx rfl (hb hby d1_54) rfl ?_
      show Steps p.tables e below (T8.setTop (mkF m 55 #[.val (.int (3 : Int32)), .val (.int x)] [(.int x), (.int (1 : Int32)), (.ref b7), (.ref b7)])) _
      refine XS.bipush X8.here hx rfl (hb hby d1_55) ?_
      show Steps p.tables e below (T8.setTop (mkF m 57 #[.val (.int (3 : Int32)), .val (.int x)] [(.int (8 : Int32)), (.int x), (.int (1 : Int32)), (.ref b7), (.ref b7)])) _
      refine XS.ishr X8.here hx rfl (hb hby d1_57) rfl ?_
      show Steps p.tables e below (T8.setTop (mkF m 58 #[.val (.int (3 : Int32)), .val (.int x)] [(.int (x >>> ((8 : Int32) &&& 31))), (.int (1 : Int32)), (.ref b7), (.ref b7)])) _
      refine XS.i2b X8.here hx rfl (hb hby d1_58) rfl ?_
      exact kz
    obtain ⟨cl9, Ar9, q9, S9, M9, H9, G9⟩ := id Av_b7
    have hin9 : ¬ ((1 : Int32) < 0 ∨ cl9.slots.size ≤ ((1 : Int32)).toNatClampNeg) := inb_of S9 ⟨by decide, by decide⟩
    obtain ⟨T9, h9, X9, e9, W9, st9⟩ := stB X8 hx hZ e8 Ar9 (j := (1 : Int32)) hin9 (g := (mkF m 59 #[.val (.int (3 : Int32)), .val (.int x)] [(.int ((x >>> ((8 : Int32) &&& 31)).toInt8.toInt32)), (.int (1 : Int32)), (.ref b7), (.ref b7)])) rfl rfl (hb hby d1_59)
    rw [own_nbn] at W9
    have Aw9 := Arv.set Ar9 q9 S9 M9 H9 G9 (fits_nar_byte _) W9 1 rfl (Nat.le_of_ble_eq_true rfl)
    replace Ex_b7 := Ex_b7.wr W9
    have Z9 : n0 ≤ h9.size := Nat.le_trans Z8 (Keep.of_wr W9).1
    have Kp9 : Keep h0 h9 [] := Kp8.wr W9 (Or.inr szk_b7)
    have Av_b7 : Arv Z h9 b7 k7 .byte (3 : Int32) [(.int (x.toInt8.toInt32)), (.int ((x >>> ((8 : Int32) &&& 31)).toInt8.toInt32)), (.int (0 : Int32))] (.int (0 : Int32)) := Aw9
    have N9 := Fr.snoc X9 N8 g_b7
    refine own_go (A := T9.setTop (mkF m 60 #[.val (.int (3 : Int32)), .val (.int x)] [(.ref b7)])) (fun _ kz => st9 _ kz) ?_
    refine own_go (A := T9.setTop (mkF m 67 #[.val (.int (3 : Int32)), .val (.int x)] [(.int ((x >>> ((16 : Int32) &&& 31)).toInt8.toInt32)), (.int (2 : Int32)), (.ref b7), (.ref b7)])) (fun _ kz => ?_) ?_
    · show Steps p.tables e below (T9.setTop (mkF m 60 #[.val (.int (3 : Int32)), .val (.int x)] [(.ref b7)])) _
      refine XS.dup X9.here hx rfl (hb hby d1_60) rfl rfl ?_
      show Steps p.tables e below (T9.setTop (mkF m 61 #[.val (.int (3 : Int32)), .val (.int x)] [(.ref b7), (.ref b7)])) _
      refine XS.iconst X9.here hx rfl (hb hby d1_61) ?_
      show Steps p.tables e below (T9.setTop (mkF m 62 #[.val (.int (3 : Int32)), .val (.int x)] [(.int (2 : Int32)), (.ref b7), (.ref b7)])) _
      refine XS.iloadN X9.here hx rfl (hb hby d1_62) rfl ?_
      show Steps p.tables e below (T9.setTop (mkF m 63 #[.val (.int (3 : Int32)), .val (.int x)] [(.int x), (.int (2 : Int32)), (.ref b7), (.ref b7)])) _
      refine XS.bipush X9.here hx rfl (hb hby d1_63) ?_
      show Steps p.tables e below (T9.setTop (mkF m 65 #[.val (.int (3 : Int32)), .val (.int x)] [(.int (16 : Int32)), (.int x), (.int (2 : Int32)), (.ref b7), (.ref b7)])) _
      refine XS.ishr X9.here hx rfl (hb hby d1_65) rfl ?_
      show Steps p.tables e below (T9.setTop (mkF m 66 #[.val (.int (3 : Int32)), .val (.int x)] [(.int (x >>> ((16 : Int32) &&& 31))), (.int (2 : Int32)), (.ref b7), (.ref b7)])) _
      refine XS.i2b X9.here hx rfl (hb hby d1_66) rfl ?_
      exact kz
    obtain ⟨cl10, Ar10, q10, S10, M10, H10, G10⟩ := id Av_b7
    have hin10 : ¬ ((2 : Int32) < 0 ∨ cl10.slots.size ≤ ((2 : Int32)).toNatClampNeg) := inb_of S10 ⟨by decide, by decide⟩
    obtain ⟨T10, h10, X10, e10, W10, st10⟩ := stB X9 hx hZ e9 Ar10 (j := (2 : Int32)) hin10 (g := (mkF m 67 #[.val (.int (3 : Int32)), .val (.int x)] [(.int ((x >>> ((16 : Int32) &&& 31)).toInt8.toInt32)), (.int (2 : Int32)), (.ref b7), (.ref b7)])) rfl rfl (hb hby d1_67)
    rw [own_nbn] at W10
    have Aw10 := Arv.set Ar10 q10 S10 M10 H10 G10 (fits_nar_byte _) W10 2 rfl (Nat.le_of_ble_eq_true rfl)
    replace Ex_b7 := Ex_b7.wr W10
    have Z10 : n0 ≤ h10.size := Nat.le_trans Z9 (Keep.of_wr W10).1
    have Kp10 : Keep h0 h10 [] := Kp9.wr W10 (Or.inr szk_b7)
    have Av_b7 : Arv Z h10 b7 k7 .byte (3 : Int32) [(.int (x.toInt8.toInt32)), (.int ((x >>> ((8 : Int32) &&& 31)).toInt8.toInt32)), (.int ((x >>> ((16 : Int32) &&& 31)).toInt8.toInt32))] (.int (0 : Int32)) := Aw10
    have N10 := Fr.snoc X10 N9 g_b7
    refine own_go (A := T10.setTop (mkF m 68 #[.val (.int (3 : Int32)), .val (.int x)] [(.ref b7)])) (fun _ kz => st10 _ kz) ?_
    obtain ⟨fs, hrr, hrun, hended, hW, hsame⟩ := X10.leave (v := some (.ref b7)) (fun h => by rw [Bd.returns] at h; cases h)
    refine ⟨_, _, ?_, hrun, hended, _, _, rfl, ?_, ⟨_, rfl⟩, hW, hsame.mono (by decide) (by decide)⟩
    · show Steps p.tables e below (T10.setTop (mkF m 68 #[.val (.int (3 : Int32)), .val (.int x)] [(.ref b7)])) _
      exact retOut X10 hx (t := (.array .byte)) Bd.returns rfl (Or.inr (Or.inr (Or.inr (Or.inr ⟨rfl, rfl, rfl⟩)))) (hb hby d1_68) hrr
    · show QrmBytes Z (3 : Int32) h0 n0 _ T10.heap _
      rw [e10]
      exact ⟨b7, rfl, N10, szk_b7, Kp10, ⟨k7, (x.toInt8.toInt32), ((x >>> ((8 : Int32) &&& 31)).toInt8.toInt32), ((x >>> ((16 : Int32) &&& 31)).toInt8.toInt32), Av_b7⟩, Ex_b7⟩
theorem d6_0 : decode jdk_29_method_70_code 0 = .ok (.lload_n 0, 1) := by decide +kernel
theorem d6_1 : decode jdk_29_method_70_code 1 = .ok (.lload_n 2, 1) := by decide +kernel
theorem d6_2 : decode jdk_29_method_70_code 2 = .ok (.lcmp, 1) := by decide +kernel
theorem d6_3 : decode jdk_29_method_70_code 3 = .ok (.ifCond .gt 7, 3) := by decide +kernel
theorem d6_6 : decode jdk_29_method_70_code 6 = .ok (.lload_n 0, 1) := by decide +kernel
theorem d6_7 : decode jdk_29_method_70_code 7 = .ok (.goto 4, 3) := by decide +kernel
theorem d6_10 : decode jdk_29_method_70_code 10 = .ok (.lload_n 2, 1) := by decide +kernel
theorem d6_11 : decode jdk_29_method_70_code 11 = .ok (.lreturn, 1) := by decide +kernel
theorem own_ef6 (m : MethodId) (x0 : Int64) (x1 : Int64) : entryFrame m #[(.long x0), (.long x1)] 4 = mkF m 0 #[.val (.long x0), .second, .val (.long x1), .second] [] := by first | (simp [entryFrame, mkF, argsToLocals, Value.category]; done) | rfl
def QrmMin (Z : State) (q1 q2 : Int64) (h0 : Heap) (n0 : Nat) (v : Option Value) (h : Heap) (L : List Loc) : Prop := v = some (.long (if (0 : Int32) < lcmpW q1 q2 then q2 else q1)) ∧ Fr n0 L ∧ h = h0
set_option maxRecDepth 65536 in
set_option maxHeartbeats 40000000 in
theorem rmMin (l : Launch) (Z : State) (a0 : Array Value) (hw : ∀ d ∈ tables_1, d.before a0 Z = true) (ws : List Jvm.Cond) (q1 q2 : Int64) (h0 : Heap) (n0 : Nat) (Z0 : n0 ≤ h0.size)  :
    MetFree l (⟨"java/lang/Math", "min", "(JJ)J"⟩ : MethodName) (head1 (Jvm.Cond.code (⟨"java/lang/Math", "min", "(JJ)J"⟩ : MethodName) jdk_29_method_70_code 4 (some .long) :: ws) ({ frames := 0, cells := 0, slots := 0, locals := 0 } : Room)) (fun ar_ U_ => ar_ = #[(.long q1), (.long q2)] ∧ Z.Warmed39 U_.vm ∧ U_.heap = h0) (fun _ _ _ _ _ => True) (fun _ U_ ou_ V_ => ∃ v_ L_, ou_ = .returned v_ ∧ QrmMin Z q1 q2 h0 n0 v_ V_.heap L_ ∧ FrameEnd U_ ou_ V_ L_ ({ frames := 0, cells := 0, slots := 0, locals := 0 } : Room).cells ({ frames := 0, cells := 0, slots := 0, locals := 0 } : Room).slots) := by
  refine MetFree.of_bodySF (Jvm.Free.JP.mathPlain rfl (by decide +kernel)) hisR ?_
  intro p e s m args below meth c s₁ Bd hml0 hP hK
  obtain ⟨rfl, hZ, hh⟩ := hP
  have hx := Bd.exec
  have hby := Bd.bytes
  have hml : c.maxLocals = 4 := hml0
  have hown : s.vm.findClass "java/lang/Math" = some m.cls := findClass_of_methodNamed Bd.named
  have hnm := (name_of_methodNamed Bd.named Bd.method).1
  have X0 : Stand p l e ({ frames := 0, cells := 0, slots := 0, locals := 0 } : Room) s m #[(.long q1), (.long q2)] below meth c s₁ [] 0 0 := Stand.of_body Bd
  have e0 : s₁.heap = h0 := by rw [← hh, Bd.state]; rfl
  have N0 := Fr.nil n0
  refine own_go (A := s₁.setTop (mkF m 0 #[.val (.long q1), .second, .val (.long q2), .second] [])) (fun t kz => castTop (own_ef6 m q1 q2) kz) ?_
  refine own_go (A := s₁.setTop (mkF m 3 #[.val (.long q1), .second, .val (.long q2), .second] [(.int (lcmpW q1 q2))])) (fun _ kz => ?_) ?_
  · show Steps p.tables e below (s₁.setTop (mkF m 0 #[.val (.long q1), .second, .val (.long q2), .second] [])) _
    refine XS.lloadN X0.here hx rfl (hb hby d6_0) rfl ?_
    show Steps p.tables e below (s₁.setTop (mkF m 1 #[.val (.long q1), .second, .val (.long q2), .second] [(.long q1)])) _
    refine XS.lloadN X0.here hx rfl (hb hby d6_1) rfl ?_
    show Steps p.tables e below (s₁.setTop (mkF m 2 #[.val (.long q1), .second, .val (.long q2), .second] [(.long q2), (.long q1)])) _
    refine XS.lcmp X0.here hx rfl (hb hby d6_2) rfl ?_
    exact kz
  by_cases hs1 : (0 : Int32) < (lcmpW q1 q2)
  · skip
    refine own_go (A := s₁.setTop (mkF m 10 #[.val (.long q1), .second, .val (.long q2), .second] [])) (fun _ kz => ?_) ?_
    · show Steps p.tables e below (s₁.setTop (mkF m 3 #[.val (.long q1), .second, .val (.long q2), .second] [(.int (lcmpW q1 q2))])) _
      refine XS.ifYes X0.here hx rfl (pc0 := 3) (pc' := 10) rfl (hb hby d6_3) rfl ((if0 _ _).trans (tlt hs1).2.2.1) (by decide) (by decide) ?_
      exact kz
    refine own_go (A := s₁.setTop (mkF m 11 #[.val (.long q1), .second, .val (.long q2), .second] [(.long q2)])) (fun _ kz => ?_) ?_
    · show Steps p.tables e below (s₁.setTop (mkF m 10 #[.val (.long q1), .second, .val (.long q2), .second] [])) _
      refine XS.lloadN X0.here hx rfl (hb hby d6_10) rfl ?_
      exact kz
    obtain ⟨fs, hrr, hrun, hended, hW, hsame⟩ := X0.leave (v := some (.long q2)) (fun h => by rw [Bd.returns] at h; cases h)
    refine ⟨_, _, ?_, hrun, hended, _, _, rfl, ?_, ⟨_, rfl⟩, hW, hsame.mono (by decide) (by decide)⟩
    · show Steps p.tables e below (s₁.setTop (mkF m 11 #[.val (.long q1), .second, .val (.long q2), .second] [(.long q2)])) _
      exact retOut X0 hx (t := .long) Bd.returns rfl (Or.inr (Or.inl ⟨rfl, rfl, _, rfl⟩)) (hb hby d6_11) hrr
    · show QrmMin Z q1 q2 h0 n0 _ s₁.heap _
      rw [e0]
      exact ⟨by simp only [hs1, if_true, if_false], N0, rfl⟩
  · skip
    refine own_go (A := s₁.setTop (mkF m 6 #[.val (.long q1), .second, .val (.long q2), .second] [])) (fun _ kz => ?_) ?_
    · show Steps p.tables e below (s₁.setTop (mkF m 3 #[.val (.long q1), .second, .val (.long q2), .second] [(.int (lcmpW q1 q2))])) _
      refine XS.ifNo X0.here hx rfl (hb hby d6_3) rfl ((if0 _ _).trans (flt hs1).2.2.1) ?_
      exact kz
    refine own_go (A := s₁.setTop (mkF m 11 #[.val (.long q1), .second, .val (.long q2), .second] [(.long q1)])) (fun _ kz => ?_) ?_
    · show Steps p.tables e below (s₁.setTop (mkF m 6 #[.val (.long q1), .second, .val (.long q2), .second] [])) _
      refine XS.lloadN X0.here hx rfl (hb hby d6_6) rfl ?_
      show Steps p.tables e below (s₁.setTop (mkF m 7 #[.val (.long q1), .second, .val (.long q2), .second] [(.long q1)])) _
      refine XS.goto X0.here hx rfl (pc0 := 7) (pc' := 11) rfl (hb hby d6_7) (by decide) (by decide) ?_
      exact kz
    obtain ⟨fs, hrr, hrun, hended, hW, hsame⟩ := X0.leave (v := some (.long q1)) (fun h => by rw [Bd.returns] at h; cases h)
    refine ⟨_, _, ?_, hrun, hended, _, _, rfl, ?_, ⟨_, rfl⟩, hW, hsame.mono (by decide) (by decide)⟩
    · show Steps p.tables e below (s₁.setTop (mkF m 11 #[.val (.long q1), .second, .val (.long q2), .second] [(.long q1)])) _
      exact retOut X0 hx (t := .long) Bd.returns rfl (Or.inr (Or.inl ⟨rfl, rfl, _, rfl⟩)) (hb hby d6_11) hrr
    · show QrmMin Z q1 q2 h0 n0 _ s₁.heap _
      rw [e0]
      exact ⟨by simp only [hs1, if_true, if_false], N0, rfl⟩
theorem d4_0 : decode prog_23_method_6_code 0 = .ok (.aload_n 0, 1) := by decide +kernel
theorem d4_1 : decode prog_23_method_6_code 1 = .ok (.invokevirtual 43, 3) := by decide +kernel
theorem d4_4 : decode prog_23_method_6_code 4 = .ok (.checkcast 44, 3) := by decide +kernel
theorem d4_7 : decode prog_23_method_6_code 7 = .ok (.astore_n 3, 1) := by decide +kernel
theorem d4_8 : decode prog_23_method_6_code 8 = .ok (.getstatic 48, 3) := by decide +kernel
theorem d4_11 : decode prog_23_method_6_code 11 = .ok (.ifCond .eq 79, 3) := by decide +kernel
theorem d4_14 : decode prog_23_method_6_code 14 = .ok (.lload_n 1, 1) := by decide +kernel
theorem d4_15 : decode prog_23_method_6_code 15 = .ok (.lconst 1, 1) := by decide +kernel
theorem d4_16 : decode prog_23_method_6_code 16 = .ok (.lcmp, 1) := by decide +kernel
theorem d4_17 : decode prog_23_method_6_code 17 = .ok (.ifCond .le 73, 3) := by decide +kernel
theorem d4_20 : decode prog_23_method_6_code 20 = .ok (.lload_n 1, 1) := by decide +kernel
theorem d4_21 : decode prog_23_method_6_code 21 = .ok (.aload_n 0, 1) := by decide +kernel
theorem d4_22 : decode prog_23_method_6_code 22 = .ok (.arraylength, 1) := by decide +kernel
theorem d4_23 : decode prog_23_method_6_code 23 = .ok (.i2l, 1) := by decide +kernel
theorem d4_24 : decode prog_23_method_6_code 24 = .ok (.lconst 1, 1) := by decide +kernel
theorem d4_25 : decode prog_23_method_6_code 25 = .ok (.ladd, 1) := by decide +kernel
theorem d4_26 : decode prog_23_method_6_code 26 = .ok (.invokestatic 33, 3) := by decide +kernel
theorem d4_29 : decode prog_23_method_6_code 29 = .ok (.l2i, 1) := by decide +kernel
theorem d4_30 : decode prog_23_method_6_code 30 = .ok (.istore 4, 2) := by decide +kernel
theorem d4_32 : decode prog_23_method_6_code 32 = .ok (.iconst 0, 1) := by decide +kernel
theorem d4_33 : decode prog_23_method_6_code 33 = .ok (.istore 5, 2) := by decide +kernel
theorem d4_35 : decode prog_23_method_6_code 35 = .ok (.iload 5, 2) := by decide +kernel
theorem d4_37 : decode prog_23_method_6_code 37 = .ok (.iload 4, 2) := by decide +kernel
theorem d4_39 : decode prog_23_method_6_code 39 = .ok (.iadd, 1) := by decide +kernel
theorem d4_40 : decode prog_23_method_6_code 40 = .ok (.aload_n 0, 1) := by decide +kernel
theorem d4_41 : decode prog_23_method_6_code 41 = .ok (.arraylength, 1) := by decide +kernel
theorem d4_42 : decode prog_23_method_6_code 42 = .ok (.if_icmp .gt 48, 3) := by decide +kernel
theorem d4_45 : decode prog_23_method_6_code 45 = .ok (.iconst 0, 1) := by decide +kernel
theorem d4_46 : decode prog_23_method_6_code 46 = .ok (.istore 6, 2) := by decide +kernel
theorem d4_48 : decode prog_23_method_6_code 48 = .ok (.iload 6, 2) := by decide +kernel
theorem d4_50 : decode prog_23_method_6_code 50 = .ok (.iload 4, 2) := by decide +kernel
theorem d4_52 : decode prog_23_method_6_code 52 = .ok (.if_icmp .ge 28, 3) := by decide +kernel
theorem d4_55 : decode prog_23_method_6_code 55 = .ok (.aload_n 3, 1) := by decide +kernel
theorem d4_56 : decode prog_23_method_6_code 56 = .ok (.iload 5, 2) := by decide +kernel
theorem d4_58 : decode prog_23_method_6_code 58 = .ok (.iload 6, 2) := by decide +kernel
theorem d4_60 : decode prog_23_method_6_code 60 = .ok (.iadd, 1) := by decide +kernel
theorem d4_61 : decode prog_23_method_6_code 61 = .ok (.aload_n 0, 1) := by decide +kernel
theorem d4_62 : decode prog_23_method_6_code 62 = .ok (.iload 5, 2) := by decide +kernel
theorem d4_64 : decode prog_23_method_6_code 64 = .ok (.iload 4, 2) := by decide +kernel
theorem d4_66 : decode prog_23_method_6_code 66 = .ok (.iadd, 1) := by decide +kernel
theorem d4_67 : decode prog_23_method_6_code 67 = .ok (.iconst 1, 1) := by decide +kernel
theorem d4_68 : decode prog_23_method_6_code 68 = .ok (.isub, 1) := by decide +kernel
theorem d4_69 : decode prog_23_method_6_code 69 = .ok (.iload 6, 2) := by decide +kernel
theorem d4_71 : decode prog_23_method_6_code 71 = .ok (.isub, 1) := by decide +kernel
theorem d4_72 : decode prog_23_method_6_code 72 = .ok (.baload, 1) := by decide +kernel
theorem d4_73 : decode prog_23_method_6_code 73 = .ok (.bastore, 1) := by decide +kernel
theorem d4_74 : decode prog_23_method_6_code 74 = .ok (.iinc 6 1, 3) := by decide +kernel
theorem d4_77 : decode prog_23_method_6_code 77 = .ok (.goto (-29), 3) := by decide +kernel
theorem d4_80 : decode prog_23_method_6_code 80 = .ok (.iload 5, 2) := by decide +kernel
theorem d4_82 : decode prog_23_method_6_code 82 = .ok (.iload 4, 2) := by decide +kernel
theorem d4_84 : decode prog_23_method_6_code 84 = .ok (.iadd, 1) := by decide +kernel
theorem d4_85 : decode prog_23_method_6_code 85 = .ok (.istore 5, 2) := by decide +kernel
theorem d4_87 : decode prog_23_method_6_code 87 = .ok (.goto (-52), 3) := by decide +kernel
theorem d4_90 : decode prog_23_method_6_code 90 = .ok (.aload_n 3, 1) := by decide +kernel
theorem d4_91 : decode prog_23_method_6_code 91 = .ok (.areturn, 1) := by decide +kernel
theorem own_pn4 : plainName "com/example/sharp_nose/sharpnose/desktop/MagicRule" = true := by first | (simp [plainName, overriddenIn]; done) | decide +kernel
theorem own_ef4 (m : MethodId) (x0 : Addr) (x1 : Int64) : entryFrame m #[(.ref x0), (.long x1)] 7 = mkF m 0 #[.val (.ref x0), .val (.long x1), .second, .unset, .unset, .unset, .unset] [] := by first | (simp [entryFrame, mkF, argsToLocals, Value.category]; done) | rfl
def QrmHost (Z : State) (n : Int32) (h0 : Heap) (n0 : Nat) (v : Option Value) (h : Heap) (L : List Loc) : Prop := ∃ b : Addr, v = some (.ref b) ∧ Fr n0 L ∧ h0.size ≤ b ∧ Keep h0 h [] ∧ own_By Z h b n ∧ Exa Z h b "[B"
set_option maxRecDepth 65536 in
set_option maxHeartbeats 40000000 in
theorem rmHost (l : Launch) (Z : State) (a0 : Array Value) (hw : ∀ d ∈ tables_1, d.before a0 Z = true) (ws : List Jvm.Cond) (a : Addr) (q1 : Int64) (n : Int32) (h0 : Heap) (n0 : Nat) (Z0 : n0 ≤ h0.size) (hn : n = (0 : Int32) ∨ n = (1 : Int32) ∨ n = (2 : Int32) ∨ n = (3 : Int32)) (By : own_By Z h0 a n) (Ex : Exa Z h0 a "[B") (S_l : Sta Z h0 "com/example/sharp_nose/sharpnose/desktop/MagicRule" "LITTLE_ENDIAN_HOST" "Z" (.int (1 : Int32))) :
    MetFree l (⟨"com/example/sharp_nose/sharpnose/desktop/MagicRule", "hostOrder", "([BJ)[B"⟩ : MethodName) (head1 (Jvm.Cond.code (⟨"com/example/sharp_nose/sharpnose/desktop/MagicRule", "hostOrder", "([BJ)[B"⟩ : MethodName) prog_23_method_6_code 7 (some (.array .byte)) :: ws) ({ frames := 1, cells := 1, slots := 3, locals := 15 } : Room)) (fun ar_ U_ => ar_ = #[(.ref a), (.long q1)] ∧ Z.Warmed39 U_.vm ∧ U_.heap = h0) (fun _ _ _ _ _ => True) (fun _ U_ ou_ V_ => ∃ v_ L_, ou_ = .returned v_ ∧ QrmHost Z n h0 n0 v_ V_.heap L_ ∧ FrameEnd U_ ou_ V_ L_ ({ frames := 1, cells := 1, slots := 3, locals := 15 } : Room).cells ({ frames := 1, cells := 1, slots := 3, locals := 15 } : Room).slots) := by
  refine MetFree.of_bodySF (plainFor_of_name own_pn4) hisR ?_
  intro p e s m args below meth c s₁ Bd hml0 hP hK
  obtain ⟨rfl, hZ, hh⟩ := hP
  have hx := Bd.exec
  have hby := Bd.bytes
  have hml : c.maxLocals = 7 := hml0
  have hown : s.vm.findClass "com/example/sharp_nose/sharpnose/desktop/MagicRule" = some m.cls := findClass_of_methodNamed Bd.named
  have hnm := (name_of_methodNamed Bd.named Bd.method).1
  have X0 : Stand p l e ({ frames := 1, cells := 1, slots := 3, locals := 15 } : Room) s m #[(.ref a), (.long q1)] below meth c s₁ [] 0 0 := Stand.of_body Bd
  have e0 : s₁.heap = h0 := by rw [← hh, Bd.state]; rfl
  have N0 := Fr.nil n0
  have Kp0 : Keep h0 h0 [] := Keep.refl h0 _
  refine own_go (A := s₁.setTop (mkF m 0 #[.val (.ref a), .val (.long q1), .second, .unset, .unset, .unset, .unset] [])) (fun t kz => castTop (own_ef4 m a q1) kz) ?_
  obtain ⟨kc, x0, x1, x2, Av⟩ := By
  rcases hn with rfl | rfl | rfl | rfl
  · skip
    replace Av : Arv Z h0 a kc .byte (0 : Int32) [] (.int (0 : Int32)) := Av
    refine own_go (A := s₁.setTop (mkF m 1 #[.val (.ref a), .val (.long q1), .second, .unset, .unset, .unset, .unset] [(.ref a)])) (fun _ kz => ?_) ?_
    · show Steps p.tables e below (s₁.setTop (mkF m 0 #[.val (.ref a), .val (.long q1), .second, .unset, .unset, .unset, .unset] [])) _
      refine XS.aloadN X0.here hx rfl (hb hby d4_0) rfl rfl ?_
      exact kz
    obtain ⟨T1, h1, X1, e1, E1, A1, Q1, st1⟩ := cloneH X0 hx hZ hown (hw _ (List.mem_of_getElem? (i := 22) rfl)) (hw _ (List.mem_of_getElem? (i := 23) rfl)) (hw _ (List.mem_of_getElem? (i := 27) rfl)) (hw _ (List.mem_of_getElem? (i := 25) rfl)) (hw _ (List.mem_of_getElem? (i := 26) rfl)) (hw _ (List.mem_of_getElem? (i := 28) rfl)) e0 Av.arh Ex (g := (mkF m 1 #[.val (.ref a), .val (.long q1), .second, .unset, .unset, .unset, .unset] [(.ref a)])) rfl (by rw [hml]; rfl) rfl (hb hby d4_1) (by decide) (W := 0) (cap := 0) (by show 2 * 0 + _ ≤ _; exact Nat.le_of_eq rfl) (by decide) (by decide) (by decide) (by decide)
    obtain ⟨b1, gq1⟩ : ∃ z, z = h0.size := ⟨_, rfl⟩
    rw [← gq1] at A1 Q1 st1
    have g_b1 : n0 ≤ b1 := Nat.le_trans Z0 (Nat.le_of_eq gq1.symm)
    have ne_a_b1 : a ≠ b1 := Nat.ne_of_lt (Nat.lt_of_lt_of_le Ex.lt (Nat.le_of_eq gq1.symm))
    have szk_b1 : h0.size ≤ b1 := Nat.le_trans Kp0.1 (Nat.le_of_eq gq1.symm)
    replace S_l := S_l.ext E1
    replace Ex := Ex.ext E1
    replace Av := Av.ext E1
    have Z1 : n0 ≤ h1.size := Nat.le_trans Z0 E1.1
    have Kp1 : Keep h0 h1 [] := Kp0.ext E1
    have Av_b1 : Arv Z h1 b1 kc .byte (0 : Int32) [] (.int (0 : Int32)) := A1
    have Ex_b1 := Q1
    refine own_go (A := T1.setTop (mkF m 4 #[.val (.ref a), .val (.long q1), .second, .unset, .unset, .unset, .unset] [(.ref b1)])) (fun _ kz => st1 _ kz) ?_
    obtain ⟨T2, X2, e2, st2⟩ := castY X1 hx hZ hown (hw _ (List.mem_of_getElem? (i := 29) rfl)) e1 (Ins.of_exa Ex_b1 (hw _ (List.mem_of_getElem? (i := 30) rfl))) (g := (mkF m 4 #[.val (.ref a), .val (.long q1), .second, .unset, .unset, .unset, .unset] [(.ref b1)])) rfl rfl (hb hby d4_4)
    refine own_go (A := T2.setTop (mkF m 7 #[.val (.ref a), .val (.long q1), .second, .unset, .unset, .unset, .unset] [(.ref b1)])) (fun _ kz => st2 _ kz) ?_
    refine own_go (A := T2.setTop (mkF m 8 #[.val (.ref a), .val (.long q1), .second, .val (.ref b1), .unset, .unset, .unset] [])) (fun _ kz => ?_) ?_
    · show Steps p.tables e below (T2.setTop (mkF m 7 #[.val (.ref a), .val (.long q1), .second, .unset, .unset, .unset, .unset] [(.ref b1)])) _
      refine XS.astoreN X2.here hx rfl (hb hby d4_7) rfl rfl (l' := #[.val (.ref a), .val (.long q1), .second, .val (.ref b1), .unset, .unset, .unset]) rfl ?_
      exact kz
    obtain ⟨T3, X3, e3, st3⟩ := getS2 X2 hx hZ hown (host := "") (Or.inl (hw _ (List.mem_of_getElem? (i := 31) rfl))) Via.refl e2 S_l (g := (mkF m 8 #[.val (.ref a), .val (.long q1), .second, .val (.ref b1), .unset, .unset, .unset] [])) rfl (hb hby d4_8)
    refine own_go (A := T3.setTop (mkF m 11 #[.val (.ref a), .val (.long q1), .second, .val (.ref b1), .unset, .unset, .unset] [(.int (1 : Int32))])) (fun _ kz => st3 _ kz) ?_
    refine own_go (A := T3.setTop (mkF m 17 #[.val (.ref a), .val (.long q1), .second, .val (.ref b1), .unset, .unset, .unset] [(.int (lcmpW q1 (1 : Int64)))])) (fun _ kz => ?_) ?_
    · show Steps p.tables e below (T3.setTop (mkF m 11 #[.val (.ref a), .val (.long q1), .second, .val (.ref b1), .unset, .unset, .unset] [(.int (1 : Int32))])) _
      refine XS.ifNo X3.here hx rfl (hb hby d4_11) rfl ((if0 _ _).trans (feq (by decide : ¬ ((1 : Int32) = (0 : Int32)))).1) ?_
      show Steps p.tables e below (T3.setTop (mkF m 14 #[.val (.ref a), .val (.long q1), .second, .val (.ref b1), .unset, .unset, .unset] [])) _
      refine XS.lloadN X3.here hx rfl (hb hby d4_14) rfl ?_
      show Steps p.tables e below (T3.setTop (mkF m 15 #[.val (.ref a), .val (.long q1), .second, .val (.ref b1), .unset, .unset, .unset] [(.long q1)])) _
      refine XS.lconst X3.here hx rfl (hb hby d4_15) ?_
      show Steps p.tables e below (T3.setTop (mkF m 16 #[.val (.ref a), .val (.long q1), .second, .val (.ref b1), .unset, .unset, .unset] [(.long (1 : Int64)), (.long q1)])) _
      refine XS.lcmp X3.here hx rfl (hb hby d4_16) rfl ?_
      exact kz
    by_cases hs4 : (0 : Int32) < (lcmpW q1 (1 : Int64))
    · skip
      refine own_go (A := T3.setTop (mkF m 20 #[.val (.ref a), .val (.long q1), .second, .val (.ref b1), .unset, .unset, .unset] [])) (fun _ kz => ?_) ?_
      · show Steps p.tables e below (T3.setTop (mkF m 17 #[.val (.ref a), .val (.long q1), .second, .val (.ref b1), .unset, .unset, .unset] [(.int (lcmpW q1 (1 : Int64)))])) _
        refine XS.ifNo X3.here hx rfl (hb hby d4_17) rfl ((if0 _ _).trans (tlt hs4).2.2.2) ?_
        exact kz
      refine own_go (A := T3.setTop (mkF m 22 #[.val (.ref a), .val (.long q1), .second, .val (.ref b1), .unset, .unset, .unset] [(.ref a), (.long q1)])) (fun _ kz => ?_) ?_
      · show Steps p.tables e below (T3.setTop (mkF m 20 #[.val (.ref a), .val (.long q1), .second, .val (.ref b1), .unset, .unset, .unset] [])) _
        refine XS.lloadN X3.here hx rfl (hb hby d4_20) rfl ?_
        show Steps p.tables e below (T3.setTop (mkF m 21 #[.val (.ref a), .val (.long q1), .second, .val (.ref b1), .unset, .unset, .unset] [(.long q1)])) _
        refine XS.aloadN X3.here hx rfl (hb hby d4_21) rfl rfl ?_
        exact kz
      obtain ⟨cl5, Ar5, -, S5, M5, -, -⟩ := id Av
      refine own_go (A := T3.setTop (mkF m 23 #[.val (.ref a), .val (.long q1), .second, .val (.ref b1), .unset, .unset, .unset] [(.int (0 : Int32)), (.long q1)])) (fun _ kz => ?_) ?_
      · refine X3.arraylength hx (e3 ▸ Ar5.1) (State.isArrayOf_alike hZ.alike Ar5.2.1) (g := (mkF m 22 #[.val (.ref a), .val (.long q1), .second, .val (.ref b1), .unset, .unset, .unset] [(.ref a), (.long q1)])) rfl rfl (hb hby d4_22) _ ?_
        rw [len_of S5 M5]
        exact kz
      refine own_go (A := T3.setTop (mkF m 26 #[.val (.ref a), .val (.long q1), .second, .val (.ref b1), .unset, .unset, .unset] [(.long (((0 : Int32).toInt64) + (1 : Int64))), (.long q1)])) (fun _ kz => ?_) ?_
      · show Steps p.tables e below (T3.setTop (mkF m 23 #[.val (.ref a), .val (.long q1), .second, .val (.ref b1), .unset, .unset, .unset] [(.int (0 : Int32)), (.long q1)])) _
        refine XS.i2l X3.here hx rfl (hb hby d4_23) rfl ?_
        show Steps p.tables e below (T3.setTop (mkF m 24 #[.val (.ref a), .val (.long q1), .second, .val (.ref b1), .unset, .unset, .unset] [(.long ((0 : Int32).toInt64)), (.long q1)])) _
        refine XS.lconst X3.here hx rfl (hb hby d4_24) ?_
        show Steps p.tables e below (T3.setTop (mkF m 25 #[.val (.ref a), .val (.long q1), .second, .val (.ref b1), .unset, .unset, .unset] [(.long (1 : Int64)), (.long ((0 : Int32).toInt64)), (.long q1)])) _
        refine XS.ladd X3.here hx rfl (hb hby d4_25) rfl ?_
        exact kz
      obtain ⟨_, _, ⟨T6, L6, k6, n6⟩, -, X6, ⟨Lc6, hQ6, l6, y6, z6⟩, st6⟩ := Jvm.LawKit.callS X3 hx (y := (⟨"java/lang/Math", "min", "(JJ)J"⟩ : MethodName)) hown (mvT hZ (hw _ (List.mem_of_getElem? (i := 44) rfl))) (mvT hZ (hw _ (List.mem_of_getElem? (i := 45) rfl))) (mvT hZ (hw _ (List.mem_of_getElem? (i := 46) rfl))) (mvT hZ (hw _ (List.mem_of_getElem? (i := 47) rfl))) (by decide) (backOf (W := 0) (rmMin l Z a0 hw [] q1 (((0 : Int32).toInt64) + (1 : Int64)) h1 n0 Z1) hZ (hw _ (List.mem_of_getElem? (i := 47) rfl)) (hw _ (List.mem_of_getElem? (i := 46) rfl)) (by decide) (by decide)) (g := (mkF m 26 #[.val (.ref a), .val (.long q1), .second, .val (.ref b1), .unset, .unset, .unset] [(.long (((0 : Int32).toInt64) + (1 : Int64))), (.long q1)])) rfl (by rw [hml]; rfl) (argsL := [(.long q1), (.long (((0 : Int32).toInt64) + (1 : Int64)))]) (rest := []) (lenOf own_pd0 rfl) rfl (by show 2 * 0 + _ ≤ _; exact Nat.le_of_eq rfl) (hb hby d4_26) (fun _ _ => ⟨rfl, e3, (by decide : 1 + 0 ≤ _), (by decide : 0 + 0 ≤ _)⟩)
      dsimp only [Pt.U, Pt.locs, Pt.cells, Pt.slots] at X6 l6 y6 z6 st6 hQ6
      subst l6 y6 z6
      obtain ⟨rfl, N6q, e6⟩ := hQ6
      have N6 := Fr.app N0 N6q
      refine own_go (A := T6.setTop (mkF m 29 #[.val (.ref a), .val (.long q1), .second, .val (.ref b1), .unset, .unset, .unset] [(.long (if (0 : Int32) < lcmpW q1 (((0 : Int32).toInt64) + (1 : Int64)) then (((0 : Int32).toInt64) + (1 : Int64)) else q1))])) (fun _ kz => st6 _ kz) ?_
      refine own_go (A := T6.setTop (mkF m 32 #[.val (.ref a), .val (.long q1), .second, .val (.ref b1), .val (.int ((if (0 : Int32) < lcmpW q1 (((0 : Int32).toInt64) + (1 : Int64)) then (((0 : Int32).toInt64) + (1 : Int64)) else q1).toInt32)), .unset, .unset] [])) (fun _ kz => ?_) ?_
      · show Steps p.tables e below (T6.setTop (mkF m 29 #[.val (.ref a), .val (.long q1), .second, .val (.ref b1), .unset, .unset, .unset] [(.long (if (0 : Int32) < lcmpW q1 (((0 : Int32).toInt64) + (1 : Int64)) then (((0 : Int32).toInt64) + (1 : Int64)) else q1))])) _
        refine XS.l2i X6.here hx rfl (hb hby d4_29) rfl ?_
        show Steps p.tables e below (T6.setTop (mkF m 30 #[.val (.ref a), .val (.long q1), .second, .val (.ref b1), .unset, .unset, .unset] [(.int ((if (0 : Int32) < lcmpW q1 (((0 : Int32).toInt64) + (1 : Int64)) then (((0 : Int32).toInt64) + (1 : Int64)) else q1).toInt32))])) _
        refine XS.istore X6.here hx rfl (hb hby d4_30) rfl (l' := #[.val (.ref a), .val (.long q1), .second, .val (.ref b1), .val (.int ((if (0 : Int32) < lcmpW q1 (((0 : Int32).toInt64) + (1 : Int64)) then (((0 : Int32).toInt64) + (1 : Int64)) else q1).toInt32)), .unset, .unset]) rfl ?_
        exact kz
      obtain ⟨wd, hwd⟩ : ∃ z, z = ((if (0 : Int32) < lcmpW q1 (((0 : Int32).toInt64) + (1 : Int64)) then (((0 : Int32).toInt64) + (1 : Int64)) else q1).toInt32) := ⟨_, rfl⟩
      refine own_go (A := T6.setTop (mkF m 32 #[.val (.ref a), .val (.long q1), .second, .val (.ref b1), .val (.int wd), .unset, .unset] [])) (fun _ kz => by rw [hwd] at kz; exact kz) ?_
      rcases own_wd0 q1 wd hs4 hwd with rfl
      · skip
        refine own_go (A := T6.setTop (mkF m 41 #[.val (.ref a), .val (.long q1), .second, .val (.ref b1), .val (.int (1 : Int32)), .val (.int (0 : Int32)), .unset] [(.ref a), (.int (1 : Int32))])) (fun _ kz => ?_) ?_
        · show Steps p.tables e below (T6.setTop (mkF m 32 #[.val (.ref a), .val (.long q1), .second, .val (.ref b1), .val (.int (1 : Int32)), .unset, .unset] [])) _
          refine XS.iconst X6.here hx rfl (hb hby d4_32) ?_
          show Steps p.tables e below (T6.setTop (mkF m 33 #[.val (.ref a), .val (.long q1), .second, .val (.ref b1), .val (.int (1 : Int32)), .unset, .unset] [(.int (0 : Int32))])) _
          refine XS.istore X6.here hx rfl (hb hby d4_33) rfl (l' := #[.val (.ref a), .val (.long q1), .second, .val (.ref b1), .val (.int (1 : Int32)), .val (.int (0 : Int32)), .unset]) rfl ?_
          show Steps p.tables e below (T6.setTop (mkF m 35 #[.val (.ref a), .val (.long q1), .second, .val (.ref b1), .val (.int (1 : Int32)), .val (.int (0 : Int32)), .unset] [])) _
          refine XS.iload X6.here hx rfl (hb hby d4_35) rfl ?_
          show Steps p.tables e below (T6.setTop (mkF m 37 #[.val (.ref a), .val (.long q1), .second, .val (.ref b1), .val (.int (1 : Int32)), .val (.int (0 : Int32)), .unset] [(.int (0 : Int32))])) _
          refine XS.iload X6.here hx rfl (hb hby d4_37) rfl ?_
          show Steps p.tables e below (T6.setTop (mkF m 39 #[.val (.ref a), .val (.long q1), .second, .val (.ref b1), .val (.int (1 : Int32)), .val (.int (0 : Int32)), .unset] [(.int (1 : Int32)), (.int (0 : Int32))])) _
          refine XS.iadd X6.here hx rfl (hb hby d4_39) rfl ?_
          show Steps p.tables e below (T6.setTop (mkF m 40 #[.val (.ref a), .val (.long q1), .second, .val (.ref b1), .val (.int (1 : Int32)), .val (.int (0 : Int32)), .unset] [(.int (1 : Int32))])) _
          refine XS.aloadN X6.here hx rfl (hb hby d4_40) rfl rfl ?_
          exact kz
        obtain ⟨cl7, Ar7, -, S7, M7, -, -⟩ := id Av
        refine own_go (A := T6.setTop (mkF m 42 #[.val (.ref a), .val (.long q1), .second, .val (.ref b1), .val (.int (1 : Int32)), .val (.int (0 : Int32)), .unset] [(.int (0 : Int32)), (.int (1 : Int32))])) (fun _ kz => ?_) ?_
        · refine X6.arraylength hx (e6 ▸ Ar7.1) (State.isArrayOf_alike hZ.alike Ar7.2.1) (g := (mkF m 41 #[.val (.ref a), .val (.long q1), .second, .val (.ref b1), .val (.int (1 : Int32)), .val (.int (0 : Int32)), .unset] [(.ref a), (.int (1 : Int32))])) rfl rfl (hb hby d4_41) _ ?_
          rw [len_of S7 M7]
          exact kz
        refine own_go (A := T6.setTop (mkF m 91 #[.val (.ref a), .val (.long q1), .second, .val (.ref b1), .val (.int (1 : Int32)), .val (.int (0 : Int32)), .unset] [(.ref b1)])) (fun _ kz => ?_) ?_
        · show Steps p.tables e below (T6.setTop (mkF m 42 #[.val (.ref a), .val (.long q1), .second, .val (.ref b1), .val (.int (1 : Int32)), .val (.int (0 : Int32)), .unset] [(.int (0 : Int32)), (.int (1 : Int32))])) _
          refine XS.icmpYes X6.here hx rfl (pc0 := 42) (pc' := 90) rfl (hb hby d4_42) rfl (tlt (by decide : ((0 : Int32) < (1 : Int32)))).2.2.1 (by decide) (by decide) ?_
          show Steps p.tables e below (T6.setTop (mkF m 90 #[.val (.ref a), .val (.long q1), .second, .val (.ref b1), .val (.int (1 : Int32)), .val (.int (0 : Int32)), .unset] [])) _
          refine XS.aloadN X6.here hx rfl (hb hby d4_90) rfl rfl ?_
          exact kz
        obtain ⟨fs, hrr, hrun, hended, hW, hsame⟩ := X6.leave (v := some (.ref b1)) (fun h => by rw [Bd.returns] at h; cases h)
        refine ⟨_, _, ?_, hrun, hended, _, _, rfl, ?_, ⟨_, rfl⟩, hW, hsame.mono (by decide) (by decide)⟩
        · show Steps p.tables e below (T6.setTop (mkF m 91 #[.val (.ref a), .val (.long q1), .second, .val (.ref b1), .val (.int (1 : Int32)), .val (.int (0 : Int32)), .unset] [(.ref b1)])) _
          exact retOut X6 hx (t := (.array .byte)) Bd.returns rfl (Or.inr (Or.inr (Or.inr (Or.inr ⟨rfl, rfl, rfl⟩)))) (hb hby d4_91) hrr
        · show QrmHost Z (0 : Int32) h0 n0 _ T6.heap _
          rw [e6]
          exact ⟨b1, rfl, N6, szk_b1, Kp1, ⟨kc, (0 : Int32), (0 : Int32), (0 : Int32), Av_b1⟩, Ex_b1⟩
    · skip
      refine own_go (A := T3.setTop (mkF m 90 #[.val (.ref a), .val (.long q1), .second, .val (.ref b1), .unset, .unset, .unset] [])) (fun _ kz => ?_) ?_
      · show Steps p.tables e below (T3.setTop (mkF m 17 #[.val (.ref a), .val (.long q1), .second, .val (.ref b1), .unset, .unset, .unset] [(.int (lcmpW q1 (1 : Int64)))])) _
        refine XS.ifYes X3.here hx rfl (pc0 := 17) (pc' := 90) rfl (hb hby d4_17) rfl ((if0 _ _).trans (flt hs4).2.2.2) (by decide) (by decide) ?_
        exact kz
      refine own_go (A := T3.setTop (mkF m 91 #[.val (.ref a), .val (.long q1), .second, .val (.ref b1), .unset, .unset, .unset] [(.ref b1)])) (fun _ kz => ?_) ?_
      · show Steps p.tables e below (T3.setTop (mkF m 90 #[.val (.ref a), .val (.long q1), .second, .val (.ref b1), .unset, .unset, .unset] [])) _
        refine XS.aloadN X3.here hx rfl (hb hby d4_90) rfl rfl ?_
        exact kz
      obtain ⟨fs, hrr, hrun, hended, hW, hsame⟩ := X3.leave (v := some (.ref b1)) (fun h => by rw [Bd.returns] at h; cases h)
      refine ⟨_, _, ?_, hrun, hended, _, _, rfl, ?_, ⟨_, rfl⟩, hW, hsame.mono (by decide) (by decide)⟩
      · show Steps p.tables e below (T3.setTop (mkF m 91 #[.val (.ref a), .val (.long q1), .second, .val (.ref b1), .unset, .unset, .unset] [(.ref b1)])) _
        exact retOut X3 hx (t := (.array .byte)) Bd.returns rfl (Or.inr (Or.inr (Or.inr (Or.inr ⟨rfl, rfl, rfl⟩)))) (hb hby d4_91) hrr
      · show QrmHost Z (0 : Int32) h0 n0 _ T3.heap _
        rw [e3]
        exact ⟨b1, rfl, N0, szk_b1, Kp1, ⟨kc, (0 : Int32), (0 : Int32), (0 : Int32), Av_b1⟩, Ex_b1⟩
  · skip
    replace Av : Arv Z h0 a kc .byte (1 : Int32) [(.int x0)] (.int (0 : Int32)) := Av
    refine own_go (A := s₁.setTop (mkF m 1 #[.val (.ref a), .val (.long q1), .second, .unset, .unset, .unset, .unset] [(.ref a)])) (fun _ kz => ?_) ?_
    · show Steps p.tables e below (s₁.setTop (mkF m 0 #[.val (.ref a), .val (.long q1), .second, .unset, .unset, .unset, .unset] [])) _
      refine XS.aloadN X0.here hx rfl (hb hby d4_0) rfl rfl ?_
      exact kz
    obtain ⟨T8, h8, X8, e8, E8, A8, Q8, st8⟩ := cloneH X0 hx hZ hown (hw _ (List.mem_of_getElem? (i := 22) rfl)) (hw _ (List.mem_of_getElem? (i := 23) rfl)) (hw _ (List.mem_of_getElem? (i := 27) rfl)) (hw _ (List.mem_of_getElem? (i := 25) rfl)) (hw _ (List.mem_of_getElem? (i := 26) rfl)) (hw _ (List.mem_of_getElem? (i := 28) rfl)) e0 Av.arh Ex (g := (mkF m 1 #[.val (.ref a), .val (.long q1), .second, .unset, .unset, .unset, .unset] [(.ref a)])) rfl (by rw [hml]; rfl) rfl (hb hby d4_1) (by decide) (W := 0) (cap := 1) (by show 2 * 0 + _ ≤ _; exact Nat.le_of_eq rfl) (by decide) (by decide) (by decide) (by decide)
    obtain ⟨b8, gq8⟩ : ∃ z, z = h0.size := ⟨_, rfl⟩
    rw [← gq8] at A8 Q8 st8
    have g_b8 : n0 ≤ b8 := Nat.le_trans Z0 (Nat.le_of_eq gq8.symm)
    have ne_a_b8 : a ≠ b8 := Nat.ne_of_lt (Nat.lt_of_lt_of_le Ex.lt (Nat.le_of_eq gq8.symm))
    have szk_b8 : h0.size ≤ b8 := Nat.le_trans Kp0.1 (Nat.le_of_eq gq8.symm)
    replace S_l := S_l.ext E8
    replace Ex := Ex.ext E8
    replace Av := Av.ext E8
    have Z8 : n0 ≤ h8.size := Nat.le_trans Z0 E8.1
    have Kp8 : Keep h0 h8 [] := Kp0.ext E8
    have Av_b8 : Arv Z h8 b8 kc .byte (1 : Int32) [(.int x0)] (.int (0 : Int32)) := A8
    have Ex_b8 := Q8
    refine own_go (A := T8.setTop (mkF m 4 #[.val (.ref a), .val (.long q1), .second, .unset, .unset, .unset, .unset] [(.ref b8)])) (fun _ kz => st8 _ kz) ?_
    obtain ⟨T9, X9, e9, st9⟩ := castY X8 hx hZ hown (hw _ (List.mem_of_getElem? (i := 29) rfl)) e8 (Ins.of_exa Ex_b8 (hw _ (List.mem_of_getElem? (i := 30) rfl))) (g := (mkF m 4 #[.val (.ref a), .val (.long q1), .second, .unset, .unset, .unset, .unset] [(.ref b8)])) rfl rfl (hb hby d4_4)
    refine own_go (A := T9.setTop (mkF m 7 #[.val (.ref a), .val (.long q1), .second, .unset, .unset, .unset, .unset] [(.ref b8)])) (fun _ kz => st9 _ kz) ?_
    refine own_go (A := T9.setTop (mkF m 8 #[.val (.ref a), .val (.long q1), .second, .val (.ref b8), .unset, .unset, .unset] [])) (fun _ kz => ?_) ?_
    · show Steps p.tables e below (T9.setTop (mkF m 7 #[.val (.ref a), .val (.long q1), .second, .unset, .unset, .unset, .unset] [(.ref b8)])) _
      refine XS.astoreN X9.here hx rfl (hb hby d4_7) rfl rfl (l' := #[.val (.ref a), .val (.long q1), .second, .val (.ref b8), .unset, .unset, .unset]) rfl ?_
      exact kz
    obtain ⟨T10, X10, e10, st10⟩ := getS2 X9 hx hZ hown (host := "") (Or.inl (hw _ (List.mem_of_getElem? (i := 31) rfl))) Via.refl e9 S_l (g := (mkF m 8 #[.val (.ref a), .val (.long q1), .second, .val (.ref b8), .unset, .unset, .unset] [])) rfl (hb hby d4_8)
    refine own_go (A := T10.setTop (mkF m 11 #[.val (.ref a), .val (.long q1), .second, .val (.ref b8), .unset, .unset, .unset] [(.int (1 : Int32))])) (fun _ kz => st10 _ kz) ?_
    refine own_go (A := T10.setTop (mkF m 17 #[.val (.ref a), .val (.long q1), .second, .val (.ref b8), .unset, .unset, .unset] [(.int (lcmpW q1 (1 : Int64)))])) (fun _ kz => ?_) ?_
    · show Steps p.tables e below (T10.setTop (mkF m 11 #[.val (.ref a), .val (.long q1), .second, .val (.ref b8), .unset, .unset, .unset] [(.int (1 : Int32))])) _
      refine XS.ifNo X10.here hx rfl (hb hby d4_11) rfl ((if0 _ _).trans (feq (by decide : ¬ ((1 : Int32) = (0 : Int32)))).1) ?_
      show Steps p.tables e below (T10.setTop (mkF m 14 #[.val (.ref a), .val (.long q1), .second, .val (.ref b8), .unset, .unset, .unset] [])) _
      refine XS.lloadN X10.here hx rfl (hb hby d4_14) rfl ?_
      show Steps p.tables e below (T10.setTop (mkF m 15 #[.val (.ref a), .val (.long q1), .second, .val (.ref b8), .unset, .unset, .unset] [(.long q1)])) _
      refine XS.lconst X10.here hx rfl (hb hby d4_15) ?_
      show Steps p.tables e below (T10.setTop (mkF m 16 #[.val (.ref a), .val (.long q1), .second, .val (.ref b8), .unset, .unset, .unset] [(.long (1 : Int64)), (.long q1)])) _
      refine XS.lcmp X10.here hx rfl (hb hby d4_16) rfl ?_
      exact kz
    by_cases hs11 : (0 : Int32) < (lcmpW q1 (1 : Int64))
    · skip
      refine own_go (A := T10.setTop (mkF m 20 #[.val (.ref a), .val (.long q1), .second, .val (.ref b8), .unset, .unset, .unset] [])) (fun _ kz => ?_) ?_
      · show Steps p.tables e below (T10.setTop (mkF m 17 #[.val (.ref a), .val (.long q1), .second, .val (.ref b8), .unset, .unset, .unset] [(.int (lcmpW q1 (1 : Int64)))])) _
        refine XS.ifNo X10.here hx rfl (hb hby d4_17) rfl ((if0 _ _).trans (tlt hs11).2.2.2) ?_
        exact kz
      refine own_go (A := T10.setTop (mkF m 22 #[.val (.ref a), .val (.long q1), .second, .val (.ref b8), .unset, .unset, .unset] [(.ref a), (.long q1)])) (fun _ kz => ?_) ?_
      · show Steps p.tables e below (T10.setTop (mkF m 20 #[.val (.ref a), .val (.long q1), .second, .val (.ref b8), .unset, .unset, .unset] [])) _
        refine XS.lloadN X10.here hx rfl (hb hby d4_20) rfl ?_
        show Steps p.tables e below (T10.setTop (mkF m 21 #[.val (.ref a), .val (.long q1), .second, .val (.ref b8), .unset, .unset, .unset] [(.long q1)])) _
        refine XS.aloadN X10.here hx rfl (hb hby d4_21) rfl rfl ?_
        exact kz
      obtain ⟨cl12, Ar12, -, S12, M12, -, -⟩ := id Av
      refine own_go (A := T10.setTop (mkF m 23 #[.val (.ref a), .val (.long q1), .second, .val (.ref b8), .unset, .unset, .unset] [(.int (1 : Int32)), (.long q1)])) (fun _ kz => ?_) ?_
      · refine X10.arraylength hx (e10 ▸ Ar12.1) (State.isArrayOf_alike hZ.alike Ar12.2.1) (g := (mkF m 22 #[.val (.ref a), .val (.long q1), .second, .val (.ref b8), .unset, .unset, .unset] [(.ref a), (.long q1)])) rfl rfl (hb hby d4_22) _ ?_
        rw [len_of S12 M12]
        exact kz
      refine own_go (A := T10.setTop (mkF m 26 #[.val (.ref a), .val (.long q1), .second, .val (.ref b8), .unset, .unset, .unset] [(.long (((1 : Int32).toInt64) + (1 : Int64))), (.long q1)])) (fun _ kz => ?_) ?_
      · show Steps p.tables e below (T10.setTop (mkF m 23 #[.val (.ref a), .val (.long q1), .second, .val (.ref b8), .unset, .unset, .unset] [(.int (1 : Int32)), (.long q1)])) _
        refine XS.i2l X10.here hx rfl (hb hby d4_23) rfl ?_
        show Steps p.tables e below (T10.setTop (mkF m 24 #[.val (.ref a), .val (.long q1), .second, .val (.ref b8), .unset, .unset, .unset] [(.long ((1 : Int32).toInt64)), (.long q1)])) _
        refine XS.lconst X10.here hx rfl (hb hby d4_24) ?_
        show Steps p.tables e below (T10.setTop (mkF m 25 #[.val (.ref a), .val (.long q1), .second, .val (.ref b8), .unset, .unset, .unset] [(.long (1 : Int64)), (.long ((1 : Int32).toInt64)), (.long q1)])) _
        refine XS.ladd X10.here hx rfl (hb hby d4_25) rfl ?_
        exact kz
      obtain ⟨_, _, ⟨T13, L13, k13, n13⟩, -, X13, ⟨Lc13, hQ13, l13, y13, z13⟩, st13⟩ := Jvm.LawKit.callS X10 hx (y := (⟨"java/lang/Math", "min", "(JJ)J"⟩ : MethodName)) hown (mvT hZ (hw _ (List.mem_of_getElem? (i := 44) rfl))) (mvT hZ (hw _ (List.mem_of_getElem? (i := 45) rfl))) (mvT hZ (hw _ (List.mem_of_getElem? (i := 46) rfl))) (mvT hZ (hw _ (List.mem_of_getElem? (i := 47) rfl))) (by decide) (backOf (W := 0) (rmMin l Z a0 hw [] q1 (((1 : Int32).toInt64) + (1 : Int64)) h8 n0 Z8) hZ (hw _ (List.mem_of_getElem? (i := 47) rfl)) (hw _ (List.mem_of_getElem? (i := 46) rfl)) (by decide) (by decide)) (g := (mkF m 26 #[.val (.ref a), .val (.long q1), .second, .val (.ref b8), .unset, .unset, .unset] [(.long (((1 : Int32).toInt64) + (1 : Int64))), (.long q1)])) rfl (by rw [hml]; rfl) (argsL := [(.long q1), (.long (((1 : Int32).toInt64) + (1 : Int64)))]) (rest := []) (lenOf own_pd0 rfl) rfl (by show 2 * 0 + _ ≤ _; exact Nat.le_of_eq rfl) (hb hby d4_26) (fun _ _ => ⟨rfl, e10, (by decide : 1 + 0 ≤ _), (by decide : 1 + 0 ≤ _)⟩)
      dsimp only [Pt.U, Pt.locs, Pt.cells, Pt.slots] at X13 l13 y13 z13 st13 hQ13
      subst l13 y13 z13
      obtain ⟨rfl, N13q, e13⟩ := hQ13
      have N13 := Fr.app N0 N13q
      refine own_go (A := T13.setTop (mkF m 29 #[.val (.ref a), .val (.long q1), .second, .val (.ref b8), .unset, .unset, .unset] [(.long (if (0 : Int32) < lcmpW q1 (((1 : Int32).toInt64) + (1 : Int64)) then (((1 : Int32).toInt64) + (1 : Int64)) else q1))])) (fun _ kz => st13 _ kz) ?_
      refine own_go (A := T13.setTop (mkF m 32 #[.val (.ref a), .val (.long q1), .second, .val (.ref b8), .val (.int ((if (0 : Int32) < lcmpW q1 (((1 : Int32).toInt64) + (1 : Int64)) then (((1 : Int32).toInt64) + (1 : Int64)) else q1).toInt32)), .unset, .unset] [])) (fun _ kz => ?_) ?_
      · show Steps p.tables e below (T13.setTop (mkF m 29 #[.val (.ref a), .val (.long q1), .second, .val (.ref b8), .unset, .unset, .unset] [(.long (if (0 : Int32) < lcmpW q1 (((1 : Int32).toInt64) + (1 : Int64)) then (((1 : Int32).toInt64) + (1 : Int64)) else q1))])) _
        refine XS.l2i X13.here hx rfl (hb hby d4_29) rfl ?_
        show Steps p.tables e below (T13.setTop (mkF m 30 #[.val (.ref a), .val (.long q1), .second, .val (.ref b8), .unset, .unset, .unset] [(.int ((if (0 : Int32) < lcmpW q1 (((1 : Int32).toInt64) + (1 : Int64)) then (((1 : Int32).toInt64) + (1 : Int64)) else q1).toInt32))])) _
        refine XS.istore X13.here hx rfl (hb hby d4_30) rfl (l' := #[.val (.ref a), .val (.long q1), .second, .val (.ref b8), .val (.int ((if (0 : Int32) < lcmpW q1 (((1 : Int32).toInt64) + (1 : Int64)) then (((1 : Int32).toInt64) + (1 : Int64)) else q1).toInt32)), .unset, .unset]) rfl ?_
        exact kz
      obtain ⟨wd, hwd⟩ : ∃ z, z = ((if (0 : Int32) < lcmpW q1 (((1 : Int32).toInt64) + (1 : Int64)) then (((1 : Int32).toInt64) + (1 : Int64)) else q1).toInt32) := ⟨_, rfl⟩
      refine own_go (A := T13.setTop (mkF m 32 #[.val (.ref a), .val (.long q1), .second, .val (.ref b8), .val (.int wd), .unset, .unset] [])) (fun _ kz => by rw [hwd] at kz; exact kz) ?_
      rcases own_wd1 q1 wd hs11 hwd with rfl
      · skip
        refine own_go (A := T13.setTop (mkF m 41 #[.val (.ref a), .val (.long q1), .second, .val (.ref b8), .val (.int (2 : Int32)), .val (.int (0 : Int32)), .unset] [(.ref a), (.int (2 : Int32))])) (fun _ kz => ?_) ?_
        · show Steps p.tables e below (T13.setTop (mkF m 32 #[.val (.ref a), .val (.long q1), .second, .val (.ref b8), .val (.int (2 : Int32)), .unset, .unset] [])) _
          refine XS.iconst X13.here hx rfl (hb hby d4_32) ?_
          show Steps p.tables e below (T13.setTop (mkF m 33 #[.val (.ref a), .val (.long q1), .second, .val (.ref b8), .val (.int (2 : Int32)), .unset, .unset] [(.int (0 : Int32))])) _
          refine XS.istore X13.here hx rfl (hb hby d4_33) rfl (l' := #[.val (.ref a), .val (.long q1), .second, .val (.ref b8), .val (.int (2 : Int32)), .val (.int (0 : Int32)), .unset]) rfl ?_
          show Steps p.tables e below (T13.setTop (mkF m 35 #[.val (.ref a), .val (.long q1), .second, .val (.ref b8), .val (.int (2 : Int32)), .val (.int (0 : Int32)), .unset] [])) _
          refine XS.iload X13.here hx rfl (hb hby d4_35) rfl ?_
          show Steps p.tables e below (T13.setTop (mkF m 37 #[.val (.ref a), .val (.long q1), .second, .val (.ref b8), .val (.int (2 : Int32)), .val (.int (0 : Int32)), .unset] [(.int (0 : Int32))])) _
          refine XS.iload X13.here hx rfl (hb hby d4_37) rfl ?_
          show Steps p.tables e below (T13.setTop (mkF m 39 #[.val (.ref a), .val (.long q1), .second, .val (.ref b8), .val (.int (2 : Int32)), .val (.int (0 : Int32)), .unset] [(.int (2 : Int32)), (.int (0 : Int32))])) _
          refine XS.iadd X13.here hx rfl (hb hby d4_39) rfl ?_
          show Steps p.tables e below (T13.setTop (mkF m 40 #[.val (.ref a), .val (.long q1), .second, .val (.ref b8), .val (.int (2 : Int32)), .val (.int (0 : Int32)), .unset] [(.int (2 : Int32))])) _
          refine XS.aloadN X13.here hx rfl (hb hby d4_40) rfl rfl ?_
          exact kz
        obtain ⟨cl14, Ar14, -, S14, M14, -, -⟩ := id Av
        refine own_go (A := T13.setTop (mkF m 42 #[.val (.ref a), .val (.long q1), .second, .val (.ref b8), .val (.int (2 : Int32)), .val (.int (0 : Int32)), .unset] [(.int (1 : Int32)), (.int (2 : Int32))])) (fun _ kz => ?_) ?_
        · refine X13.arraylength hx (e13 ▸ Ar14.1) (State.isArrayOf_alike hZ.alike Ar14.2.1) (g := (mkF m 41 #[.val (.ref a), .val (.long q1), .second, .val (.ref b8), .val (.int (2 : Int32)), .val (.int (0 : Int32)), .unset] [(.ref a), (.int (2 : Int32))])) rfl rfl (hb hby d4_41) _ ?_
          rw [len_of S14 M14]
          exact kz
        refine own_go (A := T13.setTop (mkF m 91 #[.val (.ref a), .val (.long q1), .second, .val (.ref b8), .val (.int (2 : Int32)), .val (.int (0 : Int32)), .unset] [(.ref b8)])) (fun _ kz => ?_) ?_
        · show Steps p.tables e below (T13.setTop (mkF m 42 #[.val (.ref a), .val (.long q1), .second, .val (.ref b8), .val (.int (2 : Int32)), .val (.int (0 : Int32)), .unset] [(.int (1 : Int32)), (.int (2 : Int32))])) _
          refine XS.icmpYes X13.here hx rfl (pc0 := 42) (pc' := 90) rfl (hb hby d4_42) rfl (tlt (by decide : ((1 : Int32) < (2 : Int32)))).2.2.1 (by decide) (by decide) ?_
          show Steps p.tables e below (T13.setTop (mkF m 90 #[.val (.ref a), .val (.long q1), .second, .val (.ref b8), .val (.int (2 : Int32)), .val (.int (0 : Int32)), .unset] [])) _
          refine XS.aloadN X13.here hx rfl (hb hby d4_90) rfl rfl ?_
          exact kz
        obtain ⟨fs, hrr, hrun, hended, hW, hsame⟩ := X13.leave (v := some (.ref b8)) (fun h => by rw [Bd.returns] at h; cases h)
        refine ⟨_, _, ?_, hrun, hended, _, _, rfl, ?_, ⟨_, rfl⟩, hW, hsame.mono (by decide) (by decide)⟩
        · show Steps p.tables e below (T13.setTop (mkF m 91 #[.val (.ref a), .val (.long q1), .second, .val (.ref b8), .val (.int (2 : Int32)), .val (.int (0 : Int32)), .unset] [(.ref b8)])) _
          exact retOut X13 hx (t := (.array .byte)) Bd.returns rfl (Or.inr (Or.inr (Or.inr (Or.inr ⟨rfl, rfl, rfl⟩)))) (hb hby d4_91) hrr
        · show QrmHost Z (1 : Int32) h0 n0 _ T13.heap _
          rw [e13]
          exact ⟨b8, rfl, N13, szk_b8, Kp8, ⟨kc, x0, (0 : Int32), (0 : Int32), Av_b8⟩, Ex_b8⟩
    · skip
      refine own_go (A := T10.setTop (mkF m 90 #[.val (.ref a), .val (.long q1), .second, .val (.ref b8), .unset, .unset, .unset] [])) (fun _ kz => ?_) ?_
      · show Steps p.tables e below (T10.setTop (mkF m 17 #[.val (.ref a), .val (.long q1), .second, .val (.ref b8), .unset, .unset, .unset] [(.int (lcmpW q1 (1 : Int64)))])) _
        refine XS.ifYes X10.here hx rfl (pc0 := 17) (pc' := 90) rfl (hb hby d4_17) rfl ((if0 _ _).trans (flt hs11).2.2.2) (by decide) (by decide) ?_
        exact kz
      refine own_go (A := T10.setTop (mkF m 91 #[.val (.ref a), .val (.long q1), .second, .val (.ref b8), .unset, .unset, .unset] [(.ref b8)])) (fun _ kz => ?_) ?_
      · show Steps p.tables e below (T10.setTop (mkF m 90 #[.val (.ref a), .val (.long q1), .second, .val (.ref b8), .unset, .unset, .unset] [])) _
        refine XS.aloadN X10.here hx rfl (hb hby d4_90) rfl rfl ?_
        exact kz
      obtain ⟨fs, hrr, hrun, hended, hW, hsame⟩ := X10.leave (v := some (.ref b8)) (fun h => by rw [Bd.returns] at h; cases h)
      refine ⟨_, _, ?_, hrun, hended, _, _, rfl, ?_, ⟨_, rfl⟩, hW, hsame.mono (by decide) (by decide)⟩
      · show Steps p.tables e below (T10.setTop (mkF m 91 #[.val (.ref a), .val (.long q1), .second, .val (.ref b8), .unset, .unset, .unset] [(.ref b8)])) _
        exact retOut X10 hx (t := (.array .byte)) Bd.returns rfl (Or.inr (Or.inr (Or.inr (Or.inr ⟨rfl, rfl, rfl⟩)))) (hb hby d4_91) hrr
      · show QrmHost Z (1 : Int32) h0 n0 _ T10.heap _
        rw [e10]
        exact ⟨b8, rfl, N0, szk_b8, Kp8, ⟨kc, x0, (0 : Int32), (0 : Int32), Av_b8⟩, Ex_b8⟩
  · skip
    replace Av : Arv Z h0 a kc .byte (2 : Int32) [(.int x0), (.int x1)] (.int (0 : Int32)) := Av
    refine own_go (A := s₁.setTop (mkF m 1 #[.val (.ref a), .val (.long q1), .second, .unset, .unset, .unset, .unset] [(.ref a)])) (fun _ kz => ?_) ?_
    · show Steps p.tables e below (s₁.setTop (mkF m 0 #[.val (.ref a), .val (.long q1), .second, .unset, .unset, .unset, .unset] [])) _
      refine XS.aloadN X0.here hx rfl (hb hby d4_0) rfl rfl ?_
      exact kz
    obtain ⟨T15, h15, X15, e15, E15, A15, Q15, st15⟩ := cloneH X0 hx hZ hown (hw _ (List.mem_of_getElem? (i := 22) rfl)) (hw _ (List.mem_of_getElem? (i := 23) rfl)) (hw _ (List.mem_of_getElem? (i := 27) rfl)) (hw _ (List.mem_of_getElem? (i := 25) rfl)) (hw _ (List.mem_of_getElem? (i := 26) rfl)) (hw _ (List.mem_of_getElem? (i := 28) rfl)) e0 Av.arh Ex (g := (mkF m 1 #[.val (.ref a), .val (.long q1), .second, .unset, .unset, .unset, .unset] [(.ref a)])) rfl (by rw [hml]; rfl) rfl (hb hby d4_1) (by decide) (W := 0) (cap := 2) (by show 2 * 0 + _ ≤ _; exact Nat.le_of_eq rfl) (by decide) (by decide) (by decide) (by decide)
    obtain ⟨b15, gq15⟩ : ∃ z, z = h0.size := ⟨_, rfl⟩
    rw [← gq15] at A15 Q15 st15
    have g_b15 : n0 ≤ b15 := Nat.le_trans Z0 (Nat.le_of_eq gq15.symm)
    have ne_a_b15 : a ≠ b15 := Nat.ne_of_lt (Nat.lt_of_lt_of_le Ex.lt (Nat.le_of_eq gq15.symm))
    have szk_b15 : h0.size ≤ b15 := Nat.le_trans Kp0.1 (Nat.le_of_eq gq15.symm)
    replace S_l := S_l.ext E15
    replace Ex := Ex.ext E15
    replace Av := Av.ext E15
    have Z15 : n0 ≤ h15.size := Nat.le_trans Z0 E15.1
    have Kp15 : Keep h0 h15 [] := Kp0.ext E15
    have Av_b15 : Arv Z h15 b15 kc .byte (2 : Int32) [(.int x0), (.int x1)] (.int (0 : Int32)) := A15
    have Ex_b15 := Q15
    refine own_go (A := T15.setTop (mkF m 4 #[.val (.ref a), .val (.long q1), .second, .unset, .unset, .unset, .unset] [(.ref b15)])) (fun _ kz => st15 _ kz) ?_
    obtain ⟨T16, X16, e16, st16⟩ := castY X15 hx hZ hown (hw _ (List.mem_of_getElem? (i := 29) rfl)) e15 (Ins.of_exa Ex_b15 (hw _ (List.mem_of_getElem? (i := 30) rfl))) (g := (mkF m 4 #[.val (.ref a), .val (.long q1), .second, .unset, .unset, .unset, .unset] [(.ref b15)])) rfl rfl (hb hby d4_4)
    refine own_go (A := T16.setTop (mkF m 7 #[.val (.ref a), .val (.long q1), .second, .unset, .unset, .unset, .unset] [(.ref b15)])) (fun _ kz => st16 _ kz) ?_
    refine own_go (A := T16.setTop (mkF m 8 #[.val (.ref a), .val (.long q1), .second, .val (.ref b15), .unset, .unset, .unset] [])) (fun _ kz => ?_) ?_
    · show Steps p.tables e below (T16.setTop (mkF m 7 #[.val (.ref a), .val (.long q1), .second, .unset, .unset, .unset, .unset] [(.ref b15)])) _
      refine XS.astoreN X16.here hx rfl (hb hby d4_7) rfl rfl (l' := #[.val (.ref a), .val (.long q1), .second, .val (.ref b15), .unset, .unset, .unset]) rfl ?_
      exact kz
    obtain ⟨T17, X17, e17, st17⟩ := getS2 X16 hx hZ hown (host := "") (Or.inl (hw _ (List.mem_of_getElem? (i := 31) rfl))) Via.refl e16 S_l (g := (mkF m 8 #[.val (.ref a), .val (.long q1), .second, .val (.ref b15), .unset, .unset, .unset] [])) rfl (hb hby d4_8)
    refine own_go (A := T17.setTop (mkF m 11 #[.val (.ref a), .val (.long q1), .second, .val (.ref b15), .unset, .unset, .unset] [(.int (1 : Int32))])) (fun _ kz => st17 _ kz) ?_
    refine own_go (A := T17.setTop (mkF m 17 #[.val (.ref a), .val (.long q1), .second, .val (.ref b15), .unset, .unset, .unset] [(.int (lcmpW q1 (1 : Int64)))])) (fun _ kz => ?_) ?_
    · show Steps p.tables e below (T17.setTop (mkF m 11 #[.val (.ref a), .val (.long q1), .second, .val (.ref b15), .unset, .unset, .unset] [(.int (1 : Int32))])) _
      refine XS.ifNo X17.here hx rfl (hb hby d4_11) rfl ((if0 _ _).trans (feq (by decide : ¬ ((1 : Int32) = (0 : Int32)))).1) ?_
      show Steps p.tables e below (T17.setTop (mkF m 14 #[.val (.ref a), .val (.long q1), .second, .val (.ref b15), .unset, .unset, .unset] [])) _
      refine XS.lloadN X17.here hx rfl (hb hby d4_14) rfl ?_
      show Steps p.tables e below (T17.setTop (mkF m 15 #[.val (.ref a), .val (.long q1), .second, .val (.ref b15), .unset, .unset, .unset] [(.long q1)])) _
      refine XS.lconst X17.here hx rfl (hb hby d4_15) ?_
      show Steps p.tables e below (T17.setTop (mkF m 16 #[.val (.ref a), .val (.long q1), .second, .val (.ref b15), .unset, .unset, .unset] [(.long (1 : Int64)), (.long q1)])) _
      refine XS.lcmp X17.here hx rfl (hb hby d4_16) rfl ?_
      exact kz
    by_cases hs18 : (0 : Int32) < (lcmpW q1 (1 : Int64))
    · skip
      refine own_go (A := T17.setTop (mkF m 20 #[.val (.ref a), .val (.long q1), .second, .val (.ref b15), .unset, .unset, .unset] [])) (fun _ kz => ?_) ?_
      · show Steps p.tables e below (T17.setTop (mkF m 17 #[.val (.ref a), .val (.long q1), .second, .val (.ref b15), .unset, .unset, .unset] [(.int (lcmpW q1 (1 : Int64)))])) _
        refine XS.ifNo X17.here hx rfl (hb hby d4_17) rfl ((if0 _ _).trans (tlt hs18).2.2.2) ?_
        exact kz
      refine own_go (A := T17.setTop (mkF m 22 #[.val (.ref a), .val (.long q1), .second, .val (.ref b15), .unset, .unset, .unset] [(.ref a), (.long q1)])) (fun _ kz => ?_) ?_
      · show Steps p.tables e below (T17.setTop (mkF m 20 #[.val (.ref a), .val (.long q1), .second, .val (.ref b15), .unset, .unset, .unset] [])) _
        refine XS.lloadN X17.here hx rfl (hb hby d4_20) rfl ?_
        show Steps p.tables e below (T17.setTop (mkF m 21 #[.val (.ref a), .val (.long q1), .second, .val (.ref b15), .unset, .unset, .unset] [(.long q1)])) _
        refine XS.aloadN X17.here hx rfl (hb hby d4_21) rfl rfl ?_
        exact kz
      obtain ⟨cl19, Ar19, -, S19, M19, -, -⟩ := id Av
      refine own_go (A := T17.setTop (mkF m 23 #[.val (.ref a), .val (.long q1), .second, .val (.ref b15), .unset, .unset, .unset] [(.int (2 : Int32)), (.long q1)])) (fun _ kz => ?_) ?_
      · refine X17.arraylength hx (e17 ▸ Ar19.1) (State.isArrayOf_alike hZ.alike Ar19.2.1) (g := (mkF m 22 #[.val (.ref a), .val (.long q1), .second, .val (.ref b15), .unset, .unset, .unset] [(.ref a), (.long q1)])) rfl rfl (hb hby d4_22) _ ?_
        rw [len_of S19 M19]
        exact kz
      refine own_go (A := T17.setTop (mkF m 26 #[.val (.ref a), .val (.long q1), .second, .val (.ref b15), .unset, .unset, .unset] [(.long (((2 : Int32).toInt64) + (1 : Int64))), (.long q1)])) (fun _ kz => ?_) ?_
      · show Steps p.tables e below (T17.setTop (mkF m 23 #[.val (.ref a), .val (.long q1), .second, .val (.ref b15), .unset, .unset, .unset] [(.int (2 : Int32)), (.long q1)])) _
        refine XS.i2l X17.here hx rfl (hb hby d4_23) rfl ?_
        show Steps p.tables e below (T17.setTop (mkF m 24 #[.val (.ref a), .val (.long q1), .second, .val (.ref b15), .unset, .unset, .unset] [(.long ((2 : Int32).toInt64)), (.long q1)])) _
        refine XS.lconst X17.here hx rfl (hb hby d4_24) ?_
        show Steps p.tables e below (T17.setTop (mkF m 25 #[.val (.ref a), .val (.long q1), .second, .val (.ref b15), .unset, .unset, .unset] [(.long (1 : Int64)), (.long ((2 : Int32).toInt64)), (.long q1)])) _
        refine XS.ladd X17.here hx rfl (hb hby d4_25) rfl ?_
        exact kz
      obtain ⟨_, _, ⟨T20, L20, k20, n20⟩, -, X20, ⟨Lc20, hQ20, l20, y20, z20⟩, st20⟩ := Jvm.LawKit.callS X17 hx (y := (⟨"java/lang/Math", "min", "(JJ)J"⟩ : MethodName)) hown (mvT hZ (hw _ (List.mem_of_getElem? (i := 44) rfl))) (mvT hZ (hw _ (List.mem_of_getElem? (i := 45) rfl))) (mvT hZ (hw _ (List.mem_of_getElem? (i := 46) rfl))) (mvT hZ (hw _ (List.mem_of_getElem? (i := 47) rfl))) (by decide) (backOf (W := 0) (rmMin l Z a0 hw [] q1 (((2 : Int32).toInt64) + (1 : Int64)) h15 n0 Z15) hZ (hw _ (List.mem_of_getElem? (i := 47) rfl)) (hw _ (List.mem_of_getElem? (i := 46) rfl)) (by decide) (by decide)) (g := (mkF m 26 #[.val (.ref a), .val (.long q1), .second, .val (.ref b15), .unset, .unset, .unset] [(.long (((2 : Int32).toInt64) + (1 : Int64))), (.long q1)])) rfl (by rw [hml]; rfl) (argsL := [(.long q1), (.long (((2 : Int32).toInt64) + (1 : Int64)))]) (rest := []) (lenOf own_pd0 rfl) rfl (by show 2 * 0 + _ ≤ _; exact Nat.le_of_eq rfl) (hb hby d4_26) (fun _ _ => ⟨rfl, e17, (by decide : 1 + 0 ≤ _), (by decide : 2 + 0 ≤ _)⟩)
      dsimp only [Pt.U, Pt.locs, Pt.cells, Pt.slots] at X20 l20 y20 z20 st20 hQ20
      subst l20 y20 z20
      obtain ⟨rfl, N20q, e20⟩ := hQ20
      have N20 := Fr.app N0 N20q
      refine own_go (A := T20.setTop (mkF m 29 #[.val (.ref a), .val (.long q1), .second, .val (.ref b15), .unset, .unset, .unset] [(.long (if (0 : Int32) < lcmpW q1 (((2 : Int32).toInt64) + (1 : Int64)) then (((2 : Int32).toInt64) + (1 : Int64)) else q1))])) (fun _ kz => st20 _ kz) ?_
      refine own_go (A := T20.setTop (mkF m 32 #[.val (.ref a), .val (.long q1), .second, .val (.ref b15), .val (.int ((if (0 : Int32) < lcmpW q1 (((2 : Int32).toInt64) + (1 : Int64)) then (((2 : Int32).toInt64) + (1 : Int64)) else q1).toInt32)), .unset, .unset] [])) (fun _ kz => ?_) ?_
      · show Steps p.tables e below (T20.setTop (mkF m 29 #[.val (.ref a), .val (.long q1), .second, .val (.ref b15), .unset, .unset, .unset] [(.long (if (0 : Int32) < lcmpW q1 (((2 : Int32).toInt64) + (1 : Int64)) then (((2 : Int32).toInt64) + (1 : Int64)) else q1))])) _
        refine XS.l2i X20.here hx rfl (hb hby d4_29) rfl ?_
        show Steps p.tables e below (T20.setTop (mkF m 30 #[.val (.ref a), .val (.long q1), .second, .val (.ref b15), .unset, .unset, .unset] [(.int ((if (0 : Int32) < lcmpW q1 (((2 : Int32).toInt64) + (1 : Int64)) then (((2 : Int32).toInt64) + (1 : Int64)) else q1).toInt32))])) _
        refine XS.istore X20.here hx rfl (hb hby d4_30) rfl (l' := #[.val (.ref a), .val (.long q1), .second, .val (.ref b15), .val (.int ((if (0 : Int32) < lcmpW q1 (((2 : Int32).toInt64) + (1 : Int64)) then (((2 : Int32).toInt64) + (1 : Int64)) else q1).toInt32)), .unset, .unset]) rfl ?_
        exact kz
      obtain ⟨wd, hwd⟩ : ∃ z, z = ((if (0 : Int32) < lcmpW q1 (((2 : Int32).toInt64) + (1 : Int64)) then (((2 : Int32).toInt64) + (1 : Int64)) else q1).toInt32) := ⟨_, rfl⟩
      refine own_go (A := T20.setTop (mkF m 32 #[.val (.ref a), .val (.long q1), .second, .val (.ref b15), .val (.int wd), .unset, .unset] [])) (fun _ kz => by rw [hwd] at kz; exact kz) ?_
      rcases own_wd2 q1 wd hs18 hwd with rfl | rfl
      · skip
        refine own_go (A := T20.setTop (mkF m 41 #[.val (.ref a), .val (.long q1), .second, .val (.ref b15), .val (.int (2 : Int32)), .val (.int (0 : Int32)), .unset] [(.ref a), (.int (2 : Int32))])) (fun _ kz => ?_) ?_
        · show Steps p.tables e below (T20.setTop (mkF m 32 #[.val (.ref a), .val (.long q1), .second, .val (.ref b15), .val (.int (2 : Int32)), .unset, .unset] [])) _
          refine XS.iconst X20.here hx rfl (hb hby d4_32) ?_
          show Steps p.tables e below (T20.setTop (mkF m 33 #[.val (.ref a), .val (.long q1), .second, .val (.ref b15), .val (.int (2 : Int32)), .unset, .unset] [(.int (0 : Int32))])) _
          refine XS.istore X20.here hx rfl (hb hby d4_33) rfl (l' := #[.val (.ref a), .val (.long q1), .second, .val (.ref b15), .val (.int (2 : Int32)), .val (.int (0 : Int32)), .unset]) rfl ?_
          show Steps p.tables e below (T20.setTop (mkF m 35 #[.val (.ref a), .val (.long q1), .second, .val (.ref b15), .val (.int (2 : Int32)), .val (.int (0 : Int32)), .unset] [])) _
          refine XS.iload X20.here hx rfl (hb hby d4_35) rfl ?_
          show Steps p.tables e below (T20.setTop (mkF m 37 #[.val (.ref a), .val (.long q1), .second, .val (.ref b15), .val (.int (2 : Int32)), .val (.int (0 : Int32)), .unset] [(.int (0 : Int32))])) _
          refine XS.iload X20.here hx rfl (hb hby d4_37) rfl ?_
          show Steps p.tables e below (T20.setTop (mkF m 39 #[.val (.ref a), .val (.long q1), .second, .val (.ref b15), .val (.int (2 : Int32)), .val (.int (0 : Int32)), .unset] [(.int (2 : Int32)), (.int (0 : Int32))])) _
          refine XS.iadd X20.here hx rfl (hb hby d4_39) rfl ?_
          show Steps p.tables e below (T20.setTop (mkF m 40 #[.val (.ref a), .val (.long q1), .second, .val (.ref b15), .val (.int (2 : Int32)), .val (.int (0 : Int32)), .unset] [(.int (2 : Int32))])) _
          refine XS.aloadN X20.here hx rfl (hb hby d4_40) rfl rfl ?_
          exact kz
        obtain ⟨cl21, Ar21, -, S21, M21, -, -⟩ := id Av
        refine own_go (A := T20.setTop (mkF m 42 #[.val (.ref a), .val (.long q1), .second, .val (.ref b15), .val (.int (2 : Int32)), .val (.int (0 : Int32)), .unset] [(.int (2 : Int32)), (.int (2 : Int32))])) (fun _ kz => ?_) ?_
        · refine X20.arraylength hx (e20 ▸ Ar21.1) (State.isArrayOf_alike hZ.alike Ar21.2.1) (g := (mkF m 41 #[.val (.ref a), .val (.long q1), .second, .val (.ref b15), .val (.int (2 : Int32)), .val (.int (0 : Int32)), .unset] [(.ref a), (.int (2 : Int32))])) rfl rfl (hb hby d4_41) _ ?_
          rw [len_of S21 M21]
          exact kz
        refine own_go (A := T20.setTop (mkF m 72 #[.val (.ref a), .val (.long q1), .second, .val (.ref b15), .val (.int (2 : Int32)), .val (.int (0 : Int32)), .val (.int (0 : Int32))] [(.int (1 : Int32)), (.ref a), (.int (0 : Int32)), (.ref b15)])) (fun _ kz => ?_) ?_
        · show Steps p.tables e below (T20.setTop (mkF m 42 #[.val (.ref a), .val (.long q1), .second, .val (.ref b15), .val (.int (2 : Int32)), .val (.int (0 : Int32)), .unset] [(.int (2 : Int32)), (.int (2 : Int32))])) _
          refine XS.icmpNo X20.here hx rfl (hb hby d4_42) rfl (flt (by decide : ¬ ((2 : Int32) < (2 : Int32)))).2.2.1 ?_
          show Steps p.tables e below (T20.setTop (mkF m 45 #[.val (.ref a), .val (.long q1), .second, .val (.ref b15), .val (.int (2 : Int32)), .val (.int (0 : Int32)), .unset] [])) _
          refine XS.iconst X20.here hx rfl (hb hby d4_45) ?_
          show Steps p.tables e below (T20.setTop (mkF m 46 #[.val (.ref a), .val (.long q1), .second, .val (.ref b15), .val (.int (2 : Int32)), .val (.int (0 : Int32)), .unset] [(.int (0 : Int32))])) _
          refine XS.istore X20.here hx rfl (hb hby d4_46) rfl (l' := #[.val (.ref a), .val (.long q1), .second, .val (.ref b15), .val (.int (2 : Int32)), .val (.int (0 : Int32)), .val (.int (0 : Int32))]) rfl ?_
          show Steps p.tables e below (T20.setTop (mkF m 48 #[.val (.ref a), .val (.long q1), .second, .val (.ref b15), .val (.int (2 : Int32)), .val (.int (0 : Int32)), .val (.int (0 : Int32))] [])) _
          refine XS.iload X20.here hx rfl (hb hby d4_48) rfl ?_
          show Steps p.tables e below (T20.setTop (mkF m 50 #[.val (.ref a), .val (.long q1), .second, .val (.ref b15), .val (.int (2 : Int32)), .val (.int (0 : Int32)), .val (.int (0 : Int32))] [(.int (0 : Int32))])) _
          refine XS.iload X20.here hx rfl (hb hby d4_50) rfl ?_
          show Steps p.tables e below (T20.setTop (mkF m 52 #[.val (.ref a), .val (.long q1), .second, .val (.ref b15), .val (.int (2 : Int32)), .val (.int (0 : Int32)), .val (.int (0 : Int32))] [(.int (2 : Int32)), (.int (0 : Int32))])) _
          refine XS.icmpNo X20.here hx rfl (hb hby d4_52) rfl (tlt (by decide : ((0 : Int32) < (2 : Int32)))).2.1 ?_
          show Steps p.tables e below (T20.setTop (mkF m 55 #[.val (.ref a), .val (.long q1), .second, .val (.ref b15), .val (.int (2 : Int32)), .val (.int (0 : Int32)), .val (.int (0 : Int32))] [])) _
          refine XS.aloadN X20.here hx rfl (hb hby d4_55) rfl rfl ?_
          show Steps p.tables e below (T20.setTop (mkF m 56 #[.val (.ref a), .val (.long q1), .second, .val (.ref b15), .val (.int (2 : Int32)), .val (.int (0 : Int32)), .val (.int (0 : Int32))] [(.ref b15)])) _
          refine XS.iload X20.here hx rfl (hb hby d4_56) rfl ?_
          show Steps p.tables e below (T20.setTop (mkF m 58 #[.val (.ref a), .val (.long q1), .second, .val (.ref b15), .val (.int (2 : Int32)), .val (.int (0 : Int32)), .val (.int (0 : Int32))] [(.int (0 : Int32)), (.ref b15)])) _
          refine XS.iload X20.here hx rfl (hb hby d4_58) rfl ?_
          show Steps p.tables e below (T20.setTop (mkF m 60 #[.val (.ref a), .val (.long q1), .second, .val (.ref b15), .val (.int (2 : Int32)), .val (.int (0 : Int32)), .val (.int (0 : Int32))] [(.int (0 : Int32)), (.int (0 : Int32)), (.ref b15)])) _
          refine XS.iadd X20.here hx rfl (hb hby d4_60) rfl ?_
          show Steps p.tables e below (T20.setTop (mkF m 61 #[.val (.ref a), .val (.long q1), .second, .val (.ref b15), .val (.int (2 : Int32)), .val (.int (0 : Int32)), .val (.int (0 : Int32))] [(.int (0 : Int32)), (.ref b15)])) _
          refine XS.aloadN X20.here hx rfl (hb hby d4_61) rfl rfl ?_
          show Steps p.tables e below (T20.setTop (mkF m 62 #[.val (.ref a), .val (.long q1), .second, .val (.ref b15), .val (.int (2 : Int32)), .val (.int (0 : Int32)), .val (.int (0 : Int32))] [(.ref a), (.int (0 : Int32)), (.ref b15)])) _
          refine XS.iload X20.here hx rfl (hb hby d4_62) rfl ?_
          show Steps p.tables e below (T20.setTop (mkF m 64 #[.val (.ref a), .val (.long q1), .second, .val (.ref b15), .val (.int (2 : Int32)), .val (.int (0 : Int32)), .val (.int (0 : Int32))] [(.int (0 : Int32)), (.ref a), (.int (0 : Int32)), (.ref b15)])) _
          refine XS.iload X20.here hx rfl (hb hby d4_64) rfl ?_
          show Steps p.tables e below (T20.setTop (mkF m 66 #[.val (.ref a), .val (.long q1), .second, .val (.ref b15), .val (.int (2 : Int32)), .val (.int (0 : Int32)), .val (.int (0 : Int32))] [(.int (2 : Int32)), (.int (0 : Int32)), (.ref a), (.int (0 : Int32)), (.ref b15)])) _
          refine XS.iadd X20.here hx rfl (hb hby d4_66) rfl ?_
          show Steps p.tables e below (T20.setTop (mkF m 67 #[.val (.ref a), .val (.long q1), .second, .val (.ref b15), .val (.int (2 : Int32)), .val (.int (0 : Int32)), .val (.int (0 : Int32))] [(.int (2 : Int32)), (.ref a), (.int (0 : Int32)), (.ref b15)])) _
          refine XS.iconst X20.here hx rfl (hb hby d4_67) ?_
          show Steps p.tables e below (T20.setTop (mkF m 68 #[.val (.ref a), .val (.long q1), .second, .val (.ref b15), .val (.int (2 : Int32)), .val (.int (0 : Int32)), .val (.int (0 : Int32))] [(.int (1 : Int32)), (.int (2 : Int32)), (.ref a), (.int (0 : Int32)), (.ref b15)])) _
          refine XS.isub X20.here hx rfl (hb hby d4_68) rfl ?_
          show Steps p.tables e below (T20.setTop (mkF m 69 #[.val (.ref a), .val (.long q1), .second, .val (.ref b15), .val (.int (2 : Int32)), .val (.int (0 : Int32)), .val (.int (0 : Int32))] [(.int (1 : Int32)), (.ref a), (.int (0 : Int32)), (.ref b15)])) _
          refine XS.iload X20.here hx rfl (hb hby d4_69) rfl ?_
          show Steps p.tables e below (T20.setTop (mkF m 71 #[.val (.ref a), .val (.long q1), .second, .val (.ref b15), .val (.int (2 : Int32)), .val (.int (0 : Int32)), .val (.int (0 : Int32))] [(.int (0 : Int32)), (.int (1 : Int32)), (.ref a), (.int (0 : Int32)), (.ref b15)])) _
          refine XS.isub X20.here hx rfl (hb hby d4_71) rfl ?_
          exact kz
        obtain ⟨cl22, Ar22, -, S22, M22, H22, -⟩ := id Av
        have hin22 : ¬ ((1 : Int32) < 0 ∨ cl22.slots.size ≤ ((1 : Int32)).toNatClampNeg) := inb_of S22 ⟨by decide, by decide⟩
        have hat22 : cl22.slots[((1 : Int32)).toNatClampNeg]? = some (.int x1) := H22.at hin22 rfl
        refine own_go (A := T20.setTop (mkF m 73 #[.val (.ref a), .val (.long q1), .second, .val (.ref b15), .val (.int (2 : Int32)), .val (.int (0 : Int32)), .val (.int (0 : Int32))] [(.int x1), (.int (0 : Int32)), (.ref b15)])) (fun _ kz => ?_) ?_
        · refine X20.baloadBytes hx (j := (1 : Int32)) (v := (.int x1)) (e20 ▸ Ar22.1) (State.isArrayOf_alike hZ.alike Ar22.2.1) Ar22.2.2 hin22 hat22 (g := (mkF m 72 #[.val (.ref a), .val (.long q1), .second, .val (.ref b15), .val (.int (2 : Int32)), .val (.int (0 : Int32)), .val (.int (0 : Int32))] [(.int (1 : Int32)), (.ref a), (.int (0 : Int32)), (.ref b15)])) rfl rfl (hb hby d4_72) _ ?_
          exact kz
        obtain ⟨cl23, Ar23, q23, S23, M23, H23, G23⟩ := id Av_b15
        have hin23 : ¬ ((0 : Int32) < 0 ∨ cl23.slots.size ≤ ((0 : Int32)).toNatClampNeg) := inb_of S23 ⟨by decide, by decide⟩
        obtain ⟨T23, h23, X23, e23, W23, st23⟩ := stB X20 hx hZ e20 Ar23 (j := (0 : Int32)) hin23 (g := (mkF m 73 #[.val (.ref a), .val (.long q1), .second, .val (.ref b15), .val (.int (2 : Int32)), .val (.int (0 : Int32)), .val (.int (0 : Int32))] [(.int x1), (.int (0 : Int32)), (.ref b15)])) rfl rfl (hb hby d4_73)
        have Aw23 := Arv.set Ar23 q23 S23 M23 H23 G23 (fits_nar_byte _) W23 0 rfl (Nat.le_of_ble_eq_true rfl)
        replace S_l := S_l.wr W23
        replace Ex := Ex.wr W23
        replace Av := Av.other W23 ne_a_b15
        replace Ex_b15 := Ex_b15.wr W23
        have Z23 : n0 ≤ h23.size := Nat.le_trans Z15 (Keep.of_wr W23).1
        have Kp23 : Keep h0 h23 [] := Kp15.wr W23 (Or.inr szk_b15)
        have Av_b15 : Arv Z h23 b15 kc .byte (2 : Int32) [(.int x1.toInt8.toInt32), (.int x1)] (.int (0 : Int32)) := Aw23
        have N23 := Fr.snoc X23 N20 g_b15
        refine own_go (A := T23.setTop (mkF m 74 #[.val (.ref a), .val (.long q1), .second, .val (.ref b15), .val (.int (2 : Int32)), .val (.int (0 : Int32)), .val (.int (0 : Int32))] [])) (fun _ kz => st23 _ kz) ?_
        refine own_go (A := T23.setTop (mkF m 72 #[.val (.ref a), .val (.long q1), .second, .val (.ref b15), .val (.int (2 : Int32)), .val (.int (0 : Int32)), .val (.int (1 : Int32))] [(.int (0 : Int32)), (.ref a), (.int (1 : Int32)), (.ref b15)])) (fun _ kz => ?_) ?_
        · show Steps p.tables e below (T23.setTop (mkF m 74 #[.val (.ref a), .val (.long q1), .second, .val (.ref b15), .val (.int (2 : Int32)), .val (.int (0 : Int32)), .val (.int (0 : Int32))] [])) _
          refine XS.iinc X23.here hx rfl (hb hby d4_74) rfl (l' := #[.val (.ref a), .val (.long q1), .second, .val (.ref b15), .val (.int (2 : Int32)), .val (.int (0 : Int32)), .val (.int (1 : Int32))]) rfl ?_
          show Steps p.tables e below (T23.setTop (mkF m 77 #[.val (.ref a), .val (.long q1), .second, .val (.ref b15), .val (.int (2 : Int32)), .val (.int (0 : Int32)), .val (.int (1 : Int32))] [])) _
          refine XS.goto X23.here hx rfl (pc0 := 77) (pc' := 48) rfl (hb hby d4_77) (by decide) (by decide) ?_
          show Steps p.tables e below (T23.setTop (mkF m 48 #[.val (.ref a), .val (.long q1), .second, .val (.ref b15), .val (.int (2 : Int32)), .val (.int (0 : Int32)), .val (.int (1 : Int32))] [])) _
          refine XS.iload X23.here hx rfl (hb hby d4_48) rfl ?_
          show Steps p.tables e below (T23.setTop (mkF m 50 #[.val (.ref a), .val (.long q1), .second, .val (.ref b15), .val (.int (2 : Int32)), .val (.int (0 : Int32)), .val (.int (1 : Int32))] [(.int (1 : Int32))])) _
          refine XS.iload X23.here hx rfl (hb hby d4_50) rfl ?_
          show Steps p.tables e below (T23.setTop (mkF m 52 #[.val (.ref a), .val (.long q1), .second, .val (.ref b15), .val (.int (2 : Int32)), .val (.int (0 : Int32)), .val (.int (1 : Int32))] [(.int (2 : Int32)), (.int (1 : Int32))])) _
          refine XS.icmpNo X23.here hx rfl (hb hby d4_52) rfl (tlt (by decide : ((1 : Int32) < (2 : Int32)))).2.1 ?_
          show Steps p.tables e below (T23.setTop (mkF m 55 #[.val (.ref a), .val (.long q1), .second, .val (.ref b15), .val (.int (2 : Int32)), .val (.int (0 : Int32)), .val (.int (1 : Int32))] [])) _
          refine XS.aloadN X23.here hx rfl (hb hby d4_55) rfl rfl ?_
          show Steps p.tables e below (T23.setTop (mkF m 56 #[.val (.ref a), .val (.long q1), .second, .val (.ref b15), .val (.int (2 : Int32)), .val (.int (0 : Int32)), .val (.int (1 : Int32))] [(.ref b15)])) _
          refine XS.iload X23.here hx rfl (hb hby d4_56) rfl ?_
          show Steps p.tables e below (T23.setTop (mkF m 58 #[.val (.ref a), .val (.long q1), .second, .val (.ref b15), .val (.int (2 : Int32)), .val (.int (0 : Int32)), .val (.int (1 : Int32))] [(.int (0 : Int32)), (.ref b15)])) _
          refine XS.iload X23.here hx rfl (hb hby d4_58) rfl ?_
          show Steps p.tables e below (T23.setTop (mkF m 60 #[.val (.ref a), .val (.long q1), .second, .val (.ref b15), .val (.int (2 : Int32)), .val (.int (0 : Int32)), .val (.int (1 : Int32))] [(.int (1 : Int32)), (.int (0 : Int32)), (.ref b15)])) _
          refine XS.iadd X23.here hx rfl (hb hby d4_60) rfl ?_
          show Steps p.tables e below (T23.setTop (mkF m 61 #[.val (.ref a), .val (.long q1), .second, .val (.ref b15), .val (.int (2 : Int32)), .val (.int (0 : Int32)), .val (.int (1 : Int32))] [(.int (1 : Int32)), (.ref b15)])) _
          refine XS.aloadN X23.here hx rfl (hb hby d4_61) rfl rfl ?_
          show Steps p.tables e below (T23.setTop (mkF m 62 #[.val (.ref a), .val (.long q1), .second, .val (.ref b15), .val (.int (2 : Int32)), .val (.int (0 : Int32)), .val (.int (1 : Int32))] [(.ref a), (.int (1 : Int32)), (.ref b15)])) _
          refine XS.iload X23.here hx rfl (hb hby d4_62) rfl ?_
          show Steps p.tables e below (T23.setTop (mkF m 64 #[.val (.ref a), .val (.long q1), .second, .val (.ref b15), .val (.int (2 : Int32)), .val (.int (0 : Int32)), .val (.int (1 : Int32))] [(.int (0 : Int32)), (.ref a), (.int (1 : Int32)), (.ref b15)])) _
          refine XS.iload X23.here hx rfl (hb hby d4_64) rfl ?_
          show Steps p.tables e below (T23.setTop (mkF m 66 #[.val (.ref a), .val (.long q1), .second, .val (.ref b15), .val (.int (2 : Int32)), .val (.int (0 : Int32)), .val (.int (1 : Int32))] [(.int (2 : Int32)), (.int (0 : Int32)), (.ref a), (.int (1 : Int32)), (.ref b15)])) _
          refine XS.iadd X23.here hx rfl (hb hby d4_66) rfl ?_
          show Steps p.tables e below (T23.setTop (mkF m 67 #[.val (.ref a), .val (.long q1), .second, .val (.ref b15), .val (.int (2 : Int32)), .val (.int (0 : Int32)), .val (.int (1 : Int32))] [(.int (2 : Int32)), (.ref a), (.int (1 : Int32)), (.ref b15)])) _
          refine XS.iconst X23.here hx rfl (hb hby d4_67) ?_
          show Steps p.tables e below (T23.setTop (mkF m 68 #[.val (.ref a), .val (.long q1), .second, .val (.ref b15), .val (.int (2 : Int32)), .val (.int (0 : Int32)), .val (.int (1 : Int32))] [(.int (1 : Int32)), (.int (2 : Int32)), (.ref a), (.int (1 : Int32)), (.ref b15)])) _
          refine XS.isub X23.here hx rfl (hb hby d4_68) rfl ?_
          show Steps p.tables e below (T23.setTop (mkF m 69 #[.val (.ref a), .val (.long q1), .second, .val (.ref b15), .val (.int (2 : Int32)), .val (.int (0 : Int32)), .val (.int (1 : Int32))] [(.int (1 : Int32)), (.ref a), (.int (1 : Int32)), (.ref b15)])) _
          refine XS.iload X23.here hx rfl (hb hby d4_69) rfl ?_
          show Steps p.tables e below (T23.setTop (mkF m 71 #[.val (.ref a), .val (.long q1), .second, .val (.ref b15), .val (.int (2 : Int32)), .val (.int (0 : Int32)), .val (.int (1 : Int32))] [(.int (1 : Int32)), (.int (1 : Int32)), (.ref a), (.int (1 : Int32)), (.ref b15)])) _
          refine XS.isub X23.here hx rfl (hb hby d4_71) rfl ?_
          exact kz
        obtain ⟨cl24, Ar24, -, S24, M24, H24, -⟩ := id Av
        have hin24 : ¬ ((0 : Int32) < 0 ∨ cl24.slots.size ≤ ((0 : Int32)).toNatClampNeg) := inb_of S24 ⟨by decide, by decide⟩
        have hat24 : cl24.slots[((0 : Int32)).toNatClampNeg]? = some (.int x0) := H24.at hin24 rfl
        refine own_go (A := T23.setTop (mkF m 73 #[.val (.ref a), .val (.long q1), .second, .val (.ref b15), .val (.int (2 : Int32)), .val (.int (0 : Int32)), .val (.int (1 : Int32))] [(.int x0), (.int (1 : Int32)), (.ref b15)])) (fun _ kz => ?_) ?_
        · refine X23.baloadBytes hx (j := (0 : Int32)) (v := (.int x0)) (e23 ▸ Ar24.1) (State.isArrayOf_alike hZ.alike Ar24.2.1) Ar24.2.2 hin24 hat24 (g := (mkF m 72 #[.val (.ref a), .val (.long q1), .second, .val (.ref b15), .val (.int (2 : Int32)), .val (.int (0 : Int32)), .val (.int (1 : Int32))] [(.int (0 : Int32)), (.ref a), (.int (1 : Int32)), (.ref b15)])) rfl rfl (hb hby d4_72) _ ?_
          exact kz
        obtain ⟨cl25, Ar25, q25, S25, M25, H25, G25⟩ := id Av_b15
        have hin25 : ¬ ((1 : Int32) < 0 ∨ cl25.slots.size ≤ ((1 : Int32)).toNatClampNeg) := inb_of S25 ⟨by decide, by decide⟩
        obtain ⟨T25, h25, X25, e25, W25, st25⟩ := stB X23 hx hZ e23 Ar25 (j := (1 : Int32)) hin25 (g := (mkF m 73 #[.val (.ref a), .val (.long q1), .second, .val (.ref b15), .val (.int (2 : Int32)), .val (.int (0 : Int32)), .val (.int (1 : Int32))] [(.int x0), (.int (1 : Int32)), (.ref b15)])) rfl rfl (hb hby d4_73)
        have Aw25 := Arv.set Ar25 q25 S25 M25 H25 G25 (fits_nar_byte _) W25 1 rfl (Nat.le_of_ble_eq_true rfl)
        replace S_l := S_l.wr W25
        replace Ex := Ex.wr W25
        replace Av := Av.other W25 ne_a_b15
        replace Ex_b15 := Ex_b15.wr W25
        have Z25 : n0 ≤ h25.size := Nat.le_trans Z23 (Keep.of_wr W25).1
        have Kp25 : Keep h0 h25 [] := Kp23.wr W25 (Or.inr szk_b15)
        have Av_b15 : Arv Z h25 b15 kc .byte (2 : Int32) [(.int x1.toInt8.toInt32), (.int x0.toInt8.toInt32)] (.int (0 : Int32)) := Aw25
        have N25 := Fr.snoc X25 N23 g_b15
        refine own_go (A := T25.setTop (mkF m 74 #[.val (.ref a), .val (.long q1), .second, .val (.ref b15), .val (.int (2 : Int32)), .val (.int (0 : Int32)), .val (.int (1 : Int32))] [])) (fun _ kz => st25 _ kz) ?_
        refine own_go (A := T25.setTop (mkF m 41 #[.val (.ref a), .val (.long q1), .second, .val (.ref b15), .val (.int (2 : Int32)), .val (.int (2 : Int32)), .val (.int (2 : Int32))] [(.ref a), (.int (4 : Int32))])) (fun _ kz => ?_) ?_
        · show Steps p.tables e below (T25.setTop (mkF m 74 #[.val (.ref a), .val (.long q1), .second, .val (.ref b15), .val (.int (2 : Int32)), .val (.int (0 : Int32)), .val (.int (1 : Int32))] [])) _
          refine XS.iinc X25.here hx rfl (hb hby d4_74) rfl (l' := #[.val (.ref a), .val (.long q1), .second, .val (.ref b15), .val (.int (2 : Int32)), .val (.int (0 : Int32)), .val (.int (2 : Int32))]) rfl ?_
          show Steps p.tables e below (T25.setTop (mkF m 77 #[.val (.ref a), .val (.long q1), .second, .val (.ref b15), .val (.int (2 : Int32)), .val (.int (0 : Int32)), .val (.int (2 : Int32))] [])) _
          refine XS.goto X25.here hx rfl (pc0 := 77) (pc' := 48) rfl (hb hby d4_77) (by decide) (by decide) ?_
          show Steps p.tables e below (T25.setTop (mkF m 48 #[.val (.ref a), .val (.long q1), .second, .val (.ref b15), .val (.int (2 : Int32)), .val (.int (0 : Int32)), .val (.int (2 : Int32))] [])) _
          refine XS.iload X25.here hx rfl (hb hby d4_48) rfl ?_
          show Steps p.tables e below (T25.setTop (mkF m 50 #[.val (.ref a), .val (.long q1), .second, .val (.ref b15), .val (.int (2 : Int32)), .val (.int (0 : Int32)), .val (.int (2 : Int32))] [(.int (2 : Int32))])) _
          refine XS.iload X25.here hx rfl (hb hby d4_50) rfl ?_
          show Steps p.tables e below (T25.setTop (mkF m 52 #[.val (.ref a), .val (.long q1), .second, .val (.ref b15), .val (.int (2 : Int32)), .val (.int (0 : Int32)), .val (.int (2 : Int32))] [(.int (2 : Int32)), (.int (2 : Int32))])) _
          refine XS.icmpYes X25.here hx rfl (pc0 := 52) (pc' := 80) rfl (hb hby d4_52) rfl (flt (by decide : ¬ ((2 : Int32) < (2 : Int32)))).2.1 (by decide) (by decide) ?_
          show Steps p.tables e below (T25.setTop (mkF m 80 #[.val (.ref a), .val (.long q1), .second, .val (.ref b15), .val (.int (2 : Int32)), .val (.int (0 : Int32)), .val (.int (2 : Int32))] [])) _
          refine XS.iload X25.here hx rfl (hb hby d4_80) rfl ?_
          show Steps p.tables e below (T25.setTop (mkF m 82 #[.val (.ref a), .val (.long q1), .second, .val (.ref b15), .val (.int (2 : Int32)), .val (.int (0 : Int32)), .val (.int (2 : Int32))] [(.int (0 : Int32))])) _
          refine XS.iload X25.here hx rfl (hb hby d4_82) rfl ?_
          show Steps p.tables e below (T25.setTop (mkF m 84 #[.val (.ref a), .val (.long q1), .second, .val (.ref b15), .val (.int (2 : Int32)), .val (.int (0 : Int32)), .val (.int (2 : Int32))] [(.int (2 : Int32)), (.int (0 : Int32))])) _
          refine XS.iadd X25.here hx rfl (hb hby d4_84) rfl ?_
          show Steps p.tables e below (T25.setTop (mkF m 85 #[.val (.ref a), .val (.long q1), .second, .val (.ref b15), .val (.int (2 : Int32)), .val (.int (0 : Int32)), .val (.int (2 : Int32))] [(.int (2 : Int32))])) _
          refine XS.istore X25.here hx rfl (hb hby d4_85) rfl (l' := #[.val (.ref a), .val (.long q1), .second, .val (.ref b15), .val (.int (2 : Int32)), .val (.int (2 : Int32)), .val (.int (2 : Int32))]) rfl ?_
          show Steps p.tables e below (T25.setTop (mkF m 87 #[.val (.ref a), .val (.long q1), .second, .val (.ref b15), .val (.int (2 : Int32)), .val (.int (2 : Int32)), .val (.int (2 : Int32))] [])) _
          refine XS.goto X25.here hx rfl (pc0 := 87) (pc' := 35) rfl (hb hby d4_87) (by decide) (by decide) ?_
          show Steps p.tables e below (T25.setTop (mkF m 35 #[.val (.ref a), .val (.long q1), .second, .val (.ref b15), .val (.int (2 : Int32)), .val (.int (2 : Int32)), .val (.int (2 : Int32))] [])) _
          refine XS.iload X25.here hx rfl (hb hby d4_35) rfl ?_
          show Steps p.tables e below (T25.setTop (mkF m 37 #[.val (.ref a), .val (.long q1), .second, .val (.ref b15), .val (.int (2 : Int32)), .val (.int (2 : Int32)), .val (.int (2 : Int32))] [(.int (2 : Int32))])) _
          refine XS.iload X25.here hx rfl (hb hby d4_37) rfl ?_
          show Steps p.tables e below (T25.setTop (mkF m 39 #[.val (.ref a), .val (.long q1), .second, .val (.ref b15), .val (.int (2 : Int32)), .val (.int (2 : Int32)), .val (.int (2 : Int32))] [(.int (2 : Int32)), (.int (2 : Int32))])) _
          refine XS.iadd X25.here hx rfl (hb hby d4_39) rfl ?_
          show Steps p.tables e below (T25.setTop (mkF m 40 #[.val (.ref a), .val (.long q1), .second, .val (.ref b15), .val (.int (2 : Int32)), .val (.int (2 : Int32)), .val (.int (2 : Int32))] [(.int (4 : Int32))])) _
          refine XS.aloadN X25.here hx rfl (hb hby d4_40) rfl rfl ?_
          exact kz
        obtain ⟨cl26, Ar26, -, S26, M26, -, -⟩ := id Av
        refine own_go (A := T25.setTop (mkF m 42 #[.val (.ref a), .val (.long q1), .second, .val (.ref b15), .val (.int (2 : Int32)), .val (.int (2 : Int32)), .val (.int (2 : Int32))] [(.int (2 : Int32)), (.int (4 : Int32))])) (fun _ kz => ?_) ?_
        · refine X25.arraylength hx (e25 ▸ Ar26.1) (State.isArrayOf_alike hZ.alike Ar26.2.1) (g := (mkF m 41 #[.val (.ref a), .val (.long q1), .second, .val (.ref b15), .val (.int (2 : Int32)), .val (.int (2 : Int32)), .val (.int (2 : Int32))] [(.ref a), (.int (4 : Int32))])) rfl rfl (hb hby d4_41) _ ?_
          rw [len_of S26 M26]
          exact kz
        refine own_go (A := T25.setTop (mkF m 91 #[.val (.ref a), .val (.long q1), .second, .val (.ref b15), .val (.int (2 : Int32)), .val (.int (2 : Int32)), .val (.int (2 : Int32))] [(.ref b15)])) (fun _ kz => ?_) ?_
        · show Steps p.tables e below (T25.setTop (mkF m 42 #[.val (.ref a), .val (.long q1), .second, .val (.ref b15), .val (.int (2 : Int32)), .val (.int (2 : Int32)), .val (.int (2 : Int32))] [(.int (2 : Int32)), (.int (4 : Int32))])) _
          refine XS.icmpYes X25.here hx rfl (pc0 := 42) (pc' := 90) rfl (hb hby d4_42) rfl (tlt (by decide : ((2 : Int32) < (4 : Int32)))).2.2.1 (by decide) (by decide) ?_
          show Steps p.tables e below (T25.setTop (mkF m 90 #[.val (.ref a), .val (.long q1), .second, .val (.ref b15), .val (.int (2 : Int32)), .val (.int (2 : Int32)), .val (.int (2 : Int32))] [])) _
          refine XS.aloadN X25.here hx rfl (hb hby d4_90) rfl rfl ?_
          exact kz
        obtain ⟨fs, hrr, hrun, hended, hW, hsame⟩ := X25.leave (v := some (.ref b15)) (fun h => by rw [Bd.returns] at h; cases h)
        refine ⟨_, _, ?_, hrun, hended, _, _, rfl, ?_, ⟨_, rfl⟩, hW, hsame.mono (by decide) (by decide)⟩
        · show Steps p.tables e below (T25.setTop (mkF m 91 #[.val (.ref a), .val (.long q1), .second, .val (.ref b15), .val (.int (2 : Int32)), .val (.int (2 : Int32)), .val (.int (2 : Int32))] [(.ref b15)])) _
          exact retOut X25 hx (t := (.array .byte)) Bd.returns rfl (Or.inr (Or.inr (Or.inr (Or.inr ⟨rfl, rfl, rfl⟩)))) (hb hby d4_91) hrr
        · show QrmHost Z (2 : Int32) h0 n0 _ T25.heap _
          rw [e25]
          exact ⟨b15, rfl, N25, szk_b15, Kp25, ⟨kc, x1.toInt8.toInt32, x0.toInt8.toInt32, (0 : Int32), Av_b15⟩, Ex_b15⟩
      · skip
        refine own_go (A := T20.setTop (mkF m 41 #[.val (.ref a), .val (.long q1), .second, .val (.ref b15), .val (.int (3 : Int32)), .val (.int (0 : Int32)), .unset] [(.ref a), (.int (3 : Int32))])) (fun _ kz => ?_) ?_
        · show Steps p.tables e below (T20.setTop (mkF m 32 #[.val (.ref a), .val (.long q1), .second, .val (.ref b15), .val (.int (3 : Int32)), .unset, .unset] [])) _
          refine XS.iconst X20.here hx rfl (hb hby d4_32) ?_
          show Steps p.tables e below (T20.setTop (mkF m 33 #[.val (.ref a), .val (.long q1), .second, .val (.ref b15), .val (.int (3 : Int32)), .unset, .unset] [(.int (0 : Int32))])) _
          refine XS.istore X20.here hx rfl (hb hby d4_33) rfl (l' := #[.val (.ref a), .val (.long q1), .second, .val (.ref b15), .val (.int (3 : Int32)), .val (.int (0 : Int32)), .unset]) rfl ?_
          show Steps p.tables e below (T20.setTop (mkF m 35 #[.val (.ref a), .val (.long q1), .second, .val (.ref b15), .val (.int (3 : Int32)), .val (.int (0 : Int32)), .unset] [])) _
          refine XS.iload X20.here hx rfl (hb hby d4_35) rfl ?_
          show Steps p.tables e below (T20.setTop (mkF m 37 #[.val (.ref a), .val (.long q1), .second, .val (.ref b15), .val (.int (3 : Int32)), .val (.int (0 : Int32)), .unset] [(.int (0 : Int32))])) _
          refine XS.iload X20.here hx rfl (hb hby d4_37) rfl ?_
          show Steps p.tables e below (T20.setTop (mkF m 39 #[.val (.ref a), .val (.long q1), .second, .val (.ref b15), .val (.int (3 : Int32)), .val (.int (0 : Int32)), .unset] [(.int (3 : Int32)), (.int (0 : Int32))])) _
          refine XS.iadd X20.here hx rfl (hb hby d4_39) rfl ?_
          show Steps p.tables e below (T20.setTop (mkF m 40 #[.val (.ref a), .val (.long q1), .second, .val (.ref b15), .val (.int (3 : Int32)), .val (.int (0 : Int32)), .unset] [(.int (3 : Int32))])) _
          refine XS.aloadN X20.here hx rfl (hb hby d4_40) rfl rfl ?_
          exact kz
        obtain ⟨cl27, Ar27, -, S27, M27, -, -⟩ := id Av
        refine own_go (A := T20.setTop (mkF m 42 #[.val (.ref a), .val (.long q1), .second, .val (.ref b15), .val (.int (3 : Int32)), .val (.int (0 : Int32)), .unset] [(.int (2 : Int32)), (.int (3 : Int32))])) (fun _ kz => ?_) ?_
        · refine X20.arraylength hx (e20 ▸ Ar27.1) (State.isArrayOf_alike hZ.alike Ar27.2.1) (g := (mkF m 41 #[.val (.ref a), .val (.long q1), .second, .val (.ref b15), .val (.int (3 : Int32)), .val (.int (0 : Int32)), .unset] [(.ref a), (.int (3 : Int32))])) rfl rfl (hb hby d4_41) _ ?_
          rw [len_of S27 M27]
          exact kz
        refine own_go (A := T20.setTop (mkF m 91 #[.val (.ref a), .val (.long q1), .second, .val (.ref b15), .val (.int (3 : Int32)), .val (.int (0 : Int32)), .unset] [(.ref b15)])) (fun _ kz => ?_) ?_
        · show Steps p.tables e below (T20.setTop (mkF m 42 #[.val (.ref a), .val (.long q1), .second, .val (.ref b15), .val (.int (3 : Int32)), .val (.int (0 : Int32)), .unset] [(.int (2 : Int32)), (.int (3 : Int32))])) _
          refine XS.icmpYes X20.here hx rfl (pc0 := 42) (pc' := 90) rfl (hb hby d4_42) rfl (tlt (by decide : ((2 : Int32) < (3 : Int32)))).2.2.1 (by decide) (by decide) ?_
          show Steps p.tables e below (T20.setTop (mkF m 90 #[.val (.ref a), .val (.long q1), .second, .val (.ref b15), .val (.int (3 : Int32)), .val (.int (0 : Int32)), .unset] [])) _
          refine XS.aloadN X20.here hx rfl (hb hby d4_90) rfl rfl ?_
          exact kz
        obtain ⟨fs, hrr, hrun, hended, hW, hsame⟩ := X20.leave (v := some (.ref b15)) (fun h => by rw [Bd.returns] at h; cases h)
        refine ⟨_, _, ?_, hrun, hended, _, _, rfl, ?_, ⟨_, rfl⟩, hW, hsame.mono (by decide) (by decide)⟩
        · show Steps p.tables e below (T20.setTop (mkF m 91 #[.val (.ref a), .val (.long q1), .second, .val (.ref b15), .val (.int (3 : Int32)), .val (.int (0 : Int32)), .unset] [(.ref b15)])) _
          exact retOut X20 hx (t := (.array .byte)) Bd.returns rfl (Or.inr (Or.inr (Or.inr (Or.inr ⟨rfl, rfl, rfl⟩)))) (hb hby d4_91) hrr
        · show QrmHost Z (2 : Int32) h0 n0 _ T20.heap _
          rw [e20]
          exact ⟨b15, rfl, N20, szk_b15, Kp15, ⟨kc, x0, x1, (0 : Int32), Av_b15⟩, Ex_b15⟩
    · skip
      refine own_go (A := T17.setTop (mkF m 90 #[.val (.ref a), .val (.long q1), .second, .val (.ref b15), .unset, .unset, .unset] [])) (fun _ kz => ?_) ?_
      · show Steps p.tables e below (T17.setTop (mkF m 17 #[.val (.ref a), .val (.long q1), .second, .val (.ref b15), .unset, .unset, .unset] [(.int (lcmpW q1 (1 : Int64)))])) _
        refine XS.ifYes X17.here hx rfl (pc0 := 17) (pc' := 90) rfl (hb hby d4_17) rfl ((if0 _ _).trans (flt hs18).2.2.2) (by decide) (by decide) ?_
        exact kz
      refine own_go (A := T17.setTop (mkF m 91 #[.val (.ref a), .val (.long q1), .second, .val (.ref b15), .unset, .unset, .unset] [(.ref b15)])) (fun _ kz => ?_) ?_
      · show Steps p.tables e below (T17.setTop (mkF m 90 #[.val (.ref a), .val (.long q1), .second, .val (.ref b15), .unset, .unset, .unset] [])) _
        refine XS.aloadN X17.here hx rfl (hb hby d4_90) rfl rfl ?_
        exact kz
      obtain ⟨fs, hrr, hrun, hended, hW, hsame⟩ := X17.leave (v := some (.ref b15)) (fun h => by rw [Bd.returns] at h; cases h)
      refine ⟨_, _, ?_, hrun, hended, _, _, rfl, ?_, ⟨_, rfl⟩, hW, hsame.mono (by decide) (by decide)⟩
      · show Steps p.tables e below (T17.setTop (mkF m 91 #[.val (.ref a), .val (.long q1), .second, .val (.ref b15), .unset, .unset, .unset] [(.ref b15)])) _
        exact retOut X17 hx (t := (.array .byte)) Bd.returns rfl (Or.inr (Or.inr (Or.inr (Or.inr ⟨rfl, rfl, rfl⟩)))) (hb hby d4_91) hrr
      · show QrmHost Z (2 : Int32) h0 n0 _ T17.heap _
        rw [e17]
        exact ⟨b15, rfl, N0, szk_b15, Kp15, ⟨kc, x0, x1, (0 : Int32), Av_b15⟩, Ex_b15⟩
  · skip
    replace Av : Arv Z h0 a kc .byte (3 : Int32) [(.int x0), (.int x1), (.int x2)] (.int (0 : Int32)) := Av
    refine own_go (A := s₁.setTop (mkF m 1 #[.val (.ref a), .val (.long q1), .second, .unset, .unset, .unset, .unset] [(.ref a)])) (fun _ kz => ?_) ?_
    · show Steps p.tables e below (s₁.setTop (mkF m 0 #[.val (.ref a), .val (.long q1), .second, .unset, .unset, .unset, .unset] [])) _
      refine XS.aloadN X0.here hx rfl (hb hby d4_0) rfl rfl ?_
      exact kz
    obtain ⟨T28, h28, X28, e28, E28, A28, Q28, st28⟩ := cloneH X0 hx hZ hown (hw _ (List.mem_of_getElem? (i := 22) rfl)) (hw _ (List.mem_of_getElem? (i := 23) rfl)) (hw _ (List.mem_of_getElem? (i := 27) rfl)) (hw _ (List.mem_of_getElem? (i := 25) rfl)) (hw _ (List.mem_of_getElem? (i := 26) rfl)) (hw _ (List.mem_of_getElem? (i := 28) rfl)) e0 Av.arh Ex (g := (mkF m 1 #[.val (.ref a), .val (.long q1), .second, .unset, .unset, .unset, .unset] [(.ref a)])) rfl (by rw [hml]; rfl) rfl (hb hby d4_1) (by decide) (W := 0) (cap := 3) (by show 2 * 0 + _ ≤ _; exact Nat.le_of_eq rfl) (by decide) (by decide) (by decide) (by decide)
    obtain ⟨b28, gq28⟩ : ∃ z, z = h0.size := ⟨_, rfl⟩
    rw [← gq28] at A28 Q28 st28
    have g_b28 : n0 ≤ b28 := Nat.le_trans Z0 (Nat.le_of_eq gq28.symm)
    have ne_a_b28 : a ≠ b28 := Nat.ne_of_lt (Nat.lt_of_lt_of_le Ex.lt (Nat.le_of_eq gq28.symm))
    have szk_b28 : h0.size ≤ b28 := Nat.le_trans Kp0.1 (Nat.le_of_eq gq28.symm)
    replace S_l := S_l.ext E28
    replace Ex := Ex.ext E28
    replace Av := Av.ext E28
    have Z28 : n0 ≤ h28.size := Nat.le_trans Z0 E28.1
    have Kp28 : Keep h0 h28 [] := Kp0.ext E28
    have Av_b28 : Arv Z h28 b28 kc .byte (3 : Int32) [(.int x0), (.int x1), (.int x2)] (.int (0 : Int32)) := A28
    have Ex_b28 := Q28
    refine own_go (A := T28.setTop (mkF m 4 #[.val (.ref a), .val (.long q1), .second, .unset, .unset, .unset, .unset] [(.ref b28)])) (fun _ kz => st28 _ kz) ?_
    obtain ⟨T29, X29, e29, st29⟩ := castY X28 hx hZ hown (hw _ (List.mem_of_getElem? (i := 29) rfl)) e28 (Ins.of_exa Ex_b28 (hw _ (List.mem_of_getElem? (i := 30) rfl))) (g := (mkF m 4 #[.val (.ref a), .val (.long q1), .second, .unset, .unset, .unset, .unset] [(.ref b28)])) rfl rfl (hb hby d4_4)
    refine own_go (A := T29.setTop (mkF m 7 #[.val (.ref a), .val (.long q1), .second, .unset, .unset, .unset, .unset] [(.ref b28)])) (fun _ kz => st29 _ kz) ?_
    refine own_go (A := T29.setTop (mkF m 8 #[.val (.ref a), .val (.long q1), .second, .val (.ref b28), .unset, .unset, .unset] [])) (fun _ kz => ?_) ?_
    · show Steps p.tables e below (T29.setTop (mkF m 7 #[.val (.ref a), .val (.long q1), .second, .unset, .unset, .unset, .unset] [(.ref b28)])) _
      refine XS.astoreN X29.here hx rfl (hb hby d4_7) rfl rfl (l' := #[.val (.ref a), .val (.long q1), .second, .val (.ref b28), .unset, .unset, .unset]) rfl ?_
      exact kz
    obtain ⟨T30, X30, e30, st30⟩ := getS2 X29 hx hZ hown (host := "") (Or.inl (hw _ (List.mem_of_getElem? (i := 31) rfl))) Via.refl e29 S_l (g := (mkF m 8 #[.val (.ref a), .val (.long q1), .second, .val (.ref b28), .unset, .unset, .unset] [])) rfl (hb hby d4_8)
    refine own_go (A := T30.setTop (mkF m 11 #[.val (.ref a), .val (.long q1), .second, .val (.ref b28), .unset, .unset, .unset] [(.int (1 : Int32))])) (fun _ kz => st30 _ kz) ?_
    refine own_go (A := T30.setTop (mkF m 17 #[.val (.ref a), .val (.long q1), .second, .val (.ref b28), .unset, .unset, .unset] [(.int (lcmpW q1 (1 : Int64)))])) (fun _ kz => ?_) ?_
    · show Steps p.tables e below (T30.setTop (mkF m 11 #[.val (.ref a), .val (.long q1), .second, .val (.ref b28), .unset, .unset, .unset] [(.int (1 : Int32))])) _
      refine XS.ifNo X30.here hx rfl (hb hby d4_11) rfl ((if0 _ _).trans (feq (by decide : ¬ ((1 : Int32) = (0 : Int32)))).1) ?_
      show Steps p.tables e below (T30.setTop (mkF m 14 #[.val (.ref a), .val (.long q1), .second, .val (.ref b28), .unset, .unset, .unset] [])) _
      refine XS.lloadN X30.here hx rfl (hb hby d4_14) rfl ?_
      show Steps p.tables e below (T30.setTop (mkF m 15 #[.val (.ref a), .val (.long q1), .second, .val (.ref b28), .unset, .unset, .unset] [(.long q1)])) _
      refine XS.lconst X30.here hx rfl (hb hby d4_15) ?_
      show Steps p.tables e below (T30.setTop (mkF m 16 #[.val (.ref a), .val (.long q1), .second, .val (.ref b28), .unset, .unset, .unset] [(.long (1 : Int64)), (.long q1)])) _
      refine XS.lcmp X30.here hx rfl (hb hby d4_16) rfl ?_
      exact kz
    by_cases hs31 : (0 : Int32) < (lcmpW q1 (1 : Int64))
    · skip
      refine own_go (A := T30.setTop (mkF m 20 #[.val (.ref a), .val (.long q1), .second, .val (.ref b28), .unset, .unset, .unset] [])) (fun _ kz => ?_) ?_
      · show Steps p.tables e below (T30.setTop (mkF m 17 #[.val (.ref a), .val (.long q1), .second, .val (.ref b28), .unset, .unset, .unset] [(.int (lcmpW q1 (1 : Int64)))])) _
        refine XS.ifNo X30.here hx rfl (hb hby d4_17) rfl ((if0 _ _).trans (tlt hs31).2.2.2) ?_
        exact kz
      refine own_go (A := T30.setTop (mkF m 22 #[.val (.ref a), .val (.long q1), .second, .val (.ref b28), .unset, .unset, .unset] [(.ref a), (.long q1)])) (fun _ kz => ?_) ?_
      · show Steps p.tables e below (T30.setTop (mkF m 20 #[.val (.ref a), .val (.long q1), .second, .val (.ref b28), .unset, .unset, .unset] [])) _
        refine XS.lloadN X30.here hx rfl (hb hby d4_20) rfl ?_
        show Steps p.tables e below (T30.setTop (mkF m 21 #[.val (.ref a), .val (.long q1), .second, .val (.ref b28), .unset, .unset, .unset] [(.long q1)])) _
        refine XS.aloadN X30.here hx rfl (hb hby d4_21) rfl rfl ?_
        exact kz
      obtain ⟨cl32, Ar32, -, S32, M32, -, -⟩ := id Av
      refine own_go (A := T30.setTop (mkF m 23 #[.val (.ref a), .val (.long q1), .second, .val (.ref b28), .unset, .unset, .unset] [(.int (3 : Int32)), (.long q1)])) (fun _ kz => ?_) ?_
      · refine X30.arraylength hx (e30 ▸ Ar32.1) (State.isArrayOf_alike hZ.alike Ar32.2.1) (g := (mkF m 22 #[.val (.ref a), .val (.long q1), .second, .val (.ref b28), .unset, .unset, .unset] [(.ref a), (.long q1)])) rfl rfl (hb hby d4_22) _ ?_
        rw [len_of S32 M32]
        exact kz
      refine own_go (A := T30.setTop (mkF m 26 #[.val (.ref a), .val (.long q1), .second, .val (.ref b28), .unset, .unset, .unset] [(.long (((3 : Int32).toInt64) + (1 : Int64))), (.long q1)])) (fun _ kz => ?_) ?_
      · show Steps p.tables e below (T30.setTop (mkF m 23 #[.val (.ref a), .val (.long q1), .second, .val (.ref b28), .unset, .unset, .unset] [(.int (3 : Int32)), (.long q1)])) _
        refine XS.i2l X30.here hx rfl (hb hby d4_23) rfl ?_
        show Steps p.tables e below (T30.setTop (mkF m 24 #[.val (.ref a), .val (.long q1), .second, .val (.ref b28), .unset, .unset, .unset] [(.long ((3 : Int32).toInt64)), (.long q1)])) _
        refine XS.lconst X30.here hx rfl (hb hby d4_24) ?_
        show Steps p.tables e below (T30.setTop (mkF m 25 #[.val (.ref a), .val (.long q1), .second, .val (.ref b28), .unset, .unset, .unset] [(.long (1 : Int64)), (.long ((3 : Int32).toInt64)), (.long q1)])) _
        refine XS.ladd X30.here hx rfl (hb hby d4_25) rfl ?_
        exact kz
      obtain ⟨_, _, ⟨T33, L33, k33, n33⟩, -, X33, ⟨Lc33, hQ33, l33, y33, z33⟩, st33⟩ := Jvm.LawKit.callS X30 hx (y := (⟨"java/lang/Math", "min", "(JJ)J"⟩ : MethodName)) hown (mvT hZ (hw _ (List.mem_of_getElem? (i := 44) rfl))) (mvT hZ (hw _ (List.mem_of_getElem? (i := 45) rfl))) (mvT hZ (hw _ (List.mem_of_getElem? (i := 46) rfl))) (mvT hZ (hw _ (List.mem_of_getElem? (i := 47) rfl))) (by decide) (backOf (W := 0) (rmMin l Z a0 hw [] q1 (((3 : Int32).toInt64) + (1 : Int64)) h28 n0 Z28) hZ (hw _ (List.mem_of_getElem? (i := 47) rfl)) (hw _ (List.mem_of_getElem? (i := 46) rfl)) (by decide) (by decide)) (g := (mkF m 26 #[.val (.ref a), .val (.long q1), .second, .val (.ref b28), .unset, .unset, .unset] [(.long (((3 : Int32).toInt64) + (1 : Int64))), (.long q1)])) rfl (by rw [hml]; rfl) (argsL := [(.long q1), (.long (((3 : Int32).toInt64) + (1 : Int64)))]) (rest := []) (lenOf own_pd0 rfl) rfl (by show 2 * 0 + _ ≤ _; exact Nat.le_of_eq rfl) (hb hby d4_26) (fun _ _ => ⟨rfl, e30, (by decide : 1 + 0 ≤ _), (by decide : 3 + 0 ≤ _)⟩)
      dsimp only [Pt.U, Pt.locs, Pt.cells, Pt.slots] at X33 l33 y33 z33 st33 hQ33
      subst l33 y33 z33
      obtain ⟨rfl, N33q, e33⟩ := hQ33
      have N33 := Fr.app N0 N33q
      refine own_go (A := T33.setTop (mkF m 29 #[.val (.ref a), .val (.long q1), .second, .val (.ref b28), .unset, .unset, .unset] [(.long (if (0 : Int32) < lcmpW q1 (((3 : Int32).toInt64) + (1 : Int64)) then (((3 : Int32).toInt64) + (1 : Int64)) else q1))])) (fun _ kz => st33 _ kz) ?_
      refine own_go (A := T33.setTop (mkF m 32 #[.val (.ref a), .val (.long q1), .second, .val (.ref b28), .val (.int ((if (0 : Int32) < lcmpW q1 (((3 : Int32).toInt64) + (1 : Int64)) then (((3 : Int32).toInt64) + (1 : Int64)) else q1).toInt32)), .unset, .unset] [])) (fun _ kz => ?_) ?_
      · show Steps p.tables e below (T33.setTop (mkF m 29 #[.val (.ref a), .val (.long q1), .second, .val (.ref b28), .unset, .unset, .unset] [(.long (if (0 : Int32) < lcmpW q1 (((3 : Int32).toInt64) + (1 : Int64)) then (((3 : Int32).toInt64) + (1 : Int64)) else q1))])) _
        refine XS.l2i X33.here hx rfl (hb hby d4_29) rfl ?_
        show Steps p.tables e below (T33.setTop (mkF m 30 #[.val (.ref a), .val (.long q1), .second, .val (.ref b28), .unset, .unset, .unset] [(.int ((if (0 : Int32) < lcmpW q1 (((3 : Int32).toInt64) + (1 : Int64)) then (((3 : Int32).toInt64) + (1 : Int64)) else q1).toInt32))])) _
        refine XS.istore X33.here hx rfl (hb hby d4_30) rfl (l' := #[.val (.ref a), .val (.long q1), .second, .val (.ref b28), .val (.int ((if (0 : Int32) < lcmpW q1 (((3 : Int32).toInt64) + (1 : Int64)) then (((3 : Int32).toInt64) + (1 : Int64)) else q1).toInt32)), .unset, .unset]) rfl ?_
        exact kz
      obtain ⟨wd, hwd⟩ : ∃ z, z = ((if (0 : Int32) < lcmpW q1 (((3 : Int32).toInt64) + (1 : Int64)) then (((3 : Int32).toInt64) + (1 : Int64)) else q1).toInt32) := ⟨_, rfl⟩
      refine own_go (A := T33.setTop (mkF m 32 #[.val (.ref a), .val (.long q1), .second, .val (.ref b28), .val (.int wd), .unset, .unset] [])) (fun _ kz => by rw [hwd] at kz; exact kz) ?_
      rcases own_wd3 q1 wd hs31 hwd with rfl | rfl | rfl
      · skip
        refine own_go (A := T33.setTop (mkF m 41 #[.val (.ref a), .val (.long q1), .second, .val (.ref b28), .val (.int (2 : Int32)), .val (.int (0 : Int32)), .unset] [(.ref a), (.int (2 : Int32))])) (fun _ kz => ?_) ?_
        · show Steps p.tables e below (T33.setTop (mkF m 32 #[.val (.ref a), .val (.long q1), .second, .val (.ref b28), .val (.int (2 : Int32)), .unset, .unset] [])) _
          refine XS.iconst X33.here hx rfl (hb hby d4_32) ?_
          show Steps p.tables e below (T33.setTop (mkF m 33 #[.val (.ref a), .val (.long q1), .second, .val (.ref b28), .val (.int (2 : Int32)), .unset, .unset] [(.int (0 : Int32))])) _
          refine XS.istore X33.here hx rfl (hb hby d4_33) rfl (l' := #[.val (.ref a), .val (.long q1), .second, .val (.ref b28), .val (.int (2 : Int32)), .val (.int (0 : Int32)), .unset]) rfl ?_
          show Steps p.tables e below (T33.setTop (mkF m 35 #[.val (.ref a), .val (.long q1), .second, .val (.ref b28), .val (.int (2 : Int32)), .val (.int (0 : Int32)), .unset] [])) _
          refine XS.iload X33.here hx rfl (hb hby d4_35) rfl ?_
          show Steps p.tables e below (T33.setTop (mkF m 37 #[.val (.ref a), .val (.long q1), .second, .val (.ref b28), .val (.int (2 : Int32)), .val (.int (0 : Int32)), .unset] [(.int (0 : Int32))])) _
          refine XS.iload X33.here hx rfl (hb hby d4_37) rfl ?_
          show Steps p.tables e below (T33.setTop (mkF m 39 #[.val (.ref a), .val (.long q1), .second, .val (.ref b28), .val (.int (2 : Int32)), .val (.int (0 : Int32)), .unset] [(.int (2 : Int32)), (.int (0 : Int32))])) _
          refine XS.iadd X33.here hx rfl (hb hby d4_39) rfl ?_
          show Steps p.tables e below (T33.setTop (mkF m 40 #[.val (.ref a), .val (.long q1), .second, .val (.ref b28), .val (.int (2 : Int32)), .val (.int (0 : Int32)), .unset] [(.int (2 : Int32))])) _
          refine XS.aloadN X33.here hx rfl (hb hby d4_40) rfl rfl ?_
          exact kz
        obtain ⟨cl34, Ar34, -, S34, M34, -, -⟩ := id Av
        refine own_go (A := T33.setTop (mkF m 42 #[.val (.ref a), .val (.long q1), .second, .val (.ref b28), .val (.int (2 : Int32)), .val (.int (0 : Int32)), .unset] [(.int (3 : Int32)), (.int (2 : Int32))])) (fun _ kz => ?_) ?_
        · refine X33.arraylength hx (e33 ▸ Ar34.1) (State.isArrayOf_alike hZ.alike Ar34.2.1) (g := (mkF m 41 #[.val (.ref a), .val (.long q1), .second, .val (.ref b28), .val (.int (2 : Int32)), .val (.int (0 : Int32)), .unset] [(.ref a), (.int (2 : Int32))])) rfl rfl (hb hby d4_41) _ ?_
          rw [len_of S34 M34]
          exact kz
        refine own_go (A := T33.setTop (mkF m 72 #[.val (.ref a), .val (.long q1), .second, .val (.ref b28), .val (.int (2 : Int32)), .val (.int (0 : Int32)), .val (.int (0 : Int32))] [(.int (1 : Int32)), (.ref a), (.int (0 : Int32)), (.ref b28)])) (fun _ kz => ?_) ?_
        · show Steps p.tables e below (T33.setTop (mkF m 42 #[.val (.ref a), .val (.long q1), .second, .val (.ref b28), .val (.int (2 : Int32)), .val (.int (0 : Int32)), .unset] [(.int (3 : Int32)), (.int (2 : Int32))])) _
          refine XS.icmpNo X33.here hx rfl (hb hby d4_42) rfl (flt (by decide : ¬ ((3 : Int32) < (2 : Int32)))).2.2.1 ?_
          show Steps p.tables e below (T33.setTop (mkF m 45 #[.val (.ref a), .val (.long q1), .second, .val (.ref b28), .val (.int (2 : Int32)), .val (.int (0 : Int32)), .unset] [])) _
          refine XS.iconst X33.here hx rfl (hb hby d4_45) ?_
          show Steps p.tables e below (T33.setTop (mkF m 46 #[.val (.ref a), .val (.long q1), .second, .val (.ref b28), .val (.int (2 : Int32)), .val (.int (0 : Int32)), .unset] [(.int (0 : Int32))])) _
          refine XS.istore X33.here hx rfl (hb hby d4_46) rfl (l' := #[.val (.ref a), .val (.long q1), .second, .val (.ref b28), .val (.int (2 : Int32)), .val (.int (0 : Int32)), .val (.int (0 : Int32))]) rfl ?_
          show Steps p.tables e below (T33.setTop (mkF m 48 #[.val (.ref a), .val (.long q1), .second, .val (.ref b28), .val (.int (2 : Int32)), .val (.int (0 : Int32)), .val (.int (0 : Int32))] [])) _
          refine XS.iload X33.here hx rfl (hb hby d4_48) rfl ?_
          show Steps p.tables e below (T33.setTop (mkF m 50 #[.val (.ref a), .val (.long q1), .second, .val (.ref b28), .val (.int (2 : Int32)), .val (.int (0 : Int32)), .val (.int (0 : Int32))] [(.int (0 : Int32))])) _
          refine XS.iload X33.here hx rfl (hb hby d4_50) rfl ?_
          show Steps p.tables e below (T33.setTop (mkF m 52 #[.val (.ref a), .val (.long q1), .second, .val (.ref b28), .val (.int (2 : Int32)), .val (.int (0 : Int32)), .val (.int (0 : Int32))] [(.int (2 : Int32)), (.int (0 : Int32))])) _
          refine XS.icmpNo X33.here hx rfl (hb hby d4_52) rfl (tlt (by decide : ((0 : Int32) < (2 : Int32)))).2.1 ?_
          show Steps p.tables e below (T33.setTop (mkF m 55 #[.val (.ref a), .val (.long q1), .second, .val (.ref b28), .val (.int (2 : Int32)), .val (.int (0 : Int32)), .val (.int (0 : Int32))] [])) _
          refine XS.aloadN X33.here hx rfl (hb hby d4_55) rfl rfl ?_
          show Steps p.tables e below (T33.setTop (mkF m 56 #[.val (.ref a), .val (.long q1), .second, .val (.ref b28), .val (.int (2 : Int32)), .val (.int (0 : Int32)), .val (.int (0 : Int32))] [(.ref b28)])) _
          refine XS.iload X33.here hx rfl (hb hby d4_56) rfl ?_
          show Steps p.tables e below (T33.setTop (mkF m 58 #[.val (.ref a), .val (.long q1), .second, .val (.ref b28), .val (.int (2 : Int32)), .val (.int (0 : Int32)), .val (.int (0 : Int32))] [(.int (0 : Int32)), (.ref b28)])) _
          refine XS.iload X33.here hx rfl (hb hby d4_58) rfl ?_
          show Steps p.tables e below (T33.setTop (mkF m 60 #[.val (.ref a), .val (.long q1), .second, .val (.ref b28), .val (.int (2 : Int32)), .val (.int (0 : Int32)), .val (.int (0 : Int32))] [(.int (0 : Int32)), (.int (0 : Int32)), (.ref b28)])) _
          refine XS.iadd X33.here hx rfl (hb hby d4_60) rfl ?_
          show Steps p.tables e below (T33.setTop (mkF m 61 #[.val (.ref a), .val (.long q1), .second, .val (.ref b28), .val (.int (2 : Int32)), .val (.int (0 : Int32)), .val (.int (0 : Int32))] [(.int (0 : Int32)), (.ref b28)])) _
          refine XS.aloadN X33.here hx rfl (hb hby d4_61) rfl rfl ?_
          show Steps p.tables e below (T33.setTop (mkF m 62 #[.val (.ref a), .val (.long q1), .second, .val (.ref b28), .val (.int (2 : Int32)), .val (.int (0 : Int32)), .val (.int (0 : Int32))] [(.ref a), (.int (0 : Int32)), (.ref b28)])) _
          refine XS.iload X33.here hx rfl (hb hby d4_62) rfl ?_
          show Steps p.tables e below (T33.setTop (mkF m 64 #[.val (.ref a), .val (.long q1), .second, .val (.ref b28), .val (.int (2 : Int32)), .val (.int (0 : Int32)), .val (.int (0 : Int32))] [(.int (0 : Int32)), (.ref a), (.int (0 : Int32)), (.ref b28)])) _
          refine XS.iload X33.here hx rfl (hb hby d4_64) rfl ?_
          show Steps p.tables e below (T33.setTop (mkF m 66 #[.val (.ref a), .val (.long q1), .second, .val (.ref b28), .val (.int (2 : Int32)), .val (.int (0 : Int32)), .val (.int (0 : Int32))] [(.int (2 : Int32)), (.int (0 : Int32)), (.ref a), (.int (0 : Int32)), (.ref b28)])) _
          refine XS.iadd X33.here hx rfl (hb hby d4_66) rfl ?_
          show Steps p.tables e below (T33.setTop (mkF m 67 #[.val (.ref a), .val (.long q1), .second, .val (.ref b28), .val (.int (2 : Int32)), .val (.int (0 : Int32)), .val (.int (0 : Int32))] [(.int (2 : Int32)), (.ref a), (.int (0 : Int32)), (.ref b28)])) _
          refine XS.iconst X33.here hx rfl (hb hby d4_67) ?_
          show Steps p.tables e below (T33.setTop (mkF m 68 #[.val (.ref a), .val (.long q1), .second, .val (.ref b28), .val (.int (2 : Int32)), .val (.int (0 : Int32)), .val (.int (0 : Int32))] [(.int (1 : Int32)), (.int (2 : Int32)), (.ref a), (.int (0 : Int32)), (.ref b28)])) _
          refine XS.isub X33.here hx rfl (hb hby d4_68) rfl ?_
          show Steps p.tables e below (T33.setTop (mkF m 69 #[.val (.ref a), .val (.long q1), .second, .val (.ref b28), .val (.int (2 : Int32)), .val (.int (0 : Int32)), .val (.int (0 : Int32))] [(.int (1 : Int32)), (.ref a), (.int (0 : Int32)), (.ref b28)])) _
          refine XS.iload X33.here hx rfl (hb hby d4_69) rfl ?_
          show Steps p.tables e below (T33.setTop (mkF m 71 #[.val (.ref a), .val (.long q1), .second, .val (.ref b28), .val (.int (2 : Int32)), .val (.int (0 : Int32)), .val (.int (0 : Int32))] [(.int (0 : Int32)), (.int (1 : Int32)), (.ref a), (.int (0 : Int32)), (.ref b28)])) _
          refine XS.isub X33.here hx rfl (hb hby d4_71) rfl ?_
          exact kz
        obtain ⟨cl35, Ar35, -, S35, M35, H35, -⟩ := id Av
        have hin35 : ¬ ((1 : Int32) < 0 ∨ cl35.slots.size ≤ ((1 : Int32)).toNatClampNeg) := inb_of S35 ⟨by decide, by decide⟩
        have hat35 : cl35.slots[((1 : Int32)).toNatClampNeg]? = some (.int x1) := H35.at hin35 rfl
        refine own_go (A := T33.setTop (mkF m 73 #[.val (.ref a), .val (.long q1), .second, .val (.ref b28), .val (.int (2 : Int32)), .val (.int (0 : Int32)), .val (.int (0 : Int32))] [(.int x1), (.int (0 : Int32)), (.ref b28)])) (fun _ kz => ?_) ?_
        · refine X33.baloadBytes hx (j := (1 : Int32)) (v := (.int x1)) (e33 ▸ Ar35.1) (State.isArrayOf_alike hZ.alike Ar35.2.1) Ar35.2.2 hin35 hat35 (g := (mkF m 72 #[.val (.ref a), .val (.long q1), .second, .val (.ref b28), .val (.int (2 : Int32)), .val (.int (0 : Int32)), .val (.int (0 : Int32))] [(.int (1 : Int32)), (.ref a), (.int (0 : Int32)), (.ref b28)])) rfl rfl (hb hby d4_72) _ ?_
          exact kz
        obtain ⟨cl36, Ar36, q36, S36, M36, H36, G36⟩ := id Av_b28
        have hin36 : ¬ ((0 : Int32) < 0 ∨ cl36.slots.size ≤ ((0 : Int32)).toNatClampNeg) := inb_of S36 ⟨by decide, by decide⟩
        obtain ⟨T36, h36, X36, e36, W36, st36⟩ := stB X33 hx hZ e33 Ar36 (j := (0 : Int32)) hin36 (g := (mkF m 73 #[.val (.ref a), .val (.long q1), .second, .val (.ref b28), .val (.int (2 : Int32)), .val (.int (0 : Int32)), .val (.int (0 : Int32))] [(.int x1), (.int (0 : Int32)), (.ref b28)])) rfl rfl (hb hby d4_73)
        have Aw36 := Arv.set Ar36 q36 S36 M36 H36 G36 (fits_nar_byte _) W36 0 rfl (Nat.le_of_ble_eq_true rfl)
        replace S_l := S_l.wr W36
        replace Ex := Ex.wr W36
        replace Av := Av.other W36 ne_a_b28
        replace Ex_b28 := Ex_b28.wr W36
        have Z36 : n0 ≤ h36.size := Nat.le_trans Z28 (Keep.of_wr W36).1
        have Kp36 : Keep h0 h36 [] := Kp28.wr W36 (Or.inr szk_b28)
        have Av_b28 : Arv Z h36 b28 kc .byte (3 : Int32) [(.int x1.toInt8.toInt32), (.int x1), (.int x2)] (.int (0 : Int32)) := Aw36
        have N36 := Fr.snoc X36 N33 g_b28
        refine own_go (A := T36.setTop (mkF m 74 #[.val (.ref a), .val (.long q1), .second, .val (.ref b28), .val (.int (2 : Int32)), .val (.int (0 : Int32)), .val (.int (0 : Int32))] [])) (fun _ kz => st36 _ kz) ?_
        refine own_go (A := T36.setTop (mkF m 72 #[.val (.ref a), .val (.long q1), .second, .val (.ref b28), .val (.int (2 : Int32)), .val (.int (0 : Int32)), .val (.int (1 : Int32))] [(.int (0 : Int32)), (.ref a), (.int (1 : Int32)), (.ref b28)])) (fun _ kz => ?_) ?_
        · show Steps p.tables e below (T36.setTop (mkF m 74 #[.val (.ref a), .val (.long q1), .second, .val (.ref b28), .val (.int (2 : Int32)), .val (.int (0 : Int32)), .val (.int (0 : Int32))] [])) _
          refine XS.iinc X36.here hx rfl (hb hby d4_74) rfl (l' := #[.val (.ref a), .val (.long q1), .second, .val (.ref b28), .val (.int (2 : Int32)), .val (.int (0 : Int32)), .val (.int (1 : Int32))]) rfl ?_
          show Steps p.tables e below (T36.setTop (mkF m 77 #[.val (.ref a), .val (.long q1), .second, .val (.ref b28), .val (.int (2 : Int32)), .val (.int (0 : Int32)), .val (.int (1 : Int32))] [])) _
          refine XS.goto X36.here hx rfl (pc0 := 77) (pc' := 48) rfl (hb hby d4_77) (by decide) (by decide) ?_
          show Steps p.tables e below (T36.setTop (mkF m 48 #[.val (.ref a), .val (.long q1), .second, .val (.ref b28), .val (.int (2 : Int32)), .val (.int (0 : Int32)), .val (.int (1 : Int32))] [])) _
          refine XS.iload X36.here hx rfl (hb hby d4_48) rfl ?_
          show Steps p.tables e below (T36.setTop (mkF m 50 #[.val (.ref a), .val (.long q1), .second, .val (.ref b28), .val (.int (2 : Int32)), .val (.int (0 : Int32)), .val (.int (1 : Int32))] [(.int (1 : Int32))])) _
          refine XS.iload X36.here hx rfl (hb hby d4_50) rfl ?_
          show Steps p.tables e below (T36.setTop (mkF m 52 #[.val (.ref a), .val (.long q1), .second, .val (.ref b28), .val (.int (2 : Int32)), .val (.int (0 : Int32)), .val (.int (1 : Int32))] [(.int (2 : Int32)), (.int (1 : Int32))])) _
          refine XS.icmpNo X36.here hx rfl (hb hby d4_52) rfl (tlt (by decide : ((1 : Int32) < (2 : Int32)))).2.1 ?_
          show Steps p.tables e below (T36.setTop (mkF m 55 #[.val (.ref a), .val (.long q1), .second, .val (.ref b28), .val (.int (2 : Int32)), .val (.int (0 : Int32)), .val (.int (1 : Int32))] [])) _
          refine XS.aloadN X36.here hx rfl (hb hby d4_55) rfl rfl ?_
          show Steps p.tables e below (T36.setTop (mkF m 56 #[.val (.ref a), .val (.long q1), .second, .val (.ref b28), .val (.int (2 : Int32)), .val (.int (0 : Int32)), .val (.int (1 : Int32))] [(.ref b28)])) _
          refine XS.iload X36.here hx rfl (hb hby d4_56) rfl ?_
          show Steps p.tables e below (T36.setTop (mkF m 58 #[.val (.ref a), .val (.long q1), .second, .val (.ref b28), .val (.int (2 : Int32)), .val (.int (0 : Int32)), .val (.int (1 : Int32))] [(.int (0 : Int32)), (.ref b28)])) _
          refine XS.iload X36.here hx rfl (hb hby d4_58) rfl ?_
          show Steps p.tables e below (T36.setTop (mkF m 60 #[.val (.ref a), .val (.long q1), .second, .val (.ref b28), .val (.int (2 : Int32)), .val (.int (0 : Int32)), .val (.int (1 : Int32))] [(.int (1 : Int32)), (.int (0 : Int32)), (.ref b28)])) _
          refine XS.iadd X36.here hx rfl (hb hby d4_60) rfl ?_
          show Steps p.tables e below (T36.setTop (mkF m 61 #[.val (.ref a), .val (.long q1), .second, .val (.ref b28), .val (.int (2 : Int32)), .val (.int (0 : Int32)), .val (.int (1 : Int32))] [(.int (1 : Int32)), (.ref b28)])) _
          refine XS.aloadN X36.here hx rfl (hb hby d4_61) rfl rfl ?_
          show Steps p.tables e below (T36.setTop (mkF m 62 #[.val (.ref a), .val (.long q1), .second, .val (.ref b28), .val (.int (2 : Int32)), .val (.int (0 : Int32)), .val (.int (1 : Int32))] [(.ref a), (.int (1 : Int32)), (.ref b28)])) _
          refine XS.iload X36.here hx rfl (hb hby d4_62) rfl ?_
          show Steps p.tables e below (T36.setTop (mkF m 64 #[.val (.ref a), .val (.long q1), .second, .val (.ref b28), .val (.int (2 : Int32)), .val (.int (0 : Int32)), .val (.int (1 : Int32))] [(.int (0 : Int32)), (.ref a), (.int (1 : Int32)), (.ref b28)])) _
          refine XS.iload X36.here hx rfl (hb hby d4_64) rfl ?_
          show Steps p.tables e below (T36.setTop (mkF m 66 #[.val (.ref a), .val (.long q1), .second, .val (.ref b28), .val (.int (2 : Int32)), .val (.int (0 : Int32)), .val (.int (1 : Int32))] [(.int (2 : Int32)), (.int (0 : Int32)), (.ref a), (.int (1 : Int32)), (.ref b28)])) _
          refine XS.iadd X36.here hx rfl (hb hby d4_66) rfl ?_
          show Steps p.tables e below (T36.setTop (mkF m 67 #[.val (.ref a), .val (.long q1), .second, .val (.ref b28), .val (.int (2 : Int32)), .val (.int (0 : Int32)), .val (.int (1 : Int32))] [(.int (2 : Int32)), (.ref a), (.int (1 : Int32)), (.ref b28)])) _
          refine XS.iconst X36.here hx rfl (hb hby d4_67) ?_
          show Steps p.tables e below (T36.setTop (mkF m 68 #[.val (.ref a), .val (.long q1), .second, .val (.ref b28), .val (.int (2 : Int32)), .val (.int (0 : Int32)), .val (.int (1 : Int32))] [(.int (1 : Int32)), (.int (2 : Int32)), (.ref a), (.int (1 : Int32)), (.ref b28)])) _
          refine XS.isub X36.here hx rfl (hb hby d4_68) rfl ?_
          show Steps p.tables e below (T36.setTop (mkF m 69 #[.val (.ref a), .val (.long q1), .second, .val (.ref b28), .val (.int (2 : Int32)), .val (.int (0 : Int32)), .val (.int (1 : Int32))] [(.int (1 : Int32)), (.ref a), (.int (1 : Int32)), (.ref b28)])) _
          refine XS.iload X36.here hx rfl (hb hby d4_69) rfl ?_
          show Steps p.tables e below (T36.setTop (mkF m 71 #[.val (.ref a), .val (.long q1), .second, .val (.ref b28), .val (.int (2 : Int32)), .val (.int (0 : Int32)), .val (.int (1 : Int32))] [(.int (1 : Int32)), (.int (1 : Int32)), (.ref a), (.int (1 : Int32)), (.ref b28)])) _
          refine XS.isub X36.here hx rfl (hb hby d4_71) rfl ?_
          exact kz
        obtain ⟨cl37, Ar37, -, S37, M37, H37, -⟩ := id Av
        have hin37 : ¬ ((0 : Int32) < 0 ∨ cl37.slots.size ≤ ((0 : Int32)).toNatClampNeg) := inb_of S37 ⟨by decide, by decide⟩
        have hat37 : cl37.slots[((0 : Int32)).toNatClampNeg]? = some (.int x0) := H37.at hin37 rfl
        refine own_go (A := T36.setTop (mkF m 73 #[.val (.ref a), .val (.long q1), .second, .val (.ref b28), .val (.int (2 : Int32)), .val (.int (0 : Int32)), .val (.int (1 : Int32))] [(.int x0), (.int (1 : Int32)), (.ref b28)])) (fun _ kz => ?_) ?_
        · refine X36.baloadBytes hx (j := (0 : Int32)) (v := (.int x0)) (e36 ▸ Ar37.1) (State.isArrayOf_alike hZ.alike Ar37.2.1) Ar37.2.2 hin37 hat37 (g := (mkF m 72 #[.val (.ref a), .val (.long q1), .second, .val (.ref b28), .val (.int (2 : Int32)), .val (.int (0 : Int32)), .val (.int (1 : Int32))] [(.int (0 : Int32)), (.ref a), (.int (1 : Int32)), (.ref b28)])) rfl rfl (hb hby d4_72) _ ?_
          exact kz
        obtain ⟨cl38, Ar38, q38, S38, M38, H38, G38⟩ := id Av_b28
        have hin38 : ¬ ((1 : Int32) < 0 ∨ cl38.slots.size ≤ ((1 : Int32)).toNatClampNeg) := inb_of S38 ⟨by decide, by decide⟩
        obtain ⟨T38, h38, X38, e38, W38, st38⟩ := stB X36 hx hZ e36 Ar38 (j := (1 : Int32)) hin38 (g := (mkF m 73 #[.val (.ref a), .val (.long q1), .second, .val (.ref b28), .val (.int (2 : Int32)), .val (.int (0 : Int32)), .val (.int (1 : Int32))] [(.int x0), (.int (1 : Int32)), (.ref b28)])) rfl rfl (hb hby d4_73)
        have Aw38 := Arv.set Ar38 q38 S38 M38 H38 G38 (fits_nar_byte _) W38 1 rfl (Nat.le_of_ble_eq_true rfl)
        replace S_l := S_l.wr W38
        replace Ex := Ex.wr W38
        replace Av := Av.other W38 ne_a_b28
        replace Ex_b28 := Ex_b28.wr W38
        have Z38 : n0 ≤ h38.size := Nat.le_trans Z36 (Keep.of_wr W38).1
        have Kp38 : Keep h0 h38 [] := Kp36.wr W38 (Or.inr szk_b28)
        have Av_b28 : Arv Z h38 b28 kc .byte (3 : Int32) [(.int x1.toInt8.toInt32), (.int x0.toInt8.toInt32), (.int x2)] (.int (0 : Int32)) := Aw38
        have N38 := Fr.snoc X38 N36 g_b28
        refine own_go (A := T38.setTop (mkF m 74 #[.val (.ref a), .val (.long q1), .second, .val (.ref b28), .val (.int (2 : Int32)), .val (.int (0 : Int32)), .val (.int (1 : Int32))] [])) (fun _ kz => st38 _ kz) ?_
        refine own_go (A := T38.setTop (mkF m 41 #[.val (.ref a), .val (.long q1), .second, .val (.ref b28), .val (.int (2 : Int32)), .val (.int (2 : Int32)), .val (.int (2 : Int32))] [(.ref a), (.int (4 : Int32))])) (fun _ kz => ?_) ?_
        · show Steps p.tables e below (T38.setTop (mkF m 74 #[.val (.ref a), .val (.long q1), .second, .val (.ref b28), .val (.int (2 : Int32)), .val (.int (0 : Int32)), .val (.int (1 : Int32))] [])) _
          refine XS.iinc X38.here hx rfl (hb hby d4_74) rfl (l' := #[.val (.ref a), .val (.long q1), .second, .val (.ref b28), .val (.int (2 : Int32)), .val (.int (0 : Int32)), .val (.int (2 : Int32))]) rfl ?_
          show Steps p.tables e below (T38.setTop (mkF m 77 #[.val (.ref a), .val (.long q1), .second, .val (.ref b28), .val (.int (2 : Int32)), .val (.int (0 : Int32)), .val (.int (2 : Int32))] [])) _
          refine XS.goto X38.here hx rfl (pc0 := 77) (pc' := 48) rfl (hb hby d4_77) (by decide) (by decide) ?_
          show Steps p.tables e below (T38.setTop (mkF m 48 #[.val (.ref a), .val (.long q1), .second, .val (.ref b28), .val (.int (2 : Int32)), .val (.int (0 : Int32)), .val (.int (2 : Int32))] [])) _
          refine XS.iload X38.here hx rfl (hb hby d4_48) rfl ?_
          show Steps p.tables e below (T38.setTop (mkF m 50 #[.val (.ref a), .val (.long q1), .second, .val (.ref b28), .val (.int (2 : Int32)), .val (.int (0 : Int32)), .val (.int (2 : Int32))] [(.int (2 : Int32))])) _
          refine XS.iload X38.here hx rfl (hb hby d4_50) rfl ?_
          show Steps p.tables e below (T38.setTop (mkF m 52 #[.val (.ref a), .val (.long q1), .second, .val (.ref b28), .val (.int (2 : Int32)), .val (.int (0 : Int32)), .val (.int (2 : Int32))] [(.int (2 : Int32)), (.int (2 : Int32))])) _
          refine XS.icmpYes X38.here hx rfl (pc0 := 52) (pc' := 80) rfl (hb hby d4_52) rfl (flt (by decide : ¬ ((2 : Int32) < (2 : Int32)))).2.1 (by decide) (by decide) ?_
          show Steps p.tables e below (T38.setTop (mkF m 80 #[.val (.ref a), .val (.long q1), .second, .val (.ref b28), .val (.int (2 : Int32)), .val (.int (0 : Int32)), .val (.int (2 : Int32))] [])) _
          refine XS.iload X38.here hx rfl (hb hby d4_80) rfl ?_
          show Steps p.tables e below (T38.setTop (mkF m 82 #[.val (.ref a), .val (.long q1), .second, .val (.ref b28), .val (.int (2 : Int32)), .val (.int (0 : Int32)), .val (.int (2 : Int32))] [(.int (0 : Int32))])) _
          refine XS.iload X38.here hx rfl (hb hby d4_82) rfl ?_
          show Steps p.tables e below (T38.setTop (mkF m 84 #[.val (.ref a), .val (.long q1), .second, .val (.ref b28), .val (.int (2 : Int32)), .val (.int (0 : Int32)), .val (.int (2 : Int32))] [(.int (2 : Int32)), (.int (0 : Int32))])) _
          refine XS.iadd X38.here hx rfl (hb hby d4_84) rfl ?_
          show Steps p.tables e below (T38.setTop (mkF m 85 #[.val (.ref a), .val (.long q1), .second, .val (.ref b28), .val (.int (2 : Int32)), .val (.int (0 : Int32)), .val (.int (2 : Int32))] [(.int (2 : Int32))])) _
          refine XS.istore X38.here hx rfl (hb hby d4_85) rfl (l' := #[.val (.ref a), .val (.long q1), .second, .val (.ref b28), .val (.int (2 : Int32)), .val (.int (2 : Int32)), .val (.int (2 : Int32))]) rfl ?_
          show Steps p.tables e below (T38.setTop (mkF m 87 #[.val (.ref a), .val (.long q1), .second, .val (.ref b28), .val (.int (2 : Int32)), .val (.int (2 : Int32)), .val (.int (2 : Int32))] [])) _
          refine XS.goto X38.here hx rfl (pc0 := 87) (pc' := 35) rfl (hb hby d4_87) (by decide) (by decide) ?_
          show Steps p.tables e below (T38.setTop (mkF m 35 #[.val (.ref a), .val (.long q1), .second, .val (.ref b28), .val (.int (2 : Int32)), .val (.int (2 : Int32)), .val (.int (2 : Int32))] [])) _
          refine XS.iload X38.here hx rfl (hb hby d4_35) rfl ?_
          show Steps p.tables e below (T38.setTop (mkF m 37 #[.val (.ref a), .val (.long q1), .second, .val (.ref b28), .val (.int (2 : Int32)), .val (.int (2 : Int32)), .val (.int (2 : Int32))] [(.int (2 : Int32))])) _
          refine XS.iload X38.here hx rfl (hb hby d4_37) rfl ?_
          show Steps p.tables e below (T38.setTop (mkF m 39 #[.val (.ref a), .val (.long q1), .second, .val (.ref b28), .val (.int (2 : Int32)), .val (.int (2 : Int32)), .val (.int (2 : Int32))] [(.int (2 : Int32)), (.int (2 : Int32))])) _
          refine XS.iadd X38.here hx rfl (hb hby d4_39) rfl ?_
          show Steps p.tables e below (T38.setTop (mkF m 40 #[.val (.ref a), .val (.long q1), .second, .val (.ref b28), .val (.int (2 : Int32)), .val (.int (2 : Int32)), .val (.int (2 : Int32))] [(.int (4 : Int32))])) _
          refine XS.aloadN X38.here hx rfl (hb hby d4_40) rfl rfl ?_
          exact kz
        obtain ⟨cl39, Ar39, -, S39, M39, -, -⟩ := id Av
        refine own_go (A := T38.setTop (mkF m 42 #[.val (.ref a), .val (.long q1), .second, .val (.ref b28), .val (.int (2 : Int32)), .val (.int (2 : Int32)), .val (.int (2 : Int32))] [(.int (3 : Int32)), (.int (4 : Int32))])) (fun _ kz => ?_) ?_
        · refine X38.arraylength hx (e38 ▸ Ar39.1) (State.isArrayOf_alike hZ.alike Ar39.2.1) (g := (mkF m 41 #[.val (.ref a), .val (.long q1), .second, .val (.ref b28), .val (.int (2 : Int32)), .val (.int (2 : Int32)), .val (.int (2 : Int32))] [(.ref a), (.int (4 : Int32))])) rfl rfl (hb hby d4_41) _ ?_
          rw [len_of S39 M39]
          exact kz
        refine own_go (A := T38.setTop (mkF m 91 #[.val (.ref a), .val (.long q1), .second, .val (.ref b28), .val (.int (2 : Int32)), .val (.int (2 : Int32)), .val (.int (2 : Int32))] [(.ref b28)])) (fun _ kz => ?_) ?_
        · show Steps p.tables e below (T38.setTop (mkF m 42 #[.val (.ref a), .val (.long q1), .second, .val (.ref b28), .val (.int (2 : Int32)), .val (.int (2 : Int32)), .val (.int (2 : Int32))] [(.int (3 : Int32)), (.int (4 : Int32))])) _
          refine XS.icmpYes X38.here hx rfl (pc0 := 42) (pc' := 90) rfl (hb hby d4_42) rfl (tlt (by decide : ((3 : Int32) < (4 : Int32)))).2.2.1 (by decide) (by decide) ?_
          show Steps p.tables e below (T38.setTop (mkF m 90 #[.val (.ref a), .val (.long q1), .second, .val (.ref b28), .val (.int (2 : Int32)), .val (.int (2 : Int32)), .val (.int (2 : Int32))] [])) _
          refine XS.aloadN X38.here hx rfl (hb hby d4_90) rfl rfl ?_
          exact kz
        obtain ⟨fs, hrr, hrun, hended, hW, hsame⟩ := X38.leave (v := some (.ref b28)) (fun h => by rw [Bd.returns] at h; cases h)
        refine ⟨_, _, ?_, hrun, hended, _, _, rfl, ?_, ⟨_, rfl⟩, hW, hsame.mono (by decide) (by decide)⟩
        · show Steps p.tables e below (T38.setTop (mkF m 91 #[.val (.ref a), .val (.long q1), .second, .val (.ref b28), .val (.int (2 : Int32)), .val (.int (2 : Int32)), .val (.int (2 : Int32))] [(.ref b28)])) _
          exact retOut X38 hx (t := (.array .byte)) Bd.returns rfl (Or.inr (Or.inr (Or.inr (Or.inr ⟨rfl, rfl, rfl⟩)))) (hb hby d4_91) hrr
        · show QrmHost Z (3 : Int32) h0 n0 _ T38.heap _
          rw [e38]
          exact ⟨b28, rfl, N38, szk_b28, Kp38, ⟨kc, x1.toInt8.toInt32, x0.toInt8.toInt32, x2, Av_b28⟩, Ex_b28⟩
      · skip
        refine own_go (A := T33.setTop (mkF m 41 #[.val (.ref a), .val (.long q1), .second, .val (.ref b28), .val (.int (3 : Int32)), .val (.int (0 : Int32)), .unset] [(.ref a), (.int (3 : Int32))])) (fun _ kz => ?_) ?_
        · show Steps p.tables e below (T33.setTop (mkF m 32 #[.val (.ref a), .val (.long q1), .second, .val (.ref b28), .val (.int (3 : Int32)), .unset, .unset] [])) _
          refine XS.iconst X33.here hx rfl (hb hby d4_32) ?_
          show Steps p.tables e below (T33.setTop (mkF m 33 #[.val (.ref a), .val (.long q1), .second, .val (.ref b28), .val (.int (3 : Int32)), .unset, .unset] [(.int (0 : Int32))])) _
          refine XS.istore X33.here hx rfl (hb hby d4_33) rfl (l' := #[.val (.ref a), .val (.long q1), .second, .val (.ref b28), .val (.int (3 : Int32)), .val (.int (0 : Int32)), .unset]) rfl ?_
          show Steps p.tables e below (T33.setTop (mkF m 35 #[.val (.ref a), .val (.long q1), .second, .val (.ref b28), .val (.int (3 : Int32)), .val (.int (0 : Int32)), .unset] [])) _
          refine XS.iload X33.here hx rfl (hb hby d4_35) rfl ?_
          show Steps p.tables e below (T33.setTop (mkF m 37 #[.val (.ref a), .val (.long q1), .second, .val (.ref b28), .val (.int (3 : Int32)), .val (.int (0 : Int32)), .unset] [(.int (0 : Int32))])) _
          refine XS.iload X33.here hx rfl (hb hby d4_37) rfl ?_
          show Steps p.tables e below (T33.setTop (mkF m 39 #[.val (.ref a), .val (.long q1), .second, .val (.ref b28), .val (.int (3 : Int32)), .val (.int (0 : Int32)), .unset] [(.int (3 : Int32)), (.int (0 : Int32))])) _
          refine XS.iadd X33.here hx rfl (hb hby d4_39) rfl ?_
          show Steps p.tables e below (T33.setTop (mkF m 40 #[.val (.ref a), .val (.long q1), .second, .val (.ref b28), .val (.int (3 : Int32)), .val (.int (0 : Int32)), .unset] [(.int (3 : Int32))])) _
          refine XS.aloadN X33.here hx rfl (hb hby d4_40) rfl rfl ?_
          exact kz
        obtain ⟨cl40, Ar40, -, S40, M40, -, -⟩ := id Av
        refine own_go (A := T33.setTop (mkF m 42 #[.val (.ref a), .val (.long q1), .second, .val (.ref b28), .val (.int (3 : Int32)), .val (.int (0 : Int32)), .unset] [(.int (3 : Int32)), (.int (3 : Int32))])) (fun _ kz => ?_) ?_
        · refine X33.arraylength hx (e33 ▸ Ar40.1) (State.isArrayOf_alike hZ.alike Ar40.2.1) (g := (mkF m 41 #[.val (.ref a), .val (.long q1), .second, .val (.ref b28), .val (.int (3 : Int32)), .val (.int (0 : Int32)), .unset] [(.ref a), (.int (3 : Int32))])) rfl rfl (hb hby d4_41) _ ?_
          rw [len_of S40 M40]
          exact kz
        refine own_go (A := T33.setTop (mkF m 72 #[.val (.ref a), .val (.long q1), .second, .val (.ref b28), .val (.int (3 : Int32)), .val (.int (0 : Int32)), .val (.int (0 : Int32))] [(.int (2 : Int32)), (.ref a), (.int (0 : Int32)), (.ref b28)])) (fun _ kz => ?_) ?_
        · show Steps p.tables e below (T33.setTop (mkF m 42 #[.val (.ref a), .val (.long q1), .second, .val (.ref b28), .val (.int (3 : Int32)), .val (.int (0 : Int32)), .unset] [(.int (3 : Int32)), (.int (3 : Int32))])) _
          refine XS.icmpNo X33.here hx rfl (hb hby d4_42) rfl (flt (by decide : ¬ ((3 : Int32) < (3 : Int32)))).2.2.1 ?_
          show Steps p.tables e below (T33.setTop (mkF m 45 #[.val (.ref a), .val (.long q1), .second, .val (.ref b28), .val (.int (3 : Int32)), .val (.int (0 : Int32)), .unset] [])) _
          refine XS.iconst X33.here hx rfl (hb hby d4_45) ?_
          show Steps p.tables e below (T33.setTop (mkF m 46 #[.val (.ref a), .val (.long q1), .second, .val (.ref b28), .val (.int (3 : Int32)), .val (.int (0 : Int32)), .unset] [(.int (0 : Int32))])) _
          refine XS.istore X33.here hx rfl (hb hby d4_46) rfl (l' := #[.val (.ref a), .val (.long q1), .second, .val (.ref b28), .val (.int (3 : Int32)), .val (.int (0 : Int32)), .val (.int (0 : Int32))]) rfl ?_
          show Steps p.tables e below (T33.setTop (mkF m 48 #[.val (.ref a), .val (.long q1), .second, .val (.ref b28), .val (.int (3 : Int32)), .val (.int (0 : Int32)), .val (.int (0 : Int32))] [])) _
          refine XS.iload X33.here hx rfl (hb hby d4_48) rfl ?_
          show Steps p.tables e below (T33.setTop (mkF m 50 #[.val (.ref a), .val (.long q1), .second, .val (.ref b28), .val (.int (3 : Int32)), .val (.int (0 : Int32)), .val (.int (0 : Int32))] [(.int (0 : Int32))])) _
          refine XS.iload X33.here hx rfl (hb hby d4_50) rfl ?_
          show Steps p.tables e below (T33.setTop (mkF m 52 #[.val (.ref a), .val (.long q1), .second, .val (.ref b28), .val (.int (3 : Int32)), .val (.int (0 : Int32)), .val (.int (0 : Int32))] [(.int (3 : Int32)), (.int (0 : Int32))])) _
          refine XS.icmpNo X33.here hx rfl (hb hby d4_52) rfl (tlt (by decide : ((0 : Int32) < (3 : Int32)))).2.1 ?_
          show Steps p.tables e below (T33.setTop (mkF m 55 #[.val (.ref a), .val (.long q1), .second, .val (.ref b28), .val (.int (3 : Int32)), .val (.int (0 : Int32)), .val (.int (0 : Int32))] [])) _
          refine XS.aloadN X33.here hx rfl (hb hby d4_55) rfl rfl ?_
          show Steps p.tables e below (T33.setTop (mkF m 56 #[.val (.ref a), .val (.long q1), .second, .val (.ref b28), .val (.int (3 : Int32)), .val (.int (0 : Int32)), .val (.int (0 : Int32))] [(.ref b28)])) _
          refine XS.iload X33.here hx rfl (hb hby d4_56) rfl ?_
          show Steps p.tables e below (T33.setTop (mkF m 58 #[.val (.ref a), .val (.long q1), .second, .val (.ref b28), .val (.int (3 : Int32)), .val (.int (0 : Int32)), .val (.int (0 : Int32))] [(.int (0 : Int32)), (.ref b28)])) _
          refine XS.iload X33.here hx rfl (hb hby d4_58) rfl ?_
          show Steps p.tables e below (T33.setTop (mkF m 60 #[.val (.ref a), .val (.long q1), .second, .val (.ref b28), .val (.int (3 : Int32)), .val (.int (0 : Int32)), .val (.int (0 : Int32))] [(.int (0 : Int32)), (.int (0 : Int32)), (.ref b28)])) _
          refine XS.iadd X33.here hx rfl (hb hby d4_60) rfl ?_
          show Steps p.tables e below (T33.setTop (mkF m 61 #[.val (.ref a), .val (.long q1), .second, .val (.ref b28), .val (.int (3 : Int32)), .val (.int (0 : Int32)), .val (.int (0 : Int32))] [(.int (0 : Int32)), (.ref b28)])) _
          refine XS.aloadN X33.here hx rfl (hb hby d4_61) rfl rfl ?_
          show Steps p.tables e below (T33.setTop (mkF m 62 #[.val (.ref a), .val (.long q1), .second, .val (.ref b28), .val (.int (3 : Int32)), .val (.int (0 : Int32)), .val (.int (0 : Int32))] [(.ref a), (.int (0 : Int32)), (.ref b28)])) _
          refine XS.iload X33.here hx rfl (hb hby d4_62) rfl ?_
          show Steps p.tables e below (T33.setTop (mkF m 64 #[.val (.ref a), .val (.long q1), .second, .val (.ref b28), .val (.int (3 : Int32)), .val (.int (0 : Int32)), .val (.int (0 : Int32))] [(.int (0 : Int32)), (.ref a), (.int (0 : Int32)), (.ref b28)])) _
          refine XS.iload X33.here hx rfl (hb hby d4_64) rfl ?_
          show Steps p.tables e below (T33.setTop (mkF m 66 #[.val (.ref a), .val (.long q1), .second, .val (.ref b28), .val (.int (3 : Int32)), .val (.int (0 : Int32)), .val (.int (0 : Int32))] [(.int (3 : Int32)), (.int (0 : Int32)), (.ref a), (.int (0 : Int32)), (.ref b28)])) _
          refine XS.iadd X33.here hx rfl (hb hby d4_66) rfl ?_
          show Steps p.tables e below (T33.setTop (mkF m 67 #[.val (.ref a), .val (.long q1), .second, .val (.ref b28), .val (.int (3 : Int32)), .val (.int (0 : Int32)), .val (.int (0 : Int32))] [(.int (3 : Int32)), (.ref a), (.int (0 : Int32)), (.ref b28)])) _
          refine XS.iconst X33.here hx rfl (hb hby d4_67) ?_
          show Steps p.tables e below (T33.setTop (mkF m 68 #[.val (.ref a), .val (.long q1), .second, .val (.ref b28), .val (.int (3 : Int32)), .val (.int (0 : Int32)), .val (.int (0 : Int32))] [(.int (1 : Int32)), (.int (3 : Int32)), (.ref a), (.int (0 : Int32)), (.ref b28)])) _
          refine XS.isub X33.here hx rfl (hb hby d4_68) rfl ?_
          show Steps p.tables e below (T33.setTop (mkF m 69 #[.val (.ref a), .val (.long q1), .second, .val (.ref b28), .val (.int (3 : Int32)), .val (.int (0 : Int32)), .val (.int (0 : Int32))] [(.int (2 : Int32)), (.ref a), (.int (0 : Int32)), (.ref b28)])) _
          refine XS.iload X33.here hx rfl (hb hby d4_69) rfl ?_
          show Steps p.tables e below (T33.setTop (mkF m 71 #[.val (.ref a), .val (.long q1), .second, .val (.ref b28), .val (.int (3 : Int32)), .val (.int (0 : Int32)), .val (.int (0 : Int32))] [(.int (0 : Int32)), (.int (2 : Int32)), (.ref a), (.int (0 : Int32)), (.ref b28)])) _
          refine XS.isub X33.here hx rfl (hb hby d4_71) rfl ?_
          exact kz
        obtain ⟨cl41, Ar41, -, S41, M41, H41, -⟩ := id Av
        have hin41 : ¬ ((2 : Int32) < 0 ∨ cl41.slots.size ≤ ((2 : Int32)).toNatClampNeg) := inb_of S41 ⟨by decide, by decide⟩
        have hat41 : cl41.slots[((2 : Int32)).toNatClampNeg]? = some (.int x2) := H41.at hin41 rfl
        refine own_go (A := T33.setTop (mkF m 73 #[.val (.ref a), .val (.long q1), .second, .val (.ref b28), .val (.int (3 : Int32)), .val (.int (0 : Int32)), .val (.int (0 : Int32))] [(.int x2), (.int (0 : Int32)), (.ref b28)])) (fun _ kz => ?_) ?_
        · refine X33.baloadBytes hx (j := (2 : Int32)) (v := (.int x2)) (e33 ▸ Ar41.1) (State.isArrayOf_alike hZ.alike Ar41.2.1) Ar41.2.2 hin41 hat41 (g := (mkF m 72 #[.val (.ref a), .val (.long q1), .second, .val (.ref b28), .val (.int (3 : Int32)), .val (.int (0 : Int32)), .val (.int (0 : Int32))] [(.int (2 : Int32)), (.ref a), (.int (0 : Int32)), (.ref b28)])) rfl rfl (hb hby d4_72) _ ?_
          exact kz
        obtain ⟨cl42, Ar42, q42, S42, M42, H42, G42⟩ := id Av_b28
        have hin42 : ¬ ((0 : Int32) < 0 ∨ cl42.slots.size ≤ ((0 : Int32)).toNatClampNeg) := inb_of S42 ⟨by decide, by decide⟩
        obtain ⟨T42, h42, X42, e42, W42, st42⟩ := stB X33 hx hZ e33 Ar42 (j := (0 : Int32)) hin42 (g := (mkF m 73 #[.val (.ref a), .val (.long q1), .second, .val (.ref b28), .val (.int (3 : Int32)), .val (.int (0 : Int32)), .val (.int (0 : Int32))] [(.int x2), (.int (0 : Int32)), (.ref b28)])) rfl rfl (hb hby d4_73)
        have Aw42 := Arv.set Ar42 q42 S42 M42 H42 G42 (fits_nar_byte _) W42 0 rfl (Nat.le_of_ble_eq_true rfl)
        replace S_l := S_l.wr W42
        replace Ex := Ex.wr W42
        replace Av := Av.other W42 ne_a_b28
        replace Ex_b28 := Ex_b28.wr W42
        have Z42 : n0 ≤ h42.size := Nat.le_trans Z28 (Keep.of_wr W42).1
        have Kp42 : Keep h0 h42 [] := Kp28.wr W42 (Or.inr szk_b28)
        have Av_b28 : Arv Z h42 b28 kc .byte (3 : Int32) [(.int x2.toInt8.toInt32), (.int x1), (.int x2)] (.int (0 : Int32)) := Aw42
        have N42 := Fr.snoc X42 N33 g_b28
        refine own_go (A := T42.setTop (mkF m 74 #[.val (.ref a), .val (.long q1), .second, .val (.ref b28), .val (.int (3 : Int32)), .val (.int (0 : Int32)), .val (.int (0 : Int32))] [])) (fun _ kz => st42 _ kz) ?_
        refine own_go (A := T42.setTop (mkF m 72 #[.val (.ref a), .val (.long q1), .second, .val (.ref b28), .val (.int (3 : Int32)), .val (.int (0 : Int32)), .val (.int (1 : Int32))] [(.int (1 : Int32)), (.ref a), (.int (1 : Int32)), (.ref b28)])) (fun _ kz => ?_) ?_
        · show Steps p.tables e below (T42.setTop (mkF m 74 #[.val (.ref a), .val (.long q1), .second, .val (.ref b28), .val (.int (3 : Int32)), .val (.int (0 : Int32)), .val (.int (0 : Int32))] [])) _
          refine XS.iinc X42.here hx rfl (hb hby d4_74) rfl (l' := #[.val (.ref a), .val (.long q1), .second, .val (.ref b28), .val (.int (3 : Int32)), .val (.int (0 : Int32)), .val (.int (1 : Int32))]) rfl ?_
          show Steps p.tables e below (T42.setTop (mkF m 77 #[.val (.ref a), .val (.long q1), .second, .val (.ref b28), .val (.int (3 : Int32)), .val (.int (0 : Int32)), .val (.int (1 : Int32))] [])) _
          refine XS.goto X42.here hx rfl (pc0 := 77) (pc' := 48) rfl (hb hby d4_77) (by decide) (by decide) ?_
          show Steps p.tables e below (T42.setTop (mkF m 48 #[.val (.ref a), .val (.long q1), .second, .val (.ref b28), .val (.int (3 : Int32)), .val (.int (0 : Int32)), .val (.int (1 : Int32))] [])) _
          refine XS.iload X42.here hx rfl (hb hby d4_48) rfl ?_
          show Steps p.tables e below (T42.setTop (mkF m 50 #[.val (.ref a), .val (.long q1), .second, .val (.ref b28), .val (.int (3 : Int32)), .val (.int (0 : Int32)), .val (.int (1 : Int32))] [(.int (1 : Int32))])) _
          refine XS.iload X42.here hx rfl (hb hby d4_50) rfl ?_
          show Steps p.tables e below (T42.setTop (mkF m 52 #[.val (.ref a), .val (.long q1), .second, .val (.ref b28), .val (.int (3 : Int32)), .val (.int (0 : Int32)), .val (.int (1 : Int32))] [(.int (3 : Int32)), (.int (1 : Int32))])) _
          refine XS.icmpNo X42.here hx rfl (hb hby d4_52) rfl (tlt (by decide : ((1 : Int32) < (3 : Int32)))).2.1 ?_
          show Steps p.tables e below (T42.setTop (mkF m 55 #[.val (.ref a), .val (.long q1), .second, .val (.ref b28), .val (.int (3 : Int32)), .val (.int (0 : Int32)), .val (.int (1 : Int32))] [])) _
          refine XS.aloadN X42.here hx rfl (hb hby d4_55) rfl rfl ?_
          show Steps p.tables e below (T42.setTop (mkF m 56 #[.val (.ref a), .val (.long q1), .second, .val (.ref b28), .val (.int (3 : Int32)), .val (.int (0 : Int32)), .val (.int (1 : Int32))] [(.ref b28)])) _
          refine XS.iload X42.here hx rfl (hb hby d4_56) rfl ?_
          show Steps p.tables e below (T42.setTop (mkF m 58 #[.val (.ref a), .val (.long q1), .second, .val (.ref b28), .val (.int (3 : Int32)), .val (.int (0 : Int32)), .val (.int (1 : Int32))] [(.int (0 : Int32)), (.ref b28)])) _
          refine XS.iload X42.here hx rfl (hb hby d4_58) rfl ?_
          show Steps p.tables e below (T42.setTop (mkF m 60 #[.val (.ref a), .val (.long q1), .second, .val (.ref b28), .val (.int (3 : Int32)), .val (.int (0 : Int32)), .val (.int (1 : Int32))] [(.int (1 : Int32)), (.int (0 : Int32)), (.ref b28)])) _
          refine XS.iadd X42.here hx rfl (hb hby d4_60) rfl ?_
          show Steps p.tables e below (T42.setTop (mkF m 61 #[.val (.ref a), .val (.long q1), .second, .val (.ref b28), .val (.int (3 : Int32)), .val (.int (0 : Int32)), .val (.int (1 : Int32))] [(.int (1 : Int32)), (.ref b28)])) _
          refine XS.aloadN X42.here hx rfl (hb hby d4_61) rfl rfl ?_
          show Steps p.tables e below (T42.setTop (mkF m 62 #[.val (.ref a), .val (.long q1), .second, .val (.ref b28), .val (.int (3 : Int32)), .val (.int (0 : Int32)), .val (.int (1 : Int32))] [(.ref a), (.int (1 : Int32)), (.ref b28)])) _
          refine XS.iload X42.here hx rfl (hb hby d4_62) rfl ?_
          show Steps p.tables e below (T42.setTop (mkF m 64 #[.val (.ref a), .val (.long q1), .second, .val (.ref b28), .val (.int (3 : Int32)), .val (.int (0 : Int32)), .val (.int (1 : Int32))] [(.int (0 : Int32)), (.ref a), (.int (1 : Int32)), (.ref b28)])) _
          refine XS.iload X42.here hx rfl (hb hby d4_64) rfl ?_
          show Steps p.tables e below (T42.setTop (mkF m 66 #[.val (.ref a), .val (.long q1), .second, .val (.ref b28), .val (.int (3 : Int32)), .val (.int (0 : Int32)), .val (.int (1 : Int32))] [(.int (3 : Int32)), (.int (0 : Int32)), (.ref a), (.int (1 : Int32)), (.ref b28)])) _
          refine XS.iadd X42.here hx rfl (hb hby d4_66) rfl ?_
          show Steps p.tables e below (T42.setTop (mkF m 67 #[.val (.ref a), .val (.long q1), .second, .val (.ref b28), .val (.int (3 : Int32)), .val (.int (0 : Int32)), .val (.int (1 : Int32))] [(.int (3 : Int32)), (.ref a), (.int (1 : Int32)), (.ref b28)])) _
          refine XS.iconst X42.here hx rfl (hb hby d4_67) ?_
          show Steps p.tables e below (T42.setTop (mkF m 68 #[.val (.ref a), .val (.long q1), .second, .val (.ref b28), .val (.int (3 : Int32)), .val (.int (0 : Int32)), .val (.int (1 : Int32))] [(.int (1 : Int32)), (.int (3 : Int32)), (.ref a), (.int (1 : Int32)), (.ref b28)])) _
          refine XS.isub X42.here hx rfl (hb hby d4_68) rfl ?_
          show Steps p.tables e below (T42.setTop (mkF m 69 #[.val (.ref a), .val (.long q1), .second, .val (.ref b28), .val (.int (3 : Int32)), .val (.int (0 : Int32)), .val (.int (1 : Int32))] [(.int (2 : Int32)), (.ref a), (.int (1 : Int32)), (.ref b28)])) _
          refine XS.iload X42.here hx rfl (hb hby d4_69) rfl ?_
          show Steps p.tables e below (T42.setTop (mkF m 71 #[.val (.ref a), .val (.long q1), .second, .val (.ref b28), .val (.int (3 : Int32)), .val (.int (0 : Int32)), .val (.int (1 : Int32))] [(.int (1 : Int32)), (.int (2 : Int32)), (.ref a), (.int (1 : Int32)), (.ref b28)])) _
          refine XS.isub X42.here hx rfl (hb hby d4_71) rfl ?_
          exact kz
        obtain ⟨cl43, Ar43, -, S43, M43, H43, -⟩ := id Av
        have hin43 : ¬ ((1 : Int32) < 0 ∨ cl43.slots.size ≤ ((1 : Int32)).toNatClampNeg) := inb_of S43 ⟨by decide, by decide⟩
        have hat43 : cl43.slots[((1 : Int32)).toNatClampNeg]? = some (.int x1) := H43.at hin43 rfl
        refine own_go (A := T42.setTop (mkF m 73 #[.val (.ref a), .val (.long q1), .second, .val (.ref b28), .val (.int (3 : Int32)), .val (.int (0 : Int32)), .val (.int (1 : Int32))] [(.int x1), (.int (1 : Int32)), (.ref b28)])) (fun _ kz => ?_) ?_
        · refine X42.baloadBytes hx (j := (1 : Int32)) (v := (.int x1)) (e42 ▸ Ar43.1) (State.isArrayOf_alike hZ.alike Ar43.2.1) Ar43.2.2 hin43 hat43 (g := (mkF m 72 #[.val (.ref a), .val (.long q1), .second, .val (.ref b28), .val (.int (3 : Int32)), .val (.int (0 : Int32)), .val (.int (1 : Int32))] [(.int (1 : Int32)), (.ref a), (.int (1 : Int32)), (.ref b28)])) rfl rfl (hb hby d4_72) _ ?_
          exact kz
        obtain ⟨cl44, Ar44, q44, S44, M44, H44, G44⟩ := id Av_b28
        have hin44 : ¬ ((1 : Int32) < 0 ∨ cl44.slots.size ≤ ((1 : Int32)).toNatClampNeg) := inb_of S44 ⟨by decide, by decide⟩
        obtain ⟨T44, h44, X44, e44, W44, st44⟩ := stB X42 hx hZ e42 Ar44 (j := (1 : Int32)) hin44 (g := (mkF m 73 #[.val (.ref a), .val (.long q1), .second, .val (.ref b28), .val (.int (3 : Int32)), .val (.int (0 : Int32)), .val (.int (1 : Int32))] [(.int x1), (.int (1 : Int32)), (.ref b28)])) rfl rfl (hb hby d4_73)
        have Aw44 := Arv.set Ar44 q44 S44 M44 H44 G44 (fits_nar_byte _) W44 1 rfl (Nat.le_of_ble_eq_true rfl)
        replace S_l := S_l.wr W44
        replace Ex := Ex.wr W44
        replace Av := Av.other W44 ne_a_b28
        replace Ex_b28 := Ex_b28.wr W44
        have Z44 : n0 ≤ h44.size := Nat.le_trans Z42 (Keep.of_wr W44).1
        have Kp44 : Keep h0 h44 [] := Kp42.wr W44 (Or.inr szk_b28)
        have Av_b28 : Arv Z h44 b28 kc .byte (3 : Int32) [(.int x2.toInt8.toInt32), (.int x1.toInt8.toInt32), (.int x2)] (.int (0 : Int32)) := Aw44
        have N44 := Fr.snoc X44 N42 g_b28
        refine own_go (A := T44.setTop (mkF m 74 #[.val (.ref a), .val (.long q1), .second, .val (.ref b28), .val (.int (3 : Int32)), .val (.int (0 : Int32)), .val (.int (1 : Int32))] [])) (fun _ kz => st44 _ kz) ?_
        refine own_go (A := T44.setTop (mkF m 72 #[.val (.ref a), .val (.long q1), .second, .val (.ref b28), .val (.int (3 : Int32)), .val (.int (0 : Int32)), .val (.int (2 : Int32))] [(.int (0 : Int32)), (.ref a), (.int (2 : Int32)), (.ref b28)])) (fun _ kz => ?_) ?_
        · show Steps p.tables e below (T44.setTop (mkF m 74 #[.val (.ref a), .val (.long q1), .second, .val (.ref b28), .val (.int (3 : Int32)), .val (.int (0 : Int32)), .val (.int (1 : Int32))] [])) _
          refine XS.iinc X44.here hx rfl (hb hby d4_74) rfl (l' := #[.val (.ref a), .val (.long q1), .second, .val (.ref b28), .val (.int (3 : Int32)), .val (.int (0 : Int32)), .val (.int (2 : Int32))]) rfl ?_
          show Steps p.tables e below (T44.setTop (mkF m 77 #[.val (.ref a), .val (.long q1), .second, .val (.ref b28), .val (.int (3 : Int32)), .val (.int (0 : Int32)), .val (.int (2 : Int32))] [])) _
          refine XS.goto X44.here hx rfl (pc0 := 77) (pc' := 48) rfl (hb hby d4_77) (by decide) (by decide) ?_
          show Steps p.tables e below (T44.setTop (mkF m 48 #[.val (.ref a), .val (.long q1), .second, .val (.ref b28), .val (.int (3 : Int32)), .val (.int (0 : Int32)), .val (.int (2 : Int32))] [])) _
          refine XS.iload X44.here hx rfl (hb hby d4_48) rfl ?_
          show Steps p.tables e below (T44.setTop (mkF m 50 #[.val (.ref a), .val (.long q1), .second, .val (.ref b28), .val (.int (3 : Int32)), .val (.int (0 : Int32)), .val (.int (2 : Int32))] [(.int (2 : Int32))])) _
          refine XS.iload X44.here hx rfl (hb hby d4_50) rfl ?_
          show Steps p.tables e below (T44.setTop (mkF m 52 #[.val (.ref a), .val (.long q1), .second, .val (.ref b28), .val (.int (3 : Int32)), .val (.int (0 : Int32)), .val (.int (2 : Int32))] [(.int (3 : Int32)), (.int (2 : Int32))])) _
          refine XS.icmpNo X44.here hx rfl (hb hby d4_52) rfl (tlt (by decide : ((2 : Int32) < (3 : Int32)))).2.1 ?_
          show Steps p.tables e below (T44.setTop (mkF m 55 #[.val (.ref a), .val (.long q1), .second, .val (.ref b28), .val (.int (3 : Int32)), .val (.int (0 : Int32)), .val (.int (2 : Int32))] [])) _
          refine XS.aloadN X44.here hx rfl (hb hby d4_55) rfl rfl ?_
          show Steps p.tables e below (T44.setTop (mkF m 56 #[.val (.ref a), .val (.long q1), .second, .val (.ref b28), .val (.int (3 : Int32)), .val (.int (0 : Int32)), .val (.int (2 : Int32))] [(.ref b28)])) _
          refine XS.iload X44.here hx rfl (hb hby d4_56) rfl ?_
          show Steps p.tables e below (T44.setTop (mkF m 58 #[.val (.ref a), .val (.long q1), .second, .val (.ref b28), .val (.int (3 : Int32)), .val (.int (0 : Int32)), .val (.int (2 : Int32))] [(.int (0 : Int32)), (.ref b28)])) _
          refine XS.iload X44.here hx rfl (hb hby d4_58) rfl ?_
          show Steps p.tables e below (T44.setTop (mkF m 60 #[.val (.ref a), .val (.long q1), .second, .val (.ref b28), .val (.int (3 : Int32)), .val (.int (0 : Int32)), .val (.int (2 : Int32))] [(.int (2 : Int32)), (.int (0 : Int32)), (.ref b28)])) _
          refine XS.iadd X44.here hx rfl (hb hby d4_60) rfl ?_
          show Steps p.tables e below (T44.setTop (mkF m 61 #[.val (.ref a), .val (.long q1), .second, .val (.ref b28), .val (.int (3 : Int32)), .val (.int (0 : Int32)), .val (.int (2 : Int32))] [(.int (2 : Int32)), (.ref b28)])) _
          refine XS.aloadN X44.here hx rfl (hb hby d4_61) rfl rfl ?_
          show Steps p.tables e below (T44.setTop (mkF m 62 #[.val (.ref a), .val (.long q1), .second, .val (.ref b28), .val (.int (3 : Int32)), .val (.int (0 : Int32)), .val (.int (2 : Int32))] [(.ref a), (.int (2 : Int32)), (.ref b28)])) _
          refine XS.iload X44.here hx rfl (hb hby d4_62) rfl ?_
          show Steps p.tables e below (T44.setTop (mkF m 64 #[.val (.ref a), .val (.long q1), .second, .val (.ref b28), .val (.int (3 : Int32)), .val (.int (0 : Int32)), .val (.int (2 : Int32))] [(.int (0 : Int32)), (.ref a), (.int (2 : Int32)), (.ref b28)])) _
          refine XS.iload X44.here hx rfl (hb hby d4_64) rfl ?_
          show Steps p.tables e below (T44.setTop (mkF m 66 #[.val (.ref a), .val (.long q1), .second, .val (.ref b28), .val (.int (3 : Int32)), .val (.int (0 : Int32)), .val (.int (2 : Int32))] [(.int (3 : Int32)), (.int (0 : Int32)), (.ref a), (.int (2 : Int32)), (.ref b28)])) _
          refine XS.iadd X44.here hx rfl (hb hby d4_66) rfl ?_
          show Steps p.tables e below (T44.setTop (mkF m 67 #[.val (.ref a), .val (.long q1), .second, .val (.ref b28), .val (.int (3 : Int32)), .val (.int (0 : Int32)), .val (.int (2 : Int32))] [(.int (3 : Int32)), (.ref a), (.int (2 : Int32)), (.ref b28)])) _
          refine XS.iconst X44.here hx rfl (hb hby d4_67) ?_
          show Steps p.tables e below (T44.setTop (mkF m 68 #[.val (.ref a), .val (.long q1), .second, .val (.ref b28), .val (.int (3 : Int32)), .val (.int (0 : Int32)), .val (.int (2 : Int32))] [(.int (1 : Int32)), (.int (3 : Int32)), (.ref a), (.int (2 : Int32)), (.ref b28)])) _
          refine XS.isub X44.here hx rfl (hb hby d4_68) rfl ?_
          show Steps p.tables e below (T44.setTop (mkF m 69 #[.val (.ref a), .val (.long q1), .second, .val (.ref b28), .val (.int (3 : Int32)), .val (.int (0 : Int32)), .val (.int (2 : Int32))] [(.int (2 : Int32)), (.ref a), (.int (2 : Int32)), (.ref b28)])) _
          refine XS.iload X44.here hx rfl (hb hby d4_69) rfl ?_
          show Steps p.tables e below (T44.setTop (mkF m 71 #[.val (.ref a), .val (.long q1), .second, .val (.ref b28), .val (.int (3 : Int32)), .val (.int (0 : Int32)), .val (.int (2 : Int32))] [(.int (2 : Int32)), (.int (2 : Int32)), (.ref a), (.int (2 : Int32)), (.ref b28)])) _
          refine XS.isub X44.here hx rfl (hb hby d4_71) rfl ?_
          exact kz
        obtain ⟨cl45, Ar45, -, S45, M45, H45, -⟩ := id Av
        have hin45 : ¬ ((0 : Int32) < 0 ∨ cl45.slots.size ≤ ((0 : Int32)).toNatClampNeg) := inb_of S45 ⟨by decide, by decide⟩
        have hat45 : cl45.slots[((0 : Int32)).toNatClampNeg]? = some (.int x0) := H45.at hin45 rfl
        refine own_go (A := T44.setTop (mkF m 73 #[.val (.ref a), .val (.long q1), .second, .val (.ref b28), .val (.int (3 : Int32)), .val (.int (0 : Int32)), .val (.int (2 : Int32))] [(.int x0), (.int (2 : Int32)), (.ref b28)])) (fun _ kz => ?_) ?_
        · refine X44.baloadBytes hx (j := (0 : Int32)) (v := (.int x0)) (e44 ▸ Ar45.1) (State.isArrayOf_alike hZ.alike Ar45.2.1) Ar45.2.2 hin45 hat45 (g := (mkF m 72 #[.val (.ref a), .val (.long q1), .second, .val (.ref b28), .val (.int (3 : Int32)), .val (.int (0 : Int32)), .val (.int (2 : Int32))] [(.int (0 : Int32)), (.ref a), (.int (2 : Int32)), (.ref b28)])) rfl rfl (hb hby d4_72) _ ?_
          exact kz
        obtain ⟨cl46, Ar46, q46, S46, M46, H46, G46⟩ := id Av_b28
        have hin46 : ¬ ((2 : Int32) < 0 ∨ cl46.slots.size ≤ ((2 : Int32)).toNatClampNeg) := inb_of S46 ⟨by decide, by decide⟩
        obtain ⟨T46, h46, X46, e46, W46, st46⟩ := stB X44 hx hZ e44 Ar46 (j := (2 : Int32)) hin46 (g := (mkF m 73 #[.val (.ref a), .val (.long q1), .second, .val (.ref b28), .val (.int (3 : Int32)), .val (.int (0 : Int32)), .val (.int (2 : Int32))] [(.int x0), (.int (2 : Int32)), (.ref b28)])) rfl rfl (hb hby d4_73)
        have Aw46 := Arv.set Ar46 q46 S46 M46 H46 G46 (fits_nar_byte _) W46 2 rfl (Nat.le_of_ble_eq_true rfl)
        replace S_l := S_l.wr W46
        replace Ex := Ex.wr W46
        replace Av := Av.other W46 ne_a_b28
        replace Ex_b28 := Ex_b28.wr W46
        have Z46 : n0 ≤ h46.size := Nat.le_trans Z44 (Keep.of_wr W46).1
        have Kp46 : Keep h0 h46 [] := Kp44.wr W46 (Or.inr szk_b28)
        have Av_b28 : Arv Z h46 b28 kc .byte (3 : Int32) [(.int x2.toInt8.toInt32), (.int x1.toInt8.toInt32), (.int x0.toInt8.toInt32)] (.int (0 : Int32)) := Aw46
        have N46 := Fr.snoc X46 N44 g_b28
        refine own_go (A := T46.setTop (mkF m 74 #[.val (.ref a), .val (.long q1), .second, .val (.ref b28), .val (.int (3 : Int32)), .val (.int (0 : Int32)), .val (.int (2 : Int32))] [])) (fun _ kz => st46 _ kz) ?_
        refine own_go (A := T46.setTop (mkF m 41 #[.val (.ref a), .val (.long q1), .second, .val (.ref b28), .val (.int (3 : Int32)), .val (.int (3 : Int32)), .val (.int (3 : Int32))] [(.ref a), (.int (6 : Int32))])) (fun _ kz => ?_) ?_
        · show Steps p.tables e below (T46.setTop (mkF m 74 #[.val (.ref a), .val (.long q1), .second, .val (.ref b28), .val (.int (3 : Int32)), .val (.int (0 : Int32)), .val (.int (2 : Int32))] [])) _
          refine XS.iinc X46.here hx rfl (hb hby d4_74) rfl (l' := #[.val (.ref a), .val (.long q1), .second, .val (.ref b28), .val (.int (3 : Int32)), .val (.int (0 : Int32)), .val (.int (3 : Int32))]) rfl ?_
          show Steps p.tables e below (T46.setTop (mkF m 77 #[.val (.ref a), .val (.long q1), .second, .val (.ref b28), .val (.int (3 : Int32)), .val (.int (0 : Int32)), .val (.int (3 : Int32))] [])) _
          refine XS.goto X46.here hx rfl (pc0 := 77) (pc' := 48) rfl (hb hby d4_77) (by decide) (by decide) ?_
          show Steps p.tables e below (T46.setTop (mkF m 48 #[.val (.ref a), .val (.long q1), .second, .val (.ref b28), .val (.int (3 : Int32)), .val (.int (0 : Int32)), .val (.int (3 : Int32))] [])) _
          refine XS.iload X46.here hx rfl (hb hby d4_48) rfl ?_
          show Steps p.tables e below (T46.setTop (mkF m 50 #[.val (.ref a), .val (.long q1), .second, .val (.ref b28), .val (.int (3 : Int32)), .val (.int (0 : Int32)), .val (.int (3 : Int32))] [(.int (3 : Int32))])) _
          refine XS.iload X46.here hx rfl (hb hby d4_50) rfl ?_
          show Steps p.tables e below (T46.setTop (mkF m 52 #[.val (.ref a), .val (.long q1), .second, .val (.ref b28), .val (.int (3 : Int32)), .val (.int (0 : Int32)), .val (.int (3 : Int32))] [(.int (3 : Int32)), (.int (3 : Int32))])) _
          refine XS.icmpYes X46.here hx rfl (pc0 := 52) (pc' := 80) rfl (hb hby d4_52) rfl (flt (by decide : ¬ ((3 : Int32) < (3 : Int32)))).2.1 (by decide) (by decide) ?_
          show Steps p.tables e below (T46.setTop (mkF m 80 #[.val (.ref a), .val (.long q1), .second, .val (.ref b28), .val (.int (3 : Int32)), .val (.int (0 : Int32)), .val (.int (3 : Int32))] [])) _
          refine XS.iload X46.here hx rfl (hb hby d4_80) rfl ?_
          show Steps p.tables e below (T46.setTop (mkF m 82 #[.val (.ref a), .val (.long q1), .second, .val (.ref b28), .val (.int (3 : Int32)), .val (.int (0 : Int32)), .val (.int (3 : Int32))] [(.int (0 : Int32))])) _
          refine XS.iload X46.here hx rfl (hb hby d4_82) rfl ?_
          show Steps p.tables e below (T46.setTop (mkF m 84 #[.val (.ref a), .val (.long q1), .second, .val (.ref b28), .val (.int (3 : Int32)), .val (.int (0 : Int32)), .val (.int (3 : Int32))] [(.int (3 : Int32)), (.int (0 : Int32))])) _
          refine XS.iadd X46.here hx rfl (hb hby d4_84) rfl ?_
          show Steps p.tables e below (T46.setTop (mkF m 85 #[.val (.ref a), .val (.long q1), .second, .val (.ref b28), .val (.int (3 : Int32)), .val (.int (0 : Int32)), .val (.int (3 : Int32))] [(.int (3 : Int32))])) _
          refine XS.istore X46.here hx rfl (hb hby d4_85) rfl (l' := #[.val (.ref a), .val (.long q1), .second, .val (.ref b28), .val (.int (3 : Int32)), .val (.int (3 : Int32)), .val (.int (3 : Int32))]) rfl ?_
          show Steps p.tables e below (T46.setTop (mkF m 87 #[.val (.ref a), .val (.long q1), .second, .val (.ref b28), .val (.int (3 : Int32)), .val (.int (3 : Int32)), .val (.int (3 : Int32))] [])) _
          refine XS.goto X46.here hx rfl (pc0 := 87) (pc' := 35) rfl (hb hby d4_87) (by decide) (by decide) ?_
          show Steps p.tables e below (T46.setTop (mkF m 35 #[.val (.ref a), .val (.long q1), .second, .val (.ref b28), .val (.int (3 : Int32)), .val (.int (3 : Int32)), .val (.int (3 : Int32))] [])) _
          refine XS.iload X46.here hx rfl (hb hby d4_35) rfl ?_
          show Steps p.tables e below (T46.setTop (mkF m 37 #[.val (.ref a), .val (.long q1), .second, .val (.ref b28), .val (.int (3 : Int32)), .val (.int (3 : Int32)), .val (.int (3 : Int32))] [(.int (3 : Int32))])) _
          refine XS.iload X46.here hx rfl (hb hby d4_37) rfl ?_
          show Steps p.tables e below (T46.setTop (mkF m 39 #[.val (.ref a), .val (.long q1), .second, .val (.ref b28), .val (.int (3 : Int32)), .val (.int (3 : Int32)), .val (.int (3 : Int32))] [(.int (3 : Int32)), (.int (3 : Int32))])) _
          refine XS.iadd X46.here hx rfl (hb hby d4_39) rfl ?_
          show Steps p.tables e below (T46.setTop (mkF m 40 #[.val (.ref a), .val (.long q1), .second, .val (.ref b28), .val (.int (3 : Int32)), .val (.int (3 : Int32)), .val (.int (3 : Int32))] [(.int (6 : Int32))])) _
          refine XS.aloadN X46.here hx rfl (hb hby d4_40) rfl rfl ?_
          exact kz
        obtain ⟨cl47, Ar47, -, S47, M47, -, -⟩ := id Av
        refine own_go (A := T46.setTop (mkF m 42 #[.val (.ref a), .val (.long q1), .second, .val (.ref b28), .val (.int (3 : Int32)), .val (.int (3 : Int32)), .val (.int (3 : Int32))] [(.int (3 : Int32)), (.int (6 : Int32))])) (fun _ kz => ?_) ?_
        · refine X46.arraylength hx (e46 ▸ Ar47.1) (State.isArrayOf_alike hZ.alike Ar47.2.1) (g := (mkF m 41 #[.val (.ref a), .val (.long q1), .second, .val (.ref b28), .val (.int (3 : Int32)), .val (.int (3 : Int32)), .val (.int (3 : Int32))] [(.ref a), (.int (6 : Int32))])) rfl rfl (hb hby d4_41) _ ?_
          rw [len_of S47 M47]
          exact kz
        refine own_go (A := T46.setTop (mkF m 91 #[.val (.ref a), .val (.long q1), .second, .val (.ref b28), .val (.int (3 : Int32)), .val (.int (3 : Int32)), .val (.int (3 : Int32))] [(.ref b28)])) (fun _ kz => ?_) ?_
        · show Steps p.tables e below (T46.setTop (mkF m 42 #[.val (.ref a), .val (.long q1), .second, .val (.ref b28), .val (.int (3 : Int32)), .val (.int (3 : Int32)), .val (.int (3 : Int32))] [(.int (3 : Int32)), (.int (6 : Int32))])) _
          refine XS.icmpYes X46.here hx rfl (pc0 := 42) (pc' := 90) rfl (hb hby d4_42) rfl (tlt (by decide : ((3 : Int32) < (6 : Int32)))).2.2.1 (by decide) (by decide) ?_
          show Steps p.tables e below (T46.setTop (mkF m 90 #[.val (.ref a), .val (.long q1), .second, .val (.ref b28), .val (.int (3 : Int32)), .val (.int (3 : Int32)), .val (.int (3 : Int32))] [])) _
          refine XS.aloadN X46.here hx rfl (hb hby d4_90) rfl rfl ?_
          exact kz
        obtain ⟨fs, hrr, hrun, hended, hW, hsame⟩ := X46.leave (v := some (.ref b28)) (fun h => by rw [Bd.returns] at h; cases h)
        refine ⟨_, _, ?_, hrun, hended, _, _, rfl, ?_, ⟨_, rfl⟩, hW, hsame.mono (by decide) (by decide)⟩
        · show Steps p.tables e below (T46.setTop (mkF m 91 #[.val (.ref a), .val (.long q1), .second, .val (.ref b28), .val (.int (3 : Int32)), .val (.int (3 : Int32)), .val (.int (3 : Int32))] [(.ref b28)])) _
          exact retOut X46 hx (t := (.array .byte)) Bd.returns rfl (Or.inr (Or.inr (Or.inr (Or.inr ⟨rfl, rfl, rfl⟩)))) (hb hby d4_91) hrr
        · show QrmHost Z (3 : Int32) h0 n0 _ T46.heap _
          rw [e46]
          exact ⟨b28, rfl, N46, szk_b28, Kp46, ⟨kc, x2.toInt8.toInt32, x1.toInt8.toInt32, x0.toInt8.toInt32, Av_b28⟩, Ex_b28⟩
      · skip
        refine own_go (A := T33.setTop (mkF m 41 #[.val (.ref a), .val (.long q1), .second, .val (.ref b28), .val (.int (4 : Int32)), .val (.int (0 : Int32)), .unset] [(.ref a), (.int (4 : Int32))])) (fun _ kz => ?_) ?_
        · show Steps p.tables e below (T33.setTop (mkF m 32 #[.val (.ref a), .val (.long q1), .second, .val (.ref b28), .val (.int (4 : Int32)), .unset, .unset] [])) _
          refine XS.iconst X33.here hx rfl (hb hby d4_32) ?_
          show Steps p.tables e below (T33.setTop (mkF m 33 #[.val (.ref a), .val (.long q1), .second, .val (.ref b28), .val (.int (4 : Int32)), .unset, .unset] [(.int (0 : Int32))])) _
          refine XS.istore X33.here hx rfl (hb hby d4_33) rfl (l' := #[.val (.ref a), .val (.long q1), .second, .val (.ref b28), .val (.int (4 : Int32)), .val (.int (0 : Int32)), .unset]) rfl ?_
          show Steps p.tables e below (T33.setTop (mkF m 35 #[.val (.ref a), .val (.long q1), .second, .val (.ref b28), .val (.int (4 : Int32)), .val (.int (0 : Int32)), .unset] [])) _
          refine XS.iload X33.here hx rfl (hb hby d4_35) rfl ?_
          show Steps p.tables e below (T33.setTop (mkF m 37 #[.val (.ref a), .val (.long q1), .second, .val (.ref b28), .val (.int (4 : Int32)), .val (.int (0 : Int32)), .unset] [(.int (0 : Int32))])) _
          refine XS.iload X33.here hx rfl (hb hby d4_37) rfl ?_
          show Steps p.tables e below (T33.setTop (mkF m 39 #[.val (.ref a), .val (.long q1), .second, .val (.ref b28), .val (.int (4 : Int32)), .val (.int (0 : Int32)), .unset] [(.int (4 : Int32)), (.int (0 : Int32))])) _
          refine XS.iadd X33.here hx rfl (hb hby d4_39) rfl ?_
          show Steps p.tables e below (T33.setTop (mkF m 40 #[.val (.ref a), .val (.long q1), .second, .val (.ref b28), .val (.int (4 : Int32)), .val (.int (0 : Int32)), .unset] [(.int (4 : Int32))])) _
          refine XS.aloadN X33.here hx rfl (hb hby d4_40) rfl rfl ?_
          exact kz
        obtain ⟨cl48, Ar48, -, S48, M48, -, -⟩ := id Av
        refine own_go (A := T33.setTop (mkF m 42 #[.val (.ref a), .val (.long q1), .second, .val (.ref b28), .val (.int (4 : Int32)), .val (.int (0 : Int32)), .unset] [(.int (3 : Int32)), (.int (4 : Int32))])) (fun _ kz => ?_) ?_
        · refine X33.arraylength hx (e33 ▸ Ar48.1) (State.isArrayOf_alike hZ.alike Ar48.2.1) (g := (mkF m 41 #[.val (.ref a), .val (.long q1), .second, .val (.ref b28), .val (.int (4 : Int32)), .val (.int (0 : Int32)), .unset] [(.ref a), (.int (4 : Int32))])) rfl rfl (hb hby d4_41) _ ?_
          rw [len_of S48 M48]
          exact kz
        refine own_go (A := T33.setTop (mkF m 91 #[.val (.ref a), .val (.long q1), .second, .val (.ref b28), .val (.int (4 : Int32)), .val (.int (0 : Int32)), .unset] [(.ref b28)])) (fun _ kz => ?_) ?_
        · show Steps p.tables e below (T33.setTop (mkF m 42 #[.val (.ref a), .val (.long q1), .second, .val (.ref b28), .val (.int (4 : Int32)), .val (.int (0 : Int32)), .unset] [(.int (3 : Int32)), (.int (4 : Int32))])) _
          refine XS.icmpYes X33.here hx rfl (pc0 := 42) (pc' := 90) rfl (hb hby d4_42) rfl (tlt (by decide : ((3 : Int32) < (4 : Int32)))).2.2.1 (by decide) (by decide) ?_
          show Steps p.tables e below (T33.setTop (mkF m 90 #[.val (.ref a), .val (.long q1), .second, .val (.ref b28), .val (.int (4 : Int32)), .val (.int (0 : Int32)), .unset] [])) _
          refine XS.aloadN X33.here hx rfl (hb hby d4_90) rfl rfl ?_
          exact kz
        obtain ⟨fs, hrr, hrun, hended, hW, hsame⟩ := X33.leave (v := some (.ref b28)) (fun h => by rw [Bd.returns] at h; cases h)
        refine ⟨_, _, ?_, hrun, hended, _, _, rfl, ?_, ⟨_, rfl⟩, hW, hsame.mono (by decide) (by decide)⟩
        · show Steps p.tables e below (T33.setTop (mkF m 91 #[.val (.ref a), .val (.long q1), .second, .val (.ref b28), .val (.int (4 : Int32)), .val (.int (0 : Int32)), .unset] [(.ref b28)])) _
          exact retOut X33 hx (t := (.array .byte)) Bd.returns rfl (Or.inr (Or.inr (Or.inr (Or.inr ⟨rfl, rfl, rfl⟩)))) (hb hby d4_91) hrr
        · show QrmHost Z (3 : Int32) h0 n0 _ T33.heap _
          rw [e33]
          exact ⟨b28, rfl, N33, szk_b28, Kp28, ⟨kc, x0, x1, x2, Av_b28⟩, Ex_b28⟩
    · skip
      refine own_go (A := T30.setTop (mkF m 90 #[.val (.ref a), .val (.long q1), .second, .val (.ref b28), .unset, .unset, .unset] [])) (fun _ kz => ?_) ?_
      · show Steps p.tables e below (T30.setTop (mkF m 17 #[.val (.ref a), .val (.long q1), .second, .val (.ref b28), .unset, .unset, .unset] [(.int (lcmpW q1 (1 : Int64)))])) _
        refine XS.ifYes X30.here hx rfl (pc0 := 17) (pc' := 90) rfl (hb hby d4_17) rfl ((if0 _ _).trans (flt hs31).2.2.2) (by decide) (by decide) ?_
        exact kz
      refine own_go (A := T30.setTop (mkF m 91 #[.val (.ref a), .val (.long q1), .second, .val (.ref b28), .unset, .unset, .unset] [(.ref b28)])) (fun _ kz => ?_) ?_
      · show Steps p.tables e below (T30.setTop (mkF m 90 #[.val (.ref a), .val (.long q1), .second, .val (.ref b28), .unset, .unset, .unset] [])) _
        refine XS.aloadN X30.here hx rfl (hb hby d4_90) rfl rfl ?_
        exact kz
      obtain ⟨fs, hrr, hrun, hended, hW, hsame⟩ := X30.leave (v := some (.ref b28)) (fun h => by rw [Bd.returns] at h; cases h)
      refine ⟨_, _, ?_, hrun, hended, _, _, rfl, ?_, ⟨_, rfl⟩, hW, hsame.mono (by decide) (by decide)⟩
      · show Steps p.tables e below (T30.setTop (mkF m 91 #[.val (.ref a), .val (.long q1), .second, .val (.ref b28), .unset, .unset, .unset] [(.ref b28)])) _
        exact retOut X30 hx (t := (.array .byte)) Bd.returns rfl (Or.inr (Or.inr (Or.inr (Or.inr ⟨rfl, rfl, rfl⟩)))) (hb hby d4_91) hrr
      · show QrmHost Z (3 : Int32) h0 n0 _ T30.heap _
        rw [e30]
        exact ⟨b28, rfl, N0, szk_b28, Kp28, ⟨kc, x0, x1, x2, Av_b28⟩, Ex_b28⟩
theorem d5_0 : decode prog_23_method_3_code 0 = .ok (.aload_n 0, 1) := by decide +kernel
theorem d5_1 : decode prog_23_method_3_code 1 = .ok (.getfield 30, 3) := by decide +kernel
theorem d5_4 : decode prog_23_method_3_code 4 = .ok (.lconst 0, 1) := by decide +kernel
theorem d5_5 : decode prog_23_method_3_code 5 = .ok (.lcmp, 1) := by decide +kernel
theorem d5_6 : decode prog_23_method_3_code 6 = .ok (.ifCond .ne 7, 3) := by decide +kernel
theorem d5_9 : decode prog_23_method_3_code 9 = .ok (.lconst 0, 1) := by decide +kernel
theorem d5_10 : decode prog_23_method_3_code 10 = .ok (.goto 21, 3) := by decide +kernel
theorem d5_13 : decode prog_23_method_3_code 13 = .ok (.aload_n 0, 1) := by decide +kernel
theorem d5_14 : decode prog_23_method_3_code 14 = .ok (.getfield 15, 3) := by decide +kernel
theorem d5_17 : decode prog_23_method_3_code 17 = .ok (.aload_n 0, 1) := by decide +kernel
theorem d5_18 : decode prog_23_method_3_code 18 = .ok (.getfield 30, 3) := by decide +kernel
theorem d5_21 : decode prog_23_method_3_code 21 = .ok (.ladd, 1) := by decide +kernel
theorem d5_22 : decode prog_23_method_3_code 22 = .ok (.lconst 1, 1) := by decide +kernel
theorem d5_23 : decode prog_23_method_3_code 23 = .ok (.lsub, 1) := by decide +kernel
theorem d5_24 : decode prog_23_method_3_code 24 = .ok (.aload_n 0, 1) := by decide +kernel
theorem d5_25 : decode prog_23_method_3_code 25 = .ok (.getfield 23, 3) := by decide +kernel
theorem d5_28 : decode prog_23_method_3_code 28 = .ok (.arraylength, 1) := by decide +kernel
theorem d5_29 : decode prog_23_method_3_code 29 = .ok (.i2l, 1) := by decide +kernel
theorem d5_30 : decode prog_23_method_3_code 30 = .ok (.ladd, 1) := by decide +kernel
theorem d5_31 : decode prog_23_method_3_code 31 = .ok (.lreturn, 1) := by decide +kernel
theorem own_pn5 : plainName "com/example/sharp_nose/sharpnose/desktop/MagicRule" = true := by first | (simp [plainName, overriddenIn]; done) | decide +kernel
theorem own_ef5 (m : MethodId) (x0 : Addr) : entryFrame m #[(.ref x0)] 1 = mkF m 0 #[.val (.ref x0)] [] := by first | (simp [entryFrame, mkF, argsToLocals, Value.category]; done) | rfl
def QrmReach (Z : State) (qo : Int64) (qr : Int64) (n : Int32) (h0 : Heap) (n0 : Nat) (v : Option Value) (h : Heap) (L : List Loc) : Prop := v = some (.long (if lcmpW qr (0 : Int64) = (0 : Int32) then (0 : Int64) else (((qo + qr) - (1 : Int64)) + (n.toInt64)))) ∧ Fr n0 L ∧ h = h0
set_option maxRecDepth 65536 in
set_option maxHeartbeats 40000000 in
theorem rmReach (l : Launch) (Z : State) (a0 : Array Value) (hw : ∀ d ∈ tables_1, d.before a0 Z = true) (ws : List Jvm.Cond) (a b : Addr) (qo qr : Int64) (n : Int32) (h0 : Heap) (n0 : Nat) (Z0 : n0 ≤ h0.size) (Fo : Fld Z h0 a "com/example/sharp_nose/sharpnose/desktop/MagicRule" "offset" "J" (.long qo)) (Fr_ : Fld Z h0 a "com/example/sharp_nose/sharpnose/desktop/MagicRule" "range" "J" (.long qr)) (Fv : Fld Z h0 a "com/example/sharp_nose/sharpnose/desktop/MagicRule" "value" "[B" (.ref b)) (By : own_By Z h0 b n) :
    MetFree l (⟨"com/example/sharp_nose/sharpnose/desktop/MagicRule", "reach", "()J"⟩ : MethodName) (head1 (Jvm.Cond.code (⟨"com/example/sharp_nose/sharpnose/desktop/MagicRule", "reach", "()J"⟩ : MethodName) prog_23_method_3_code 1 (some .long) :: ws) ({ frames := 0, cells := 0, slots := 0, locals := 0 } : Room)) (fun ar_ U_ => ar_ = #[(.ref a)] ∧ Z.Warmed39 U_.vm ∧ U_.heap = h0) (fun _ _ _ _ _ => True) (fun _ U_ ou_ V_ => ∃ v_ L_, ou_ = .returned v_ ∧ QrmReach Z qo qr n h0 n0 v_ V_.heap L_ ∧ FrameEnd U_ ou_ V_ L_ ({ frames := 0, cells := 0, slots := 0, locals := 0 } : Room).cells ({ frames := 0, cells := 0, slots := 0, locals := 0 } : Room).slots) := by
  refine MetFree.of_bodySF (plainFor_of_name own_pn5) hisR ?_
  intro p e s m args below meth c s₁ Bd hml0 hP hK
  obtain ⟨rfl, hZ, hh⟩ := hP
  have hx := Bd.exec
  have hby := Bd.bytes
  have hml : c.maxLocals = 1 := hml0
  have hown : s.vm.findClass "com/example/sharp_nose/sharpnose/desktop/MagicRule" = some m.cls := findClass_of_methodNamed Bd.named
  have hnm := (name_of_methodNamed Bd.named Bd.method).1
  have X0 : Stand p l e ({ frames := 0, cells := 0, slots := 0, locals := 0 } : Room) s m #[(.ref a)] below meth c s₁ [] 0 0 := Stand.of_body Bd
  have e0 : s₁.heap = h0 := by rw [← hh, Bd.state]; rfl
  have N0 := Fr.nil n0
  refine own_go (A := s₁.setTop (mkF m 0 #[.val (.ref a)] [])) (fun t kz => castTop (own_ef5 m a) kz) ?_
  refine own_go (A := s₁.setTop (mkF m 1 #[.val (.ref a)] [(.ref a)])) (fun _ kz => ?_) ?_
  · show Steps p.tables e below (s₁.setTop (mkF m 0 #[.val (.ref a)] [])) _
    refine XS.aloadN X0.here hx rfl (hb hby d5_0) rfl rfl ?_
    exact kz
  obtain ⟨T1, X1, e1, st1⟩ := getF X0 hx hZ hown (host := "") (Or.inl (hw _ (List.mem_of_getElem? (i := 37) rfl))) Via.refl e0 Fr_ (g := (mkF m 1 #[.val (.ref a)] [(.ref a)])) rfl rfl (hb hby d5_1)
  refine own_go (A := T1.setTop (mkF m 4 #[.val (.ref a)] [(.long qr)])) (fun _ kz => st1 _ kz) ?_
  refine own_go (A := T1.setTop (mkF m 6 #[.val (.ref a)] [(.int (lcmpW qr (0 : Int64)))])) (fun _ kz => ?_) ?_
  · show Steps p.tables e below (T1.setTop (mkF m 4 #[.val (.ref a)] [(.long qr)])) _
    refine XS.lconst X1.here hx rfl (hb hby d5_4) ?_
    show Steps p.tables e below (T1.setTop (mkF m 5 #[.val (.ref a)] [(.long (0 : Int64)), (.long qr)])) _
    refine XS.lcmp X1.here hx rfl (hb hby d5_5) rfl ?_
    exact kz
  by_cases hs2 : (lcmpW qr (0 : Int64)) = (0 : Int32)
  · skip
    refine own_go (A := T1.setTop (mkF m 9 #[.val (.ref a)] [])) (fun _ kz => ?_) ?_
    · show Steps p.tables e below (T1.setTop (mkF m 6 #[.val (.ref a)] [(.int (lcmpW qr (0 : Int64)))])) _
      refine XS.ifNo X1.here hx rfl (hb hby d5_6) rfl ((if0 _ _).trans (teq hs2).2) ?_
      exact kz
    refine own_go (A := T1.setTop (mkF m 31 #[.val (.ref a)] [(.long (0 : Int64))])) (fun _ kz => ?_) ?_
    · show Steps p.tables e below (T1.setTop (mkF m 9 #[.val (.ref a)] [])) _
      refine XS.lconst X1.here hx rfl (hb hby d5_9) ?_
      show Steps p.tables e below (T1.setTop (mkF m 10 #[.val (.ref a)] [(.long (0 : Int64))])) _
      refine XS.goto X1.here hx rfl (pc0 := 10) (pc' := 31) rfl (hb hby d5_10) (by decide) (by decide) ?_
      exact kz
    obtain ⟨fs, hrr, hrun, hended, hW, hsame⟩ := X1.leave (v := some (.long (0 : Int64))) (fun h => by rw [Bd.returns] at h; cases h)
    refine ⟨_, _, ?_, hrun, hended, _, _, rfl, ?_, ⟨_, rfl⟩, hW, hsame.mono (by decide) (by decide)⟩
    · show Steps p.tables e below (T1.setTop (mkF m 31 #[.val (.ref a)] [(.long (0 : Int64))])) _
      exact retOut X1 hx (t := .long) Bd.returns rfl (Or.inr (Or.inl ⟨rfl, rfl, _, rfl⟩)) (hb hby d5_31) hrr
    · show QrmReach Z qo qr n h0 n0 _ T1.heap _
      rw [e1]
      exact ⟨by simp only [hs2, if_true, if_false], N0, rfl⟩
  · skip
    refine own_go (A := T1.setTop (mkF m 13 #[.val (.ref a)] [])) (fun _ kz => ?_) ?_
    · show Steps p.tables e below (T1.setTop (mkF m 6 #[.val (.ref a)] [(.int (lcmpW qr (0 : Int64)))])) _
      refine XS.ifYes X1.here hx rfl (pc0 := 6) (pc' := 13) rfl (hb hby d5_6) rfl ((if0 _ _).trans (feq hs2).2) (by decide) (by decide) ?_
      exact kz
    refine own_go (A := T1.setTop (mkF m 14 #[.val (.ref a)] [(.ref a)])) (fun _ kz => ?_) ?_
    · show Steps p.tables e below (T1.setTop (mkF m 13 #[.val (.ref a)] [])) _
      refine XS.aloadN X1.here hx rfl (hb hby d5_13) rfl rfl ?_
      exact kz
    obtain ⟨T3, X3, e3, st3⟩ := getF X1 hx hZ hown (host := "") (Or.inl (hw _ (List.mem_of_getElem? (i := 17) rfl))) Via.refl e1 Fo (g := (mkF m 14 #[.val (.ref a)] [(.ref a)])) rfl rfl (hb hby d5_14)
    refine own_go (A := T3.setTop (mkF m 17 #[.val (.ref a)] [(.long qo)])) (fun _ kz => st3 _ kz) ?_
    refine own_go (A := T3.setTop (mkF m 18 #[.val (.ref a)] [(.ref a), (.long qo)])) (fun _ kz => ?_) ?_
    · show Steps p.tables e below (T3.setTop (mkF m 17 #[.val (.ref a)] [(.long qo)])) _
      refine XS.aloadN X3.here hx rfl (hb hby d5_17) rfl rfl ?_
      exact kz
    obtain ⟨T4, X4, e4, st4⟩ := getF X3 hx hZ hown (host := "") (Or.inl (hw _ (List.mem_of_getElem? (i := 37) rfl))) Via.refl e3 Fr_ (g := (mkF m 18 #[.val (.ref a)] [(.ref a), (.long qo)])) rfl rfl (hb hby d5_18)
    refine own_go (A := T4.setTop (mkF m 21 #[.val (.ref a)] [(.long qr), (.long qo)])) (fun _ kz => st4 _ kz) ?_
    refine own_go (A := T4.setTop (mkF m 25 #[.val (.ref a)] [(.ref a), (.long ((qo + qr) - (1 : Int64)))])) (fun _ kz => ?_) ?_
    · show Steps p.tables e below (T4.setTop (mkF m 21 #[.val (.ref a)] [(.long qr), (.long qo)])) _
      refine XS.ladd X4.here hx rfl (hb hby d5_21) rfl ?_
      show Steps p.tables e below (T4.setTop (mkF m 22 #[.val (.ref a)] [(.long (qo + qr))])) _
      refine XS.lconst X4.here hx rfl (hb hby d5_22) ?_
      show Steps p.tables e below (T4.setTop (mkF m 23 #[.val (.ref a)] [(.long (1 : Int64)), (.long (qo + qr))])) _
      refine XS.lsub X4.here hx rfl (hb hby d5_23) rfl ?_
      show Steps p.tables e below (T4.setTop (mkF m 24 #[.val (.ref a)] [(.long ((qo + qr) - (1 : Int64)))])) _
      refine XS.aloadN X4.here hx rfl (hb hby d5_24) rfl rfl ?_
      exact kz
    obtain ⟨T5, X5, e5, st5⟩ := getF X4 hx hZ hown (host := "") (Or.inl (hw _ (List.mem_of_getElem? (i := 33) rfl))) Via.refl e4 Fv (g := (mkF m 25 #[.val (.ref a)] [(.ref a), (.long ((qo + qr) - (1 : Int64)))])) rfl rfl (hb hby d5_25)
    refine own_go (A := T5.setTop (mkF m 28 #[.val (.ref a)] [(.ref b), (.long ((qo + qr) - (1 : Int64)))])) (fun _ kz => st5 _ kz) ?_
    obtain ⟨kc6, xa6, xb6, xc6, Ab6⟩ := id By
    obtain ⟨cl6, Ar6, -, S6, M6, -, -⟩ := id Ab6
    refine own_go (A := T5.setTop (mkF m 29 #[.val (.ref a)] [(.int n), (.long ((qo + qr) - (1 : Int64)))])) (fun _ kz => ?_) ?_
    · refine X5.arraylength hx (e5 ▸ Ar6.1) (State.isArrayOf_alike hZ.alike Ar6.2.1) (g := (mkF m 28 #[.val (.ref a)] [(.ref b), (.long ((qo + qr) - (1 : Int64)))])) rfl rfl (hb hby d5_28) _ ?_
      rw [len_of S6 M6]
      exact kz
    refine own_go (A := T5.setTop (mkF m 31 #[.val (.ref a)] [(.long (((qo + qr) - (1 : Int64)) + (n.toInt64)))])) (fun _ kz => ?_) ?_
    · show Steps p.tables e below (T5.setTop (mkF m 29 #[.val (.ref a)] [(.int n), (.long ((qo + qr) - (1 : Int64)))])) _
      refine XS.i2l X5.here hx rfl (hb hby d5_29) rfl ?_
      show Steps p.tables e below (T5.setTop (mkF m 30 #[.val (.ref a)] [(.long (n.toInt64)), (.long ((qo + qr) - (1 : Int64)))])) _
      refine XS.ladd X5.here hx rfl (hb hby d5_30) rfl ?_
      exact kz
    obtain ⟨fs, hrr, hrun, hended, hW, hsame⟩ := X5.leave (v := some (.long (((qo + qr) - (1 : Int64)) + (n.toInt64)))) (fun h => by rw [Bd.returns] at h; cases h)
    refine ⟨_, _, ?_, hrun, hended, _, _, rfl, ?_, ⟨_, rfl⟩, hW, hsame.mono (by decide) (by decide)⟩
    · show Steps p.tables e below (T5.setTop (mkF m 31 #[.val (.ref a)] [(.long (((qo + qr) - (1 : Int64)) + (n.toInt64)))])) _
      exact retOut X5 hx (t := .long) Bd.returns rfl (Or.inr (Or.inl ⟨rfl, rfl, _, rfl⟩)) (hb hby d5_31) hrr
    · show QrmReach Z qo qr n h0 n0 _ T5.heap _
      rw [e5]
      exact ⟨by simp only [hs2, if_true, if_false], N0, rfl⟩
theorem d2_0 : decode prog_23_method_1_code 0 = .ok (.aload_n 0, 1) := by decide +kernel
theorem d2_1 : decode prog_23_method_1_code 1 = .ok (.invokespecial 3, 3) := by decide +kernel
theorem d2_4 : decode prog_23_method_1_code 4 = .ok (.aload_n 0, 1) := by decide +kernel
theorem d2_5 : decode prog_23_method_1_code 5 = .ok (.iload_n 1, 1) := by decide +kernel
theorem d2_6 : decode prog_23_method_1_code 6 = .ok (.putfield 9, 3) := by decide +kernel
theorem d2_9 : decode prog_23_method_1_code 9 = .ok (.aload_n 0, 1) := by decide +kernel
theorem d2_10 : decode prog_23_method_1_code 10 = .ok (.lload_n 2, 1) := by decide +kernel
theorem d2_11 : decode prog_23_method_1_code 11 = .ok (.putfield 15, 3) := by decide +kernel
theorem d2_14 : decode prog_23_method_1_code 14 = .ok (.aload_n 0, 1) := by decide +kernel
theorem d2_15 : decode prog_23_method_1_code 15 = .ok (.aload 4, 2) := by decide +kernel
theorem d2_17 : decode prog_23_method_1_code 17 = .ok (.lload 6, 2) := by decide +kernel
theorem d2_19 : decode prog_23_method_1_code 19 = .ok (.invokestatic 19, 3) := by decide +kernel
theorem d2_22 : decode prog_23_method_1_code 22 = .ok (.putfield 23, 3) := by decide +kernel
theorem d2_25 : decode prog_23_method_1_code 25 = .ok (.aload_n 0, 1) := by decide +kernel
theorem d2_26 : decode prog_23_method_1_code 26 = .ok (.aload 5, 2) := by decide +kernel
theorem d2_28 : decode prog_23_method_1_code 28 = .ok (.ifnonnull 7, 3) := by decide +kernel
theorem d2_35 : decode prog_23_method_1_code 35 = .ok (.aload 5, 2) := by decide +kernel
theorem d2_37 : decode prog_23_method_1_code 37 = .ok (.lload 6, 2) := by decide +kernel
theorem d2_39 : decode prog_23_method_1_code 39 = .ok (.invokestatic 19, 3) := by decide +kernel
theorem d2_42 : decode prog_23_method_1_code 42 = .ok (.putfield 27, 3) := by decide +kernel
theorem d2_45 : decode prog_23_method_1_code 45 = .ok (.aload_n 0, 1) := by decide +kernel
theorem d2_46 : decode prog_23_method_1_code 46 = .ok (.lload 8, 2) := by decide +kernel
theorem d2_48 : decode prog_23_method_1_code 48 = .ok (.putfield 30, 3) := by decide +kernel
theorem d2_51 : decode prog_23_method_1_code 51 = .ok (.return_, 1) := by decide +kernel
theorem own_pn2 : plainName "com/example/sharp_nose/sharpnose/desktop/MagicRule" = true := by first | (simp [plainName, overriddenIn]; done) | decide +kernel
theorem own_ef2 (m : MethodId) (x0 : Addr) (x1 : Int32) (x2 : Int64) (x3 : Addr) (x4 : Addr) (x5 : Int64) (x6 : Int64) : entryFrame m #[(.ref x0), (.int x1), (.long x2), (.ref x3), (.ref x4), (.long x5), (.long x6)] 10 = mkF m 0 #[.val (.ref x0), .val (.int x1), .val (.long x2), .second, .val (.ref x3), .val (.ref x4), .val (.long x5), .second, .val (.long x6), .second] [] := by first | (simp [entryFrame, mkF, argsToLocals, Value.category]; done) | rfl
def QrmInitM (Z : State) (a : Addr) (q1 : Int64) (q3 : Int64) (n : Int32) (h0 : Heap) (n0 : Nat) (v : Option Value) (h : Heap) (L : List Loc) : Prop := ∃ b : Addr, v = none ∧ Fr n0 L ∧ Keep h0 h [a] ∧ h0.size ≤ b ∧ Exa Z h a "com/example/sharp_nose/sharpnose/desktop/MagicRule" ∧ Fld Z h a "com/example/sharp_nose/sharpnose/desktop/MagicRule" "offset" "J" (.long q1) ∧ Fld Z h a "com/example/sharp_nose/sharpnose/desktop/MagicRule" "range" "J" (.long q3) ∧ Fld Z h a "com/example/sharp_nose/sharpnose/desktop/MagicRule" "value" "[B" (.ref b) ∧ own_By Z h b n
set_option maxRecDepth 65536 in
set_option maxHeartbeats 40000000 in
theorem rmInitM (l : Launch) (Z : State) (a0 : Array Value) (hw : ∀ d ∈ tables_1, d.before a0 Z = true) (ws : List Jvm.Cond) (a : Addr) (p1 : Int32) (q1 : Int64) (av am : Addr) (q2 q3 : Int64) (n : Int32) (h0 : Heap) (n0 : Nat) (Z0 : n0 ≤ h0.size) (hn : n = (0 : Int32) ∨ n = (1 : Int32) ∨ n = (2 : Int32) ∨ n = (3 : Int32)) (Ex : Exa Z h0 a "com/example/sharp_nose/sharpnose/desktop/MagicRule") (By_v : own_By Z h0 av n) (Ex_v : Exa Z h0 av "[B") (S_l : Sta Z h0 "com/example/sharp_nose/sharpnose/desktop/MagicRule" "LITTLE_ENDIAN_HOST" "Z" (.int (1 : Int32))) (g_a : n0 ≤ a) (By_m : own_By Z h0 am n) (Ex_m : Exa Z h0 am "[B") (F_depth_a : Fld Z h0 a "com/example/sharp_nose/sharpnose/desktop/MagicRule" "depth" "I" (.int (0 : Int32))) (F_offset_a : Fld Z h0 a "com/example/sharp_nose/sharpnose/desktop/MagicRule" "offset" "J" (.long (0 : Int64))) (F_value_a : Fld Z h0 a "com/example/sharp_nose/sharpnose/desktop/MagicRule" "value" "[B" .null) (F_mask_a : Fld Z h0 a "com/example/sharp_nose/sharpnose/desktop/MagicRule" "mask" "[B" .null) (F_range_a : Fld Z h0 a "com/example/sharp_nose/sharpnose/desktop/MagicRule" "range" "J" (.long (0 : Int64))) (ne_av_a : av ≠ a) (ne_am_a : am ≠ a) :
    MetFree l (⟨"com/example/sharp_nose/sharpnose/desktop/MagicRule", "<init>", "(IJ[B[BJJ)V"⟩ : MethodName) (head1 (Jvm.Cond.code (⟨"com/example/sharp_nose/sharpnose/desktop/MagicRule", "<init>", "(IJ[B[BJJ)V"⟩ : MethodName) prog_23_method_1_code 10 none :: ws) ({ frames := 2, cells := 2, slots := 6, locals := 35 } : Room)) (fun ar_ U_ => ar_ = #[(.ref a), (.int p1), (.long q1), (.ref av), (.ref am), (.long q2), (.long q3)] ∧ Z.Warmed39 U_.vm ∧ U_.heap = h0) (fun _ _ _ _ _ => True) (fun _ U_ ou_ V_ => ∃ v_ L_, ou_ = .returned v_ ∧ QrmInitM Z a q1 q3 n h0 n0 v_ V_.heap L_ ∧ FrameEnd U_ ou_ V_ L_ ({ frames := 2, cells := 2, slots := 6, locals := 35 } : Room).cells ({ frames := 2, cells := 2, slots := 6, locals := 35 } : Room).slots) := by
  refine MetFree.of_bodySF (plainFor_of_name own_pn2) hisR ?_
  intro p e s m args below meth c s₁ Bd hml0 hP hK
  obtain ⟨rfl, hZ, hh⟩ := hP
  have hx := Bd.exec
  have hby := Bd.bytes
  have hml : c.maxLocals = 10 := hml0
  have hown : s.vm.findClass "com/example/sharp_nose/sharpnose/desktop/MagicRule" = some m.cls := findClass_of_methodNamed Bd.named
  have hnm := (name_of_methodNamed Bd.named Bd.method).1
  have X0 : Stand p l e ({ frames := 2, cells := 2, slots := 6, locals := 35 } : Room) s m #[(.ref a), (.int p1), (.long q1), (.ref av), (.ref am), (.long q2), (.long q3)] below meth c s₁ [] 0 0 := Stand.of_body Bd
  have e0 : s₁.heap = h0 := by rw [← hh, Bd.state]; rfl
  have N0 := Fr.nil n0
  have Kp0 : Keep h0 h0 [a] := Keep.refl h0 _
  refine own_go (A := s₁.setTop (mkF m 0 #[.val (.ref a), .val (.int p1), .val (.long q1), .second, .val (.ref av), .val (.ref am), .val (.long q2), .second, .val (.long q3), .second] [])) (fun t kz => castTop (own_ef2 m a p1 q1 av am q2 q3) kz) ?_
  refine own_go (A := s₁.setTop (mkF m 1 #[.val (.ref a), .val (.int p1), .val (.long q1), .second, .val (.ref av), .val (.ref am), .val (.long q2), .second, .val (.long q3), .second] [(.ref a)])) (fun _ kz => ?_) ?_
  · show Steps p.tables e below (s₁.setTop (mkF m 0 #[.val (.ref a), .val (.int p1), .val (.long q1), .second, .val (.ref av), .val (.ref am), .val (.long q2), .second, .val (.long q3), .second] [])) _
    refine XS.aloadN X0.here hx rfl (hb hby d2_0) rfl rfl ?_
    exact kz
  obtain ⟨T1, X1, e1, st1⟩ := initO X0 hx hZ hown (hw _ (List.mem_of_getElem? (i := 12) rfl)) (hw _ (List.mem_of_getElem? (i := 13) rfl)) (hw _ (List.mem_of_getElem? (i := 14) rfl)) e0 (g := (mkF m 1 #[.val (.ref a), .val (.int p1), .val (.long q1), .second, .val (.ref av), .val (.ref am), .val (.long q2), .second, .val (.long q3), .second] [(.ref a)])) rfl (by rw [hml]; rfl) rfl (hb hby d2_1) (by decide) (W := 0) (by show 2 * 0 + _ ≤ _; exact Nat.le_of_eq rfl) (by decide)
  refine own_go (A := T1.setTop (mkF m 4 #[.val (.ref a), .val (.int p1), .val (.long q1), .second, .val (.ref av), .val (.ref am), .val (.long q2), .second, .val (.long q3), .second] [])) (fun _ kz => st1 _ kz) ?_
  refine own_go (A := T1.setTop (mkF m 6 #[.val (.ref a), .val (.int p1), .val (.long q1), .second, .val (.ref av), .val (.ref am), .val (.long q2), .second, .val (.long q3), .second] [(.int p1), (.ref a)])) (fun _ kz => ?_) ?_
  · show Steps p.tables e below (T1.setTop (mkF m 4 #[.val (.ref a), .val (.int p1), .val (.long q1), .second, .val (.ref av), .val (.ref am), .val (.long q2), .second, .val (.long q3), .second] [])) _
    refine XS.aloadN X1.here hx rfl (hb hby d2_4) rfl rfl ?_
    show Steps p.tables e below (T1.setTop (mkF m 5 #[.val (.ref a), .val (.int p1), .val (.long q1), .second, .val (.ref av), .val (.ref am), .val (.long q2), .second, .val (.long q3), .second] [(.ref a)])) _
    refine XS.iloadN X1.here hx rfl (hb hby d2_5) rfl ?_
    exact kz
  obtain ⟨T2, h2, X2, e2, W2, st2⟩ := putF X1 hx hZ hown (host := "") (Or.inl (hw _ (List.mem_of_getElem? (i := 15) rfl))) Via.refl e1 F_depth_a Ex (Or.inr ⟨(hw _ (List.mem_of_getElem? (i := 16) rfl)), rfl, hnm⟩) (hw _ (List.mem_of_getElem? (i := 7) rfl)) (ty := .int) (by decide) rfl rfl (g := (mkF m 6 #[.val (.ref a), .val (.int p1), .val (.long q1), .second, .val (.ref av), .val (.ref am), .val (.long q2), .second, .val (.long q3), .second] [(.int p1), (.ref a)])) rfl rfl (hb hby d2_6)
  have Fw2 := F_depth_a.same W2
  replace S_l := S_l.wr W2
  replace Ex := Ex.wr W2
  replace By_v := By_v.other W2 ne_av_a
  replace Ex_v := Ex_v.wr W2
  replace By_m := By_m.other W2 ne_am_a
  replace Ex_m := Ex_m.wr W2
  replace F_offset_a := F_offset_a.other W2 (Or.inr (slot_ne (Or.inr (hw _ (List.mem_of_getElem? (i := 18) rfl))) (Or.inr (hw _ (List.mem_of_getElem? (i := 16) rfl))) (by decide) (t := .long) (t' := .int) (by decide) (by decide)))
  replace F_value_a := F_value_a.other W2 (Or.inr (slot_ne (Or.inr (hw _ (List.mem_of_getElem? (i := 34) rfl))) (Or.inr (hw _ (List.mem_of_getElem? (i := 16) rfl))) (by decide) (t := (.array .byte)) (t' := .int) (by decide) (by decide)))
  replace F_mask_a := F_mask_a.other W2 (Or.inr (slot_ne (Or.inr (hw _ (List.mem_of_getElem? (i := 36) rfl))) (Or.inr (hw _ (List.mem_of_getElem? (i := 16) rfl))) (by decide) (t := (.array .byte)) (t' := .int) (by decide) (by decide)))
  replace F_range_a := F_range_a.other W2 (Or.inr (slot_ne (Or.inr (hw _ (List.mem_of_getElem? (i := 38) rfl))) (Or.inr (hw _ (List.mem_of_getElem? (i := 16) rfl))) (by decide) (t := .long) (t' := .int) (by decide) (by decide)))
  have Z2 : n0 ≤ h2.size := Nat.le_trans Z0 (Keep.of_wr W2).1
  have Kp2 : Keep h0 h2 [a] := Kp0.wr W2 (Or.inl (List.mem_of_getElem? (i := 0) rfl))
  have F_depth_a := Fw2
  have N2 := Fr.snoc X2 N0 g_a
  refine own_go (A := T2.setTop (mkF m 9 #[.val (.ref a), .val (.int p1), .val (.long q1), .second, .val (.ref av), .val (.ref am), .val (.long q2), .second, .val (.long q3), .second] [])) (fun _ kz => st2 _ kz) ?_
  refine own_go (A := T2.setTop (mkF m 11 #[.val (.ref a), .val (.int p1), .val (.long q1), .second, .val (.ref av), .val (.ref am), .val (.long q2), .second, .val (.long q3), .second] [(.long q1), (.ref a)])) (fun _ kz => ?_) ?_
  · show Steps p.tables e below (T2.setTop (mkF m 9 #[.val (.ref a), .val (.int p1), .val (.long q1), .second, .val (.ref av), .val (.ref am), .val (.long q2), .second, .val (.long q3), .second] [])) _
    refine XS.aloadN X2.here hx rfl (hb hby d2_9) rfl rfl ?_
    show Steps p.tables e below (T2.setTop (mkF m 10 #[.val (.ref a), .val (.int p1), .val (.long q1), .second, .val (.ref av), .val (.ref am), .val (.long q2), .second, .val (.long q3), .second] [(.ref a)])) _
    refine XS.lloadN X2.here hx rfl (hb hby d2_10) rfl ?_
    exact kz
  obtain ⟨T3, h3, X3, e3, W3, st3⟩ := putF X2 hx hZ hown (host := "") (Or.inl (hw _ (List.mem_of_getElem? (i := 17) rfl))) Via.refl e2 F_offset_a Ex (Or.inr ⟨(hw _ (List.mem_of_getElem? (i := 18) rfl)), rfl, hnm⟩) (hw _ (List.mem_of_getElem? (i := 7) rfl)) (ty := .long) (by decide) rfl rfl (g := (mkF m 11 #[.val (.ref a), .val (.int p1), .val (.long q1), .second, .val (.ref av), .val (.ref am), .val (.long q2), .second, .val (.long q3), .second] [(.long q1), (.ref a)])) rfl rfl (hb hby d2_11)
  have Fw3 := F_offset_a.same W3
  replace S_l := S_l.wr W3
  replace Ex := Ex.wr W3
  replace By_v := By_v.other W3 ne_av_a
  replace Ex_v := Ex_v.wr W3
  replace By_m := By_m.other W3 ne_am_a
  replace Ex_m := Ex_m.wr W3
  replace F_depth_a := F_depth_a.other W3 (Or.inr (slot_ne (Or.inr (hw _ (List.mem_of_getElem? (i := 16) rfl))) (Or.inr (hw _ (List.mem_of_getElem? (i := 18) rfl))) (by decide) (t := .int) (t' := .long) (by decide) (by decide)))
  replace F_value_a := F_value_a.other W3 (Or.inr (slot_ne (Or.inr (hw _ (List.mem_of_getElem? (i := 34) rfl))) (Or.inr (hw _ (List.mem_of_getElem? (i := 18) rfl))) (by decide) (t := (.array .byte)) (t' := .long) (by decide) (by decide)))
  replace F_mask_a := F_mask_a.other W3 (Or.inr (slot_ne (Or.inr (hw _ (List.mem_of_getElem? (i := 36) rfl))) (Or.inr (hw _ (List.mem_of_getElem? (i := 18) rfl))) (by decide) (t := (.array .byte)) (t' := .long) (by decide) (by decide)))
  replace F_range_a := F_range_a.other W3 (Or.inr (slot_ne (Or.inr (hw _ (List.mem_of_getElem? (i := 38) rfl))) (Or.inr (hw _ (List.mem_of_getElem? (i := 18) rfl))) (by decide) (t := .long) (t' := .long) (by decide) (by decide)))
  have Z3 : n0 ≤ h3.size := Nat.le_trans Z2 (Keep.of_wr W3).1
  have Kp3 : Keep h0 h3 [a] := Kp2.wr W3 (Or.inl (List.mem_of_getElem? (i := 0) rfl))
  have F_offset_a := Fw3
  have N3 := Fr.snoc X3 N2 g_a
  refine own_go (A := T3.setTop (mkF m 14 #[.val (.ref a), .val (.int p1), .val (.long q1), .second, .val (.ref av), .val (.ref am), .val (.long q2), .second, .val (.long q3), .second] [])) (fun _ kz => st3 _ kz) ?_
  refine own_go (A := T3.setTop (mkF m 19 #[.val (.ref a), .val (.int p1), .val (.long q1), .second, .val (.ref av), .val (.ref am), .val (.long q2), .second, .val (.long q3), .second] [(.long q2), (.ref av), (.ref a)])) (fun _ kz => ?_) ?_
  · show Steps p.tables e below (T3.setTop (mkF m 14 #[.val (.ref a), .val (.int p1), .val (.long q1), .second, .val (.ref av), .val (.ref am), .val (.long q2), .second, .val (.long q3), .second] [])) _
    refine XS.aloadN X3.here hx rfl (hb hby d2_14) rfl rfl ?_
    show Steps p.tables e below (T3.setTop (mkF m 15 #[.val (.ref a), .val (.int p1), .val (.long q1), .second, .val (.ref av), .val (.ref am), .val (.long q2), .second, .val (.long q3), .second] [(.ref a)])) _
    refine XS.aload X3.here hx rfl (hb hby d2_15) rfl rfl ?_
    show Steps p.tables e below (T3.setTop (mkF m 17 #[.val (.ref a), .val (.int p1), .val (.long q1), .second, .val (.ref av), .val (.ref am), .val (.long q2), .second, .val (.long q3), .second] [(.ref av), (.ref a)])) _
    refine XS.lload X3.here hx rfl (hb hby d2_17) rfl ?_
    exact kz
  obtain ⟨_, _, ⟨T4, L4, k4, n4⟩, -, X4, ⟨Lc4, hQ4, l4, y4, z4⟩, st4⟩ := Jvm.LawKit.callS X3 hx (y := (⟨"com/example/sharp_nose/sharpnose/desktop/MagicRule", "hostOrder", "([BJ)[B"⟩ : MethodName)) hown (mvT hZ (hw _ (List.mem_of_getElem? (i := 19) rfl))) (mvT hZ (hw _ (List.mem_of_getElem? (i := 20) rfl))) (mvT hZ (hw _ (List.mem_of_getElem? (i := 8) rfl))) (mvT hZ (hw _ (List.mem_of_getElem? (i := 21) rfl))) (by decide) (backOf (W := 1) (rmHost l Z a0 hw [] av q2 n h3 n0 Z3 hn By_v Ex_v S_l) hZ (hw _ (List.mem_of_getElem? (i := 21) rfl)) (hw _ (List.mem_of_getElem? (i := 8) rfl)) (by decide) (by decide)) (g := (mkF m 19 #[.val (.ref a), .val (.int p1), .val (.long q1), .second, .val (.ref av), .val (.ref am), .val (.long q2), .second, .val (.long q3), .second] [(.long q2), (.ref av), (.ref a)])) rfl (by rw [hml]; rfl) (argsL := [(.ref av), (.long q2)]) (rest := [(.ref a)]) (lenOf own_pd1 rfl) rfl (by show 2 * 0 + _ ≤ _; exact Nat.le_of_eq rfl) (hb hby d2_19) (fun _ _ => ⟨rfl, e3, (by decide : 0 + 1 ≤ _), (by decide : 0 + 3 ≤ _)⟩)
  dsimp only [Pt.U, Pt.locs, Pt.cells, Pt.slots] at X4 l4 y4 z4 st4 hQ4
  subst l4 y4 z4
  obtain ⟨c4, rfl, N4q, zc4, K4q, By4, Ex4⟩ := hQ4
  have N4 := Fr.app N3 N4q
  have ne_a_c4 : a ≠ c4 := Nat.ne_of_lt (Nat.lt_of_lt_of_le Ex.lt zc4)
  have ne_av_c4 : av ≠ c4 := Nat.ne_of_lt (Nat.lt_of_lt_of_le By_v.lt zc4)
  have ne_am_c4 : am ≠ c4 := Nat.ne_of_lt (Nat.lt_of_lt_of_le By_m.lt zc4)
  have g_c4 : n0 ≤ c4 := Nat.le_trans Z3 zc4
  have szk_c4 : h0.size ≤ c4 := Nat.le_trans Kp3.1 zc4
  replace S_l := own_staKeep S_l K4q all0
  replace Ex := Ex.keep K4q
  replace By_v := By_v.keep K4q nin0
  replace Ex_v := Ex_v.keep K4q
  replace By_m := By_m.keep K4q nin0
  replace Ex_m := Ex_m.keep K4q
  replace F_depth_a := F_depth_a.keep K4q nin0
  replace F_offset_a := F_offset_a.keep K4q nin0
  replace F_value_a := F_value_a.keep K4q nin0
  replace F_mask_a := F_mask_a.keep K4q nin0
  replace F_range_a := F_range_a.keep K4q nin0
  have Z4 : n0 ≤ T4.heap.size := Nat.le_trans Z3 K4q.1
  have Kp4 : Keep h0 T4.heap [a] := Kp3.trans K4q (all0)
  refine own_go (A := T4.setTop (mkF m 22 #[.val (.ref a), .val (.int p1), .val (.long q1), .second, .val (.ref av), .val (.ref am), .val (.long q2), .second, .val (.long q3), .second] [(.ref c4), (.ref a)])) (fun _ kz => st4 _ kz) ?_
  obtain ⟨T5, h5, X5, e5, W5, st5⟩ := putF X4 hx hZ hown (host := "") (Or.inl (hw _ (List.mem_of_getElem? (i := 33) rfl))) Via.refl rfl F_value_a Ex (Or.inr ⟨(hw _ (List.mem_of_getElem? (i := 34) rfl)), rfl, hnm⟩) (hw _ (List.mem_of_getElem? (i := 7) rfl)) (ty := (.array .byte)) (by decide) rfl rfl (g := (mkF m 22 #[.val (.ref a), .val (.int p1), .val (.long q1), .second, .val (.ref av), .val (.ref am), .val (.long q2), .second, .val (.long q3), .second] [(.ref c4), (.ref a)])) rfl rfl (hb hby d2_22)
  have Fw5 := F_value_a.same W5
  replace S_l := S_l.wr W5
  replace Ex := Ex.wr W5
  replace By_v := By_v.other W5 ne_av_a
  replace Ex_v := Ex_v.wr W5
  replace By_m := By_m.other W5 ne_am_a
  replace Ex_m := Ex_m.wr W5
  replace F_depth_a := F_depth_a.other W5 (Or.inr (slot_ne (Or.inr (hw _ (List.mem_of_getElem? (i := 16) rfl))) (Or.inr (hw _ (List.mem_of_getElem? (i := 34) rfl))) (by decide) (t := .int) (t' := (.array .byte)) (by decide) (by decide)))
  replace F_offset_a := F_offset_a.other W5 (Or.inr (slot_ne (Or.inr (hw _ (List.mem_of_getElem? (i := 18) rfl))) (Or.inr (hw _ (List.mem_of_getElem? (i := 34) rfl))) (by decide) (t := .long) (t' := (.array .byte)) (by decide) (by decide)))
  replace F_mask_a := F_mask_a.other W5 (Or.inr (slot_ne (Or.inr (hw _ (List.mem_of_getElem? (i := 36) rfl))) (Or.inr (hw _ (List.mem_of_getElem? (i := 34) rfl))) (by decide) (t := (.array .byte)) (t' := (.array .byte)) (by decide) (by decide)))
  replace F_range_a := F_range_a.other W5 (Or.inr (slot_ne (Or.inr (hw _ (List.mem_of_getElem? (i := 38) rfl))) (Or.inr (hw _ (List.mem_of_getElem? (i := 34) rfl))) (by decide) (t := .long) (t' := (.array .byte)) (by decide) (by decide)))
  replace By4 := By4.other W5 (Ne.symm ne_a_c4)
  replace Ex4 := Ex4.wr W5
  have Z5 : n0 ≤ h5.size := Nat.le_trans Z4 (Keep.of_wr W5).1
  have Kp5 : Keep h0 h5 [a] := Kp4.wr W5 (Or.inl (List.mem_of_getElem? (i := 0) rfl))
  have F_value_a := Fw5
  have N5 := Fr.snoc X5 N4 g_a
  refine own_go (A := T5.setTop (mkF m 25 #[.val (.ref a), .val (.int p1), .val (.long q1), .second, .val (.ref av), .val (.ref am), .val (.long q2), .second, .val (.long q3), .second] [])) (fun _ kz => st5 _ kz) ?_
  refine own_go (A := T5.setTop (mkF m 39 #[.val (.ref a), .val (.int p1), .val (.long q1), .second, .val (.ref av), .val (.ref am), .val (.long q2), .second, .val (.long q3), .second] [(.long q2), (.ref am), (.ref a)])) (fun _ kz => ?_) ?_
  · show Steps p.tables e below (T5.setTop (mkF m 25 #[.val (.ref a), .val (.int p1), .val (.long q1), .second, .val (.ref av), .val (.ref am), .val (.long q2), .second, .val (.long q3), .second] [])) _
    refine XS.aloadN X5.here hx rfl (hb hby d2_25) rfl rfl ?_
    show Steps p.tables e below (T5.setTop (mkF m 26 #[.val (.ref a), .val (.int p1), .val (.long q1), .second, .val (.ref av), .val (.ref am), .val (.long q2), .second, .val (.long q3), .second] [(.ref a)])) _
    refine XS.aload X5.here hx rfl (hb hby d2_26) rfl rfl ?_
    show Steps p.tables e below (T5.setTop (mkF m 28 #[.val (.ref a), .val (.int p1), .val (.long q1), .second, .val (.ref av), .val (.ref am), .val (.long q2), .second, .val (.long q3), .second] [(.ref am), (.ref a)])) _
    refine XS.ifnonnullYes X5.here hx rfl (pc0 := 28) (pc' := 35) rfl (hb hby d2_28) rfl (by decide) (by decide) ?_
    show Steps p.tables e below (T5.setTop (mkF m 35 #[.val (.ref a), .val (.int p1), .val (.long q1), .second, .val (.ref av), .val (.ref am), .val (.long q2), .second, .val (.long q3), .second] [(.ref a)])) _
    refine XS.aload X5.here hx rfl (hb hby d2_35) rfl rfl ?_
    show Steps p.tables e below (T5.setTop (mkF m 37 #[.val (.ref a), .val (.int p1), .val (.long q1), .second, .val (.ref av), .val (.ref am), .val (.long q2), .second, .val (.long q3), .second] [(.ref am), (.ref a)])) _
    refine XS.lload X5.here hx rfl (hb hby d2_37) rfl ?_
    exact kz
  obtain ⟨_, _, ⟨T6, L6, k6, n6⟩, -, X6, ⟨Lc6, hQ6, l6, y6, z6⟩, st6⟩ := Jvm.LawKit.callS X5 hx (y := (⟨"com/example/sharp_nose/sharpnose/desktop/MagicRule", "hostOrder", "([BJ)[B"⟩ : MethodName)) hown (mvT hZ (hw _ (List.mem_of_getElem? (i := 19) rfl))) (mvT hZ (hw _ (List.mem_of_getElem? (i := 20) rfl))) (mvT hZ (hw _ (List.mem_of_getElem? (i := 8) rfl))) (mvT hZ (hw _ (List.mem_of_getElem? (i := 21) rfl))) (by decide) (backOf (W := 1) (rmHost l Z a0 hw [] am q2 n h5 n0 Z5 hn By_m Ex_m S_l) hZ (hw _ (List.mem_of_getElem? (i := 21) rfl)) (hw _ (List.mem_of_getElem? (i := 8) rfl)) (by decide) (by decide)) (g := (mkF m 39 #[.val (.ref a), .val (.int p1), .val (.long q1), .second, .val (.ref av), .val (.ref am), .val (.long q2), .second, .val (.long q3), .second] [(.long q2), (.ref am), (.ref a)])) rfl (by rw [hml]; rfl) (argsL := [(.ref am), (.long q2)]) (rest := [(.ref a)]) (lenOf own_pd1 rfl) rfl (by show 2 * 0 + _ ≤ _; exact Nat.le_of_eq rfl) (hb hby d2_39) (fun _ _ => ⟨rfl, e5, (by decide : 1 + 1 ≤ _), (by decide : 3 + 3 ≤ _)⟩)
  dsimp only [Pt.U, Pt.locs, Pt.cells, Pt.slots] at X6 l6 y6 z6 st6 hQ6
  subst l6 y6 z6
  obtain ⟨c6, rfl, N6q, zc6, K6q, By6, Ex6⟩ := hQ6
  have N6 := Fr.app N5 N6q
  have ne_a_c6 : a ≠ c6 := Nat.ne_of_lt (Nat.lt_of_lt_of_le Ex.lt zc6)
  have ne_av_c6 : av ≠ c6 := Nat.ne_of_lt (Nat.lt_of_lt_of_le By_v.lt zc6)
  have ne_am_c6 : am ≠ c6 := Nat.ne_of_lt (Nat.lt_of_lt_of_le By_m.lt zc6)
  have ne_c4_c6 : c4 ≠ c6 := Nat.ne_of_lt (Nat.lt_of_lt_of_le By4.lt zc6)
  have g_c6 : n0 ≤ c6 := Nat.le_trans Z5 zc6
  have szk_c6 : h0.size ≤ c6 := Nat.le_trans Kp5.1 zc6
  replace S_l := own_staKeep S_l K6q all0
  replace Ex := Ex.keep K6q
  replace By_v := By_v.keep K6q nin0
  replace Ex_v := Ex_v.keep K6q
  replace By_m := By_m.keep K6q nin0
  replace Ex_m := Ex_m.keep K6q
  replace F_depth_a := F_depth_a.keep K6q nin0
  replace F_offset_a := F_offset_a.keep K6q nin0
  replace F_value_a := F_value_a.keep K6q nin0
  replace F_mask_a := F_mask_a.keep K6q nin0
  replace F_range_a := F_range_a.keep K6q nin0
  replace By4 := By4.keep K6q nin0
  replace Ex4 := Ex4.keep K6q
  have Z6 : n0 ≤ T6.heap.size := Nat.le_trans Z5 K6q.1
  have Kp6 : Keep h0 T6.heap [a] := Kp5.trans K6q (all0)
  refine own_go (A := T6.setTop (mkF m 42 #[.val (.ref a), .val (.int p1), .val (.long q1), .second, .val (.ref av), .val (.ref am), .val (.long q2), .second, .val (.long q3), .second] [(.ref c6), (.ref a)])) (fun _ kz => st6 _ kz) ?_
  obtain ⟨T7, h7, X7, e7, W7, st7⟩ := putF X6 hx hZ hown (host := "") (Or.inl (hw _ (List.mem_of_getElem? (i := 35) rfl))) Via.refl rfl F_mask_a Ex (Or.inr ⟨(hw _ (List.mem_of_getElem? (i := 36) rfl)), rfl, hnm⟩) (hw _ (List.mem_of_getElem? (i := 7) rfl)) (ty := (.array .byte)) (by decide) rfl rfl (g := (mkF m 42 #[.val (.ref a), .val (.int p1), .val (.long q1), .second, .val (.ref av), .val (.ref am), .val (.long q2), .second, .val (.long q3), .second] [(.ref c6), (.ref a)])) rfl rfl (hb hby d2_42)
  have Fw7 := F_mask_a.same W7
  replace S_l := S_l.wr W7
  replace Ex := Ex.wr W7
  replace By_v := By_v.other W7 ne_av_a
  replace Ex_v := Ex_v.wr W7
  replace By_m := By_m.other W7 ne_am_a
  replace Ex_m := Ex_m.wr W7
  replace F_depth_a := F_depth_a.other W7 (Or.inr (slot_ne (Or.inr (hw _ (List.mem_of_getElem? (i := 16) rfl))) (Or.inr (hw _ (List.mem_of_getElem? (i := 36) rfl))) (by decide) (t := .int) (t' := (.array .byte)) (by decide) (by decide)))
  replace F_offset_a := F_offset_a.other W7 (Or.inr (slot_ne (Or.inr (hw _ (List.mem_of_getElem? (i := 18) rfl))) (Or.inr (hw _ (List.mem_of_getElem? (i := 36) rfl))) (by decide) (t := .long) (t' := (.array .byte)) (by decide) (by decide)))
  replace F_value_a := F_value_a.other W7 (Or.inr (slot_ne (Or.inr (hw _ (List.mem_of_getElem? (i := 34) rfl))) (Or.inr (hw _ (List.mem_of_getElem? (i := 36) rfl))) (by decide) (t := (.array .byte)) (t' := (.array .byte)) (by decide) (by decide)))
  replace F_range_a := F_range_a.other W7 (Or.inr (slot_ne (Or.inr (hw _ (List.mem_of_getElem? (i := 38) rfl))) (Or.inr (hw _ (List.mem_of_getElem? (i := 36) rfl))) (by decide) (t := .long) (t' := (.array .byte)) (by decide) (by decide)))
  replace By4 := By4.other W7 (Ne.symm ne_a_c4)
  replace Ex4 := Ex4.wr W7
  replace By6 := By6.other W7 (Ne.symm ne_a_c6)
  replace Ex6 := Ex6.wr W7
  have Z7 : n0 ≤ h7.size := Nat.le_trans Z6 (Keep.of_wr W7).1
  have Kp7 : Keep h0 h7 [a] := Kp6.wr W7 (Or.inl (List.mem_of_getElem? (i := 0) rfl))
  have F_mask_a := Fw7
  have N7 := Fr.snoc X7 N6 g_a
  refine own_go (A := T7.setTop (mkF m 45 #[.val (.ref a), .val (.int p1), .val (.long q1), .second, .val (.ref av), .val (.ref am), .val (.long q2), .second, .val (.long q3), .second] [])) (fun _ kz => st7 _ kz) ?_
  refine own_go (A := T7.setTop (mkF m 48 #[.val (.ref a), .val (.int p1), .val (.long q1), .second, .val (.ref av), .val (.ref am), .val (.long q2), .second, .val (.long q3), .second] [(.long q3), (.ref a)])) (fun _ kz => ?_) ?_
  · show Steps p.tables e below (T7.setTop (mkF m 45 #[.val (.ref a), .val (.int p1), .val (.long q1), .second, .val (.ref av), .val (.ref am), .val (.long q2), .second, .val (.long q3), .second] [])) _
    refine XS.aloadN X7.here hx rfl (hb hby d2_45) rfl rfl ?_
    show Steps p.tables e below (T7.setTop (mkF m 46 #[.val (.ref a), .val (.int p1), .val (.long q1), .second, .val (.ref av), .val (.ref am), .val (.long q2), .second, .val (.long q3), .second] [(.ref a)])) _
    refine XS.lload X7.here hx rfl (hb hby d2_46) rfl ?_
    exact kz
  obtain ⟨T8, h8, X8, e8, W8, st8⟩ := putF X7 hx hZ hown (host := "") (Or.inl (hw _ (List.mem_of_getElem? (i := 37) rfl))) Via.refl e7 F_range_a Ex (Or.inr ⟨(hw _ (List.mem_of_getElem? (i := 38) rfl)), rfl, hnm⟩) (hw _ (List.mem_of_getElem? (i := 7) rfl)) (ty := .long) (by decide) rfl rfl (g := (mkF m 48 #[.val (.ref a), .val (.int p1), .val (.long q1), .second, .val (.ref av), .val (.ref am), .val (.long q2), .second, .val (.long q3), .second] [(.long q3), (.ref a)])) rfl rfl (hb hby d2_48)
  have Fw8 := F_range_a.same W8
  replace S_l := S_l.wr W8
  replace Ex := Ex.wr W8
  replace By_v := By_v.other W8 ne_av_a
  replace Ex_v := Ex_v.wr W8
  replace By_m := By_m.other W8 ne_am_a
  replace Ex_m := Ex_m.wr W8
  replace F_depth_a := F_depth_a.other W8 (Or.inr (slot_ne (Or.inr (hw _ (List.mem_of_getElem? (i := 16) rfl))) (Or.inr (hw _ (List.mem_of_getElem? (i := 38) rfl))) (by decide) (t := .int) (t' := .long) (by decide) (by decide)))
  replace F_offset_a := F_offset_a.other W8 (Or.inr (slot_ne (Or.inr (hw _ (List.mem_of_getElem? (i := 18) rfl))) (Or.inr (hw _ (List.mem_of_getElem? (i := 38) rfl))) (by decide) (t := .long) (t' := .long) (by decide) (by decide)))
  replace F_value_a := F_value_a.other W8 (Or.inr (slot_ne (Or.inr (hw _ (List.mem_of_getElem? (i := 34) rfl))) (Or.inr (hw _ (List.mem_of_getElem? (i := 38) rfl))) (by decide) (t := (.array .byte)) (t' := .long) (by decide) (by decide)))
  replace F_mask_a := F_mask_a.other W8 (Or.inr (slot_ne (Or.inr (hw _ (List.mem_of_getElem? (i := 36) rfl))) (Or.inr (hw _ (List.mem_of_getElem? (i := 38) rfl))) (by decide) (t := (.array .byte)) (t' := .long) (by decide) (by decide)))
  replace By4 := By4.other W8 (Ne.symm ne_a_c4)
  replace Ex4 := Ex4.wr W8
  replace By6 := By6.other W8 (Ne.symm ne_a_c6)
  replace Ex6 := Ex6.wr W8
  have Z8 : n0 ≤ h8.size := Nat.le_trans Z7 (Keep.of_wr W8).1
  have Kp8 : Keep h0 h8 [a] := Kp7.wr W8 (Or.inl (List.mem_of_getElem? (i := 0) rfl))
  have F_range_a := Fw8
  have N8 := Fr.snoc X8 N7 g_a
  refine own_go (A := T8.setTop (mkF m 51 #[.val (.ref a), .val (.int p1), .val (.long q1), .second, .val (.ref av), .val (.ref am), .val (.long q2), .second, .val (.long q3), .second] [])) (fun _ kz => st8 _ kz) ?_
  obtain ⟨fs, hrr, hrun, hended, hW, hsame⟩ := X8.leave (v := none) (fun _ => rfl)
  refine ⟨_, _, ?_, hrun, hended, _, _, rfl, ?_, ⟨_, rfl⟩, hW, hsame.mono (by decide) (by decide)⟩
  · show Steps p.tables e below (T8.setTop (mkF m 51 #[.val (.ref a), .val (.int p1), .val (.long q1), .second, .val (.ref av), .val (.ref am), .val (.long q2), .second, .val (.long q3), .second] [])) _
    exact X8.returnOut hx Bd.returns (hb hby d2_51) hrr
  · show QrmInitM Z a q1 q3 n h0 n0 _ T8.heap _
    rw [e8]
    exact ⟨c4, rfl, N8, Kp8, szk_c4, Ex, F_offset_a, F_range_a, F_value_a, By4⟩
theorem d2_31 : decode prog_23_method_1_code 31 = .ok (.aconst_null, 1) := by decide +kernel
theorem d2_32 : decode prog_23_method_1_code 32 = .ok (.goto 10, 3) := by decide +kernel
theorem own_efN (m : MethodId) (x0 : Addr) (x1 : Int32) (x2 : Int64) (x3 : Addr) (x5 : Int64) (x6 : Int64) : entryFrame m #[(.ref x0), (.int x1), (.long x2), (.ref x3), .null, (.long x5), (.long x6)] 10 = mkF m 0 #[.val (.ref x0), .val (.int x1), .val (.long x2), .second, .val (.ref x3), .val .null, .val (.long x5), .second, .val (.long x6), .second] [] := by first | (simp [entryFrame, mkF, argsToLocals, Value.category]; done) | rfl
def QrmInitN (Z : State) (a : Addr) (q1 : Int64) (q3 : Int64) (n : Int32) (h0 : Heap) (n0 : Nat) (v : Option Value) (h : Heap) (L : List Loc) : Prop := ∃ b : Addr, v = none ∧ Fr n0 L ∧ Keep h0 h [a] ∧ h0.size ≤ b ∧ Exa Z h a "com/example/sharp_nose/sharpnose/desktop/MagicRule" ∧ Fld Z h a "com/example/sharp_nose/sharpnose/desktop/MagicRule" "offset" "J" (.long q1) ∧ Fld Z h a "com/example/sharp_nose/sharpnose/desktop/MagicRule" "range" "J" (.long q3) ∧ Fld Z h a "com/example/sharp_nose/sharpnose/desktop/MagicRule" "value" "[B" (.ref b) ∧ own_By Z h b n
set_option maxRecDepth 65536 in
set_option maxHeartbeats 40000000 in
theorem rmInitN (l : Launch) (Z : State) (a0 : Array Value) (hw : ∀ d ∈ tables_1, d.before a0 Z = true) (ws : List Jvm.Cond) (a : Addr) (p1 : Int32) (q1 : Int64) (av : Addr) (q2 q3 : Int64) (n : Int32) (h0 : Heap) (n0 : Nat) (Z0 : n0 ≤ h0.size) (hn : n = (0 : Int32) ∨ n = (1 : Int32) ∨ n = (2 : Int32) ∨ n = (3 : Int32)) (Ex : Exa Z h0 a "com/example/sharp_nose/sharpnose/desktop/MagicRule") (By_v : own_By Z h0 av n) (Ex_v : Exa Z h0 av "[B") (S_l : Sta Z h0 "com/example/sharp_nose/sharpnose/desktop/MagicRule" "LITTLE_ENDIAN_HOST" "Z" (.int (1 : Int32))) (g_a : n0 ≤ a) (F_depth_a : Fld Z h0 a "com/example/sharp_nose/sharpnose/desktop/MagicRule" "depth" "I" (.int (0 : Int32))) (F_offset_a : Fld Z h0 a "com/example/sharp_nose/sharpnose/desktop/MagicRule" "offset" "J" (.long (0 : Int64))) (F_value_a : Fld Z h0 a "com/example/sharp_nose/sharpnose/desktop/MagicRule" "value" "[B" .null) (F_mask_a : Fld Z h0 a "com/example/sharp_nose/sharpnose/desktop/MagicRule" "mask" "[B" .null) (F_range_a : Fld Z h0 a "com/example/sharp_nose/sharpnose/desktop/MagicRule" "range" "J" (.long (0 : Int64))) (ne_av_a : av ≠ a) :
    MetFree l (⟨"com/example/sharp_nose/sharpnose/desktop/MagicRule", "<init>", "(IJ[B[BJJ)V"⟩ : MethodName) (head1 (Jvm.Cond.code (⟨"com/example/sharp_nose/sharpnose/desktop/MagicRule", "<init>", "(IJ[B[BJJ)V"⟩ : MethodName) prog_23_method_1_code 10 none :: ws) ({ frames := 2, cells := 1, slots := 3, locals := 35 } : Room)) (fun ar_ U_ => ar_ = #[(.ref a), (.int p1), (.long q1), (.ref av), .null, (.long q2), (.long q3)] ∧ Z.Warmed39 U_.vm ∧ U_.heap = h0) (fun _ _ _ _ _ => True) (fun _ U_ ou_ V_ => ∃ v_ L_, ou_ = .returned v_ ∧ QrmInitN Z a q1 q3 n h0 n0 v_ V_.heap L_ ∧ FrameEnd U_ ou_ V_ L_ ({ frames := 2, cells := 1, slots := 3, locals := 35 } : Room).cells ({ frames := 2, cells := 1, slots := 3, locals := 35 } : Room).slots) := by
  refine MetFree.of_bodySF (plainFor_of_name own_pn2) hisR ?_
  intro p e s m args below meth c s₁ Bd hml0 hP hK
  obtain ⟨rfl, hZ, hh⟩ := hP
  have hx := Bd.exec
  have hby := Bd.bytes
  have hml : c.maxLocals = 10 := hml0
  have hown : s.vm.findClass "com/example/sharp_nose/sharpnose/desktop/MagicRule" = some m.cls := findClass_of_methodNamed Bd.named
  have hnm := (name_of_methodNamed Bd.named Bd.method).1
  have X0 : Stand p l e ({ frames := 2, cells := 1, slots := 3, locals := 35 } : Room) s m #[(.ref a), (.int p1), (.long q1), (.ref av), .null, (.long q2), (.long q3)] below meth c s₁ [] 0 0 := Stand.of_body Bd
  have e0 : s₁.heap = h0 := by rw [← hh, Bd.state]; rfl
  have N0 := Fr.nil n0
  have Kp0 : Keep h0 h0 [a] := Keep.refl h0 _
  refine own_go (A := s₁.setTop (mkF m 0 #[.val (.ref a), .val (.int p1), .val (.long q1), .second, .val (.ref av), .val .null, .val (.long q2), .second, .val (.long q3), .second] [])) (fun t kz => castTop (own_efN m a p1 q1 av q2 q3) kz) ?_
  refine own_go (A := s₁.setTop (mkF m 1 #[.val (.ref a), .val (.int p1), .val (.long q1), .second, .val (.ref av), .val .null, .val (.long q2), .second, .val (.long q3), .second] [(.ref a)])) (fun _ kz => ?_) ?_
  · show Steps p.tables e below (s₁.setTop (mkF m 0 #[.val (.ref a), .val (.int p1), .val (.long q1), .second, .val (.ref av), .val .null, .val (.long q2), .second, .val (.long q3), .second] [])) _
    refine XS.aloadN X0.here hx rfl (hb hby d2_0) rfl rfl ?_
    exact kz
  obtain ⟨T1, X1, e1, st1⟩ := initO X0 hx hZ hown (hw _ (List.mem_of_getElem? (i := 12) rfl)) (hw _ (List.mem_of_getElem? (i := 13) rfl)) (hw _ (List.mem_of_getElem? (i := 14) rfl)) e0 (g := (mkF m 1 #[.val (.ref a), .val (.int p1), .val (.long q1), .second, .val (.ref av), .val .null, .val (.long q2), .second, .val (.long q3), .second] [(.ref a)])) rfl (by rw [hml]; rfl) rfl (hb hby d2_1) (by decide) (W := 0) (by show 2 * 0 + _ ≤ _; exact Nat.le_of_eq rfl) (by decide)
  refine own_go (A := T1.setTop (mkF m 4 #[.val (.ref a), .val (.int p1), .val (.long q1), .second, .val (.ref av), .val .null, .val (.long q2), .second, .val (.long q3), .second] [])) (fun _ kz => st1 _ kz) ?_
  refine own_go (A := T1.setTop (mkF m 6 #[.val (.ref a), .val (.int p1), .val (.long q1), .second, .val (.ref av), .val .null, .val (.long q2), .second, .val (.long q3), .second] [(.int p1), (.ref a)])) (fun _ kz => ?_) ?_
  · show Steps p.tables e below (T1.setTop (mkF m 4 #[.val (.ref a), .val (.int p1), .val (.long q1), .second, .val (.ref av), .val .null, .val (.long q2), .second, .val (.long q3), .second] [])) _
    refine XS.aloadN X1.here hx rfl (hb hby d2_4) rfl rfl ?_
    show Steps p.tables e below (T1.setTop (mkF m 5 #[.val (.ref a), .val (.int p1), .val (.long q1), .second, .val (.ref av), .val .null, .val (.long q2), .second, .val (.long q3), .second] [(.ref a)])) _
    refine XS.iloadN X1.here hx rfl (hb hby d2_5) rfl ?_
    exact kz
  obtain ⟨T2, h2, X2, e2, W2, st2⟩ := putF X1 hx hZ hown (host := "") (Or.inl (hw _ (List.mem_of_getElem? (i := 15) rfl))) Via.refl e1 F_depth_a Ex (Or.inr ⟨(hw _ (List.mem_of_getElem? (i := 16) rfl)), rfl, hnm⟩) (hw _ (List.mem_of_getElem? (i := 7) rfl)) (ty := .int) (by decide) rfl rfl (g := (mkF m 6 #[.val (.ref a), .val (.int p1), .val (.long q1), .second, .val (.ref av), .val .null, .val (.long q2), .second, .val (.long q3), .second] [(.int p1), (.ref a)])) rfl rfl (hb hby d2_6)
  have Fw2 := F_depth_a.same W2
  replace S_l := S_l.wr W2
  replace Ex := Ex.wr W2
  replace By_v := By_v.other W2 ne_av_a
  replace Ex_v := Ex_v.wr W2
  replace F_offset_a := F_offset_a.other W2 (Or.inr (slot_ne (Or.inr (hw _ (List.mem_of_getElem? (i := 18) rfl))) (Or.inr (hw _ (List.mem_of_getElem? (i := 16) rfl))) (by decide) (t := .long) (t' := .int) (by decide) (by decide)))
  replace F_value_a := F_value_a.other W2 (Or.inr (slot_ne (Or.inr (hw _ (List.mem_of_getElem? (i := 34) rfl))) (Or.inr (hw _ (List.mem_of_getElem? (i := 16) rfl))) (by decide) (t := (.array .byte)) (t' := .int) (by decide) (by decide)))
  replace F_mask_a := F_mask_a.other W2 (Or.inr (slot_ne (Or.inr (hw _ (List.mem_of_getElem? (i := 36) rfl))) (Or.inr (hw _ (List.mem_of_getElem? (i := 16) rfl))) (by decide) (t := (.array .byte)) (t' := .int) (by decide) (by decide)))
  replace F_range_a := F_range_a.other W2 (Or.inr (slot_ne (Or.inr (hw _ (List.mem_of_getElem? (i := 38) rfl))) (Or.inr (hw _ (List.mem_of_getElem? (i := 16) rfl))) (by decide) (t := .long) (t' := .int) (by decide) (by decide)))
  have Z2 : n0 ≤ h2.size := Nat.le_trans Z0 (Keep.of_wr W2).1
  have Kp2 : Keep h0 h2 [a] := Kp0.wr W2 (Or.inl (List.mem_of_getElem? (i := 0) rfl))
  have F_depth_a := Fw2
  have N2 := Fr.snoc X2 N0 g_a
  refine own_go (A := T2.setTop (mkF m 9 #[.val (.ref a), .val (.int p1), .val (.long q1), .second, .val (.ref av), .val .null, .val (.long q2), .second, .val (.long q3), .second] [])) (fun _ kz => st2 _ kz) ?_
  refine own_go (A := T2.setTop (mkF m 11 #[.val (.ref a), .val (.int p1), .val (.long q1), .second, .val (.ref av), .val .null, .val (.long q2), .second, .val (.long q3), .second] [(.long q1), (.ref a)])) (fun _ kz => ?_) ?_
  · show Steps p.tables e below (T2.setTop (mkF m 9 #[.val (.ref a), .val (.int p1), .val (.long q1), .second, .val (.ref av), .val .null, .val (.long q2), .second, .val (.long q3), .second] [])) _
    refine XS.aloadN X2.here hx rfl (hb hby d2_9) rfl rfl ?_
    show Steps p.tables e below (T2.setTop (mkF m 10 #[.val (.ref a), .val (.int p1), .val (.long q1), .second, .val (.ref av), .val .null, .val (.long q2), .second, .val (.long q3), .second] [(.ref a)])) _
    refine XS.lloadN X2.here hx rfl (hb hby d2_10) rfl ?_
    exact kz
  obtain ⟨T3, h3, X3, e3, W3, st3⟩ := putF X2 hx hZ hown (host := "") (Or.inl (hw _ (List.mem_of_getElem? (i := 17) rfl))) Via.refl e2 F_offset_a Ex (Or.inr ⟨(hw _ (List.mem_of_getElem? (i := 18) rfl)), rfl, hnm⟩) (hw _ (List.mem_of_getElem? (i := 7) rfl)) (ty := .long) (by decide) rfl rfl (g := (mkF m 11 #[.val (.ref a), .val (.int p1), .val (.long q1), .second, .val (.ref av), .val .null, .val (.long q2), .second, .val (.long q3), .second] [(.long q1), (.ref a)])) rfl rfl (hb hby d2_11)
  have Fw3 := F_offset_a.same W3
  replace S_l := S_l.wr W3
  replace Ex := Ex.wr W3
  replace By_v := By_v.other W3 ne_av_a
  replace Ex_v := Ex_v.wr W3
  replace F_depth_a := F_depth_a.other W3 (Or.inr (slot_ne (Or.inr (hw _ (List.mem_of_getElem? (i := 16) rfl))) (Or.inr (hw _ (List.mem_of_getElem? (i := 18) rfl))) (by decide) (t := .int) (t' := .long) (by decide) (by decide)))
  replace F_value_a := F_value_a.other W3 (Or.inr (slot_ne (Or.inr (hw _ (List.mem_of_getElem? (i := 34) rfl))) (Or.inr (hw _ (List.mem_of_getElem? (i := 18) rfl))) (by decide) (t := (.array .byte)) (t' := .long) (by decide) (by decide)))
  replace F_mask_a := F_mask_a.other W3 (Or.inr (slot_ne (Or.inr (hw _ (List.mem_of_getElem? (i := 36) rfl))) (Or.inr (hw _ (List.mem_of_getElem? (i := 18) rfl))) (by decide) (t := (.array .byte)) (t' := .long) (by decide) (by decide)))
  replace F_range_a := F_range_a.other W3 (Or.inr (slot_ne (Or.inr (hw _ (List.mem_of_getElem? (i := 38) rfl))) (Or.inr (hw _ (List.mem_of_getElem? (i := 18) rfl))) (by decide) (t := .long) (t' := .long) (by decide) (by decide)))
  have Z3 : n0 ≤ h3.size := Nat.le_trans Z2 (Keep.of_wr W3).1
  have Kp3 : Keep h0 h3 [a] := Kp2.wr W3 (Or.inl (List.mem_of_getElem? (i := 0) rfl))
  have F_offset_a := Fw3
  have N3 := Fr.snoc X3 N2 g_a
  refine own_go (A := T3.setTop (mkF m 14 #[.val (.ref a), .val (.int p1), .val (.long q1), .second, .val (.ref av), .val .null, .val (.long q2), .second, .val (.long q3), .second] [])) (fun _ kz => st3 _ kz) ?_
  refine own_go (A := T3.setTop (mkF m 19 #[.val (.ref a), .val (.int p1), .val (.long q1), .second, .val (.ref av), .val .null, .val (.long q2), .second, .val (.long q3), .second] [(.long q2), (.ref av), (.ref a)])) (fun _ kz => ?_) ?_
  · show Steps p.tables e below (T3.setTop (mkF m 14 #[.val (.ref a), .val (.int p1), .val (.long q1), .second, .val (.ref av), .val .null, .val (.long q2), .second, .val (.long q3), .second] [])) _
    refine XS.aloadN X3.here hx rfl (hb hby d2_14) rfl rfl ?_
    show Steps p.tables e below (T3.setTop (mkF m 15 #[.val (.ref a), .val (.int p1), .val (.long q1), .second, .val (.ref av), .val .null, .val (.long q2), .second, .val (.long q3), .second] [(.ref a)])) _
    refine XS.aload X3.here hx rfl (hb hby d2_15) rfl rfl ?_
    show Steps p.tables e below (T3.setTop (mkF m 17 #[.val (.ref a), .val (.int p1), .val (.long q1), .second, .val (.ref av), .val .null, .val (.long q2), .second, .val (.long q3), .second] [(.ref av), (.ref a)])) _
    refine XS.lload X3.here hx rfl (hb hby d2_17) rfl ?_
    exact kz
  obtain ⟨_, _, ⟨T4, L4, k4, n4⟩, -, X4, ⟨Lc4, hQ4, l4, y4, z4⟩, st4⟩ := Jvm.LawKit.callS X3 hx (y := (⟨"com/example/sharp_nose/sharpnose/desktop/MagicRule", "hostOrder", "([BJ)[B"⟩ : MethodName)) hown (mvT hZ (hw _ (List.mem_of_getElem? (i := 19) rfl))) (mvT hZ (hw _ (List.mem_of_getElem? (i := 20) rfl))) (mvT hZ (hw _ (List.mem_of_getElem? (i := 8) rfl))) (mvT hZ (hw _ (List.mem_of_getElem? (i := 21) rfl))) (by decide) (backOf (W := 1) (rmHost l Z a0 hw [] av q2 n h3 n0 Z3 hn By_v Ex_v S_l) hZ (hw _ (List.mem_of_getElem? (i := 21) rfl)) (hw _ (List.mem_of_getElem? (i := 8) rfl)) (by decide) (by decide)) (g := (mkF m 19 #[.val (.ref a), .val (.int p1), .val (.long q1), .second, .val (.ref av), .val .null, .val (.long q2), .second, .val (.long q3), .second] [(.long q2), (.ref av), (.ref a)])) rfl (by rw [hml]; rfl) (argsL := [(.ref av), (.long q2)]) (rest := [(.ref a)]) (lenOf own_pd1 rfl) rfl (by show 2 * 0 + _ ≤ _; exact Nat.le_of_eq rfl) (hb hby d2_19) (fun _ _ => ⟨rfl, e3, (by decide : 0 + 1 ≤ _), (by decide : 0 + 3 ≤ _)⟩)
  dsimp only [Pt.U, Pt.locs, Pt.cells, Pt.slots] at X4 l4 y4 z4 st4 hQ4
  subst l4 y4 z4
  obtain ⟨c4, rfl, N4q, zc4, K4q, By4, Ex4⟩ := hQ4
  have N4 := Fr.app N3 N4q
  have ne_a_c4 : a ≠ c4 := Nat.ne_of_lt (Nat.lt_of_lt_of_le Ex.lt zc4)
  have ne_av_c4 : av ≠ c4 := Nat.ne_of_lt (Nat.lt_of_lt_of_le By_v.lt zc4)
  have g_c4 : n0 ≤ c4 := Nat.le_trans Z3 zc4
  have szk_c4 : h0.size ≤ c4 := Nat.le_trans Kp3.1 zc4
  replace S_l := own_staKeep S_l K4q all0
  replace Ex := Ex.keep K4q
  replace By_v := By_v.keep K4q nin0
  replace Ex_v := Ex_v.keep K4q
  replace F_depth_a := F_depth_a.keep K4q nin0
  replace F_offset_a := F_offset_a.keep K4q nin0
  replace F_value_a := F_value_a.keep K4q nin0
  replace F_mask_a := F_mask_a.keep K4q nin0
  replace F_range_a := F_range_a.keep K4q nin0
  have Z4 : n0 ≤ T4.heap.size := Nat.le_trans Z3 K4q.1
  have Kp4 : Keep h0 T4.heap [a] := Kp3.trans K4q (all0)
  refine own_go (A := T4.setTop (mkF m 22 #[.val (.ref a), .val (.int p1), .val (.long q1), .second, .val (.ref av), .val .null, .val (.long q2), .second, .val (.long q3), .second] [(.ref c4), (.ref a)])) (fun _ kz => st4 _ kz) ?_
  obtain ⟨T5, h5, X5, e5, W5, st5⟩ := putF X4 hx hZ hown (host := "") (Or.inl (hw _ (List.mem_of_getElem? (i := 33) rfl))) Via.refl rfl F_value_a Ex (Or.inr ⟨(hw _ (List.mem_of_getElem? (i := 34) rfl)), rfl, hnm⟩) (hw _ (List.mem_of_getElem? (i := 7) rfl)) (ty := (.array .byte)) (by decide) rfl rfl (g := (mkF m 22 #[.val (.ref a), .val (.int p1), .val (.long q1), .second, .val (.ref av), .val .null, .val (.long q2), .second, .val (.long q3), .second] [(.ref c4), (.ref a)])) rfl rfl (hb hby d2_22)
  have Fw5 := F_value_a.same W5
  replace S_l := S_l.wr W5
  replace Ex := Ex.wr W5
  replace By_v := By_v.other W5 ne_av_a
  replace Ex_v := Ex_v.wr W5
  replace F_depth_a := F_depth_a.other W5 (Or.inr (slot_ne (Or.inr (hw _ (List.mem_of_getElem? (i := 16) rfl))) (Or.inr (hw _ (List.mem_of_getElem? (i := 34) rfl))) (by decide) (t := .int) (t' := (.array .byte)) (by decide) (by decide)))
  replace F_offset_a := F_offset_a.other W5 (Or.inr (slot_ne (Or.inr (hw _ (List.mem_of_getElem? (i := 18) rfl))) (Or.inr (hw _ (List.mem_of_getElem? (i := 34) rfl))) (by decide) (t := .long) (t' := (.array .byte)) (by decide) (by decide)))
  replace F_mask_a := F_mask_a.other W5 (Or.inr (slot_ne (Or.inr (hw _ (List.mem_of_getElem? (i := 36) rfl))) (Or.inr (hw _ (List.mem_of_getElem? (i := 34) rfl))) (by decide) (t := (.array .byte)) (t' := (.array .byte)) (by decide) (by decide)))
  replace F_range_a := F_range_a.other W5 (Or.inr (slot_ne (Or.inr (hw _ (List.mem_of_getElem? (i := 38) rfl))) (Or.inr (hw _ (List.mem_of_getElem? (i := 34) rfl))) (by decide) (t := .long) (t' := (.array .byte)) (by decide) (by decide)))
  replace By4 := By4.other W5 (Ne.symm ne_a_c4)
  replace Ex4 := Ex4.wr W5
  have Z5 : n0 ≤ h5.size := Nat.le_trans Z4 (Keep.of_wr W5).1
  have Kp5 : Keep h0 h5 [a] := Kp4.wr W5 (Or.inl (List.mem_of_getElem? (i := 0) rfl))
  have F_value_a := Fw5
  have N5 := Fr.snoc X5 N4 g_a
  refine own_go (A := T5.setTop (mkF m 25 #[.val (.ref a), .val (.int p1), .val (.long q1), .second, .val (.ref av), .val .null, .val (.long q2), .second, .val (.long q3), .second] [])) (fun _ kz => st5 _ kz) ?_
  refine own_go (A := T5.setTop (mkF m 42 #[.val (.ref a), .val (.int p1), .val (.long q1), .second, .val (.ref av), .val .null, .val (.long q2), .second, .val (.long q3), .second] [.null, (.ref a)])) (fun _ kz => ?_) ?_
  · show Steps p.tables e below (T5.setTop (mkF m 25 #[.val (.ref a), .val (.int p1), .val (.long q1), .second, .val (.ref av), .val .null, .val (.long q2), .second, .val (.long q3), .second] [])) _
    refine XS.aloadN X5.here hx rfl (hb hby d2_25) rfl rfl ?_
    show Steps p.tables e below (T5.setTop (mkF m 26 #[.val (.ref a), .val (.int p1), .val (.long q1), .second, .val (.ref av), .val .null, .val (.long q2), .second, .val (.long q3), .second] [(.ref a)])) _
    refine XS.aload X5.here hx rfl (hb hby d2_26) rfl rfl ?_
    show Steps p.tables e below (T5.setTop (mkF m 28 #[.val (.ref a), .val (.int p1), .val (.long q1), .second, .val (.ref av), .val .null, .val (.long q2), .second, .val (.long q3), .second] [.null, (.ref a)])) _
    refine XS.ifnonnullNo X5.here hx rfl (hb hby d2_28) rfl ?_
    show Steps p.tables e below (T5.setTop (mkF m 31 #[.val (.ref a), .val (.int p1), .val (.long q1), .second, .val (.ref av), .val .null, .val (.long q2), .second, .val (.long q3), .second] [(.ref a)])) _
    refine XS.aconstNull X5.here hx rfl (hb hby d2_31) ?_
    show Steps p.tables e below (T5.setTop (mkF m 32 #[.val (.ref a), .val (.int p1), .val (.long q1), .second, .val (.ref av), .val .null, .val (.long q2), .second, .val (.long q3), .second] [.null, (.ref a)])) _
    refine XS.goto X5.here hx rfl (pc0 := 32) (pc' := 42) rfl (hb hby d2_32) (by decide) (by decide) ?_
    exact kz
  obtain ⟨T6, h6, X6, e6, W6, st6⟩ := putF X5 hx hZ hown (host := "") (Or.inl (hw _ (List.mem_of_getElem? (i := 35) rfl))) Via.refl e5 F_mask_a Ex (Or.inr ⟨(hw _ (List.mem_of_getElem? (i := 36) rfl)), rfl, hnm⟩) (hw _ (List.mem_of_getElem? (i := 7) rfl)) (ty := (.array .byte)) (by decide) rfl rfl (g := (mkF m 42 #[.val (.ref a), .val (.int p1), .val (.long q1), .second, .val (.ref av), .val .null, .val (.long q2), .second, .val (.long q3), .second] [.null, (.ref a)])) rfl rfl (hb hby d2_42)
  have Fw6 := F_mask_a.same W6
  replace S_l := S_l.wr W6
  replace Ex := Ex.wr W6
  replace By_v := By_v.other W6 ne_av_a
  replace Ex_v := Ex_v.wr W6
  replace F_depth_a := F_depth_a.other W6 (Or.inr (slot_ne (Or.inr (hw _ (List.mem_of_getElem? (i := 16) rfl))) (Or.inr (hw _ (List.mem_of_getElem? (i := 36) rfl))) (by decide) (t := .int) (t' := (.array .byte)) (by decide) (by decide)))
  replace F_offset_a := F_offset_a.other W6 (Or.inr (slot_ne (Or.inr (hw _ (List.mem_of_getElem? (i := 18) rfl))) (Or.inr (hw _ (List.mem_of_getElem? (i := 36) rfl))) (by decide) (t := .long) (t' := (.array .byte)) (by decide) (by decide)))
  replace F_value_a := F_value_a.other W6 (Or.inr (slot_ne (Or.inr (hw _ (List.mem_of_getElem? (i := 34) rfl))) (Or.inr (hw _ (List.mem_of_getElem? (i := 36) rfl))) (by decide) (t := (.array .byte)) (t' := (.array .byte)) (by decide) (by decide)))
  replace F_range_a := F_range_a.other W6 (Or.inr (slot_ne (Or.inr (hw _ (List.mem_of_getElem? (i := 38) rfl))) (Or.inr (hw _ (List.mem_of_getElem? (i := 36) rfl))) (by decide) (t := .long) (t' := (.array .byte)) (by decide) (by decide)))
  replace By4 := By4.other W6 (Ne.symm ne_a_c4)
  replace Ex4 := Ex4.wr W6
  have Z6 : n0 ≤ h6.size := Nat.le_trans Z5 (Keep.of_wr W6).1
  have Kp6 : Keep h0 h6 [a] := Kp5.wr W6 (Or.inl (List.mem_of_getElem? (i := 0) rfl))
  have F_mask_a := Fw6
  have N6 := Fr.snoc X6 N5 g_a
  refine own_go (A := T6.setTop (mkF m 45 #[.val (.ref a), .val (.int p1), .val (.long q1), .second, .val (.ref av), .val .null, .val (.long q2), .second, .val (.long q3), .second] [])) (fun _ kz => st6 _ kz) ?_
  refine own_go (A := T6.setTop (mkF m 48 #[.val (.ref a), .val (.int p1), .val (.long q1), .second, .val (.ref av), .val .null, .val (.long q2), .second, .val (.long q3), .second] [(.long q3), (.ref a)])) (fun _ kz => ?_) ?_
  · show Steps p.tables e below (T6.setTop (mkF m 45 #[.val (.ref a), .val (.int p1), .val (.long q1), .second, .val (.ref av), .val .null, .val (.long q2), .second, .val (.long q3), .second] [])) _
    refine XS.aloadN X6.here hx rfl (hb hby d2_45) rfl rfl ?_
    show Steps p.tables e below (T6.setTop (mkF m 46 #[.val (.ref a), .val (.int p1), .val (.long q1), .second, .val (.ref av), .val .null, .val (.long q2), .second, .val (.long q3), .second] [(.ref a)])) _
    refine XS.lload X6.here hx rfl (hb hby d2_46) rfl ?_
    exact kz
  obtain ⟨T7, h7, X7, e7, W7, st7⟩ := putF X6 hx hZ hown (host := "") (Or.inl (hw _ (List.mem_of_getElem? (i := 37) rfl))) Via.refl e6 F_range_a Ex (Or.inr ⟨(hw _ (List.mem_of_getElem? (i := 38) rfl)), rfl, hnm⟩) (hw _ (List.mem_of_getElem? (i := 7) rfl)) (ty := .long) (by decide) rfl rfl (g := (mkF m 48 #[.val (.ref a), .val (.int p1), .val (.long q1), .second, .val (.ref av), .val .null, .val (.long q2), .second, .val (.long q3), .second] [(.long q3), (.ref a)])) rfl rfl (hb hby d2_48)
  have Fw7 := F_range_a.same W7
  replace S_l := S_l.wr W7
  replace Ex := Ex.wr W7
  replace By_v := By_v.other W7 ne_av_a
  replace Ex_v := Ex_v.wr W7
  replace F_depth_a := F_depth_a.other W7 (Or.inr (slot_ne (Or.inr (hw _ (List.mem_of_getElem? (i := 16) rfl))) (Or.inr (hw _ (List.mem_of_getElem? (i := 38) rfl))) (by decide) (t := .int) (t' := .long) (by decide) (by decide)))
  replace F_offset_a := F_offset_a.other W7 (Or.inr (slot_ne (Or.inr (hw _ (List.mem_of_getElem? (i := 18) rfl))) (Or.inr (hw _ (List.mem_of_getElem? (i := 38) rfl))) (by decide) (t := .long) (t' := .long) (by decide) (by decide)))
  replace F_value_a := F_value_a.other W7 (Or.inr (slot_ne (Or.inr (hw _ (List.mem_of_getElem? (i := 34) rfl))) (Or.inr (hw _ (List.mem_of_getElem? (i := 38) rfl))) (by decide) (t := (.array .byte)) (t' := .long) (by decide) (by decide)))
  replace F_mask_a := F_mask_a.other W7 (Or.inr (slot_ne (Or.inr (hw _ (List.mem_of_getElem? (i := 36) rfl))) (Or.inr (hw _ (List.mem_of_getElem? (i := 38) rfl))) (by decide) (t := (.array .byte)) (t' := .long) (by decide) (by decide)))
  replace By4 := By4.other W7 (Ne.symm ne_a_c4)
  replace Ex4 := Ex4.wr W7
  have Z7 : n0 ≤ h7.size := Nat.le_trans Z6 (Keep.of_wr W7).1
  have Kp7 : Keep h0 h7 [a] := Kp6.wr W7 (Or.inl (List.mem_of_getElem? (i := 0) rfl))
  have F_range_a := Fw7
  have N7 := Fr.snoc X7 N6 g_a
  refine own_go (A := T7.setTop (mkF m 51 #[.val (.ref a), .val (.int p1), .val (.long q1), .second, .val (.ref av), .val .null, .val (.long q2), .second, .val (.long q3), .second] [])) (fun _ kz => st7 _ kz) ?_
  obtain ⟨fs, hrr, hrun, hended, hW, hsame⟩ := X7.leave (v := none) (fun _ => rfl)
  refine ⟨_, _, ?_, hrun, hended, _, _, rfl, ?_, ⟨_, rfl⟩, hW, hsame.mono (by decide) (by decide)⟩
  · show Steps p.tables e below (T7.setTop (mkF m 51 #[.val (.ref a), .val (.int p1), .val (.long q1), .second, .val (.ref av), .val .null, .val (.long q2), .second, .val (.long q3), .second] [])) _
    exact X7.returnOut hx Bd.returns (hb hby d2_51) hrr
  · show QrmInitN Z a q1 q3 n h0 n0 _ T7.heap _
    rw [e7]
    exact ⟨c4, rfl, N7, Kp7, szk_c4, Ex, F_offset_a, F_range_a, F_value_a, By4⟩

theorem own_pn0 : plainName "com/example/sharp_nose/sharpnose/desktop/MagicRuleReachPinLaw" = true := by first | (simp [plainName, overriddenIn]; done) | decide +kernel
theorem own_ef0 (m : MethodId) (x0 : Int64) (x1 : Int64) (x2 : Int32) (x3 : Int64) (x4 : Int32) : entryFrame m #[(.long x0), (.long x1), (.int x2), (.long x3), (.int x4)] maxLocals = mkF m 0 #[.val (.long x0), .second, .val (.long x1), .second, .val (.int x2), .val (.long x3), .second, .val (.int x4), .unset, .unset, .unset, .unset, .unset, .unset, .unset, .unset, .unset, .unset, .unset, .unset, .unset, .unset, .unset] [] := by first | (simp [entryFrame, mkF, argsToLocals, Value.category, maxLocals]; done) | rfl
def Qrm0 (Z : State) (q1 q2 : Int64) (p3 : Int32) (q4 : Int64) (p5 : Int32) (h0 : Heap) (n0 : Nat) (v : Option Value) (h : Heap) (L : List Loc) : Prop := v = some (.int 1) ∧ Fr n0 L
set_option maxRecDepth 65536 in
set_option maxHeartbeats 40000000 in
theorem rm0 (l : Launch) (Z : State) (a0 : Array Value) (hw : ∀ d ∈ tables_1, d.before a0 Z = true) (ws : List Jvm.Cond) (q1 q2 : Int64) (p3 : Int32) (q4 : Int64) (p5 : Int32) (h0 : Heap) (n0 : Nat) (Z0 : n0 ≤ h0.size) (S_l : Sta Z h0 "com/example/sharp_nose/sharpnose/desktop/MagicRule" "LITTLE_ENDIAN_HOST" "Z" (.int (1 : Int32))) :
    MetFree l x (head1 (Jvm.Cond.code x code maxLocals ret :: ws) room_1) (fun ar_ U_ => ar_ = #[(.long q1), (.long q2), (.int p3), (.long q4), (.int p5)] ∧ Z.Warmed39 U_.vm ∧ U_.heap = h0) (fun _ _ _ _ _ => True) (fun _ U_ ou_ V_ => ∃ v_ L_, ou_ = .returned v_ ∧ Qrm0 Z q1 q2 p3 q4 p5 h0 n0 v_ V_.heap L_ ∧ FrameEnd U_ ou_ V_ L_ room_1.cells room_1.slots) := by
  refine MetFree.of_bodySF (plainFor_of_name own_pn0) hisR ?_
  intro p e s m args below meth c s₁ Bd hml0 hP hK
  obtain ⟨rfl, hZ, hh⟩ := hP
  have hx := Bd.exec
  have hby := Bd.bytes
  have hml : c.maxLocals = 23 := hml0
  have hown : s.vm.findClass "com/example/sharp_nose/sharpnose/desktop/MagicRuleReachPinLaw" = some m.cls := findClass_of_methodNamed Bd.named
  have hnm := (name_of_methodNamed Bd.named Bd.method).1
  have X0 : Stand p l e room_1 s m #[(.long q1), (.long q2), (.int p3), (.long q4), (.int p5)] below meth c s₁ [] 0 0 := Stand.of_body Bd
  have e0 : s₁.heap = h0 := by rw [← hh, Bd.state]; rfl
  have N0 := Fr.nil n0
  refine own_go (A := s₁.setTop (mkF m 0 #[.val (.long q1), .second, .val (.long q2), .second, .val (.int p3), .val (.long q4), .second, .val (.int p5), .unset, .unset, .unset, .unset, .unset, .unset, .unset, .unset, .unset, .unset, .unset, .unset, .unset, .unset, .unset] [])) (fun t kz => castTop (own_ef0 m q1 q2 p3 q4 p5) kz) ?_
  refine own_go (A := s₁.setTop (mkF m 7 #[.val (.long q1), .second, .val (.long q2), .second, .val (.int p3), .val (.long q4), .second, .val (.int p5), .val (.long (q1 &&& (2147483647 : Int64))), .second, .unset, .unset, .unset, .unset, .unset, .unset, .unset, .unset, .unset, .unset, .unset, .unset, .unset] [])) (fun _ kz => ?_) ?_
  · show Steps p.tables e below (s₁.setTop (mkF m 0 #[.val (.long q1), .second, .val (.long q2), .second, .val (.int p3), .val (.long q4), .second, .val (.int p5), .unset, .unset, .unset, .unset, .unset, .unset, .unset, .unset, .unset, .unset, .unset, .unset, .unset, .unset, .unset] [])) _
    refine XS.lloadN X0.here hx rfl (hb hby at_0) rfl ?_
    show Steps p.tables e below (s₁.setTop (mkF m 1 #[.val (.long q1), .second, .val (.long q2), .second, .val (.int p3), .val (.long q4), .second, .val (.int p5), .unset, .unset, .unset, .unset, .unset, .unset, .unset, .unset, .unset, .unset, .unset, .unset, .unset, .unset, .unset] [(.long q1)])) _
    refine X0.ldc2Long hx hown (mvT hZ (hw _ (List.mem_of_getElem? (i := 0) rfl))) (g := (mkF m 1 #[.val (.long q1), .second, .val (.long q2), .second, .val (.int p3), .val (.long q4), .second, .val (.int p5), .unset, .unset, .unset, .unset, .unset, .unset, .unset, .unset, .unset, .unset, .unset, .unset, .unset, .unset, .unset] [(.long q1)])) rfl (hb hby at_1) _ ?_
    show Steps p.tables e below (s₁.setTop (mkF m 4 #[.val (.long q1), .second, .val (.long q2), .second, .val (.int p3), .val (.long q4), .second, .val (.int p5), .unset, .unset, .unset, .unset, .unset, .unset, .unset, .unset, .unset, .unset, .unset, .unset, .unset, .unset, .unset] [(.long (2147483647 : Int64)), (.long q1)])) _
    refine XS.land X0.here hx rfl (hb hby at_4) rfl ?_
    show Steps p.tables e below (s₁.setTop (mkF m 5 #[.val (.long q1), .second, .val (.long q2), .second, .val (.int p3), .val (.long q4), .second, .val (.int p5), .unset, .unset, .unset, .unset, .unset, .unset, .unset, .unset, .unset, .unset, .unset, .unset, .unset, .unset, .unset] [(.long (q1 &&& (2147483647 : Int64)))])) _
    refine XS.lstore X0.here hx rfl (hb hby at_5) rfl (l' := #[.val (.long q1), .second, .val (.long q2), .second, .val (.int p3), .val (.long q4), .second, .val (.int p5), .val (.long (q1 &&& (2147483647 : Int64))), .second, .unset, .unset, .unset, .unset, .unset, .unset, .unset, .unset, .unset, .unset, .unset, .unset, .unset]) rfl ?_
    exact kz
  obtain ⟨qo, hqo⟩ : ∃ z, z = (q1 &&& (2147483647 : Int64)) := ⟨_, rfl⟩
  refine own_go (A := s₁.setTop (mkF m 7 #[.val (.long q1), .second, .val (.long q2), .second, .val (.int p3), .val (.long q4), .second, .val (.int p5), .val (.long qo), .second, .unset, .unset, .unset, .unset, .unset, .unset, .unset, .unset, .unset, .unset, .unset, .unset, .unset] [])) (fun _ kz => by rw [hqo] at kz; exact kz) ?_
  refine own_go (A := s₁.setTop (mkF m 14 #[.val (.long q1), .second, .val (.long q2), .second, .val (.int p3), .val (.long q4), .second, .val (.int p5), .val (.long qo), .second, .val (.long (q2 &&& (2147483647 : Int64))), .second, .unset, .unset, .unset, .unset, .unset, .unset, .unset, .unset, .unset, .unset, .unset] [])) (fun _ kz => ?_) ?_
  · show Steps p.tables e below (s₁.setTop (mkF m 7 #[.val (.long q1), .second, .val (.long q2), .second, .val (.int p3), .val (.long q4), .second, .val (.int p5), .val (.long qo), .second, .unset, .unset, .unset, .unset, .unset, .unset, .unset, .unset, .unset, .unset, .unset, .unset, .unset] [])) _
    refine XS.lloadN X0.here hx rfl (hb hby at_7) rfl ?_
    show Steps p.tables e below (s₁.setTop (mkF m 8 #[.val (.long q1), .second, .val (.long q2), .second, .val (.int p3), .val (.long q4), .second, .val (.int p5), .val (.long qo), .second, .unset, .unset, .unset, .unset, .unset, .unset, .unset, .unset, .unset, .unset, .unset, .unset, .unset] [(.long q2)])) _
    refine X0.ldc2Long hx hown (mvT hZ (hw _ (List.mem_of_getElem? (i := 0) rfl))) (g := (mkF m 8 #[.val (.long q1), .second, .val (.long q2), .second, .val (.int p3), .val (.long q4), .second, .val (.int p5), .val (.long qo), .second, .unset, .unset, .unset, .unset, .unset, .unset, .unset, .unset, .unset, .unset, .unset, .unset, .unset] [(.long q2)])) rfl (hb hby at_8) _ ?_
    show Steps p.tables e below (s₁.setTop (mkF m 11 #[.val (.long q1), .second, .val (.long q2), .second, .val (.int p3), .val (.long q4), .second, .val (.int p5), .val (.long qo), .second, .unset, .unset, .unset, .unset, .unset, .unset, .unset, .unset, .unset, .unset, .unset, .unset, .unset] [(.long (2147483647 : Int64)), (.long q2)])) _
    refine XS.land X0.here hx rfl (hb hby at_11) rfl ?_
    show Steps p.tables e below (s₁.setTop (mkF m 12 #[.val (.long q1), .second, .val (.long q2), .second, .val (.int p3), .val (.long q4), .second, .val (.int p5), .val (.long qo), .second, .unset, .unset, .unset, .unset, .unset, .unset, .unset, .unset, .unset, .unset, .unset, .unset, .unset] [(.long (q2 &&& (2147483647 : Int64)))])) _
    refine XS.lstore X0.here hx rfl (hb hby at_12) rfl (l' := #[.val (.long q1), .second, .val (.long q2), .second, .val (.int p3), .val (.long q4), .second, .val (.int p5), .val (.long qo), .second, .val (.long (q2 &&& (2147483647 : Int64))), .second, .unset, .unset, .unset, .unset, .unset, .unset, .unset, .unset, .unset, .unset, .unset]) rfl ?_
    exact kz
  obtain ⟨qr, hqr⟩ : ∃ z, z = (q2 &&& (2147483647 : Int64)) := ⟨_, rfl⟩
  refine own_go (A := s₁.setTop (mkF m 14 #[.val (.long q1), .second, .val (.long q2), .second, .val (.int p3), .val (.long q4), .second, .val (.int p5), .val (.long qo), .second, .val (.long qr), .second, .unset, .unset, .unset, .unset, .unset, .unset, .unset, .unset, .unset, .unset, .unset] [])) (fun _ kz => by rw [hqr] at kz; exact kz) ?_
  refine own_go (A := s₁.setTop (mkF m 20 #[.val (.long q1), .second, .val (.long q2), .second, .val (.int p3), .val (.long q4), .second, .val (.int p5), .val (.long qo), .second, .val (.long qr), .second, .val (.int (p3 &&& (3 : Int32))), .unset, .unset, .unset, .unset, .unset, .unset, .unset, .unset, .unset, .unset] [])) (fun _ kz => ?_) ?_
  · show Steps p.tables e below (s₁.setTop (mkF m 14 #[.val (.long q1), .second, .val (.long q2), .second, .val (.int p3), .val (.long q4), .second, .val (.int p5), .val (.long qo), .second, .val (.long qr), .second, .unset, .unset, .unset, .unset, .unset, .unset, .unset, .unset, .unset, .unset, .unset] [])) _
    refine XS.iload X0.here hx rfl (hb hby at_14) rfl ?_
    show Steps p.tables e below (s₁.setTop (mkF m 16 #[.val (.long q1), .second, .val (.long q2), .second, .val (.int p3), .val (.long q4), .second, .val (.int p5), .val (.long qo), .second, .val (.long qr), .second, .unset, .unset, .unset, .unset, .unset, .unset, .unset, .unset, .unset, .unset, .unset] [(.int p3)])) _
    refine XS.iconst X0.here hx rfl (hb hby at_16) ?_
    show Steps p.tables e below (s₁.setTop (mkF m 17 #[.val (.long q1), .second, .val (.long q2), .second, .val (.int p3), .val (.long q4), .second, .val (.int p5), .val (.long qo), .second, .val (.long qr), .second, .unset, .unset, .unset, .unset, .unset, .unset, .unset, .unset, .unset, .unset, .unset] [(.int (3 : Int32)), (.int p3)])) _
    refine XS.iand X0.here hx rfl (hb hby at_17) rfl ?_
    show Steps p.tables e below (s₁.setTop (mkF m 18 #[.val (.long q1), .second, .val (.long q2), .second, .val (.int p3), .val (.long q4), .second, .val (.int p5), .val (.long qo), .second, .val (.long qr), .second, .unset, .unset, .unset, .unset, .unset, .unset, .unset, .unset, .unset, .unset, .unset] [(.int (p3 &&& (3 : Int32)))])) _
    refine XS.istore X0.here hx rfl (hb hby at_18) rfl (l' := #[.val (.long q1), .second, .val (.long q2), .second, .val (.int p3), .val (.long q4), .second, .val (.int p5), .val (.long qo), .second, .val (.long qr), .second, .val (.int (p3 &&& (3 : Int32))), .unset, .unset, .unset, .unset, .unset, .unset, .unset, .unset, .unset, .unset]) rfl ?_
    exact kz
  obtain ⟨n, hn⟩ : ∃ z, z = (p3 &&& (3 : Int32)) := ⟨_, rfl⟩
  refine own_go (A := s₁.setTop (mkF m 20 #[.val (.long q1), .second, .val (.long q2), .second, .val (.int p3), .val (.long q4), .second, .val (.int p5), .val (.long qo), .second, .val (.long qr), .second, .val (.int n), .unset, .unset, .unset, .unset, .unset, .unset, .unset, .unset, .unset, .unset] [])) (fun _ kz => by rw [hn] at kz; exact kz) ?_
  have hn4 := own_n4 _ hn
  refine own_go (A := s₁.setTop (mkF m 26 #[.val (.long q1), .second, .val (.long q2), .second, .val (.int p3), .val (.long q4), .second, .val (.int p5), .val (.long qo), .second, .val (.long qr), .second, .val (.int n), .unset, .unset, .unset, .unset, .unset, .unset, .unset, .unset, .unset, .unset] [(.int (p3 >>> ((2 : Int32) &&& 31))), (.int n)])) (fun _ kz => ?_) ?_
  · show Steps p.tables e below (s₁.setTop (mkF m 20 #[.val (.long q1), .second, .val (.long q2), .second, .val (.int p3), .val (.long q4), .second, .val (.int p5), .val (.long qo), .second, .val (.long qr), .second, .val (.int n), .unset, .unset, .unset, .unset, .unset, .unset, .unset, .unset, .unset, .unset] [])) _
    refine XS.iload X0.here hx rfl (hb hby at_20) rfl ?_
    show Steps p.tables e below (s₁.setTop (mkF m 22 #[.val (.long q1), .second, .val (.long q2), .second, .val (.int p3), .val (.long q4), .second, .val (.int p5), .val (.long qo), .second, .val (.long qr), .second, .val (.int n), .unset, .unset, .unset, .unset, .unset, .unset, .unset, .unset, .unset, .unset] [(.int n)])) _
    refine XS.iload X0.here hx rfl (hb hby at_22) rfl ?_
    show Steps p.tables e below (s₁.setTop (mkF m 24 #[.val (.long q1), .second, .val (.long q2), .second, .val (.int p3), .val (.long q4), .second, .val (.int p5), .val (.long qo), .second, .val (.long qr), .second, .val (.int n), .unset, .unset, .unset, .unset, .unset, .unset, .unset, .unset, .unset, .unset] [(.int p3), (.int n)])) _
    refine XS.iconst X0.here hx rfl (hb hby at_24) ?_
    show Steps p.tables e below (s₁.setTop (mkF m 25 #[.val (.long q1), .second, .val (.long q2), .second, .val (.int p3), .val (.long q4), .second, .val (.int p5), .val (.long qo), .second, .val (.long qr), .second, .val (.int n), .unset, .unset, .unset, .unset, .unset, .unset, .unset, .unset, .unset, .unset] [(.int (2 : Int32)), (.int p3), (.int n)])) _
    refine XS.ishr X0.here hx rfl (hb hby at_25) rfl ?_
    exact kz
  obtain ⟨_, _, ⟨T1, L1, k1, n1⟩, -, X1, ⟨Lc1, hQ1, l1, y1, z1⟩, st1⟩ := Jvm.LawKit.callS X0 hx (y := (⟨"com/example/sharp_nose/sharpnose/desktop/MagicRuleReachPinLaw", "bytes", "(II)[B"⟩ : MethodName)) hown (mvT hZ (hw _ (List.mem_of_getElem? (i := 1) rfl))) (mvT hZ (hw _ (List.mem_of_getElem? (i := 2) rfl))) (mvT hZ (hw _ (List.mem_of_getElem? (i := 3) rfl))) (mvT hZ (hw _ (List.mem_of_getElem? (i := 4) rfl))) (by decide) (backOf (W := 0) (rmBytes l Z a0 hw [] n (p3 >>> ((2 : Int32) &&& 31)) h0 n0 Z0 hn4) hZ (hw _ (List.mem_of_getElem? (i := 4) rfl)) (hw _ (List.mem_of_getElem? (i := 3) rfl)) (by decide) (by decide)) (g := (mkF m 26 #[.val (.long q1), .second, .val (.long q2), .second, .val (.int p3), .val (.long q4), .second, .val (.int p5), .val (.long qo), .second, .val (.long qr), .second, .val (.int n), .unset, .unset, .unset, .unset, .unset, .unset, .unset, .unset, .unset, .unset] [(.int (p3 >>> ((2 : Int32) &&& 31))), (.int n)])) rfl (by rw [hml]; rfl) (argsL := [(.int n), (.int (p3 >>> ((2 : Int32) &&& 31)))]) (rest := []) (lenOf own_pd2 rfl) rfl (by show 2 * 0 + _ ≤ _; exact Nat.le_of_eq rfl) (hb hby at_26) (fun _ _ => ⟨rfl, e0, (by decide : 0 + 1 ≤ _), (by decide : 0 + 3 ≤ _)⟩)
  dsimp only [Pt.U, Pt.locs, Pt.cells, Pt.slots] at X1 l1 y1 z1 st1 hQ1
  subst l1 y1 z1
  obtain ⟨c1, rfl, N1q, zc1, K1q, By1, Ex1⟩ := hQ1
  have N1 := Fr.app N0 N1q
  have g_c1 : n0 ≤ c1 := Nat.le_trans Z0 zc1
  replace S_l := own_staKeep S_l K1q all0
  have Z1 : n0 ≤ T1.heap.size := Nat.le_trans Z0 K1q.1
  refine own_go (A := T1.setTop (mkF m 29 #[.val (.long q1), .second, .val (.long q2), .second, .val (.int p3), .val (.long q4), .second, .val (.int p5), .val (.long qo), .second, .val (.long qr), .second, .val (.int n), .unset, .unset, .unset, .unset, .unset, .unset, .unset, .unset, .unset, .unset] [(.ref c1)])) (fun _ kz => st1 _ kz) ?_
  refine own_go (A := T1.setTop (mkF m 38 #[.val (.long q1), .second, .val (.long q2), .second, .val (.int p3), .val (.long q4), .second, .val (.int p5), .val (.long qo), .second, .val (.long qr), .second, .val (.int n), .val (.ref c1), .unset, .unset, .unset, .unset, .unset, .unset, .unset, .unset, .unset] [(.int ((p3 >>> ((10 : Int32) &&& 31)) &&& (1 : Int32)))])) (fun _ kz => ?_) ?_
  · show Steps p.tables e below (T1.setTop (mkF m 29 #[.val (.long q1), .second, .val (.long q2), .second, .val (.int p3), .val (.long q4), .second, .val (.int p5), .val (.long qo), .second, .val (.long qr), .second, .val (.int n), .unset, .unset, .unset, .unset, .unset, .unset, .unset, .unset, .unset, .unset] [(.ref c1)])) _
    refine XS.astore X1.here hx rfl (hb hby at_29) rfl rfl (l' := #[.val (.long q1), .second, .val (.long q2), .second, .val (.int p3), .val (.long q4), .second, .val (.int p5), .val (.long qo), .second, .val (.long qr), .second, .val (.int n), .val (.ref c1), .unset, .unset, .unset, .unset, .unset, .unset, .unset, .unset, .unset]) rfl ?_
    show Steps p.tables e below (T1.setTop (mkF m 31 #[.val (.long q1), .second, .val (.long q2), .second, .val (.int p3), .val (.long q4), .second, .val (.int p5), .val (.long qo), .second, .val (.long qr), .second, .val (.int n), .val (.ref c1), .unset, .unset, .unset, .unset, .unset, .unset, .unset, .unset, .unset] [])) _
    refine XS.iload X1.here hx rfl (hb hby at_31) rfl ?_
    show Steps p.tables e below (T1.setTop (mkF m 33 #[.val (.long q1), .second, .val (.long q2), .second, .val (.int p3), .val (.long q4), .second, .val (.int p5), .val (.long qo), .second, .val (.long qr), .second, .val (.int n), .val (.ref c1), .unset, .unset, .unset, .unset, .unset, .unset, .unset, .unset, .unset] [(.int p3)])) _
    refine XS.bipush X1.here hx rfl (hb hby at_33) ?_
    show Steps p.tables e below (T1.setTop (mkF m 35 #[.val (.long q1), .second, .val (.long q2), .second, .val (.int p3), .val (.long q4), .second, .val (.int p5), .val (.long qo), .second, .val (.long qr), .second, .val (.int n), .val (.ref c1), .unset, .unset, .unset, .unset, .unset, .unset, .unset, .unset, .unset] [(.int (10 : Int32)), (.int p3)])) _
    refine XS.ishr X1.here hx rfl (hb hby at_35) rfl ?_
    show Steps p.tables e below (T1.setTop (mkF m 36 #[.val (.long q1), .second, .val (.long q2), .second, .val (.int p3), .val (.long q4), .second, .val (.int p5), .val (.long qo), .second, .val (.long qr), .second, .val (.int n), .val (.ref c1), .unset, .unset, .unset, .unset, .unset, .unset, .unset, .unset, .unset] [(.int (p3 >>> ((10 : Int32) &&& 31)))])) _
    refine XS.iconst X1.here hx rfl (hb hby at_36) ?_
    show Steps p.tables e below (T1.setTop (mkF m 37 #[.val (.long q1), .second, .val (.long q2), .second, .val (.int p3), .val (.long q4), .second, .val (.int p5), .val (.long qo), .second, .val (.long qr), .second, .val (.int n), .val (.ref c1), .unset, .unset, .unset, .unset, .unset, .unset, .unset, .unset, .unset] [(.int (1 : Int32)), (.int (p3 >>> ((10 : Int32) &&& 31)))])) _
    refine XS.iand X1.here hx rfl (hb hby at_37) rfl ?_
    exact kz
  by_cases hs2 : ((p3 >>> ((10 : Int32) &&& 31)) &&& (1 : Int32)) = (0 : Int32)
  · skip
    refine own_go (A := T1.setTop (mkF m 54 #[.val (.long q1), .second, .val (.long q2), .second, .val (.int p3), .val (.long q4), .second, .val (.int p5), .val (.long qo), .second, .val (.long qr), .second, .val (.int n), .val (.ref c1), .unset, .unset, .unset, .unset, .unset, .unset, .unset, .unset, .unset] [])) (fun _ kz => ?_) ?_
    · show Steps p.tables e below (T1.setTop (mkF m 38 #[.val (.long q1), .second, .val (.long q2), .second, .val (.int p3), .val (.long q4), .second, .val (.int p5), .val (.long qo), .second, .val (.long qr), .second, .val (.int n), .val (.ref c1), .unset, .unset, .unset, .unset, .unset, .unset, .unset, .unset, .unset] [(.int ((p3 >>> ((10 : Int32) &&& 31)) &&& (1 : Int32)))])) _
      refine XS.ifYes X1.here hx rfl (pc0 := 38) (pc' := 54) rfl (hb hby at_38) rfl ((if0 _ _).trans (teq hs2).1) (by decide) (by decide) ?_
      exact kz
    refine own_go (A := T1.setTop (mkF m 57 #[.val (.long q1), .second, .val (.long q2), .second, .val (.int p3), .val (.long q4), .second, .val (.int p5), .val (.long qo), .second, .val (.long qr), .second, .val (.int n), .val (.ref c1), .val .null, .unset, .unset, .unset, .unset, .unset, .unset, .unset, .unset] [])) (fun _ kz => ?_) ?_
    · show Steps p.tables e below (T1.setTop (mkF m 54 #[.val (.long q1), .second, .val (.long q2), .second, .val (.int p3), .val (.long q4), .second, .val (.int p5), .val (.long qo), .second, .val (.long qr), .second, .val (.int n), .val (.ref c1), .unset, .unset, .unset, .unset, .unset, .unset, .unset, .unset, .unset] [])) _
      refine XS.aconstNull X1.here hx rfl (hb hby at_54) ?_
      show Steps p.tables e below (T1.setTop (mkF m 55 #[.val (.long q1), .second, .val (.long q2), .second, .val (.int p3), .val (.long q4), .second, .val (.int p5), .val (.long qo), .second, .val (.long qr), .second, .val (.int n), .val (.ref c1), .unset, .unset, .unset, .unset, .unset, .unset, .unset, .unset, .unset] [.null])) _
      refine XS.astore X1.here hx rfl (hb hby at_55) rfl rfl (l' := #[.val (.long q1), .second, .val (.long q2), .second, .val (.int p3), .val (.long q4), .second, .val (.int p5), .val (.long qo), .second, .val (.long qr), .second, .val (.int n), .val (.ref c1), .val .null, .unset, .unset, .unset, .unset, .unset, .unset, .unset, .unset]) rfl ?_
      exact kz
    obtain ⟨T3, h3, X3, e3, E3, A3, D3, -, st3⟩ := newO X1 hx hZ hown (hw _ (List.mem_of_getElem? (i := 6) rfl)) (hw _ (List.mem_of_getElem? (i := 7) rfl)) (hw _ (List.mem_of_getElem? (i := 8) rfl)) rfl (g := (mkF m 57 #[.val (.long q1), .second, .val (.long q2), .second, .val (.int p3), .val (.long q4), .second, .val (.int p5), .val (.long qo), .second, .val (.long qr), .second, .val (.int n), .val (.ref c1), .val .null, .unset, .unset, .unset, .unset, .unset, .unset, .unset, .unset] [])) rfl (hb hby at_57) (by decide) (by decide)
    obtain ⟨b3, gq3⟩ : ∃ z, z = T1.heap.size := ⟨_, rfl⟩
    rw [← gq3] at A3 D3 st3
    have g_b3 : n0 ≤ b3 := Nat.le_trans Z1 (Nat.le_of_eq gq3.symm)
    have ne_c1_b3 : c1 ≠ b3 := Nat.ne_of_lt (Nat.lt_of_lt_of_le By1.lt (Nat.le_of_eq gq3.symm))
    replace S_l := S_l.ext E3
    replace By1 := By1.ext E3
    replace Ex1 := Ex1.ext E3
    have Z3 : n0 ≤ h3.size := Nat.le_trans Z1 E3.1
    have Ex_b3 := A3
    have F_depth_b3 : Fld Z h3 b3 "com/example/sharp_nose/sharpnose/desktop/MagicRule" "depth" "I" (.int (0 : Int32)) := D3 (Or.inr (hw _ (List.mem_of_getElem? (i := 16) rfl))) (ty := .int) (by decide)
    have F_offset_b3 : Fld Z h3 b3 "com/example/sharp_nose/sharpnose/desktop/MagicRule" "offset" "J" (.long (0 : Int64)) := D3 (Or.inr (hw _ (List.mem_of_getElem? (i := 18) rfl))) (ty := .long) (by decide)
    have F_value_b3 : Fld Z h3 b3 "com/example/sharp_nose/sharpnose/desktop/MagicRule" "value" "[B" .null := D3 (Or.inr (hw _ (List.mem_of_getElem? (i := 34) rfl))) (ty := (.array .byte)) (by decide)
    have F_mask_b3 : Fld Z h3 b3 "com/example/sharp_nose/sharpnose/desktop/MagicRule" "mask" "[B" .null := D3 (Or.inr (hw _ (List.mem_of_getElem? (i := 36) rfl))) (ty := (.array .byte)) (by decide)
    have F_range_b3 : Fld Z h3 b3 "com/example/sharp_nose/sharpnose/desktop/MagicRule" "range" "J" (.long (0 : Int64)) := D3 (Or.inr (hw _ (List.mem_of_getElem? (i := 38) rfl))) (ty := .long) (by decide)
    refine own_go (A := T3.setTop (mkF m 60 #[.val (.long q1), .second, .val (.long q2), .second, .val (.int p3), .val (.long q4), .second, .val (.int p5), .val (.long qo), .second, .val (.long qr), .second, .val (.int n), .val (.ref c1), .val .null, .unset, .unset, .unset, .unset, .unset, .unset, .unset, .unset] [(.ref b3)])) (fun _ kz => st3 _ kz) ?_
    refine own_go (A := T3.setTop (mkF m 73 #[.val (.long q1), .second, .val (.long q2), .second, .val (.int p3), .val (.long q4), .second, .val (.int p5), .val (.long qo), .second, .val (.long qr), .second, .val (.int n), .val (.ref c1), .val .null, .unset, .unset, .unset, .unset, .unset, .unset, .unset, .unset] [(.long qr), (.long q4), .null, (.ref c1), (.long qo), (.int p5), (.ref b3), (.ref b3)])) (fun _ kz => ?_) ?_
    · show Steps p.tables e below (T3.setTop (mkF m 60 #[.val (.long q1), .second, .val (.long q2), .second, .val (.int p3), .val (.long q4), .second, .val (.int p5), .val (.long qo), .second, .val (.long qr), .second, .val (.int n), .val (.ref c1), .val .null, .unset, .unset, .unset, .unset, .unset, .unset, .unset, .unset] [(.ref b3)])) _
      refine XS.dup X3.here hx rfl (hb hby at_60) rfl rfl ?_
      show Steps p.tables e below (T3.setTop (mkF m 61 #[.val (.long q1), .second, .val (.long q2), .second, .val (.int p3), .val (.long q4), .second, .val (.int p5), .val (.long qo), .second, .val (.long qr), .second, .val (.int n), .val (.ref c1), .val .null, .unset, .unset, .unset, .unset, .unset, .unset, .unset, .unset] [(.ref b3), (.ref b3)])) _
      refine XS.iload X3.here hx rfl (hb hby at_61) rfl ?_
      show Steps p.tables e below (T3.setTop (mkF m 63 #[.val (.long q1), .second, .val (.long q2), .second, .val (.int p3), .val (.long q4), .second, .val (.int p5), .val (.long qo), .second, .val (.long qr), .second, .val (.int n), .val (.ref c1), .val .null, .unset, .unset, .unset, .unset, .unset, .unset, .unset, .unset] [(.int p5), (.ref b3), (.ref b3)])) _
      refine XS.lload X3.here hx rfl (hb hby at_63) rfl ?_
      show Steps p.tables e below (T3.setTop (mkF m 65 #[.val (.long q1), .second, .val (.long q2), .second, .val (.int p3), .val (.long q4), .second, .val (.int p5), .val (.long qo), .second, .val (.long qr), .second, .val (.int n), .val (.ref c1), .val .null, .unset, .unset, .unset, .unset, .unset, .unset, .unset, .unset] [(.long qo), (.int p5), (.ref b3), (.ref b3)])) _
      refine XS.aload X3.here hx rfl (hb hby at_65) rfl rfl ?_
      show Steps p.tables e below (T3.setTop (mkF m 67 #[.val (.long q1), .second, .val (.long q2), .second, .val (.int p3), .val (.long q4), .second, .val (.int p5), .val (.long qo), .second, .val (.long qr), .second, .val (.int n), .val (.ref c1), .val .null, .unset, .unset, .unset, .unset, .unset, .unset, .unset, .unset] [(.ref c1), (.long qo), (.int p5), (.ref b3), (.ref b3)])) _
      refine XS.aload X3.here hx rfl (hb hby at_67) rfl rfl ?_
      show Steps p.tables e below (T3.setTop (mkF m 69 #[.val (.long q1), .second, .val (.long q2), .second, .val (.int p3), .val (.long q4), .second, .val (.int p5), .val (.long qo), .second, .val (.long qr), .second, .val (.int n), .val (.ref c1), .val .null, .unset, .unset, .unset, .unset, .unset, .unset, .unset, .unset] [.null, (.ref c1), (.long qo), (.int p5), (.ref b3), (.ref b3)])) _
      refine XS.lload X3.here hx rfl (hb hby at_69) rfl ?_
      show Steps p.tables e below (T3.setTop (mkF m 71 #[.val (.long q1), .second, .val (.long q2), .second, .val (.int p3), .val (.long q4), .second, .val (.int p5), .val (.long qo), .second, .val (.long qr), .second, .val (.int n), .val (.ref c1), .val .null, .unset, .unset, .unset, .unset, .unset, .unset, .unset, .unset] [(.long q4), .null, (.ref c1), (.long qo), (.int p5), (.ref b3), (.ref b3)])) _
      refine XS.lload X3.here hx rfl (hb hby at_71) rfl ?_
      exact kz
    obtain ⟨_, _, ⟨T4, L4, k4, n4⟩, -, X4, ⟨Lc4, hQ4, l4, y4, z4⟩, st4⟩ := X3.specialBack hx (y := (⟨"com/example/sharp_nose/sharpnose/desktop/MagicRule", "<init>", "(IJ[B[BJJ)V"⟩ : MethodName)) rfl hown (mvT hZ (hw _ (List.mem_of_getElem? (i := 9) rfl))) (mvT hZ (hw _ (List.mem_of_getElem? (i := 10) rfl))) (mvT hZ (hw _ (List.mem_of_getElem? (i := 11) rfl))) (by decide) (backOf (W := 1) (rmInitN l Z a0 hw [] b3 p5 qo c1 q4 qr n h3 n0 Z3 hn4 Ex_b3 By1 Ex1 S_l g_b3 F_depth_b3 F_offset_b3 F_value_b3 F_mask_b3 F_range_b3 ne_c1_b3) hZ (hw _ (List.mem_of_getElem? (i := 11) rfl)) (hw _ (List.mem_of_getElem? (i := 8) rfl)) (by decide) (by decide)) (g := (mkF m 73 #[.val (.long q1), .second, .val (.long q2), .second, .val (.int p3), .val (.long q4), .second, .val (.int p5), .val (.long qo), .second, .val (.long qr), .second, .val (.int n), .val (.ref c1), .val .null, .unset, .unset, .unset, .unset, .unset, .unset, .unset, .unset] [(.long qr), (.long q4), .null, (.ref c1), (.long qo), (.int p5), (.ref b3), (.ref b3)])) rfl (by rw [hml]; rfl) (Steps.refl _) (a := b3) (argsL := [(.int p5), (.long qo), (.ref c1), .null, (.long q4), (.long qr)]) (rest := [(.ref b3)]) (lenOf own_pd3 rfl) rfl (by show 2 * 0 + _ ≤ _; exact Nat.le_of_eq rfl) (hb hby at_73) (fun _ _ => ⟨rfl, e3, (by decide : 2 + 1 ≤ _), (by decide : 8 + 3 ≤ _)⟩)
    dsimp only [Pt.U, Pt.locs, Pt.cells, Pt.slots] at X4 l4 y4 z4 st4 hQ4
    subst l4 y4 z4
    obtain ⟨c4, rfl, N4q, K4q, zc4, _, Fo4, Fr4, Fv4, By4⟩ := hQ4
    have N4 := Fr.app N1 N4q
    have ne_c1_c4 : c1 ≠ c4 := Nat.ne_of_lt (Nat.lt_of_lt_of_le By1.lt zc4)
    have ne_b3_c4 : b3 ≠ c4 := Nat.ne_of_lt (Nat.lt_of_lt_of_le Ex_b3.lt zc4)
    have g_c4 : n0 ≤ c4 := Nat.le_trans Z3 zc4
    replace S_l := own_staKeep S_l K4q (allS (own_ns Ex_b3) all0)
    replace By1 := By1.keep K4q (ninS ne_c1_b3 nin0)
    replace Ex1 := Ex1.keep K4q
    replace Ex_b3 := Ex_b3.keep K4q
    have Z4 : n0 ≤ T4.heap.size := Nat.le_trans Z3 K4q.1
    refine own_go (A := T4.setTop (mkF m 76 #[.val (.long q1), .second, .val (.long q2), .second, .val (.int p3), .val (.long q4), .second, .val (.int p5), .val (.long qo), .second, .val (.long qr), .second, .val (.int n), .val (.ref c1), .val .null, .unset, .unset, .unset, .unset, .unset, .unset, .unset, .unset] [(.ref b3)])) (fun _ kz => st4.trans kz) ?_
    refine own_go (A := T4.setTop (mkF m 80 #[.val (.long q1), .second, .val (.long q2), .second, .val (.int p3), .val (.long q4), .second, .val (.int p5), .val (.long qo), .second, .val (.long qr), .second, .val (.int n), .val (.ref c1), .val .null, .val (.ref b3), .unset, .unset, .unset, .unset, .unset, .unset, .unset] [(.ref b3)])) (fun _ kz => ?_) ?_
    · show Steps p.tables e below (T4.setTop (mkF m 76 #[.val (.long q1), .second, .val (.long q2), .second, .val (.int p3), .val (.long q4), .second, .val (.int p5), .val (.long qo), .second, .val (.long qr), .second, .val (.int n), .val (.ref c1), .val .null, .unset, .unset, .unset, .unset, .unset, .unset, .unset, .unset] [(.ref b3)])) _
      refine XS.astore X4.here hx rfl (hb hby at_76) rfl rfl (l' := #[.val (.long q1), .second, .val (.long q2), .second, .val (.int p3), .val (.long q4), .second, .val (.int p5), .val (.long qo), .second, .val (.long qr), .second, .val (.int n), .val (.ref c1), .val .null, .val (.ref b3), .unset, .unset, .unset, .unset, .unset, .unset, .unset]) rfl ?_
      show Steps p.tables e below (T4.setTop (mkF m 78 #[.val (.long q1), .second, .val (.long q2), .second, .val (.int p3), .val (.long q4), .second, .val (.int p5), .val (.long qo), .second, .val (.long qr), .second, .val (.int n), .val (.ref c1), .val .null, .val (.ref b3), .unset, .unset, .unset, .unset, .unset, .unset, .unset] [])) _
      refine XS.aload X4.here hx rfl (hb hby at_78) rfl rfl ?_
      exact kz
    obtain ⟨cq5, kq5, q5a, q5b, q5c⟩ := isOf hZ rfl Ex_b3
    obtain ⟨_, _, ⟨T5, L5, k5, n5⟩, -, X5, ⟨Lc5, hQ5, l5, y5, z5⟩, st5⟩ := X4.virtualBack hx (y := (⟨"com/example/sharp_nose/sharpnose/desktop/MagicRule", "reach", "()J"⟩ : MethodName)) (z := (⟨"com/example/sharp_nose/sharpnose/desktop/MagicRule", "reach", "()J"⟩ : MethodName)) hown (mvT hZ (hw _ (List.mem_of_getElem? (i := 39) rfl))) (mvT hZ (hw _ (List.mem_of_getElem? (i := 40) rfl))) (notFace_of_selects (args := #[]) (mvT hZ (hw _ (List.mem_of_getElem? (i := 42) rfl)))) (mvT hZ (hw _ (List.mem_of_getElem? (i := 42) rfl))) (mvT hZ (hw _ (List.mem_of_getElem? (i := 41) rfl))) (by decide) (backOf (W := 0) (rmReach l Z a0 hw [] b3 c4 qo qr n T4.heap n0 Z4 Fo4 Fr4 Fv4 By4) hZ (hw _ (List.mem_of_getElem? (i := 43) rfl)) (hw _ (List.mem_of_getElem? (i := 8) rfl)) (by decide) (by decide)) q5a q5c (g := (mkF m 80 #[.val (.long q1), .second, .val (.long q2), .second, .val (.int p3), .val (.long q4), .second, .val (.int p5), .val (.long qo), .second, .val (.long qr), .second, .val (.int n), .val (.ref c1), .val .null, .val (.ref b3), .unset, .unset, .unset, .unset, .unset, .unset, .unset] [(.ref b3)])) rfl (by rw [hml]; rfl) (Steps.refl _) (argsL := []) (rest := []) (lenOf own_pd4 rfl) rfl (by show 2 * 0 + _ ≤ _; exact Nat.le_of_eq rfl) (hb hby at_80) (fun _ _ => ⟨rfl, rfl, (by decide : 3 + 0 ≤ _), (by decide : 11 + 0 ≤ _)⟩)
    dsimp only [Pt.U, Pt.locs, Pt.cells, Pt.slots] at X5 l5 y5 z5 st5 hQ5
    subst l5 y5 z5
    obtain ⟨rfl, N5q, e5⟩ := hQ5
    have N5 := Fr.app N4 N5q
    refine own_go (A := T5.setTop (mkF m 83 #[.val (.long q1), .second, .val (.long q2), .second, .val (.int p3), .val (.long q4), .second, .val (.int p5), .val (.long qo), .second, .val (.long qr), .second, .val (.int n), .val (.ref c1), .val .null, .val (.ref b3), .unset, .unset, .unset, .unset, .unset, .unset, .unset] [(.long (own_reach qo qr n))])) (fun _ kz => st5.trans kz) ?_
    refine own_go (A := T5.setTop (mkF m 89 #[.val (.long q1), .second, .val (.long q2), .second, .val (.int p3), .val (.long q4), .second, .val (.int p5), .val (.long qo), .second, .val (.long qr), .second, .val (.int n), .val (.ref c1), .val .null, .val (.ref b3), .val (.long (own_reach qo qr n)), .second, .unset, .unset, .unset, .unset, .unset] [(.int (lcmpW qr (0 : Int64)))])) (fun _ kz => ?_) ?_
    · show Steps p.tables e below (T5.setTop (mkF m 83 #[.val (.long q1), .second, .val (.long q2), .second, .val (.int p3), .val (.long q4), .second, .val (.int p5), .val (.long qo), .second, .val (.long qr), .second, .val (.int n), .val (.ref c1), .val .null, .val (.ref b3), .unset, .unset, .unset, .unset, .unset, .unset, .unset] [(.long (own_reach qo qr n))])) _
      refine XS.lstore X5.here hx rfl (hb hby at_83) rfl (l' := #[.val (.long q1), .second, .val (.long q2), .second, .val (.int p3), .val (.long q4), .second, .val (.int p5), .val (.long qo), .second, .val (.long qr), .second, .val (.int n), .val (.ref c1), .val .null, .val (.ref b3), .val (.long (own_reach qo qr n)), .second, .unset, .unset, .unset, .unset, .unset]) rfl ?_
      show Steps p.tables e below (T5.setTop (mkF m 85 #[.val (.long q1), .second, .val (.long q2), .second, .val (.int p3), .val (.long q4), .second, .val (.int p5), .val (.long qo), .second, .val (.long qr), .second, .val (.int n), .val (.ref c1), .val .null, .val (.ref b3), .val (.long (own_reach qo qr n)), .second, .unset, .unset, .unset, .unset, .unset] [])) _
      refine XS.lload X5.here hx rfl (hb hby at_85) rfl ?_
      show Steps p.tables e below (T5.setTop (mkF m 87 #[.val (.long q1), .second, .val (.long q2), .second, .val (.int p3), .val (.long q4), .second, .val (.int p5), .val (.long qo), .second, .val (.long qr), .second, .val (.int n), .val (.ref c1), .val .null, .val (.ref b3), .val (.long (own_reach qo qr n)), .second, .unset, .unset, .unset, .unset, .unset] [(.long qr)])) _
      refine XS.lconst X5.here hx rfl (hb hby at_87) ?_
      show Steps p.tables e below (T5.setTop (mkF m 88 #[.val (.long q1), .second, .val (.long q2), .second, .val (.int p3), .val (.long q4), .second, .val (.int p5), .val (.long qo), .second, .val (.long qr), .second, .val (.int n), .val (.ref c1), .val .null, .val (.ref b3), .val (.long (own_reach qo qr n)), .second, .unset, .unset, .unset, .unset, .unset] [(.long (0 : Int64)), (.long qr)])) _
      refine XS.lcmp X5.here hx rfl (hb hby at_88) rfl ?_
      exact kz
    by_cases hs6 : (lcmpW qr (0 : Int64)) = (0 : Int32)
    · skip
      refine own_go (A := T5.setTop (mkF m 92 #[.val (.long q1), .second, .val (.long q2), .second, .val (.int p3), .val (.long q4), .second, .val (.int p5), .val (.long qo), .second, .val (.long qr), .second, .val (.int n), .val (.ref c1), .val .null, .val (.ref b3), .val (.long (own_reach qo qr n)), .second, .unset, .unset, .unset, .unset, .unset] [])) (fun _ kz => ?_) ?_
      · show Steps p.tables e below (T5.setTop (mkF m 89 #[.val (.long q1), .second, .val (.long q2), .second, .val (.int p3), .val (.long q4), .second, .val (.int p5), .val (.long qo), .second, .val (.long qr), .second, .val (.int n), .val (.ref c1), .val .null, .val (.ref b3), .val (.long (own_reach qo qr n)), .second, .unset, .unset, .unset, .unset, .unset] [(.int (lcmpW qr (0 : Int64)))])) _
        refine XS.ifNo X5.here hx rfl (hb hby at_89) rfl ((if0 _ _).trans (teq hs6).2) ?_
        exact kz
      refine own_go (A := T5.setTop (mkF m 104 #[.val (.long q1), .second, .val (.long q2), .second, .val (.int p3), .val (.long q4), .second, .val (.int p5), .val (.long qo), .second, .val (.long qr), .second, .val (.int n), .val (.ref c1), .val .null, .val (.ref b3), .val (.long (own_reach qo qr n)), .second, .unset, .unset, .unset, .unset, .unset] [(.int (1 : Int32))])) (fun _ kz => ?_) ?_
      · show Steps p.tables e below (T5.setTop (mkF m 92 #[.val (.long q1), .second, .val (.long q2), .second, .val (.int p3), .val (.long q4), .second, .val (.int p5), .val (.long qo), .second, .val (.long qr), .second, .val (.int n), .val (.ref c1), .val .null, .val (.ref b3), .val (.long (own_reach qo qr n)), .second, .unset, .unset, .unset, .unset, .unset] [])) _
        refine XS.lload X5.here hx rfl (hb hby at_92) rfl ?_
        show Steps p.tables e below (T5.setTop (mkF m 94 #[.val (.long q1), .second, .val (.long q2), .second, .val (.int p3), .val (.long q4), .second, .val (.int p5), .val (.long qo), .second, .val (.long qr), .second, .val (.int n), .val (.ref c1), .val .null, .val (.ref b3), .val (.long (own_reach qo qr n)), .second, .unset, .unset, .unset, .unset, .unset] [(.long (own_reach qo qr n))])) _
        refine XS.lconst X5.here hx rfl (hb hby at_94) ?_
        show Steps p.tables e below (T5.setTop (mkF m 95 #[.val (.long q1), .second, .val (.long q2), .second, .val (.int p3), .val (.long q4), .second, .val (.int p5), .val (.long qo), .second, .val (.long qr), .second, .val (.int n), .val (.ref c1), .val .null, .val (.ref b3), .val (.long (own_reach qo qr n)), .second, .unset, .unset, .unset, .unset, .unset] [(.long (0 : Int64)), (.long (own_reach qo qr n))])) _
        refine XS.lcmp X5.here hx rfl (hb hby at_95) rfl ?_
        show Steps p.tables e below (T5.setTop (mkF m 96 #[.val (.long q1), .second, .val (.long q2), .second, .val (.int p3), .val (.long q4), .second, .val (.int p5), .val (.long qo), .second, .val (.long qr), .second, .val (.int n), .val (.ref c1), .val .null, .val (.ref b3), .val (.long (own_reach qo qr n)), .second, .unset, .unset, .unset, .unset, .unset] [(.int (lcmpW (own_reach qo qr n) (0 : Int64)))])) _
        refine XS.ifNo X5.here hx rfl (hb hby at_96) rfl ((if0 _ _).trans (teq ((lw_eq _ _).mpr (own_r0 hs6))).2) ?_
        show Steps p.tables e below (T5.setTop (mkF m 99 #[.val (.long q1), .second, .val (.long q2), .second, .val (.int p3), .val (.long q4), .second, .val (.int p5), .val (.long qo), .second, .val (.long qr), .second, .val (.int n), .val (.ref c1), .val .null, .val (.ref b3), .val (.long (own_reach qo qr n)), .second, .unset, .unset, .unset, .unset, .unset] [])) _
        refine XS.iconst X5.here hx rfl (hb hby at_99) ?_
        show Steps p.tables e below (T5.setTop (mkF m 100 #[.val (.long q1), .second, .val (.long q2), .second, .val (.int p3), .val (.long q4), .second, .val (.int p5), .val (.long qo), .second, .val (.long qr), .second, .val (.int n), .val (.ref c1), .val .null, .val (.ref b3), .val (.long (own_reach qo qr n)), .second, .unset, .unset, .unset, .unset, .unset] [(.int (1 : Int32))])) _
        refine XS.goto X5.here hx rfl (pc0 := 100) (pc' := 104) rfl (hb hby at_100) (by decide) (by decide) ?_
        exact kz
      obtain ⟨fs, hrr, hrun, hended, hW, hsame⟩ := X5.leave (v := some (.int (1 : Int32))) (fun h => by rw [Bd.returns] at h; cases h)
      refine ⟨_, _, ?_, hrun, hended, _, _, rfl, ?_, ⟨_, rfl⟩, hW, hsame.mono (by decide) (by decide)⟩
      · show Steps p.tables e below (T5.setTop (mkF m 104 #[.val (.long q1), .second, .val (.long q2), .second, .val (.int p3), .val (.long q4), .second, .val (.int p5), .val (.long qo), .second, .val (.long qr), .second, .val (.int n), .val (.ref c1), .val .null, .val (.ref b3), .val (.long (own_reach qo qr n)), .second, .unset, .unset, .unset, .unset, .unset] [(.int (1 : Int32))])) _
        exact retN X5 hx (t := .boolean) Bd.returns (by simp) (hb hby at_104) hrr
      · show Qrm0 Z q1 q2 p3 q4 p5 h0 n0 _ T5.heap _
        rw [e5]
        exact ⟨rfl, N5⟩
    · skip
      refine own_go (A := T5.setTop (mkF m 105 #[.val (.long q1), .second, .val (.long q2), .second, .val (.int p3), .val (.long q4), .second, .val (.int p5), .val (.long qo), .second, .val (.long qr), .second, .val (.int n), .val (.ref c1), .val .null, .val (.ref b3), .val (.long (own_reach qo qr n)), .second, .unset, .unset, .unset, .unset, .unset] [])) (fun _ kz => ?_) ?_
      · show Steps p.tables e below (T5.setTop (mkF m 89 #[.val (.long q1), .second, .val (.long q2), .second, .val (.int p3), .val (.long q4), .second, .val (.int p5), .val (.long qo), .second, .val (.long qr), .second, .val (.int n), .val (.ref c1), .val .null, .val (.ref b3), .val (.long (own_reach qo qr n)), .second, .unset, .unset, .unset, .unset, .unset] [(.int (lcmpW qr (0 : Int64)))])) _
        refine XS.ifYes X5.here hx rfl (pc0 := 89) (pc' := 105) rfl (hb hby at_89) rfl ((if0 _ _).trans (feq hs6).2) (by decide) (by decide) ?_
        exact kz
      refine own_go (A := T5.setTop (mkF m 114 #[.val (.long q1), .second, .val (.long q2), .second, .val (.int p3), .val (.long q4), .second, .val (.int p5), .val (.long qo), .second, .val (.long qr), .second, .val (.int n), .val (.ref c1), .val .null, .val (.ref b3), .val (.long (own_reach qo qr n)), .second, .val (.long (qo + (qr - (1 : Int64)))), .second, .unset, .unset, .unset] [])) (fun _ kz => ?_) ?_
      · show Steps p.tables e below (T5.setTop (mkF m 105 #[.val (.long q1), .second, .val (.long q2), .second, .val (.int p3), .val (.long q4), .second, .val (.int p5), .val (.long qo), .second, .val (.long qr), .second, .val (.int n), .val (.ref c1), .val .null, .val (.ref b3), .val (.long (own_reach qo qr n)), .second, .unset, .unset, .unset, .unset, .unset] [])) _
        refine XS.lload X5.here hx rfl (hb hby at_105) rfl ?_
        show Steps p.tables e below (T5.setTop (mkF m 107 #[.val (.long q1), .second, .val (.long q2), .second, .val (.int p3), .val (.long q4), .second, .val (.int p5), .val (.long qo), .second, .val (.long qr), .second, .val (.int n), .val (.ref c1), .val .null, .val (.ref b3), .val (.long (own_reach qo qr n)), .second, .unset, .unset, .unset, .unset, .unset] [(.long qo)])) _
        refine XS.lload X5.here hx rfl (hb hby at_107) rfl ?_
        show Steps p.tables e below (T5.setTop (mkF m 109 #[.val (.long q1), .second, .val (.long q2), .second, .val (.int p3), .val (.long q4), .second, .val (.int p5), .val (.long qo), .second, .val (.long qr), .second, .val (.int n), .val (.ref c1), .val .null, .val (.ref b3), .val (.long (own_reach qo qr n)), .second, .unset, .unset, .unset, .unset, .unset] [(.long qr), (.long qo)])) _
        refine XS.lconst X5.here hx rfl (hb hby at_109) ?_
        show Steps p.tables e below (T5.setTop (mkF m 110 #[.val (.long q1), .second, .val (.long q2), .second, .val (.int p3), .val (.long q4), .second, .val (.int p5), .val (.long qo), .second, .val (.long qr), .second, .val (.int n), .val (.ref c1), .val .null, .val (.ref b3), .val (.long (own_reach qo qr n)), .second, .unset, .unset, .unset, .unset, .unset] [(.long (1 : Int64)), (.long qr), (.long qo)])) _
        refine XS.lsub X5.here hx rfl (hb hby at_110) rfl ?_
        show Steps p.tables e below (T5.setTop (mkF m 111 #[.val (.long q1), .second, .val (.long q2), .second, .val (.int p3), .val (.long q4), .second, .val (.int p5), .val (.long qo), .second, .val (.long qr), .second, .val (.int n), .val (.ref c1), .val .null, .val (.ref b3), .val (.long (own_reach qo qr n)), .second, .unset, .unset, .unset, .unset, .unset] [(.long (qr - (1 : Int64))), (.long qo)])) _
        refine XS.ladd X5.here hx rfl (hb hby at_111) rfl ?_
        show Steps p.tables e below (T5.setTop (mkF m 112 #[.val (.long q1), .second, .val (.long q2), .second, .val (.int p3), .val (.long q4), .second, .val (.int p5), .val (.long qo), .second, .val (.long qr), .second, .val (.int n), .val (.ref c1), .val .null, .val (.ref b3), .val (.long (own_reach qo qr n)), .second, .unset, .unset, .unset, .unset, .unset] [(.long (qo + (qr - (1 : Int64))))])) _
        refine XS.lstore X5.here hx rfl (hb hby at_112) rfl (l' := #[.val (.long q1), .second, .val (.long q2), .second, .val (.int p3), .val (.long q4), .second, .val (.int p5), .val (.long qo), .second, .val (.long qr), .second, .val (.int n), .val (.ref c1), .val .null, .val (.ref b3), .val (.long (own_reach qo qr n)), .second, .val (.long (qo + (qr - (1 : Int64)))), .second, .unset, .unset, .unset]) rfl ?_
        exact kz
      obtain ⟨T7, h7, X7, e7, E7, A7, D7, -, st7⟩ := newO X5 hx hZ hown (hw _ (List.mem_of_getElem? (i := 6) rfl)) (hw _ (List.mem_of_getElem? (i := 7) rfl)) (hw _ (List.mem_of_getElem? (i := 8) rfl)) e5 (g := (mkF m 114 #[.val (.long q1), .second, .val (.long q2), .second, .val (.int p3), .val (.long q4), .second, .val (.int p5), .val (.long qo), .second, .val (.long qr), .second, .val (.int n), .val (.ref c1), .val .null, .val (.ref b3), .val (.long (own_reach qo qr n)), .second, .val (.long (qo + (qr - (1 : Int64)))), .second, .unset, .unset, .unset] [])) rfl (hb hby at_114) (by decide) (by decide)
      obtain ⟨b7, gq7⟩ : ∃ z, z = T4.heap.size := ⟨_, rfl⟩
      rw [← gq7] at A7 D7 st7
      have g_b7 : n0 ≤ b7 := Nat.le_trans Z4 (Nat.le_of_eq gq7.symm)
      have ne_c1_b7 : c1 ≠ b7 := Nat.ne_of_lt (Nat.lt_of_lt_of_le By1.lt (Nat.le_of_eq gq7.symm))
      have ne_b3_b7 : b3 ≠ b7 := Nat.ne_of_lt (Nat.lt_of_lt_of_le Ex_b3.lt (Nat.le_of_eq gq7.symm))
      have ne_c4_b7 : c4 ≠ b7 := Nat.ne_of_lt (Nat.lt_of_lt_of_le By4.lt (Nat.le_of_eq gq7.symm))
      replace S_l := S_l.ext E7
      replace By1 := By1.ext E7
      replace Ex1 := Ex1.ext E7
      replace Ex_b3 := Ex_b3.ext E7
      replace By4 := By4.ext E7
      replace Fo4 := Fo4.ext E7
      replace Fr4 := Fr4.ext E7
      replace Fv4 := Fv4.ext E7
      have Z7 : n0 ≤ h7.size := Nat.le_trans Z4 E7.1
      have Ex_b7 := A7
      have F_depth_b7 : Fld Z h7 b7 "com/example/sharp_nose/sharpnose/desktop/MagicRule" "depth" "I" (.int (0 : Int32)) := D7 (Or.inr (hw _ (List.mem_of_getElem? (i := 16) rfl))) (ty := .int) (by decide)
      have F_offset_b7 : Fld Z h7 b7 "com/example/sharp_nose/sharpnose/desktop/MagicRule" "offset" "J" (.long (0 : Int64)) := D7 (Or.inr (hw _ (List.mem_of_getElem? (i := 18) rfl))) (ty := .long) (by decide)
      have F_value_b7 : Fld Z h7 b7 "com/example/sharp_nose/sharpnose/desktop/MagicRule" "value" "[B" .null := D7 (Or.inr (hw _ (List.mem_of_getElem? (i := 34) rfl))) (ty := (.array .byte)) (by decide)
      have F_mask_b7 : Fld Z h7 b7 "com/example/sharp_nose/sharpnose/desktop/MagicRule" "mask" "[B" .null := D7 (Or.inr (hw _ (List.mem_of_getElem? (i := 36) rfl))) (ty := (.array .byte)) (by decide)
      have F_range_b7 : Fld Z h7 b7 "com/example/sharp_nose/sharpnose/desktop/MagicRule" "range" "J" (.long (0 : Int64)) := D7 (Or.inr (hw _ (List.mem_of_getElem? (i := 38) rfl))) (ty := .long) (by decide)
      refine own_go (A := T7.setTop (mkF m 117 #[.val (.long q1), .second, .val (.long q2), .second, .val (.int p3), .val (.long q4), .second, .val (.int p5), .val (.long qo), .second, .val (.long qr), .second, .val (.int n), .val (.ref c1), .val .null, .val (.ref b3), .val (.long (own_reach qo qr n)), .second, .val (.long (qo + (qr - (1 : Int64)))), .second, .unset, .unset, .unset] [(.ref b7)])) (fun _ kz => st7 _ kz) ?_
      refine own_go (A := T7.setTop (mkF m 124 #[.val (.long q1), .second, .val (.long q2), .second, .val (.int p3), .val (.long q4), .second, .val (.int p5), .val (.long qo), .second, .val (.long qr), .second, .val (.int n), .val (.ref c1), .val .null, .val (.ref b3), .val (.long (own_reach qo qr n)), .second, .val (.long (qo + (qr - (1 : Int64)))), .second, .unset, .unset, .unset] [(.int (0 : Int32)), (.int n), (.long (qo + (qr - (1 : Int64)))), (.int (0 : Int32)), (.ref b7), (.ref b7)])) (fun _ kz => ?_) ?_
      · show Steps p.tables e below (T7.setTop (mkF m 117 #[.val (.long q1), .second, .val (.long q2), .second, .val (.int p3), .val (.long q4), .second, .val (.int p5), .val (.long qo), .second, .val (.long qr), .second, .val (.int n), .val (.ref c1), .val .null, .val (.ref b3), .val (.long (own_reach qo qr n)), .second, .val (.long (qo + (qr - (1 : Int64)))), .second, .unset, .unset, .unset] [(.ref b7)])) _
        refine XS.dup X7.here hx rfl (hb hby at_117) rfl rfl ?_
        show Steps p.tables e below (T7.setTop (mkF m 118 #[.val (.long q1), .second, .val (.long q2), .second, .val (.int p3), .val (.long q4), .second, .val (.int p5), .val (.long qo), .second, .val (.long qr), .second, .val (.int n), .val (.ref c1), .val .null, .val (.ref b3), .val (.long (own_reach qo qr n)), .second, .val (.long (qo + (qr - (1 : Int64)))), .second, .unset, .unset, .unset] [(.ref b7), (.ref b7)])) _
        refine XS.iconst X7.here hx rfl (hb hby at_118) ?_
        show Steps p.tables e below (T7.setTop (mkF m 119 #[.val (.long q1), .second, .val (.long q2), .second, .val (.int p3), .val (.long q4), .second, .val (.int p5), .val (.long qo), .second, .val (.long qr), .second, .val (.int n), .val (.ref c1), .val .null, .val (.ref b3), .val (.long (own_reach qo qr n)), .second, .val (.long (qo + (qr - (1 : Int64)))), .second, .unset, .unset, .unset] [(.int (0 : Int32)), (.ref b7), (.ref b7)])) _
        refine XS.lload X7.here hx rfl (hb hby at_119) rfl ?_
        show Steps p.tables e below (T7.setTop (mkF m 121 #[.val (.long q1), .second, .val (.long q2), .second, .val (.int p3), .val (.long q4), .second, .val (.int p5), .val (.long qo), .second, .val (.long qr), .second, .val (.int n), .val (.ref c1), .val .null, .val (.ref b3), .val (.long (own_reach qo qr n)), .second, .val (.long (qo + (qr - (1 : Int64)))), .second, .unset, .unset, .unset] [(.long (qo + (qr - (1 : Int64)))), (.int (0 : Int32)), (.ref b7), (.ref b7)])) _
        refine XS.iload X7.here hx rfl (hb hby at_121) rfl ?_
        show Steps p.tables e below (T7.setTop (mkF m 123 #[.val (.long q1), .second, .val (.long q2), .second, .val (.int p3), .val (.long q4), .second, .val (.int p5), .val (.long qo), .second, .val (.long qr), .second, .val (.int n), .val (.ref c1), .val .null, .val (.ref b3), .val (.long (own_reach qo qr n)), .second, .val (.long (qo + (qr - (1 : Int64)))), .second, .unset, .unset, .unset] [(.int n), (.long (qo + (qr - (1 : Int64)))), (.int (0 : Int32)), (.ref b7), (.ref b7)])) _
        refine XS.iconst X7.here hx rfl (hb hby at_123) ?_
        exact kz
      obtain ⟨_, _, ⟨T8, L8, k8, n8⟩, -, X8, ⟨Lc8, hQ8, l8, y8, z8⟩, st8⟩ := Jvm.LawKit.callS X7 hx (y := (⟨"com/example/sharp_nose/sharpnose/desktop/MagicRuleReachPinLaw", "bytes", "(II)[B"⟩ : MethodName)) hown (mvT hZ (hw _ (List.mem_of_getElem? (i := 1) rfl))) (mvT hZ (hw _ (List.mem_of_getElem? (i := 2) rfl))) (mvT hZ (hw _ (List.mem_of_getElem? (i := 3) rfl))) (mvT hZ (hw _ (List.mem_of_getElem? (i := 4) rfl))) (by decide) (backOf (W := 5) (rmBytes l Z a0 hw [] n (0 : Int32) h7 n0 Z7 hn4) hZ (hw _ (List.mem_of_getElem? (i := 4) rfl)) (hw _ (List.mem_of_getElem? (i := 3) rfl)) (by decide) (by decide)) (g := (mkF m 124 #[.val (.long q1), .second, .val (.long q2), .second, .val (.int p3), .val (.long q4), .second, .val (.int p5), .val (.long qo), .second, .val (.long qr), .second, .val (.int n), .val (.ref c1), .val .null, .val (.ref b3), .val (.long (own_reach qo qr n)), .second, .val (.long (qo + (qr - (1 : Int64)))), .second, .unset, .unset, .unset] [(.int (0 : Int32)), (.int n), (.long (qo + (qr - (1 : Int64)))), (.int (0 : Int32)), (.ref b7), (.ref b7)])) rfl (by rw [hml]; rfl) (argsL := [(.int n), (.int (0 : Int32))]) (rest := [(.long (qo + (qr - (1 : Int64)))), (.int (0 : Int32)), (.ref b7), (.ref b7)]) (lenOf own_pd2 rfl) rfl (by show 2 * 0 + _ ≤ _; exact Nat.le_of_eq rfl) (hb hby at_124) (fun _ _ => ⟨rfl, e7, (by decide : 4 + 1 ≤ _), (by decide : 16 + 3 ≤ _)⟩)
      dsimp only [Pt.U, Pt.locs, Pt.cells, Pt.slots] at X8 l8 y8 z8 st8 hQ8
      subst l8 y8 z8
      obtain ⟨c8, rfl, N8q, zc8, K8q, By8, Ex8⟩ := hQ8
      have N8 := Fr.app N5 N8q
      have ne_c1_c8 : c1 ≠ c8 := Nat.ne_of_lt (Nat.lt_of_lt_of_le By1.lt zc8)
      have ne_b3_c8 : b3 ≠ c8 := Nat.ne_of_lt (Nat.lt_of_lt_of_le Ex_b3.lt zc8)
      have ne_c4_c8 : c4 ≠ c8 := Nat.ne_of_lt (Nat.lt_of_lt_of_le By4.lt zc8)
      have ne_b7_c8 : b7 ≠ c8 := Nat.ne_of_lt (Nat.lt_of_lt_of_le Ex_b7.lt zc8)
      have g_c8 : n0 ≤ c8 := Nat.le_trans Z7 zc8
      replace S_l := own_staKeep S_l K8q all0
      replace By1 := By1.keep K8q nin0
      replace Ex1 := Ex1.keep K8q
      replace Ex_b3 := Ex_b3.keep K8q
      replace By4 := By4.keep K8q nin0
      replace Fo4 := Fo4.keep K8q nin0
      replace Fr4 := Fr4.keep K8q nin0
      replace Fv4 := Fv4.keep K8q nin0
      replace Ex_b7 := Ex_b7.keep K8q
      replace F_depth_b7 := F_depth_b7.keep K8q nin0
      replace F_offset_b7 := F_offset_b7.keep K8q nin0
      replace F_value_b7 := F_value_b7.keep K8q nin0
      replace F_mask_b7 := F_mask_b7.keep K8q nin0
      replace F_range_b7 := F_range_b7.keep K8q nin0
      have Z8 : n0 ≤ T8.heap.size := Nat.le_trans Z7 K8q.1
      refine own_go (A := T8.setTop (mkF m 127 #[.val (.long q1), .second, .val (.long q2), .second, .val (.int p3), .val (.long q4), .second, .val (.int p5), .val (.long qo), .second, .val (.long qr), .second, .val (.int n), .val (.ref c1), .val .null, .val (.ref b3), .val (.long (own_reach qo qr n)), .second, .val (.long (qo + (qr - (1 : Int64)))), .second, .unset, .unset, .unset] [(.ref c8), (.long (qo + (qr - (1 : Int64)))), (.int (0 : Int32)), (.ref b7), (.ref b7)])) (fun _ kz => st8 _ kz) ?_
      refine own_go (A := T8.setTop (mkF m 130 #[.val (.long q1), .second, .val (.long q2), .second, .val (.int p3), .val (.long q4), .second, .val (.int p5), .val (.long qo), .second, .val (.long qr), .second, .val (.int n), .val (.ref c1), .val .null, .val (.ref b3), .val (.long (own_reach qo qr n)), .second, .val (.long (qo + (qr - (1 : Int64)))), .second, .unset, .unset, .unset] [(.long (1 : Int64)), (.long (1 : Int64)), .null, (.ref c8), (.long (qo + (qr - (1 : Int64)))), (.int (0 : Int32)), (.ref b7), (.ref b7)])) (fun _ kz => ?_) ?_
      · show Steps p.tables e below (T8.setTop (mkF m 127 #[.val (.long q1), .second, .val (.long q2), .second, .val (.int p3), .val (.long q4), .second, .val (.int p5), .val (.long qo), .second, .val (.long qr), .second, .val (.int n), .val (.ref c1), .val .null, .val (.ref b3), .val (.long (own_reach qo qr n)), .second, .val (.long (qo + (qr - (1 : Int64)))), .second, .unset, .unset, .unset] [(.ref c8), (.long (qo + (qr - (1 : Int64)))), (.int (0 : Int32)), (.ref b7), (.ref b7)])) _
        refine XS.aconstNull X8.here hx rfl (hb hby at_127) ?_
        show Steps p.tables e below (T8.setTop (mkF m 128 #[.val (.long q1), .second, .val (.long q2), .second, .val (.int p3), .val (.long q4), .second, .val (.int p5), .val (.long qo), .second, .val (.long qr), .second, .val (.int n), .val (.ref c1), .val .null, .val (.ref b3), .val (.long (own_reach qo qr n)), .second, .val (.long (qo + (qr - (1 : Int64)))), .second, .unset, .unset, .unset] [.null, (.ref c8), (.long (qo + (qr - (1 : Int64)))), (.int (0 : Int32)), (.ref b7), (.ref b7)])) _
        refine XS.lconst X8.here hx rfl (hb hby at_128) ?_
        show Steps p.tables e below (T8.setTop (mkF m 129 #[.val (.long q1), .second, .val (.long q2), .second, .val (.int p3), .val (.long q4), .second, .val (.int p5), .val (.long qo), .second, .val (.long qr), .second, .val (.int n), .val (.ref c1), .val .null, .val (.ref b3), .val (.long (own_reach qo qr n)), .second, .val (.long (qo + (qr - (1 : Int64)))), .second, .unset, .unset, .unset] [(.long (1 : Int64)), .null, (.ref c8), (.long (qo + (qr - (1 : Int64)))), (.int (0 : Int32)), (.ref b7), (.ref b7)])) _
        refine XS.lconst X8.here hx rfl (hb hby at_129) ?_
        exact kz
      obtain ⟨_, _, ⟨T9, L9, k9, n9⟩, -, X9, ⟨Lc9, hQ9, l9, y9, z9⟩, st9⟩ := X8.specialBack hx (y := (⟨"com/example/sharp_nose/sharpnose/desktop/MagicRule", "<init>", "(IJ[B[BJJ)V"⟩ : MethodName)) rfl hown (mvT hZ (hw _ (List.mem_of_getElem? (i := 9) rfl))) (mvT hZ (hw _ (List.mem_of_getElem? (i := 10) rfl))) (mvT hZ (hw _ (List.mem_of_getElem? (i := 11) rfl))) (by decide) (backOf (W := 1) (rmInitN l Z a0 hw [] b7 (0 : Int32) (qo + (qr - (1 : Int64))) c8 (1 : Int64) (1 : Int64) n T8.heap n0 Z8 hn4 Ex_b7 By8 Ex8 S_l g_b7 F_depth_b7 F_offset_b7 F_value_b7 F_mask_b7 F_range_b7 (Ne.symm ne_b7_c8)) hZ (hw _ (List.mem_of_getElem? (i := 11) rfl)) (hw _ (List.mem_of_getElem? (i := 8) rfl)) (by decide) (by decide)) (g := (mkF m 130 #[.val (.long q1), .second, .val (.long q2), .second, .val (.int p3), .val (.long q4), .second, .val (.int p5), .val (.long qo), .second, .val (.long qr), .second, .val (.int n), .val (.ref c1), .val .null, .val (.ref b3), .val (.long (own_reach qo qr n)), .second, .val (.long (qo + (qr - (1 : Int64)))), .second, .unset, .unset, .unset] [(.long (1 : Int64)), (.long (1 : Int64)), .null, (.ref c8), (.long (qo + (qr - (1 : Int64)))), (.int (0 : Int32)), (.ref b7), (.ref b7)])) rfl (by rw [hml]; rfl) (Steps.refl _) (a := b7) (argsL := [(.int (0 : Int32)), (.long (qo + (qr - (1 : Int64)))), (.ref c8), .null, (.long (1 : Int64)), (.long (1 : Int64))]) (rest := [(.ref b7)]) (lenOf own_pd3 rfl) rfl (by show 2 * 0 + _ ≤ _; exact Nat.le_of_eq rfl) (hb hby at_130) (fun _ _ => ⟨rfl, rfl, (by decide : 5 + 1 ≤ _), (by decide : 19 + 3 ≤ _)⟩)
      dsimp only [Pt.U, Pt.locs, Pt.cells, Pt.slots] at X9 l9 y9 z9 st9 hQ9
      subst l9 y9 z9
      obtain ⟨c9, rfl, N9q, K9q, zc9, _, Fo9, Fr9, Fv9, By9⟩ := hQ9
      have N9 := Fr.app N8 N9q
      have ne_c1_c9 : c1 ≠ c9 := Nat.ne_of_lt (Nat.lt_of_lt_of_le By1.lt zc9)
      have ne_b3_c9 : b3 ≠ c9 := Nat.ne_of_lt (Nat.lt_of_lt_of_le Ex_b3.lt zc9)
      have ne_c4_c9 : c4 ≠ c9 := Nat.ne_of_lt (Nat.lt_of_lt_of_le By4.lt zc9)
      have ne_b7_c9 : b7 ≠ c9 := Nat.ne_of_lt (Nat.lt_of_lt_of_le Ex_b7.lt zc9)
      have ne_c8_c9 : c8 ≠ c9 := Nat.ne_of_lt (Nat.lt_of_lt_of_le By8.lt zc9)
      have g_c9 : n0 ≤ c9 := Nat.le_trans Z8 zc9
      replace S_l := own_staKeep S_l K9q (allS (own_ns Ex_b7) all0)
      replace By1 := By1.keep K9q (ninS ne_c1_b7 nin0)
      replace Ex1 := Ex1.keep K9q
      replace Ex_b3 := Ex_b3.keep K9q
      replace By4 := By4.keep K9q (ninS ne_c4_b7 nin0)
      replace Fo4 := Fo4.keep K9q (ninS ne_b3_b7 nin0)
      replace Fr4 := Fr4.keep K9q (ninS ne_b3_b7 nin0)
      replace Fv4 := Fv4.keep K9q (ninS ne_b3_b7 nin0)
      replace Ex_b7 := Ex_b7.keep K9q
      replace By8 := By8.keep K9q (ninS (Ne.symm ne_b7_c8) nin0)
      replace Ex8 := Ex8.keep K9q
      have Z9 : n0 ≤ T9.heap.size := Nat.le_trans Z8 K9q.1
      refine own_go (A := T9.setTop (mkF m 133 #[.val (.long q1), .second, .val (.long q2), .second, .val (.int p3), .val (.long q4), .second, .val (.int p5), .val (.long qo), .second, .val (.long qr), .second, .val (.int n), .val (.ref c1), .val .null, .val (.ref b3), .val (.long (own_reach qo qr n)), .second, .val (.long (qo + (qr - (1 : Int64)))), .second, .unset, .unset, .unset] [(.ref b7)])) (fun _ kz => st9.trans kz) ?_
      refine own_go (A := T9.setTop (mkF m 137 #[.val (.long q1), .second, .val (.long q2), .second, .val (.int p3), .val (.long q4), .second, .val (.int p5), .val (.long qo), .second, .val (.long qr), .second, .val (.int n), .val (.ref c1), .val .null, .val (.ref b3), .val (.long (own_reach qo qr n)), .second, .val (.long (qo + (qr - (1 : Int64)))), .second, .val (.ref b7), .unset, .unset] [(.ref b7)])) (fun _ kz => ?_) ?_
      · show Steps p.tables e below (T9.setTop (mkF m 133 #[.val (.long q1), .second, .val (.long q2), .second, .val (.int p3), .val (.long q4), .second, .val (.int p5), .val (.long qo), .second, .val (.long qr), .second, .val (.int n), .val (.ref c1), .val .null, .val (.ref b3), .val (.long (own_reach qo qr n)), .second, .val (.long (qo + (qr - (1 : Int64)))), .second, .unset, .unset, .unset] [(.ref b7)])) _
        refine XS.astore X9.here hx rfl (hb hby at_133) rfl rfl (l' := #[.val (.long q1), .second, .val (.long q2), .second, .val (.int p3), .val (.long q4), .second, .val (.int p5), .val (.long qo), .second, .val (.long qr), .second, .val (.int n), .val (.ref c1), .val .null, .val (.ref b3), .val (.long (own_reach qo qr n)), .second, .val (.long (qo + (qr - (1 : Int64)))), .second, .val (.ref b7), .unset, .unset]) rfl ?_
        show Steps p.tables e below (T9.setTop (mkF m 135 #[.val (.long q1), .second, .val (.long q2), .second, .val (.int p3), .val (.long q4), .second, .val (.int p5), .val (.long qo), .second, .val (.long qr), .second, .val (.int n), .val (.ref c1), .val .null, .val (.ref b3), .val (.long (own_reach qo qr n)), .second, .val (.long (qo + (qr - (1 : Int64)))), .second, .val (.ref b7), .unset, .unset] [])) _
        refine XS.aload X9.here hx rfl (hb hby at_135) rfl rfl ?_
        exact kz
      obtain ⟨cq10, kq10, q10a, q10b, q10c⟩ := isOf hZ rfl Ex_b7
      obtain ⟨_, _, ⟨T10, L10, k10, n10⟩, -, X10, ⟨Lc10, hQ10, l10, y10, z10⟩, st10⟩ := X9.virtualBack hx (y := (⟨"com/example/sharp_nose/sharpnose/desktop/MagicRule", "reach", "()J"⟩ : MethodName)) (z := (⟨"com/example/sharp_nose/sharpnose/desktop/MagicRule", "reach", "()J"⟩ : MethodName)) hown (mvT hZ (hw _ (List.mem_of_getElem? (i := 39) rfl))) (mvT hZ (hw _ (List.mem_of_getElem? (i := 40) rfl))) (notFace_of_selects (args := #[]) (mvT hZ (hw _ (List.mem_of_getElem? (i := 42) rfl)))) (mvT hZ (hw _ (List.mem_of_getElem? (i := 42) rfl))) (mvT hZ (hw _ (List.mem_of_getElem? (i := 41) rfl))) (by decide) (backOf (W := 0) (rmReach l Z a0 hw [] b7 c9 (qo + (qr - (1 : Int64))) (1 : Int64) n T9.heap n0 Z9 Fo9 Fr9 Fv9 By9) hZ (hw _ (List.mem_of_getElem? (i := 43) rfl)) (hw _ (List.mem_of_getElem? (i := 8) rfl)) (by decide) (by decide)) q10a q10c (g := (mkF m 137 #[.val (.long q1), .second, .val (.long q2), .second, .val (.int p3), .val (.long q4), .second, .val (.int p5), .val (.long qo), .second, .val (.long qr), .second, .val (.int n), .val (.ref c1), .val .null, .val (.ref b3), .val (.long (own_reach qo qr n)), .second, .val (.long (qo + (qr - (1 : Int64)))), .second, .val (.ref b7), .unset, .unset] [(.ref b7)])) rfl (by rw [hml]; rfl) (Steps.refl _) (argsL := []) (rest := []) (lenOf own_pd4 rfl) rfl (by show 2 * 0 + _ ≤ _; exact Nat.le_of_eq rfl) (hb hby at_137) (fun _ _ => ⟨rfl, rfl, (by decide : 6 + 0 ≤ _), (by decide : 22 + 0 ≤ _)⟩)
      dsimp only [Pt.U, Pt.locs, Pt.cells, Pt.slots] at X10 l10 y10 z10 st10 hQ10
      subst l10 y10 z10
      obtain ⟨rfl, N10q, e10⟩ := hQ10
      have N10 := Fr.app N9 N10q
      refine own_go (A := T10.setTop (mkF m 140 #[.val (.long q1), .second, .val (.long q2), .second, .val (.int p3), .val (.long q4), .second, .val (.int p5), .val (.long qo), .second, .val (.long qr), .second, .val (.int n), .val (.ref c1), .val .null, .val (.ref b3), .val (.long (own_reach qo qr n)), .second, .val (.long (qo + (qr - (1 : Int64)))), .second, .val (.ref b7), .unset, .unset] [(.long (own_reach (qo + (qr - (1 : Int64))) (1 : Int64) n))])) (fun _ kz => st10.trans kz) ?_
      refine own_go (A := T10.setTop (mkF m 167 #[.val (.long q1), .second, .val (.long q2), .second, .val (.int p3), .val (.long q4), .second, .val (.int p5), .val (.long qo), .second, .val (.long qr), .second, .val (.int n), .val (.ref c1), .val .null, .val (.ref b3), .val (.long (own_reach qo qr n)), .second, .val (.long (qo + (qr - (1 : Int64)))), .second, .val (.ref b7), .val (.long (own_reach (qo + (qr - (1 : Int64))) (1 : Int64) n)), .second] [(.int (1 : Int32))])) (fun _ kz => ?_) ?_
      · show Steps p.tables e below (T10.setTop (mkF m 140 #[.val (.long q1), .second, .val (.long q2), .second, .val (.int p3), .val (.long q4), .second, .val (.int p5), .val (.long qo), .second, .val (.long qr), .second, .val (.int n), .val (.ref c1), .val .null, .val (.ref b3), .val (.long (own_reach qo qr n)), .second, .val (.long (qo + (qr - (1 : Int64)))), .second, .val (.ref b7), .unset, .unset] [(.long (own_reach (qo + (qr - (1 : Int64))) (1 : Int64) n))])) _
        refine XS.lstore X10.here hx rfl (hb hby at_140) rfl (l' := #[.val (.long q1), .second, .val (.long q2), .second, .val (.int p3), .val (.long q4), .second, .val (.int p5), .val (.long qo), .second, .val (.long qr), .second, .val (.int n), .val (.ref c1), .val .null, .val (.ref b3), .val (.long (own_reach qo qr n)), .second, .val (.long (qo + (qr - (1 : Int64)))), .second, .val (.ref b7), .val (.long (own_reach (qo + (qr - (1 : Int64))) (1 : Int64) n)), .second]) rfl ?_
        show Steps p.tables e below (T10.setTop (mkF m 142 #[.val (.long q1), .second, .val (.long q2), .second, .val (.int p3), .val (.long q4), .second, .val (.int p5), .val (.long qo), .second, .val (.long qr), .second, .val (.int n), .val (.ref c1), .val .null, .val (.ref b3), .val (.long (own_reach qo qr n)), .second, .val (.long (qo + (qr - (1 : Int64)))), .second, .val (.ref b7), .val (.long (own_reach (qo + (qr - (1 : Int64))) (1 : Int64) n)), .second] [])) _
        refine XS.lload X10.here hx rfl (hb hby at_142) rfl ?_
        show Steps p.tables e below (T10.setTop (mkF m 144 #[.val (.long q1), .second, .val (.long q2), .second, .val (.int p3), .val (.long q4), .second, .val (.int p5), .val (.long qo), .second, .val (.long qr), .second, .val (.int n), .val (.ref c1), .val .null, .val (.ref b3), .val (.long (own_reach qo qr n)), .second, .val (.long (qo + (qr - (1 : Int64)))), .second, .val (.ref b7), .val (.long (own_reach (qo + (qr - (1 : Int64))) (1 : Int64) n)), .second] [(.long (own_reach qo qr n))])) _
        refine XS.lload X10.here hx rfl (hb hby at_144) rfl ?_
        show Steps p.tables e below (T10.setTop (mkF m 146 #[.val (.long q1), .second, .val (.long q2), .second, .val (.int p3), .val (.long q4), .second, .val (.int p5), .val (.long qo), .second, .val (.long qr), .second, .val (.int n), .val (.ref c1), .val .null, .val (.ref b3), .val (.long (own_reach qo qr n)), .second, .val (.long (qo + (qr - (1 : Int64)))), .second, .val (.ref b7), .val (.long (own_reach (qo + (qr - (1 : Int64))) (1 : Int64) n)), .second] [(.long (own_reach (qo + (qr - (1 : Int64))) (1 : Int64) n)), (.long (own_reach qo qr n))])) _
        refine XS.lcmp X10.here hx rfl (hb hby at_146) rfl ?_
        show Steps p.tables e below (T10.setTop (mkF m 147 #[.val (.long q1), .second, .val (.long q2), .second, .val (.int p3), .val (.long q4), .second, .val (.int p5), .val (.long qo), .second, .val (.long qr), .second, .val (.int n), .val (.ref c1), .val .null, .val (.ref b3), .val (.long (own_reach qo qr n)), .second, .val (.long (qo + (qr - (1 : Int64)))), .second, .val (.ref b7), .val (.long (own_reach (qo + (qr - (1 : Int64))) (1 : Int64) n)), .second] [(.int (lcmpW (own_reach qo qr n) (own_reach (qo + (qr - (1 : Int64))) (1 : Int64) n)))])) _
        refine XS.ifNo X10.here hx rfl (hb hby at_147) rfl ((if0 _ _).trans (teq ((lw_eq _ _).mpr (own_r1 hs6))).2) ?_
        show Steps p.tables e below (T10.setTop (mkF m 150 #[.val (.long q1), .second, .val (.long q2), .second, .val (.int p3), .val (.long q4), .second, .val (.int p5), .val (.long qo), .second, .val (.long qr), .second, .val (.int n), .val (.ref c1), .val .null, .val (.ref b3), .val (.long (own_reach qo qr n)), .second, .val (.long (qo + (qr - (1 : Int64)))), .second, .val (.ref b7), .val (.long (own_reach (qo + (qr - (1 : Int64))) (1 : Int64) n)), .second] [])) _
        refine XS.lload X10.here hx rfl (hb hby at_150) rfl ?_
        show Steps p.tables e below (T10.setTop (mkF m 152 #[.val (.long q1), .second, .val (.long q2), .second, .val (.int p3), .val (.long q4), .second, .val (.int p5), .val (.long qo), .second, .val (.long qr), .second, .val (.int n), .val (.ref c1), .val .null, .val (.ref b3), .val (.long (own_reach qo qr n)), .second, .val (.long (qo + (qr - (1 : Int64)))), .second, .val (.ref b7), .val (.long (own_reach (qo + (qr - (1 : Int64))) (1 : Int64) n)), .second] [(.long (own_reach (qo + (qr - (1 : Int64))) (1 : Int64) n))])) _
        refine XS.lload X10.here hx rfl (hb hby at_152) rfl ?_
        show Steps p.tables e below (T10.setTop (mkF m 154 #[.val (.long q1), .second, .val (.long q2), .second, .val (.int p3), .val (.long q4), .second, .val (.int p5), .val (.long qo), .second, .val (.long qr), .second, .val (.int n), .val (.ref c1), .val .null, .val (.ref b3), .val (.long (own_reach qo qr n)), .second, .val (.long (qo + (qr - (1 : Int64)))), .second, .val (.ref b7), .val (.long (own_reach (qo + (qr - (1 : Int64))) (1 : Int64) n)), .second] [(.long (qo + (qr - (1 : Int64)))), (.long (own_reach (qo + (qr - (1 : Int64))) (1 : Int64) n))])) _
        refine XS.iload X10.here hx rfl (hb hby at_154) rfl ?_
        show Steps p.tables e below (T10.setTop (mkF m 156 #[.val (.long q1), .second, .val (.long q2), .second, .val (.int p3), .val (.long q4), .second, .val (.int p5), .val (.long qo), .second, .val (.long qr), .second, .val (.int n), .val (.ref c1), .val .null, .val (.ref b3), .val (.long (own_reach qo qr n)), .second, .val (.long (qo + (qr - (1 : Int64)))), .second, .val (.ref b7), .val (.long (own_reach (qo + (qr - (1 : Int64))) (1 : Int64) n)), .second] [(.int n), (.long (qo + (qr - (1 : Int64)))), (.long (own_reach (qo + (qr - (1 : Int64))) (1 : Int64) n))])) _
        refine XS.i2l X10.here hx rfl (hb hby at_156) rfl ?_
        show Steps p.tables e below (T10.setTop (mkF m 157 #[.val (.long q1), .second, .val (.long q2), .second, .val (.int p3), .val (.long q4), .second, .val (.int p5), .val (.long qo), .second, .val (.long qr), .second, .val (.int n), .val (.ref c1), .val .null, .val (.ref b3), .val (.long (own_reach qo qr n)), .second, .val (.long (qo + (qr - (1 : Int64)))), .second, .val (.ref b7), .val (.long (own_reach (qo + (qr - (1 : Int64))) (1 : Int64) n)), .second] [(.long (n.toInt64)), (.long (qo + (qr - (1 : Int64)))), (.long (own_reach (qo + (qr - (1 : Int64))) (1 : Int64) n))])) _
        refine XS.ladd X10.here hx rfl (hb hby at_157) rfl ?_
        show Steps p.tables e below (T10.setTop (mkF m 158 #[.val (.long q1), .second, .val (.long q2), .second, .val (.int p3), .val (.long q4), .second, .val (.int p5), .val (.long qo), .second, .val (.long qr), .second, .val (.int n), .val (.ref c1), .val .null, .val (.ref b3), .val (.long (own_reach qo qr n)), .second, .val (.long (qo + (qr - (1 : Int64)))), .second, .val (.ref b7), .val (.long (own_reach (qo + (qr - (1 : Int64))) (1 : Int64) n)), .second] [(.long ((qo + (qr - (1 : Int64))) + (n.toInt64))), (.long (own_reach (qo + (qr - (1 : Int64))) (1 : Int64) n))])) _
        refine XS.lcmp X10.here hx rfl (hb hby at_158) rfl ?_
        show Steps p.tables e below (T10.setTop (mkF m 159 #[.val (.long q1), .second, .val (.long q2), .second, .val (.int p3), .val (.long q4), .second, .val (.int p5), .val (.long qo), .second, .val (.long qr), .second, .val (.int n), .val (.ref c1), .val .null, .val (.ref b3), .val (.long (own_reach qo qr n)), .second, .val (.long (qo + (qr - (1 : Int64)))), .second, .val (.ref b7), .val (.long (own_reach (qo + (qr - (1 : Int64))) (1 : Int64) n)), .second] [(.int (lcmpW (own_reach (qo + (qr - (1 : Int64))) (1 : Int64) n) ((qo + (qr - (1 : Int64))) + (n.toInt64))))])) _
        refine XS.ifNo X10.here hx rfl (hb hby at_159) rfl ((if0 _ _).trans (teq ((lw_eq _ _).mpr own_r2)).2) ?_
        show Steps p.tables e below (T10.setTop (mkF m 162 #[.val (.long q1), .second, .val (.long q2), .second, .val (.int p3), .val (.long q4), .second, .val (.int p5), .val (.long qo), .second, .val (.long qr), .second, .val (.int n), .val (.ref c1), .val .null, .val (.ref b3), .val (.long (own_reach qo qr n)), .second, .val (.long (qo + (qr - (1 : Int64)))), .second, .val (.ref b7), .val (.long (own_reach (qo + (qr - (1 : Int64))) (1 : Int64) n)), .second] [])) _
        refine XS.iconst X10.here hx rfl (hb hby at_162) ?_
        show Steps p.tables e below (T10.setTop (mkF m 163 #[.val (.long q1), .second, .val (.long q2), .second, .val (.int p3), .val (.long q4), .second, .val (.int p5), .val (.long qo), .second, .val (.long qr), .second, .val (.int n), .val (.ref c1), .val .null, .val (.ref b3), .val (.long (own_reach qo qr n)), .second, .val (.long (qo + (qr - (1 : Int64)))), .second, .val (.ref b7), .val (.long (own_reach (qo + (qr - (1 : Int64))) (1 : Int64) n)), .second] [(.int (1 : Int32))])) _
        refine XS.goto X10.here hx rfl (pc0 := 163) (pc' := 167) rfl (hb hby at_163) (by decide) (by decide) ?_
        exact kz
      obtain ⟨fs, hrr, hrun, hended, hW, hsame⟩ := X10.leave (v := some (.int (1 : Int32))) (fun h => by rw [Bd.returns] at h; cases h)
      refine ⟨_, _, ?_, hrun, hended, _, _, rfl, ?_, ⟨_, rfl⟩, hW, hsame.mono (by decide) (by decide)⟩
      · show Steps p.tables e below (T10.setTop (mkF m 167 #[.val (.long q1), .second, .val (.long q2), .second, .val (.int p3), .val (.long q4), .second, .val (.int p5), .val (.long qo), .second, .val (.long qr), .second, .val (.int n), .val (.ref c1), .val .null, .val (.ref b3), .val (.long (own_reach qo qr n)), .second, .val (.long (qo + (qr - (1 : Int64)))), .second, .val (.ref b7), .val (.long (own_reach (qo + (qr - (1 : Int64))) (1 : Int64) n)), .second] [(.int (1 : Int32))])) _
        exact retN X10 hx (t := .boolean) Bd.returns (by simp) (hb hby at_167) hrr
      · show Qrm0 Z q1 q2 p3 q4 p5 h0 n0 _ T10.heap _
        rw [e10]
        exact ⟨rfl, N10⟩
  · skip
    refine own_go (A := T1.setTop (mkF m 41 #[.val (.long q1), .second, .val (.long q2), .second, .val (.int p3), .val (.long q4), .second, .val (.int p5), .val (.long qo), .second, .val (.long qr), .second, .val (.int n), .val (.ref c1), .unset, .unset, .unset, .unset, .unset, .unset, .unset, .unset, .unset] [])) (fun _ kz => ?_) ?_
    · show Steps p.tables e below (T1.setTop (mkF m 38 #[.val (.long q1), .second, .val (.long q2), .second, .val (.int p3), .val (.long q4), .second, .val (.int p5), .val (.long qo), .second, .val (.long qr), .second, .val (.int n), .val (.ref c1), .unset, .unset, .unset, .unset, .unset, .unset, .unset, .unset, .unset] [(.int ((p3 >>> ((10 : Int32) &&& 31)) &&& (1 : Int32)))])) _
      refine XS.ifNo X1.here hx rfl (hb hby at_38) rfl ((if0 _ _).trans (feq hs2).1) ?_
      exact kz
    refine own_go (A := T1.setTop (mkF m 48 #[.val (.long q1), .second, .val (.long q2), .second, .val (.int p3), .val (.long q4), .second, .val (.int p5), .val (.long qo), .second, .val (.long qr), .second, .val (.int n), .val (.ref c1), .unset, .unset, .unset, .unset, .unset, .unset, .unset, .unset, .unset] [(.int (p3 >>> ((11 : Int32) &&& 31))), (.int n)])) (fun _ kz => ?_) ?_
    · show Steps p.tables e below (T1.setTop (mkF m 41 #[.val (.long q1), .second, .val (.long q2), .second, .val (.int p3), .val (.long q4), .second, .val (.int p5), .val (.long qo), .second, .val (.long qr), .second, .val (.int n), .val (.ref c1), .unset, .unset, .unset, .unset, .unset, .unset, .unset, .unset, .unset] [])) _
      refine XS.iload X1.here hx rfl (hb hby at_41) rfl ?_
      show Steps p.tables e below (T1.setTop (mkF m 43 #[.val (.long q1), .second, .val (.long q2), .second, .val (.int p3), .val (.long q4), .second, .val (.int p5), .val (.long qo), .second, .val (.long qr), .second, .val (.int n), .val (.ref c1), .unset, .unset, .unset, .unset, .unset, .unset, .unset, .unset, .unset] [(.int n)])) _
      refine XS.iload X1.here hx rfl (hb hby at_43) rfl ?_
      show Steps p.tables e below (T1.setTop (mkF m 45 #[.val (.long q1), .second, .val (.long q2), .second, .val (.int p3), .val (.long q4), .second, .val (.int p5), .val (.long qo), .second, .val (.long qr), .second, .val (.int n), .val (.ref c1), .unset, .unset, .unset, .unset, .unset, .unset, .unset, .unset, .unset] [(.int p3), (.int n)])) _
      refine XS.bipush X1.here hx rfl (hb hby at_45) ?_
      show Steps p.tables e below (T1.setTop (mkF m 47 #[.val (.long q1), .second, .val (.long q2), .second, .val (.int p3), .val (.long q4), .second, .val (.int p5), .val (.long qo), .second, .val (.long qr), .second, .val (.int n), .val (.ref c1), .unset, .unset, .unset, .unset, .unset, .unset, .unset, .unset, .unset] [(.int (11 : Int32)), (.int p3), (.int n)])) _
      refine XS.ishr X1.here hx rfl (hb hby at_47) rfl ?_
      exact kz
    obtain ⟨_, _, ⟨T11, L11, k11, n11⟩, -, X11, ⟨Lc11, hQ11, l11, y11, z11⟩, st11⟩ := Jvm.LawKit.callS X1 hx (y := (⟨"com/example/sharp_nose/sharpnose/desktop/MagicRuleReachPinLaw", "bytes", "(II)[B"⟩ : MethodName)) hown (mvT hZ (hw _ (List.mem_of_getElem? (i := 1) rfl))) (mvT hZ (hw _ (List.mem_of_getElem? (i := 2) rfl))) (mvT hZ (hw _ (List.mem_of_getElem? (i := 3) rfl))) (mvT hZ (hw _ (List.mem_of_getElem? (i := 4) rfl))) (by decide) (backOf (W := 0) (rmBytes l Z a0 hw [] n (p3 >>> ((11 : Int32) &&& 31)) T1.heap n0 Z1 hn4) hZ (hw _ (List.mem_of_getElem? (i := 4) rfl)) (hw _ (List.mem_of_getElem? (i := 3) rfl)) (by decide) (by decide)) (g := (mkF m 48 #[.val (.long q1), .second, .val (.long q2), .second, .val (.int p3), .val (.long q4), .second, .val (.int p5), .val (.long qo), .second, .val (.long qr), .second, .val (.int n), .val (.ref c1), .unset, .unset, .unset, .unset, .unset, .unset, .unset, .unset, .unset] [(.int (p3 >>> ((11 : Int32) &&& 31))), (.int n)])) rfl (by rw [hml]; rfl) (argsL := [(.int n), (.int (p3 >>> ((11 : Int32) &&& 31)))]) (rest := []) (lenOf own_pd2 rfl) rfl (by show 2 * 0 + _ ≤ _; exact Nat.le_of_eq rfl) (hb hby at_48) (fun _ _ => ⟨rfl, rfl, (by decide : 1 + 1 ≤ _), (by decide : 3 + 3 ≤ _)⟩)
    dsimp only [Pt.U, Pt.locs, Pt.cells, Pt.slots] at X11 l11 y11 z11 st11 hQ11
    subst l11 y11 z11
    obtain ⟨c11, rfl, N11q, zc11, K11q, By11, Ex11⟩ := hQ11
    have N11 := Fr.app N1 N11q
    have ne_c1_c11 : c1 ≠ c11 := Nat.ne_of_lt (Nat.lt_of_lt_of_le By1.lt zc11)
    have g_c11 : n0 ≤ c11 := Nat.le_trans Z1 zc11
    replace S_l := own_staKeep S_l K11q all0
    replace By1 := By1.keep K11q nin0
    replace Ex1 := Ex1.keep K11q
    have Z11 : n0 ≤ T11.heap.size := Nat.le_trans Z1 K11q.1
    refine own_go (A := T11.setTop (mkF m 51 #[.val (.long q1), .second, .val (.long q2), .second, .val (.int p3), .val (.long q4), .second, .val (.int p5), .val (.long qo), .second, .val (.long qr), .second, .val (.int n), .val (.ref c1), .unset, .unset, .unset, .unset, .unset, .unset, .unset, .unset, .unset] [(.ref c11)])) (fun _ kz => st11 _ kz) ?_
    refine own_go (A := T11.setTop (mkF m 57 #[.val (.long q1), .second, .val (.long q2), .second, .val (.int p3), .val (.long q4), .second, .val (.int p5), .val (.long qo), .second, .val (.long qr), .second, .val (.int n), .val (.ref c1), .val (.ref c11), .unset, .unset, .unset, .unset, .unset, .unset, .unset, .unset] [])) (fun _ kz => ?_) ?_
    · show Steps p.tables e below (T11.setTop (mkF m 51 #[.val (.long q1), .second, .val (.long q2), .second, .val (.int p3), .val (.long q4), .second, .val (.int p5), .val (.long qo), .second, .val (.long qr), .second, .val (.int n), .val (.ref c1), .unset, .unset, .unset, .unset, .unset, .unset, .unset, .unset, .unset] [(.ref c11)])) _
      refine XS.goto X11.here hx rfl (pc0 := 51) (pc' := 55) rfl (hb hby at_51) (by decide) (by decide) ?_
      show Steps p.tables e below (T11.setTop (mkF m 55 #[.val (.long q1), .second, .val (.long q2), .second, .val (.int p3), .val (.long q4), .second, .val (.int p5), .val (.long qo), .second, .val (.long qr), .second, .val (.int n), .val (.ref c1), .unset, .unset, .unset, .unset, .unset, .unset, .unset, .unset, .unset] [(.ref c11)])) _
      refine XS.astore X11.here hx rfl (hb hby at_55) rfl rfl (l' := #[.val (.long q1), .second, .val (.long q2), .second, .val (.int p3), .val (.long q4), .second, .val (.int p5), .val (.long qo), .second, .val (.long qr), .second, .val (.int n), .val (.ref c1), .val (.ref c11), .unset, .unset, .unset, .unset, .unset, .unset, .unset, .unset]) rfl ?_
      exact kz
    obtain ⟨T12, h12, X12, e12, E12, A12, D12, -, st12⟩ := newO X11 hx hZ hown (hw _ (List.mem_of_getElem? (i := 6) rfl)) (hw _ (List.mem_of_getElem? (i := 7) rfl)) (hw _ (List.mem_of_getElem? (i := 8) rfl)) rfl (g := (mkF m 57 #[.val (.long q1), .second, .val (.long q2), .second, .val (.int p3), .val (.long q4), .second, .val (.int p5), .val (.long qo), .second, .val (.long qr), .second, .val (.int n), .val (.ref c1), .val (.ref c11), .unset, .unset, .unset, .unset, .unset, .unset, .unset, .unset] [])) rfl (hb hby at_57) (by decide) (by decide)
    obtain ⟨b12, gq12⟩ : ∃ z, z = T11.heap.size := ⟨_, rfl⟩
    rw [← gq12] at A12 D12 st12
    have g_b12 : n0 ≤ b12 := Nat.le_trans Z11 (Nat.le_of_eq gq12.symm)
    have ne_c1_b12 : c1 ≠ b12 := Nat.ne_of_lt (Nat.lt_of_lt_of_le By1.lt (Nat.le_of_eq gq12.symm))
    have ne_c11_b12 : c11 ≠ b12 := Nat.ne_of_lt (Nat.lt_of_lt_of_le By11.lt (Nat.le_of_eq gq12.symm))
    replace S_l := S_l.ext E12
    replace By1 := By1.ext E12
    replace Ex1 := Ex1.ext E12
    replace By11 := By11.ext E12
    replace Ex11 := Ex11.ext E12
    have Z12 : n0 ≤ h12.size := Nat.le_trans Z11 E12.1
    have Ex_b12 := A12
    have F_depth_b12 : Fld Z h12 b12 "com/example/sharp_nose/sharpnose/desktop/MagicRule" "depth" "I" (.int (0 : Int32)) := D12 (Or.inr (hw _ (List.mem_of_getElem? (i := 16) rfl))) (ty := .int) (by decide)
    have F_offset_b12 : Fld Z h12 b12 "com/example/sharp_nose/sharpnose/desktop/MagicRule" "offset" "J" (.long (0 : Int64)) := D12 (Or.inr (hw _ (List.mem_of_getElem? (i := 18) rfl))) (ty := .long) (by decide)
    have F_value_b12 : Fld Z h12 b12 "com/example/sharp_nose/sharpnose/desktop/MagicRule" "value" "[B" .null := D12 (Or.inr (hw _ (List.mem_of_getElem? (i := 34) rfl))) (ty := (.array .byte)) (by decide)
    have F_mask_b12 : Fld Z h12 b12 "com/example/sharp_nose/sharpnose/desktop/MagicRule" "mask" "[B" .null := D12 (Or.inr (hw _ (List.mem_of_getElem? (i := 36) rfl))) (ty := (.array .byte)) (by decide)
    have F_range_b12 : Fld Z h12 b12 "com/example/sharp_nose/sharpnose/desktop/MagicRule" "range" "J" (.long (0 : Int64)) := D12 (Or.inr (hw _ (List.mem_of_getElem? (i := 38) rfl))) (ty := .long) (by decide)
    refine own_go (A := T12.setTop (mkF m 60 #[.val (.long q1), .second, .val (.long q2), .second, .val (.int p3), .val (.long q4), .second, .val (.int p5), .val (.long qo), .second, .val (.long qr), .second, .val (.int n), .val (.ref c1), .val (.ref c11), .unset, .unset, .unset, .unset, .unset, .unset, .unset, .unset] [(.ref b12)])) (fun _ kz => st12 _ kz) ?_
    refine own_go (A := T12.setTop (mkF m 73 #[.val (.long q1), .second, .val (.long q2), .second, .val (.int p3), .val (.long q4), .second, .val (.int p5), .val (.long qo), .second, .val (.long qr), .second, .val (.int n), .val (.ref c1), .val (.ref c11), .unset, .unset, .unset, .unset, .unset, .unset, .unset, .unset] [(.long qr), (.long q4), (.ref c11), (.ref c1), (.long qo), (.int p5), (.ref b12), (.ref b12)])) (fun _ kz => ?_) ?_
    · show Steps p.tables e below (T12.setTop (mkF m 60 #[.val (.long q1), .second, .val (.long q2), .second, .val (.int p3), .val (.long q4), .second, .val (.int p5), .val (.long qo), .second, .val (.long qr), .second, .val (.int n), .val (.ref c1), .val (.ref c11), .unset, .unset, .unset, .unset, .unset, .unset, .unset, .unset] [(.ref b12)])) _
      refine XS.dup X12.here hx rfl (hb hby at_60) rfl rfl ?_
      show Steps p.tables e below (T12.setTop (mkF m 61 #[.val (.long q1), .second, .val (.long q2), .second, .val (.int p3), .val (.long q4), .second, .val (.int p5), .val (.long qo), .second, .val (.long qr), .second, .val (.int n), .val (.ref c1), .val (.ref c11), .unset, .unset, .unset, .unset, .unset, .unset, .unset, .unset] [(.ref b12), (.ref b12)])) _
      refine XS.iload X12.here hx rfl (hb hby at_61) rfl ?_
      show Steps p.tables e below (T12.setTop (mkF m 63 #[.val (.long q1), .second, .val (.long q2), .second, .val (.int p3), .val (.long q4), .second, .val (.int p5), .val (.long qo), .second, .val (.long qr), .second, .val (.int n), .val (.ref c1), .val (.ref c11), .unset, .unset, .unset, .unset, .unset, .unset, .unset, .unset] [(.int p5), (.ref b12), (.ref b12)])) _
      refine XS.lload X12.here hx rfl (hb hby at_63) rfl ?_
      show Steps p.tables e below (T12.setTop (mkF m 65 #[.val (.long q1), .second, .val (.long q2), .second, .val (.int p3), .val (.long q4), .second, .val (.int p5), .val (.long qo), .second, .val (.long qr), .second, .val (.int n), .val (.ref c1), .val (.ref c11), .unset, .unset, .unset, .unset, .unset, .unset, .unset, .unset] [(.long qo), (.int p5), (.ref b12), (.ref b12)])) _
      refine XS.aload X12.here hx rfl (hb hby at_65) rfl rfl ?_
      show Steps p.tables e below (T12.setTop (mkF m 67 #[.val (.long q1), .second, .val (.long q2), .second, .val (.int p3), .val (.long q4), .second, .val (.int p5), .val (.long qo), .second, .val (.long qr), .second, .val (.int n), .val (.ref c1), .val (.ref c11), .unset, .unset, .unset, .unset, .unset, .unset, .unset, .unset] [(.ref c1), (.long qo), (.int p5), (.ref b12), (.ref b12)])) _
      refine XS.aload X12.here hx rfl (hb hby at_67) rfl rfl ?_
      show Steps p.tables e below (T12.setTop (mkF m 69 #[.val (.long q1), .second, .val (.long q2), .second, .val (.int p3), .val (.long q4), .second, .val (.int p5), .val (.long qo), .second, .val (.long qr), .second, .val (.int n), .val (.ref c1), .val (.ref c11), .unset, .unset, .unset, .unset, .unset, .unset, .unset, .unset] [(.ref c11), (.ref c1), (.long qo), (.int p5), (.ref b12), (.ref b12)])) _
      refine XS.lload X12.here hx rfl (hb hby at_69) rfl ?_
      show Steps p.tables e below (T12.setTop (mkF m 71 #[.val (.long q1), .second, .val (.long q2), .second, .val (.int p3), .val (.long q4), .second, .val (.int p5), .val (.long qo), .second, .val (.long qr), .second, .val (.int n), .val (.ref c1), .val (.ref c11), .unset, .unset, .unset, .unset, .unset, .unset, .unset, .unset] [(.long q4), (.ref c11), (.ref c1), (.long qo), (.int p5), (.ref b12), (.ref b12)])) _
      refine XS.lload X12.here hx rfl (hb hby at_71) rfl ?_
      exact kz
    obtain ⟨_, _, ⟨T13, L13, k13, n13⟩, -, X13, ⟨Lc13, hQ13, l13, y13, z13⟩, st13⟩ := X12.specialBack hx (y := (⟨"com/example/sharp_nose/sharpnose/desktop/MagicRule", "<init>", "(IJ[B[BJJ)V"⟩ : MethodName)) rfl hown (mvT hZ (hw _ (List.mem_of_getElem? (i := 9) rfl))) (mvT hZ (hw _ (List.mem_of_getElem? (i := 10) rfl))) (mvT hZ (hw _ (List.mem_of_getElem? (i := 11) rfl))) (by decide) (backOf (W := 1) (rmInitM l Z a0 hw [] b12 p5 qo c1 c11 q4 qr n h12 n0 Z12 hn4 Ex_b12 By1 Ex1 S_l g_b12 By11 Ex11 F_depth_b12 F_offset_b12 F_value_b12 F_mask_b12 F_range_b12 ne_c1_b12 ne_c11_b12) hZ (hw _ (List.mem_of_getElem? (i := 11) rfl)) (hw _ (List.mem_of_getElem? (i := 8) rfl)) (by decide) (by decide)) (g := (mkF m 73 #[.val (.long q1), .second, .val (.long q2), .second, .val (.int p3), .val (.long q4), .second, .val (.int p5), .val (.long qo), .second, .val (.long qr), .second, .val (.int n), .val (.ref c1), .val (.ref c11), .unset, .unset, .unset, .unset, .unset, .unset, .unset, .unset] [(.long qr), (.long q4), (.ref c11), (.ref c1), (.long qo), (.int p5), (.ref b12), (.ref b12)])) rfl (by rw [hml]; rfl) (Steps.refl _) (a := b12) (argsL := [(.int p5), (.long qo), (.ref c1), (.ref c11), (.long q4), (.long qr)]) (rest := [(.ref b12)]) (lenOf own_pd3 rfl) rfl (by show 2 * 0 + _ ≤ _; exact Nat.le_of_eq rfl) (hb hby at_73) (fun _ _ => ⟨rfl, e12, (by decide : 3 + 2 ≤ _), (by decide : 11 + 6 ≤ _)⟩)
    dsimp only [Pt.U, Pt.locs, Pt.cells, Pt.slots] at X13 l13 y13 z13 st13 hQ13
    subst l13 y13 z13
    obtain ⟨c13, rfl, N13q, K13q, zc13, _, Fo13, Fr13, Fv13, By13⟩ := hQ13
    have N13 := Fr.app N11 N13q
    have ne_c1_c13 : c1 ≠ c13 := Nat.ne_of_lt (Nat.lt_of_lt_of_le By1.lt zc13)
    have ne_c11_c13 : c11 ≠ c13 := Nat.ne_of_lt (Nat.lt_of_lt_of_le By11.lt zc13)
    have ne_b12_c13 : b12 ≠ c13 := Nat.ne_of_lt (Nat.lt_of_lt_of_le Ex_b12.lt zc13)
    have g_c13 : n0 ≤ c13 := Nat.le_trans Z12 zc13
    replace S_l := own_staKeep S_l K13q (allS (own_ns Ex_b12) all0)
    replace By1 := By1.keep K13q (ninS ne_c1_b12 nin0)
    replace Ex1 := Ex1.keep K13q
    replace By11 := By11.keep K13q (ninS ne_c11_b12 nin0)
    replace Ex11 := Ex11.keep K13q
    replace Ex_b12 := Ex_b12.keep K13q
    have Z13 : n0 ≤ T13.heap.size := Nat.le_trans Z12 K13q.1
    refine own_go (A := T13.setTop (mkF m 76 #[.val (.long q1), .second, .val (.long q2), .second, .val (.int p3), .val (.long q4), .second, .val (.int p5), .val (.long qo), .second, .val (.long qr), .second, .val (.int n), .val (.ref c1), .val (.ref c11), .unset, .unset, .unset, .unset, .unset, .unset, .unset, .unset] [(.ref b12)])) (fun _ kz => st13.trans kz) ?_
    refine own_go (A := T13.setTop (mkF m 80 #[.val (.long q1), .second, .val (.long q2), .second, .val (.int p3), .val (.long q4), .second, .val (.int p5), .val (.long qo), .second, .val (.long qr), .second, .val (.int n), .val (.ref c1), .val (.ref c11), .val (.ref b12), .unset, .unset, .unset, .unset, .unset, .unset, .unset] [(.ref b12)])) (fun _ kz => ?_) ?_
    · show Steps p.tables e below (T13.setTop (mkF m 76 #[.val (.long q1), .second, .val (.long q2), .second, .val (.int p3), .val (.long q4), .second, .val (.int p5), .val (.long qo), .second, .val (.long qr), .second, .val (.int n), .val (.ref c1), .val (.ref c11), .unset, .unset, .unset, .unset, .unset, .unset, .unset, .unset] [(.ref b12)])) _
      refine XS.astore X13.here hx rfl (hb hby at_76) rfl rfl (l' := #[.val (.long q1), .second, .val (.long q2), .second, .val (.int p3), .val (.long q4), .second, .val (.int p5), .val (.long qo), .second, .val (.long qr), .second, .val (.int n), .val (.ref c1), .val (.ref c11), .val (.ref b12), .unset, .unset, .unset, .unset, .unset, .unset, .unset]) rfl ?_
      show Steps p.tables e below (T13.setTop (mkF m 78 #[.val (.long q1), .second, .val (.long q2), .second, .val (.int p3), .val (.long q4), .second, .val (.int p5), .val (.long qo), .second, .val (.long qr), .second, .val (.int n), .val (.ref c1), .val (.ref c11), .val (.ref b12), .unset, .unset, .unset, .unset, .unset, .unset, .unset] [])) _
      refine XS.aload X13.here hx rfl (hb hby at_78) rfl rfl ?_
      exact kz
    obtain ⟨cq14, kq14, q14a, q14b, q14c⟩ := isOf hZ rfl Ex_b12
    obtain ⟨_, _, ⟨T14, L14, k14, n14⟩, -, X14, ⟨Lc14, hQ14, l14, y14, z14⟩, st14⟩ := X13.virtualBack hx (y := (⟨"com/example/sharp_nose/sharpnose/desktop/MagicRule", "reach", "()J"⟩ : MethodName)) (z := (⟨"com/example/sharp_nose/sharpnose/desktop/MagicRule", "reach", "()J"⟩ : MethodName)) hown (mvT hZ (hw _ (List.mem_of_getElem? (i := 39) rfl))) (mvT hZ (hw _ (List.mem_of_getElem? (i := 40) rfl))) (notFace_of_selects (args := #[]) (mvT hZ (hw _ (List.mem_of_getElem? (i := 42) rfl)))) (mvT hZ (hw _ (List.mem_of_getElem? (i := 42) rfl))) (mvT hZ (hw _ (List.mem_of_getElem? (i := 41) rfl))) (by decide) (backOf (W := 0) (rmReach l Z a0 hw [] b12 c13 qo qr n T13.heap n0 Z13 Fo13 Fr13 Fv13 By13) hZ (hw _ (List.mem_of_getElem? (i := 43) rfl)) (hw _ (List.mem_of_getElem? (i := 8) rfl)) (by decide) (by decide)) q14a q14c (g := (mkF m 80 #[.val (.long q1), .second, .val (.long q2), .second, .val (.int p3), .val (.long q4), .second, .val (.int p5), .val (.long qo), .second, .val (.long qr), .second, .val (.int n), .val (.ref c1), .val (.ref c11), .val (.ref b12), .unset, .unset, .unset, .unset, .unset, .unset, .unset] [(.ref b12)])) rfl (by rw [hml]; rfl) (Steps.refl _) (argsL := []) (rest := []) (lenOf own_pd4 rfl) rfl (by show 2 * 0 + _ ≤ _; exact Nat.le_of_eq rfl) (hb hby at_80) (fun _ _ => ⟨rfl, rfl, (by decide : 5 + 0 ≤ _), (by decide : 17 + 0 ≤ _)⟩)
    dsimp only [Pt.U, Pt.locs, Pt.cells, Pt.slots] at X14 l14 y14 z14 st14 hQ14
    subst l14 y14 z14
    obtain ⟨rfl, N14q, e14⟩ := hQ14
    have N14 := Fr.app N13 N14q
    refine own_go (A := T14.setTop (mkF m 83 #[.val (.long q1), .second, .val (.long q2), .second, .val (.int p3), .val (.long q4), .second, .val (.int p5), .val (.long qo), .second, .val (.long qr), .second, .val (.int n), .val (.ref c1), .val (.ref c11), .val (.ref b12), .unset, .unset, .unset, .unset, .unset, .unset, .unset] [(.long (own_reach qo qr n))])) (fun _ kz => st14.trans kz) ?_
    refine own_go (A := T14.setTop (mkF m 89 #[.val (.long q1), .second, .val (.long q2), .second, .val (.int p3), .val (.long q4), .second, .val (.int p5), .val (.long qo), .second, .val (.long qr), .second, .val (.int n), .val (.ref c1), .val (.ref c11), .val (.ref b12), .val (.long (own_reach qo qr n)), .second, .unset, .unset, .unset, .unset, .unset] [(.int (lcmpW qr (0 : Int64)))])) (fun _ kz => ?_) ?_
    · show Steps p.tables e below (T14.setTop (mkF m 83 #[.val (.long q1), .second, .val (.long q2), .second, .val (.int p3), .val (.long q4), .second, .val (.int p5), .val (.long qo), .second, .val (.long qr), .second, .val (.int n), .val (.ref c1), .val (.ref c11), .val (.ref b12), .unset, .unset, .unset, .unset, .unset, .unset, .unset] [(.long (own_reach qo qr n))])) _
      refine XS.lstore X14.here hx rfl (hb hby at_83) rfl (l' := #[.val (.long q1), .second, .val (.long q2), .second, .val (.int p3), .val (.long q4), .second, .val (.int p5), .val (.long qo), .second, .val (.long qr), .second, .val (.int n), .val (.ref c1), .val (.ref c11), .val (.ref b12), .val (.long (own_reach qo qr n)), .second, .unset, .unset, .unset, .unset, .unset]) rfl ?_
      show Steps p.tables e below (T14.setTop (mkF m 85 #[.val (.long q1), .second, .val (.long q2), .second, .val (.int p3), .val (.long q4), .second, .val (.int p5), .val (.long qo), .second, .val (.long qr), .second, .val (.int n), .val (.ref c1), .val (.ref c11), .val (.ref b12), .val (.long (own_reach qo qr n)), .second, .unset, .unset, .unset, .unset, .unset] [])) _
      refine XS.lload X14.here hx rfl (hb hby at_85) rfl ?_
      show Steps p.tables e below (T14.setTop (mkF m 87 #[.val (.long q1), .second, .val (.long q2), .second, .val (.int p3), .val (.long q4), .second, .val (.int p5), .val (.long qo), .second, .val (.long qr), .second, .val (.int n), .val (.ref c1), .val (.ref c11), .val (.ref b12), .val (.long (own_reach qo qr n)), .second, .unset, .unset, .unset, .unset, .unset] [(.long qr)])) _
      refine XS.lconst X14.here hx rfl (hb hby at_87) ?_
      show Steps p.tables e below (T14.setTop (mkF m 88 #[.val (.long q1), .second, .val (.long q2), .second, .val (.int p3), .val (.long q4), .second, .val (.int p5), .val (.long qo), .second, .val (.long qr), .second, .val (.int n), .val (.ref c1), .val (.ref c11), .val (.ref b12), .val (.long (own_reach qo qr n)), .second, .unset, .unset, .unset, .unset, .unset] [(.long (0 : Int64)), (.long qr)])) _
      refine XS.lcmp X14.here hx rfl (hb hby at_88) rfl ?_
      exact kz
    by_cases hs15 : (lcmpW qr (0 : Int64)) = (0 : Int32)
    · skip
      refine own_go (A := T14.setTop (mkF m 92 #[.val (.long q1), .second, .val (.long q2), .second, .val (.int p3), .val (.long q4), .second, .val (.int p5), .val (.long qo), .second, .val (.long qr), .second, .val (.int n), .val (.ref c1), .val (.ref c11), .val (.ref b12), .val (.long (own_reach qo qr n)), .second, .unset, .unset, .unset, .unset, .unset] [])) (fun _ kz => ?_) ?_
      · show Steps p.tables e below (T14.setTop (mkF m 89 #[.val (.long q1), .second, .val (.long q2), .second, .val (.int p3), .val (.long q4), .second, .val (.int p5), .val (.long qo), .second, .val (.long qr), .second, .val (.int n), .val (.ref c1), .val (.ref c11), .val (.ref b12), .val (.long (own_reach qo qr n)), .second, .unset, .unset, .unset, .unset, .unset] [(.int (lcmpW qr (0 : Int64)))])) _
        refine XS.ifNo X14.here hx rfl (hb hby at_89) rfl ((if0 _ _).trans (teq hs15).2) ?_
        exact kz
      refine own_go (A := T14.setTop (mkF m 104 #[.val (.long q1), .second, .val (.long q2), .second, .val (.int p3), .val (.long q4), .second, .val (.int p5), .val (.long qo), .second, .val (.long qr), .second, .val (.int n), .val (.ref c1), .val (.ref c11), .val (.ref b12), .val (.long (own_reach qo qr n)), .second, .unset, .unset, .unset, .unset, .unset] [(.int (1 : Int32))])) (fun _ kz => ?_) ?_
      · show Steps p.tables e below (T14.setTop (mkF m 92 #[.val (.long q1), .second, .val (.long q2), .second, .val (.int p3), .val (.long q4), .second, .val (.int p5), .val (.long qo), .second, .val (.long qr), .second, .val (.int n), .val (.ref c1), .val (.ref c11), .val (.ref b12), .val (.long (own_reach qo qr n)), .second, .unset, .unset, .unset, .unset, .unset] [])) _
        refine XS.lload X14.here hx rfl (hb hby at_92) rfl ?_
        show Steps p.tables e below (T14.setTop (mkF m 94 #[.val (.long q1), .second, .val (.long q2), .second, .val (.int p3), .val (.long q4), .second, .val (.int p5), .val (.long qo), .second, .val (.long qr), .second, .val (.int n), .val (.ref c1), .val (.ref c11), .val (.ref b12), .val (.long (own_reach qo qr n)), .second, .unset, .unset, .unset, .unset, .unset] [(.long (own_reach qo qr n))])) _
        refine XS.lconst X14.here hx rfl (hb hby at_94) ?_
        show Steps p.tables e below (T14.setTop (mkF m 95 #[.val (.long q1), .second, .val (.long q2), .second, .val (.int p3), .val (.long q4), .second, .val (.int p5), .val (.long qo), .second, .val (.long qr), .second, .val (.int n), .val (.ref c1), .val (.ref c11), .val (.ref b12), .val (.long (own_reach qo qr n)), .second, .unset, .unset, .unset, .unset, .unset] [(.long (0 : Int64)), (.long (own_reach qo qr n))])) _
        refine XS.lcmp X14.here hx rfl (hb hby at_95) rfl ?_
        show Steps p.tables e below (T14.setTop (mkF m 96 #[.val (.long q1), .second, .val (.long q2), .second, .val (.int p3), .val (.long q4), .second, .val (.int p5), .val (.long qo), .second, .val (.long qr), .second, .val (.int n), .val (.ref c1), .val (.ref c11), .val (.ref b12), .val (.long (own_reach qo qr n)), .second, .unset, .unset, .unset, .unset, .unset] [(.int (lcmpW (own_reach qo qr n) (0 : Int64)))])) _
        refine XS.ifNo X14.here hx rfl (hb hby at_96) rfl ((if0 _ _).trans (teq ((lw_eq _ _).mpr (own_r0 hs15))).2) ?_
        show Steps p.tables e below (T14.setTop (mkF m 99 #[.val (.long q1), .second, .val (.long q2), .second, .val (.int p3), .val (.long q4), .second, .val (.int p5), .val (.long qo), .second, .val (.long qr), .second, .val (.int n), .val (.ref c1), .val (.ref c11), .val (.ref b12), .val (.long (own_reach qo qr n)), .second, .unset, .unset, .unset, .unset, .unset] [])) _
        refine XS.iconst X14.here hx rfl (hb hby at_99) ?_
        show Steps p.tables e below (T14.setTop (mkF m 100 #[.val (.long q1), .second, .val (.long q2), .second, .val (.int p3), .val (.long q4), .second, .val (.int p5), .val (.long qo), .second, .val (.long qr), .second, .val (.int n), .val (.ref c1), .val (.ref c11), .val (.ref b12), .val (.long (own_reach qo qr n)), .second, .unset, .unset, .unset, .unset, .unset] [(.int (1 : Int32))])) _
        refine XS.goto X14.here hx rfl (pc0 := 100) (pc' := 104) rfl (hb hby at_100) (by decide) (by decide) ?_
        exact kz
      obtain ⟨fs, hrr, hrun, hended, hW, hsame⟩ := X14.leave (v := some (.int (1 : Int32))) (fun h => by rw [Bd.returns] at h; cases h)
      refine ⟨_, _, ?_, hrun, hended, _, _, rfl, ?_, ⟨_, rfl⟩, hW, hsame.mono (by decide) (by decide)⟩
      · show Steps p.tables e below (T14.setTop (mkF m 104 #[.val (.long q1), .second, .val (.long q2), .second, .val (.int p3), .val (.long q4), .second, .val (.int p5), .val (.long qo), .second, .val (.long qr), .second, .val (.int n), .val (.ref c1), .val (.ref c11), .val (.ref b12), .val (.long (own_reach qo qr n)), .second, .unset, .unset, .unset, .unset, .unset] [(.int (1 : Int32))])) _
        exact retN X14 hx (t := .boolean) Bd.returns (by simp) (hb hby at_104) hrr
      · show Qrm0 Z q1 q2 p3 q4 p5 h0 n0 _ T14.heap _
        rw [e14]
        exact ⟨rfl, N14⟩
    · skip
      refine own_go (A := T14.setTop (mkF m 105 #[.val (.long q1), .second, .val (.long q2), .second, .val (.int p3), .val (.long q4), .second, .val (.int p5), .val (.long qo), .second, .val (.long qr), .second, .val (.int n), .val (.ref c1), .val (.ref c11), .val (.ref b12), .val (.long (own_reach qo qr n)), .second, .unset, .unset, .unset, .unset, .unset] [])) (fun _ kz => ?_) ?_
      · show Steps p.tables e below (T14.setTop (mkF m 89 #[.val (.long q1), .second, .val (.long q2), .second, .val (.int p3), .val (.long q4), .second, .val (.int p5), .val (.long qo), .second, .val (.long qr), .second, .val (.int n), .val (.ref c1), .val (.ref c11), .val (.ref b12), .val (.long (own_reach qo qr n)), .second, .unset, .unset, .unset, .unset, .unset] [(.int (lcmpW qr (0 : Int64)))])) _
        refine XS.ifYes X14.here hx rfl (pc0 := 89) (pc' := 105) rfl (hb hby at_89) rfl ((if0 _ _).trans (feq hs15).2) (by decide) (by decide) ?_
        exact kz
      refine own_go (A := T14.setTop (mkF m 114 #[.val (.long q1), .second, .val (.long q2), .second, .val (.int p3), .val (.long q4), .second, .val (.int p5), .val (.long qo), .second, .val (.long qr), .second, .val (.int n), .val (.ref c1), .val (.ref c11), .val (.ref b12), .val (.long (own_reach qo qr n)), .second, .val (.long (qo + (qr - (1 : Int64)))), .second, .unset, .unset, .unset] [])) (fun _ kz => ?_) ?_
      · show Steps p.tables e below (T14.setTop (mkF m 105 #[.val (.long q1), .second, .val (.long q2), .second, .val (.int p3), .val (.long q4), .second, .val (.int p5), .val (.long qo), .second, .val (.long qr), .second, .val (.int n), .val (.ref c1), .val (.ref c11), .val (.ref b12), .val (.long (own_reach qo qr n)), .second, .unset, .unset, .unset, .unset, .unset] [])) _
        refine XS.lload X14.here hx rfl (hb hby at_105) rfl ?_
        show Steps p.tables e below (T14.setTop (mkF m 107 #[.val (.long q1), .second, .val (.long q2), .second, .val (.int p3), .val (.long q4), .second, .val (.int p5), .val (.long qo), .second, .val (.long qr), .second, .val (.int n), .val (.ref c1), .val (.ref c11), .val (.ref b12), .val (.long (own_reach qo qr n)), .second, .unset, .unset, .unset, .unset, .unset] [(.long qo)])) _
        refine XS.lload X14.here hx rfl (hb hby at_107) rfl ?_
        show Steps p.tables e below (T14.setTop (mkF m 109 #[.val (.long q1), .second, .val (.long q2), .second, .val (.int p3), .val (.long q4), .second, .val (.int p5), .val (.long qo), .second, .val (.long qr), .second, .val (.int n), .val (.ref c1), .val (.ref c11), .val (.ref b12), .val (.long (own_reach qo qr n)), .second, .unset, .unset, .unset, .unset, .unset] [(.long qr), (.long qo)])) _
        refine XS.lconst X14.here hx rfl (hb hby at_109) ?_
        show Steps p.tables e below (T14.setTop (mkF m 110 #[.val (.long q1), .second, .val (.long q2), .second, .val (.int p3), .val (.long q4), .second, .val (.int p5), .val (.long qo), .second, .val (.long qr), .second, .val (.int n), .val (.ref c1), .val (.ref c11), .val (.ref b12), .val (.long (own_reach qo qr n)), .second, .unset, .unset, .unset, .unset, .unset] [(.long (1 : Int64)), (.long qr), (.long qo)])) _
        refine XS.lsub X14.here hx rfl (hb hby at_110) rfl ?_
        show Steps p.tables e below (T14.setTop (mkF m 111 #[.val (.long q1), .second, .val (.long q2), .second, .val (.int p3), .val (.long q4), .second, .val (.int p5), .val (.long qo), .second, .val (.long qr), .second, .val (.int n), .val (.ref c1), .val (.ref c11), .val (.ref b12), .val (.long (own_reach qo qr n)), .second, .unset, .unset, .unset, .unset, .unset] [(.long (qr - (1 : Int64))), (.long qo)])) _
        refine XS.ladd X14.here hx rfl (hb hby at_111) rfl ?_
        show Steps p.tables e below (T14.setTop (mkF m 112 #[.val (.long q1), .second, .val (.long q2), .second, .val (.int p3), .val (.long q4), .second, .val (.int p5), .val (.long qo), .second, .val (.long qr), .second, .val (.int n), .val (.ref c1), .val (.ref c11), .val (.ref b12), .val (.long (own_reach qo qr n)), .second, .unset, .unset, .unset, .unset, .unset] [(.long (qo + (qr - (1 : Int64))))])) _
        refine XS.lstore X14.here hx rfl (hb hby at_112) rfl (l' := #[.val (.long q1), .second, .val (.long q2), .second, .val (.int p3), .val (.long q4), .second, .val (.int p5), .val (.long qo), .second, .val (.long qr), .second, .val (.int n), .val (.ref c1), .val (.ref c11), .val (.ref b12), .val (.long (own_reach qo qr n)), .second, .val (.long (qo + (qr - (1 : Int64)))), .second, .unset, .unset, .unset]) rfl ?_
        exact kz
      obtain ⟨T16, h16, X16, e16, E16, A16, D16, -, st16⟩ := newO X14 hx hZ hown (hw _ (List.mem_of_getElem? (i := 6) rfl)) (hw _ (List.mem_of_getElem? (i := 7) rfl)) (hw _ (List.mem_of_getElem? (i := 8) rfl)) e14 (g := (mkF m 114 #[.val (.long q1), .second, .val (.long q2), .second, .val (.int p3), .val (.long q4), .second, .val (.int p5), .val (.long qo), .second, .val (.long qr), .second, .val (.int n), .val (.ref c1), .val (.ref c11), .val (.ref b12), .val (.long (own_reach qo qr n)), .second, .val (.long (qo + (qr - (1 : Int64)))), .second, .unset, .unset, .unset] [])) rfl (hb hby at_114) (by decide) (by decide)
      obtain ⟨b16, gq16⟩ : ∃ z, z = T13.heap.size := ⟨_, rfl⟩
      rw [← gq16] at A16 D16 st16
      have g_b16 : n0 ≤ b16 := Nat.le_trans Z13 (Nat.le_of_eq gq16.symm)
      have ne_c1_b16 : c1 ≠ b16 := Nat.ne_of_lt (Nat.lt_of_lt_of_le By1.lt (Nat.le_of_eq gq16.symm))
      have ne_c11_b16 : c11 ≠ b16 := Nat.ne_of_lt (Nat.lt_of_lt_of_le By11.lt (Nat.le_of_eq gq16.symm))
      have ne_b12_b16 : b12 ≠ b16 := Nat.ne_of_lt (Nat.lt_of_lt_of_le Ex_b12.lt (Nat.le_of_eq gq16.symm))
      have ne_c13_b16 : c13 ≠ b16 := Nat.ne_of_lt (Nat.lt_of_lt_of_le By13.lt (Nat.le_of_eq gq16.symm))
      replace S_l := S_l.ext E16
      replace By1 := By1.ext E16
      replace Ex1 := Ex1.ext E16
      replace By11 := By11.ext E16
      replace Ex11 := Ex11.ext E16
      replace Ex_b12 := Ex_b12.ext E16
      replace By13 := By13.ext E16
      replace Fo13 := Fo13.ext E16
      replace Fr13 := Fr13.ext E16
      replace Fv13 := Fv13.ext E16
      have Z16 : n0 ≤ h16.size := Nat.le_trans Z13 E16.1
      have Ex_b16 := A16
      have F_depth_b16 : Fld Z h16 b16 "com/example/sharp_nose/sharpnose/desktop/MagicRule" "depth" "I" (.int (0 : Int32)) := D16 (Or.inr (hw _ (List.mem_of_getElem? (i := 16) rfl))) (ty := .int) (by decide)
      have F_offset_b16 : Fld Z h16 b16 "com/example/sharp_nose/sharpnose/desktop/MagicRule" "offset" "J" (.long (0 : Int64)) := D16 (Or.inr (hw _ (List.mem_of_getElem? (i := 18) rfl))) (ty := .long) (by decide)
      have F_value_b16 : Fld Z h16 b16 "com/example/sharp_nose/sharpnose/desktop/MagicRule" "value" "[B" .null := D16 (Or.inr (hw _ (List.mem_of_getElem? (i := 34) rfl))) (ty := (.array .byte)) (by decide)
      have F_mask_b16 : Fld Z h16 b16 "com/example/sharp_nose/sharpnose/desktop/MagicRule" "mask" "[B" .null := D16 (Or.inr (hw _ (List.mem_of_getElem? (i := 36) rfl))) (ty := (.array .byte)) (by decide)
      have F_range_b16 : Fld Z h16 b16 "com/example/sharp_nose/sharpnose/desktop/MagicRule" "range" "J" (.long (0 : Int64)) := D16 (Or.inr (hw _ (List.mem_of_getElem? (i := 38) rfl))) (ty := .long) (by decide)
      refine own_go (A := T16.setTop (mkF m 117 #[.val (.long q1), .second, .val (.long q2), .second, .val (.int p3), .val (.long q4), .second, .val (.int p5), .val (.long qo), .second, .val (.long qr), .second, .val (.int n), .val (.ref c1), .val (.ref c11), .val (.ref b12), .val (.long (own_reach qo qr n)), .second, .val (.long (qo + (qr - (1 : Int64)))), .second, .unset, .unset, .unset] [(.ref b16)])) (fun _ kz => st16 _ kz) ?_
      refine own_go (A := T16.setTop (mkF m 124 #[.val (.long q1), .second, .val (.long q2), .second, .val (.int p3), .val (.long q4), .second, .val (.int p5), .val (.long qo), .second, .val (.long qr), .second, .val (.int n), .val (.ref c1), .val (.ref c11), .val (.ref b12), .val (.long (own_reach qo qr n)), .second, .val (.long (qo + (qr - (1 : Int64)))), .second, .unset, .unset, .unset] [(.int (0 : Int32)), (.int n), (.long (qo + (qr - (1 : Int64)))), (.int (0 : Int32)), (.ref b16), (.ref b16)])) (fun _ kz => ?_) ?_
      · show Steps p.tables e below (T16.setTop (mkF m 117 #[.val (.long q1), .second, .val (.long q2), .second, .val (.int p3), .val (.long q4), .second, .val (.int p5), .val (.long qo), .second, .val (.long qr), .second, .val (.int n), .val (.ref c1), .val (.ref c11), .val (.ref b12), .val (.long (own_reach qo qr n)), .second, .val (.long (qo + (qr - (1 : Int64)))), .second, .unset, .unset, .unset] [(.ref b16)])) _
        refine XS.dup X16.here hx rfl (hb hby at_117) rfl rfl ?_
        show Steps p.tables e below (T16.setTop (mkF m 118 #[.val (.long q1), .second, .val (.long q2), .second, .val (.int p3), .val (.long q4), .second, .val (.int p5), .val (.long qo), .second, .val (.long qr), .second, .val (.int n), .val (.ref c1), .val (.ref c11), .val (.ref b12), .val (.long (own_reach qo qr n)), .second, .val (.long (qo + (qr - (1 : Int64)))), .second, .unset, .unset, .unset] [(.ref b16), (.ref b16)])) _
        refine XS.iconst X16.here hx rfl (hb hby at_118) ?_
        show Steps p.tables e below (T16.setTop (mkF m 119 #[.val (.long q1), .second, .val (.long q2), .second, .val (.int p3), .val (.long q4), .second, .val (.int p5), .val (.long qo), .second, .val (.long qr), .second, .val (.int n), .val (.ref c1), .val (.ref c11), .val (.ref b12), .val (.long (own_reach qo qr n)), .second, .val (.long (qo + (qr - (1 : Int64)))), .second, .unset, .unset, .unset] [(.int (0 : Int32)), (.ref b16), (.ref b16)])) _
        refine XS.lload X16.here hx rfl (hb hby at_119) rfl ?_
        show Steps p.tables e below (T16.setTop (mkF m 121 #[.val (.long q1), .second, .val (.long q2), .second, .val (.int p3), .val (.long q4), .second, .val (.int p5), .val (.long qo), .second, .val (.long qr), .second, .val (.int n), .val (.ref c1), .val (.ref c11), .val (.ref b12), .val (.long (own_reach qo qr n)), .second, .val (.long (qo + (qr - (1 : Int64)))), .second, .unset, .unset, .unset] [(.long (qo + (qr - (1 : Int64)))), (.int (0 : Int32)), (.ref b16), (.ref b16)])) _
        refine XS.iload X16.here hx rfl (hb hby at_121) rfl ?_
        show Steps p.tables e below (T16.setTop (mkF m 123 #[.val (.long q1), .second, .val (.long q2), .second, .val (.int p3), .val (.long q4), .second, .val (.int p5), .val (.long qo), .second, .val (.long qr), .second, .val (.int n), .val (.ref c1), .val (.ref c11), .val (.ref b12), .val (.long (own_reach qo qr n)), .second, .val (.long (qo + (qr - (1 : Int64)))), .second, .unset, .unset, .unset] [(.int n), (.long (qo + (qr - (1 : Int64)))), (.int (0 : Int32)), (.ref b16), (.ref b16)])) _
        refine XS.iconst X16.here hx rfl (hb hby at_123) ?_
        exact kz
      obtain ⟨_, _, ⟨T17, L17, k17, n17⟩, -, X17, ⟨Lc17, hQ17, l17, y17, z17⟩, st17⟩ := Jvm.LawKit.callS X16 hx (y := (⟨"com/example/sharp_nose/sharpnose/desktop/MagicRuleReachPinLaw", "bytes", "(II)[B"⟩ : MethodName)) hown (mvT hZ (hw _ (List.mem_of_getElem? (i := 1) rfl))) (mvT hZ (hw _ (List.mem_of_getElem? (i := 2) rfl))) (mvT hZ (hw _ (List.mem_of_getElem? (i := 3) rfl))) (mvT hZ (hw _ (List.mem_of_getElem? (i := 4) rfl))) (by decide) (backOf (W := 5) (rmBytes l Z a0 hw [] n (0 : Int32) h16 n0 Z16 hn4) hZ (hw _ (List.mem_of_getElem? (i := 4) rfl)) (hw _ (List.mem_of_getElem? (i := 3) rfl)) (by decide) (by decide)) (g := (mkF m 124 #[.val (.long q1), .second, .val (.long q2), .second, .val (.int p3), .val (.long q4), .second, .val (.int p5), .val (.long qo), .second, .val (.long qr), .second, .val (.int n), .val (.ref c1), .val (.ref c11), .val (.ref b12), .val (.long (own_reach qo qr n)), .second, .val (.long (qo + (qr - (1 : Int64)))), .second, .unset, .unset, .unset] [(.int (0 : Int32)), (.int n), (.long (qo + (qr - (1 : Int64)))), (.int (0 : Int32)), (.ref b16), (.ref b16)])) rfl (by rw [hml]; rfl) (argsL := [(.int n), (.int (0 : Int32))]) (rest := [(.long (qo + (qr - (1 : Int64)))), (.int (0 : Int32)), (.ref b16), (.ref b16)]) (lenOf own_pd2 rfl) rfl (by show 2 * 0 + _ ≤ _; exact Nat.le_of_eq rfl) (hb hby at_124) (fun _ _ => ⟨rfl, e16, (by decide : 6 + 1 ≤ _), (by decide : 22 + 3 ≤ _)⟩)
      dsimp only [Pt.U, Pt.locs, Pt.cells, Pt.slots] at X17 l17 y17 z17 st17 hQ17
      subst l17 y17 z17
      obtain ⟨c17, rfl, N17q, zc17, K17q, By17, Ex17⟩ := hQ17
      have N17 := Fr.app N14 N17q
      have ne_c1_c17 : c1 ≠ c17 := Nat.ne_of_lt (Nat.lt_of_lt_of_le By1.lt zc17)
      have ne_c11_c17 : c11 ≠ c17 := Nat.ne_of_lt (Nat.lt_of_lt_of_le By11.lt zc17)
      have ne_b12_c17 : b12 ≠ c17 := Nat.ne_of_lt (Nat.lt_of_lt_of_le Ex_b12.lt zc17)
      have ne_c13_c17 : c13 ≠ c17 := Nat.ne_of_lt (Nat.lt_of_lt_of_le By13.lt zc17)
      have ne_b16_c17 : b16 ≠ c17 := Nat.ne_of_lt (Nat.lt_of_lt_of_le Ex_b16.lt zc17)
      have g_c17 : n0 ≤ c17 := Nat.le_trans Z16 zc17
      replace S_l := own_staKeep S_l K17q all0
      replace By1 := By1.keep K17q nin0
      replace Ex1 := Ex1.keep K17q
      replace By11 := By11.keep K17q nin0
      replace Ex11 := Ex11.keep K17q
      replace Ex_b12 := Ex_b12.keep K17q
      replace By13 := By13.keep K17q nin0
      replace Fo13 := Fo13.keep K17q nin0
      replace Fr13 := Fr13.keep K17q nin0
      replace Fv13 := Fv13.keep K17q nin0
      replace Ex_b16 := Ex_b16.keep K17q
      replace F_depth_b16 := F_depth_b16.keep K17q nin0
      replace F_offset_b16 := F_offset_b16.keep K17q nin0
      replace F_value_b16 := F_value_b16.keep K17q nin0
      replace F_mask_b16 := F_mask_b16.keep K17q nin0
      replace F_range_b16 := F_range_b16.keep K17q nin0
      have Z17 : n0 ≤ T17.heap.size := Nat.le_trans Z16 K17q.1
      refine own_go (A := T17.setTop (mkF m 127 #[.val (.long q1), .second, .val (.long q2), .second, .val (.int p3), .val (.long q4), .second, .val (.int p5), .val (.long qo), .second, .val (.long qr), .second, .val (.int n), .val (.ref c1), .val (.ref c11), .val (.ref b12), .val (.long (own_reach qo qr n)), .second, .val (.long (qo + (qr - (1 : Int64)))), .second, .unset, .unset, .unset] [(.ref c17), (.long (qo + (qr - (1 : Int64)))), (.int (0 : Int32)), (.ref b16), (.ref b16)])) (fun _ kz => st17 _ kz) ?_
      refine own_go (A := T17.setTop (mkF m 130 #[.val (.long q1), .second, .val (.long q2), .second, .val (.int p3), .val (.long q4), .second, .val (.int p5), .val (.long qo), .second, .val (.long qr), .second, .val (.int n), .val (.ref c1), .val (.ref c11), .val (.ref b12), .val (.long (own_reach qo qr n)), .second, .val (.long (qo + (qr - (1 : Int64)))), .second, .unset, .unset, .unset] [(.long (1 : Int64)), (.long (1 : Int64)), .null, (.ref c17), (.long (qo + (qr - (1 : Int64)))), (.int (0 : Int32)), (.ref b16), (.ref b16)])) (fun _ kz => ?_) ?_
      · show Steps p.tables e below (T17.setTop (mkF m 127 #[.val (.long q1), .second, .val (.long q2), .second, .val (.int p3), .val (.long q4), .second, .val (.int p5), .val (.long qo), .second, .val (.long qr), .second, .val (.int n), .val (.ref c1), .val (.ref c11), .val (.ref b12), .val (.long (own_reach qo qr n)), .second, .val (.long (qo + (qr - (1 : Int64)))), .second, .unset, .unset, .unset] [(.ref c17), (.long (qo + (qr - (1 : Int64)))), (.int (0 : Int32)), (.ref b16), (.ref b16)])) _
        refine XS.aconstNull X17.here hx rfl (hb hby at_127) ?_
        show Steps p.tables e below (T17.setTop (mkF m 128 #[.val (.long q1), .second, .val (.long q2), .second, .val (.int p3), .val (.long q4), .second, .val (.int p5), .val (.long qo), .second, .val (.long qr), .second, .val (.int n), .val (.ref c1), .val (.ref c11), .val (.ref b12), .val (.long (own_reach qo qr n)), .second, .val (.long (qo + (qr - (1 : Int64)))), .second, .unset, .unset, .unset] [.null, (.ref c17), (.long (qo + (qr - (1 : Int64)))), (.int (0 : Int32)), (.ref b16), (.ref b16)])) _
        refine XS.lconst X17.here hx rfl (hb hby at_128) ?_
        show Steps p.tables e below (T17.setTop (mkF m 129 #[.val (.long q1), .second, .val (.long q2), .second, .val (.int p3), .val (.long q4), .second, .val (.int p5), .val (.long qo), .second, .val (.long qr), .second, .val (.int n), .val (.ref c1), .val (.ref c11), .val (.ref b12), .val (.long (own_reach qo qr n)), .second, .val (.long (qo + (qr - (1 : Int64)))), .second, .unset, .unset, .unset] [(.long (1 : Int64)), .null, (.ref c17), (.long (qo + (qr - (1 : Int64)))), (.int (0 : Int32)), (.ref b16), (.ref b16)])) _
        refine XS.lconst X17.here hx rfl (hb hby at_129) ?_
        exact kz
      obtain ⟨_, _, ⟨T18, L18, k18, n18⟩, -, X18, ⟨Lc18, hQ18, l18, y18, z18⟩, st18⟩ := X17.specialBack hx (y := (⟨"com/example/sharp_nose/sharpnose/desktop/MagicRule", "<init>", "(IJ[B[BJJ)V"⟩ : MethodName)) rfl hown (mvT hZ (hw _ (List.mem_of_getElem? (i := 9) rfl))) (mvT hZ (hw _ (List.mem_of_getElem? (i := 10) rfl))) (mvT hZ (hw _ (List.mem_of_getElem? (i := 11) rfl))) (by decide) (backOf (W := 1) (rmInitN l Z a0 hw [] b16 (0 : Int32) (qo + (qr - (1 : Int64))) c17 (1 : Int64) (1 : Int64) n T17.heap n0 Z17 hn4 Ex_b16 By17 Ex17 S_l g_b16 F_depth_b16 F_offset_b16 F_value_b16 F_mask_b16 F_range_b16 (Ne.symm ne_b16_c17)) hZ (hw _ (List.mem_of_getElem? (i := 11) rfl)) (hw _ (List.mem_of_getElem? (i := 8) rfl)) (by decide) (by decide)) (g := (mkF m 130 #[.val (.long q1), .second, .val (.long q2), .second, .val (.int p3), .val (.long q4), .second, .val (.int p5), .val (.long qo), .second, .val (.long qr), .second, .val (.int n), .val (.ref c1), .val (.ref c11), .val (.ref b12), .val (.long (own_reach qo qr n)), .second, .val (.long (qo + (qr - (1 : Int64)))), .second, .unset, .unset, .unset] [(.long (1 : Int64)), (.long (1 : Int64)), .null, (.ref c17), (.long (qo + (qr - (1 : Int64)))), (.int (0 : Int32)), (.ref b16), (.ref b16)])) rfl (by rw [hml]; rfl) (Steps.refl _) (a := b16) (argsL := [(.int (0 : Int32)), (.long (qo + (qr - (1 : Int64)))), (.ref c17), .null, (.long (1 : Int64)), (.long (1 : Int64))]) (rest := [(.ref b16)]) (lenOf own_pd3 rfl) rfl (by show 2 * 0 + _ ≤ _; exact Nat.le_of_eq rfl) (hb hby at_130) (fun _ _ => ⟨rfl, rfl, (by decide : 7 + 1 ≤ _), (by decide : 25 + 3 ≤ _)⟩)
      dsimp only [Pt.U, Pt.locs, Pt.cells, Pt.slots] at X18 l18 y18 z18 st18 hQ18
      subst l18 y18 z18
      obtain ⟨c18, rfl, N18q, K18q, zc18, _, Fo18, Fr18, Fv18, By18⟩ := hQ18
      have N18 := Fr.app N17 N18q
      have ne_c1_c18 : c1 ≠ c18 := Nat.ne_of_lt (Nat.lt_of_lt_of_le By1.lt zc18)
      have ne_c11_c18 : c11 ≠ c18 := Nat.ne_of_lt (Nat.lt_of_lt_of_le By11.lt zc18)
      have ne_b12_c18 : b12 ≠ c18 := Nat.ne_of_lt (Nat.lt_of_lt_of_le Ex_b12.lt zc18)
      have ne_c13_c18 : c13 ≠ c18 := Nat.ne_of_lt (Nat.lt_of_lt_of_le By13.lt zc18)
      have ne_b16_c18 : b16 ≠ c18 := Nat.ne_of_lt (Nat.lt_of_lt_of_le Ex_b16.lt zc18)
      have ne_c17_c18 : c17 ≠ c18 := Nat.ne_of_lt (Nat.lt_of_lt_of_le By17.lt zc18)
      have g_c18 : n0 ≤ c18 := Nat.le_trans Z17 zc18
      replace S_l := own_staKeep S_l K18q (allS (own_ns Ex_b16) all0)
      replace By1 := By1.keep K18q (ninS ne_c1_b16 nin0)
      replace Ex1 := Ex1.keep K18q
      replace By11 := By11.keep K18q (ninS ne_c11_b16 nin0)
      replace Ex11 := Ex11.keep K18q
      replace Ex_b12 := Ex_b12.keep K18q
      replace By13 := By13.keep K18q (ninS ne_c13_b16 nin0)
      replace Fo13 := Fo13.keep K18q (ninS ne_b12_b16 nin0)
      replace Fr13 := Fr13.keep K18q (ninS ne_b12_b16 nin0)
      replace Fv13 := Fv13.keep K18q (ninS ne_b12_b16 nin0)
      replace Ex_b16 := Ex_b16.keep K18q
      replace By17 := By17.keep K18q (ninS (Ne.symm ne_b16_c17) nin0)
      replace Ex17 := Ex17.keep K18q
      have Z18 : n0 ≤ T18.heap.size := Nat.le_trans Z17 K18q.1
      refine own_go (A := T18.setTop (mkF m 133 #[.val (.long q1), .second, .val (.long q2), .second, .val (.int p3), .val (.long q4), .second, .val (.int p5), .val (.long qo), .second, .val (.long qr), .second, .val (.int n), .val (.ref c1), .val (.ref c11), .val (.ref b12), .val (.long (own_reach qo qr n)), .second, .val (.long (qo + (qr - (1 : Int64)))), .second, .unset, .unset, .unset] [(.ref b16)])) (fun _ kz => st18.trans kz) ?_
      refine own_go (A := T18.setTop (mkF m 137 #[.val (.long q1), .second, .val (.long q2), .second, .val (.int p3), .val (.long q4), .second, .val (.int p5), .val (.long qo), .second, .val (.long qr), .second, .val (.int n), .val (.ref c1), .val (.ref c11), .val (.ref b12), .val (.long (own_reach qo qr n)), .second, .val (.long (qo + (qr - (1 : Int64)))), .second, .val (.ref b16), .unset, .unset] [(.ref b16)])) (fun _ kz => ?_) ?_
      · show Steps p.tables e below (T18.setTop (mkF m 133 #[.val (.long q1), .second, .val (.long q2), .second, .val (.int p3), .val (.long q4), .second, .val (.int p5), .val (.long qo), .second, .val (.long qr), .second, .val (.int n), .val (.ref c1), .val (.ref c11), .val (.ref b12), .val (.long (own_reach qo qr n)), .second, .val (.long (qo + (qr - (1 : Int64)))), .second, .unset, .unset, .unset] [(.ref b16)])) _
        refine XS.astore X18.here hx rfl (hb hby at_133) rfl rfl (l' := #[.val (.long q1), .second, .val (.long q2), .second, .val (.int p3), .val (.long q4), .second, .val (.int p5), .val (.long qo), .second, .val (.long qr), .second, .val (.int n), .val (.ref c1), .val (.ref c11), .val (.ref b12), .val (.long (own_reach qo qr n)), .second, .val (.long (qo + (qr - (1 : Int64)))), .second, .val (.ref b16), .unset, .unset]) rfl ?_
        show Steps p.tables e below (T18.setTop (mkF m 135 #[.val (.long q1), .second, .val (.long q2), .second, .val (.int p3), .val (.long q4), .second, .val (.int p5), .val (.long qo), .second, .val (.long qr), .second, .val (.int n), .val (.ref c1), .val (.ref c11), .val (.ref b12), .val (.long (own_reach qo qr n)), .second, .val (.long (qo + (qr - (1 : Int64)))), .second, .val (.ref b16), .unset, .unset] [])) _
        refine XS.aload X18.here hx rfl (hb hby at_135) rfl rfl ?_
        exact kz
      obtain ⟨cq19, kq19, q19a, q19b, q19c⟩ := isOf hZ rfl Ex_b16
      obtain ⟨_, _, ⟨T19, L19, k19, n19⟩, -, X19, ⟨Lc19, hQ19, l19, y19, z19⟩, st19⟩ := X18.virtualBack hx (y := (⟨"com/example/sharp_nose/sharpnose/desktop/MagicRule", "reach", "()J"⟩ : MethodName)) (z := (⟨"com/example/sharp_nose/sharpnose/desktop/MagicRule", "reach", "()J"⟩ : MethodName)) hown (mvT hZ (hw _ (List.mem_of_getElem? (i := 39) rfl))) (mvT hZ (hw _ (List.mem_of_getElem? (i := 40) rfl))) (notFace_of_selects (args := #[]) (mvT hZ (hw _ (List.mem_of_getElem? (i := 42) rfl)))) (mvT hZ (hw _ (List.mem_of_getElem? (i := 42) rfl))) (mvT hZ (hw _ (List.mem_of_getElem? (i := 41) rfl))) (by decide) (backOf (W := 0) (rmReach l Z a0 hw [] b16 c18 (qo + (qr - (1 : Int64))) (1 : Int64) n T18.heap n0 Z18 Fo18 Fr18 Fv18 By18) hZ (hw _ (List.mem_of_getElem? (i := 43) rfl)) (hw _ (List.mem_of_getElem? (i := 8) rfl)) (by decide) (by decide)) q19a q19c (g := (mkF m 137 #[.val (.long q1), .second, .val (.long q2), .second, .val (.int p3), .val (.long q4), .second, .val (.int p5), .val (.long qo), .second, .val (.long qr), .second, .val (.int n), .val (.ref c1), .val (.ref c11), .val (.ref b12), .val (.long (own_reach qo qr n)), .second, .val (.long (qo + (qr - (1 : Int64)))), .second, .val (.ref b16), .unset, .unset] [(.ref b16)])) rfl (by rw [hml]; rfl) (Steps.refl _) (argsL := []) (rest := []) (lenOf own_pd4 rfl) rfl (by show 2 * 0 + _ ≤ _; exact Nat.le_of_eq rfl) (hb hby at_137) (fun _ _ => ⟨rfl, rfl, (by decide : 8 + 0 ≤ _), (by decide : 28 + 0 ≤ _)⟩)
      dsimp only [Pt.U, Pt.locs, Pt.cells, Pt.slots] at X19 l19 y19 z19 st19 hQ19
      subst l19 y19 z19
      obtain ⟨rfl, N19q, e19⟩ := hQ19
      have N19 := Fr.app N18 N19q
      refine own_go (A := T19.setTop (mkF m 140 #[.val (.long q1), .second, .val (.long q2), .second, .val (.int p3), .val (.long q4), .second, .val (.int p5), .val (.long qo), .second, .val (.long qr), .second, .val (.int n), .val (.ref c1), .val (.ref c11), .val (.ref b12), .val (.long (own_reach qo qr n)), .second, .val (.long (qo + (qr - (1 : Int64)))), .second, .val (.ref b16), .unset, .unset] [(.long (own_reach (qo + (qr - (1 : Int64))) (1 : Int64) n))])) (fun _ kz => st19.trans kz) ?_
      refine own_go (A := T19.setTop (mkF m 167 #[.val (.long q1), .second, .val (.long q2), .second, .val (.int p3), .val (.long q4), .second, .val (.int p5), .val (.long qo), .second, .val (.long qr), .second, .val (.int n), .val (.ref c1), .val (.ref c11), .val (.ref b12), .val (.long (own_reach qo qr n)), .second, .val (.long (qo + (qr - (1 : Int64)))), .second, .val (.ref b16), .val (.long (own_reach (qo + (qr - (1 : Int64))) (1 : Int64) n)), .second] [(.int (1 : Int32))])) (fun _ kz => ?_) ?_
      · show Steps p.tables e below (T19.setTop (mkF m 140 #[.val (.long q1), .second, .val (.long q2), .second, .val (.int p3), .val (.long q4), .second, .val (.int p5), .val (.long qo), .second, .val (.long qr), .second, .val (.int n), .val (.ref c1), .val (.ref c11), .val (.ref b12), .val (.long (own_reach qo qr n)), .second, .val (.long (qo + (qr - (1 : Int64)))), .second, .val (.ref b16), .unset, .unset] [(.long (own_reach (qo + (qr - (1 : Int64))) (1 : Int64) n))])) _
        refine XS.lstore X19.here hx rfl (hb hby at_140) rfl (l' := #[.val (.long q1), .second, .val (.long q2), .second, .val (.int p3), .val (.long q4), .second, .val (.int p5), .val (.long qo), .second, .val (.long qr), .second, .val (.int n), .val (.ref c1), .val (.ref c11), .val (.ref b12), .val (.long (own_reach qo qr n)), .second, .val (.long (qo + (qr - (1 : Int64)))), .second, .val (.ref b16), .val (.long (own_reach (qo + (qr - (1 : Int64))) (1 : Int64) n)), .second]) rfl ?_
        show Steps p.tables e below (T19.setTop (mkF m 142 #[.val (.long q1), .second, .val (.long q2), .second, .val (.int p3), .val (.long q4), .second, .val (.int p5), .val (.long qo), .second, .val (.long qr), .second, .val (.int n), .val (.ref c1), .val (.ref c11), .val (.ref b12), .val (.long (own_reach qo qr n)), .second, .val (.long (qo + (qr - (1 : Int64)))), .second, .val (.ref b16), .val (.long (own_reach (qo + (qr - (1 : Int64))) (1 : Int64) n)), .second] [])) _
        refine XS.lload X19.here hx rfl (hb hby at_142) rfl ?_
        show Steps p.tables e below (T19.setTop (mkF m 144 #[.val (.long q1), .second, .val (.long q2), .second, .val (.int p3), .val (.long q4), .second, .val (.int p5), .val (.long qo), .second, .val (.long qr), .second, .val (.int n), .val (.ref c1), .val (.ref c11), .val (.ref b12), .val (.long (own_reach qo qr n)), .second, .val (.long (qo + (qr - (1 : Int64)))), .second, .val (.ref b16), .val (.long (own_reach (qo + (qr - (1 : Int64))) (1 : Int64) n)), .second] [(.long (own_reach qo qr n))])) _
        refine XS.lload X19.here hx rfl (hb hby at_144) rfl ?_
        show Steps p.tables e below (T19.setTop (mkF m 146 #[.val (.long q1), .second, .val (.long q2), .second, .val (.int p3), .val (.long q4), .second, .val (.int p5), .val (.long qo), .second, .val (.long qr), .second, .val (.int n), .val (.ref c1), .val (.ref c11), .val (.ref b12), .val (.long (own_reach qo qr n)), .second, .val (.long (qo + (qr - (1 : Int64)))), .second, .val (.ref b16), .val (.long (own_reach (qo + (qr - (1 : Int64))) (1 : Int64) n)), .second] [(.long (own_reach (qo + (qr - (1 : Int64))) (1 : Int64) n)), (.long (own_reach qo qr n))])) _
        refine XS.lcmp X19.here hx rfl (hb hby at_146) rfl ?_
        show Steps p.tables e below (T19.setTop (mkF m 147 #[.val (.long q1), .second, .val (.long q2), .second, .val (.int p3), .val (.long q4), .second, .val (.int p5), .val (.long qo), .second, .val (.long qr), .second, .val (.int n), .val (.ref c1), .val (.ref c11), .val (.ref b12), .val (.long (own_reach qo qr n)), .second, .val (.long (qo + (qr - (1 : Int64)))), .second, .val (.ref b16), .val (.long (own_reach (qo + (qr - (1 : Int64))) (1 : Int64) n)), .second] [(.int (lcmpW (own_reach qo qr n) (own_reach (qo + (qr - (1 : Int64))) (1 : Int64) n)))])) _
        refine XS.ifNo X19.here hx rfl (hb hby at_147) rfl ((if0 _ _).trans (teq ((lw_eq _ _).mpr (own_r1 hs15))).2) ?_
        show Steps p.tables e below (T19.setTop (mkF m 150 #[.val (.long q1), .second, .val (.long q2), .second, .val (.int p3), .val (.long q4), .second, .val (.int p5), .val (.long qo), .second, .val (.long qr), .second, .val (.int n), .val (.ref c1), .val (.ref c11), .val (.ref b12), .val (.long (own_reach qo qr n)), .second, .val (.long (qo + (qr - (1 : Int64)))), .second, .val (.ref b16), .val (.long (own_reach (qo + (qr - (1 : Int64))) (1 : Int64) n)), .second] [])) _
        refine XS.lload X19.here hx rfl (hb hby at_150) rfl ?_
        show Steps p.tables e below (T19.setTop (mkF m 152 #[.val (.long q1), .second, .val (.long q2), .second, .val (.int p3), .val (.long q4), .second, .val (.int p5), .val (.long qo), .second, .val (.long qr), .second, .val (.int n), .val (.ref c1), .val (.ref c11), .val (.ref b12), .val (.long (own_reach qo qr n)), .second, .val (.long (qo + (qr - (1 : Int64)))), .second, .val (.ref b16), .val (.long (own_reach (qo + (qr - (1 : Int64))) (1 : Int64) n)), .second] [(.long (own_reach (qo + (qr - (1 : Int64))) (1 : Int64) n))])) _
        refine XS.lload X19.here hx rfl (hb hby at_152) rfl ?_
        show Steps p.tables e below (T19.setTop (mkF m 154 #[.val (.long q1), .second, .val (.long q2), .second, .val (.int p3), .val (.long q4), .second, .val (.int p5), .val (.long qo), .second, .val (.long qr), .second, .val (.int n), .val (.ref c1), .val (.ref c11), .val (.ref b12), .val (.long (own_reach qo qr n)), .second, .val (.long (qo + (qr - (1 : Int64)))), .second, .val (.ref b16), .val (.long (own_reach (qo + (qr - (1 : Int64))) (1 : Int64) n)), .second] [(.long (qo + (qr - (1 : Int64)))), (.long (own_reach (qo + (qr - (1 : Int64))) (1 : Int64) n))])) _
        refine XS.iload X19.here hx rfl (hb hby at_154) rfl ?_
        show Steps p.tables e below (T19.setTop (mkF m 156 #[.val (.long q1), .second, .val (.long q2), .second, .val (.int p3), .val (.long q4), .second, .val (.int p5), .val (.long qo), .second, .val (.long qr), .second, .val (.int n), .val (.ref c1), .val (.ref c11), .val (.ref b12), .val (.long (own_reach qo qr n)), .second, .val (.long (qo + (qr - (1 : Int64)))), .second, .val (.ref b16), .val (.long (own_reach (qo + (qr - (1 : Int64))) (1 : Int64) n)), .second] [(.int n), (.long (qo + (qr - (1 : Int64)))), (.long (own_reach (qo + (qr - (1 : Int64))) (1 : Int64) n))])) _
        refine XS.i2l X19.here hx rfl (hb hby at_156) rfl ?_
        show Steps p.tables e below (T19.setTop (mkF m 157 #[.val (.long q1), .second, .val (.long q2), .second, .val (.int p3), .val (.long q4), .second, .val (.int p5), .val (.long qo), .second, .val (.long qr), .second, .val (.int n), .val (.ref c1), .val (.ref c11), .val (.ref b12), .val (.long (own_reach qo qr n)), .second, .val (.long (qo + (qr - (1 : Int64)))), .second, .val (.ref b16), .val (.long (own_reach (qo + (qr - (1 : Int64))) (1 : Int64) n)), .second] [(.long (n.toInt64)), (.long (qo + (qr - (1 : Int64)))), (.long (own_reach (qo + (qr - (1 : Int64))) (1 : Int64) n))])) _
        refine XS.ladd X19.here hx rfl (hb hby at_157) rfl ?_
        show Steps p.tables e below (T19.setTop (mkF m 158 #[.val (.long q1), .second, .val (.long q2), .second, .val (.int p3), .val (.long q4), .second, .val (.int p5), .val (.long qo), .second, .val (.long qr), .second, .val (.int n), .val (.ref c1), .val (.ref c11), .val (.ref b12), .val (.long (own_reach qo qr n)), .second, .val (.long (qo + (qr - (1 : Int64)))), .second, .val (.ref b16), .val (.long (own_reach (qo + (qr - (1 : Int64))) (1 : Int64) n)), .second] [(.long ((qo + (qr - (1 : Int64))) + (n.toInt64))), (.long (own_reach (qo + (qr - (1 : Int64))) (1 : Int64) n))])) _
        refine XS.lcmp X19.here hx rfl (hb hby at_158) rfl ?_
        show Steps p.tables e below (T19.setTop (mkF m 159 #[.val (.long q1), .second, .val (.long q2), .second, .val (.int p3), .val (.long q4), .second, .val (.int p5), .val (.long qo), .second, .val (.long qr), .second, .val (.int n), .val (.ref c1), .val (.ref c11), .val (.ref b12), .val (.long (own_reach qo qr n)), .second, .val (.long (qo + (qr - (1 : Int64)))), .second, .val (.ref b16), .val (.long (own_reach (qo + (qr - (1 : Int64))) (1 : Int64) n)), .second] [(.int (lcmpW (own_reach (qo + (qr - (1 : Int64))) (1 : Int64) n) ((qo + (qr - (1 : Int64))) + (n.toInt64))))])) _
        refine XS.ifNo X19.here hx rfl (hb hby at_159) rfl ((if0 _ _).trans (teq ((lw_eq _ _).mpr own_r2)).2) ?_
        show Steps p.tables e below (T19.setTop (mkF m 162 #[.val (.long q1), .second, .val (.long q2), .second, .val (.int p3), .val (.long q4), .second, .val (.int p5), .val (.long qo), .second, .val (.long qr), .second, .val (.int n), .val (.ref c1), .val (.ref c11), .val (.ref b12), .val (.long (own_reach qo qr n)), .second, .val (.long (qo + (qr - (1 : Int64)))), .second, .val (.ref b16), .val (.long (own_reach (qo + (qr - (1 : Int64))) (1 : Int64) n)), .second] [])) _
        refine XS.iconst X19.here hx rfl (hb hby at_162) ?_
        show Steps p.tables e below (T19.setTop (mkF m 163 #[.val (.long q1), .second, .val (.long q2), .second, .val (.int p3), .val (.long q4), .second, .val (.int p5), .val (.long qo), .second, .val (.long qr), .second, .val (.int n), .val (.ref c1), .val (.ref c11), .val (.ref b12), .val (.long (own_reach qo qr n)), .second, .val (.long (qo + (qr - (1 : Int64)))), .second, .val (.ref b16), .val (.long (own_reach (qo + (qr - (1 : Int64))) (1 : Int64) n)), .second] [(.int (1 : Int32))])) _
        refine XS.goto X19.here hx rfl (pc0 := 163) (pc' := 167) rfl (hb hby at_163) (by decide) (by decide) ?_
        exact kz
      obtain ⟨fs, hrr, hrun, hended, hW, hsame⟩ := X19.leave (v := some (.int (1 : Int32))) (fun h => by rw [Bd.returns] at h; cases h)
      refine ⟨_, _, ?_, hrun, hended, _, _, rfl, ?_, ⟨_, rfl⟩, hW, hsame.mono (by decide) (by decide)⟩
      · show Steps p.tables e below (T19.setTop (mkF m 167 #[.val (.long q1), .second, .val (.long q2), .second, .val (.int p3), .val (.long q4), .second, .val (.int p5), .val (.long qo), .second, .val (.long qr), .second, .val (.int n), .val (.ref c1), .val (.ref c11), .val (.ref b12), .val (.long (own_reach qo qr n)), .second, .val (.long (qo + (qr - (1 : Int64)))), .second, .val (.ref b16), .val (.long (own_reach (qo + (qr - (1 : Int64))) (1 : Int64) n)), .second] [(.int (1 : Int32))])) _
        exact retN X19 hx (t := .boolean) Bd.returns (by simp) (hb hby at_167) hrr
      · show Qrm0 Z q1 q2 p3 q4 p5 h0 n0 _ T19.heap _
        rw [e19]
        exact ⟨rfl, N19⟩
set_option maxRecDepth 65536 in
set_option maxHeartbeats 40000000 in
theorem comes_1 {Post : Tables → Env → Array Value → State → Outcome → State → Prop} (hpost : ∀ tb e args s v u, (limb_1_1.after args s (.returned v) u = true ∧ limb_1_2.after args s (.returned v) u = true ∧ True) → FrameEnd s (.returned v) u (Jvm.fieldLocs frame_1_writes args s ++ Jvm.arrayLocs frame_1_arrays args s ++ Jvm.staticLocs frame_1_statics s) 24 128 → Post tb e args s (.returned v) u) :
    ArmFor flags0 classFile x code maxLocals ret World_1 tables_1 room_1 Calls_1 rest_1 Pre_1 Post := by
  intro l hfl _ _ p e ha hc hk s m args below hf hA hF happ hP
  obtain ⟨hcalls, hrest, hpre⟩ := hP
  obtain ⟨-, -, -, hnamed, -, -, -, hat⟩ := (Spec.applies_iff hf).mp happ
  obtain ⟨hg, hn⟩ := and_e (Cond.before_iff.mp (show (Jvm.Cond.and given_1 narrow_1).before args s = true from hpre))
  obtain ⟨hcnt, hg1⟩ := and_e hg
  obtain ⟨ha0, hg2⟩ := and_e hg1
  obtain ⟨ha1, hg3⟩ := and_e hg2
  obtain ⟨ha2, hg4⟩ := and_e hg3
  obtain ⟨ha3, hg5⟩ := and_e hg4
  obtain ⟨w0, w1, w2, w3, w4, rfl⟩ : ∃ w0 w1 w2 w3 w4 : Value, args = #[w0, w1, w2, w3, w4] := by
    have hs : args.size = 5 := by simpa [Cond.value, given_1] using hcnt
    obtain ⟨L⟩ := args
    match L, hs with
    | [w0, w1, w2, w3, w4], _ => exact ⟨w0, w1, w2, w3, w4, rfl⟩
  have hw := fun d (hd : d ∈ tables_1) => atoms_spec (ws := Jvm.Cond.code x code maxLocals ret :: tables_1) hat d (List.mem_cons_of_mem _ hd)
  have hfit : Fit s := fun {y c} hc i hi => by
    obtain ⟨ha, rfl⟩ := Array.getElem?_eq_some_iff.mp hc
    have q := List.all_eq_true.mp ((Array.all_eq_true_iff_forall_mem.mp hF) _ (Array.getElem_mem ha)) i (List.mem_range.mpr hi)
    simpa [Array.getElem?_eq_getElem hi] using q
  obtain ⟨i0, ei0⟩ := isL_v ha0
  obtain rfl : w0 = (.long i0) := Option.some.inj ei0
  obtain ⟨i1, ei1⟩ := isL_v ha1
  obtain rfl : w1 = (.long i1) := Option.some.inj ei1
  obtain ⟨i2, ei2⟩ := is_v ha2
  obtain rfl : w2 = (.int i2) := Option.some.inj ei2
  obtain ⟨i3, ei3⟩ := isL_v ha3
  obtain rfl : w3 = (.long i3) := Option.some.inj ei3
  obtain ⟨i4, ei4⟩ := is_v hg5
  obtain rfl : w4 = (.int i4) := Option.some.inj ei4
  have S_l : Sta s s.heap "com/example/sharp_nose/sharpnose/desktop/MagicRule" "LITTLE_ENDIAN_HOST" "Z" (.int (1 : Int32)) := Sta.start (own_eqInt hn) (Or.inr ⟨(hw _ (List.mem_of_getElem? (i := 8) rfl)), (hw _ (List.mem_of_getElem? (i := 32) rfl))⟩)
  obtain ⟨n, o, h1, h2, h3, _, L, rfl, ⟨rfl, N⟩, hq⟩ := rm0 l s _ hw tables_1 i0 i1 i2 i3 i4  s.heap s.heap.size (Nat.le_refl _) S_l p e ha hc hk s m _ below hf ((Spec.applies_iff_loose hf).mp happ).1 ⟨rfl, State.Warmed39.refl s, rfl⟩ trivial
  refine ⟨n, _, h1, h2, h3, hpost _ _ _ _ _ _ ⟨Cond.after_iff.mpr rfl, Cond.after_iff.mpr (eq_i res_at (Term.int_eval (1)) rfl), trivial⟩ ⟨hq.1, hq.2.1, (hq.2.2.sift fun y hy => Or.inr (N y hy)).mono (by decide) (by decide)⟩⟩
theorem main_1_1 : Claimed_1_1 := comes_1 fun _ _ _ _ _ _ h hF => ⟨h.1, hF⟩
theorem main_1_2 : Claimed_1_2 := comes_1 fun _ _ _ _ _ _ h hF => ⟨h.2.1, hF⟩
end Jvm.Pilot.@@N@@
namespace Jvm.Pilot.@@N@@
open Jvm Jvm.ClassFile Sem Op Lib Jvm.Free Jvm.Stand Jvm.Pilot.@@N@@.Jvm.D
/-! MADE BY PROGRAM (witnessworld.py) out of the Statement's table words and the real class files: 10 classes; the members and pool entries that the words name. The judged class is class 1, her method 1. -/
namespace start1
open Jvm.ClassFile
def u (s : String) : CpInfo := .utf8 (stringToUtf16 s)
/-- a pool by its gaps: so many unusable entries, then the entry; so many at the end -/
def gap : Nat → List CpInfo → List CpInfo
  | 0, r => r
  | n + 1, r => .unusable :: gap n r
def poolList (es : List (Nat × CpInfo)) (last : Nat) : List CpInfo := es.foldr (fun e r => gap e.1 (e.2 :: r)) (gap last [])
def pool (es : List (Nat × CpInfo)) (last : Nat) : Array CpInfo := ⟨poolList es last⟩
def fileOf (pool : Array CpInfo) (this : Nat) (attrs : Array Attribute := #[]) (ms : Array MethodInfo := #[]) (fl : Nat := 33) (sup : Nat := 0) (ifs : Array Nat := #[]) (fds : Array FieldInfo := #[]) : ClassFile where
  minorVersion := 0
  majorVersion := 65
  constantPool := pool
  accessFlags := fl
  thisClass := this
  superClass := sup
  interfaces := ifs
  fields := fds
  methods := ms
  attributes := attrs
def plain (name : String) (sup : Option ClassId) : Class where
  name := name
  kind := .ordinary
  loader := none
  accessFlags := 33
  super := sup
  interfaces := #[]
  cf := none
  fields := #[]
  methods := #[]
  instanceTypes := #[]
  staticTypes := #[]
  resolved := #[]
  callSites := []
  init := .initialized
  statics := none
  mirror := none

def pool0 : Array CpInfo := pool [(5, u "<init>"), (0, u "()V"), (1, .class_ 10), (1, u "java/lang/Object"), (85, u "clone"), (0, u "()Ljava/lang/Object;")] 26

def k0c0 : Code := { maxStack := 0, maxLocals := 1, code := object_method_1_code, exceptionTable := #[], attributes := #[] }
def k0m0 : Method := { name := "<init>", desc := "()V", sig := { parameters := [], returnType := none }, accessFlags := 1, code := some k0c0 }
def k0m1 : Method := { name := "clone", desc := "()Ljava/lang/Object;", sig := { parameters := [], returnType := some (.object "java/lang/Object") }, accessFlags := 260, code := none }
/-- java/lang/Object -/
def k0 : Class := { plain "java/lang/Object" none with
  accessFlags := 33
  interfaces := #[]
  cf := some (fileOf pool0 8 #[] #[{ accessFlags := 1, nameIndex := 5, descriptorIndex := 6, attributes := #[] }, { accessFlags := 260, nameIndex := 96, descriptorIndex := 97, attributes := #[] }] 33 0 #[] #[])
  fields := #[]
  methods := #[k0m0, k0m1]
  instanceTypes := #[]
  staticTypes := #[]
  resolved := Array.replicate 124 none
  statics := none }

def pool1 : Array CpInfo := pool [(2, .class_ 4), (1, u "java/lang/Object"), (0, u "<init>"), (0, u "()V"), (0, .long 2147483647), (1, .methodref 10 11), (0, .class_ 12), (0, .nameAndType 13 14), (0, u "com/example/sharp_nose/sharpnose/desktop/MagicRuleReachPinLaw"), (0, u "bytes"), (0, u "(II)[B"), (0, .class_ 16), (0, u "com/example/sharp_nose/sharpnose/desktop/MagicRule"), (0, .methodref 15 18), (0, .nameAndType 5 19), (0, u "(IJ[B[BJJ)V"), (0, .methodref 15 21), (0, .nameAndType 22 23), (0, u "reach"), (0, u "()J"), (2, u "law"), (0, u "(JJIJI)Z")] 5

def k1m0 : Method := { name := "<init>", desc := "()V", sig := { parameters := [], returnType := none }, accessFlags := 1, code := none }
def k1c1 : Code := { maxStack := 11, maxLocals := 23, code := code, exceptionTable := #[], attributes := #[] }
def k1m1 : Method := { name := "law", desc := "(JJIJI)Z", sig := { parameters := [.long, .long, .int, .long, .int], returnType := some .boolean }, accessFlags := 9, code := some k1c1 }
def k1c2 : Code := { maxStack := 5, maxLocals := 2, code := method_3_code, exceptionTable := #[], attributes := #[] }
def k1m2 : Method := { name := "bytes", desc := "(II)[B", sig := { parameters := [.int, .int], returnType := some (.array .byte) }, accessFlags := 10, code := some k1c2 }
/-- com/example/sharp_nose/sharpnose/desktop/MagicRuleReachPinLaw -/
def k1 : Class := { plain "com/example/sharp_nose/sharpnose/desktop/MagicRuleReachPinLaw" (some 0) with
  accessFlags := 49
  interfaces := #[]
  cf := some (fileOf pool1 10 #[] #[{ accessFlags := 1, nameIndex := 5, descriptorIndex := 6, attributes := #[] }, { accessFlags := 9, nameIndex := 26, descriptorIndex := 27, attributes := #[] }, { accessFlags := 10, nameIndex := 13, descriptorIndex := 14, attributes := #[] }] 49 2 #[] #[])
  fields := #[]
  methods := #[k1m0, k1m1, k1m2]
  instanceTypes := #[]
  staticTypes := #[]
  resolved := Array.replicate 33 none
  statics := none }

def pool2 : Array CpInfo := pool [(3, .methodref 4 5), (0, .class_ 6), (0, .nameAndType 7 8), (0, u "java/lang/Object"), (0, u "<init>"), (0, u "()V"), (0, .fieldref 10 11), (0, .class_ 12), (0, .nameAndType 13 14), (0, u "com/example/sharp_nose/sharpnose/desktop/MagicRule"), (0, u "depth"), (0, u "I"), (0, .fieldref 10 16), (0, .nameAndType 17 18), (0, u "offset"), (0, u "J"), (0, .methodref 10 20), (0, .nameAndType 21 22), (0, u "hostOrder"), (0, u "([BJ)[B"), (0, .fieldref 10 24), (0, .nameAndType 25 26), (0, u "value"), (0, u "[B"), (0, .fieldref 10 28), (0, .nameAndType 29 26), (0, u "mask"), (0, .fieldref 10 31), (0, .nameAndType 32 18), (0, u "range"), (0, .methodref 34 35), (0, .class_ 36), (0, .nameAndType 37 38), (0, u "java/lang/Math"), (0, u "min"), (0, u "(JJ)J"), (4, .methodref 44 45), (0, .class_ 26), (0, .nameAndType 46 47), (0, u "clone"), (0, u "()Ljava/lang/Object;"), (0, .fieldref 10 49), (0, .nameAndType 50 51), (0, u "LITTLE_ENDIAN_HOST"), (0, u "Z"), (10, u "LARGEST_NUMBER"), (3, u "(IJ[B[BJJ)V"), (4, u "reach"), (0, u "()J")] 5

def k2c0 : Code := { maxStack := 4, maxLocals := 10, code := prog_23_method_1_code, exceptionTable := #[], attributes := #[] }
def k2m0 : Method := { name := "<init>", desc := "(IJ[B[BJJ)V", sig := { parameters := [.int, .long, (.array .byte), (.array .byte), .long, .long], returnType := none }, accessFlags := 0, code := some k2c0 }
def k2c1 : Code := { maxStack := 4, maxLocals := 1, code := prog_23_method_3_code, exceptionTable := #[], attributes := #[] }
def k2m1 : Method := { name := "reach", desc := "()J", sig := { parameters := [], returnType := some .long }, accessFlags := 0, code := some k2c1 }
def k2c2 : Code := { maxStack := 6, maxLocals := 7, code := prog_23_method_6_code, exceptionTable := #[], attributes := #[] }
def k2m2 : Method := { name := "hostOrder", desc := "([BJ)[B", sig := { parameters := [(.array .byte), .long], returnType := some (.array .byte) }, accessFlags := 10, code := some k2c2 }
/-- com/example/sharp_nose/sharpnose/desktop/MagicRule -/
def k2 : Class := { plain "com/example/sharp_nose/sharpnose/desktop/MagicRule" (some 0) with
  accessFlags := 48
  interfaces := #[]
  cf := some (fileOf pool2 10 #[] #[{ accessFlags := 0, nameIndex := 7, descriptorIndex := 66, attributes := #[] }, { accessFlags := 0, nameIndex := 71, descriptorIndex := 72, attributes := #[] }, { accessFlags := 10, nameIndex := 21, descriptorIndex := 22, attributes := #[] }] 48 4 #[] #[{ accessFlags := 24, nameIndex := 62, descriptorIndex := 18, attributes := #[] }, { accessFlags := 26, nameIndex := 50, descriptorIndex := 51, attributes := #[] }, { accessFlags := 18, nameIndex := 13, descriptorIndex := 14, attributes := #[] }, { accessFlags := 18, nameIndex := 17, descriptorIndex := 18, attributes := #[] }, { accessFlags := 18, nameIndex := 25, descriptorIndex := 26, attributes := #[] }, { accessFlags := 18, nameIndex := 29, descriptorIndex := 26, attributes := #[] }, { accessFlags := 18, nameIndex := 32, descriptorIndex := 18, attributes := #[] }])
  fields := #[{ name := "LARGEST_NUMBER", type := .long, accessFlags := 24, slot := 0, constantValue := 0 }, { name := "LITTLE_ENDIAN_HOST", type := .boolean, accessFlags := 26, slot := 1, constantValue := 0 }, { name := "depth", type := .int, accessFlags := 18, slot := 0, constantValue := 0 }, { name := "offset", type := .long, accessFlags := 18, slot := 1, constantValue := 0 }, { name := "value", type := (.array .byte), accessFlags := 18, slot := 2, constantValue := 0 }, { name := "mask", type := (.array .byte), accessFlags := 18, slot := 3, constantValue := 0 }, { name := "range", type := .long, accessFlags := 18, slot := 4, constantValue := 0 }]
  methods := #[k2m0, k2m1, k2m2]
  instanceTypes := #[.int, .long, (.array .byte), (.array .byte), .long]
  staticTypes := #[.long, .boolean]
  resolved := Array.replicate 78 none
  statics := some 0 }

def pool3 : Array CpInfo := pool [(1, .class_ 2), (0, u "java/lang/Cloneable"), (0, .class_ 4), (0, u "java/lang/Object")] 2

/-- java/lang/Cloneable -/
def k3 : Class := { plain "java/lang/Cloneable" (some 0) with
  accessFlags := 1537
  interfaces := #[]
  cf := some (fileOf pool3 1 #[] #[] 1537 3 #[] #[])
  fields := #[]
  methods := #[]
  instanceTypes := #[]
  staticTypes := #[]
  resolved := Array.replicate 7 none
  statics := none }

def pool4 : Array CpInfo := pool [(1, .class_ 2), (0, u "java/lang/Math"), (1, .class_ 6), (1, u "java/lang/Object"), (0, u "<init>"), (0, u "()V"), (89, .class_ 100), (1, u "java/lang/Math$RandomNumberGeneratorHolder"), (20, u "(JJ)J"), (50, u "negativeZeroFloatBits"), (0, u "J"), (2, u "negativeZeroDoubleBits"), (24, u "min"), (43, u "$assertionsDisabled"), (0, u "Z"), (91, u "twoToTheDoubleScaleDown"), (0, u "D"), (4, u "twoToTheDoubleScaleUp"), (9, u "E"), (3, u "PI"), (2, u "TAU"), (2, u "DEGREES_TO_RADIANS"), (0, u "RADIANS_TO_DEGREES")] 94

def k4m0 : Method := { name := "<init>", desc := "()V", sig := { parameters := [], returnType := none }, accessFlags := 2, code := none }
def k4c1 : Code := { maxStack := 4, maxLocals := 4, code := jdk_29_method_70_code, exceptionTable := #[], attributes := #[] }
def k4m1 : Method := { name := "min", desc := "(JJ)J", sig := { parameters := [.long, .long], returnType := some .long }, accessFlags := 9, code := some k4c1 }
/-- java/lang/Math -/
def k4 : Class := { plain "java/lang/Math" (some 0) with
  accessFlags := 49
  interfaces := #[]
  cf := some (fileOf pool4 1 #[.nestMembers #[98]] #[{ accessFlags := 2, nameIndex := 7, descriptorIndex := 8, attributes := #[] }, { accessFlags := 9, nameIndex := 201, descriptorIndex := 121, attributes := #[] }] 49 4 #[] #[{ accessFlags := 25, nameIndex := 354, descriptorIndex := 339, attributes := #[] }, { accessFlags := 25, nameIndex := 358, descriptorIndex := 339, attributes := #[] }, { accessFlags := 25, nameIndex := 361, descriptorIndex := 339, attributes := #[] }, { accessFlags := 26, nameIndex := 364, descriptorIndex := 339, attributes := #[] }, { accessFlags := 26, nameIndex := 365, descriptorIndex := 339, attributes := #[] }, { accessFlags := 26, nameIndex := 172, descriptorIndex := 173, attributes := #[] }, { accessFlags := 26, nameIndex := 176, descriptorIndex := 173, attributes := #[] }, { accessFlags := 8, nameIndex := 344, descriptorIndex := 339, attributes := #[] }, { accessFlags := 8, nameIndex := 338, descriptorIndex := 339, attributes := #[] }, { accessFlags := 4120, nameIndex := 245, descriptorIndex := 246, attributes := #[] }])
  fields := #[{ name := "E", type := .double, accessFlags := 25, slot := 0, constantValue := 0 }, { name := "PI", type := .double, accessFlags := 25, slot := 1, constantValue := 0 }, { name := "TAU", type := .double, accessFlags := 25, slot := 2, constantValue := 0 }, { name := "DEGREES_TO_RADIANS", type := .double, accessFlags := 26, slot := 3, constantValue := 0 }, { name := "RADIANS_TO_DEGREES", type := .double, accessFlags := 26, slot := 4, constantValue := 0 }, { name := "negativeZeroFloatBits", type := .long, accessFlags := 26, slot := 5, constantValue := 0 }, { name := "negativeZeroDoubleBits", type := .long, accessFlags := 26, slot := 6, constantValue := 0 }, { name := "twoToTheDoubleScaleUp", type := .double, accessFlags := 8, slot := 7, constantValue := 0 }, { name := "twoToTheDoubleScaleDown", type := .double, accessFlags := 8, slot := 8, constantValue := 0 }, { name := "$assertionsDisabled", type := .boolean, accessFlags := 4120, slot := 9, constantValue := 0 }]
  methods := #[k4m0, k4m1]
  instanceTypes := #[]
  staticTypes := #[.double, .double, .double, .double, .double, .long, .long, .double, .double, .boolean]
  resolved := Array.replicate 460 none
  statics := none }

def pool5 : Array CpInfo := pool [(1, u "java/io/Serializable"), (0, .class_ 1), (0, u "java/lang/Object"), (0, .class_ 3)] 3

/-- java/io/Serializable -/
def k5 : Class := { plain "java/io/Serializable" (some 0) with
  accessFlags := 1537
  interfaces := #[]
  cf := some (fileOf pool5 2 #[] #[] 1537 4 #[] #[])
  fields := #[]
  methods := #[]
  instanceTypes := #[]
  staticTypes := #[]
  resolved := Array.replicate 8 none
  statics := none }

/-- the primitive byte -/
def k6 : Class := { plain "byte" none with kind := .primitive 'B', accessFlags := 0x411 }
/-- [B -/
def k7 : Class := { plain "[B" (some 0) with kind := .array 6 .byte, interfaces := #[3, 5], accessFlags := 1041 }

/-- the primitive int -/
def k8 : Class := { plain "int" none with kind := .primitive 'I', accessFlags := 0x411 }
/-- [I -/
def k9 : Class := { plain "[I" (some 0) with kind := .array 8 .int, interfaces := #[3, 5], accessFlags := 1041 }

def heap : Heap := #[{ cls := 2, slots := #[.long 0, .int 1], vm := .statics 2 }]
def classes : Array Class := #[k0, k1, k2, k3, k4, k5, k6, k7, k8, k9]
def interned : List (Array UInt16 × Addr) := []
def slotsUsed : Nat := 2
def theMethod : MethodId := ⟨1, 1⟩
def args0 : Array Value := #[.long 5, .long 5, .int 5, .long 5, .int 5]
def aboutOver (below : List Frame) : State where
  vm := { classes := classes, interned := interned.toArray }
  heap := heap
  slotsUsed := slotsUsed
  threads := #[{ frames := .invoking theMethod args0 :: below }]
def below0 : List Frame := [.native { method := ⟨0, 0⟩, args := #[] }]
def about1 : State := aboutOver below0
def p0 : Program := .bare "" "" ""
def e0 : Env := launch0.env 0 0 0
theorem w_frames : about1.frames = Frame.invoking theMethod args0 :: below0 := rfl
set_option maxRecDepth 65536 in
theorem w_args : argsFit about1.vm theMethod args0 = true := by decide +kernel
set_option maxRecDepth 65536 in
theorem w_heap : heapFits about1 = true := by decide +kernel
set_option maxRecDepth 65536 in
theorem w_runnable : about1.curStatus? = some .runnable := by decide +kernel
set_option maxRecDepth 65536 in
theorem w_alone : about1.alone = true := by decide +kernel
set_option maxRecDepth 65536 in
theorem w_named : about1.methodNamed? x = some theMethod := by decide +kernel
set_option maxRecDepth 65536 in
theorem w_hears : about1.hears theMethod below0 = true := by decide +kernel
set_option maxRecDepth 65536 in
theorem w_ripe : about1.ripe theMethod args0 below0 = true := by decide +kernel
theorem w_running : about1.status = .running := rfl
set_option maxRecDepth 65536 in
theorem w_room : about1.hasRoom e0.platform room_1 = true :=
  launch0.hasRoom_least _ room_1 (by decide +kernel) (by decide +kernel) (by decide +kernel) (by decide +kernel) (by decide +kernel) (by decide +kernel)
theorem allAtoms_all (ts : List Jvm.Cond) (a : Array Jvm.Value) (st : Jvm.State) : (allAtoms ts).before a st = ts.all (fun c => c.before a st) := by
  induction ts with
  | nil => rfl
  | cons c t ih =>
    show (Jvm.Cond.and c (allAtoms t)).before a st = _
    rw [Jvm.Cond.before_and, ih, List.all_cons]
def words1 : List Jvm.Cond := Jvm.Cond.code x code maxLocals ret :: tables_1
/-- a 'code' word, met by the world's own term for the bytes: nothing is compared byte by byte -/
theorem code_word {y : MethodName} {bytes : ByteArray} {mx : Nat} {rt : Option FieldType} {a : Array Value} {s : State} {m : MethodId} {meth : Method} {c : Code} (h1 : s.methodNamed? y = some m) (h2 : s.vm.method? m = some meth) (h3 : meth.code = some c) (h4 : c.code = bytes)
    (h5 : (c.maxLocals == mx && c.exceptionTable.isEmpty && decide (c.maxStack ≤ mostOperands) && decide (meth.sig.returnType = rt) && !meth.locks && decide (parseMethodDescriptor y.desc = some meth.sig)) = true) : (Jvm.Cond.code y bytes mx rt).before a s = true := by
  simp only [Bool.and_eq_true, beq_iff_eq, Bool.not_eq_true', decide_eq_true_eq] at h5
  obtain ⟨⟨⟨⟨⟨g1, g2⟩, g3⟩, g4⟩, g5⟩, g6⟩ := h5
  simp [Cond.before, Cond.holds, Cond.value, h1, h2, h3, h4, g1, g2, g3, g4, g5, g6]
def isCode : Jvm.Cond → Bool
  | .code _ _ _ _ => true
  | _ => false
theorem all_split {L : List Jvm.Cond} {P : Jvm.Cond → Bool} (h1 : L.all (fun c => isCode c || P c) = true) (h2 : ∀ c ∈ L.filter isCode, P c = true) : L.all P = true := by
  refine List.all_eq_true.mpr fun c hc => ?_
  have h := List.all_eq_true.mp h1 c hc
  rcases Bool.eq_false_or_eq_true (isCode c) with hi | hi
  · exact h2 c (List.mem_filter.mpr ⟨hc, hi⟩)
  · simpa [hi] using h
set_option maxRecDepth 65536 in
theorem w_c0 : (Jvm.Cond.code x code maxLocals ret).before args0 about1 = true := code_word (m := ⟨1, 1⟩) (meth := k1m1) (c := k1c1) (by decide +kernel) rfl rfl rfl (by decide +kernel)
set_option maxRecDepth 65536 in
theorem w_c1 : (Jvm.Cond.code ({ cls := "com/example/sharp_nose/sharpnose/desktop/MagicRuleReachPinLaw", name := "bytes", desc := "(II)[B" } : Jvm.MethodName) method_3_code (2 : Nat) (Option.some (Jvm.ClassFile.FieldType.array Jvm.ClassFile.FieldType.byte))).before args0 about1 = true := code_word (m := ⟨1, 2⟩) (meth := k1m2) (c := k1c2) (by decide +kernel) rfl rfl rfl (by decide +kernel)
set_option maxRecDepth 65536 in
theorem w_c2 : (Jvm.Cond.code ({ cls := "com/example/sharp_nose/sharpnose/desktop/MagicRule", name := "<init>", desc := "(IJ[B[BJJ)V" } : Jvm.MethodName) prog_23_method_1_code (10 : Nat) (Option.none : Option Jvm.ClassFile.FieldType)).before args0 about1 = true := code_word (m := ⟨2, 0⟩) (meth := k2m0) (c := k2c0) (by decide +kernel) rfl rfl rfl (by decide +kernel)
set_option maxRecDepth 65536 in
theorem w_c3 : (Jvm.Cond.code ({ cls := "java/lang/Object", name := "<init>", desc := "()V" } : Jvm.MethodName) object_method_1_code (1 : Nat) (Option.none : Option Jvm.ClassFile.FieldType)).before args0 about1 = true := code_word (m := ⟨0, 0⟩) (meth := k0m0) (c := k0c0) (by decide +kernel) rfl rfl rfl (by decide +kernel)
set_option maxRecDepth 65536 in
theorem w_c4 : (Jvm.Cond.code ({ cls := "com/example/sharp_nose/sharpnose/desktop/MagicRule", name := "hostOrder", desc := "([BJ)[B" } : Jvm.MethodName) prog_23_method_6_code (7 : Nat) (Option.some (Jvm.ClassFile.FieldType.array Jvm.ClassFile.FieldType.byte))).before args0 about1 = true := code_word (m := ⟨2, 2⟩) (meth := k2m2) (c := k2c2) (by decide +kernel) rfl rfl rfl (by decide +kernel)
set_option maxRecDepth 65536 in
theorem w_c5 : (Jvm.Cond.code ({ cls := "com/example/sharp_nose/sharpnose/desktop/MagicRule", name := "reach", desc := "()J" } : Jvm.MethodName) prog_23_method_3_code (1 : Nat) (Option.some Jvm.ClassFile.FieldType.long)).before args0 about1 = true := code_word (m := ⟨2, 1⟩) (meth := k2m1) (c := k2c1) (by decide +kernel) rfl rfl rfl (by decide +kernel)
set_option maxRecDepth 65536 in
theorem w_c6 : (Jvm.Cond.code ({ cls := "java/lang/Math", name := "min", desc := "(JJ)J" } : Jvm.MethodName) jdk_29_method_70_code (4 : Nat) (Option.some Jvm.ClassFile.FieldType.long)).before args0 about1 = true := code_word (m := ⟨4, 1⟩) (meth := k4m1) (c := k4c1) (by decide +kernel) rfl rfl rfl (by decide +kernel)
def codes1 : List Jvm.Cond := [Jvm.Cond.code x code maxLocals ret, Jvm.Cond.code ({ cls := "com/example/sharp_nose/sharpnose/desktop/MagicRuleReachPinLaw", name := "bytes", desc := "(II)[B" } : Jvm.MethodName) method_3_code (2 : Nat) (Option.some (Jvm.ClassFile.FieldType.array Jvm.ClassFile.FieldType.byte)), Jvm.Cond.code ({ cls := "com/example/sharp_nose/sharpnose/desktop/MagicRule", name := "<init>", desc := "(IJ[B[BJJ)V" } : Jvm.MethodName) prog_23_method_1_code (10 : Nat) (Option.none : Option Jvm.ClassFile.FieldType), Jvm.Cond.code ({ cls := "java/lang/Object", name := "<init>", desc := "()V" } : Jvm.MethodName) object_method_1_code (1 : Nat) (Option.none : Option Jvm.ClassFile.FieldType), Jvm.Cond.code ({ cls := "com/example/sharp_nose/sharpnose/desktop/MagicRule", name := "hostOrder", desc := "([BJ)[B" } : Jvm.MethodName) prog_23_method_6_code (7 : Nat) (Option.some (Jvm.ClassFile.FieldType.array Jvm.ClassFile.FieldType.byte)), Jvm.Cond.code ({ cls := "com/example/sharp_nose/sharpnose/desktop/MagicRule", name := "reach", desc := "()J" } : Jvm.MethodName) prog_23_method_3_code (1 : Nat) (Option.some Jvm.ClassFile.FieldType.long), Jvm.Cond.code ({ cls := "java/lang/Math", name := "min", desc := "(JJ)J" } : Jvm.MethodName) jdk_29_method_70_code (4 : Nat) (Option.some Jvm.ClassFile.FieldType.long)]
set_option maxRecDepth 65536 in
theorem codes_eq : words1.filter isCode = codes1 := rfl
theorem w_codes : ∀ c ∈ words1.filter isCode, c.before args0 about1 = true := by
  rw [codes_eq]
  intro c hc
  simp only [codes1, List.mem_cons, List.not_mem_nil, or_false] at hc
  rcases hc with rfl | rfl | rfl | rfl | rfl | rfl | rfl
  · exact w_c0
  · exact w_c1
  · exact w_c2
  · exact w_c3
  · exact w_c4
  · exact w_c5
  · exact w_c6
set_option maxRecDepth 65536 in
theorem w_t1 : (words1.take 24).all (fun c => isCode c || c.before args0 about1) = true := by decide +kernel
set_option maxRecDepth 65536 in
theorem w_t2 : ((words1.drop 24).take 24).all (fun c => isCode c || c.before args0 about1) = true := by decide +kernel
set_option maxRecDepth 65536 in
theorem w_t3 : ((words1.drop 24).drop 24).all (fun c => isCode c || c.before args0 about1) = true := by decide +kernel
theorem w_tables : (allAtoms (Jvm.Cond.code x code maxLocals ret :: tables_1)).before args0 about1 = true := by
  rw [allAtoms_all]
  show words1.all (fun c => c.before args0 about1) = true
  refine all_split ?_ w_codes
  rw [← List.take_append_drop 24 words1, List.all_append, w_t1, ← List.take_append_drop 24 (words1.drop 24), List.all_append, w_t2, w_t3]
  rfl
set_option maxRecDepth 65536 in
theorem w_case : (Jvm.Cond.and given_1 narrow_1).before args0 about1 = true := by decide +kernel
theorem w_applies : (headSpec (Jvm.Cond.code x code maxLocals ret :: tables_1) room_1).applies x e0.platform about1 = true :=
  (Spec.applies_iff w_frames).mpr ⟨w_running, w_runnable, w_alone, w_named, w_hears, w_ripe, w_room, w_tables⟩
theorem atStart : AtStart classFile x code maxLocals ret World_1 tables_1 room_1 Calls_1 rest_1 Pre_1 launch0 p0 e0 about1 theMethod args0 below0 :=
  ⟨lists_1, trivial, launch0.admits_env _ _ _, launch0.least_env, fairChoices_fair.cas, fairChoices_fair.clock, w_frames, w_args, w_heap, w_applies, trivial, trivial, w_case⟩
end start1
theorem witness_1 : WitnessClaimed_1 := ⟨start1.p0, start1.e0, start1.about1, start1.theMethod, start1.args0, start1.below0, start1.atStart⟩
end Jvm.Pilot.@@N@@
