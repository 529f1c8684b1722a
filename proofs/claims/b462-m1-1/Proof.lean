import JvmDerived
import JvmDerived.Pilot.@@N@@Statement
import JvmDerived.Pilot.@@N@@Code
set_option linter.unusedVariables false
set_option linter.unusedSimpArgs false
namespace Jvm.RoadKit
open Sem ClassFile Op Lib Jvm.Stand Jvm.Free Jvm.LawKit
section New
variable {p : Program} {l : Launch} {e : Env} {R : Room} {s : State} {m : MethodId} {args : Array Value} {below : List Frame} {meth : Method} {c : Code} {T : State} {locs : List Loc} {cells slots : Nat}
theorem retI (X : Stand p l e R s m args below meth c T locs cells slots) (hx : p.tables.exec = Jvm.exec) {pc : Nat} {Ls : Array Slot} {z : Int32} {rest : List Value} (hret : meth.sig.returnType = some .int) (hd : decode c.code pc = .ok (.ireturn, 1)) {fs : List Frame}
    (hl : ∀ (f : JFrame) (acts : List Action), f.method = m → f.locked = none → f.entered = [] → (doReturn e (T.setTop f) acts (some (.int z))).1 = T.setFrames fs) : Steps p.tables e below (T.setTop (mkF m pc Ls (.int z :: rest))) (T.setFrames fs) := by
  have hm' : T.vm.method? m = some meth := X.method'
  have hn : narrow .int (.int z) = .int z := rfl
  show Steps p.tables e below (T.setTop { method := m, pc := pc, locals := Ls, stack := _ :: rest, locked := none }) _
  jvm_step X.here [X.here.top, hx, hd, hm', hret, hn]
  first | (intro acts; rw [hl _ acts rfl rfl rfl]) | rw [hl _ _ rfl rfl rfl]
  exact Steps.refl _
end New
end Jvm.RoadKit
namespace Jvm.Pilot.@@N@@
open Jvm Jvm.ClassFile Sem Op Lib Jvm.Free Jvm.Stand Jvm.LawKit Jvm.RoadKit Bundle Jvm.Pilot.@@N@@.Jvm.D
/-- the same for a part of a walk that comes to the frame F -/
theorem own_via {α : Type} {tb : Tables} {e : Env} {below : List Frame} {A B : State} {P : State → α → Prop} {F : α → JFrame} (h : ∀ t, Steps tb e below A t → Steps tb e below B t) (k : ∃ (T : State) (x : α), P T x ∧ ∀ t, Steps tb e below (T.setTop (F x)) t → Steps tb e below A t) : ∃ (T : State) (x : α), P T x ∧ ∀ t, Steps tb e below (T.setTop (F x)) t → Steps tb e below B t := by
  obtain ⟨T, x, k1, k2⟩ := k
  exact ⟨T, x, k1, fun t q => h t (k2 t q)⟩
theorem own_ns {Z : State} {h : Heap} {a : Addr} {C : String} (F : Exa Z h a C) : ∀ c : Cell, h[a]? = some c → c.vm.isStatics = false := fun c hc => by
  obtain ⟨c1, k, h1, -, -, h4, -⟩ := F
  cases hc.symm.trans h1
  exact h4
theorem own_nsA {Z : State} {h : Heap} {a : Addr} {k : ClassId} {ty : FieldType} {z : Int32} {vs : List Value} {dv : Value} (F : Arv Z h a k ty z vs dv) : ∀ c : Cell, h[a]? = some c → c.vm.isStatics = false := fun c hc => by
  obtain ⟨c1, A, -⟩ := F
  cases hc.symm.trans A.1
  exact A.plain
theorem own_nsF {Z : State} {h : Heap} {a : Addr} {C n d : String} {v : Value} (F : Fld Z h a C n d v) : ∀ c : Cell, h[a]? = some c → c.vm.isStatics = false := fun c hc => by
  obtain ⟨c1, _, _, _, _, h1, _, _, _, h5, _⟩ := F
  cases hc.symm.trans h1
  exact h5
theorem own_neA {Z : State} {a0 : Array Value} {h : Heap} {a b : Addr} {C : String} {n : Nat} {k : ClassId} {ty : FieldType} {z : Int32} {vs : List Value} {dv : Value} (F : Exa Z h a C) (wi : (Cond.instantiable C n).before a0 Z = true) (G : Arv Z h b k ty z vs dv) : a ≠ b := by
  obtain ⟨c1, A, -⟩ := G
  exact ne_arr F wi A
theorem own_staKeep {Z : State} {h h' : Heap} {C n d : String} {v : Value} {ws : List Addr} (F : Sta Z h C n d v) (K : Keep h h' ws) (q : ∀ x ∈ ws, ∀ c : Cell, h[x]? = some c → c.vm.isStatics = false) : Sta Z h' C n d v := by
  obtain ⟨cf, i, k, f, st, cell, h1, h2, h3, h4, h5, h6, h7⟩ := F
  exact ⟨cf, i, k, f, st, cell, h1, h2, h3, h4, K.2.1 st cell h5 (fun hm => by rw [q st hm cell h5] at h6; cases h6), h6, h7⟩
/-- a byte made a byte again -/
theorem own_nb (y : Int32) : y.toInt8.toInt32.toInt8.toInt32 = y.toInt8.toInt32 := by 
  have h1 := c_i2b y
  have h2 := c_i2b (y.toInt8.toInt32)
  apply Int32.toInt_inj.mp
  omega
theorem own_nbn (y : Int32) : nar .byte (y.toInt8.toInt32) = y.toInt8.toInt32 := own_nb y
/-- the walk goes on from A where it comes from B to A -/
theorem own_go {tb : Tables} {e : Env} {below : List Frame} {A B : State} {P : State → Outcome → Prop} (h : ∀ t, Steps tb e below A t → Steps tb e below B t) (k : ∃ t o, Steps tb e below A t ∧ P t o) : ∃ t o, Steps tb e below B t ∧ P t o := by
  obtain ⟨t, o, k1, k2⟩ := k
  exact ⟨t, o, h t k1, k2⟩
theorem own_pd0 : parseMethodDescriptor "(II)[B" = some ⟨[.int, .int], some (.array .byte)⟩ := by decide +kernel
theorem own_pd1 : parseMethodDescriptor "([B[B[B[B)V" = some ⟨[(.array .byte), (.array .byte), (.array .byte), (.array .byte)], none⟩ := by decide +kernel
theorem own_pd2 : parseMethodDescriptor "(B)Z" = some ⟨[.byte], some .boolean⟩ := by decide +kernel
def own_b0 (x : Int32) : Int32 := x.toInt8.toInt32
def own_b1 (x : Int32) : Int32 := (x >>> ((8 : Int32) &&& 31)).toInt8.toInt32
def own_l2 (n x : Int32) : List Value := if n = (0 : Int32) then [] else if n = (1 : Int32) then [(.int (own_b0 x))] else [(.int (own_b0 x)), (.int (own_b1 x))]
def own_hs (n x : Int32) : List (Int32 × Value) := if n = (0 : Int32) then [] else if n = (1 : Int32) then [(own_b0 x &&& (255 : Int32), .int (1 : Int32))] else [(own_b1 x &&& (255 : Int32), .int (1 : Int32)), (own_b0 x &&& (255 : Int32), .int (1 : Int32))]
def own_hv (n x j : Int32) : Int32 := if n = (0 : Int32) then 0 else if n = (1 : Int32) then (if j = own_b0 x &&& (255 : Int32) then 1 else 0) else (if j = own_b1 x &&& (255 : Int32) then 1 else if j = own_b0 x &&& (255 : Int32) then 1 else 0)
def own_tm (nt : Int32) : Int32 := nar .boolean (if (0 : Int32) < nt then (1 : Int32) else (0 : Int32))
def own_cm (f n ni nt xp xm xi xt : Int32) : Int32 := if own_hv ni xi (f &&& (255 : Int32)) = (0 : Int32) then (if (0 : Int32) < n then (if ((f &&& own_b0 xm).toInt8.toInt32) = own_b0 xp then 1 else 0) else (if own_tm nt = (0 : Int32) then 1 else (if own_hv nt xt (f &&& (255 : Int32)) = (0 : Int32) then 0 else 1))) else 1
theorem own_a0 (x : Int32) : ¬ (x &&& (255 : Int32)) < 0 := by
  have h := c_mask x (255 : Int32) 8 (by decide) (by decide)
  have e0 : (0 : Int32).toInt = 0 := by decide
  rw [Int32.lt_iff_toInt_lt, e0]; omega
theorem own_a1 (x : Int32) : (x &&& (255 : Int32)) < (256 : Int32) := by
  have h := c_mask x (255 : Int32) 8 (by decide) (by decide)
  have e0 : (256 : Int32).toInt = 256 := by decide
  rw [Int32.lt_iff_toInt_lt, e0]; omega
theorem own_cap2 {n : Int32} (h : n = (0 : Int32) ∨ n = (1 : Int32) ∨ n = (2 : Int32)) : n.toNatClampNeg ≤ 2 := by
  rcases h with rfl | rfl | rfl <;> decide
theorem own_m3 {x : Int32} (n : Int32) (h : n = (x &&& (3 : Int32)) % (3 : Int32)) : n = (0 : Int32) ∨ n = (1 : Int32) ∨ n = (2 : Int32) := by
  have h1 := c_mask x (3 : Int32) 2 (by decide) (by decide)
  have h2 := (c_irem (x &&& (3 : Int32)) (3 : Int32) 3 (by decide)).1 (by omega)
  rw [← h] at h2
  have e0 : (0 : Int32).toInt = 0 := by decide
  have e1 : (1 : Int32).toInt = 1 := by decide
  have e2 : (2 : Int32).toInt = 2 := by decide
  simp only [← Int32.toInt_inj, e0, e1, e2]
  omega
theorem own_l20 {n x : Int32} {d : Value} (hn : n = (0 : Int32) ∨ n = (1 : Int32) ∨ n = (2 : Int32)) (h : (0 : Int32) < n) : (own_l2 n x).getD (0 : Int32).toNatClampNeg d = (.int (own_b0 x)) := by
  rcases hn with rfl | rfl | rfl
  · exact absurd h (by decide)
  · rfl
  · rfl
theorem own_hs1 (x : Int32) : own_hs (1 : Int32) x = [(own_b0 x &&& (255 : Int32), .int (1 : Int32))] := by
  unfold own_hs; rw [if_neg (by decide), if_pos rfl]
theorem own_hs2 (x : Int32) : own_hs (2 : Int32) x = [(own_b1 x &&& (255 : Int32), .int (1 : Int32)), (own_b0 x &&& (255 : Int32), .int (1 : Int32))] := by
  unfold own_hs; rw [if_neg (by decide), if_neg (by decide)]
theorem own_hv1 (x j : Int32) : own_hv (1 : Int32) x j = if j = own_b0 x &&& (255 : Int32) then 1 else 0 := by
  unfold own_hv; rw [if_neg (by decide), if_pos rfl]
theorem own_hv2 (x j : Int32) : own_hv (2 : Int32) x j = if j = own_b1 x &&& (255 : Int32) then 1 else if j = own_b0 x &&& (255 : Int32) then 1 else 0 := by
  unfold own_hv; rw [if_neg (by decide), if_neg (by decide)]
theorem own_gH0 (d : Value) (k : Nat) : getH [] [] d k = d := by simp [getH]
theorem own_hvat {n x j : Int32} (hn : n = (0 : Int32) ∨ n = (1 : Int32) ∨ n = (2 : Int32)) (hj : ¬ j < 0) : getH (own_hs n x) [] (.int (0 : Int32)) j.toNatClampNeg = .int (own_hv n x j) := by
  rcases hn with rfl | rfl | rfl
  · have e : own_hs (0 : Int32) x = [] := by unfold own_hs; rw [if_pos rfl]
    have e' : own_hv (0 : Int32) x j = 0 := by unfold own_hv; rw [if_pos rfl]
    rw [e, e', own_gH0]
  · rw [own_hs1, own_hv1]
    by_cases h : j = own_b0 x &&& (255 : Int32)
    · rw [if_pos h]; exact getH_hit hj h
    · rw [if_neg h]; exact getH_miss hj h (own_gH0 _ _)
  · rw [own_hs2, own_hv2]
    by_cases h1 : j = own_b1 x &&& (255 : Int32)
    · rw [if_pos h1]; exact getH_hit hj h1
    · rw [if_neg h1]
      by_cases h : j = own_b0 x &&& (255 : Int32)
      · rw [if_pos h]; exact getH_miss hj h1 (getH_hit hj h)
      · rw [if_neg h]; exact getH_miss hj h1 (getH_miss hj h (own_gH0 _ _))
theorem own_b0m (x : Int32) : own_b0 x &&& (255 : Int32) = x &&& (255 : Int32) := by
  have h1 := c_mask (own_b0 x) (255 : Int32) 8 (by decide) (by decide)
  have h2 := c_mask x (255 : Int32) 8 (by decide) (by decide)
  have h3 := c_i2b x
  unfold own_b0 at *
  apply Int32.toInt_inj.mp
  omega
theorem own_b1m (x : Int32) : own_b1 x &&& (255 : Int32) = ((x.toUInt32 >>> ((8 : Int32) &&& 31).toUInt32).toInt32) &&& (255 : Int32) := by
  have h1 := c_mask (own_b1 x) (255 : Int32) 8 (by decide) (by decide)
  have h2 := c_mask ((x.toUInt32 >>> ((8 : Int32) &&& 31).toUInt32).toInt32) (255 : Int32) 8 (by decide) (by decide)
  have h3 := c_i2b (x >>> ((8 : Int32) &&& 31))
  have h4 := c_ishr x (8 : Int32) 8 (by decide)
  have h5 := c_iushr x (8 : Int32) 8 (by decide) (by decide)
  unfold own_b1 at *
  apply Int32.toInt_inj.mp
  omega
theorem own_b0eq (x y : Int32) : own_b0 x = own_b0 y ↔ x &&& (255 : Int32) = y &&& (255 : Int32) := by
  have h1 := c_mask x (255 : Int32) 8 (by decide) (by decide)
  have h2 := c_mask y (255 : Int32) 8 (by decide) (by decide)
  have h3 := c_i2b x
  have h4 := c_i2b y
  unfold own_b0
  rw [← Int32.toInt_inj, ← Int32.toInt_inj]
  omega
theorem own_and (f m : Int32) : (own_b0 f &&& own_b0 m) &&& (255 : Int32) = (f &&& m) &&& (255 : Int32) := by
  have e : (255 : Int32) &&& 255 = 255 := by decide
  have q : ∀ a b : Int32, (a &&& b) &&& (255 : Int32) = (a &&& (255 : Int32)) &&& (b &&& (255 : Int32)) := fun a b => by
    rw [Int32.and_assoc, Int32.and_assoc, ← Int32.and_assoc (255 : Int32) b, Int32.and_comm (255 : Int32) b, Int32.and_assoc b, e]
  rw [q, q f m, own_b0m, own_b0m]
theorem own_match (f m pv : Int32) : ((own_b0 f &&& own_b0 m).toInt8.toInt32 = own_b0 (pv &&& m)) ↔ ((f &&& m) &&& (255 : Int32) = (pv &&& m) &&& (255 : Int32)) := by
  have h := own_b0eq (own_b0 f &&& own_b0 m) (pv &&& m)
  rw [own_and] at h
  exact h
theorem own_sx (a b : Int32) : (a &&& b).toInt8.toInt32 = a.toInt8.toInt32 &&& b.toInt8.toInt32 := by
  apply Int32.toBitVec_inj.mp
  apply BitVec.eq_of_getLsbD_eq
  intro i hi
  simp [BitVec.getLsbD_signExtend, BitVec.getLsbD_setWidth, BitVec.msb_eq_getLsbD_last]
theorem own_not (a b : Int32) : (a &&& b) &&& (b ^^^ (-1 : Int32)) = (0 : Int32) := by
  apply Int32.toBitVec_inj.mp
  apply BitVec.eq_of_getLsbD_eq
  intro i hi
  have h1 : (-1 : Int32).toBitVec = BitVec.allOnes 32 := by decide
  simp [h1]
  intro _ h
  simp [h, hi]
theorem own_sub0 (pv m : Int32) : own_b0 (pv &&& m) &&& (own_b0 m ^^^ (-1 : Int32)) = (0 : Int32) := by
  unfold own_b0
  rw [own_sx]; exact own_not _ _
theorem own_sh8 (a b : Int32) : (a &&& b) >>> ((8 : Int32) &&& 31) = (a >>> ((8 : Int32) &&& 31)) &&& (b >>> ((8 : Int32) &&& 31)) := by
  apply Int32.toBitVec_inj.mp
  apply BitVec.eq_of_getLsbD_eq
  intro i hi
  have h32 : ¬ 32 ≤ i := by omega
  by_cases h8 : 8 + i < 32 <;> simp [BitVec.getLsbD_sshiftRight, BitVec.msb_eq_getLsbD_last, h8, h32]
theorem own_sub1 (pv m : Int32) : own_b1 (pv &&& m) &&& (own_b1 m ^^^ (-1 : Int32)) = (0 : Int32) := by
  unfold own_b1
  rw [own_sh8, own_sx]; exact own_not _ _
theorem own_tmv {nt : Int32} (h : nt = (0 : Int32) ∨ nt = (1 : Int32) ∨ nt = (2 : Int32)) : (own_tm nt = (0 : Int32)) ↔ nt = (0 : Int32) := by
  rcases h with rfl | rfl | rfl <;> decide
theorem own_hvv {n x f i1 i2 i3 i4 : Int32} (hn : n = (0 : Int32) ∨ n = (1 : Int32) ∨ n = (2 : Int32)) (h1 : i1 = if n < (1 : Int32) then i3 else i2) (h2 : i2 = if (f &&& (255 : Int32)) = (x &&& (255 : Int32)) then (1 : Int32) else i3) (h3 : i3 = if n < (2 : Int32) then (0 : Int32) else i4) (h4 : i4 = if (f &&& (255 : Int32)) = (((x.toUInt32 >>> ((8 : Int32) &&& 31).toUInt32).toInt32) &&& (255 : Int32)) then (1 : Int32) else (0 : Int32)) :
    own_hv n x (own_b0 f &&& (255 : Int32)) = i1 := by
  unfold own_hv
  rw [own_b0m, own_b0m, own_b1m, h1, h2, h3, h4]
  generalize f &&& (255 : Int32) = F
  generalize x &&& (255 : Int32) = A
  generalize ((x.toUInt32 >>> ((8 : Int32) &&& 31).toUInt32).toInt32) &&& (255 : Int32) = B
  rcases hn with rfl | rfl | rfl
  · rfl
  · rfl
  · clear h1 h2 h3 h4
    show (if F = B then (1 : Int32) else if F = A then 1 else 0) = (if F = A then (1 : Int32) else if F = B then 1 else 0)
    by_cases ha : F = A <;> by_cases hb : F = B <;> simp_all
theorem own_fin {p1 p2 p3 p4 p5 n ni nt i1 i2 i3 i4 t1 t2 t3 t4 e1 e2 e3 e4 e5 : Int32} (hn : n = (0 : Int32) ∨ n = (1 : Int32) ∨ n = (2 : Int32)) (hni : ni = (0 : Int32) ∨ ni = (1 : Int32) ∨ ni = (2 : Int32)) (hnt : nt = (0 : Int32) ∨ nt = (1 : Int32) ∨ nt = (2 : Int32))
    (hi1 : i1 = if ni < (1 : Int32) then i3 else i2) (hi2 : i2 = if (p1 &&& (255 : Int32)) = (p4 &&& (255 : Int32)) then (1 : Int32) else i3) (hi3 : i3 = if ni < (2 : Int32) then (0 : Int32) else i4) (hi4 : i4 = if (p1 &&& (255 : Int32)) = (((p4.toUInt32 >>> ((8 : Int32) &&& 31).toUInt32).toInt32) &&& (255 : Int32)) then (1 : Int32) else (0 : Int32))
    (ht1 : t1 = if nt < (1 : Int32) then t3 else t2) (ht2 : t2 = if (p1 &&& (255 : Int32)) = (p5 &&& (255 : Int32)) then (1 : Int32) else t3) (ht3 : t3 = if nt < (2 : Int32) then (0 : Int32) else t4) (ht4 : t4 = if (p1 &&& (255 : Int32)) = (((p5.toUInt32 >>> ((8 : Int32) &&& 31).toUInt32).toInt32) &&& (255 : Int32)) then (1 : Int32) else (0 : Int32))
    (he1 : e1 = if i1 = (0 : Int32) then e2 else (1 : Int32)) (he2 : e2 = if (0 : Int32) < n then e3 else e4) (he3 : e3 = if ((p1 &&& p2) &&& (255 : Int32)) = ((p3 &&& p2) &&& (255 : Int32)) then (1 : Int32) else (0 : Int32)) (he4 : e4 = if nt = (0 : Int32) then (1 : Int32) else e5) (he5 : e5 = if t1 = (0 : Int32) then (0 : Int32) else (1 : Int32)) :
    own_cm (p1.toInt8.toInt32) n ni nt (p3 &&& p2) p2 p4 p5 = e1 := by
  have a1 := own_hvv (f := p1) hni hi1 hi2 hi3 hi4
  have a2 := own_hvv (f := p1) hnt ht1 ht2 ht3 ht4
  have a3 := own_match p1 p2 p3
  have a4 := own_tmv hnt
  unfold own_cm
  show (if own_hv ni p4 (own_b0 p1 &&& (255 : Int32)) = (0 : Int32) then (if (0 : Int32) < n then (if ((own_b0 p1 &&& own_b0 p2).toInt8.toInt32) = own_b0 (p3 &&& p2) then (1 : Int32) else 0) else (if own_tm nt = (0 : Int32) then (1 : Int32) else (if own_hv nt p5 (own_b0 p1 &&& (255 : Int32)) = (0 : Int32) then (0 : Int32) else 1))) else (1 : Int32)) = e1
  rw [a1, a2, he1, he2, he3, he4, he5]
  simp only [a3, a4]
theorem d1_0 : decode method_2_code 0 = .ok (.iload_n 0, 1) := by decide +kernel
theorem d1_1 : decode method_2_code 1 = .ok (.ifCond .ne 7, 3) := by decide +kernel
theorem d1_4 : decode method_2_code 4 = .ok (.iconst 0, 1) := by decide +kernel
theorem d1_5 : decode method_2_code 5 = .ok (.newarray .byte, 2) := by decide +kernel
theorem d1_7 : decode method_2_code 7 = .ok (.areturn, 1) := by decide +kernel
theorem d1_8 : decode method_2_code 8 = .ok (.iload_n 0, 1) := by decide +kernel
theorem d1_9 : decode method_2_code 9 = .ok (.iconst 1, 1) := by decide +kernel
theorem d1_10 : decode method_2_code 10 = .ok (.if_icmp .ne 14, 3) := by decide +kernel
theorem d1_13 : decode method_2_code 13 = .ok (.iconst 1, 1) := by decide +kernel
theorem d1_14 : decode method_2_code 14 = .ok (.newarray .byte, 2) := by decide +kernel
theorem d1_16 : decode method_2_code 16 = .ok (.astore_n 2, 1) := by decide +kernel
theorem d1_17 : decode method_2_code 17 = .ok (.aload_n 2, 1) := by decide +kernel
theorem d1_18 : decode method_2_code 18 = .ok (.iconst 0, 1) := by decide +kernel
theorem d1_19 : decode method_2_code 19 = .ok (.iload_n 1, 1) := by decide +kernel
theorem d1_20 : decode method_2_code 20 = .ok (.i2b, 1) := by decide +kernel
theorem d1_21 : decode method_2_code 21 = .ok (.bastore, 1) := by decide +kernel
theorem d1_22 : decode method_2_code 22 = .ok (.aload_n 2, 1) := by decide +kernel
theorem d1_23 : decode method_2_code 23 = .ok (.areturn, 1) := by decide +kernel
theorem d1_24 : decode method_2_code 24 = .ok (.iconst 2, 1) := by decide +kernel
theorem d1_25 : decode method_2_code 25 = .ok (.newarray .byte, 2) := by decide +kernel
theorem d1_27 : decode method_2_code 27 = .ok (.astore_n 2, 1) := by decide +kernel
theorem d1_28 : decode method_2_code 28 = .ok (.aload_n 2, 1) := by decide +kernel
theorem d1_29 : decode method_2_code 29 = .ok (.iconst 0, 1) := by decide +kernel
theorem d1_30 : decode method_2_code 30 = .ok (.iload_n 1, 1) := by decide +kernel
theorem d1_31 : decode method_2_code 31 = .ok (.i2b, 1) := by decide +kernel
theorem d1_32 : decode method_2_code 32 = .ok (.bastore, 1) := by decide +kernel
theorem d1_33 : decode method_2_code 33 = .ok (.aload_n 2, 1) := by decide +kernel
theorem d1_34 : decode method_2_code 34 = .ok (.iconst 1, 1) := by decide +kernel
theorem d1_35 : decode method_2_code 35 = .ok (.iload_n 1, 1) := by decide +kernel
theorem d1_36 : decode method_2_code 36 = .ok (.bipush 8, 2) := by decide +kernel
theorem d1_38 : decode method_2_code 38 = .ok (.ishr, 1) := by decide +kernel
theorem d1_39 : decode method_2_code 39 = .ok (.i2b, 1) := by decide +kernel
theorem d1_40 : decode method_2_code 40 = .ok (.bastore, 1) := by decide +kernel
theorem d1_41 : decode method_2_code 41 = .ok (.aload_n 2, 1) := by decide +kernel
theorem d1_42 : decode method_2_code 42 = .ok (.areturn, 1) := by decide +kernel
theorem own_pn1 : plainName "com/example/sharp_nose/sharpnose/BytePatternCouldMatchFromPinLaw" = true := by first | (simp [plainName, overriddenIn]; done) | decide +kernel
theorem own_ef1 (m : MethodId) (x0 : Int32) (x1 : Int32) : entryFrame m #[(.int x0), (.int x1)] 3 = mkF m 0 #[.val (.int x0), .val (.int x1), .unset] [] := by first | (simp [entryFrame, mkF, argsToLocals, Value.category]; done) | rfl
def QrmBytes (Z : State) (n x : Int32) (h0 : Heap) (n0 : Nat) (v : Option Value) (h : Heap) (L : List Loc) : Prop := ∃ (b : Addr) (kc : ClassId), v = some (.ref b) ∧ Fr n0 L ∧ h0.size ≤ b ∧ Keep h0 h [] ∧ Arv Z h b kc .byte n (own_l2 n x) (.int (0 : Int32)) ∧ Exa Z h b "[B"
set_option maxRecDepth 65536 in
set_option maxHeartbeats 40000000 in
theorem rmBytes (l : Launch) (Z : State) (a0 : Array Value) (hw : ∀ d ∈ tables_1, d.before a0 Z = true) (ws : List Jvm.Cond) (n x : Int32) (h0 : Heap) (n0 : Nat) (Z0 : n0 ≤ h0.size) (hn : n = (0 : Int32) ∨ n = (1 : Int32) ∨ n = (2 : Int32)) :
    MetFree l (⟨"com/example/sharp_nose/sharpnose/BytePatternCouldMatchFromPinLaw", "bytes", "(II)[B"⟩ : MethodName) (head1 (Jvm.Cond.code (⟨"com/example/sharp_nose/sharpnose/BytePatternCouldMatchFromPinLaw", "bytes", "(II)[B"⟩ : MethodName) method_2_code 3 (some (.array .byte)) :: ws) ({ frames := 0, cells := 1, slots := 2, locals := 0 } : Room)) (fun ar_ U_ => ar_ = #[(.int n), (.int x)] ∧ Z.Warmed39 U_.vm ∧ U_.heap = h0) (fun _ _ _ _ _ => True) (fun _ U_ ou_ V_ => ∃ v_ L_, ou_ = .returned v_ ∧ QrmBytes Z n x h0 n0 v_ V_.heap L_ ∧ FrameEnd U_ ou_ V_ L_ ({ frames := 0, cells := 1, slots := 2, locals := 0 } : Room).cells ({ frames := 0, cells := 1, slots := 2, locals := 0 } : Room).slots) := by
  refine MetFree.of_bodySF (plainFor_of_name own_pn1) hisR ?_
  intro p e s m args below meth c s₁ Bd hml0 hP hK
  obtain ⟨rfl, hZ, hh⟩ := hP
  have hx := Bd.exec
  have hby := Bd.bytes
  have hml : c.maxLocals = 3 := hml0
  have hown : s.vm.findClass "com/example/sharp_nose/sharpnose/BytePatternCouldMatchFromPinLaw" = some m.cls := findClass_of_methodNamed Bd.named
  have hnm := (name_of_methodNamed Bd.named Bd.method).1
  have X0 : Stand p l e ({ frames := 0, cells := 1, slots := 2, locals := 0 } : Room) s m #[(.int n), (.int x)] below meth c s₁ [] 0 0 := Stand.of_body Bd
  have e0 : s₁.heap = h0 := by rw [← hh, Bd.state]; rfl
  have N0 := Fr.nil n0
  have Kp0 : Keep h0 h0 [] := Keep.refl h0 _
  refine own_go (A := s₁.setTop (mkF m 0 #[.val (.int n), .val (.int x), .unset] [])) (fun t kz => castTop (own_ef1 m n x) kz) ?_
  rcases hn with rfl | rfl | rfl
  · skip
    refine own_go (A := s₁.setTop (mkF m 5 #[.val (.int (0 : Int32)), .val (.int x), .unset] [(.int (0 : Int32))])) (fun _ kz => ?_) ?_
    · show Steps p.tables e below (s₁.setTop (mkF m 0 #[.val (.int (0 : Int32)), .val (.int x), .unset] [])) _
      refine XS.iloadN X0.here hx rfl (hb hby d1_0) rfl ?_
      show Steps p.tables e below (s₁.setTop (mkF m 1 #[.val (.int (0 : Int32)), .val (.int x), .unset] [(.int (0 : Int32))])) _
      refine XS.ifNo X0.here hx rfl (hb hby d1_1) rfl ((if0 _ _).trans (teq (by decide : ((0 : Int32) = (0 : Int32)))).2) ?_
      show Steps p.tables e below (s₁.setTop (mkF m 4 #[.val (.int (0 : Int32)), .val (.int x), .unset] [])) _
      refine XS.iconst X0.here hx rfl (hb hby d1_4) ?_
      exact kz
    obtain ⟨T1, h1, k1, X1, e1, E1, A1, Q1, st1⟩ := newPE X0 hx hZ (hw _ (List.mem_of_getElem? (i := 4) rfl)) e0 (g := (mkF m 5 #[.val (.int (0 : Int32)), .val (.int x), .unset] [(.int (0 : Int32))])) rfl (hb hby d1_5) rfl (by decide) (cap := 0) (by decide) (by decide) (by decide) (by decide) (ad := "[B") (by decide)
    obtain ⟨b1, gq1⟩ : ∃ z, z = h0.size := ⟨_, rfl⟩
    rw [← gq1] at A1 Q1 st1
    have g_b1 : n0 ≤ b1 := Nat.le_trans Z0 (Nat.le_of_eq gq1.symm)
    have szk_b1 : h0.size ≤ b1 := Nat.le_trans Kp0.1 (Nat.le_of_eq gq1.symm)
    have Z1 : n0 ≤ h1.size := Nat.le_trans Z0 E1.1
    have Kp1 : Keep h0 h1 [] := Kp0.ext E1
    have Ex_b1 := Q1
    have Av_b1 : Arv Z h1 b1 k1 .byte (0 : Int32) [] (.int (0 : Int32)) := Arv.new A1 (by decide)
    refine own_go (A := T1.setTop (mkF m 7 #[.val (.int (0 : Int32)), .val (.int x), .unset] [(.ref b1)])) (fun _ kz => st1 _ kz) ?_
    obtain ⟨fs, hrr, hrun, hended, hW, hsame⟩ := X1.leave (v := some (.ref b1)) (fun h => by rw [Bd.returns] at h; cases h)
    refine ⟨_, _, ?_, hrun, hended, _, _, rfl, ?_, ⟨_, rfl⟩, hW, hsame.mono (by decide) (by decide)⟩
    · show Steps p.tables e below (T1.setTop (mkF m 7 #[.val (.int (0 : Int32)), .val (.int x), .unset] [(.ref b1)])) _
      exact retOut X1 hx (t := (.array .byte)) Bd.returns rfl (Or.inr (Or.inr (Or.inr (Or.inr ⟨rfl, rfl, rfl⟩)))) (hb hby d1_7) hrr
    · show QrmBytes Z (0 : Int32) x h0 n0 _ T1.heap _
      rw [e1]
      exact ⟨b1, k1, rfl, N0, szk_b1, Kp1, Av_b1, Ex_b1⟩
  · skip
    refine own_go (A := s₁.setTop (mkF m 14 #[.val (.int (1 : Int32)), .val (.int x), .unset] [(.int (1 : Int32))])) (fun _ kz => ?_) ?_
    · show Steps p.tables e below (s₁.setTop (mkF m 0 #[.val (.int (1 : Int32)), .val (.int x), .unset] [])) _
      refine XS.iloadN X0.here hx rfl (hb hby d1_0) rfl ?_
      show Steps p.tables e below (s₁.setTop (mkF m 1 #[.val (.int (1 : Int32)), .val (.int x), .unset] [(.int (1 : Int32))])) _
      refine XS.ifYes X0.here hx rfl (pc0 := 1) (pc' := 8) rfl (hb hby d1_1) rfl ((if0 _ _).trans (feq (by decide : ¬ ((1 : Int32) = (0 : Int32)))).2) (by decide) (by decide) ?_
      show Steps p.tables e below (s₁.setTop (mkF m 8 #[.val (.int (1 : Int32)), .val (.int x), .unset] [])) _
      refine XS.iloadN X0.here hx rfl (hb hby d1_8) rfl ?_
      show Steps p.tables e below (s₁.setTop (mkF m 9 #[.val (.int (1 : Int32)), .val (.int x), .unset] [(.int (1 : Int32))])) _
      refine XS.iconst X0.here hx rfl (hb hby d1_9) ?_
      show Steps p.tables e below (s₁.setTop (mkF m 10 #[.val (.int (1 : Int32)), .val (.int x), .unset] [(.int (1 : Int32)), (.int (1 : Int32))])) _
      refine XS.icmpNo X0.here hx rfl (hb hby d1_10) rfl (teq (by decide : ((1 : Int32) = (1 : Int32)))).2 ?_
      show Steps p.tables e below (s₁.setTop (mkF m 13 #[.val (.int (1 : Int32)), .val (.int x), .unset] [])) _
      refine XS.iconst X0.here hx rfl (hb hby d1_13) ?_
      exact kz
    obtain ⟨T2, h2, k2, X2, e2, E2, A2, Q2, st2⟩ := newPE X0 hx hZ (hw _ (List.mem_of_getElem? (i := 4) rfl)) e0 (g := (mkF m 14 #[.val (.int (1 : Int32)), .val (.int x), .unset] [(.int (1 : Int32))])) rfl (hb hby d1_14) rfl (by decide) (cap := 1) (by decide) (by decide) (by decide) (by decide) (ad := "[B") (by decide)
    obtain ⟨b2, gq2⟩ : ∃ z, z = h0.size := ⟨_, rfl⟩
    rw [← gq2] at A2 Q2 st2
    have g_b2 : n0 ≤ b2 := Nat.le_trans Z0 (Nat.le_of_eq gq2.symm)
    have szk_b2 : h0.size ≤ b2 := Nat.le_trans Kp0.1 (Nat.le_of_eq gq2.symm)
    have Z2 : n0 ≤ h2.size := Nat.le_trans Z0 E2.1
    have Kp2 : Keep h0 h2 [] := Kp0.ext E2
    have Ex_b2 := Q2
    have Av_b2 : Arv Z h2 b2 k2 .byte (1 : Int32) [(.int (0 : Int32))] (.int (0 : Int32)) := (Arv.new A2 (by decide)).pad (pad_rep [] (.int (0 : Int32)) 1)
    refine own_go (A := T2.setTop (mkF m 16 #[.val (.int (1 : Int32)), .val (.int x), .unset] [(.ref b2)])) (fun _ kz => st2 _ kz) ?_
    refine own_go (A := T2.setTop (mkF m 21 #[.val (.int (1 : Int32)), .val (.int x), .val (.ref b2)] [(.int (x.toInt8.toInt32)), (.int (0 : Int32)), (.ref b2)])) (fun _ kz => ?_) ?_
    · show Steps p.tables e below (T2.setTop (mkF m 16 #[.val (.int (1 : Int32)), .val (.int x), .unset] [(.ref b2)])) _
      refine XS.astoreN X2.here hx rfl (hb hby d1_16) rfl rfl (l' := #[.val (.int (1 : Int32)), .val (.int x), .val (.ref b2)]) rfl ?_
      show Steps p.tables e below (T2.setTop (mkF m 17 #[.val (.int (1 : Int32)), .val (.int x), .val (.ref b2)] [])) _
      refine XS.aloadN X2.here hx rfl (hb hby d1_17) rfl rfl ?_
      show Steps p.tables e below (T2.setTop (mkF m 18 #[.val (.int (1 : Int32)), .val (.int x), .val (.ref b2)] [(.ref b2)])) _
      refine XS.iconst X2.here hx rfl (hb hby d1_18) ?_
      show Steps p.tables e below (T2.setTop (mkF m 19 #[.val (.int (1 : Int32)), .val (.int x), .val (.ref b2)] [(.int (0 : Int32)), (.ref b2)])) _
      refine XS.iloadN X2.here hx rfl (hb hby d1_19) rfl ?_
      show Steps p.tables e below (T2.setTop (mkF m 20 #[.val (.int (1 : Int32)), .val (.int x), .val (.ref b2)] [(.int x), (.int (0 : Int32)), (.ref b2)])) _
      refine XS.i2b X2.here hx rfl (hb hby d1_20) rfl ?_
      exact kz
    obtain ⟨cl3, Ar3, q3, S3, M3, H3, G3⟩ := id Av_b2
    have hin3 : ¬ ((0 : Int32) < 0 ∨ cl3.slots.size ≤ ((0 : Int32)).toNatClampNeg) := inb_of S3 ⟨by decide, by decide⟩
    obtain ⟨T3, h3, X3, e3, W3, st3⟩ := stB X2 hx hZ e2 Ar3 (j := (0 : Int32)) hin3 (g := (mkF m 21 #[.val (.int (1 : Int32)), .val (.int x), .val (.ref b2)] [(.int (x.toInt8.toInt32)), (.int (0 : Int32)), (.ref b2)])) rfl rfl (hb hby d1_21)
    rw [own_nbn] at W3
    have Aw3 := Arv.set Ar3 q3 S3 M3 H3 G3 (fits_nar_byte _) W3 0 rfl (Nat.le_of_ble_eq_true rfl)
    replace Ex_b2 := Ex_b2.wr W3
    have Z3 : n0 ≤ h3.size := Nat.le_trans Z2 (Keep.of_wr W3).1
    have Kp3 : Keep h0 h3 [] := Kp2.wr W3 (Or.inr szk_b2)
    have Av_b2 : Arv Z h3 b2 k2 .byte (1 : Int32) [(.int (x.toInt8.toInt32))] (.int (0 : Int32)) := Aw3
    have N3 := Fr.snoc X3 N0 g_b2
    refine own_go (A := T3.setTop (mkF m 22 #[.val (.int (1 : Int32)), .val (.int x), .val (.ref b2)] [])) (fun _ kz => st3 _ kz) ?_
    refine own_go (A := T3.setTop (mkF m 23 #[.val (.int (1 : Int32)), .val (.int x), .val (.ref b2)] [(.ref b2)])) (fun _ kz => ?_) ?_
    · show Steps p.tables e below (T3.setTop (mkF m 22 #[.val (.int (1 : Int32)), .val (.int x), .val (.ref b2)] [])) _
      refine XS.aloadN X3.here hx rfl (hb hby d1_22) rfl rfl ?_
      exact kz
    obtain ⟨fs, hrr, hrun, hended, hW, hsame⟩ := X3.leave (v := some (.ref b2)) (fun h => by rw [Bd.returns] at h; cases h)
    refine ⟨_, _, ?_, hrun, hended, _, _, rfl, ?_, ⟨_, rfl⟩, hW, hsame.mono (by decide) (by decide)⟩
    · show Steps p.tables e below (T3.setTop (mkF m 23 #[.val (.int (1 : Int32)), .val (.int x), .val (.ref b2)] [(.ref b2)])) _
      exact retOut X3 hx (t := (.array .byte)) Bd.returns rfl (Or.inr (Or.inr (Or.inr (Or.inr ⟨rfl, rfl, rfl⟩)))) (hb hby d1_23) hrr
    · show QrmBytes Z (1 : Int32) x h0 n0 _ T3.heap _
      rw [e3]
      exact ⟨b2, k2, rfl, N3, szk_b2, Kp3, Av_b2, Ex_b2⟩
  · skip
    refine own_go (A := s₁.setTop (mkF m 25 #[.val (.int (2 : Int32)), .val (.int x), .unset] [(.int (2 : Int32))])) (fun _ kz => ?_) ?_
    · show Steps p.tables e below (s₁.setTop (mkF m 0 #[.val (.int (2 : Int32)), .val (.int x), .unset] [])) _
      refine XS.iloadN X0.here hx rfl (hb hby d1_0) rfl ?_
      show Steps p.tables e below (s₁.setTop (mkF m 1 #[.val (.int (2 : Int32)), .val (.int x), .unset] [(.int (2 : Int32))])) _
      refine XS.ifYes X0.here hx rfl (pc0 := 1) (pc' := 8) rfl (hb hby d1_1) rfl ((if0 _ _).trans (feq (by decide : ¬ ((2 : Int32) = (0 : Int32)))).2) (by decide) (by decide) ?_
      show Steps p.tables e below (s₁.setTop (mkF m 8 #[.val (.int (2 : Int32)), .val (.int x), .unset] [])) _
      refine XS.iloadN X0.here hx rfl (hb hby d1_8) rfl ?_
      show Steps p.tables e below (s₁.setTop (mkF m 9 #[.val (.int (2 : Int32)), .val (.int x), .unset] [(.int (2 : Int32))])) _
      refine XS.iconst X0.here hx rfl (hb hby d1_9) ?_
      show Steps p.tables e below (s₁.setTop (mkF m 10 #[.val (.int (2 : Int32)), .val (.int x), .unset] [(.int (1 : Int32)), (.int (2 : Int32))])) _
      refine XS.icmpYes X0.here hx rfl (pc0 := 10) (pc' := 24) rfl (hb hby d1_10) rfl (feq (by decide : ¬ ((2 : Int32) = (1 : Int32)))).2 (by decide) (by decide) ?_
      show Steps p.tables e below (s₁.setTop (mkF m 24 #[.val (.int (2 : Int32)), .val (.int x), .unset] [])) _
      refine XS.iconst X0.here hx rfl (hb hby d1_24) ?_
      exact kz
    obtain ⟨T4, h4, k4, X4, e4, E4, A4, Q4, st4⟩ := newPE X0 hx hZ (hw _ (List.mem_of_getElem? (i := 4) rfl)) e0 (g := (mkF m 25 #[.val (.int (2 : Int32)), .val (.int x), .unset] [(.int (2 : Int32))])) rfl (hb hby d1_25) rfl (by decide) (cap := 2) (by decide) (by decide) (by decide) (by decide) (ad := "[B") (by decide)
    obtain ⟨b4, gq4⟩ : ∃ z, z = h0.size := ⟨_, rfl⟩
    rw [← gq4] at A4 Q4 st4
    have g_b4 : n0 ≤ b4 := Nat.le_trans Z0 (Nat.le_of_eq gq4.symm)
    have szk_b4 : h0.size ≤ b4 := Nat.le_trans Kp0.1 (Nat.le_of_eq gq4.symm)
    have Z4 : n0 ≤ h4.size := Nat.le_trans Z0 E4.1
    have Kp4 : Keep h0 h4 [] := Kp0.ext E4
    have Ex_b4 := Q4
    have Av_b4 : Arv Z h4 b4 k4 .byte (2 : Int32) [(.int (0 : Int32)), (.int (0 : Int32))] (.int (0 : Int32)) := (Arv.new A4 (by decide)).pad (pad_rep [] (.int (0 : Int32)) 2)
    refine own_go (A := T4.setTop (mkF m 27 #[.val (.int (2 : Int32)), .val (.int x), .unset] [(.ref b4)])) (fun _ kz => st4 _ kz) ?_
    refine own_go (A := T4.setTop (mkF m 32 #[.val (.int (2 : Int32)), .val (.int x), .val (.ref b4)] [(.int (x.toInt8.toInt32)), (.int (0 : Int32)), (.ref b4)])) (fun _ kz => ?_) ?_
    · show Steps p.tables e below (T4.setTop (mkF m 27 #[.val (.int (2 : Int32)), .val (.int x), .unset] [(.ref b4)])) _
      refine XS.astoreN X4.here hx rfl (hb hby d1_27) rfl rfl (l' := #[.val (.int (2 : Int32)), .val (.int x), .val (.ref b4)]) rfl ?_
      show Steps p.tables e below (T4.setTop (mkF m 28 #[.val (.int (2 : Int32)), .val (.int x), .val (.ref b4)] [])) _
      refine XS.aloadN X4.here hx rfl (hb hby d1_28) rfl rfl ?_
      show Steps p.tables e below (T4.setTop (mkF m 29 #[.val (.int (2 : Int32)), .val (.int x), .val (.ref b4)] [(.ref b4)])) _
      refine XS.iconst X4.here hx rfl (hb hby d1_29) ?_
      show Steps p.tables e below (T4.setTop (mkF m 30 #[.val (.int (2 : Int32)), .val (.int x), .val (.ref b4)] [(.int (0 : Int32)), (.ref b4)])) _
      refine XS.iloadN X4.here hx rfl (hb hby d1_30) rfl ?_
      show Steps p.tables e below (T4.setTop (mkF m 31 #[.val (.int (2 : Int32)), .val (.int x), .val (.ref b4)] [(.int x), (.int (0 : Int32)), (.ref b4)])) _
      refine XS.i2b X4.here hx rfl (hb hby d1_31) rfl ?_
      exact kz
    obtain ⟨cl5, Ar5, q5, S5, M5, H5, G5⟩ := id Av_b4
    have hin5 : ¬ ((0 : Int32) < 0 ∨ cl5.slots.size ≤ ((0 : Int32)).toNatClampNeg) := inb_of S5 ⟨by decide, by decide⟩
    obtain ⟨T5, h5, X5, e5, W5, st5⟩ := stB X4 hx hZ e4 Ar5 (j := (0 : Int32)) hin5 (g := (mkF m 32 #[.val (.int (2 : Int32)), .val (.int x), .val (.ref b4)] [(.int (x.toInt8.toInt32)), (.int (0 : Int32)), (.ref b4)])) rfl rfl (hb hby d1_32)
    rw [own_nbn] at W5
    have Aw5 := Arv.set Ar5 q5 S5 M5 H5 G5 (fits_nar_byte _) W5 0 rfl (Nat.le_of_ble_eq_true rfl)
    replace Ex_b4 := Ex_b4.wr W5
    have Z5 : n0 ≤ h5.size := Nat.le_trans Z4 (Keep.of_wr W5).1
    have Kp5 : Keep h0 h5 [] := Kp4.wr W5 (Or.inr szk_b4)
    have Av_b4 : Arv Z h5 b4 k4 .byte (2 : Int32) [(.int (x.toInt8.toInt32)), (.int (0 : Int32))] (.int (0 : Int32)) := Aw5
    have N5 := Fr.snoc X5 N0 g_b4
    refine own_go (A := T5.setTop (mkF m 33 #[.val (.int (2 : Int32)), .val (.int x), .val (.ref b4)] [])) (fun _ kz => st5 _ kz) ?_
    refine own_go (A := T5.setTop (mkF m 40 #[.val (.int (2 : Int32)), .val (.int x), .val (.ref b4)] [(.int ((x >>> ((8 : Int32) &&& 31)).toInt8.toInt32)), (.int (1 : Int32)), (.ref b4)])) (fun _ kz => ?_) ?_
    · show Steps p.tables e below (T5.setTop (mkF m 33 #[.val (.int (2 : Int32)), .val (.int x), .val (.ref b4)] [])) _
      refine XS.aloadN X5.here hx rfl (hb hby d1_33) rfl rfl ?_
      show Steps p.tables e below (T5.setTop (mkF m 34 #[.val (.int (2 : Int32)), .val (.int x), .val (.ref b4)] [(.ref b4)])) _
      refine XS.iconst X5.here hx rfl (hb hby d1_34) ?_
      show Steps p.tables e below (T5.setTop (mkF m 35 #[.val (.int (2 : Int32)), .val (.int x), .val (.ref b4)] [(.int (1 : Int32)), (.ref b4)])) _
      refine XS.iloadN X5.here hx rfl (hb hby d1_35) rfl ?_
      show Steps p.tables e below (T5.setTop (mkF m 36 #[.val (.int (2 : Int32)), .val (.int x), .val (.ref b4)] [(.int x), (.int (1 : Int32)), (.ref b4)])) _
      refine XS.bipush X5.here hx rfl (hb hby d1_36) ?_
      show Steps p.tables e below (T5.setTop (mkF m 38 #[.val (.int (2 : Int32)), .val (.int x), .val (.ref b4)] [(.int (8 : Int32)), (.int x), (.int (1 : Int32)), (.ref b4)])) _
      refine XS.ishr X5.here hx rfl (hb hby d1_38) rfl ?_
      show Steps p.tables e below (T5.setTop (mkF m 39 #[.val (.int (2 : Int32)), .val (.int x), .val (.ref b4)] [(.int (x >>> ((8 : Int32) &&& 31))), (.int (1 : Int32)), (.ref b4)])) _
      refine XS.i2b X5.here hx rfl (hb hby d1_39) rfl ?_
      exact kz
    obtain ⟨cl6, Ar6, q6, S6, M6, H6, G6⟩ := id Av_b4
    have hin6 : ¬ ((1 : Int32) < 0 ∨ cl6.slots.size ≤ ((1 : Int32)).toNatClampNeg) := inb_of S6 ⟨by decide, by decide⟩
    obtain ⟨T6, h6, X6, e6, W6, st6⟩ := stB X5 hx hZ e5 Ar6 (j := (1 : Int32)) hin6 (g := (mkF m 40 #[.val (.int (2 : Int32)), .val (.int x), .val (.ref b4)] [(.int ((x >>> ((8 : Int32) &&& 31)).toInt8.toInt32)), (.int (1 : Int32)), (.ref b4)])) rfl rfl (hb hby d1_40)
    rw [own_nbn] at W6
    have Aw6 := Arv.set Ar6 q6 S6 M6 H6 G6 (fits_nar_byte _) W6 1 rfl (Nat.le_of_ble_eq_true rfl)
    replace Ex_b4 := Ex_b4.wr W6
    have Z6 : n0 ≤ h6.size := Nat.le_trans Z5 (Keep.of_wr W6).1
    have Kp6 : Keep h0 h6 [] := Kp5.wr W6 (Or.inr szk_b4)
    have Av_b4 : Arv Z h6 b4 k4 .byte (2 : Int32) [(.int (x.toInt8.toInt32)), (.int ((x >>> ((8 : Int32) &&& 31)).toInt8.toInt32))] (.int (0 : Int32)) := Aw6
    have N6 := Fr.snoc X6 N5 g_b4
    refine own_go (A := T6.setTop (mkF m 41 #[.val (.int (2 : Int32)), .val (.int x), .val (.ref b4)] [])) (fun _ kz => st6 _ kz) ?_
    refine own_go (A := T6.setTop (mkF m 42 #[.val (.int (2 : Int32)), .val (.int x), .val (.ref b4)] [(.ref b4)])) (fun _ kz => ?_) ?_
    · show Steps p.tables e below (T6.setTop (mkF m 41 #[.val (.int (2 : Int32)), .val (.int x), .val (.ref b4)] [])) _
      refine XS.aloadN X6.here hx rfl (hb hby d1_41) rfl rfl ?_
      exact kz
    obtain ⟨fs, hrr, hrun, hended, hW, hsame⟩ := X6.leave (v := some (.ref b4)) (fun h => by rw [Bd.returns] at h; cases h)
    refine ⟨_, _, ?_, hrun, hended, _, _, rfl, ?_, ⟨_, rfl⟩, hW, hsame.mono (by decide) (by decide)⟩
    · show Steps p.tables e below (T6.setTop (mkF m 42 #[.val (.int (2 : Int32)), .val (.int x), .val (.ref b4)] [(.ref b4)])) _
      exact retOut X6 hx (t := (.array .byte)) Bd.returns rfl (Or.inr (Or.inr (Or.inr (Or.inr ⟨rfl, rfl, rfl⟩)))) (hb hby d1_42) hrr
    · show QrmBytes Z (2 : Int32) x h0 n0 _ T6.heap _
      rw [e6]
      exact ⟨b4, k4, rfl, N6, szk_b4, Kp6, Av_b4, Ex_b4⟩
theorem d2_0 : decode prog_2_method_2_code 0 = .ok (.aload_n 0, 1) := by decide +kernel
theorem d2_1 : decode prog_2_method_2_code 1 = .ok (.invokespecial 7, 3) := by decide +kernel
theorem d2_4 : decode prog_2_method_2_code 4 = .ok (.aload_n 0, 1) := by decide +kernel
theorem d2_5 : decode prog_2_method_2_code 5 = .ok (.sipush 256, 3) := by decide +kernel
theorem d2_8 : decode prog_2_method_2_code 8 = .ok (.newarray .boolean, 2) := by decide +kernel
theorem d2_10 : decode prog_2_method_2_code 10 = .ok (.putfield 12, 3) := by decide +kernel
theorem d2_13 : decode prog_2_method_2_code 13 = .ok (.aload_n 0, 1) := by decide +kernel
theorem d2_14 : decode prog_2_method_2_code 14 = .ok (.sipush 256, 3) := by decide +kernel
theorem d2_17 : decode prog_2_method_2_code 17 = .ok (.newarray .boolean, 2) := by decide +kernel
theorem d2_19 : decode prog_2_method_2_code 19 = .ok (.putfield 16, 3) := by decide +kernel
theorem d2_22 : decode prog_2_method_2_code 22 = .ok (.aload_n 1, 1) := by decide +kernel
theorem d2_23 : decode prog_2_method_2_code 23 = .ok (.arraylength, 1) := by decide +kernel
theorem d2_24 : decode prog_2_method_2_code 24 = .ok (.aload_n 2, 1) := by decide +kernel
theorem d2_25 : decode prog_2_method_2_code 25 = .ok (.arraylength, 1) := by decide +kernel
theorem d2_26 : decode prog_2_method_2_code 26 = .ok (.if_icmp .eq 20, 3) := by decide +kernel
theorem d2_46 : decode prog_2_method_2_code 46 = .ok (.iconst 0, 1) := by decide +kernel
theorem d2_47 : decode prog_2_method_2_code 47 = .ok (.istore 5, 2) := by decide +kernel
theorem d2_49 : decode prog_2_method_2_code 49 = .ok (.iload 5, 2) := by decide +kernel
theorem d2_51 : decode prog_2_method_2_code 51 = .ok (.aload_n 1, 1) := by decide +kernel
theorem d2_52 : decode prog_2_method_2_code 52 = .ok (.arraylength, 1) := by decide +kernel
theorem d2_53 : decode prog_2_method_2_code 53 = .ok (.if_icmp .ge 68, 3) := by decide +kernel
theorem d2_56 : decode prog_2_method_2_code 56 = .ok (.aload_n 1, 1) := by decide +kernel
theorem d2_57 : decode prog_2_method_2_code 57 = .ok (.iload 5, 2) := by decide +kernel
theorem d2_59 : decode prog_2_method_2_code 59 = .ok (.baload, 1) := by decide +kernel
theorem d2_60 : decode prog_2_method_2_code 60 = .ok (.aload_n 2, 1) := by decide +kernel
theorem d2_61 : decode prog_2_method_2_code 61 = .ok (.iload 5, 2) := by decide +kernel
theorem d2_63 : decode prog_2_method_2_code 63 = .ok (.baload, 1) := by decide +kernel
theorem d2_64 : decode prog_2_method_2_code 64 = .ok (.iconst (-1), 1) := by decide +kernel
theorem d2_65 : decode prog_2_method_2_code 65 = .ok (.ixor, 1) := by decide +kernel
theorem d2_66 : decode prog_2_method_2_code 66 = .ok (.iand, 1) := by decide +kernel
theorem d2_67 : decode prog_2_method_2_code 67 = .ok (.ifCond .eq 48, 3) := by decide +kernel
theorem d2_115 : decode prog_2_method_2_code 115 = .ok (.iinc 5 1, 3) := by decide +kernel
theorem d2_118 : decode prog_2_method_2_code 118 = .ok (.goto (-69), 3) := by decide +kernel
theorem d2_121 : decode prog_2_method_2_code 121 = .ok (.aload_n 0, 1) := by decide +kernel
theorem d2_122 : decode prog_2_method_2_code 122 = .ok (.aload_n 1, 1) := by decide +kernel
theorem d2_123 : decode prog_2_method_2_code 123 = .ok (.invokevirtual 47, 3) := by decide +kernel
theorem d2_126 : decode prog_2_method_2_code 126 = .ok (.checkcast 48, 3) := by decide +kernel
theorem d2_129 : decode prog_2_method_2_code 129 = .ok (.putfield 53, 3) := by decide +kernel
theorem d2_132 : decode prog_2_method_2_code 132 = .ok (.aload_n 0, 1) := by decide +kernel
theorem d2_133 : decode prog_2_method_2_code 133 = .ok (.aload_n 2, 1) := by decide +kernel
theorem d2_134 : decode prog_2_method_2_code 134 = .ok (.invokevirtual 47, 3) := by decide +kernel
theorem d2_137 : decode prog_2_method_2_code 137 = .ok (.checkcast 48, 3) := by decide +kernel
theorem d2_140 : decode prog_2_method_2_code 140 = .ok (.putfield 56, 3) := by decide +kernel
theorem d2_143 : decode prog_2_method_2_code 143 = .ok (.aload_n 3, 1) := by decide +kernel
theorem d2_144 : decode prog_2_method_2_code 144 = .ok (.astore 5, 2) := by decide +kernel
theorem d2_146 : decode prog_2_method_2_code 146 = .ok (.aload 5, 2) := by decide +kernel
theorem d2_148 : decode prog_2_method_2_code 148 = .ok (.arraylength, 1) := by decide +kernel
theorem d2_149 : decode prog_2_method_2_code 149 = .ok (.istore 6, 2) := by decide +kernel
theorem d2_151 : decode prog_2_method_2_code 151 = .ok (.iconst 0, 1) := by decide +kernel
theorem d2_152 : decode prog_2_method_2_code 152 = .ok (.istore 7, 2) := by decide +kernel
theorem d2_154 : decode prog_2_method_2_code 154 = .ok (.iload 7, 2) := by decide +kernel
theorem d2_156 : decode prog_2_method_2_code 156 = .ok (.iload 6, 2) := by decide +kernel
theorem d2_158 : decode prog_2_method_2_code 158 = .ok (.if_icmp .ge 28, 3) := by decide +kernel
theorem d2_161 : decode prog_2_method_2_code 161 = .ok (.aload 5, 2) := by decide +kernel
theorem d2_163 : decode prog_2_method_2_code 163 = .ok (.iload 7, 2) := by decide +kernel
theorem d2_165 : decode prog_2_method_2_code 165 = .ok (.baload, 1) := by decide +kernel
theorem d2_166 : decode prog_2_method_2_code 166 = .ok (.istore 8, 2) := by decide +kernel
theorem d2_168 : decode prog_2_method_2_code 168 = .ok (.aload_n 0, 1) := by decide +kernel
theorem d2_169 : decode prog_2_method_2_code 169 = .ok (.getfield 12, 3) := by decide +kernel
theorem d2_172 : decode prog_2_method_2_code 172 = .ok (.iload 8, 2) := by decide +kernel
theorem d2_174 : decode prog_2_method_2_code 174 = .ok (.sipush 255, 3) := by decide +kernel
theorem d2_177 : decode prog_2_method_2_code 177 = .ok (.iand, 1) := by decide +kernel
theorem d2_178 : decode prog_2_method_2_code 178 = .ok (.iconst 1, 1) := by decide +kernel
theorem d2_179 : decode prog_2_method_2_code 179 = .ok (.bastore, 1) := by decide +kernel
theorem d2_180 : decode prog_2_method_2_code 180 = .ok (.iinc 7 1, 3) := by decide +kernel
theorem d2_183 : decode prog_2_method_2_code 183 = .ok (.goto (-29), 3) := by decide +kernel
theorem d2_186 : decode prog_2_method_2_code 186 = .ok (.aload_n 0, 1) := by decide +kernel
theorem d2_187 : decode prog_2_method_2_code 187 = .ok (.aload_n 3, 1) := by decide +kernel
theorem d2_188 : decode prog_2_method_2_code 188 = .ok (.arraylength, 1) := by decide +kernel
theorem d2_189 : decode prog_2_method_2_code 189 = .ok (.ifCond .le 7, 3) := by decide +kernel
theorem d2_192 : decode prog_2_method_2_code 192 = .ok (.iconst 1, 1) := by decide +kernel
theorem d2_193 : decode prog_2_method_2_code 193 = .ok (.goto 4, 3) := by decide +kernel
theorem d2_196 : decode prog_2_method_2_code 196 = .ok (.iconst 0, 1) := by decide +kernel
theorem d2_197 : decode prog_2_method_2_code 197 = .ok (.putfield 59, 3) := by decide +kernel
theorem d2_200 : decode prog_2_method_2_code 200 = .ok (.aload 4, 2) := by decide +kernel
theorem d2_202 : decode prog_2_method_2_code 202 = .ok (.astore 5, 2) := by decide +kernel
theorem d2_204 : decode prog_2_method_2_code 204 = .ok (.aload 5, 2) := by decide +kernel
theorem d2_206 : decode prog_2_method_2_code 206 = .ok (.arraylength, 1) := by decide +kernel
theorem d2_207 : decode prog_2_method_2_code 207 = .ok (.istore 6, 2) := by decide +kernel
theorem d2_209 : decode prog_2_method_2_code 209 = .ok (.iconst 0, 1) := by decide +kernel
theorem d2_210 : decode prog_2_method_2_code 210 = .ok (.istore 7, 2) := by decide +kernel
theorem d2_212 : decode prog_2_method_2_code 212 = .ok (.iload 7, 2) := by decide +kernel
theorem d2_214 : decode prog_2_method_2_code 214 = .ok (.iload 6, 2) := by decide +kernel
theorem d2_216 : decode prog_2_method_2_code 216 = .ok (.if_icmp .ge 28, 3) := by decide +kernel
theorem d2_219 : decode prog_2_method_2_code 219 = .ok (.aload 5, 2) := by decide +kernel
theorem d2_221 : decode prog_2_method_2_code 221 = .ok (.iload 7, 2) := by decide +kernel
theorem d2_223 : decode prog_2_method_2_code 223 = .ok (.baload, 1) := by decide +kernel
theorem d2_224 : decode prog_2_method_2_code 224 = .ok (.istore 8, 2) := by decide +kernel
theorem d2_226 : decode prog_2_method_2_code 226 = .ok (.aload_n 0, 1) := by decide +kernel
theorem d2_227 : decode prog_2_method_2_code 227 = .ok (.getfield 16, 3) := by decide +kernel
theorem d2_230 : decode prog_2_method_2_code 230 = .ok (.iload 8, 2) := by decide +kernel
theorem d2_232 : decode prog_2_method_2_code 232 = .ok (.sipush 255, 3) := by decide +kernel
theorem d2_235 : decode prog_2_method_2_code 235 = .ok (.iand, 1) := by decide +kernel
theorem d2_236 : decode prog_2_method_2_code 236 = .ok (.iconst 1, 1) := by decide +kernel
theorem d2_237 : decode prog_2_method_2_code 237 = .ok (.bastore, 1) := by decide +kernel
theorem d2_238 : decode prog_2_method_2_code 238 = .ok (.iinc 7 1, 3) := by decide +kernel
theorem d2_241 : decode prog_2_method_2_code 241 = .ok (.goto (-29), 3) := by decide +kernel
theorem d2_244 : decode prog_2_method_2_code 244 = .ok (.aload_n 0, 1) := by decide +kernel
theorem d2_245 : decode prog_2_method_2_code 245 = .ok (.aload 4, 2) := by decide +kernel
theorem d2_247 : decode prog_2_method_2_code 247 = .ok (.arraylength, 1) := by decide +kernel
theorem d2_248 : decode prog_2_method_2_code 248 = .ok (.ifCond .le 7, 3) := by decide +kernel
theorem d2_251 : decode prog_2_method_2_code 251 = .ok (.iconst 1, 1) := by decide +kernel
theorem d2_252 : decode prog_2_method_2_code 252 = .ok (.goto 4, 3) := by decide +kernel
theorem d2_255 : decode prog_2_method_2_code 255 = .ok (.iconst 0, 1) := by decide +kernel
theorem d2_256 : decode prog_2_method_2_code 256 = .ok (.putfield 63, 3) := by decide +kernel
theorem d2_259 : decode prog_2_method_2_code 259 = .ok (.return_, 1) := by decide +kernel
theorem own_pn2 : plainName "com/example/sharp_nose/sharpnose/BytePattern" = true := by first | (simp [plainName, overriddenIn]; done) | decide +kernel
theorem own_ef2 (m : MethodId) (x0 : Addr) (x1 : Addr) (x2 : Addr) (x3 : Addr) (x4 : Addr) : entryFrame m #[(.ref x0), (.ref x1), (.ref x2), (.ref x3), (.ref x4)] 9 = mkF m 0 #[.val (.ref x0), .val (.ref x1), .val (.ref x2), .val (.ref x3), .val (.ref x4), .unset, .unset, .unset, .unset] [] := by first | (simp [entryFrame, mkF, argsToLocals, Value.category]; done) | rfl
def QrmInit (Z : State) (a : Addr) (n : Int32) (ni : Int32) (nt : Int32) (xp : Int32) (xm : Int32) (xi : Int32) (xt : Int32) (h0 : Heap) (n0 : Nat) (v : Option Value) (h : Heap) (L : List Loc) : Prop := ∃ (bi bt bp bm : Addr) (kbi kbt kbp kbm : ClassId), v = none ∧ Fr n0 L ∧ Keep h0 h [a] ∧ Exa Z h a "com/example/sharp_nose/sharpnose/BytePattern" ∧ Fld Z h a "com/example/sharp_nose/sharpnose/BytePattern" "ignored" "[Z" (.ref bi) ∧ Arh Z h bi kbi .boolean (256 : Int32) (own_hs ni xi) [] (.int (0 : Int32)) ∧ Fld Z h a "com/example/sharp_nose/sharpnose/BytePattern" "terminators" "[Z" (.ref bt) ∧ Arh Z h bt kbt .boolean (256 : Int32) (own_hs nt xt) [] (.int (0 : Int32)) ∧ Fld Z h a "com/example/sharp_nose/sharpnose/BytePattern" "pattern" "[B" (.ref bp) ∧ Arv Z h bp kbp .byte n (own_l2 n xp) (.int (0 : Int32)) ∧ Fld Z h a "com/example/sharp_nose/sharpnose/BytePattern" "mask" "[B" (.ref bm) ∧ Arv Z h bm kbm .byte n (own_l2 n xm) (.int (0 : Int32)) ∧ Fld Z h a "com/example/sharp_nose/sharpnose/BytePattern" "terminated" "Z" (.int (own_tm nt))
set_option maxRecDepth 65536 in
set_option maxHeartbeats 40000000 in
theorem rmInit (l : Launch) (Z : State) (a0 : Array Value) (hw : ∀ d ∈ tables_1, d.before a0 Z = true) (ws : List Jvm.Cond) (a ap am ai az : Addr) (kp km ki kz : ClassId) (n ni nt xp xm xi xt : Int32) (h0 : Heap) (n0 : Nat) (Z0 : n0 ≤ h0.size) (hn : n = (0 : Int32) ∨ n = (1 : Int32) ∨ n = (2 : Int32)) (hni : ni = (0 : Int32) ∨ ni = (1 : Int32) ∨ ni = (2 : Int32)) (hnt : nt = (0 : Int32) ∨ nt = (1 : Int32) ∨ nt = (2 : Int32)) (Ex_a : Exa Z h0 a "com/example/sharp_nose/sharpnose/BytePattern") (g_a : n0 ≤ a) (F_ignored_a : Fld Z h0 a "com/example/sharp_nose/sharpnose/BytePattern" "ignored" "[Z" .null) (F_terminators_a : Fld Z h0 a "com/example/sharp_nose/sharpnose/BytePattern" "terminators" "[Z" .null) (F_pattern_a : Fld Z h0 a "com/example/sharp_nose/sharpnose/BytePattern" "pattern" "[B" .null) (F_mask_a : Fld Z h0 a "com/example/sharp_nose/sharpnose/BytePattern" "mask" "[B" .null) (F_ignoring_a : Fld Z h0 a "com/example/sharp_nose/sharpnose/BytePattern" "ignoring" "Z" (.int (0 : Int32))) (F_terminated_a : Fld Z h0 a "com/example/sharp_nose/sharpnose/BytePattern" "terminated" "Z" (.int (0 : Int32))) (Av_ap : Arv Z h0 ap kp .byte n (own_l2 n xp) (.int (0 : Int32))) (ne_ap_a : ap ≠ a) (Ex_ap : Exa Z h0 ap "[B") (Av_am : Arv Z h0 am km .byte n (own_l2 n xm) (.int (0 : Int32))) (ne_am_a : am ≠ a) (Ex_am : Exa Z h0 am "[B") (Av_ai : Arv Z h0 ai ki .byte ni (own_l2 ni xi) (.int (0 : Int32))) (ne_ai_a : ai ≠ a) (Av_az : Arv Z h0 az kz .byte nt (own_l2 nt xt) (.int (0 : Int32))) (ne_az_a : az ≠ a) (hsub0 : own_b0 xp &&& (own_b0 xm ^^^ (-1 : Int32)) = (0 : Int32)) (hsub1 : own_b1 xp &&& (own_b1 xm ^^^ (-1 : Int32)) = (0 : Int32)) :
    MetFree l (⟨"com/example/sharp_nose/sharpnose/BytePattern", "<init>", "([B[B[B[B)V"⟩ : MethodName) (head1 (Jvm.Cond.code (⟨"com/example/sharp_nose/sharpnose/BytePattern", "<init>", "([B[B[B[B)V"⟩ : MethodName) prog_2_method_2_code 9 none :: ws) ({ frames := 1, cells := 4, slots := 516, locals := 15 } : Room)) (fun ar_ U_ => ar_ = #[(.ref a), (.ref ap), (.ref am), (.ref ai), (.ref az)] ∧ Z.Warmed39 U_.vm ∧ U_.heap = h0) (fun _ _ _ _ _ => True) (fun _ U_ ou_ V_ => ∃ v_ L_, ou_ = .returned v_ ∧ QrmInit Z a n ni nt xp xm xi xt h0 n0 v_ V_.heap L_ ∧ FrameEnd U_ ou_ V_ L_ ({ frames := 1, cells := 4, slots := 516, locals := 15 } : Room).cells ({ frames := 1, cells := 4, slots := 516, locals := 15 } : Room).slots) := by
  refine MetFree.of_bodySF (plainFor_of_name own_pn2) hisR ?_
  intro p e s m args below meth c s₁ Bd hml0 hP hK
  obtain ⟨rfl, hZ, hh⟩ := hP
  have hx := Bd.exec
  have hby := Bd.bytes
  have hml : c.maxLocals = 9 := hml0
  have hown : s.vm.findClass "com/example/sharp_nose/sharpnose/BytePattern" = some m.cls := findClass_of_methodNamed Bd.named
  have hnm := (name_of_methodNamed Bd.named Bd.method).1
  have X0 : Stand p l e ({ frames := 1, cells := 4, slots := 516, locals := 15 } : Room) s m #[(.ref a), (.ref ap), (.ref am), (.ref ai), (.ref az)] below meth c s₁ [] 0 0 := Stand.of_body Bd
  have e0 : s₁.heap = h0 := by rw [← hh, Bd.state]; rfl
  have N0 := Fr.nil n0
  have Kp0 : Keep h0 h0 [a] := Keep.refl h0 _
  refine own_go (A := s₁.setTop (mkF m 0 #[.val (.ref a), .val (.ref ap), .val (.ref am), .val (.ref ai), .val (.ref az), .unset, .unset, .unset, .unset] [])) (fun t kz => castTop (own_ef2 m a ap am ai az) kz) ?_
  refine own_go (A := s₁.setTop (mkF m 1 #[.val (.ref a), .val (.ref ap), .val (.ref am), .val (.ref ai), .val (.ref az), .unset, .unset, .unset, .unset] [(.ref a)])) (fun _ kz => ?_) ?_
  · show Steps p.tables e below (s₁.setTop (mkF m 0 #[.val (.ref a), .val (.ref ap), .val (.ref am), .val (.ref ai), .val (.ref az), .unset, .unset, .unset, .unset] [])) _
    refine XS.aloadN X0.here hx rfl (hb hby d2_0) rfl rfl ?_
    exact kz
  obtain ⟨T1, X1, e1, st1⟩ := initO X0 hx hZ hown (hw _ (List.mem_of_getElem? (i := 11) rfl)) (hw _ (List.mem_of_getElem? (i := 12) rfl)) (hw _ (List.mem_of_getElem? (i := 13) rfl)) e0 (g := (mkF m 1 #[.val (.ref a), .val (.ref ap), .val (.ref am), .val (.ref ai), .val (.ref az), .unset, .unset, .unset, .unset] [(.ref a)])) rfl (by rw [hml]; rfl) rfl (hb hby d2_1) (by decide) (W := 0) (by show 2 * 0 + _ ≤ _; exact Nat.le_of_eq rfl) (by decide)
  refine own_go (A := T1.setTop (mkF m 4 #[.val (.ref a), .val (.ref ap), .val (.ref am), .val (.ref ai), .val (.ref az), .unset, .unset, .unset, .unset] [])) (fun _ kz => st1 _ kz) ?_
  refine own_go (A := T1.setTop (mkF m 8 #[.val (.ref a), .val (.ref ap), .val (.ref am), .val (.ref ai), .val (.ref az), .unset, .unset, .unset, .unset] [(.int (256 : Int32)), (.ref a)])) (fun _ kz => ?_) ?_
  · show Steps p.tables e below (T1.setTop (mkF m 4 #[.val (.ref a), .val (.ref ap), .val (.ref am), .val (.ref ai), .val (.ref az), .unset, .unset, .unset, .unset] [])) _
    refine XS.aloadN X1.here hx rfl (hb hby d2_4) rfl rfl ?_
    show Steps p.tables e below (T1.setTop (mkF m 5 #[.val (.ref a), .val (.ref ap), .val (.ref am), .val (.ref ai), .val (.ref az), .unset, .unset, .unset, .unset] [(.ref a)])) _
    refine XS.sipush X1.here hx rfl (hb hby d2_5) ?_
    exact kz
  obtain ⟨T2, h2, k2, X2, e2, E2, A2, st2⟩ := newP X1 hx hZ (hw _ (List.mem_of_getElem? (i := 14) rfl)) e1 (g := (mkF m 8 #[.val (.ref a), .val (.ref ap), .val (.ref am), .val (.ref ai), .val (.ref az), .unset, .unset, .unset, .unset] [(.int (256 : Int32)), (.ref a)])) rfl (hb hby d2_8) rfl (by decide) (cap := 256) (by decide) (by decide) (by decide) (by decide)
  obtain ⟨b2, gq2⟩ : ∃ z, z = h0.size := ⟨_, rfl⟩
  rw [← gq2] at A2 st2
  have g_b2 : n0 ≤ b2 := Nat.le_trans Z0 (Nat.le_of_eq gq2.symm)
  have ne_a_b2 : a ≠ b2 := Nat.ne_of_lt (Nat.lt_of_lt_of_le Ex_a.lt (Nat.le_of_eq gq2.symm))
  have ne_ap_b2 : ap ≠ b2 := Nat.ne_of_lt (Nat.lt_of_lt_of_le Av_ap.lt (Nat.le_of_eq gq2.symm))
  have ne_am_b2 : am ≠ b2 := Nat.ne_of_lt (Nat.lt_of_lt_of_le Av_am.lt (Nat.le_of_eq gq2.symm))
  have ne_ai_b2 : ai ≠ b2 := Nat.ne_of_lt (Nat.lt_of_lt_of_le Av_ai.lt (Nat.le_of_eq gq2.symm))
  have ne_az_b2 : az ≠ b2 := Nat.ne_of_lt (Nat.lt_of_lt_of_le Av_az.lt (Nat.le_of_eq gq2.symm))
  have szk_b2 : h0.size ≤ b2 := Nat.le_trans Kp0.1 (Nat.le_of_eq gq2.symm)
  replace Ex_a := Ex_a.ext E2
  replace F_ignored_a := F_ignored_a.ext E2
  replace F_terminators_a := F_terminators_a.ext E2
  replace F_pattern_a := F_pattern_a.ext E2
  replace F_mask_a := F_mask_a.ext E2
  replace F_ignoring_a := F_ignoring_a.ext E2
  replace F_terminated_a := F_terminated_a.ext E2
  replace Av_ap := Av_ap.ext E2
  replace Ex_ap := Ex_ap.ext E2
  replace Av_am := Av_am.ext E2
  replace Ex_am := Ex_am.ext E2
  replace Av_ai := Av_ai.ext E2
  replace Av_az := Av_az.ext E2
  have Z2 : n0 ≤ h2.size := Nat.le_trans Z0 E2.1
  have Kp2 : Keep h0 h2 [a] := Kp0.ext E2
  have Av_b2 : Arv Z h2 b2 k2 .boolean (256 : Int32) [] (.int (0 : Int32)) := Arv.new A2 (by decide)
  refine own_go (A := T2.setTop (mkF m 10 #[.val (.ref a), .val (.ref ap), .val (.ref am), .val (.ref ai), .val (.ref az), .unset, .unset, .unset, .unset] [(.ref b2), (.ref a)])) (fun _ kz => st2 _ kz) ?_
  have Ah_b2 : Arh Z h2 b2 k2 .boolean (256 : Int32) [] [] (.int (0 : Int32)) := Av_b2.arh
  obtain ⟨T3, h3, X3, e3, W3, st3⟩ := putF X2 hx hZ hown (host := "") (Or.inl (hw _ (List.mem_of_getElem? (i := 15) rfl))) Via.refl e2 F_ignored_a Ex_a (Or.inr ⟨(hw _ (List.mem_of_getElem? (i := 16) rfl)), rfl, hnm⟩) (hw _ (List.mem_of_getElem? (i := 6) rfl)) (ty := (.array .boolean)) (by decide) rfl rfl (g := (mkF m 10 #[.val (.ref a), .val (.ref ap), .val (.ref am), .val (.ref ai), .val (.ref az), .unset, .unset, .unset, .unset] [(.ref b2), (.ref a)])) rfl rfl (hb hby d2_10)
  have Fw3 := F_ignored_a.same W3
  replace Ex_a := Ex_a.wr W3
  replace F_terminators_a := F_terminators_a.other W3 (Or.inr (slot_ne (Or.inr (hw _ (List.mem_of_getElem? (i := 18) rfl))) (Or.inr (hw _ (List.mem_of_getElem? (i := 16) rfl))) (by decide) (t := (.array .boolean)) (t' := (.array .boolean)) (by decide) (by decide)))
  replace F_pattern_a := F_pattern_a.other W3 (Or.inr (slot_ne (Or.inr (hw _ (List.mem_of_getElem? (i := 29) rfl))) (Or.inr (hw _ (List.mem_of_getElem? (i := 16) rfl))) (by decide) (t := (.array .byte)) (t' := (.array .boolean)) (by decide) (by decide)))
  replace F_mask_a := F_mask_a.other W3 (Or.inr (slot_ne (Or.inr (hw _ (List.mem_of_getElem? (i := 31) rfl))) (Or.inr (hw _ (List.mem_of_getElem? (i := 16) rfl))) (by decide) (t := (.array .byte)) (t' := (.array .boolean)) (by decide) (by decide)))
  replace F_ignoring_a := F_ignoring_a.other W3 (Or.inr (slot_ne (Or.inr (hw _ (List.mem_of_getElem? (i := 33) rfl))) (Or.inr (hw _ (List.mem_of_getElem? (i := 16) rfl))) (by decide) (t := .boolean) (t' := (.array .boolean)) (by decide) (by decide)))
  replace F_terminated_a := F_terminated_a.other W3 (Or.inr (slot_ne (Or.inr (hw _ (List.mem_of_getElem? (i := 35) rfl))) (Or.inr (hw _ (List.mem_of_getElem? (i := 16) rfl))) (by decide) (t := .boolean) (t' := (.array .boolean)) (by decide) (by decide)))
  replace Av_ap := Av_ap.other W3 ne_ap_a
  replace Ex_ap := Ex_ap.wr W3
  replace Av_am := Av_am.other W3 ne_am_a
  replace Ex_am := Ex_am.wr W3
  replace Av_ai := Av_ai.other W3 ne_ai_a
  replace Av_az := Av_az.other W3 ne_az_a
  replace Ah_b2 := Ah_b2.other W3 (Ne.symm ne_a_b2)
  have Z3 : n0 ≤ h3.size := Nat.le_trans Z2 (Keep.of_wr W3).1
  have Kp3 : Keep h0 h3 [a] := Kp2.wr W3 (Or.inl (List.mem_of_getElem? (i := 0) rfl))
  have F_ignored_a := Fw3
  have N3 := Fr.snoc X3 N0 g_a
  refine own_go (A := T3.setTop (mkF m 13 #[.val (.ref a), .val (.ref ap), .val (.ref am), .val (.ref ai), .val (.ref az), .unset, .unset, .unset, .unset] [])) (fun _ kz => st3 _ kz) ?_
  refine own_go (A := T3.setTop (mkF m 17 #[.val (.ref a), .val (.ref ap), .val (.ref am), .val (.ref ai), .val (.ref az), .unset, .unset, .unset, .unset] [(.int (256 : Int32)), (.ref a)])) (fun _ kz => ?_) ?_
  · show Steps p.tables e below (T3.setTop (mkF m 13 #[.val (.ref a), .val (.ref ap), .val (.ref am), .val (.ref ai), .val (.ref az), .unset, .unset, .unset, .unset] [])) _
    refine XS.aloadN X3.here hx rfl (hb hby d2_13) rfl rfl ?_
    show Steps p.tables e below (T3.setTop (mkF m 14 #[.val (.ref a), .val (.ref ap), .val (.ref am), .val (.ref ai), .val (.ref az), .unset, .unset, .unset, .unset] [(.ref a)])) _
    refine XS.sipush X3.here hx rfl (hb hby d2_14) ?_
    exact kz
  obtain ⟨T4, h4, k4, X4, e4, E4, A4, st4⟩ := newP X3 hx hZ (hw _ (List.mem_of_getElem? (i := 14) rfl)) e3 (g := (mkF m 17 #[.val (.ref a), .val (.ref ap), .val (.ref am), .val (.ref ai), .val (.ref az), .unset, .unset, .unset, .unset] [(.int (256 : Int32)), (.ref a)])) rfl (hb hby d2_17) rfl (by decide) (cap := 256) (by decide) (by decide) (by decide) (by decide)
  obtain ⟨b4, gq4⟩ : ∃ z, z = h3.size := ⟨_, rfl⟩
  rw [← gq4] at A4 st4
  have g_b4 : n0 ≤ b4 := Nat.le_trans Z3 (Nat.le_of_eq gq4.symm)
  have ne_a_b4 : a ≠ b4 := Nat.ne_of_lt (Nat.lt_of_lt_of_le Ex_a.lt (Nat.le_of_eq gq4.symm))
  have ne_ap_b4 : ap ≠ b4 := Nat.ne_of_lt (Nat.lt_of_lt_of_le Av_ap.lt (Nat.le_of_eq gq4.symm))
  have ne_am_b4 : am ≠ b4 := Nat.ne_of_lt (Nat.lt_of_lt_of_le Av_am.lt (Nat.le_of_eq gq4.symm))
  have ne_ai_b4 : ai ≠ b4 := Nat.ne_of_lt (Nat.lt_of_lt_of_le Av_ai.lt (Nat.le_of_eq gq4.symm))
  have ne_az_b4 : az ≠ b4 := Nat.ne_of_lt (Nat.lt_of_lt_of_le Av_az.lt (Nat.le_of_eq gq4.symm))
  have ne_b2_b4 : b2 ≠ b4 := Nat.ne_of_lt (Nat.lt_of_lt_of_le Ah_b2.lt (Nat.le_of_eq gq4.symm))
  have szk_b4 : h0.size ≤ b4 := Nat.le_trans Kp3.1 (Nat.le_of_eq gq4.symm)
  replace Ex_a := Ex_a.ext E4
  replace F_ignored_a := F_ignored_a.ext E4
  replace F_terminators_a := F_terminators_a.ext E4
  replace F_pattern_a := F_pattern_a.ext E4
  replace F_mask_a := F_mask_a.ext E4
  replace F_ignoring_a := F_ignoring_a.ext E4
  replace F_terminated_a := F_terminated_a.ext E4
  replace Av_ap := Av_ap.ext E4
  replace Ex_ap := Ex_ap.ext E4
  replace Av_am := Av_am.ext E4
  replace Ex_am := Ex_am.ext E4
  replace Av_ai := Av_ai.ext E4
  replace Av_az := Av_az.ext E4
  replace Ah_b2 := Ah_b2.ext E4
  have Z4 : n0 ≤ h4.size := Nat.le_trans Z3 E4.1
  have Kp4 : Keep h0 h4 [a] := Kp3.ext E4
  have Av_b4 : Arv Z h4 b4 k4 .boolean (256 : Int32) [] (.int (0 : Int32)) := Arv.new A4 (by decide)
  refine own_go (A := T4.setTop (mkF m 19 #[.val (.ref a), .val (.ref ap), .val (.ref am), .val (.ref ai), .val (.ref az), .unset, .unset, .unset, .unset] [(.ref b4), (.ref a)])) (fun _ kz => st4 _ kz) ?_
  have Ah_b4 : Arh Z h4 b4 k4 .boolean (256 : Int32) [] [] (.int (0 : Int32)) := Av_b4.arh
  obtain ⟨T5, h5, X5, e5, W5, st5⟩ := putF X4 hx hZ hown (host := "") (Or.inl (hw _ (List.mem_of_getElem? (i := 17) rfl))) Via.refl e4 F_terminators_a Ex_a (Or.inr ⟨(hw _ (List.mem_of_getElem? (i := 18) rfl)), rfl, hnm⟩) (hw _ (List.mem_of_getElem? (i := 6) rfl)) (ty := (.array .boolean)) (by decide) rfl rfl (g := (mkF m 19 #[.val (.ref a), .val (.ref ap), .val (.ref am), .val (.ref ai), .val (.ref az), .unset, .unset, .unset, .unset] [(.ref b4), (.ref a)])) rfl rfl (hb hby d2_19)
  have Fw5 := F_terminators_a.same W5
  replace Ex_a := Ex_a.wr W5
  replace F_ignored_a := F_ignored_a.other W5 (Or.inr (slot_ne (Or.inr (hw _ (List.mem_of_getElem? (i := 16) rfl))) (Or.inr (hw _ (List.mem_of_getElem? (i := 18) rfl))) (by decide) (t := (.array .boolean)) (t' := (.array .boolean)) (by decide) (by decide)))
  replace F_pattern_a := F_pattern_a.other W5 (Or.inr (slot_ne (Or.inr (hw _ (List.mem_of_getElem? (i := 29) rfl))) (Or.inr (hw _ (List.mem_of_getElem? (i := 18) rfl))) (by decide) (t := (.array .byte)) (t' := (.array .boolean)) (by decide) (by decide)))
  replace F_mask_a := F_mask_a.other W5 (Or.inr (slot_ne (Or.inr (hw _ (List.mem_of_getElem? (i := 31) rfl))) (Or.inr (hw _ (List.mem_of_getElem? (i := 18) rfl))) (by decide) (t := (.array .byte)) (t' := (.array .boolean)) (by decide) (by decide)))
  replace F_ignoring_a := F_ignoring_a.other W5 (Or.inr (slot_ne (Or.inr (hw _ (List.mem_of_getElem? (i := 33) rfl))) (Or.inr (hw _ (List.mem_of_getElem? (i := 18) rfl))) (by decide) (t := .boolean) (t' := (.array .boolean)) (by decide) (by decide)))
  replace F_terminated_a := F_terminated_a.other W5 (Or.inr (slot_ne (Or.inr (hw _ (List.mem_of_getElem? (i := 35) rfl))) (Or.inr (hw _ (List.mem_of_getElem? (i := 18) rfl))) (by decide) (t := .boolean) (t' := (.array .boolean)) (by decide) (by decide)))
  replace Av_ap := Av_ap.other W5 ne_ap_a
  replace Ex_ap := Ex_ap.wr W5
  replace Av_am := Av_am.other W5 ne_am_a
  replace Ex_am := Ex_am.wr W5
  replace Av_ai := Av_ai.other W5 ne_ai_a
  replace Av_az := Av_az.other W5 ne_az_a
  replace Ah_b2 := Ah_b2.other W5 (Ne.symm ne_a_b2)
  replace Ah_b4 := Ah_b4.other W5 (Ne.symm ne_a_b4)
  have Z5 : n0 ≤ h5.size := Nat.le_trans Z4 (Keep.of_wr W5).1
  have Kp5 : Keep h0 h5 [a] := Kp4.wr W5 (Or.inl (List.mem_of_getElem? (i := 0) rfl))
  have F_terminators_a := Fw5
  have N5 := Fr.snoc X5 N3 g_a
  refine own_go (A := T5.setTop (mkF m 22 #[.val (.ref a), .val (.ref ap), .val (.ref am), .val (.ref ai), .val (.ref az), .unset, .unset, .unset, .unset] [])) (fun _ kz => st5 _ kz) ?_
  refine own_go (A := T5.setTop (mkF m 23 #[.val (.ref a), .val (.ref ap), .val (.ref am), .val (.ref ai), .val (.ref az), .unset, .unset, .unset, .unset] [(.ref ap)])) (fun _ kz => ?_) ?_
  · show Steps p.tables e below (T5.setTop (mkF m 22 #[.val (.ref a), .val (.ref ap), .val (.ref am), .val (.ref ai), .val (.ref az), .unset, .unset, .unset, .unset] [])) _
    refine XS.aloadN X5.here hx rfl (hb hby d2_22) rfl rfl ?_
    exact kz
  obtain ⟨cl6, Ar6, -, S6, M6, -, -⟩ := id Av_ap
  refine own_go (A := T5.setTop (mkF m 24 #[.val (.ref a), .val (.ref ap), .val (.ref am), .val (.ref ai), .val (.ref az), .unset, .unset, .unset, .unset] [(.int n)])) (fun _ kz => ?_) ?_
  · refine X5.arraylength hx (by rw [e5]; exact Ar6.1) (State.isArrayOf_alike hZ.alike Ar6.2.1) (g := (mkF m 23 #[.val (.ref a), .val (.ref ap), .val (.ref am), .val (.ref ai), .val (.ref az), .unset, .unset, .unset, .unset] [(.ref ap)])) rfl rfl (hb hby d2_23) _ ?_
    rw [len_of S6 M6]
    exact kz
  refine own_go (A := T5.setTop (mkF m 25 #[.val (.ref a), .val (.ref ap), .val (.ref am), .val (.ref ai), .val (.ref az), .unset, .unset, .unset, .unset] [(.ref am), (.int n)])) (fun _ kz => ?_) ?_
  · show Steps p.tables e below (T5.setTop (mkF m 24 #[.val (.ref a), .val (.ref ap), .val (.ref am), .val (.ref ai), .val (.ref az), .unset, .unset, .unset, .unset] [(.int n)])) _
    refine XS.aloadN X5.here hx rfl (hb hby d2_24) rfl rfl ?_
    exact kz
  obtain ⟨cl7, Ar7, -, S7, M7, -, -⟩ := id Av_am
  refine own_go (A := T5.setTop (mkF m 26 #[.val (.ref a), .val (.ref ap), .val (.ref am), .val (.ref ai), .val (.ref az), .unset, .unset, .unset, .unset] [(.int n), (.int n)])) (fun _ kz => ?_) ?_
  · refine X5.arraylength hx (by rw [e5]; exact Ar7.1) (State.isArrayOf_alike hZ.alike Ar7.2.1) (g := (mkF m 25 #[.val (.ref a), .val (.ref ap), .val (.ref am), .val (.ref ai), .val (.ref az), .unset, .unset, .unset, .unset] [(.ref am), (.int n)])) rfl rfl (hb hby d2_25) _ ?_
    rw [len_of S7 M7]
    exact kz
  refine own_go (A := T5.setTop (mkF m 46 #[.val (.ref a), .val (.ref ap), .val (.ref am), .val (.ref ai), .val (.ref az), .unset, .unset, .unset, .unset] [])) (fun _ kz => ?_) ?_
  · show Steps p.tables e below (T5.setTop (mkF m 26 #[.val (.ref a), .val (.ref ap), .val (.ref am), .val (.ref ai), .val (.ref az), .unset, .unset, .unset, .unset] [(.int n), (.int n)])) _
    refine XS.icmpYes X5.here hx rfl (pc0 := 26) (pc' := 46) rfl (hb hby d2_26) rfl (teq rfl).1 (by decide) (by decide) ?_
    exact kz
  obtain ⟨T8, ux8, ⟨L8, X8, N8, e8⟩, st8⟩ : ∃ (T' : State) (_u : Unit), (∃ L', Stand p l e ({ frames := 1, cells := 4, slots := 516, locals := 15 } : Room) s m #[(.ref a), (.ref ap), (.ref am), (.ref ai), (.ref az)] below meth c T' L' 2 512 ∧ Fr n0 L' ∧ T'.heap = h5) ∧ ∀ t, Steps p.tables e below (T'.setTop (mkF m 121 #[.val (.ref a), .val (.ref ap), .val (.ref am), .val (.ref ai), .val (.ref az), .val (.int n), .unset, .unset, .unset] [])) t → Steps p.tables e below (T5.setTop (mkF m 46 #[.val (.ref a), .val (.ref ap), .val (.ref am), .val (.ref ai), .val (.ref az), .unset, .unset, .unset, .unset] [])) t := by
    rcases hn with rfl | rfl | rfl
    · skip
      replace Av_ap : Arv Z h5 ap kp .byte (0 : Int32) [] (.int (0 : Int32)) := Av_ap
      replace Av_am : Arv Z h5 am km .byte (0 : Int32) [] (.int (0 : Int32)) := Av_am
      refine own_via (A := T5.setTop (mkF m 52 #[.val (.ref a), .val (.ref ap), .val (.ref am), .val (.ref ai), .val (.ref az), .val (.int (0 : Int32)), .unset, .unset, .unset] [(.ref ap), (.int (0 : Int32))])) (fun _ kz => ?_) ?_
      · show Steps p.tables e below (T5.setTop (mkF m 46 #[.val (.ref a), .val (.ref ap), .val (.ref am), .val (.ref ai), .val (.ref az), .unset, .unset, .unset, .unset] [])) _
        refine XS.iconst X5.here hx rfl (hb hby d2_46) ?_
        show Steps p.tables e below (T5.setTop (mkF m 47 #[.val (.ref a), .val (.ref ap), .val (.ref am), .val (.ref ai), .val (.ref az), .unset, .unset, .unset, .unset] [(.int (0 : Int32))])) _
        refine XS.istore X5.here hx rfl (hb hby d2_47) rfl (l' := #[.val (.ref a), .val (.ref ap), .val (.ref am), .val (.ref ai), .val (.ref az), .val (.int (0 : Int32)), .unset, .unset, .unset]) rfl ?_
        show Steps p.tables e below (T5.setTop (mkF m 49 #[.val (.ref a), .val (.ref ap), .val (.ref am), .val (.ref ai), .val (.ref az), .val (.int (0 : Int32)), .unset, .unset, .unset] [])) _
        refine XS.iload X5.here hx rfl (hb hby d2_49) rfl ?_
        show Steps p.tables e below (T5.setTop (mkF m 51 #[.val (.ref a), .val (.ref ap), .val (.ref am), .val (.ref ai), .val (.ref az), .val (.int (0 : Int32)), .unset, .unset, .unset] [(.int (0 : Int32))])) _
        refine XS.aloadN X5.here hx rfl (hb hby d2_51) rfl rfl ?_
        exact kz
      obtain ⟨cl9, Ar9, -, S9, M9, -, -⟩ := id Av_ap
      refine own_via (A := T5.setTop (mkF m 53 #[.val (.ref a), .val (.ref ap), .val (.ref am), .val (.ref ai), .val (.ref az), .val (.int (0 : Int32)), .unset, .unset, .unset] [(.int (0 : Int32)), (.int (0 : Int32))])) (fun _ kz => ?_) ?_
      · refine X5.arraylength hx (by rw [e5]; exact Ar9.1) (State.isArrayOf_alike hZ.alike Ar9.2.1) (g := (mkF m 52 #[.val (.ref a), .val (.ref ap), .val (.ref am), .val (.ref ai), .val (.ref az), .val (.int (0 : Int32)), .unset, .unset, .unset] [(.ref ap), (.int (0 : Int32))])) rfl rfl (hb hby d2_52) _ ?_
        rw [len_of S9 M9]
        exact kz
      refine own_via (A := T5.setTop (mkF m 121 #[.val (.ref a), .val (.ref ap), .val (.ref am), .val (.ref ai), .val (.ref az), .val (.int (0 : Int32)), .unset, .unset, .unset] [])) (fun _ kz => ?_) ?_
      · show Steps p.tables e below (T5.setTop (mkF m 53 #[.val (.ref a), .val (.ref ap), .val (.ref am), .val (.ref ai), .val (.ref az), .val (.int (0 : Int32)), .unset, .unset, .unset] [(.int (0 : Int32)), (.int (0 : Int32))])) _
        refine XS.icmpYes X5.here hx rfl (pc0 := 53) (pc' := 121) rfl (hb hby d2_53) rfl (flt (by decide : ¬ ((0 : Int32) < (0 : Int32)))).2.1 (by decide) (by decide) ?_
        exact kz
      exact ⟨T5, (), ⟨_, X5, N5, e5⟩, fun _ kz => kz⟩
    · skip
      replace Av_ap : Arv Z h5 ap kp .byte (1 : Int32) [(.int (own_b0 xp))] (.int (0 : Int32)) := Av_ap
      replace Av_am : Arv Z h5 am km .byte (1 : Int32) [(.int (own_b0 xm))] (.int (0 : Int32)) := Av_am
      refine own_via (A := T5.setTop (mkF m 52 #[.val (.ref a), .val (.ref ap), .val (.ref am), .val (.ref ai), .val (.ref az), .val (.int (0 : Int32)), .unset, .unset, .unset] [(.ref ap), (.int (0 : Int32))])) (fun _ kz => ?_) ?_
      · show Steps p.tables e below (T5.setTop (mkF m 46 #[.val (.ref a), .val (.ref ap), .val (.ref am), .val (.ref ai), .val (.ref az), .unset, .unset, .unset, .unset] [])) _
        refine XS.iconst X5.here hx rfl (hb hby d2_46) ?_
        show Steps p.tables e below (T5.setTop (mkF m 47 #[.val (.ref a), .val (.ref ap), .val (.ref am), .val (.ref ai), .val (.ref az), .unset, .unset, .unset, .unset] [(.int (0 : Int32))])) _
        refine XS.istore X5.here hx rfl (hb hby d2_47) rfl (l' := #[.val (.ref a), .val (.ref ap), .val (.ref am), .val (.ref ai), .val (.ref az), .val (.int (0 : Int32)), .unset, .unset, .unset]) rfl ?_
        show Steps p.tables e below (T5.setTop (mkF m 49 #[.val (.ref a), .val (.ref ap), .val (.ref am), .val (.ref ai), .val (.ref az), .val (.int (0 : Int32)), .unset, .unset, .unset] [])) _
        refine XS.iload X5.here hx rfl (hb hby d2_49) rfl ?_
        show Steps p.tables e below (T5.setTop (mkF m 51 #[.val (.ref a), .val (.ref ap), .val (.ref am), .val (.ref ai), .val (.ref az), .val (.int (0 : Int32)), .unset, .unset, .unset] [(.int (0 : Int32))])) _
        refine XS.aloadN X5.here hx rfl (hb hby d2_51) rfl rfl ?_
        exact kz
      obtain ⟨cl10, Ar10, -, S10, M10, -, -⟩ := id Av_ap
      refine own_via (A := T5.setTop (mkF m 53 #[.val (.ref a), .val (.ref ap), .val (.ref am), .val (.ref ai), .val (.ref az), .val (.int (0 : Int32)), .unset, .unset, .unset] [(.int (1 : Int32)), (.int (0 : Int32))])) (fun _ kz => ?_) ?_
      · refine X5.arraylength hx (by rw [e5]; exact Ar10.1) (State.isArrayOf_alike hZ.alike Ar10.2.1) (g := (mkF m 52 #[.val (.ref a), .val (.ref ap), .val (.ref am), .val (.ref ai), .val (.ref az), .val (.int (0 : Int32)), .unset, .unset, .unset] [(.ref ap), (.int (0 : Int32))])) rfl rfl (hb hby d2_52) _ ?_
        rw [len_of S10 M10]
        exact kz
      refine own_via (A := T5.setTop (mkF m 59 #[.val (.ref a), .val (.ref ap), .val (.ref am), .val (.ref ai), .val (.ref az), .val (.int (0 : Int32)), .unset, .unset, .unset] [(.int (0 : Int32)), (.ref ap)])) (fun _ kz => ?_) ?_
      · show Steps p.tables e below (T5.setTop (mkF m 53 #[.val (.ref a), .val (.ref ap), .val (.ref am), .val (.ref ai), .val (.ref az), .val (.int (0 : Int32)), .unset, .unset, .unset] [(.int (1 : Int32)), (.int (0 : Int32))])) _
        refine XS.icmpNo X5.here hx rfl (hb hby d2_53) rfl (tlt (by decide : ((0 : Int32) < (1 : Int32)))).2.1 ?_
        show Steps p.tables e below (T5.setTop (mkF m 56 #[.val (.ref a), .val (.ref ap), .val (.ref am), .val (.ref ai), .val (.ref az), .val (.int (0 : Int32)), .unset, .unset, .unset] [])) _
        refine XS.aloadN X5.here hx rfl (hb hby d2_56) rfl rfl ?_
        show Steps p.tables e below (T5.setTop (mkF m 57 #[.val (.ref a), .val (.ref ap), .val (.ref am), .val (.ref ai), .val (.ref az), .val (.int (0 : Int32)), .unset, .unset, .unset] [(.ref ap)])) _
        refine XS.iload X5.here hx rfl (hb hby d2_57) rfl ?_
        exact kz
      obtain ⟨cl11, Ar11, -, S11, M11, H11, -⟩ := id Av_ap
      have hin11 : ¬ ((0 : Int32) < 0 ∨ cl11.slots.size ≤ ((0 : Int32)).toNatClampNeg) := inb_of S11 ⟨by decide, by decide⟩
      have hat11 : cl11.slots[((0 : Int32)).toNatClampNeg]? = some (.int (own_b0 xp)) := H11.at hin11 rfl
      refine own_via (A := T5.setTop (mkF m 60 #[.val (.ref a), .val (.ref ap), .val (.ref am), .val (.ref ai), .val (.ref az), .val (.int (0 : Int32)), .unset, .unset, .unset] [(.int (own_b0 xp))])) (fun _ kz => ?_) ?_
      · refine X5.baloadBytes hx (j := (0 : Int32)) (v := (.int (own_b0 xp))) (by rw [e5]; exact Ar11.1) (State.isArrayOf_alike hZ.alike Ar11.2.1) Ar11.2.2 hin11 hat11 (g := (mkF m 59 #[.val (.ref a), .val (.ref ap), .val (.ref am), .val (.ref ai), .val (.ref az), .val (.int (0 : Int32)), .unset, .unset, .unset] [(.int (0 : Int32)), (.ref ap)])) rfl rfl (hb hby d2_59) _ ?_
        exact kz
      refine own_via (A := T5.setTop (mkF m 63 #[.val (.ref a), .val (.ref ap), .val (.ref am), .val (.ref ai), .val (.ref az), .val (.int (0 : Int32)), .unset, .unset, .unset] [(.int (0 : Int32)), (.ref am), (.int (own_b0 xp))])) (fun _ kz => ?_) ?_
      · show Steps p.tables e below (T5.setTop (mkF m 60 #[.val (.ref a), .val (.ref ap), .val (.ref am), .val (.ref ai), .val (.ref az), .val (.int (0 : Int32)), .unset, .unset, .unset] [(.int (own_b0 xp))])) _
        refine XS.aloadN X5.here hx rfl (hb hby d2_60) rfl rfl ?_
        show Steps p.tables e below (T5.setTop (mkF m 61 #[.val (.ref a), .val (.ref ap), .val (.ref am), .val (.ref ai), .val (.ref az), .val (.int (0 : Int32)), .unset, .unset, .unset] [(.ref am), (.int (own_b0 xp))])) _
        refine XS.iload X5.here hx rfl (hb hby d2_61) rfl ?_
        exact kz
      obtain ⟨cl12, Ar12, -, S12, M12, H12, -⟩ := id Av_am
      have hin12 : ¬ ((0 : Int32) < 0 ∨ cl12.slots.size ≤ ((0 : Int32)).toNatClampNeg) := inb_of S12 ⟨by decide, by decide⟩
      have hat12 : cl12.slots[((0 : Int32)).toNatClampNeg]? = some (.int (own_b0 xm)) := H12.at hin12 rfl
      refine own_via (A := T5.setTop (mkF m 64 #[.val (.ref a), .val (.ref ap), .val (.ref am), .val (.ref ai), .val (.ref az), .val (.int (0 : Int32)), .unset, .unset, .unset] [(.int (own_b0 xm)), (.int (own_b0 xp))])) (fun _ kz => ?_) ?_
      · refine X5.baloadBytes hx (j := (0 : Int32)) (v := (.int (own_b0 xm))) (by rw [e5]; exact Ar12.1) (State.isArrayOf_alike hZ.alike Ar12.2.1) Ar12.2.2 hin12 hat12 (g := (mkF m 63 #[.val (.ref a), .val (.ref ap), .val (.ref am), .val (.ref ai), .val (.ref az), .val (.int (0 : Int32)), .unset, .unset, .unset] [(.int (0 : Int32)), (.ref am), (.int (own_b0 xp))])) rfl rfl (hb hby d2_63) _ ?_
        exact kz
      refine own_via (A := T5.setTop (mkF m 52 #[.val (.ref a), .val (.ref ap), .val (.ref am), .val (.ref ai), .val (.ref az), .val (.int (1 : Int32)), .unset, .unset, .unset] [(.ref ap), (.int (1 : Int32))])) (fun _ kz => ?_) ?_
      · show Steps p.tables e below (T5.setTop (mkF m 64 #[.val (.ref a), .val (.ref ap), .val (.ref am), .val (.ref ai), .val (.ref az), .val (.int (0 : Int32)), .unset, .unset, .unset] [(.int (own_b0 xm)), (.int (own_b0 xp))])) _
        refine XS.iconst X5.here hx rfl (hb hby d2_64) ?_
        show Steps p.tables e below (T5.setTop (mkF m 65 #[.val (.ref a), .val (.ref ap), .val (.ref am), .val (.ref ai), .val (.ref az), .val (.int (0 : Int32)), .unset, .unset, .unset] [(.int (-1 : Int32)), (.int (own_b0 xm)), (.int (own_b0 xp))])) _
        refine XS.ixor X5.here hx rfl (hb hby d2_65) rfl ?_
        show Steps p.tables e below (T5.setTop (mkF m 66 #[.val (.ref a), .val (.ref ap), .val (.ref am), .val (.ref ai), .val (.ref az), .val (.int (0 : Int32)), .unset, .unset, .unset] [(.int ((own_b0 xm) ^^^ (-1 : Int32))), (.int (own_b0 xp))])) _
        refine XS.iand X5.here hx rfl (hb hby d2_66) rfl ?_
        show Steps p.tables e below (T5.setTop (mkF m 67 #[.val (.ref a), .val (.ref ap), .val (.ref am), .val (.ref ai), .val (.ref az), .val (.int (0 : Int32)), .unset, .unset, .unset] [(.int ((own_b0 xp) &&& ((own_b0 xm) ^^^ (-1 : Int32))))])) _
        refine XS.ifYes X5.here hx rfl (pc0 := 67) (pc' := 115) rfl (hb hby d2_67) rfl ((if0 _ _).trans (teq hsub0).1) (by decide) (by decide) ?_
        show Steps p.tables e below (T5.setTop (mkF m 115 #[.val (.ref a), .val (.ref ap), .val (.ref am), .val (.ref ai), .val (.ref az), .val (.int (0 : Int32)), .unset, .unset, .unset] [])) _
        refine XS.iinc X5.here hx rfl (hb hby d2_115) rfl (l' := #[.val (.ref a), .val (.ref ap), .val (.ref am), .val (.ref ai), .val (.ref az), .val (.int (1 : Int32)), .unset, .unset, .unset]) rfl ?_
        show Steps p.tables e below (T5.setTop (mkF m 118 #[.val (.ref a), .val (.ref ap), .val (.ref am), .val (.ref ai), .val (.ref az), .val (.int (1 : Int32)), .unset, .unset, .unset] [])) _
        refine XS.goto X5.here hx rfl (pc0 := 118) (pc' := 49) rfl (hb hby d2_118) (by decide) (by decide) ?_
        show Steps p.tables e below (T5.setTop (mkF m 49 #[.val (.ref a), .val (.ref ap), .val (.ref am), .val (.ref ai), .val (.ref az), .val (.int (1 : Int32)), .unset, .unset, .unset] [])) _
        refine XS.iload X5.here hx rfl (hb hby d2_49) rfl ?_
        show Steps p.tables e below (T5.setTop (mkF m 51 #[.val (.ref a), .val (.ref ap), .val (.ref am), .val (.ref ai), .val (.ref az), .val (.int (1 : Int32)), .unset, .unset, .unset] [(.int (1 : Int32))])) _
        refine XS.aloadN X5.here hx rfl (hb hby d2_51) rfl rfl ?_
        exact kz
      obtain ⟨cl13, Ar13, -, S13, M13, -, -⟩ := id Av_ap
      refine own_via (A := T5.setTop (mkF m 53 #[.val (.ref a), .val (.ref ap), .val (.ref am), .val (.ref ai), .val (.ref az), .val (.int (1 : Int32)), .unset, .unset, .unset] [(.int (1 : Int32)), (.int (1 : Int32))])) (fun _ kz => ?_) ?_
      · refine X5.arraylength hx (by rw [e5]; exact Ar13.1) (State.isArrayOf_alike hZ.alike Ar13.2.1) (g := (mkF m 52 #[.val (.ref a), .val (.ref ap), .val (.ref am), .val (.ref ai), .val (.ref az), .val (.int (1 : Int32)), .unset, .unset, .unset] [(.ref ap), (.int (1 : Int32))])) rfl rfl (hb hby d2_52) _ ?_
        rw [len_of S13 M13]
        exact kz
      refine own_via (A := T5.setTop (mkF m 121 #[.val (.ref a), .val (.ref ap), .val (.ref am), .val (.ref ai), .val (.ref az), .val (.int (1 : Int32)), .unset, .unset, .unset] [])) (fun _ kz => ?_) ?_
      · show Steps p.tables e below (T5.setTop (mkF m 53 #[.val (.ref a), .val (.ref ap), .val (.ref am), .val (.ref ai), .val (.ref az), .val (.int (1 : Int32)), .unset, .unset, .unset] [(.int (1 : Int32)), (.int (1 : Int32))])) _
        refine XS.icmpYes X5.here hx rfl (pc0 := 53) (pc' := 121) rfl (hb hby d2_53) rfl (flt (by decide : ¬ ((1 : Int32) < (1 : Int32)))).2.1 (by decide) (by decide) ?_
        exact kz
      exact ⟨T5, (), ⟨_, X5, N5, e5⟩, fun _ kz => kz⟩
    · skip
      replace Av_ap : Arv Z h5 ap kp .byte (2 : Int32) [(.int (own_b0 xp)), (.int (own_b1 xp))] (.int (0 : Int32)) := Av_ap
      replace Av_am : Arv Z h5 am km .byte (2 : Int32) [(.int (own_b0 xm)), (.int (own_b1 xm))] (.int (0 : Int32)) := Av_am
      refine own_via (A := T5.setTop (mkF m 52 #[.val (.ref a), .val (.ref ap), .val (.ref am), .val (.ref ai), .val (.ref az), .val (.int (0 : Int32)), .unset, .unset, .unset] [(.ref ap), (.int (0 : Int32))])) (fun _ kz => ?_) ?_
      · show Steps p.tables e below (T5.setTop (mkF m 46 #[.val (.ref a), .val (.ref ap), .val (.ref am), .val (.ref ai), .val (.ref az), .unset, .unset, .unset, .unset] [])) _
        refine XS.iconst X5.here hx rfl (hb hby d2_46) ?_
        show Steps p.tables e below (T5.setTop (mkF m 47 #[.val (.ref a), .val (.ref ap), .val (.ref am), .val (.ref ai), .val (.ref az), .unset, .unset, .unset, .unset] [(.int (0 : Int32))])) _
        refine XS.istore X5.here hx rfl (hb hby d2_47) rfl (l' := #[.val (.ref a), .val (.ref ap), .val (.ref am), .val (.ref ai), .val (.ref az), .val (.int (0 : Int32)), .unset, .unset, .unset]) rfl ?_
        show Steps p.tables e below (T5.setTop (mkF m 49 #[.val (.ref a), .val (.ref ap), .val (.ref am), .val (.ref ai), .val (.ref az), .val (.int (0 : Int32)), .unset, .unset, .unset] [])) _
        refine XS.iload X5.here hx rfl (hb hby d2_49) rfl ?_
        show Steps p.tables e below (T5.setTop (mkF m 51 #[.val (.ref a), .val (.ref ap), .val (.ref am), .val (.ref ai), .val (.ref az), .val (.int (0 : Int32)), .unset, .unset, .unset] [(.int (0 : Int32))])) _
        refine XS.aloadN X5.here hx rfl (hb hby d2_51) rfl rfl ?_
        exact kz
      obtain ⟨cl14, Ar14, -, S14, M14, -, -⟩ := id Av_ap
      refine own_via (A := T5.setTop (mkF m 53 #[.val (.ref a), .val (.ref ap), .val (.ref am), .val (.ref ai), .val (.ref az), .val (.int (0 : Int32)), .unset, .unset, .unset] [(.int (2 : Int32)), (.int (0 : Int32))])) (fun _ kz => ?_) ?_
      · refine X5.arraylength hx (by rw [e5]; exact Ar14.1) (State.isArrayOf_alike hZ.alike Ar14.2.1) (g := (mkF m 52 #[.val (.ref a), .val (.ref ap), .val (.ref am), .val (.ref ai), .val (.ref az), .val (.int (0 : Int32)), .unset, .unset, .unset] [(.ref ap), (.int (0 : Int32))])) rfl rfl (hb hby d2_52) _ ?_
        rw [len_of S14 M14]
        exact kz
      refine own_via (A := T5.setTop (mkF m 59 #[.val (.ref a), .val (.ref ap), .val (.ref am), .val (.ref ai), .val (.ref az), .val (.int (0 : Int32)), .unset, .unset, .unset] [(.int (0 : Int32)), (.ref ap)])) (fun _ kz => ?_) ?_
      · show Steps p.tables e below (T5.setTop (mkF m 53 #[.val (.ref a), .val (.ref ap), .val (.ref am), .val (.ref ai), .val (.ref az), .val (.int (0 : Int32)), .unset, .unset, .unset] [(.int (2 : Int32)), (.int (0 : Int32))])) _
        refine XS.icmpNo X5.here hx rfl (hb hby d2_53) rfl (tlt (by decide : ((0 : Int32) < (2 : Int32)))).2.1 ?_
        show Steps p.tables e below (T5.setTop (mkF m 56 #[.val (.ref a), .val (.ref ap), .val (.ref am), .val (.ref ai), .val (.ref az), .val (.int (0 : Int32)), .unset, .unset, .unset] [])) _
        refine XS.aloadN X5.here hx rfl (hb hby d2_56) rfl rfl ?_
        show Steps p.tables e below (T5.setTop (mkF m 57 #[.val (.ref a), .val (.ref ap), .val (.ref am), .val (.ref ai), .val (.ref az), .val (.int (0 : Int32)), .unset, .unset, .unset] [(.ref ap)])) _
        refine XS.iload X5.here hx rfl (hb hby d2_57) rfl ?_
        exact kz
      obtain ⟨cl15, Ar15, -, S15, M15, H15, -⟩ := id Av_ap
      have hin15 : ¬ ((0 : Int32) < 0 ∨ cl15.slots.size ≤ ((0 : Int32)).toNatClampNeg) := inb_of S15 ⟨by decide, by decide⟩
      have hat15 : cl15.slots[((0 : Int32)).toNatClampNeg]? = some (.int (own_b0 xp)) := H15.at hin15 rfl
      refine own_via (A := T5.setTop (mkF m 60 #[.val (.ref a), .val (.ref ap), .val (.ref am), .val (.ref ai), .val (.ref az), .val (.int (0 : Int32)), .unset, .unset, .unset] [(.int (own_b0 xp))])) (fun _ kz => ?_) ?_
      · refine X5.baloadBytes hx (j := (0 : Int32)) (v := (.int (own_b0 xp))) (by rw [e5]; exact Ar15.1) (State.isArrayOf_alike hZ.alike Ar15.2.1) Ar15.2.2 hin15 hat15 (g := (mkF m 59 #[.val (.ref a), .val (.ref ap), .val (.ref am), .val (.ref ai), .val (.ref az), .val (.int (0 : Int32)), .unset, .unset, .unset] [(.int (0 : Int32)), (.ref ap)])) rfl rfl (hb hby d2_59) _ ?_
        exact kz
      refine own_via (A := T5.setTop (mkF m 63 #[.val (.ref a), .val (.ref ap), .val (.ref am), .val (.ref ai), .val (.ref az), .val (.int (0 : Int32)), .unset, .unset, .unset] [(.int (0 : Int32)), (.ref am), (.int (own_b0 xp))])) (fun _ kz => ?_) ?_
      · show Steps p.tables e below (T5.setTop (mkF m 60 #[.val (.ref a), .val (.ref ap), .val (.ref am), .val (.ref ai), .val (.ref az), .val (.int (0 : Int32)), .unset, .unset, .unset] [(.int (own_b0 xp))])) _
        refine XS.aloadN X5.here hx rfl (hb hby d2_60) rfl rfl ?_
        show Steps p.tables e below (T5.setTop (mkF m 61 #[.val (.ref a), .val (.ref ap), .val (.ref am), .val (.ref ai), .val (.ref az), .val (.int (0 : Int32)), .unset, .unset, .unset] [(.ref am), (.int (own_b0 xp))])) _
        refine XS.iload X5.here hx rfl (hb hby d2_61) rfl ?_
        exact kz
      obtain ⟨cl16, Ar16, -, S16, M16, H16, -⟩ := id Av_am
      have hin16 : ¬ ((0 : Int32) < 0 ∨ cl16.slots.size ≤ ((0 : Int32)).toNatClampNeg) := inb_of S16 ⟨by decide, by decide⟩
      have hat16 : cl16.slots[((0 : Int32)).toNatClampNeg]? = some (.int (own_b0 xm)) := H16.at hin16 rfl
      refine own_via (A := T5.setTop (mkF m 64 #[.val (.ref a), .val (.ref ap), .val (.ref am), .val (.ref ai), .val (.ref az), .val (.int (0 : Int32)), .unset, .unset, .unset] [(.int (own_b0 xm)), (.int (own_b0 xp))])) (fun _ kz => ?_) ?_
      · refine X5.baloadBytes hx (j := (0 : Int32)) (v := (.int (own_b0 xm))) (by rw [e5]; exact Ar16.1) (State.isArrayOf_alike hZ.alike Ar16.2.1) Ar16.2.2 hin16 hat16 (g := (mkF m 63 #[.val (.ref a), .val (.ref ap), .val (.ref am), .val (.ref ai), .val (.ref az), .val (.int (0 : Int32)), .unset, .unset, .unset] [(.int (0 : Int32)), (.ref am), (.int (own_b0 xp))])) rfl rfl (hb hby d2_63) _ ?_
        exact kz
      refine own_via (A := T5.setTop (mkF m 52 #[.val (.ref a), .val (.ref ap), .val (.ref am), .val (.ref ai), .val (.ref az), .val (.int (1 : Int32)), .unset, .unset, .unset] [(.ref ap), (.int (1 : Int32))])) (fun _ kz => ?_) ?_
      · show Steps p.tables e below (T5.setTop (mkF m 64 #[.val (.ref a), .val (.ref ap), .val (.ref am), .val (.ref ai), .val (.ref az), .val (.int (0 : Int32)), .unset, .unset, .unset] [(.int (own_b0 xm)), (.int (own_b0 xp))])) _
        refine XS.iconst X5.here hx rfl (hb hby d2_64) ?_
        show Steps p.tables e below (T5.setTop (mkF m 65 #[.val (.ref a), .val (.ref ap), .val (.ref am), .val (.ref ai), .val (.ref az), .val (.int (0 : Int32)), .unset, .unset, .unset] [(.int (-1 : Int32)), (.int (own_b0 xm)), (.int (own_b0 xp))])) _
        refine XS.ixor X5.here hx rfl (hb hby d2_65) rfl ?_
        show Steps p.tables e below (T5.setTop (mkF m 66 #[.val (.ref a), .val (.ref ap), .val (.ref am), .val (.ref ai), .val (.ref az), .val (.int (0 : Int32)), .unset, .unset, .unset] [(.int ((own_b0 xm) ^^^ (-1 : Int32))), (.int (own_b0 xp))])) _
        refine XS.iand X5.here hx rfl (hb hby d2_66) rfl ?_
        show Steps p.tables e below (T5.setTop (mkF m 67 #[.val (.ref a), .val (.ref ap), .val (.ref am), .val (.ref ai), .val (.ref az), .val (.int (0 : Int32)), .unset, .unset, .unset] [(.int ((own_b0 xp) &&& ((own_b0 xm) ^^^ (-1 : Int32))))])) _
        refine XS.ifYes X5.here hx rfl (pc0 := 67) (pc' := 115) rfl (hb hby d2_67) rfl ((if0 _ _).trans (teq hsub0).1) (by decide) (by decide) ?_
        show Steps p.tables e below (T5.setTop (mkF m 115 #[.val (.ref a), .val (.ref ap), .val (.ref am), .val (.ref ai), .val (.ref az), .val (.int (0 : Int32)), .unset, .unset, .unset] [])) _
        refine XS.iinc X5.here hx rfl (hb hby d2_115) rfl (l' := #[.val (.ref a), .val (.ref ap), .val (.ref am), .val (.ref ai), .val (.ref az), .val (.int (1 : Int32)), .unset, .unset, .unset]) rfl ?_
        show Steps p.tables e below (T5.setTop (mkF m 118 #[.val (.ref a), .val (.ref ap), .val (.ref am), .val (.ref ai), .val (.ref az), .val (.int (1 : Int32)), .unset, .unset, .unset] [])) _
        refine XS.goto X5.here hx rfl (pc0 := 118) (pc' := 49) rfl (hb hby d2_118) (by decide) (by decide) ?_
        show Steps p.tables e below (T5.setTop (mkF m 49 #[.val (.ref a), .val (.ref ap), .val (.ref am), .val (.ref ai), .val (.ref az), .val (.int (1 : Int32)), .unset, .unset, .unset] [])) _
        refine XS.iload X5.here hx rfl (hb hby d2_49) rfl ?_
        show Steps p.tables e below (T5.setTop (mkF m 51 #[.val (.ref a), .val (.ref ap), .val (.ref am), .val (.ref ai), .val (.ref az), .val (.int (1 : Int32)), .unset, .unset, .unset] [(.int (1 : Int32))])) _
        refine XS.aloadN X5.here hx rfl (hb hby d2_51) rfl rfl ?_
        exact kz
      obtain ⟨cl17, Ar17, -, S17, M17, -, -⟩ := id Av_ap
      refine own_via (A := T5.setTop (mkF m 53 #[.val (.ref a), .val (.ref ap), .val (.ref am), .val (.ref ai), .val (.ref az), .val (.int (1 : Int32)), .unset, .unset, .unset] [(.int (2 : Int32)), (.int (1 : Int32))])) (fun _ kz => ?_) ?_
      · refine X5.arraylength hx (by rw [e5]; exact Ar17.1) (State.isArrayOf_alike hZ.alike Ar17.2.1) (g := (mkF m 52 #[.val (.ref a), .val (.ref ap), .val (.ref am), .val (.ref ai), .val (.ref az), .val (.int (1 : Int32)), .unset, .unset, .unset] [(.ref ap), (.int (1 : Int32))])) rfl rfl (hb hby d2_52) _ ?_
        rw [len_of S17 M17]
        exact kz
      refine own_via (A := T5.setTop (mkF m 59 #[.val (.ref a), .val (.ref ap), .val (.ref am), .val (.ref ai), .val (.ref az), .val (.int (1 : Int32)), .unset, .unset, .unset] [(.int (1 : Int32)), (.ref ap)])) (fun _ kz => ?_) ?_
      · show Steps p.tables e below (T5.setTop (mkF m 53 #[.val (.ref a), .val (.ref ap), .val (.ref am), .val (.ref ai), .val (.ref az), .val (.int (1 : Int32)), .unset, .unset, .unset] [(.int (2 : Int32)), (.int (1 : Int32))])) _
        refine XS.icmpNo X5.here hx rfl (hb hby d2_53) rfl (tlt (by decide : ((1 : Int32) < (2 : Int32)))).2.1 ?_
        show Steps p.tables e below (T5.setTop (mkF m 56 #[.val (.ref a), .val (.ref ap), .val (.ref am), .val (.ref ai), .val (.ref az), .val (.int (1 : Int32)), .unset, .unset, .unset] [])) _
        refine XS.aloadN X5.here hx rfl (hb hby d2_56) rfl rfl ?_
        show Steps p.tables e below (T5.setTop (mkF m 57 #[.val (.ref a), .val (.ref ap), .val (.ref am), .val (.ref ai), .val (.ref az), .val (.int (1 : Int32)), .unset, .unset, .unset] [(.ref ap)])) _
        refine XS.iload X5.here hx rfl (hb hby d2_57) rfl ?_
        exact kz
      obtain ⟨cl18, Ar18, -, S18, M18, H18, -⟩ := id Av_ap
      have hin18 : ¬ ((1 : Int32) < 0 ∨ cl18.slots.size ≤ ((1 : Int32)).toNatClampNeg) := inb_of S18 ⟨by decide, by decide⟩
      have hat18 : cl18.slots[((1 : Int32)).toNatClampNeg]? = some (.int (own_b1 xp)) := H18.at hin18 rfl
      refine own_via (A := T5.setTop (mkF m 60 #[.val (.ref a), .val (.ref ap), .val (.ref am), .val (.ref ai), .val (.ref az), .val (.int (1 : Int32)), .unset, .unset, .unset] [(.int (own_b1 xp))])) (fun _ kz => ?_) ?_
      · refine X5.baloadBytes hx (j := (1 : Int32)) (v := (.int (own_b1 xp))) (by rw [e5]; exact Ar18.1) (State.isArrayOf_alike hZ.alike Ar18.2.1) Ar18.2.2 hin18 hat18 (g := (mkF m 59 #[.val (.ref a), .val (.ref ap), .val (.ref am), .val (.ref ai), .val (.ref az), .val (.int (1 : Int32)), .unset, .unset, .unset] [(.int (1 : Int32)), (.ref ap)])) rfl rfl (hb hby d2_59) _ ?_
        exact kz
      refine own_via (A := T5.setTop (mkF m 63 #[.val (.ref a), .val (.ref ap), .val (.ref am), .val (.ref ai), .val (.ref az), .val (.int (1 : Int32)), .unset, .unset, .unset] [(.int (1 : Int32)), (.ref am), (.int (own_b1 xp))])) (fun _ kz => ?_) ?_
      · show Steps p.tables e below (T5.setTop (mkF m 60 #[.val (.ref a), .val (.ref ap), .val (.ref am), .val (.ref ai), .val (.ref az), .val (.int (1 : Int32)), .unset, .unset, .unset] [(.int (own_b1 xp))])) _
        refine XS.aloadN X5.here hx rfl (hb hby d2_60) rfl rfl ?_
        show Steps p.tables e below (T5.setTop (mkF m 61 #[.val (.ref a), .val (.ref ap), .val (.ref am), .val (.ref ai), .val (.ref az), .val (.int (1 : Int32)), .unset, .unset, .unset] [(.ref am), (.int (own_b1 xp))])) _
        refine XS.iload X5.here hx rfl (hb hby d2_61) rfl ?_
        exact kz
      obtain ⟨cl19, Ar19, -, S19, M19, H19, -⟩ := id Av_am
      have hin19 : ¬ ((1 : Int32) < 0 ∨ cl19.slots.size ≤ ((1 : Int32)).toNatClampNeg) := inb_of S19 ⟨by decide, by decide⟩
      have hat19 : cl19.slots[((1 : Int32)).toNatClampNeg]? = some (.int (own_b1 xm)) := H19.at hin19 rfl
      refine own_via (A := T5.setTop (mkF m 64 #[.val (.ref a), .val (.ref ap), .val (.ref am), .val (.ref ai), .val (.ref az), .val (.int (1 : Int32)), .unset, .unset, .unset] [(.int (own_b1 xm)), (.int (own_b1 xp))])) (fun _ kz => ?_) ?_
      · refine X5.baloadBytes hx (j := (1 : Int32)) (v := (.int (own_b1 xm))) (by rw [e5]; exact Ar19.1) (State.isArrayOf_alike hZ.alike Ar19.2.1) Ar19.2.2 hin19 hat19 (g := (mkF m 63 #[.val (.ref a), .val (.ref ap), .val (.ref am), .val (.ref ai), .val (.ref az), .val (.int (1 : Int32)), .unset, .unset, .unset] [(.int (1 : Int32)), (.ref am), (.int (own_b1 xp))])) rfl rfl (hb hby d2_63) _ ?_
        exact kz
      refine own_via (A := T5.setTop (mkF m 52 #[.val (.ref a), .val (.ref ap), .val (.ref am), .val (.ref ai), .val (.ref az), .val (.int (2 : Int32)), .unset, .unset, .unset] [(.ref ap), (.int (2 : Int32))])) (fun _ kz => ?_) ?_
      · show Steps p.tables e below (T5.setTop (mkF m 64 #[.val (.ref a), .val (.ref ap), .val (.ref am), .val (.ref ai), .val (.ref az), .val (.int (1 : Int32)), .unset, .unset, .unset] [(.int (own_b1 xm)), (.int (own_b1 xp))])) _
        refine XS.iconst X5.here hx rfl (hb hby d2_64) ?_
        show Steps p.tables e below (T5.setTop (mkF m 65 #[.val (.ref a), .val (.ref ap), .val (.ref am), .val (.ref ai), .val (.ref az), .val (.int (1 : Int32)), .unset, .unset, .unset] [(.int (-1 : Int32)), (.int (own_b1 xm)), (.int (own_b1 xp))])) _
        refine XS.ixor X5.here hx rfl (hb hby d2_65) rfl ?_
        show Steps p.tables e below (T5.setTop (mkF m 66 #[.val (.ref a), .val (.ref ap), .val (.ref am), .val (.ref ai), .val (.ref az), .val (.int (1 : Int32)), .unset, .unset, .unset] [(.int ((own_b1 xm) ^^^ (-1 : Int32))), (.int (own_b1 xp))])) _
        refine XS.iand X5.here hx rfl (hb hby d2_66) rfl ?_
        show Steps p.tables e below (T5.setTop (mkF m 67 #[.val (.ref a), .val (.ref ap), .val (.ref am), .val (.ref ai), .val (.ref az), .val (.int (1 : Int32)), .unset, .unset, .unset] [(.int ((own_b1 xp) &&& ((own_b1 xm) ^^^ (-1 : Int32))))])) _
        refine XS.ifYes X5.here hx rfl (pc0 := 67) (pc' := 115) rfl (hb hby d2_67) rfl ((if0 _ _).trans (teq hsub1).1) (by decide) (by decide) ?_
        show Steps p.tables e below (T5.setTop (mkF m 115 #[.val (.ref a), .val (.ref ap), .val (.ref am), .val (.ref ai), .val (.ref az), .val (.int (1 : Int32)), .unset, .unset, .unset] [])) _
        refine XS.iinc X5.here hx rfl (hb hby d2_115) rfl (l' := #[.val (.ref a), .val (.ref ap), .val (.ref am), .val (.ref ai), .val (.ref az), .val (.int (2 : Int32)), .unset, .unset, .unset]) rfl ?_
        show Steps p.tables e below (T5.setTop (mkF m 118 #[.val (.ref a), .val (.ref ap), .val (.ref am), .val (.ref ai), .val (.ref az), .val (.int (2 : Int32)), .unset, .unset, .unset] [])) _
        refine XS.goto X5.here hx rfl (pc0 := 118) (pc' := 49) rfl (hb hby d2_118) (by decide) (by decide) ?_
        show Steps p.tables e below (T5.setTop (mkF m 49 #[.val (.ref a), .val (.ref ap), .val (.ref am), .val (.ref ai), .val (.ref az), .val (.int (2 : Int32)), .unset, .unset, .unset] [])) _
        refine XS.iload X5.here hx rfl (hb hby d2_49) rfl ?_
        show Steps p.tables e below (T5.setTop (mkF m 51 #[.val (.ref a), .val (.ref ap), .val (.ref am), .val (.ref ai), .val (.ref az), .val (.int (2 : Int32)), .unset, .unset, .unset] [(.int (2 : Int32))])) _
        refine XS.aloadN X5.here hx rfl (hb hby d2_51) rfl rfl ?_
        exact kz
      obtain ⟨cl20, Ar20, -, S20, M20, -, -⟩ := id Av_ap
      refine own_via (A := T5.setTop (mkF m 53 #[.val (.ref a), .val (.ref ap), .val (.ref am), .val (.ref ai), .val (.ref az), .val (.int (2 : Int32)), .unset, .unset, .unset] [(.int (2 : Int32)), (.int (2 : Int32))])) (fun _ kz => ?_) ?_
      · refine X5.arraylength hx (by rw [e5]; exact Ar20.1) (State.isArrayOf_alike hZ.alike Ar20.2.1) (g := (mkF m 52 #[.val (.ref a), .val (.ref ap), .val (.ref am), .val (.ref ai), .val (.ref az), .val (.int (2 : Int32)), .unset, .unset, .unset] [(.ref ap), (.int (2 : Int32))])) rfl rfl (hb hby d2_52) _ ?_
        rw [len_of S20 M20]
        exact kz
      refine own_via (A := T5.setTop (mkF m 121 #[.val (.ref a), .val (.ref ap), .val (.ref am), .val (.ref ai), .val (.ref az), .val (.int (2 : Int32)), .unset, .unset, .unset] [])) (fun _ kz => ?_) ?_
      · show Steps p.tables e below (T5.setTop (mkF m 53 #[.val (.ref a), .val (.ref ap), .val (.ref am), .val (.ref ai), .val (.ref az), .val (.int (2 : Int32)), .unset, .unset, .unset] [(.int (2 : Int32)), (.int (2 : Int32))])) _
        refine XS.icmpYes X5.here hx rfl (pc0 := 53) (pc' := 121) rfl (hb hby d2_53) rfl (flt (by decide : ¬ ((2 : Int32) < (2 : Int32)))).2.1 (by decide) (by decide) ?_
        exact kz
      exact ⟨T5, (), ⟨_, X5, N5, e5⟩, fun _ kz => kz⟩
  refine own_go (A := T8.setTop (mkF m 121 #[.val (.ref a), .val (.ref ap), .val (.ref am), .val (.ref ai), .val (.ref az), .val (.int n), .unset, .unset, .unset] [])) (fun _ kz => st8 _ kz) ?_
  refine own_go (A := T8.setTop (mkF m 123 #[.val (.ref a), .val (.ref ap), .val (.ref am), .val (.ref ai), .val (.ref az), .val (.int n), .unset, .unset, .unset] [(.ref ap), (.ref a)])) (fun _ kz => ?_) ?_
  · show Steps p.tables e below (T8.setTop (mkF m 121 #[.val (.ref a), .val (.ref ap), .val (.ref am), .val (.ref ai), .val (.ref az), .val (.int n), .unset, .unset, .unset] [])) _
    refine XS.aloadN X8.here hx rfl (hb hby d2_121) rfl rfl ?_
    show Steps p.tables e below (T8.setTop (mkF m 122 #[.val (.ref a), .val (.ref ap), .val (.ref am), .val (.ref ai), .val (.ref az), .val (.int n), .unset, .unset, .unset] [(.ref a)])) _
    refine XS.aloadN X8.here hx rfl (hb hby d2_122) rfl rfl ?_
    exact kz
  obtain ⟨T21, h21, X21, e21, E21, A21, Q21, st21⟩ := cloneH X8 hx hZ hown (hw _ (List.mem_of_getElem? (i := 19) rfl)) (hw _ (List.mem_of_getElem? (i := 20) rfl)) (hw _ (List.mem_of_getElem? (i := 24) rfl)) (hw _ (List.mem_of_getElem? (i := 22) rfl)) (hw _ (List.mem_of_getElem? (i := 23) rfl)) (hw _ (List.mem_of_getElem? (i := 25) rfl)) e8 Av_ap.arh Ex_ap (g := (mkF m 123 #[.val (.ref a), .val (.ref ap), .val (.ref am), .val (.ref ai), .val (.ref az), .val (.int n), .unset, .unset, .unset] [(.ref ap), (.ref a)])) rfl (by rw [hml]; rfl) rfl (hb hby d2_123) (by decide) (W := 1) (cap := 2) (by show 2 * 0 + _ ≤ _; exact Nat.le_of_eq rfl) (by decide) (own_cap2 hn) (by decide) (by decide)
  obtain ⟨b21, gq21⟩ : ∃ z, z = h5.size := ⟨_, rfl⟩
  rw [← gq21] at A21 Q21 st21
  have g_b21 : n0 ≤ b21 := Nat.le_trans Z5 (Nat.le_of_eq gq21.symm)
  have ne_a_b21 : a ≠ b21 := Nat.ne_of_lt (Nat.lt_of_lt_of_le Ex_a.lt (Nat.le_of_eq gq21.symm))
  have ne_ap_b21 : ap ≠ b21 := Nat.ne_of_lt (Nat.lt_of_lt_of_le Av_ap.lt (Nat.le_of_eq gq21.symm))
  have ne_am_b21 : am ≠ b21 := Nat.ne_of_lt (Nat.lt_of_lt_of_le Av_am.lt (Nat.le_of_eq gq21.symm))
  have ne_ai_b21 : ai ≠ b21 := Nat.ne_of_lt (Nat.lt_of_lt_of_le Av_ai.lt (Nat.le_of_eq gq21.symm))
  have ne_az_b21 : az ≠ b21 := Nat.ne_of_lt (Nat.lt_of_lt_of_le Av_az.lt (Nat.le_of_eq gq21.symm))
  have ne_b2_b21 : b2 ≠ b21 := Nat.ne_of_lt (Nat.lt_of_lt_of_le Ah_b2.lt (Nat.le_of_eq gq21.symm))
  have ne_b4_b21 : b4 ≠ b21 := Nat.ne_of_lt (Nat.lt_of_lt_of_le Ah_b4.lt (Nat.le_of_eq gq21.symm))
  have szk_b21 : h0.size ≤ b21 := Nat.le_trans Kp5.1 (Nat.le_of_eq gq21.symm)
  replace Ex_a := Ex_a.ext E21
  replace F_ignored_a := F_ignored_a.ext E21
  replace F_terminators_a := F_terminators_a.ext E21
  replace F_pattern_a := F_pattern_a.ext E21
  replace F_mask_a := F_mask_a.ext E21
  replace F_ignoring_a := F_ignoring_a.ext E21
  replace F_terminated_a := F_terminated_a.ext E21
  replace Av_ap := Av_ap.ext E21
  replace Ex_ap := Ex_ap.ext E21
  replace Av_am := Av_am.ext E21
  replace Ex_am := Ex_am.ext E21
  replace Av_ai := Av_ai.ext E21
  replace Av_az := Av_az.ext E21
  replace Ah_b2 := Ah_b2.ext E21
  replace Ah_b4 := Ah_b4.ext E21
  have Z21 : n0 ≤ h21.size := Nat.le_trans Z5 E21.1
  have Kp21 : Keep h0 h21 [a] := Kp5.ext E21
  have Av_b21 : Arv Z h21 b21 kp .byte n (own_l2 n xp) (.int (0 : Int32)) := A21
  have Ex_b21 := Q21
  refine own_go (A := T21.setTop (mkF m 126 #[.val (.ref a), .val (.ref ap), .val (.ref am), .val (.ref ai), .val (.ref az), .val (.int n), .unset, .unset, .unset] [(.ref b21), (.ref a)])) (fun _ kz => st21 _ kz) ?_
  obtain ⟨T22, X22, e22, st22⟩ := castY X21 hx hZ hown (hw _ (List.mem_of_getElem? (i := 26) rfl)) e21 (Ins.of_exa Ex_b21 (hw _ (List.mem_of_getElem? (i := 27) rfl))) (g := (mkF m 126 #[.val (.ref a), .val (.ref ap), .val (.ref am), .val (.ref ai), .val (.ref az), .val (.int n), .unset, .unset, .unset] [(.ref b21), (.ref a)])) rfl rfl (hb hby d2_126)
  refine own_go (A := T22.setTop (mkF m 129 #[.val (.ref a), .val (.ref ap), .val (.ref am), .val (.ref ai), .val (.ref az), .val (.int n), .unset, .unset, .unset] [(.ref b21), (.ref a)])) (fun _ kz => st22 _ kz) ?_
  obtain ⟨T23, h23, X23, e23, W23, st23⟩ := putF X22 hx hZ hown (host := "") (Or.inl (hw _ (List.mem_of_getElem? (i := 28) rfl))) Via.refl e22 F_pattern_a Ex_a (Or.inr ⟨(hw _ (List.mem_of_getElem? (i := 29) rfl)), rfl, hnm⟩) (hw _ (List.mem_of_getElem? (i := 6) rfl)) (ty := (.array .byte)) (by decide) rfl rfl (g := (mkF m 129 #[.val (.ref a), .val (.ref ap), .val (.ref am), .val (.ref ai), .val (.ref az), .val (.int n), .unset, .unset, .unset] [(.ref b21), (.ref a)])) rfl rfl (hb hby d2_129)
  have Fw23 := F_pattern_a.same W23
  replace Ex_a := Ex_a.wr W23
  replace F_ignored_a := F_ignored_a.other W23 (Or.inr (slot_ne (Or.inr (hw _ (List.mem_of_getElem? (i := 16) rfl))) (Or.inr (hw _ (List.mem_of_getElem? (i := 29) rfl))) (by decide) (t := (.array .boolean)) (t' := (.array .byte)) (by decide) (by decide)))
  replace F_terminators_a := F_terminators_a.other W23 (Or.inr (slot_ne (Or.inr (hw _ (List.mem_of_getElem? (i := 18) rfl))) (Or.inr (hw _ (List.mem_of_getElem? (i := 29) rfl))) (by decide) (t := (.array .boolean)) (t' := (.array .byte)) (by decide) (by decide)))
  replace F_mask_a := F_mask_a.other W23 (Or.inr (slot_ne (Or.inr (hw _ (List.mem_of_getElem? (i := 31) rfl))) (Or.inr (hw _ (List.mem_of_getElem? (i := 29) rfl))) (by decide) (t := (.array .byte)) (t' := (.array .byte)) (by decide) (by decide)))
  replace F_ignoring_a := F_ignoring_a.other W23 (Or.inr (slot_ne (Or.inr (hw _ (List.mem_of_getElem? (i := 33) rfl))) (Or.inr (hw _ (List.mem_of_getElem? (i := 29) rfl))) (by decide) (t := .boolean) (t' := (.array .byte)) (by decide) (by decide)))
  replace F_terminated_a := F_terminated_a.other W23 (Or.inr (slot_ne (Or.inr (hw _ (List.mem_of_getElem? (i := 35) rfl))) (Or.inr (hw _ (List.mem_of_getElem? (i := 29) rfl))) (by decide) (t := .boolean) (t' := (.array .byte)) (by decide) (by decide)))
  replace Av_ap := Av_ap.other W23 ne_ap_a
  replace Ex_ap := Ex_ap.wr W23
  replace Av_am := Av_am.other W23 ne_am_a
  replace Ex_am := Ex_am.wr W23
  replace Av_ai := Av_ai.other W23 ne_ai_a
  replace Av_az := Av_az.other W23 ne_az_a
  replace Ah_b2 := Ah_b2.other W23 (Ne.symm ne_a_b2)
  replace Ah_b4 := Ah_b4.other W23 (Ne.symm ne_a_b4)
  replace Av_b21 := Av_b21.other W23 (Ne.symm ne_a_b21)
  replace Ex_b21 := Ex_b21.wr W23
  have Z23 : n0 ≤ h23.size := Nat.le_trans Z21 (Keep.of_wr W23).1
  have Kp23 : Keep h0 h23 [a] := Kp21.wr W23 (Or.inl (List.mem_of_getElem? (i := 0) rfl))
  have F_pattern_a := Fw23
  have N23 := Fr.snoc X23 N8 g_a
  refine own_go (A := T23.setTop (mkF m 132 #[.val (.ref a), .val (.ref ap), .val (.ref am), .val (.ref ai), .val (.ref az), .val (.int n), .unset, .unset, .unset] [])) (fun _ kz => st23 _ kz) ?_
  refine own_go (A := T23.setTop (mkF m 134 #[.val (.ref a), .val (.ref ap), .val (.ref am), .val (.ref ai), .val (.ref az), .val (.int n), .unset, .unset, .unset] [(.ref am), (.ref a)])) (fun _ kz => ?_) ?_
  · show Steps p.tables e below (T23.setTop (mkF m 132 #[.val (.ref a), .val (.ref ap), .val (.ref am), .val (.ref ai), .val (.ref az), .val (.int n), .unset, .unset, .unset] [])) _
    refine XS.aloadN X23.here hx rfl (hb hby d2_132) rfl rfl ?_
    show Steps p.tables e below (T23.setTop (mkF m 133 #[.val (.ref a), .val (.ref ap), .val (.ref am), .val (.ref ai), .val (.ref az), .val (.int n), .unset, .unset, .unset] [(.ref a)])) _
    refine XS.aloadN X23.here hx rfl (hb hby d2_133) rfl rfl ?_
    exact kz
  obtain ⟨T24, h24, X24, e24, E24, A24, Q24, st24⟩ := cloneH X23 hx hZ hown (hw _ (List.mem_of_getElem? (i := 19) rfl)) (hw _ (List.mem_of_getElem? (i := 20) rfl)) (hw _ (List.mem_of_getElem? (i := 24) rfl)) (hw _ (List.mem_of_getElem? (i := 22) rfl)) (hw _ (List.mem_of_getElem? (i := 23) rfl)) (hw _ (List.mem_of_getElem? (i := 25) rfl)) e23 Av_am.arh Ex_am (g := (mkF m 134 #[.val (.ref a), .val (.ref ap), .val (.ref am), .val (.ref ai), .val (.ref az), .val (.int n), .unset, .unset, .unset] [(.ref am), (.ref a)])) rfl (by rw [hml]; rfl) rfl (hb hby d2_134) (by decide) (W := 1) (cap := 2) (by show 2 * 0 + _ ≤ _; exact Nat.le_of_eq rfl) (by decide) (own_cap2 hn) (by decide) (by decide)
  obtain ⟨b24, gq24⟩ : ∃ z, z = h23.size := ⟨_, rfl⟩
  rw [← gq24] at A24 Q24 st24
  have g_b24 : n0 ≤ b24 := Nat.le_trans Z23 (Nat.le_of_eq gq24.symm)
  have ne_a_b24 : a ≠ b24 := Nat.ne_of_lt (Nat.lt_of_lt_of_le Ex_a.lt (Nat.le_of_eq gq24.symm))
  have ne_ap_b24 : ap ≠ b24 := Nat.ne_of_lt (Nat.lt_of_lt_of_le Av_ap.lt (Nat.le_of_eq gq24.symm))
  have ne_am_b24 : am ≠ b24 := Nat.ne_of_lt (Nat.lt_of_lt_of_le Av_am.lt (Nat.le_of_eq gq24.symm))
  have ne_ai_b24 : ai ≠ b24 := Nat.ne_of_lt (Nat.lt_of_lt_of_le Av_ai.lt (Nat.le_of_eq gq24.symm))
  have ne_az_b24 : az ≠ b24 := Nat.ne_of_lt (Nat.lt_of_lt_of_le Av_az.lt (Nat.le_of_eq gq24.symm))
  have ne_b2_b24 : b2 ≠ b24 := Nat.ne_of_lt (Nat.lt_of_lt_of_le Ah_b2.lt (Nat.le_of_eq gq24.symm))
  have ne_b4_b24 : b4 ≠ b24 := Nat.ne_of_lt (Nat.lt_of_lt_of_le Ah_b4.lt (Nat.le_of_eq gq24.symm))
  have ne_b21_b24 : b21 ≠ b24 := Nat.ne_of_lt (Nat.lt_of_lt_of_le Av_b21.lt (Nat.le_of_eq gq24.symm))
  have szk_b24 : h0.size ≤ b24 := Nat.le_trans Kp23.1 (Nat.le_of_eq gq24.symm)
  replace Ex_a := Ex_a.ext E24
  replace F_ignored_a := F_ignored_a.ext E24
  replace F_terminators_a := F_terminators_a.ext E24
  replace F_pattern_a := F_pattern_a.ext E24
  replace F_mask_a := F_mask_a.ext E24
  replace F_ignoring_a := F_ignoring_a.ext E24
  replace F_terminated_a := F_terminated_a.ext E24
  replace Av_ap := Av_ap.ext E24
  replace Ex_ap := Ex_ap.ext E24
  replace Av_am := Av_am.ext E24
  replace Ex_am := Ex_am.ext E24
  replace Av_ai := Av_ai.ext E24
  replace Av_az := Av_az.ext E24
  replace Ah_b2 := Ah_b2.ext E24
  replace Ah_b4 := Ah_b4.ext E24
  replace Av_b21 := Av_b21.ext E24
  replace Ex_b21 := Ex_b21.ext E24
  have Z24 : n0 ≤ h24.size := Nat.le_trans Z23 E24.1
  have Kp24 : Keep h0 h24 [a] := Kp23.ext E24
  have Av_b24 : Arv Z h24 b24 km .byte n (own_l2 n xm) (.int (0 : Int32)) := A24
  have Ex_b24 := Q24
  refine own_go (A := T24.setTop (mkF m 137 #[.val (.ref a), .val (.ref ap), .val (.ref am), .val (.ref ai), .val (.ref az), .val (.int n), .unset, .unset, .unset] [(.ref b24), (.ref a)])) (fun _ kz => st24 _ kz) ?_
  obtain ⟨T25, X25, e25, st25⟩ := castY X24 hx hZ hown (hw _ (List.mem_of_getElem? (i := 26) rfl)) e24 (Ins.of_exa Ex_b24 (hw _ (List.mem_of_getElem? (i := 27) rfl))) (g := (mkF m 137 #[.val (.ref a), .val (.ref ap), .val (.ref am), .val (.ref ai), .val (.ref az), .val (.int n), .unset, .unset, .unset] [(.ref b24), (.ref a)])) rfl rfl (hb hby d2_137)
  refine own_go (A := T25.setTop (mkF m 140 #[.val (.ref a), .val (.ref ap), .val (.ref am), .val (.ref ai), .val (.ref az), .val (.int n), .unset, .unset, .unset] [(.ref b24), (.ref a)])) (fun _ kz => st25 _ kz) ?_
  obtain ⟨T26, h26, X26, e26, W26, st26⟩ := putF X25 hx hZ hown (host := "") (Or.inl (hw _ (List.mem_of_getElem? (i := 30) rfl))) Via.refl e25 F_mask_a Ex_a (Or.inr ⟨(hw _ (List.mem_of_getElem? (i := 31) rfl)), rfl, hnm⟩) (hw _ (List.mem_of_getElem? (i := 6) rfl)) (ty := (.array .byte)) (by decide) rfl rfl (g := (mkF m 140 #[.val (.ref a), .val (.ref ap), .val (.ref am), .val (.ref ai), .val (.ref az), .val (.int n), .unset, .unset, .unset] [(.ref b24), (.ref a)])) rfl rfl (hb hby d2_140)
  have Fw26 := F_mask_a.same W26
  replace Ex_a := Ex_a.wr W26
  replace F_ignored_a := F_ignored_a.other W26 (Or.inr (slot_ne (Or.inr (hw _ (List.mem_of_getElem? (i := 16) rfl))) (Or.inr (hw _ (List.mem_of_getElem? (i := 31) rfl))) (by decide) (t := (.array .boolean)) (t' := (.array .byte)) (by decide) (by decide)))
  replace F_terminators_a := F_terminators_a.other W26 (Or.inr (slot_ne (Or.inr (hw _ (List.mem_of_getElem? (i := 18) rfl))) (Or.inr (hw _ (List.mem_of_getElem? (i := 31) rfl))) (by decide) (t := (.array .boolean)) (t' := (.array .byte)) (by decide) (by decide)))
  replace F_pattern_a := F_pattern_a.other W26 (Or.inr (slot_ne (Or.inr (hw _ (List.mem_of_getElem? (i := 29) rfl))) (Or.inr (hw _ (List.mem_of_getElem? (i := 31) rfl))) (by decide) (t := (.array .byte)) (t' := (.array .byte)) (by decide) (by decide)))
  replace F_ignoring_a := F_ignoring_a.other W26 (Or.inr (slot_ne (Or.inr (hw _ (List.mem_of_getElem? (i := 33) rfl))) (Or.inr (hw _ (List.mem_of_getElem? (i := 31) rfl))) (by decide) (t := .boolean) (t' := (.array .byte)) (by decide) (by decide)))
  replace F_terminated_a := F_terminated_a.other W26 (Or.inr (slot_ne (Or.inr (hw _ (List.mem_of_getElem? (i := 35) rfl))) (Or.inr (hw _ (List.mem_of_getElem? (i := 31) rfl))) (by decide) (t := .boolean) (t' := (.array .byte)) (by decide) (by decide)))
  replace Av_ap := Av_ap.other W26 ne_ap_a
  replace Ex_ap := Ex_ap.wr W26
  replace Av_am := Av_am.other W26 ne_am_a
  replace Ex_am := Ex_am.wr W26
  replace Av_ai := Av_ai.other W26 ne_ai_a
  replace Av_az := Av_az.other W26 ne_az_a
  replace Ah_b2 := Ah_b2.other W26 (Ne.symm ne_a_b2)
  replace Ah_b4 := Ah_b4.other W26 (Ne.symm ne_a_b4)
  replace Av_b21 := Av_b21.other W26 (Ne.symm ne_a_b21)
  replace Ex_b21 := Ex_b21.wr W26
  replace Av_b24 := Av_b24.other W26 (Ne.symm ne_a_b24)
  replace Ex_b24 := Ex_b24.wr W26
  have Z26 : n0 ≤ h26.size := Nat.le_trans Z24 (Keep.of_wr W26).1
  have Kp26 : Keep h0 h26 [a] := Kp24.wr W26 (Or.inl (List.mem_of_getElem? (i := 0) rfl))
  have F_mask_a := Fw26
  have N26 := Fr.snoc X26 N23 g_a
  refine own_go (A := T26.setTop (mkF m 143 #[.val (.ref a), .val (.ref ap), .val (.ref am), .val (.ref ai), .val (.ref az), .val (.int n), .unset, .unset, .unset] [])) (fun _ kz => st26 _ kz) ?_
  refine own_go (A := T26.setTop (mkF m 148 #[.val (.ref a), .val (.ref ap), .val (.ref am), .val (.ref ai), .val (.ref az), .val (.ref ai), .unset, .unset, .unset] [(.ref ai)])) (fun _ kz => ?_) ?_
  · show Steps p.tables e below (T26.setTop (mkF m 143 #[.val (.ref a), .val (.ref ap), .val (.ref am), .val (.ref ai), .val (.ref az), .val (.int n), .unset, .unset, .unset] [])) _
    refine XS.aloadN X26.here hx rfl (hb hby d2_143) rfl rfl ?_
    show Steps p.tables e below (T26.setTop (mkF m 144 #[.val (.ref a), .val (.ref ap), .val (.ref am), .val (.ref ai), .val (.ref az), .val (.int n), .unset, .unset, .unset] [(.ref ai)])) _
    refine XS.astore X26.here hx rfl (hb hby d2_144) rfl rfl (l' := #[.val (.ref a), .val (.ref ap), .val (.ref am), .val (.ref ai), .val (.ref az), .val (.ref ai), .unset, .unset, .unset]) rfl ?_
    show Steps p.tables e below (T26.setTop (mkF m 146 #[.val (.ref a), .val (.ref ap), .val (.ref am), .val (.ref ai), .val (.ref az), .val (.ref ai), .unset, .unset, .unset] [])) _
    refine XS.aload X26.here hx rfl (hb hby d2_146) rfl rfl ?_
    exact kz
  obtain ⟨cl27, Ar27, -, S27, M27, -, -⟩ := id Av_ai
  refine own_go (A := T26.setTop (mkF m 149 #[.val (.ref a), .val (.ref ap), .val (.ref am), .val (.ref ai), .val (.ref az), .val (.ref ai), .unset, .unset, .unset] [(.int ni)])) (fun _ kz => ?_) ?_
  · refine X26.arraylength hx (by rw [e26]; exact Ar27.1) (State.isArrayOf_alike hZ.alike Ar27.2.1) (g := (mkF m 148 #[.val (.ref a), .val (.ref ap), .val (.ref am), .val (.ref ai), .val (.ref az), .val (.ref ai), .unset, .unset, .unset] [(.ref ai)])) rfl rfl (hb hby d2_148) _ ?_
    rw [len_of S27 M27]
    exact kz
  refine own_go (A := T26.setTop (mkF m 154 #[.val (.ref a), .val (.ref ap), .val (.ref am), .val (.ref ai), .val (.ref az), .val (.ref ai), .val (.int ni), .val (.int (0 : Int32)), .unset] [])) (fun _ kz => ?_) ?_
  · show Steps p.tables e below (T26.setTop (mkF m 149 #[.val (.ref a), .val (.ref ap), .val (.ref am), .val (.ref ai), .val (.ref az), .val (.ref ai), .unset, .unset, .unset] [(.int ni)])) _
    refine XS.istore X26.here hx rfl (hb hby d2_149) rfl (l' := #[.val (.ref a), .val (.ref ap), .val (.ref am), .val (.ref ai), .val (.ref az), .val (.ref ai), .val (.int ni), .unset, .unset]) rfl ?_
    show Steps p.tables e below (T26.setTop (mkF m 151 #[.val (.ref a), .val (.ref ap), .val (.ref am), .val (.ref ai), .val (.ref az), .val (.ref ai), .val (.int ni), .unset, .unset] [])) _
    refine XS.iconst X26.here hx rfl (hb hby d2_151) ?_
    show Steps p.tables e below (T26.setTop (mkF m 152 #[.val (.ref a), .val (.ref ap), .val (.ref am), .val (.ref ai), .val (.ref az), .val (.ref ai), .val (.int ni), .unset, .unset] [(.int (0 : Int32))])) _
    refine XS.istore X26.here hx rfl (hb hby d2_152) rfl (l' := #[.val (.ref a), .val (.ref ap), .val (.ref am), .val (.ref ai), .val (.ref az), .val (.ref ai), .val (.int ni), .val (.int (0 : Int32)), .unset]) rfl ?_
    exact kz
  obtain ⟨T28, s8, ⟨hs8, L28, h28, X28, N28, e28, K28, Ah28⟩, st28⟩ : ∃ (T' : State) (s8 : Slot), (One s8 ∧ ∃ L' h', Stand p l e ({ frames := 1, cells := 4, slots := 516, locals := 15 } : Room) s m #[(.ref a), (.ref ap), (.ref am), (.ref ai), (.ref az)] below meth c T' L' 4 516 ∧ Fr n0 L' ∧ T'.heap = h' ∧ Keep h26 h' [b2] ∧ Arh Z h' b2 k2 .boolean (256 : Int32) (own_hs ni xi) [] (.int (0 : Int32))) ∧ ∀ t, Steps p.tables e below (T'.setTop (mkF m 186 #[.val (.ref a), .val (.ref ap), .val (.ref am), .val (.ref ai), .val (.ref az), .val (.ref ai), .val (.int ni), .val (.int ni), s8] [])) t → Steps p.tables e below (T26.setTop (mkF m 154 #[.val (.ref a), .val (.ref ap), .val (.ref am), .val (.ref ai), .val (.ref az), .val (.ref ai), .val (.int ni), .val (.int (0 : Int32)), .unset] [])) t := by
    have KpL : Keep h26 h26 [b2] := Keep.refl _ _
    rcases hni with rfl | rfl | rfl
    · skip
      replace Av_ai : Arv Z h26 ai ki .byte (0 : Int32) [] (.int (0 : Int32)) := Av_ai
      refine own_via (A := T26.setTop (mkF m 186 #[.val (.ref a), .val (.ref ap), .val (.ref am), .val (.ref ai), .val (.ref az), .val (.ref ai), .val (.int (0 : Int32)), .val (.int (0 : Int32)), .unset] [])) (fun _ kz => ?_) ?_
      · show Steps p.tables e below (T26.setTop (mkF m 154 #[.val (.ref a), .val (.ref ap), .val (.ref am), .val (.ref ai), .val (.ref az), .val (.ref ai), .val (.int (0 : Int32)), .val (.int (0 : Int32)), .unset] [])) _
        refine XS.iload X26.here hx rfl (hb hby d2_154) rfl ?_
        show Steps p.tables e below (T26.setTop (mkF m 156 #[.val (.ref a), .val (.ref ap), .val (.ref am), .val (.ref ai), .val (.ref az), .val (.ref ai), .val (.int (0 : Int32)), .val (.int (0 : Int32)), .unset] [(.int (0 : Int32))])) _
        refine XS.iload X26.here hx rfl (hb hby d2_156) rfl ?_
        show Steps p.tables e below (T26.setTop (mkF m 158 #[.val (.ref a), .val (.ref ap), .val (.ref am), .val (.ref ai), .val (.ref az), .val (.ref ai), .val (.int (0 : Int32)), .val (.int (0 : Int32)), .unset] [(.int (0 : Int32)), (.int (0 : Int32))])) _
        refine XS.icmpYes X26.here hx rfl (pc0 := 158) (pc' := 186) rfl (hb hby d2_158) rfl (flt (by decide : ¬ ((0 : Int32) < (0 : Int32)))).2.1 (by decide) (by decide) ?_
        exact kz
      exact ⟨T26, .unset, ⟨One.u, _, h26, X26, N26, e26, KpL, Ah_b2⟩, fun _ kz => kz⟩
    · skip
      replace Av_ai : Arv Z h26 ai ki .byte (1 : Int32) [(.int (own_b0 xi))] (.int (0 : Int32)) := Av_ai
      refine own_via (A := T26.setTop (mkF m 165 #[.val (.ref a), .val (.ref ap), .val (.ref am), .val (.ref ai), .val (.ref az), .val (.ref ai), .val (.int (1 : Int32)), .val (.int (0 : Int32)), .unset] [(.int (0 : Int32)), (.ref ai)])) (fun _ kz => ?_) ?_
      · show Steps p.tables e below (T26.setTop (mkF m 154 #[.val (.ref a), .val (.ref ap), .val (.ref am), .val (.ref ai), .val (.ref az), .val (.ref ai), .val (.int (1 : Int32)), .val (.int (0 : Int32)), .unset] [])) _
        refine XS.iload X26.here hx rfl (hb hby d2_154) rfl ?_
        show Steps p.tables e below (T26.setTop (mkF m 156 #[.val (.ref a), .val (.ref ap), .val (.ref am), .val (.ref ai), .val (.ref az), .val (.ref ai), .val (.int (1 : Int32)), .val (.int (0 : Int32)), .unset] [(.int (0 : Int32))])) _
        refine XS.iload X26.here hx rfl (hb hby d2_156) rfl ?_
        show Steps p.tables e below (T26.setTop (mkF m 158 #[.val (.ref a), .val (.ref ap), .val (.ref am), .val (.ref ai), .val (.ref az), .val (.ref ai), .val (.int (1 : Int32)), .val (.int (0 : Int32)), .unset] [(.int (1 : Int32)), (.int (0 : Int32))])) _
        refine XS.icmpNo X26.here hx rfl (hb hby d2_158) rfl (tlt (by decide : ((0 : Int32) < (1 : Int32)))).2.1 ?_
        show Steps p.tables e below (T26.setTop (mkF m 161 #[.val (.ref a), .val (.ref ap), .val (.ref am), .val (.ref ai), .val (.ref az), .val (.ref ai), .val (.int (1 : Int32)), .val (.int (0 : Int32)), .unset] [])) _
        refine XS.aload X26.here hx rfl (hb hby d2_161) rfl rfl ?_
        show Steps p.tables e below (T26.setTop (mkF m 163 #[.val (.ref a), .val (.ref ap), .val (.ref am), .val (.ref ai), .val (.ref az), .val (.ref ai), .val (.int (1 : Int32)), .val (.int (0 : Int32)), .unset] [(.ref ai)])) _
        refine XS.iload X26.here hx rfl (hb hby d2_163) rfl ?_
        exact kz
      obtain ⟨cl29, Ar29, -, S29, M29, H29, -⟩ := id Av_ai
      have hin29 : ¬ ((0 : Int32) < 0 ∨ cl29.slots.size ≤ ((0 : Int32)).toNatClampNeg) := inb_of S29 ⟨by decide, by decide⟩
      have hat29 : cl29.slots[((0 : Int32)).toNatClampNeg]? = some (.int (own_b0 xi)) := H29.at hin29 rfl
      refine own_via (A := T26.setTop (mkF m 166 #[.val (.ref a), .val (.ref ap), .val (.ref am), .val (.ref ai), .val (.ref az), .val (.ref ai), .val (.int (1 : Int32)), .val (.int (0 : Int32)), .unset] [(.int (own_b0 xi))])) (fun _ kz => ?_) ?_
      · refine X26.baloadBytes hx (j := (0 : Int32)) (v := (.int (own_b0 xi))) (by rw [e26]; exact Ar29.1) (State.isArrayOf_alike hZ.alike Ar29.2.1) Ar29.2.2 hin29 hat29 (g := (mkF m 165 #[.val (.ref a), .val (.ref ap), .val (.ref am), .val (.ref ai), .val (.ref az), .val (.ref ai), .val (.int (1 : Int32)), .val (.int (0 : Int32)), .unset] [(.int (0 : Int32)), (.ref ai)])) rfl rfl (hb hby d2_165) _ ?_
        exact kz
      refine own_via (A := T26.setTop (mkF m 169 #[.val (.ref a), .val (.ref ap), .val (.ref am), .val (.ref ai), .val (.ref az), .val (.ref ai), .val (.int (1 : Int32)), .val (.int (0 : Int32)), .val (.int (own_b0 xi))] [(.ref a)])) (fun _ kz => ?_) ?_
      · show Steps p.tables e below (T26.setTop (mkF m 166 #[.val (.ref a), .val (.ref ap), .val (.ref am), .val (.ref ai), .val (.ref az), .val (.ref ai), .val (.int (1 : Int32)), .val (.int (0 : Int32)), .unset] [(.int (own_b0 xi))])) _
        refine XS.istore X26.here hx rfl (hb hby d2_166) rfl (l' := #[.val (.ref a), .val (.ref ap), .val (.ref am), .val (.ref ai), .val (.ref az), .val (.ref ai), .val (.int (1 : Int32)), .val (.int (0 : Int32)), .val (.int (own_b0 xi))]) rfl ?_
        show Steps p.tables e below (T26.setTop (mkF m 168 #[.val (.ref a), .val (.ref ap), .val (.ref am), .val (.ref ai), .val (.ref az), .val (.ref ai), .val (.int (1 : Int32)), .val (.int (0 : Int32)), .val (.int (own_b0 xi))] [])) _
        refine XS.aloadN X26.here hx rfl (hb hby d2_168) rfl rfl ?_
        exact kz
      obtain ⟨T30, X30, e30, st30⟩ := getF X26 hx hZ hown (host := "") (Or.inl (hw _ (List.mem_of_getElem? (i := 15) rfl))) Via.refl e26 F_ignored_a (g := (mkF m 169 #[.val (.ref a), .val (.ref ap), .val (.ref am), .val (.ref ai), .val (.ref az), .val (.ref ai), .val (.int (1 : Int32)), .val (.int (0 : Int32)), .val (.int (own_b0 xi))] [(.ref a)])) rfl rfl (hb hby d2_169)
      refine own_via (A := T30.setTop (mkF m 172 #[.val (.ref a), .val (.ref ap), .val (.ref am), .val (.ref ai), .val (.ref az), .val (.ref ai), .val (.int (1 : Int32)), .val (.int (0 : Int32)), .val (.int (own_b0 xi))] [(.ref b2)])) (fun _ kz => st30 _ kz) ?_
      refine own_via (A := T30.setTop (mkF m 179 #[.val (.ref a), .val (.ref ap), .val (.ref am), .val (.ref ai), .val (.ref az), .val (.ref ai), .val (.int (1 : Int32)), .val (.int (0 : Int32)), .val (.int (own_b0 xi))] [(.int (1 : Int32)), (.int ((own_b0 xi) &&& (255 : Int32))), (.ref b2)])) (fun _ kz => ?_) ?_
      · show Steps p.tables e below (T30.setTop (mkF m 172 #[.val (.ref a), .val (.ref ap), .val (.ref am), .val (.ref ai), .val (.ref az), .val (.ref ai), .val (.int (1 : Int32)), .val (.int (0 : Int32)), .val (.int (own_b0 xi))] [(.ref b2)])) _
        refine XS.iload X30.here hx rfl (hb hby d2_172) rfl ?_
        show Steps p.tables e below (T30.setTop (mkF m 174 #[.val (.ref a), .val (.ref ap), .val (.ref am), .val (.ref ai), .val (.ref az), .val (.ref ai), .val (.int (1 : Int32)), .val (.int (0 : Int32)), .val (.int (own_b0 xi))] [(.int (own_b0 xi)), (.ref b2)])) _
        refine XS.sipush X30.here hx rfl (hb hby d2_174) ?_
        show Steps p.tables e below (T30.setTop (mkF m 177 #[.val (.ref a), .val (.ref ap), .val (.ref am), .val (.ref ai), .val (.ref az), .val (.ref ai), .val (.int (1 : Int32)), .val (.int (0 : Int32)), .val (.int (own_b0 xi))] [(.int (255 : Int32)), (.int (own_b0 xi)), (.ref b2)])) _
        refine XS.iand X30.here hx rfl (hb hby d2_177) rfl ?_
        show Steps p.tables e below (T30.setTop (mkF m 178 #[.val (.ref a), .val (.ref ap), .val (.ref am), .val (.ref ai), .val (.ref az), .val (.ref ai), .val (.int (1 : Int32)), .val (.int (0 : Int32)), .val (.int (own_b0 xi))] [(.int ((own_b0 xi) &&& (255 : Int32))), (.ref b2)])) _
        refine XS.iconst X30.here hx rfl (hb hby d2_178) ?_
        exact kz
      obtain ⟨cl31, Ar31, q31, S31, M31, H31, G31⟩ := id Ah_b2
      have hin31 : ¬ (((own_b0 xi) &&& (255 : Int32)) < 0 ∨ cl31.slots.size ≤ (((own_b0 xi) &&& (255 : Int32))).toNatClampNeg) := inb_of S31 ⟨own_a0 _, own_a1 _⟩
      obtain ⟨T31, h31, X31, e31, W31, st31⟩ := stZ X30 hx hZ e30 Ar31 (j := ((own_b0 xi) &&& (255 : Int32))) hin31 (g := (mkF m 179 #[.val (.ref a), .val (.ref ap), .val (.ref am), .val (.ref ai), .val (.ref az), .val (.ref ai), .val (.int (1 : Int32)), .val (.int (0 : Int32)), .val (.int (own_b0 xi))] [(.int (1 : Int32)), (.int ((own_b0 xi) &&& (255 : Int32))), (.ref b2)])) rfl rfl (hb hby d2_179)
      have Aw31 := Arh.push (v := (.int (1 : Int32))) Ar31 q31 S31 M31 H31 G31 rfl W31 hin31
      replace Ex_a := Ex_a.wr W31
      replace F_ignored_a := F_ignored_a.other W31 (Or.inl ne_a_b2)
      replace F_terminators_a := F_terminators_a.other W31 (Or.inl ne_a_b2)
      replace F_pattern_a := F_pattern_a.other W31 (Or.inl ne_a_b2)
      replace F_mask_a := F_mask_a.other W31 (Or.inl ne_a_b2)
      replace F_ignoring_a := F_ignoring_a.other W31 (Or.inl ne_a_b2)
      replace F_terminated_a := F_terminated_a.other W31 (Or.inl ne_a_b2)
      replace Av_ap := Av_ap.other W31 ne_ap_b2
      replace Ex_ap := Ex_ap.wr W31
      replace Av_am := Av_am.other W31 ne_am_b2
      replace Ex_am := Ex_am.wr W31
      replace Av_ai := Av_ai.other W31 ne_ai_b2
      replace Av_az := Av_az.other W31 ne_az_b2
      replace Ah_b4 := Ah_b4.other W31 (Ne.symm ne_b2_b4)
      replace Av_b21 := Av_b21.other W31 (Ne.symm ne_b2_b21)
      replace Ex_b21 := Ex_b21.wr W31
      replace Av_b24 := Av_b24.other W31 (Ne.symm ne_b2_b24)
      replace Ex_b24 := Ex_b24.wr W31
      have Z31 : n0 ≤ h31.size := Nat.le_trans Z26 (Keep.of_wr W31).1
      have Kp31 : Keep h26 h31 [b2] := KpL.wr W31 (Or.inl (List.mem_of_getElem? (i := 0) rfl))
      have N31 := Fr.snoc X31 N26 g_b2
      refine own_via (A := T31.setTop (mkF m 180 #[.val (.ref a), .val (.ref ap), .val (.ref am), .val (.ref ai), .val (.ref az), .val (.ref ai), .val (.int (1 : Int32)), .val (.int (0 : Int32)), .val (.int (own_b0 xi))] [])) (fun _ kz => st31 _ kz) ?_
      refine own_via (A := T31.setTop (mkF m 154 #[.val (.ref a), .val (.ref ap), .val (.ref am), .val (.ref ai), .val (.ref az), .val (.ref ai), .val (.int (1 : Int32)), .val (.int (1 : Int32)), .val (.int (own_b0 xi))] [])) (fun _ kz => ?_) ?_
      · show Steps p.tables e below (T31.setTop (mkF m 180 #[.val (.ref a), .val (.ref ap), .val (.ref am), .val (.ref ai), .val (.ref az), .val (.ref ai), .val (.int (1 : Int32)), .val (.int (0 : Int32)), .val (.int (own_b0 xi))] [])) _
        refine XS.iinc X31.here hx rfl (hb hby d2_180) rfl (l' := #[.val (.ref a), .val (.ref ap), .val (.ref am), .val (.ref ai), .val (.ref az), .val (.ref ai), .val (.int (1 : Int32)), .val (.int (1 : Int32)), .val (.int (own_b0 xi))]) rfl ?_
        show Steps p.tables e below (T31.setTop (mkF m 183 #[.val (.ref a), .val (.ref ap), .val (.ref am), .val (.ref ai), .val (.ref az), .val (.ref ai), .val (.int (1 : Int32)), .val (.int (1 : Int32)), .val (.int (own_b0 xi))] [])) _
        refine XS.goto X31.here hx rfl (pc0 := 183) (pc' := 154) rfl (hb hby d2_183) (by decide) (by decide) ?_
        exact kz
      refine own_via (A := T31.setTop (mkF m 186 #[.val (.ref a), .val (.ref ap), .val (.ref am), .val (.ref ai), .val (.ref az), .val (.ref ai), .val (.int (1 : Int32)), .val (.int (1 : Int32)), .val (.int (own_b0 xi))] [])) (fun _ kz => ?_) ?_
      · show Steps p.tables e below (T31.setTop (mkF m 154 #[.val (.ref a), .val (.ref ap), .val (.ref am), .val (.ref ai), .val (.ref az), .val (.ref ai), .val (.int (1 : Int32)), .val (.int (1 : Int32)), .val (.int (own_b0 xi))] [])) _
        refine XS.iload X31.here hx rfl (hb hby d2_154) rfl ?_
        show Steps p.tables e below (T31.setTop (mkF m 156 #[.val (.ref a), .val (.ref ap), .val (.ref am), .val (.ref ai), .val (.ref az), .val (.ref ai), .val (.int (1 : Int32)), .val (.int (1 : Int32)), .val (.int (own_b0 xi))] [(.int (1 : Int32))])) _
        refine XS.iload X31.here hx rfl (hb hby d2_156) rfl ?_
        show Steps p.tables e below (T31.setTop (mkF m 158 #[.val (.ref a), .val (.ref ap), .val (.ref am), .val (.ref ai), .val (.ref az), .val (.ref ai), .val (.int (1 : Int32)), .val (.int (1 : Int32)), .val (.int (own_b0 xi))] [(.int (1 : Int32)), (.int (1 : Int32))])) _
        refine XS.icmpYes X31.here hx rfl (pc0 := 158) (pc' := 186) rfl (hb hby d2_158) rfl (flt (by decide : ¬ ((1 : Int32) < (1 : Int32)))).2.1 (by decide) (by decide) ?_
        exact kz
      exact ⟨T31, .val (.int (own_b0 xi)), ⟨(One.val rfl), _, h31, X31, N31, e31, Kp31, Aw31⟩, fun _ kz => kz⟩
    · skip
      replace Av_ai : Arv Z h26 ai ki .byte (2 : Int32) [(.int (own_b0 xi)), (.int (own_b1 xi))] (.int (0 : Int32)) := Av_ai
      refine own_via (A := T26.setTop (mkF m 165 #[.val (.ref a), .val (.ref ap), .val (.ref am), .val (.ref ai), .val (.ref az), .val (.ref ai), .val (.int (2 : Int32)), .val (.int (0 : Int32)), .unset] [(.int (0 : Int32)), (.ref ai)])) (fun _ kz => ?_) ?_
      · show Steps p.tables e below (T26.setTop (mkF m 154 #[.val (.ref a), .val (.ref ap), .val (.ref am), .val (.ref ai), .val (.ref az), .val (.ref ai), .val (.int (2 : Int32)), .val (.int (0 : Int32)), .unset] [])) _
        refine XS.iload X26.here hx rfl (hb hby d2_154) rfl ?_
        show Steps p.tables e below (T26.setTop (mkF m 156 #[.val (.ref a), .val (.ref ap), .val (.ref am), .val (.ref ai), .val (.ref az), .val (.ref ai), .val (.int (2 : Int32)), .val (.int (0 : Int32)), .unset] [(.int (0 : Int32))])) _
        refine XS.iload X26.here hx rfl (hb hby d2_156) rfl ?_
        show Steps p.tables e below (T26.setTop (mkF m 158 #[.val (.ref a), .val (.ref ap), .val (.ref am), .val (.ref ai), .val (.ref az), .val (.ref ai), .val (.int (2 : Int32)), .val (.int (0 : Int32)), .unset] [(.int (2 : Int32)), (.int (0 : Int32))])) _
        refine XS.icmpNo X26.here hx rfl (hb hby d2_158) rfl (tlt (by decide : ((0 : Int32) < (2 : Int32)))).2.1 ?_
        show Steps p.tables e below (T26.setTop (mkF m 161 #[.val (.ref a), .val (.ref ap), .val (.ref am), .val (.ref ai), .val (.ref az), .val (.ref ai), .val (.int (2 : Int32)), .val (.int (0 : Int32)), .unset] [])) _
        refine XS.aload X26.here hx rfl (hb hby d2_161) rfl rfl ?_
        show Steps p.tables e below (T26.setTop (mkF m 163 #[.val (.ref a), .val (.ref ap), .val (.ref am), .val (.ref ai), .val (.ref az), .val (.ref ai), .val (.int (2 : Int32)), .val (.int (0 : Int32)), .unset] [(.ref ai)])) _
        refine XS.iload X26.here hx rfl (hb hby d2_163) rfl ?_
        exact kz
      obtain ⟨cl32, Ar32, -, S32, M32, H32, -⟩ := id Av_ai
      have hin32 : ¬ ((0 : Int32) < 0 ∨ cl32.slots.size ≤ ((0 : Int32)).toNatClampNeg) := inb_of S32 ⟨by decide, by decide⟩
      have hat32 : cl32.slots[((0 : Int32)).toNatClampNeg]? = some (.int (own_b0 xi)) := H32.at hin32 rfl
      refine own_via (A := T26.setTop (mkF m 166 #[.val (.ref a), .val (.ref ap), .val (.ref am), .val (.ref ai), .val (.ref az), .val (.ref ai), .val (.int (2 : Int32)), .val (.int (0 : Int32)), .unset] [(.int (own_b0 xi))])) (fun _ kz => ?_) ?_
      · refine X26.baloadBytes hx (j := (0 : Int32)) (v := (.int (own_b0 xi))) (by rw [e26]; exact Ar32.1) (State.isArrayOf_alike hZ.alike Ar32.2.1) Ar32.2.2 hin32 hat32 (g := (mkF m 165 #[.val (.ref a), .val (.ref ap), .val (.ref am), .val (.ref ai), .val (.ref az), .val (.ref ai), .val (.int (2 : Int32)), .val (.int (0 : Int32)), .unset] [(.int (0 : Int32)), (.ref ai)])) rfl rfl (hb hby d2_165) _ ?_
        exact kz
      refine own_via (A := T26.setTop (mkF m 169 #[.val (.ref a), .val (.ref ap), .val (.ref am), .val (.ref ai), .val (.ref az), .val (.ref ai), .val (.int (2 : Int32)), .val (.int (0 : Int32)), .val (.int (own_b0 xi))] [(.ref a)])) (fun _ kz => ?_) ?_
      · show Steps p.tables e below (T26.setTop (mkF m 166 #[.val (.ref a), .val (.ref ap), .val (.ref am), .val (.ref ai), .val (.ref az), .val (.ref ai), .val (.int (2 : Int32)), .val (.int (0 : Int32)), .unset] [(.int (own_b0 xi))])) _
        refine XS.istore X26.here hx rfl (hb hby d2_166) rfl (l' := #[.val (.ref a), .val (.ref ap), .val (.ref am), .val (.ref ai), .val (.ref az), .val (.ref ai), .val (.int (2 : Int32)), .val (.int (0 : Int32)), .val (.int (own_b0 xi))]) rfl ?_
        show Steps p.tables e below (T26.setTop (mkF m 168 #[.val (.ref a), .val (.ref ap), .val (.ref am), .val (.ref ai), .val (.ref az), .val (.ref ai), .val (.int (2 : Int32)), .val (.int (0 : Int32)), .val (.int (own_b0 xi))] [])) _
        refine XS.aloadN X26.here hx rfl (hb hby d2_168) rfl rfl ?_
        exact kz
      obtain ⟨T33, X33, e33, st33⟩ := getF X26 hx hZ hown (host := "") (Or.inl (hw _ (List.mem_of_getElem? (i := 15) rfl))) Via.refl e26 F_ignored_a (g := (mkF m 169 #[.val (.ref a), .val (.ref ap), .val (.ref am), .val (.ref ai), .val (.ref az), .val (.ref ai), .val (.int (2 : Int32)), .val (.int (0 : Int32)), .val (.int (own_b0 xi))] [(.ref a)])) rfl rfl (hb hby d2_169)
      refine own_via (A := T33.setTop (mkF m 172 #[.val (.ref a), .val (.ref ap), .val (.ref am), .val (.ref ai), .val (.ref az), .val (.ref ai), .val (.int (2 : Int32)), .val (.int (0 : Int32)), .val (.int (own_b0 xi))] [(.ref b2)])) (fun _ kz => st33 _ kz) ?_
      refine own_via (A := T33.setTop (mkF m 179 #[.val (.ref a), .val (.ref ap), .val (.ref am), .val (.ref ai), .val (.ref az), .val (.ref ai), .val (.int (2 : Int32)), .val (.int (0 : Int32)), .val (.int (own_b0 xi))] [(.int (1 : Int32)), (.int ((own_b0 xi) &&& (255 : Int32))), (.ref b2)])) (fun _ kz => ?_) ?_
      · show Steps p.tables e below (T33.setTop (mkF m 172 #[.val (.ref a), .val (.ref ap), .val (.ref am), .val (.ref ai), .val (.ref az), .val (.ref ai), .val (.int (2 : Int32)), .val (.int (0 : Int32)), .val (.int (own_b0 xi))] [(.ref b2)])) _
        refine XS.iload X33.here hx rfl (hb hby d2_172) rfl ?_
        show Steps p.tables e below (T33.setTop (mkF m 174 #[.val (.ref a), .val (.ref ap), .val (.ref am), .val (.ref ai), .val (.ref az), .val (.ref ai), .val (.int (2 : Int32)), .val (.int (0 : Int32)), .val (.int (own_b0 xi))] [(.int (own_b0 xi)), (.ref b2)])) _
        refine XS.sipush X33.here hx rfl (hb hby d2_174) ?_
        show Steps p.tables e below (T33.setTop (mkF m 177 #[.val (.ref a), .val (.ref ap), .val (.ref am), .val (.ref ai), .val (.ref az), .val (.ref ai), .val (.int (2 : Int32)), .val (.int (0 : Int32)), .val (.int (own_b0 xi))] [(.int (255 : Int32)), (.int (own_b0 xi)), (.ref b2)])) _
        refine XS.iand X33.here hx rfl (hb hby d2_177) rfl ?_
        show Steps p.tables e below (T33.setTop (mkF m 178 #[.val (.ref a), .val (.ref ap), .val (.ref am), .val (.ref ai), .val (.ref az), .val (.ref ai), .val (.int (2 : Int32)), .val (.int (0 : Int32)), .val (.int (own_b0 xi))] [(.int ((own_b0 xi) &&& (255 : Int32))), (.ref b2)])) _
        refine XS.iconst X33.here hx rfl (hb hby d2_178) ?_
        exact kz
      obtain ⟨cl34, Ar34, q34, S34, M34, H34, G34⟩ := id Ah_b2
      have hin34 : ¬ (((own_b0 xi) &&& (255 : Int32)) < 0 ∨ cl34.slots.size ≤ (((own_b0 xi) &&& (255 : Int32))).toNatClampNeg) := inb_of S34 ⟨own_a0 _, own_a1 _⟩
      obtain ⟨T34, h34, X34, e34, W34, st34⟩ := stZ X33 hx hZ e33 Ar34 (j := ((own_b0 xi) &&& (255 : Int32))) hin34 (g := (mkF m 179 #[.val (.ref a), .val (.ref ap), .val (.ref am), .val (.ref ai), .val (.ref az), .val (.ref ai), .val (.int (2 : Int32)), .val (.int (0 : Int32)), .val (.int (own_b0 xi))] [(.int (1 : Int32)), (.int ((own_b0 xi) &&& (255 : Int32))), (.ref b2)])) rfl rfl (hb hby d2_179)
      have Aw34 := Arh.push (v := (.int (1 : Int32))) Ar34 q34 S34 M34 H34 G34 rfl W34 hin34
      replace Ex_a := Ex_a.wr W34
      replace F_ignored_a := F_ignored_a.other W34 (Or.inl ne_a_b2)
      replace F_terminators_a := F_terminators_a.other W34 (Or.inl ne_a_b2)
      replace F_pattern_a := F_pattern_a.other W34 (Or.inl ne_a_b2)
      replace F_mask_a := F_mask_a.other W34 (Or.inl ne_a_b2)
      replace F_ignoring_a := F_ignoring_a.other W34 (Or.inl ne_a_b2)
      replace F_terminated_a := F_terminated_a.other W34 (Or.inl ne_a_b2)
      replace Av_ap := Av_ap.other W34 ne_ap_b2
      replace Ex_ap := Ex_ap.wr W34
      replace Av_am := Av_am.other W34 ne_am_b2
      replace Ex_am := Ex_am.wr W34
      replace Av_ai := Av_ai.other W34 ne_ai_b2
      replace Av_az := Av_az.other W34 ne_az_b2
      replace Ah_b4 := Ah_b4.other W34 (Ne.symm ne_b2_b4)
      replace Av_b21 := Av_b21.other W34 (Ne.symm ne_b2_b21)
      replace Ex_b21 := Ex_b21.wr W34
      replace Av_b24 := Av_b24.other W34 (Ne.symm ne_b2_b24)
      replace Ex_b24 := Ex_b24.wr W34
      have Z34 : n0 ≤ h34.size := Nat.le_trans Z26 (Keep.of_wr W34).1
      have Kp34 : Keep h26 h34 [b2] := KpL.wr W34 (Or.inl (List.mem_of_getElem? (i := 0) rfl))
      have N34 := Fr.snoc X34 N26 g_b2
      refine own_via (A := T34.setTop (mkF m 180 #[.val (.ref a), .val (.ref ap), .val (.ref am), .val (.ref ai), .val (.ref az), .val (.ref ai), .val (.int (2 : Int32)), .val (.int (0 : Int32)), .val (.int (own_b0 xi))] [])) (fun _ kz => st34 _ kz) ?_
      refine own_via (A := T34.setTop (mkF m 154 #[.val (.ref a), .val (.ref ap), .val (.ref am), .val (.ref ai), .val (.ref az), .val (.ref ai), .val (.int (2 : Int32)), .val (.int (1 : Int32)), .val (.int (own_b0 xi))] [])) (fun _ kz => ?_) ?_
      · show Steps p.tables e below (T34.setTop (mkF m 180 #[.val (.ref a), .val (.ref ap), .val (.ref am), .val (.ref ai), .val (.ref az), .val (.ref ai), .val (.int (2 : Int32)), .val (.int (0 : Int32)), .val (.int (own_b0 xi))] [])) _
        refine XS.iinc X34.here hx rfl (hb hby d2_180) rfl (l' := #[.val (.ref a), .val (.ref ap), .val (.ref am), .val (.ref ai), .val (.ref az), .val (.ref ai), .val (.int (2 : Int32)), .val (.int (1 : Int32)), .val (.int (own_b0 xi))]) rfl ?_
        show Steps p.tables e below (T34.setTop (mkF m 183 #[.val (.ref a), .val (.ref ap), .val (.ref am), .val (.ref ai), .val (.ref az), .val (.ref ai), .val (.int (2 : Int32)), .val (.int (1 : Int32)), .val (.int (own_b0 xi))] [])) _
        refine XS.goto X34.here hx rfl (pc0 := 183) (pc' := 154) rfl (hb hby d2_183) (by decide) (by decide) ?_
        exact kz
      refine own_via (A := T34.setTop (mkF m 165 #[.val (.ref a), .val (.ref ap), .val (.ref am), .val (.ref ai), .val (.ref az), .val (.ref ai), .val (.int (2 : Int32)), .val (.int (1 : Int32)), .val (.int (own_b0 xi))] [(.int (1 : Int32)), (.ref ai)])) (fun _ kz => ?_) ?_
      · show Steps p.tables e below (T34.setTop (mkF m 154 #[.val (.ref a), .val (.ref ap), .val (.ref am), .val (.ref ai), .val (.ref az), .val (.ref ai), .val (.int (2 : Int32)), .val (.int (1 : Int32)), .val (.int (own_b0 xi))] [])) _
        refine XS.iload X34.here hx rfl (hb hby d2_154) rfl ?_
        show Steps p.tables e below (T34.setTop (mkF m 156 #[.val (.ref a), .val (.ref ap), .val (.ref am), .val (.ref ai), .val (.ref az), .val (.ref ai), .val (.int (2 : Int32)), .val (.int (1 : Int32)), .val (.int (own_b0 xi))] [(.int (1 : Int32))])) _
        refine XS.iload X34.here hx rfl (hb hby d2_156) rfl ?_
        show Steps p.tables e below (T34.setTop (mkF m 158 #[.val (.ref a), .val (.ref ap), .val (.ref am), .val (.ref ai), .val (.ref az), .val (.ref ai), .val (.int (2 : Int32)), .val (.int (1 : Int32)), .val (.int (own_b0 xi))] [(.int (2 : Int32)), (.int (1 : Int32))])) _
        refine XS.icmpNo X34.here hx rfl (hb hby d2_158) rfl (tlt (by decide : ((1 : Int32) < (2 : Int32)))).2.1 ?_
        show Steps p.tables e below (T34.setTop (mkF m 161 #[.val (.ref a), .val (.ref ap), .val (.ref am), .val (.ref ai), .val (.ref az), .val (.ref ai), .val (.int (2 : Int32)), .val (.int (1 : Int32)), .val (.int (own_b0 xi))] [])) _
        refine XS.aload X34.here hx rfl (hb hby d2_161) rfl rfl ?_
        show Steps p.tables e below (T34.setTop (mkF m 163 #[.val (.ref a), .val (.ref ap), .val (.ref am), .val (.ref ai), .val (.ref az), .val (.ref ai), .val (.int (2 : Int32)), .val (.int (1 : Int32)), .val (.int (own_b0 xi))] [(.ref ai)])) _
        refine XS.iload X34.here hx rfl (hb hby d2_163) rfl ?_
        exact kz
      obtain ⟨cl35, Ar35, -, S35, M35, H35, -⟩ := id Av_ai
      have hin35 : ¬ ((1 : Int32) < 0 ∨ cl35.slots.size ≤ ((1 : Int32)).toNatClampNeg) := inb_of S35 ⟨by decide, by decide⟩
      have hat35 : cl35.slots[((1 : Int32)).toNatClampNeg]? = some (.int (own_b1 xi)) := H35.at hin35 rfl
      refine own_via (A := T34.setTop (mkF m 166 #[.val (.ref a), .val (.ref ap), .val (.ref am), .val (.ref ai), .val (.ref az), .val (.ref ai), .val (.int (2 : Int32)), .val (.int (1 : Int32)), .val (.int (own_b0 xi))] [(.int (own_b1 xi))])) (fun _ kz => ?_) ?_
      · refine X34.baloadBytes hx (j := (1 : Int32)) (v := (.int (own_b1 xi))) (by rw [e34]; exact Ar35.1) (State.isArrayOf_alike hZ.alike Ar35.2.1) Ar35.2.2 hin35 hat35 (g := (mkF m 165 #[.val (.ref a), .val (.ref ap), .val (.ref am), .val (.ref ai), .val (.ref az), .val (.ref ai), .val (.int (2 : Int32)), .val (.int (1 : Int32)), .val (.int (own_b0 xi))] [(.int (1 : Int32)), (.ref ai)])) rfl rfl (hb hby d2_165) _ ?_
        exact kz
      refine own_via (A := T34.setTop (mkF m 169 #[.val (.ref a), .val (.ref ap), .val (.ref am), .val (.ref ai), .val (.ref az), .val (.ref ai), .val (.int (2 : Int32)), .val (.int (1 : Int32)), .val (.int (own_b1 xi))] [(.ref a)])) (fun _ kz => ?_) ?_
      · show Steps p.tables e below (T34.setTop (mkF m 166 #[.val (.ref a), .val (.ref ap), .val (.ref am), .val (.ref ai), .val (.ref az), .val (.ref ai), .val (.int (2 : Int32)), .val (.int (1 : Int32)), .val (.int (own_b0 xi))] [(.int (own_b1 xi))])) _
        refine XS.istore X34.here hx rfl (hb hby d2_166) rfl (l' := #[.val (.ref a), .val (.ref ap), .val (.ref am), .val (.ref ai), .val (.ref az), .val (.ref ai), .val (.int (2 : Int32)), .val (.int (1 : Int32)), .val (.int (own_b1 xi))]) rfl ?_
        show Steps p.tables e below (T34.setTop (mkF m 168 #[.val (.ref a), .val (.ref ap), .val (.ref am), .val (.ref ai), .val (.ref az), .val (.ref ai), .val (.int (2 : Int32)), .val (.int (1 : Int32)), .val (.int (own_b1 xi))] [])) _
        refine XS.aloadN X34.here hx rfl (hb hby d2_168) rfl rfl ?_
        exact kz
      obtain ⟨T36, X36, e36, st36⟩ := getF X34 hx hZ hown (host := "") (Or.inl (hw _ (List.mem_of_getElem? (i := 15) rfl))) Via.refl e34 F_ignored_a (g := (mkF m 169 #[.val (.ref a), .val (.ref ap), .val (.ref am), .val (.ref ai), .val (.ref az), .val (.ref ai), .val (.int (2 : Int32)), .val (.int (1 : Int32)), .val (.int (own_b1 xi))] [(.ref a)])) rfl rfl (hb hby d2_169)
      refine own_via (A := T36.setTop (mkF m 172 #[.val (.ref a), .val (.ref ap), .val (.ref am), .val (.ref ai), .val (.ref az), .val (.ref ai), .val (.int (2 : Int32)), .val (.int (1 : Int32)), .val (.int (own_b1 xi))] [(.ref b2)])) (fun _ kz => st36 _ kz) ?_
      refine own_via (A := T36.setTop (mkF m 179 #[.val (.ref a), .val (.ref ap), .val (.ref am), .val (.ref ai), .val (.ref az), .val (.ref ai), .val (.int (2 : Int32)), .val (.int (1 : Int32)), .val (.int (own_b1 xi))] [(.int (1 : Int32)), (.int ((own_b1 xi) &&& (255 : Int32))), (.ref b2)])) (fun _ kz => ?_) ?_
      · show Steps p.tables e below (T36.setTop (mkF m 172 #[.val (.ref a), .val (.ref ap), .val (.ref am), .val (.ref ai), .val (.ref az), .val (.ref ai), .val (.int (2 : Int32)), .val (.int (1 : Int32)), .val (.int (own_b1 xi))] [(.ref b2)])) _
        refine XS.iload X36.here hx rfl (hb hby d2_172) rfl ?_
        show Steps p.tables e below (T36.setTop (mkF m 174 #[.val (.ref a), .val (.ref ap), .val (.ref am), .val (.ref ai), .val (.ref az), .val (.ref ai), .val (.int (2 : Int32)), .val (.int (1 : Int32)), .val (.int (own_b1 xi))] [(.int (own_b1 xi)), (.ref b2)])) _
        refine XS.sipush X36.here hx rfl (hb hby d2_174) ?_
        show Steps p.tables e below (T36.setTop (mkF m 177 #[.val (.ref a), .val (.ref ap), .val (.ref am), .val (.ref ai), .val (.ref az), .val (.ref ai), .val (.int (2 : Int32)), .val (.int (1 : Int32)), .val (.int (own_b1 xi))] [(.int (255 : Int32)), (.int (own_b1 xi)), (.ref b2)])) _
        refine XS.iand X36.here hx rfl (hb hby d2_177) rfl ?_
        show Steps p.tables e below (T36.setTop (mkF m 178 #[.val (.ref a), .val (.ref ap), .val (.ref am), .val (.ref ai), .val (.ref az), .val (.ref ai), .val (.int (2 : Int32)), .val (.int (1 : Int32)), .val (.int (own_b1 xi))] [(.int ((own_b1 xi) &&& (255 : Int32))), (.ref b2)])) _
        refine XS.iconst X36.here hx rfl (hb hby d2_178) ?_
        exact kz
      obtain ⟨cl37, Ar37, q37, S37, M37, H37, G37⟩ := id Aw34
      have hin37 : ¬ (((own_b1 xi) &&& (255 : Int32)) < 0 ∨ cl37.slots.size ≤ (((own_b1 xi) &&& (255 : Int32))).toNatClampNeg) := inb_of S37 ⟨own_a0 _, own_a1 _⟩
      obtain ⟨T37, h37, X37, e37, W37, st37⟩ := stZ X36 hx hZ e36 Ar37 (j := ((own_b1 xi) &&& (255 : Int32))) hin37 (g := (mkF m 179 #[.val (.ref a), .val (.ref ap), .val (.ref am), .val (.ref ai), .val (.ref az), .val (.ref ai), .val (.int (2 : Int32)), .val (.int (1 : Int32)), .val (.int (own_b1 xi))] [(.int (1 : Int32)), (.int ((own_b1 xi) &&& (255 : Int32))), (.ref b2)])) rfl rfl (hb hby d2_179)
      have Aw37 := Arh.push (v := (.int (1 : Int32))) Ar37 q37 S37 M37 H37 G37 rfl W37 hin37
      replace Ex_a := Ex_a.wr W37
      replace F_ignored_a := F_ignored_a.other W37 (Or.inl ne_a_b2)
      replace F_terminators_a := F_terminators_a.other W37 (Or.inl ne_a_b2)
      replace F_pattern_a := F_pattern_a.other W37 (Or.inl ne_a_b2)
      replace F_mask_a := F_mask_a.other W37 (Or.inl ne_a_b2)
      replace F_ignoring_a := F_ignoring_a.other W37 (Or.inl ne_a_b2)
      replace F_terminated_a := F_terminated_a.other W37 (Or.inl ne_a_b2)
      replace Av_ap := Av_ap.other W37 ne_ap_b2
      replace Ex_ap := Ex_ap.wr W37
      replace Av_am := Av_am.other W37 ne_am_b2
      replace Ex_am := Ex_am.wr W37
      replace Av_ai := Av_ai.other W37 ne_ai_b2
      replace Av_az := Av_az.other W37 ne_az_b2
      replace Ah_b4 := Ah_b4.other W37 (Ne.symm ne_b2_b4)
      replace Av_b21 := Av_b21.other W37 (Ne.symm ne_b2_b21)
      replace Ex_b21 := Ex_b21.wr W37
      replace Av_b24 := Av_b24.other W37 (Ne.symm ne_b2_b24)
      replace Ex_b24 := Ex_b24.wr W37
      have Z37 : n0 ≤ h37.size := Nat.le_trans Z34 (Keep.of_wr W37).1
      have Kp37 : Keep h26 h37 [b2] := Kp34.wr W37 (Or.inl (List.mem_of_getElem? (i := 0) rfl))
      have N37 := Fr.snoc X37 N34 g_b2
      refine own_via (A := T37.setTop (mkF m 180 #[.val (.ref a), .val (.ref ap), .val (.ref am), .val (.ref ai), .val (.ref az), .val (.ref ai), .val (.int (2 : Int32)), .val (.int (1 : Int32)), .val (.int (own_b1 xi))] [])) (fun _ kz => st37 _ kz) ?_
      refine own_via (A := T37.setTop (mkF m 154 #[.val (.ref a), .val (.ref ap), .val (.ref am), .val (.ref ai), .val (.ref az), .val (.ref ai), .val (.int (2 : Int32)), .val (.int (2 : Int32)), .val (.int (own_b1 xi))] [])) (fun _ kz => ?_) ?_
      · show Steps p.tables e below (T37.setTop (mkF m 180 #[.val (.ref a), .val (.ref ap), .val (.ref am), .val (.ref ai), .val (.ref az), .val (.ref ai), .val (.int (2 : Int32)), .val (.int (1 : Int32)), .val (.int (own_b1 xi))] [])) _
        refine XS.iinc X37.here hx rfl (hb hby d2_180) rfl (l' := #[.val (.ref a), .val (.ref ap), .val (.ref am), .val (.ref ai), .val (.ref az), .val (.ref ai), .val (.int (2 : Int32)), .val (.int (2 : Int32)), .val (.int (own_b1 xi))]) rfl ?_
        show Steps p.tables e below (T37.setTop (mkF m 183 #[.val (.ref a), .val (.ref ap), .val (.ref am), .val (.ref ai), .val (.ref az), .val (.ref ai), .val (.int (2 : Int32)), .val (.int (2 : Int32)), .val (.int (own_b1 xi))] [])) _
        refine XS.goto X37.here hx rfl (pc0 := 183) (pc' := 154) rfl (hb hby d2_183) (by decide) (by decide) ?_
        exact kz
      refine own_via (A := T37.setTop (mkF m 186 #[.val (.ref a), .val (.ref ap), .val (.ref am), .val (.ref ai), .val (.ref az), .val (.ref ai), .val (.int (2 : Int32)), .val (.int (2 : Int32)), .val (.int (own_b1 xi))] [])) (fun _ kz => ?_) ?_
      · show Steps p.tables e below (T37.setTop (mkF m 154 #[.val (.ref a), .val (.ref ap), .val (.ref am), .val (.ref ai), .val (.ref az), .val (.ref ai), .val (.int (2 : Int32)), .val (.int (2 : Int32)), .val (.int (own_b1 xi))] [])) _
        refine XS.iload X37.here hx rfl (hb hby d2_154) rfl ?_
        show Steps p.tables e below (T37.setTop (mkF m 156 #[.val (.ref a), .val (.ref ap), .val (.ref am), .val (.ref ai), .val (.ref az), .val (.ref ai), .val (.int (2 : Int32)), .val (.int (2 : Int32)), .val (.int (own_b1 xi))] [(.int (2 : Int32))])) _
        refine XS.iload X37.here hx rfl (hb hby d2_156) rfl ?_
        show Steps p.tables e below (T37.setTop (mkF m 158 #[.val (.ref a), .val (.ref ap), .val (.ref am), .val (.ref ai), .val (.ref az), .val (.ref ai), .val (.int (2 : Int32)), .val (.int (2 : Int32)), .val (.int (own_b1 xi))] [(.int (2 : Int32)), (.int (2 : Int32))])) _
        refine XS.icmpYes X37.here hx rfl (pc0 := 158) (pc' := 186) rfl (hb hby d2_158) rfl (flt (by decide : ¬ ((2 : Int32) < (2 : Int32)))).2.1 (by decide) (by decide) ?_
        exact kz
      exact ⟨T37, .val (.int (own_b1 xi)), ⟨(One.val rfl), _, h37, X37, N37, e37, Kp37, Aw37⟩, fun _ kz => kz⟩
  refine own_go (A := T28.setTop (mkF m 186 #[.val (.ref a), .val (.ref ap), .val (.ref am), .val (.ref ai), .val (.ref az), .val (.ref ai), .val (.int ni), .val (.int ni), s8] [])) (fun _ kz => st28 _ kz) ?_
  have eK28 : T28.heap = h28 := e28
  subst e28
  replace Ex_a := Ex_a.keep K28
  replace F_ignored_a := F_ignored_a.keep K28 (ninS ne_a_b2 nin0)
  replace F_terminators_a := F_terminators_a.keep K28 (ninS ne_a_b2 nin0)
  replace F_pattern_a := F_pattern_a.keep K28 (ninS ne_a_b2 nin0)
  replace F_mask_a := F_mask_a.keep K28 (ninS ne_a_b2 nin0)
  replace F_ignoring_a := F_ignoring_a.keep K28 (ninS ne_a_b2 nin0)
  replace F_terminated_a := F_terminated_a.keep K28 (ninS ne_a_b2 nin0)
  replace Av_ap := Av_ap.keep K28 (ninS ne_ap_b2 nin0)
  replace Ex_ap := Ex_ap.keep K28
  replace Av_am := Av_am.keep K28 (ninS ne_am_b2 nin0)
  replace Ex_am := Ex_am.keep K28
  replace Av_ai := Av_ai.keep K28 (ninS ne_ai_b2 nin0)
  replace Av_az := Av_az.keep K28 (ninS ne_az_b2 nin0)
  replace Ah_b4 := Ah_b4.keep K28 (ninS (Ne.symm ne_b2_b4) nin0)
  replace Av_b21 := Av_b21.keep K28 (ninS (Ne.symm ne_b2_b21) nin0)
  replace Ex_b21 := Ex_b21.keep K28
  replace Av_b24 := Av_b24.keep K28 (ninS (Ne.symm ne_b2_b24) nin0)
  replace Ex_b24 := Ex_b24.keep K28
  have Z28 : n0 ≤ T28.heap.size := Nat.le_trans Z26 K28.1
  have Kp28 : Keep h0 T28.heap [a] := Kp26.trans K28 (allS (Or.inr szk_b2) (all0))
  refine own_go (A := T28.setTop (mkF m 188 #[.val (.ref a), .val (.ref ap), .val (.ref am), .val (.ref ai), .val (.ref az), .val (.ref ai), .val (.int ni), .val (.int ni), s8] [(.ref ai), (.ref a)])) (fun _ kz => ?_) ?_
  · show Steps p.tables e below (T28.setTop (mkF m 186 #[.val (.ref a), .val (.ref ap), .val (.ref am), .val (.ref ai), .val (.ref az), .val (.ref ai), .val (.int ni), .val (.int ni), s8] [])) _
    refine XS.aloadN X28.here hx rfl (hb hby d2_186) rfl rfl ?_
    show Steps p.tables e below (T28.setTop (mkF m 187 #[.val (.ref a), .val (.ref ap), .val (.ref am), .val (.ref ai), .val (.ref az), .val (.ref ai), .val (.int ni), .val (.int ni), s8] [(.ref a)])) _
    refine XS.aloadN X28.here hx rfl (hb hby d2_187) rfl rfl ?_
    exact kz
  obtain ⟨cl38, Ar38, -, S38, M38, -, -⟩ := id Av_ai
  refine own_go (A := T28.setTop (mkF m 189 #[.val (.ref a), .val (.ref ap), .val (.ref am), .val (.ref ai), .val (.ref az), .val (.ref ai), .val (.int ni), .val (.int ni), s8] [(.int ni), (.ref a)])) (fun _ kz => ?_) ?_
  · refine X28.arraylength hx Ar38.1 (State.isArrayOf_alike hZ.alike Ar38.2.1) (g := (mkF m 188 #[.val (.ref a), .val (.ref ap), .val (.ref am), .val (.ref ai), .val (.ref az), .val (.ref ai), .val (.int ni), .val (.int ni), s8] [(.ref ai), (.ref a)])) rfl rfl (hb hby d2_188) _ ?_
    rw [len_of S38 M38]
    exact kz
  obtain ⟨ig, hig⟩ : ∃ z, z = (if (0 : Int32) < ni then (1 : Int32) else (0 : Int32)) := ⟨_, rfl⟩
  refine own_go (A := T28.setTop (mkF m 197 #[.val (.ref a), .val (.ref ap), .val (.ref am), .val (.ref ai), .val (.ref az), .val (.ref ai), .val (.int ni), .val (.int ni), s8] [(.int ig), (.ref a)])) (fun _ kz => ?_) ?_
  · show Steps p.tables e below (T28.setTop (mkF m 189 #[.val (.ref a), .val (.ref ap), .val (.ref am), .val (.ref ai), .val (.ref az), .val (.ref ai), .val (.int ni), .val (.int ni), s8] [(.int ni), (.ref a)])) _
    by_cases hc189 : (0 : Int32) < ni
    · rw [hig, if_pos hc189] at kz
      refine XS.ifNo X28.here hx rfl (hb hby d2_189) rfl ((if0 _ _).trans (tlt hc189).2.2.2) ?_
      show Steps p.tables e below (T28.setTop (mkF m 192 #[.val (.ref a), .val (.ref ap), .val (.ref am), .val (.ref ai), .val (.ref az), .val (.ref ai), .val (.int ni), .val (.int ni), s8] [(.ref a)])) _
      refine XS.iconst X28.here hx rfl (hb hby d2_192) ?_
      show Steps p.tables e below (T28.setTop (mkF m 193 #[.val (.ref a), .val (.ref ap), .val (.ref am), .val (.ref ai), .val (.ref az), .val (.ref ai), .val (.int ni), .val (.int ni), s8] [(.int (1 : Int32)), (.ref a)])) _
      refine XS.goto X28.here hx rfl (pc0 := 193) (pc' := 197) rfl (hb hby d2_193) (by decide) (by decide) ?_
      exact kz
    · rw [hig, if_neg hc189] at kz
      refine XS.ifYes X28.here hx rfl (pc0 := 189) (pc' := 196) rfl (hb hby d2_189) rfl ((if0 _ _).trans (flt hc189).2.2.2) (by decide) (by decide) ?_
      show Steps p.tables e below (T28.setTop (mkF m 196 #[.val (.ref a), .val (.ref ap), .val (.ref am), .val (.ref ai), .val (.ref az), .val (.ref ai), .val (.int ni), .val (.int ni), s8] [(.ref a)])) _
      refine XS.iconst X28.here hx rfl (hb hby d2_196) ?_
      exact kz
  obtain ⟨T39, h39, X39, e39, W39, st39⟩ := putFN X28 hx hZ hown (hw _ (List.mem_of_getElem? (i := 32) rfl)) Via.refl rfl F_ignoring_a Ex_a (Or.inr ⟨(hw _ (List.mem_of_getElem? (i := 33) rfl)), rfl, hnm⟩) (hw _ (List.mem_of_getElem? (i := 6) rfl)) (ty := .boolean) (v' := (.int (nar .boolean ig))) (by decide) rfl (by first | exact fits_nar_bool _ | decide) (g := (mkF m 197 #[.val (.ref a), .val (.ref ap), .val (.ref am), .val (.ref ai), .val (.ref az), .val (.ref ai), .val (.int ni), .val (.int ni), s8] [(.int ig), (.ref a)])) rfl rfl (hb hby d2_197)
  have Fw39 := F_ignoring_a.same W39
  replace Ex_a := Ex_a.wr W39
  replace F_ignored_a := F_ignored_a.other W39 (Or.inr (slot_ne (Or.inr (hw _ (List.mem_of_getElem? (i := 16) rfl))) (Or.inr (hw _ (List.mem_of_getElem? (i := 33) rfl))) (by decide) (t := (.array .boolean)) (t' := .boolean) (by decide) (by decide)))
  replace F_terminators_a := F_terminators_a.other W39 (Or.inr (slot_ne (Or.inr (hw _ (List.mem_of_getElem? (i := 18) rfl))) (Or.inr (hw _ (List.mem_of_getElem? (i := 33) rfl))) (by decide) (t := (.array .boolean)) (t' := .boolean) (by decide) (by decide)))
  replace F_pattern_a := F_pattern_a.other W39 (Or.inr (slot_ne (Or.inr (hw _ (List.mem_of_getElem? (i := 29) rfl))) (Or.inr (hw _ (List.mem_of_getElem? (i := 33) rfl))) (by decide) (t := (.array .byte)) (t' := .boolean) (by decide) (by decide)))
  replace F_mask_a := F_mask_a.other W39 (Or.inr (slot_ne (Or.inr (hw _ (List.mem_of_getElem? (i := 31) rfl))) (Or.inr (hw _ (List.mem_of_getElem? (i := 33) rfl))) (by decide) (t := (.array .byte)) (t' := .boolean) (by decide) (by decide)))
  replace F_terminated_a := F_terminated_a.other W39 (Or.inr (slot_ne (Or.inr (hw _ (List.mem_of_getElem? (i := 35) rfl))) (Or.inr (hw _ (List.mem_of_getElem? (i := 33) rfl))) (by decide) (t := .boolean) (t' := .boolean) (by decide) (by decide)))
  replace Av_ap := Av_ap.other W39 ne_ap_a
  replace Ex_ap := Ex_ap.wr W39
  replace Av_am := Av_am.other W39 ne_am_a
  replace Ex_am := Ex_am.wr W39
  replace Av_ai := Av_ai.other W39 ne_ai_a
  replace Av_az := Av_az.other W39 ne_az_a
  replace Ah_b4 := Ah_b4.other W39 (Ne.symm ne_a_b4)
  replace Av_b21 := Av_b21.other W39 (Ne.symm ne_a_b21)
  replace Ex_b21 := Ex_b21.wr W39
  replace Av_b24 := Av_b24.other W39 (Ne.symm ne_a_b24)
  replace Ex_b24 := Ex_b24.wr W39
  replace Ah28 := Ah28.other W39 (Ne.symm ne_a_b2)
  have Z39 : n0 ≤ h39.size := Nat.le_trans Z28 (Keep.of_wr W39).1
  have Kp39 : Keep h0 h39 [a] := Kp28.wr W39 (Or.inl (List.mem_of_getElem? (i := 0) rfl))
  have F_ignoring_a := Fw39
  have N39 := Fr.snoc X39 N28 g_a
  refine own_go (A := T39.setTop (mkF m 200 #[.val (.ref a), .val (.ref ap), .val (.ref am), .val (.ref ai), .val (.ref az), .val (.ref ai), .val (.int ni), .val (.int ni), s8] [])) (fun _ kz => st39 _ kz) ?_
  refine own_go (A := T39.setTop (mkF m 206 #[.val (.ref a), .val (.ref ap), .val (.ref am), .val (.ref ai), .val (.ref az), .val (.ref az), .val (.int ni), .val (.int ni), s8] [(.ref az)])) (fun _ kz => ?_) ?_
  · show Steps p.tables e below (T39.setTop (mkF m 200 #[.val (.ref a), .val (.ref ap), .val (.ref am), .val (.ref ai), .val (.ref az), .val (.ref ai), .val (.int ni), .val (.int ni), s8] [])) _
    refine XS.aload X39.here hx rfl (hb hby d2_200) rfl rfl ?_
    show Steps p.tables e below (T39.setTop (mkF m 202 #[.val (.ref a), .val (.ref ap), .val (.ref am), .val (.ref ai), .val (.ref az), .val (.ref ai), .val (.int ni), .val (.int ni), s8] [(.ref az)])) _
    refine XS.astore X39.here hx rfl (hb hby d2_202) rfl rfl (l' := #[.val (.ref a), .val (.ref ap), .val (.ref am), .val (.ref ai), .val (.ref az), .val (.ref az), .val (.int ni), .val (.int ni), s8]) rfl ?_
    show Steps p.tables e below (T39.setTop (mkF m 204 #[.val (.ref a), .val (.ref ap), .val (.ref am), .val (.ref ai), .val (.ref az), .val (.ref az), .val (.int ni), .val (.int ni), s8] [])) _
    refine XS.aload X39.here hx rfl (hb hby d2_204) rfl rfl ?_
    exact kz
  obtain ⟨cl40, Ar40, -, S40, M40, -, -⟩ := id Av_az
  refine own_go (A := T39.setTop (mkF m 207 #[.val (.ref a), .val (.ref ap), .val (.ref am), .val (.ref ai), .val (.ref az), .val (.ref az), .val (.int ni), .val (.int ni), s8] [(.int nt)])) (fun _ kz => ?_) ?_
  · refine X39.arraylength hx (by rw [e39]; exact Ar40.1) (State.isArrayOf_alike hZ.alike Ar40.2.1) (g := (mkF m 206 #[.val (.ref a), .val (.ref ap), .val (.ref am), .val (.ref ai), .val (.ref az), .val (.ref az), .val (.int ni), .val (.int ni), s8] [(.ref az)])) rfl rfl (hb hby d2_206) _ ?_
    rw [len_of S40 M40]
    exact kz
  refine own_go (A := T39.setTop (mkF m 212 #[.val (.ref a), .val (.ref ap), .val (.ref am), .val (.ref ai), .val (.ref az), .val (.ref az), .val (.int nt), .val (.int (0 : Int32)), s8] [])) (fun _ kz => ?_) ?_
  · show Steps p.tables e below (T39.setTop (mkF m 207 #[.val (.ref a), .val (.ref ap), .val (.ref am), .val (.ref ai), .val (.ref az), .val (.ref az), .val (.int ni), .val (.int ni), s8] [(.int nt)])) _
    refine XS.istore X39.here hx rfl (hb hby d2_207) rfl (l' := #[.val (.ref a), .val (.ref ap), .val (.ref am), .val (.ref ai), .val (.ref az), .val (.ref az), .val (.int nt), .val (.int ni), s8]) rfl ?_
    show Steps p.tables e below (T39.setTop (mkF m 209 #[.val (.ref a), .val (.ref ap), .val (.ref am), .val (.ref ai), .val (.ref az), .val (.ref az), .val (.int nt), .val (.int ni), s8] [])) _
    refine XS.iconst X39.here hx rfl (hb hby d2_209) ?_
    show Steps p.tables e below (T39.setTop (mkF m 210 #[.val (.ref a), .val (.ref ap), .val (.ref am), .val (.ref ai), .val (.ref az), .val (.ref az), .val (.int nt), .val (.int ni), s8] [(.int (0 : Int32))])) _
    refine XS.istore X39.here hx rfl (hb hby d2_210) rfl (l' := #[.val (.ref a), .val (.ref ap), .val (.ref am), .val (.ref ai), .val (.ref az), .val (.ref az), .val (.int nt), .val (.int (0 : Int32)), s8]) rfl ?_
    exact kz
  obtain ⟨T41, s8b, ⟨hs8b, L41, h41, X41, N41, e41, K41, Ah41⟩, st41⟩ : ∃ (T' : State) (s8b : Slot), (One s8b ∧ ∃ L' h', Stand p l e ({ frames := 1, cells := 4, slots := 516, locals := 15 } : Room) s m #[(.ref a), (.ref ap), (.ref am), (.ref ai), (.ref az)] below meth c T' L' 4 516 ∧ Fr n0 L' ∧ T'.heap = h' ∧ Keep h39 h' [b4] ∧ Arh Z h' b4 k4 .boolean (256 : Int32) (own_hs nt xt) [] (.int (0 : Int32))) ∧ ∀ t, Steps p.tables e below (T'.setTop (mkF m 244 #[.val (.ref a), .val (.ref ap), .val (.ref am), .val (.ref ai), .val (.ref az), .val (.ref az), .val (.int nt), .val (.int nt), s8b] [])) t → Steps p.tables e below (T39.setTop (mkF m 212 #[.val (.ref a), .val (.ref ap), .val (.ref am), .val (.ref ai), .val (.ref az), .val (.ref az), .val (.int nt), .val (.int (0 : Int32)), s8] [])) t := by
    have KpL : Keep h39 h39 [b4] := Keep.refl _ _
    rcases hnt with rfl | rfl | rfl
    · skip
      replace Av_az : Arv Z h39 az kz .byte (0 : Int32) [] (.int (0 : Int32)) := Av_az
      refine own_via (A := T39.setTop (mkF m 244 #[.val (.ref a), .val (.ref ap), .val (.ref am), .val (.ref ai), .val (.ref az), .val (.ref az), .val (.int (0 : Int32)), .val (.int (0 : Int32)), s8] [])) (fun _ kz => ?_) ?_
      · show Steps p.tables e below (T39.setTop (mkF m 212 #[.val (.ref a), .val (.ref ap), .val (.ref am), .val (.ref ai), .val (.ref az), .val (.ref az), .val (.int (0 : Int32)), .val (.int (0 : Int32)), s8] [])) _
        refine XS.iload X39.here hx rfl (hb hby d2_212) rfl ?_
        show Steps p.tables e below (T39.setTop (mkF m 214 #[.val (.ref a), .val (.ref ap), .val (.ref am), .val (.ref ai), .val (.ref az), .val (.ref az), .val (.int (0 : Int32)), .val (.int (0 : Int32)), s8] [(.int (0 : Int32))])) _
        refine XS.iload X39.here hx rfl (hb hby d2_214) rfl ?_
        show Steps p.tables e below (T39.setTop (mkF m 216 #[.val (.ref a), .val (.ref ap), .val (.ref am), .val (.ref ai), .val (.ref az), .val (.ref az), .val (.int (0 : Int32)), .val (.int (0 : Int32)), s8] [(.int (0 : Int32)), (.int (0 : Int32))])) _
        refine XS.icmpYes X39.here hx rfl (pc0 := 216) (pc' := 244) rfl (hb hby d2_216) rfl (flt (by decide : ¬ ((0 : Int32) < (0 : Int32)))).2.1 (by decide) (by decide) ?_
        exact kz
      exact ⟨T39, s8, ⟨hs8, _, h39, X39, N39, e39, KpL, Ah_b4⟩, fun _ kz => kz⟩
    · skip
      replace Av_az : Arv Z h39 az kz .byte (1 : Int32) [(.int (own_b0 xt))] (.int (0 : Int32)) := Av_az
      refine own_via (A := T39.setTop (mkF m 223 #[.val (.ref a), .val (.ref ap), .val (.ref am), .val (.ref ai), .val (.ref az), .val (.ref az), .val (.int (1 : Int32)), .val (.int (0 : Int32)), s8] [(.int (0 : Int32)), (.ref az)])) (fun _ kz => ?_) ?_
      · show Steps p.tables e below (T39.setTop (mkF m 212 #[.val (.ref a), .val (.ref ap), .val (.ref am), .val (.ref ai), .val (.ref az), .val (.ref az), .val (.int (1 : Int32)), .val (.int (0 : Int32)), s8] [])) _
        refine XS.iload X39.here hx rfl (hb hby d2_212) rfl ?_
        show Steps p.tables e below (T39.setTop (mkF m 214 #[.val (.ref a), .val (.ref ap), .val (.ref am), .val (.ref ai), .val (.ref az), .val (.ref az), .val (.int (1 : Int32)), .val (.int (0 : Int32)), s8] [(.int (0 : Int32))])) _
        refine XS.iload X39.here hx rfl (hb hby d2_214) rfl ?_
        show Steps p.tables e below (T39.setTop (mkF m 216 #[.val (.ref a), .val (.ref ap), .val (.ref am), .val (.ref ai), .val (.ref az), .val (.ref az), .val (.int (1 : Int32)), .val (.int (0 : Int32)), s8] [(.int (1 : Int32)), (.int (0 : Int32))])) _
        refine XS.icmpNo X39.here hx rfl (hb hby d2_216) rfl (tlt (by decide : ((0 : Int32) < (1 : Int32)))).2.1 ?_
        show Steps p.tables e below (T39.setTop (mkF m 219 #[.val (.ref a), .val (.ref ap), .val (.ref am), .val (.ref ai), .val (.ref az), .val (.ref az), .val (.int (1 : Int32)), .val (.int (0 : Int32)), s8] [])) _
        refine XS.aload X39.here hx rfl (hb hby d2_219) rfl rfl ?_
        show Steps p.tables e below (T39.setTop (mkF m 221 #[.val (.ref a), .val (.ref ap), .val (.ref am), .val (.ref ai), .val (.ref az), .val (.ref az), .val (.int (1 : Int32)), .val (.int (0 : Int32)), s8] [(.ref az)])) _
        refine XS.iload X39.here hx rfl (hb hby d2_221) rfl ?_
        exact kz
      obtain ⟨cl42, Ar42, -, S42, M42, H42, -⟩ := id Av_az
      have hin42 : ¬ ((0 : Int32) < 0 ∨ cl42.slots.size ≤ ((0 : Int32)).toNatClampNeg) := inb_of S42 ⟨by decide, by decide⟩
      have hat42 : cl42.slots[((0 : Int32)).toNatClampNeg]? = some (.int (own_b0 xt)) := H42.at hin42 rfl
      refine own_via (A := T39.setTop (mkF m 224 #[.val (.ref a), .val (.ref ap), .val (.ref am), .val (.ref ai), .val (.ref az), .val (.ref az), .val (.int (1 : Int32)), .val (.int (0 : Int32)), s8] [(.int (own_b0 xt))])) (fun _ kz => ?_) ?_
      · refine X39.baloadBytes hx (j := (0 : Int32)) (v := (.int (own_b0 xt))) (by rw [e39]; exact Ar42.1) (State.isArrayOf_alike hZ.alike Ar42.2.1) Ar42.2.2 hin42 hat42 (g := (mkF m 223 #[.val (.ref a), .val (.ref ap), .val (.ref am), .val (.ref ai), .val (.ref az), .val (.ref az), .val (.int (1 : Int32)), .val (.int (0 : Int32)), s8] [(.int (0 : Int32)), (.ref az)])) rfl rfl (hb hby d2_223) _ ?_
        exact kz
      refine own_via (A := T39.setTop (mkF m 227 #[.val (.ref a), .val (.ref ap), .val (.ref am), .val (.ref ai), .val (.ref az), .val (.ref az), .val (.int (1 : Int32)), .val (.int (0 : Int32)), .val (.int (own_b0 xt))] [(.ref a)])) (fun _ kz => ?_) ?_
      · show Steps p.tables e below (T39.setTop (mkF m 224 #[.val (.ref a), .val (.ref ap), .val (.ref am), .val (.ref ai), .val (.ref az), .val (.ref az), .val (.int (1 : Int32)), .val (.int (0 : Int32)), s8] [(.int (own_b0 xt))])) _
        refine XS.istoreS X39.here hx rfl (hb hby d2_224) rfl rfl hs8 ?_
        show Steps p.tables e below (T39.setTop (mkF m 226 #[.val (.ref a), .val (.ref ap), .val (.ref am), .val (.ref ai), .val (.ref az), .val (.ref az), .val (.int (1 : Int32)), .val (.int (0 : Int32)), .val (.int (own_b0 xt))] [])) _
        refine XS.aloadN X39.here hx rfl (hb hby d2_226) rfl rfl ?_
        exact kz
      obtain ⟨T43, X43, e43, st43⟩ := getF X39 hx hZ hown (host := "") (Or.inl (hw _ (List.mem_of_getElem? (i := 17) rfl))) Via.refl e39 F_terminators_a (g := (mkF m 227 #[.val (.ref a), .val (.ref ap), .val (.ref am), .val (.ref ai), .val (.ref az), .val (.ref az), .val (.int (1 : Int32)), .val (.int (0 : Int32)), .val (.int (own_b0 xt))] [(.ref a)])) rfl rfl (hb hby d2_227)
      refine own_via (A := T43.setTop (mkF m 230 #[.val (.ref a), .val (.ref ap), .val (.ref am), .val (.ref ai), .val (.ref az), .val (.ref az), .val (.int (1 : Int32)), .val (.int (0 : Int32)), .val (.int (own_b0 xt))] [(.ref b4)])) (fun _ kz => st43 _ kz) ?_
      refine own_via (A := T43.setTop (mkF m 237 #[.val (.ref a), .val (.ref ap), .val (.ref am), .val (.ref ai), .val (.ref az), .val (.ref az), .val (.int (1 : Int32)), .val (.int (0 : Int32)), .val (.int (own_b0 xt))] [(.int (1 : Int32)), (.int ((own_b0 xt) &&& (255 : Int32))), (.ref b4)])) (fun _ kz => ?_) ?_
      · show Steps p.tables e below (T43.setTop (mkF m 230 #[.val (.ref a), .val (.ref ap), .val (.ref am), .val (.ref ai), .val (.ref az), .val (.ref az), .val (.int (1 : Int32)), .val (.int (0 : Int32)), .val (.int (own_b0 xt))] [(.ref b4)])) _
        refine XS.iload X43.here hx rfl (hb hby d2_230) rfl ?_
        show Steps p.tables e below (T43.setTop (mkF m 232 #[.val (.ref a), .val (.ref ap), .val (.ref am), .val (.ref ai), .val (.ref az), .val (.ref az), .val (.int (1 : Int32)), .val (.int (0 : Int32)), .val (.int (own_b0 xt))] [(.int (own_b0 xt)), (.ref b4)])) _
        refine XS.sipush X43.here hx rfl (hb hby d2_232) ?_
        show Steps p.tables e below (T43.setTop (mkF m 235 #[.val (.ref a), .val (.ref ap), .val (.ref am), .val (.ref ai), .val (.ref az), .val (.ref az), .val (.int (1 : Int32)), .val (.int (0 : Int32)), .val (.int (own_b0 xt))] [(.int (255 : Int32)), (.int (own_b0 xt)), (.ref b4)])) _
        refine XS.iand X43.here hx rfl (hb hby d2_235) rfl ?_
        show Steps p.tables e below (T43.setTop (mkF m 236 #[.val (.ref a), .val (.ref ap), .val (.ref am), .val (.ref ai), .val (.ref az), .val (.ref az), .val (.int (1 : Int32)), .val (.int (0 : Int32)), .val (.int (own_b0 xt))] [(.int ((own_b0 xt) &&& (255 : Int32))), (.ref b4)])) _
        refine XS.iconst X43.here hx rfl (hb hby d2_236) ?_
        exact kz
      obtain ⟨cl44, Ar44, q44, S44, M44, H44, G44⟩ := id Ah_b4
      have hin44 : ¬ (((own_b0 xt) &&& (255 : Int32)) < 0 ∨ cl44.slots.size ≤ (((own_b0 xt) &&& (255 : Int32))).toNatClampNeg) := inb_of S44 ⟨own_a0 _, own_a1 _⟩
      obtain ⟨T44, h44, X44, e44, W44, st44⟩ := stZ X43 hx hZ e43 Ar44 (j := ((own_b0 xt) &&& (255 : Int32))) hin44 (g := (mkF m 237 #[.val (.ref a), .val (.ref ap), .val (.ref am), .val (.ref ai), .val (.ref az), .val (.ref az), .val (.int (1 : Int32)), .val (.int (0 : Int32)), .val (.int (own_b0 xt))] [(.int (1 : Int32)), (.int ((own_b0 xt) &&& (255 : Int32))), (.ref b4)])) rfl rfl (hb hby d2_237)
      have Aw44 := Arh.push (v := (.int (1 : Int32))) Ar44 q44 S44 M44 H44 G44 rfl W44 hin44
      replace Ex_a := Ex_a.wr W44
      replace F_ignored_a := F_ignored_a.other W44 (Or.inl ne_a_b4)
      replace F_terminators_a := F_terminators_a.other W44 (Or.inl ne_a_b4)
      replace F_pattern_a := F_pattern_a.other W44 (Or.inl ne_a_b4)
      replace F_mask_a := F_mask_a.other W44 (Or.inl ne_a_b4)
      replace F_ignoring_a := F_ignoring_a.other W44 (Or.inl ne_a_b4)
      replace F_terminated_a := F_terminated_a.other W44 (Or.inl ne_a_b4)
      replace Av_ap := Av_ap.other W44 ne_ap_b4
      replace Ex_ap := Ex_ap.wr W44
      replace Av_am := Av_am.other W44 ne_am_b4
      replace Ex_am := Ex_am.wr W44
      replace Av_ai := Av_ai.other W44 ne_ai_b4
      replace Av_az := Av_az.other W44 ne_az_b4
      replace Av_b21 := Av_b21.other W44 (Ne.symm ne_b4_b21)
      replace Ex_b21 := Ex_b21.wr W44
      replace Av_b24 := Av_b24.other W44 (Ne.symm ne_b4_b24)
      replace Ex_b24 := Ex_b24.wr W44
      replace Ah28 := Ah28.other W44 ne_b2_b4
      have Z44 : n0 ≤ h44.size := Nat.le_trans Z39 (Keep.of_wr W44).1
      have Kp44 : Keep h39 h44 [b4] := KpL.wr W44 (Or.inl (List.mem_of_getElem? (i := 0) rfl))
      have N44 := Fr.snoc X44 N39 g_b4
      refine own_via (A := T44.setTop (mkF m 238 #[.val (.ref a), .val (.ref ap), .val (.ref am), .val (.ref ai), .val (.ref az), .val (.ref az), .val (.int (1 : Int32)), .val (.int (0 : Int32)), .val (.int (own_b0 xt))] [])) (fun _ kz => st44 _ kz) ?_
      refine own_via (A := T44.setTop (mkF m 212 #[.val (.ref a), .val (.ref ap), .val (.ref am), .val (.ref ai), .val (.ref az), .val (.ref az), .val (.int (1 : Int32)), .val (.int (1 : Int32)), .val (.int (own_b0 xt))] [])) (fun _ kz => ?_) ?_
      · show Steps p.tables e below (T44.setTop (mkF m 238 #[.val (.ref a), .val (.ref ap), .val (.ref am), .val (.ref ai), .val (.ref az), .val (.ref az), .val (.int (1 : Int32)), .val (.int (0 : Int32)), .val (.int (own_b0 xt))] [])) _
        refine XS.iinc X44.here hx rfl (hb hby d2_238) rfl (l' := #[.val (.ref a), .val (.ref ap), .val (.ref am), .val (.ref ai), .val (.ref az), .val (.ref az), .val (.int (1 : Int32)), .val (.int (1 : Int32)), .val (.int (own_b0 xt))]) rfl ?_
        show Steps p.tables e below (T44.setTop (mkF m 241 #[.val (.ref a), .val (.ref ap), .val (.ref am), .val (.ref ai), .val (.ref az), .val (.ref az), .val (.int (1 : Int32)), .val (.int (1 : Int32)), .val (.int (own_b0 xt))] [])) _
        refine XS.goto X44.here hx rfl (pc0 := 241) (pc' := 212) rfl (hb hby d2_241) (by decide) (by decide) ?_
        exact kz
      refine own_via (A := T44.setTop (mkF m 244 #[.val (.ref a), .val (.ref ap), .val (.ref am), .val (.ref ai), .val (.ref az), .val (.ref az), .val (.int (1 : Int32)), .val (.int (1 : Int32)), .val (.int (own_b0 xt))] [])) (fun _ kz => ?_) ?_
      · show Steps p.tables e below (T44.setTop (mkF m 212 #[.val (.ref a), .val (.ref ap), .val (.ref am), .val (.ref ai), .val (.ref az), .val (.ref az), .val (.int (1 : Int32)), .val (.int (1 : Int32)), .val (.int (own_b0 xt))] [])) _
        refine XS.iload X44.here hx rfl (hb hby d2_212) rfl ?_
        show Steps p.tables e below (T44.setTop (mkF m 214 #[.val (.ref a), .val (.ref ap), .val (.ref am), .val (.ref ai), .val (.ref az), .val (.ref az), .val (.int (1 : Int32)), .val (.int (1 : Int32)), .val (.int (own_b0 xt))] [(.int (1 : Int32))])) _
        refine XS.iload X44.here hx rfl (hb hby d2_214) rfl ?_
        show Steps p.tables e below (T44.setTop (mkF m 216 #[.val (.ref a), .val (.ref ap), .val (.ref am), .val (.ref ai), .val (.ref az), .val (.ref az), .val (.int (1 : Int32)), .val (.int (1 : Int32)), .val (.int (own_b0 xt))] [(.int (1 : Int32)), (.int (1 : Int32))])) _
        refine XS.icmpYes X44.here hx rfl (pc0 := 216) (pc' := 244) rfl (hb hby d2_216) rfl (flt (by decide : ¬ ((1 : Int32) < (1 : Int32)))).2.1 (by decide) (by decide) ?_
        exact kz
      exact ⟨T44, .val (.int (own_b0 xt)), ⟨(One.val rfl), _, h44, X44, N44, e44, Kp44, Aw44⟩, fun _ kz => kz⟩
    · skip
      replace Av_az : Arv Z h39 az kz .byte (2 : Int32) [(.int (own_b0 xt)), (.int (own_b1 xt))] (.int (0 : Int32)) := Av_az
      refine own_via (A := T39.setTop (mkF m 223 #[.val (.ref a), .val (.ref ap), .val (.ref am), .val (.ref ai), .val (.ref az), .val (.ref az), .val (.int (2 : Int32)), .val (.int (0 : Int32)), s8] [(.int (0 : Int32)), (.ref az)])) (fun _ kz => ?_) ?_
      · show Steps p.tables e below (T39.setTop (mkF m 212 #[.val (.ref a), .val (.ref ap), .val (.ref am), .val (.ref ai), .val (.ref az), .val (.ref az), .val (.int (2 : Int32)), .val (.int (0 : Int32)), s8] [])) _
        refine XS.iload X39.here hx rfl (hb hby d2_212) rfl ?_
        show Steps p.tables e below (T39.setTop (mkF m 214 #[.val (.ref a), .val (.ref ap), .val (.ref am), .val (.ref ai), .val (.ref az), .val (.ref az), .val (.int (2 : Int32)), .val (.int (0 : Int32)), s8] [(.int (0 : Int32))])) _
        refine XS.iload X39.here hx rfl (hb hby d2_214) rfl ?_
        show Steps p.tables e below (T39.setTop (mkF m 216 #[.val (.ref a), .val (.ref ap), .val (.ref am), .val (.ref ai), .val (.ref az), .val (.ref az), .val (.int (2 : Int32)), .val (.int (0 : Int32)), s8] [(.int (2 : Int32)), (.int (0 : Int32))])) _
        refine XS.icmpNo X39.here hx rfl (hb hby d2_216) rfl (tlt (by decide : ((0 : Int32) < (2 : Int32)))).2.1 ?_
        show Steps p.tables e below (T39.setTop (mkF m 219 #[.val (.ref a), .val (.ref ap), .val (.ref am), .val (.ref ai), .val (.ref az), .val (.ref az), .val (.int (2 : Int32)), .val (.int (0 : Int32)), s8] [])) _
        refine XS.aload X39.here hx rfl (hb hby d2_219) rfl rfl ?_
        show Steps p.tables e below (T39.setTop (mkF m 221 #[.val (.ref a), .val (.ref ap), .val (.ref am), .val (.ref ai), .val (.ref az), .val (.ref az), .val (.int (2 : Int32)), .val (.int (0 : Int32)), s8] [(.ref az)])) _
        refine XS.iload X39.here hx rfl (hb hby d2_221) rfl ?_
        exact kz
      obtain ⟨cl45, Ar45, -, S45, M45, H45, -⟩ := id Av_az
      have hin45 : ¬ ((0 : Int32) < 0 ∨ cl45.slots.size ≤ ((0 : Int32)).toNatClampNeg) := inb_of S45 ⟨by decide, by decide⟩
      have hat45 : cl45.slots[((0 : Int32)).toNatClampNeg]? = some (.int (own_b0 xt)) := H45.at hin45 rfl
      refine own_via (A := T39.setTop (mkF m 224 #[.val (.ref a), .val (.ref ap), .val (.ref am), .val (.ref ai), .val (.ref az), .val (.ref az), .val (.int (2 : Int32)), .val (.int (0 : Int32)), s8] [(.int (own_b0 xt))])) (fun _ kz => ?_) ?_
      · refine X39.baloadBytes hx (j := (0 : Int32)) (v := (.int (own_b0 xt))) (by rw [e39]; exact Ar45.1) (State.isArrayOf_alike hZ.alike Ar45.2.1) Ar45.2.2 hin45 hat45 (g := (mkF m 223 #[.val (.ref a), .val (.ref ap), .val (.ref am), .val (.ref ai), .val (.ref az), .val (.ref az), .val (.int (2 : Int32)), .val (.int (0 : Int32)), s8] [(.int (0 : Int32)), (.ref az)])) rfl rfl (hb hby d2_223) _ ?_
        exact kz
      refine own_via (A := T39.setTop (mkF m 227 #[.val (.ref a), .val (.ref ap), .val (.ref am), .val (.ref ai), .val (.ref az), .val (.ref az), .val (.int (2 : Int32)), .val (.int (0 : Int32)), .val (.int (own_b0 xt))] [(.ref a)])) (fun _ kz => ?_) ?_
      · show Steps p.tables e below (T39.setTop (mkF m 224 #[.val (.ref a), .val (.ref ap), .val (.ref am), .val (.ref ai), .val (.ref az), .val (.ref az), .val (.int (2 : Int32)), .val (.int (0 : Int32)), s8] [(.int (own_b0 xt))])) _
        refine XS.istoreS X39.here hx rfl (hb hby d2_224) rfl rfl hs8 ?_
        show Steps p.tables e below (T39.setTop (mkF m 226 #[.val (.ref a), .val (.ref ap), .val (.ref am), .val (.ref ai), .val (.ref az), .val (.ref az), .val (.int (2 : Int32)), .val (.int (0 : Int32)), .val (.int (own_b0 xt))] [])) _
        refine XS.aloadN X39.here hx rfl (hb hby d2_226) rfl rfl ?_
        exact kz
      obtain ⟨T46, X46, e46, st46⟩ := getF X39 hx hZ hown (host := "") (Or.inl (hw _ (List.mem_of_getElem? (i := 17) rfl))) Via.refl e39 F_terminators_a (g := (mkF m 227 #[.val (.ref a), .val (.ref ap), .val (.ref am), .val (.ref ai), .val (.ref az), .val (.ref az), .val (.int (2 : Int32)), .val (.int (0 : Int32)), .val (.int (own_b0 xt))] [(.ref a)])) rfl rfl (hb hby d2_227)
      refine own_via (A := T46.setTop (mkF m 230 #[.val (.ref a), .val (.ref ap), .val (.ref am), .val (.ref ai), .val (.ref az), .val (.ref az), .val (.int (2 : Int32)), .val (.int (0 : Int32)), .val (.int (own_b0 xt))] [(.ref b4)])) (fun _ kz => st46 _ kz) ?_
      refine own_via (A := T46.setTop (mkF m 237 #[.val (.ref a), .val (.ref ap), .val (.ref am), .val (.ref ai), .val (.ref az), .val (.ref az), .val (.int (2 : Int32)), .val (.int (0 : Int32)), .val (.int (own_b0 xt))] [(.int (1 : Int32)), (.int ((own_b0 xt) &&& (255 : Int32))), (.ref b4)])) (fun _ kz => ?_) ?_
      · show Steps p.tables e below (T46.setTop (mkF m 230 #[.val (.ref a), .val (.ref ap), .val (.ref am), .val (.ref ai), .val (.ref az), .val (.ref az), .val (.int (2 : Int32)), .val (.int (0 : Int32)), .val (.int (own_b0 xt))] [(.ref b4)])) _
        refine XS.iload X46.here hx rfl (hb hby d2_230) rfl ?_
        show Steps p.tables e below (T46.setTop (mkF m 232 #[.val (.ref a), .val (.ref ap), .val (.ref am), .val (.ref ai), .val (.ref az), .val (.ref az), .val (.int (2 : Int32)), .val (.int (0 : Int32)), .val (.int (own_b0 xt))] [(.int (own_b0 xt)), (.ref b4)])) _
        refine XS.sipush X46.here hx rfl (hb hby d2_232) ?_
        show Steps p.tables e below (T46.setTop (mkF m 235 #[.val (.ref a), .val (.ref ap), .val (.ref am), .val (.ref ai), .val (.ref az), .val (.ref az), .val (.int (2 : Int32)), .val (.int (0 : Int32)), .val (.int (own_b0 xt))] [(.int (255 : Int32)), (.int (own_b0 xt)), (.ref b4)])) _
        refine XS.iand X46.here hx rfl (hb hby d2_235) rfl ?_
        show Steps p.tables e below (T46.setTop (mkF m 236 #[.val (.ref a), .val (.ref ap), .val (.ref am), .val (.ref ai), .val (.ref az), .val (.ref az), .val (.int (2 : Int32)), .val (.int (0 : Int32)), .val (.int (own_b0 xt))] [(.int ((own_b0 xt) &&& (255 : Int32))), (.ref b4)])) _
        refine XS.iconst X46.here hx rfl (hb hby d2_236) ?_
        exact kz
      obtain ⟨cl47, Ar47, q47, S47, M47, H47, G47⟩ := id Ah_b4
      have hin47 : ¬ (((own_b0 xt) &&& (255 : Int32)) < 0 ∨ cl47.slots.size ≤ (((own_b0 xt) &&& (255 : Int32))).toNatClampNeg) := inb_of S47 ⟨own_a0 _, own_a1 _⟩
      obtain ⟨T47, h47, X47, e47, W47, st47⟩ := stZ X46 hx hZ e46 Ar47 (j := ((own_b0 xt) &&& (255 : Int32))) hin47 (g := (mkF m 237 #[.val (.ref a), .val (.ref ap), .val (.ref am), .val (.ref ai), .val (.ref az), .val (.ref az), .val (.int (2 : Int32)), .val (.int (0 : Int32)), .val (.int (own_b0 xt))] [(.int (1 : Int32)), (.int ((own_b0 xt) &&& (255 : Int32))), (.ref b4)])) rfl rfl (hb hby d2_237)
      have Aw47 := Arh.push (v := (.int (1 : Int32))) Ar47 q47 S47 M47 H47 G47 rfl W47 hin47
      replace Ex_a := Ex_a.wr W47
      replace F_ignored_a := F_ignored_a.other W47 (Or.inl ne_a_b4)
      replace F_terminators_a := F_terminators_a.other W47 (Or.inl ne_a_b4)
      replace F_pattern_a := F_pattern_a.other W47 (Or.inl ne_a_b4)
      replace F_mask_a := F_mask_a.other W47 (Or.inl ne_a_b4)
      replace F_ignoring_a := F_ignoring_a.other W47 (Or.inl ne_a_b4)
      replace F_terminated_a := F_terminated_a.other W47 (Or.inl ne_a_b4)
      replace Av_ap := Av_ap.other W47 ne_ap_b4
      replace Ex_ap := Ex_ap.wr W47
      replace Av_am := Av_am.other W47 ne_am_b4
      replace Ex_am := Ex_am.wr W47
      replace Av_ai := Av_ai.other W47 ne_ai_b4
      replace Av_az := Av_az.other W47 ne_az_b4
      replace Av_b21 := Av_b21.other W47 (Ne.symm ne_b4_b21)
      replace Ex_b21 := Ex_b21.wr W47
      replace Av_b24 := Av_b24.other W47 (Ne.symm ne_b4_b24)
      replace Ex_b24 := Ex_b24.wr W47
      replace Ah28 := Ah28.other W47 ne_b2_b4
      have Z47 : n0 ≤ h47.size := Nat.le_trans Z39 (Keep.of_wr W47).1
      have Kp47 : Keep h39 h47 [b4] := KpL.wr W47 (Or.inl (List.mem_of_getElem? (i := 0) rfl))
      have N47 := Fr.snoc X47 N39 g_b4
      refine own_via (A := T47.setTop (mkF m 238 #[.val (.ref a), .val (.ref ap), .val (.ref am), .val (.ref ai), .val (.ref az), .val (.ref az), .val (.int (2 : Int32)), .val (.int (0 : Int32)), .val (.int (own_b0 xt))] [])) (fun _ kz => st47 _ kz) ?_
      refine own_via (A := T47.setTop (mkF m 212 #[.val (.ref a), .val (.ref ap), .val (.ref am), .val (.ref ai), .val (.ref az), .val (.ref az), .val (.int (2 : Int32)), .val (.int (1 : Int32)), .val (.int (own_b0 xt))] [])) (fun _ kz => ?_) ?_
      · show Steps p.tables e below (T47.setTop (mkF m 238 #[.val (.ref a), .val (.ref ap), .val (.ref am), .val (.ref ai), .val (.ref az), .val (.ref az), .val (.int (2 : Int32)), .val (.int (0 : Int32)), .val (.int (own_b0 xt))] [])) _
        refine XS.iinc X47.here hx rfl (hb hby d2_238) rfl (l' := #[.val (.ref a), .val (.ref ap), .val (.ref am), .val (.ref ai), .val (.ref az), .val (.ref az), .val (.int (2 : Int32)), .val (.int (1 : Int32)), .val (.int (own_b0 xt))]) rfl ?_
        show Steps p.tables e below (T47.setTop (mkF m 241 #[.val (.ref a), .val (.ref ap), .val (.ref am), .val (.ref ai), .val (.ref az), .val (.ref az), .val (.int (2 : Int32)), .val (.int (1 : Int32)), .val (.int (own_b0 xt))] [])) _
        refine XS.goto X47.here hx rfl (pc0 := 241) (pc' := 212) rfl (hb hby d2_241) (by decide) (by decide) ?_
        exact kz
      refine own_via (A := T47.setTop (mkF m 223 #[.val (.ref a), .val (.ref ap), .val (.ref am), .val (.ref ai), .val (.ref az), .val (.ref az), .val (.int (2 : Int32)), .val (.int (1 : Int32)), .val (.int (own_b0 xt))] [(.int (1 : Int32)), (.ref az)])) (fun _ kz => ?_) ?_
      · show Steps p.tables e below (T47.setTop (mkF m 212 #[.val (.ref a), .val (.ref ap), .val (.ref am), .val (.ref ai), .val (.ref az), .val (.ref az), .val (.int (2 : Int32)), .val (.int (1 : Int32)), .val (.int (own_b0 xt))] [])) _
        refine XS.iload X47.here hx rfl (hb hby d2_212) rfl ?_
        show Steps p.tables e below (T47.setTop (mkF m 214 #[.val (.ref a), .val (.ref ap), .val (.ref am), .val (.ref ai), .val (.ref az), .val (.ref az), .val (.int (2 : Int32)), .val (.int (1 : Int32)), .val (.int (own_b0 xt))] [(.int (1 : Int32))])) _
        refine XS.iload X47.here hx rfl (hb hby d2_214) rfl ?_
        show Steps p.tables e below (T47.setTop (mkF m 216 #[.val (.ref a), .val (.ref ap), .val (.ref am), .val (.ref ai), .val (.ref az), .val (.ref az), .val (.int (2 : Int32)), .val (.int (1 : Int32)), .val (.int (own_b0 xt))] [(.int (2 : Int32)), (.int (1 : Int32))])) _
        refine XS.icmpNo X47.here hx rfl (hb hby d2_216) rfl (tlt (by decide : ((1 : Int32) < (2 : Int32)))).2.1 ?_
        show Steps p.tables e below (T47.setTop (mkF m 219 #[.val (.ref a), .val (.ref ap), .val (.ref am), .val (.ref ai), .val (.ref az), .val (.ref az), .val (.int (2 : Int32)), .val (.int (1 : Int32)), .val (.int (own_b0 xt))] [])) _
        refine XS.aload X47.here hx rfl (hb hby d2_219) rfl rfl ?_
        show Steps p.tables e below (T47.setTop (mkF m 221 #[.val (.ref a), .val (.ref ap), .val (.ref am), .val (.ref ai), .val (.ref az), .val (.ref az), .val (.int (2 : Int32)), .val (.int (1 : Int32)), .val (.int (own_b0 xt))] [(.ref az)])) _
        refine XS.iload X47.here hx rfl (hb hby d2_221) rfl ?_
        exact kz
      obtain ⟨cl48, Ar48, -, S48, M48, H48, -⟩ := id Av_az
      have hin48 : ¬ ((1 : Int32) < 0 ∨ cl48.slots.size ≤ ((1 : Int32)).toNatClampNeg) := inb_of S48 ⟨by decide, by decide⟩
      have hat48 : cl48.slots[((1 : Int32)).toNatClampNeg]? = some (.int (own_b1 xt)) := H48.at hin48 rfl
      refine own_via (A := T47.setTop (mkF m 224 #[.val (.ref a), .val (.ref ap), .val (.ref am), .val (.ref ai), .val (.ref az), .val (.ref az), .val (.int (2 : Int32)), .val (.int (1 : Int32)), .val (.int (own_b0 xt))] [(.int (own_b1 xt))])) (fun _ kz => ?_) ?_
      · refine X47.baloadBytes hx (j := (1 : Int32)) (v := (.int (own_b1 xt))) (by rw [e47]; exact Ar48.1) (State.isArrayOf_alike hZ.alike Ar48.2.1) Ar48.2.2 hin48 hat48 (g := (mkF m 223 #[.val (.ref a), .val (.ref ap), .val (.ref am), .val (.ref ai), .val (.ref az), .val (.ref az), .val (.int (2 : Int32)), .val (.int (1 : Int32)), .val (.int (own_b0 xt))] [(.int (1 : Int32)), (.ref az)])) rfl rfl (hb hby d2_223) _ ?_
        exact kz
      refine own_via (A := T47.setTop (mkF m 227 #[.val (.ref a), .val (.ref ap), .val (.ref am), .val (.ref ai), .val (.ref az), .val (.ref az), .val (.int (2 : Int32)), .val (.int (1 : Int32)), .val (.int (own_b1 xt))] [(.ref a)])) (fun _ kz => ?_) ?_
      · show Steps p.tables e below (T47.setTop (mkF m 224 #[.val (.ref a), .val (.ref ap), .val (.ref am), .val (.ref ai), .val (.ref az), .val (.ref az), .val (.int (2 : Int32)), .val (.int (1 : Int32)), .val (.int (own_b0 xt))] [(.int (own_b1 xt))])) _
        refine XS.istore X47.here hx rfl (hb hby d2_224) rfl (l' := #[.val (.ref a), .val (.ref ap), .val (.ref am), .val (.ref ai), .val (.ref az), .val (.ref az), .val (.int (2 : Int32)), .val (.int (1 : Int32)), .val (.int (own_b1 xt))]) rfl ?_
        show Steps p.tables e below (T47.setTop (mkF m 226 #[.val (.ref a), .val (.ref ap), .val (.ref am), .val (.ref ai), .val (.ref az), .val (.ref az), .val (.int (2 : Int32)), .val (.int (1 : Int32)), .val (.int (own_b1 xt))] [])) _
        refine XS.aloadN X47.here hx rfl (hb hby d2_226) rfl rfl ?_
        exact kz
      obtain ⟨T49, X49, e49, st49⟩ := getF X47 hx hZ hown (host := "") (Or.inl (hw _ (List.mem_of_getElem? (i := 17) rfl))) Via.refl e47 F_terminators_a (g := (mkF m 227 #[.val (.ref a), .val (.ref ap), .val (.ref am), .val (.ref ai), .val (.ref az), .val (.ref az), .val (.int (2 : Int32)), .val (.int (1 : Int32)), .val (.int (own_b1 xt))] [(.ref a)])) rfl rfl (hb hby d2_227)
      refine own_via (A := T49.setTop (mkF m 230 #[.val (.ref a), .val (.ref ap), .val (.ref am), .val (.ref ai), .val (.ref az), .val (.ref az), .val (.int (2 : Int32)), .val (.int (1 : Int32)), .val (.int (own_b1 xt))] [(.ref b4)])) (fun _ kz => st49 _ kz) ?_
      refine own_via (A := T49.setTop (mkF m 237 #[.val (.ref a), .val (.ref ap), .val (.ref am), .val (.ref ai), .val (.ref az), .val (.ref az), .val (.int (2 : Int32)), .val (.int (1 : Int32)), .val (.int (own_b1 xt))] [(.int (1 : Int32)), (.int ((own_b1 xt) &&& (255 : Int32))), (.ref b4)])) (fun _ kz => ?_) ?_
      · show Steps p.tables e below (T49.setTop (mkF m 230 #[.val (.ref a), .val (.ref ap), .val (.ref am), .val (.ref ai), .val (.ref az), .val (.ref az), .val (.int (2 : Int32)), .val (.int (1 : Int32)), .val (.int (own_b1 xt))] [(.ref b4)])) _
        refine XS.iload X49.here hx rfl (hb hby d2_230) rfl ?_
        show Steps p.tables e below (T49.setTop (mkF m 232 #[.val (.ref a), .val (.ref ap), .val (.ref am), .val (.ref ai), .val (.ref az), .val (.ref az), .val (.int (2 : Int32)), .val (.int (1 : Int32)), .val (.int (own_b1 xt))] [(.int (own_b1 xt)), (.ref b4)])) _
        refine XS.sipush X49.here hx rfl (hb hby d2_232) ?_
        show Steps p.tables e below (T49.setTop (mkF m 235 #[.val (.ref a), .val (.ref ap), .val (.ref am), .val (.ref ai), .val (.ref az), .val (.ref az), .val (.int (2 : Int32)), .val (.int (1 : Int32)), .val (.int (own_b1 xt))] [(.int (255 : Int32)), (.int (own_b1 xt)), (.ref b4)])) _
        refine XS.iand X49.here hx rfl (hb hby d2_235) rfl ?_
        show Steps p.tables e below (T49.setTop (mkF m 236 #[.val (.ref a), .val (.ref ap), .val (.ref am), .val (.ref ai), .val (.ref az), .val (.ref az), .val (.int (2 : Int32)), .val (.int (1 : Int32)), .val (.int (own_b1 xt))] [(.int ((own_b1 xt) &&& (255 : Int32))), (.ref b4)])) _
        refine XS.iconst X49.here hx rfl (hb hby d2_236) ?_
        exact kz
      obtain ⟨cl50, Ar50, q50, S50, M50, H50, G50⟩ := id Aw47
      have hin50 : ¬ (((own_b1 xt) &&& (255 : Int32)) < 0 ∨ cl50.slots.size ≤ (((own_b1 xt) &&& (255 : Int32))).toNatClampNeg) := inb_of S50 ⟨own_a0 _, own_a1 _⟩
      obtain ⟨T50, h50, X50, e50, W50, st50⟩ := stZ X49 hx hZ e49 Ar50 (j := ((own_b1 xt) &&& (255 : Int32))) hin50 (g := (mkF m 237 #[.val (.ref a), .val (.ref ap), .val (.ref am), .val (.ref ai), .val (.ref az), .val (.ref az), .val (.int (2 : Int32)), .val (.int (1 : Int32)), .val (.int (own_b1 xt))] [(.int (1 : Int32)), (.int ((own_b1 xt) &&& (255 : Int32))), (.ref b4)])) rfl rfl (hb hby d2_237)
      have Aw50 := Arh.push (v := (.int (1 : Int32))) Ar50 q50 S50 M50 H50 G50 rfl W50 hin50
      replace Ex_a := Ex_a.wr W50
      replace F_ignored_a := F_ignored_a.other W50 (Or.inl ne_a_b4)
      replace F_terminators_a := F_terminators_a.other W50 (Or.inl ne_a_b4)
      replace F_pattern_a := F_pattern_a.other W50 (Or.inl ne_a_b4)
      replace F_mask_a := F_mask_a.other W50 (Or.inl ne_a_b4)
      replace F_ignoring_a := F_ignoring_a.other W50 (Or.inl ne_a_b4)
      replace F_terminated_a := F_terminated_a.other W50 (Or.inl ne_a_b4)
      replace Av_ap := Av_ap.other W50 ne_ap_b4
      replace Ex_ap := Ex_ap.wr W50
      replace Av_am := Av_am.other W50 ne_am_b4
      replace Ex_am := Ex_am.wr W50
      replace Av_ai := Av_ai.other W50 ne_ai_b4
      replace Av_az := Av_az.other W50 ne_az_b4
      replace Av_b21 := Av_b21.other W50 (Ne.symm ne_b4_b21)
      replace Ex_b21 := Ex_b21.wr W50
      replace Av_b24 := Av_b24.other W50 (Ne.symm ne_b4_b24)
      replace Ex_b24 := Ex_b24.wr W50
      replace Ah28 := Ah28.other W50 ne_b2_b4
      have Z50 : n0 ≤ h50.size := Nat.le_trans Z47 (Keep.of_wr W50).1
      have Kp50 : Keep h39 h50 [b4] := Kp47.wr W50 (Or.inl (List.mem_of_getElem? (i := 0) rfl))
      have N50 := Fr.snoc X50 N47 g_b4
      refine own_via (A := T50.setTop (mkF m 238 #[.val (.ref a), .val (.ref ap), .val (.ref am), .val (.ref ai), .val (.ref az), .val (.ref az), .val (.int (2 : Int32)), .val (.int (1 : Int32)), .val (.int (own_b1 xt))] [])) (fun _ kz => st50 _ kz) ?_
      refine own_via (A := T50.setTop (mkF m 212 #[.val (.ref a), .val (.ref ap), .val (.ref am), .val (.ref ai), .val (.ref az), .val (.ref az), .val (.int (2 : Int32)), .val (.int (2 : Int32)), .val (.int (own_b1 xt))] [])) (fun _ kz => ?_) ?_
      · show Steps p.tables e below (T50.setTop (mkF m 238 #[.val (.ref a), .val (.ref ap), .val (.ref am), .val (.ref ai), .val (.ref az), .val (.ref az), .val (.int (2 : Int32)), .val (.int (1 : Int32)), .val (.int (own_b1 xt))] [])) _
        refine XS.iinc X50.here hx rfl (hb hby d2_238) rfl (l' := #[.val (.ref a), .val (.ref ap), .val (.ref am), .val (.ref ai), .val (.ref az), .val (.ref az), .val (.int (2 : Int32)), .val (.int (2 : Int32)), .val (.int (own_b1 xt))]) rfl ?_
        show Steps p.tables e below (T50.setTop (mkF m 241 #[.val (.ref a), .val (.ref ap), .val (.ref am), .val (.ref ai), .val (.ref az), .val (.ref az), .val (.int (2 : Int32)), .val (.int (2 : Int32)), .val (.int (own_b1 xt))] [])) _
        refine XS.goto X50.here hx rfl (pc0 := 241) (pc' := 212) rfl (hb hby d2_241) (by decide) (by decide) ?_
        exact kz
      refine own_via (A := T50.setTop (mkF m 244 #[.val (.ref a), .val (.ref ap), .val (.ref am), .val (.ref ai), .val (.ref az), .val (.ref az), .val (.int (2 : Int32)), .val (.int (2 : Int32)), .val (.int (own_b1 xt))] [])) (fun _ kz => ?_) ?_
      · show Steps p.tables e below (T50.setTop (mkF m 212 #[.val (.ref a), .val (.ref ap), .val (.ref am), .val (.ref ai), .val (.ref az), .val (.ref az), .val (.int (2 : Int32)), .val (.int (2 : Int32)), .val (.int (own_b1 xt))] [])) _
        refine XS.iload X50.here hx rfl (hb hby d2_212) rfl ?_
        show Steps p.tables e below (T50.setTop (mkF m 214 #[.val (.ref a), .val (.ref ap), .val (.ref am), .val (.ref ai), .val (.ref az), .val (.ref az), .val (.int (2 : Int32)), .val (.int (2 : Int32)), .val (.int (own_b1 xt))] [(.int (2 : Int32))])) _
        refine XS.iload X50.here hx rfl (hb hby d2_214) rfl ?_
        show Steps p.tables e below (T50.setTop (mkF m 216 #[.val (.ref a), .val (.ref ap), .val (.ref am), .val (.ref ai), .val (.ref az), .val (.ref az), .val (.int (2 : Int32)), .val (.int (2 : Int32)), .val (.int (own_b1 xt))] [(.int (2 : Int32)), (.int (2 : Int32))])) _
        refine XS.icmpYes X50.here hx rfl (pc0 := 216) (pc' := 244) rfl (hb hby d2_216) rfl (flt (by decide : ¬ ((2 : Int32) < (2 : Int32)))).2.1 (by decide) (by decide) ?_
        exact kz
      exact ⟨T50, .val (.int (own_b1 xt)), ⟨(One.val rfl), _, h50, X50, N50, e50, Kp50, Aw50⟩, fun _ kz => kz⟩
  refine own_go (A := T41.setTop (mkF m 244 #[.val (.ref a), .val (.ref ap), .val (.ref am), .val (.ref ai), .val (.ref az), .val (.ref az), .val (.int nt), .val (.int nt), s8b] [])) (fun _ kz => st41 _ kz) ?_
  have eK41 : T41.heap = h41 := e41
  subst e41
  replace Ex_a := Ex_a.keep K41
  replace F_ignored_a := F_ignored_a.keep K41 (ninS ne_a_b4 nin0)
  replace F_terminators_a := F_terminators_a.keep K41 (ninS ne_a_b4 nin0)
  replace F_pattern_a := F_pattern_a.keep K41 (ninS ne_a_b4 nin0)
  replace F_mask_a := F_mask_a.keep K41 (ninS ne_a_b4 nin0)
  replace F_ignoring_a := F_ignoring_a.keep K41 (ninS ne_a_b4 nin0)
  replace F_terminated_a := F_terminated_a.keep K41 (ninS ne_a_b4 nin0)
  replace Av_ap := Av_ap.keep K41 (ninS ne_ap_b4 nin0)
  replace Ex_ap := Ex_ap.keep K41
  replace Av_am := Av_am.keep K41 (ninS ne_am_b4 nin0)
  replace Ex_am := Ex_am.keep K41
  replace Av_ai := Av_ai.keep K41 (ninS ne_ai_b4 nin0)
  replace Av_az := Av_az.keep K41 (ninS ne_az_b4 nin0)
  replace Av_b21 := Av_b21.keep K41 (ninS (Ne.symm ne_b4_b21) nin0)
  replace Ex_b21 := Ex_b21.keep K41
  replace Av_b24 := Av_b24.keep K41 (ninS (Ne.symm ne_b4_b24) nin0)
  replace Ex_b24 := Ex_b24.keep K41
  replace Ah28 := Ah28.keep K41 (ninS ne_b2_b4 nin0)
  have Z41 : n0 ≤ T41.heap.size := Nat.le_trans Z39 K41.1
  have Kp41 : Keep h0 T41.heap [a] := Kp39.trans K41 (allS (Or.inr szk_b4) (all0))
  refine own_go (A := T41.setTop (mkF m 247 #[.val (.ref a), .val (.ref ap), .val (.ref am), .val (.ref ai), .val (.ref az), .val (.ref az), .val (.int nt), .val (.int nt), s8b] [(.ref az), (.ref a)])) (fun _ kz => ?_) ?_
  · show Steps p.tables e below (T41.setTop (mkF m 244 #[.val (.ref a), .val (.ref ap), .val (.ref am), .val (.ref ai), .val (.ref az), .val (.ref az), .val (.int nt), .val (.int nt), s8b] [])) _
    refine XS.aloadN X41.here hx rfl (hb hby d2_244) rfl rfl ?_
    show Steps p.tables e below (T41.setTop (mkF m 245 #[.val (.ref a), .val (.ref ap), .val (.ref am), .val (.ref ai), .val (.ref az), .val (.ref az), .val (.int nt), .val (.int nt), s8b] [(.ref a)])) _
    refine XS.aload X41.here hx rfl (hb hby d2_245) rfl rfl ?_
    exact kz
  obtain ⟨cl51, Ar51, -, S51, M51, -, -⟩ := id Av_az
  refine own_go (A := T41.setTop (mkF m 248 #[.val (.ref a), .val (.ref ap), .val (.ref am), .val (.ref ai), .val (.ref az), .val (.ref az), .val (.int nt), .val (.int nt), s8b] [(.int nt), (.ref a)])) (fun _ kz => ?_) ?_
  · refine X41.arraylength hx Ar51.1 (State.isArrayOf_alike hZ.alike Ar51.2.1) (g := (mkF m 247 #[.val (.ref a), .val (.ref ap), .val (.ref am), .val (.ref ai), .val (.ref az), .val (.ref az), .val (.int nt), .val (.int nt), s8b] [(.ref az), (.ref a)])) rfl rfl (hb hby d2_247) _ ?_
    rw [len_of S51 M51]
    exact kz
  obtain ⟨tm, htm⟩ : ∃ z, z = (if (0 : Int32) < nt then (1 : Int32) else (0 : Int32)) := ⟨_, rfl⟩
  refine own_go (A := T41.setTop (mkF m 256 #[.val (.ref a), .val (.ref ap), .val (.ref am), .val (.ref ai), .val (.ref az), .val (.ref az), .val (.int nt), .val (.int nt), s8b] [(.int tm), (.ref a)])) (fun _ kz => ?_) ?_
  · show Steps p.tables e below (T41.setTop (mkF m 248 #[.val (.ref a), .val (.ref ap), .val (.ref am), .val (.ref ai), .val (.ref az), .val (.ref az), .val (.int nt), .val (.int nt), s8b] [(.int nt), (.ref a)])) _
    by_cases hc248 : (0 : Int32) < nt
    · rw [htm, if_pos hc248] at kz
      refine XS.ifNo X41.here hx rfl (hb hby d2_248) rfl ((if0 _ _).trans (tlt hc248).2.2.2) ?_
      show Steps p.tables e below (T41.setTop (mkF m 251 #[.val (.ref a), .val (.ref ap), .val (.ref am), .val (.ref ai), .val (.ref az), .val (.ref az), .val (.int nt), .val (.int nt), s8b] [(.ref a)])) _
      refine XS.iconst X41.here hx rfl (hb hby d2_251) ?_
      show Steps p.tables e below (T41.setTop (mkF m 252 #[.val (.ref a), .val (.ref ap), .val (.ref am), .val (.ref ai), .val (.ref az), .val (.ref az), .val (.int nt), .val (.int nt), s8b] [(.int (1 : Int32)), (.ref a)])) _
      refine XS.goto X41.here hx rfl (pc0 := 252) (pc' := 256) rfl (hb hby d2_252) (by decide) (by decide) ?_
      exact kz
    · rw [htm, if_neg hc248] at kz
      refine XS.ifYes X41.here hx rfl (pc0 := 248) (pc' := 255) rfl (hb hby d2_248) rfl ((if0 _ _).trans (flt hc248).2.2.2) (by decide) (by decide) ?_
      show Steps p.tables e below (T41.setTop (mkF m 255 #[.val (.ref a), .val (.ref ap), .val (.ref am), .val (.ref ai), .val (.ref az), .val (.ref az), .val (.int nt), .val (.int nt), s8b] [(.ref a)])) _
      refine XS.iconst X41.here hx rfl (hb hby d2_255) ?_
      exact kz
  obtain ⟨T52, h52, X52, e52, W52, st52⟩ := putFN X41 hx hZ hown (hw _ (List.mem_of_getElem? (i := 34) rfl)) Via.refl rfl F_terminated_a Ex_a (Or.inr ⟨(hw _ (List.mem_of_getElem? (i := 35) rfl)), rfl, hnm⟩) (hw _ (List.mem_of_getElem? (i := 6) rfl)) (ty := .boolean) (v' := (.int (nar .boolean tm))) (by decide) rfl (by first | exact fits_nar_bool _ | decide) (g := (mkF m 256 #[.val (.ref a), .val (.ref ap), .val (.ref am), .val (.ref ai), .val (.ref az), .val (.ref az), .val (.int nt), .val (.int nt), s8b] [(.int tm), (.ref a)])) rfl rfl (hb hby d2_256)
  have Fw52 := F_terminated_a.same W52
  replace Ex_a := Ex_a.wr W52
  replace F_ignored_a := F_ignored_a.other W52 (Or.inr (slot_ne (Or.inr (hw _ (List.mem_of_getElem? (i := 16) rfl))) (Or.inr (hw _ (List.mem_of_getElem? (i := 35) rfl))) (by decide) (t := (.array .boolean)) (t' := .boolean) (by decide) (by decide)))
  replace F_terminators_a := F_terminators_a.other W52 (Or.inr (slot_ne (Or.inr (hw _ (List.mem_of_getElem? (i := 18) rfl))) (Or.inr (hw _ (List.mem_of_getElem? (i := 35) rfl))) (by decide) (t := (.array .boolean)) (t' := .boolean) (by decide) (by decide)))
  replace F_pattern_a := F_pattern_a.other W52 (Or.inr (slot_ne (Or.inr (hw _ (List.mem_of_getElem? (i := 29) rfl))) (Or.inr (hw _ (List.mem_of_getElem? (i := 35) rfl))) (by decide) (t := (.array .byte)) (t' := .boolean) (by decide) (by decide)))
  replace F_mask_a := F_mask_a.other W52 (Or.inr (slot_ne (Or.inr (hw _ (List.mem_of_getElem? (i := 31) rfl))) (Or.inr (hw _ (List.mem_of_getElem? (i := 35) rfl))) (by decide) (t := (.array .byte)) (t' := .boolean) (by decide) (by decide)))
  replace F_ignoring_a := F_ignoring_a.other W52 (Or.inr (slot_ne (Or.inr (hw _ (List.mem_of_getElem? (i := 33) rfl))) (Or.inr (hw _ (List.mem_of_getElem? (i := 35) rfl))) (by decide) (t := .boolean) (t' := .boolean) (by decide) (by decide)))
  replace Av_ap := Av_ap.other W52 ne_ap_a
  replace Ex_ap := Ex_ap.wr W52
  replace Av_am := Av_am.other W52 ne_am_a
  replace Ex_am := Ex_am.wr W52
  replace Av_ai := Av_ai.other W52 ne_ai_a
  replace Av_az := Av_az.other W52 ne_az_a
  replace Av_b21 := Av_b21.other W52 (Ne.symm ne_a_b21)
  replace Ex_b21 := Ex_b21.wr W52
  replace Av_b24 := Av_b24.other W52 (Ne.symm ne_a_b24)
  replace Ex_b24 := Ex_b24.wr W52
  replace Ah28 := Ah28.other W52 (Ne.symm ne_a_b2)
  replace Ah41 := Ah41.other W52 (Ne.symm ne_a_b4)
  have Z52 : n0 ≤ h52.size := Nat.le_trans Z41 (Keep.of_wr W52).1
  have Kp52 : Keep h0 h52 [a] := Kp41.wr W52 (Or.inl (List.mem_of_getElem? (i := 0) rfl))
  have F_terminated_a := Fw52
  have N52 := Fr.snoc X52 N41 g_a
  refine own_go (A := T52.setTop (mkF m 259 #[.val (.ref a), .val (.ref ap), .val (.ref am), .val (.ref ai), .val (.ref az), .val (.ref az), .val (.int nt), .val (.int nt), s8b] [])) (fun _ kz => st52 _ kz) ?_
  obtain ⟨fs, hrr, hrun, hended, hW, hsame⟩ := X52.leave (v := none) (fun _ => rfl)
  refine ⟨_, _, ?_, hrun, hended, _, _, rfl, ?_, ⟨_, rfl⟩, hW, hsame.mono (by decide) (by decide)⟩
  · show Steps p.tables e below (T52.setTop (mkF m 259 #[.val (.ref a), .val (.ref ap), .val (.ref am), .val (.ref ai), .val (.ref az), .val (.ref az), .val (.int nt), .val (.int nt), s8b] [])) _
    exact X52.returnOut hx Bd.returns (hb hby d2_259) hrr
  · show QrmInit Z a n ni nt xp xm xi xt h0 n0 _ T52.heap _
    rw [e52]
    refine ⟨b2, b4, b21, b24, k2, k4, kp, km, rfl, N52, Kp52, Ex_a, F_ignored_a, Ah28, F_terminators_a, Ah41, F_pattern_a, Av_b21, F_mask_a, Av_b24, ?_⟩
    have q := F_terminated_a
    rw [htm] at q
    exact q
theorem d4_0 : decode prog_2_method_5_code 0 = .ok (.aload_n 0, 1) := by decide +kernel
theorem d4_1 : decode prog_2_method_5_code 1 = .ok (.getfield 12, 3) := by decide +kernel
theorem d4_4 : decode prog_2_method_5_code 4 = .ok (.iload_n 1, 1) := by decide +kernel
theorem d4_5 : decode prog_2_method_5_code 5 = .ok (.sipush 255, 3) := by decide +kernel
theorem d4_8 : decode prog_2_method_5_code 8 = .ok (.iand, 1) := by decide +kernel
theorem d4_9 : decode prog_2_method_5_code 9 = .ok (.baload, 1) := by decide +kernel
theorem d4_10 : decode prog_2_method_5_code 10 = .ok (.ifCond .eq 8, 3) := by decide +kernel
theorem d4_13 : decode prog_2_method_5_code 13 = .ok (.iconst 1, 1) := by decide +kernel
theorem d4_14 : decode prog_2_method_5_code 14 = .ok (.istore_n 2, 1) := by decide +kernel
theorem d4_15 : decode prog_2_method_5_code 15 = .ok (.goto 64, 3) := by decide +kernel
theorem d4_18 : decode prog_2_method_5_code 18 = .ok (.aload_n 0, 1) := by decide +kernel
theorem d4_19 : decode prog_2_method_5_code 19 = .ok (.getfield 53, 3) := by decide +kernel
theorem d4_22 : decode prog_2_method_5_code 22 = .ok (.arraylength, 1) := by decide +kernel
theorem d4_23 : decode prog_2_method_5_code 23 = .ok (.ifCond .le 30, 3) := by decide +kernel
theorem d4_26 : decode prog_2_method_5_code 26 = .ok (.iload_n 1, 1) := by decide +kernel
theorem d4_27 : decode prog_2_method_5_code 27 = .ok (.aload_n 0, 1) := by decide +kernel
theorem d4_28 : decode prog_2_method_5_code 28 = .ok (.getfield 56, 3) := by decide +kernel
theorem d4_31 : decode prog_2_method_5_code 31 = .ok (.iconst 0, 1) := by decide +kernel
theorem d4_32 : decode prog_2_method_5_code 32 = .ok (.baload, 1) := by decide +kernel
theorem d4_33 : decode prog_2_method_5_code 33 = .ok (.iand, 1) := by decide +kernel
theorem d4_34 : decode prog_2_method_5_code 34 = .ok (.i2b, 1) := by decide +kernel
theorem d4_35 : decode prog_2_method_5_code 35 = .ok (.aload_n 0, 1) := by decide +kernel
theorem d4_36 : decode prog_2_method_5_code 36 = .ok (.getfield 53, 3) := by decide +kernel
theorem d4_39 : decode prog_2_method_5_code 39 = .ok (.iconst 0, 1) := by decide +kernel
theorem d4_40 : decode prog_2_method_5_code 40 = .ok (.baload, 1) := by decide +kernel
theorem d4_41 : decode prog_2_method_5_code 41 = .ok (.if_icmp .ne 7, 3) := by decide +kernel
theorem d4_44 : decode prog_2_method_5_code 44 = .ok (.iconst 1, 1) := by decide +kernel
theorem d4_45 : decode prog_2_method_5_code 45 = .ok (.goto 4, 3) := by decide +kernel
theorem d4_48 : decode prog_2_method_5_code 48 = .ok (.iconst 0, 1) := by decide +kernel
theorem d4_49 : decode prog_2_method_5_code 49 = .ok (.istore_n 2, 1) := by decide +kernel
theorem d4_50 : decode prog_2_method_5_code 50 = .ok (.goto 29, 3) := by decide +kernel
theorem d4_53 : decode prog_2_method_5_code 53 = .ok (.aload_n 0, 1) := by decide +kernel
theorem d4_54 : decode prog_2_method_5_code 54 = .ok (.getfield 63, 3) := by decide +kernel
theorem d4_57 : decode prog_2_method_5_code 57 = .ok (.ifCond .eq 16, 3) := by decide +kernel
theorem d4_60 : decode prog_2_method_5_code 60 = .ok (.aload_n 0, 1) := by decide +kernel
theorem d4_61 : decode prog_2_method_5_code 61 = .ok (.getfield 16, 3) := by decide +kernel
theorem d4_64 : decode prog_2_method_5_code 64 = .ok (.iload_n 1, 1) := by decide +kernel
theorem d4_65 : decode prog_2_method_5_code 65 = .ok (.sipush 255, 3) := by decide +kernel
theorem d4_68 : decode prog_2_method_5_code 68 = .ok (.iand, 1) := by decide +kernel
theorem d4_69 : decode prog_2_method_5_code 69 = .ok (.baload, 1) := by decide +kernel
theorem d4_70 : decode prog_2_method_5_code 70 = .ok (.ifCond .eq 7, 3) := by decide +kernel
theorem d4_73 : decode prog_2_method_5_code 73 = .ok (.iconst 1, 1) := by decide +kernel
theorem d4_74 : decode prog_2_method_5_code 74 = .ok (.goto 4, 3) := by decide +kernel
theorem d4_77 : decode prog_2_method_5_code 77 = .ok (.iconst 0, 1) := by decide +kernel
theorem d4_78 : decode prog_2_method_5_code 78 = .ok (.istore_n 2, 1) := by decide +kernel
theorem d4_79 : decode prog_2_method_5_code 79 = .ok (.iload_n 2, 1) := by decide +kernel
theorem d4_80 : decode prog_2_method_5_code 80 = .ok (.ireturn, 1) := by decide +kernel
theorem own_pn4 : plainName "com/example/sharp_nose/sharpnose/BytePattern" = true := by first | (simp [plainName, overriddenIn]; done) | decide +kernel
theorem own_ef4 (m : MethodId) (x0 : Addr) (x1 : Int32) : entryFrame m #[(.ref x0), (.int x1)] 3 = mkF m 0 #[.val (.ref x0), .val (.int x1), .unset] [] := by first | (simp [entryFrame, mkF, argsToLocals, Value.category]; done) | rfl
def QrmCM (Z : State) (f : Int32) (n : Int32) (ni : Int32) (nt : Int32) (xp : Int32) (xm : Int32) (xi : Int32) (xt : Int32) (h0 : Heap) (n0 : Nat) (v : Option Value) (h : Heap) (L : List Loc) : Prop := v = some (.int (own_cm f n ni nt xp xm xi xt)) ∧ Fr n0 L ∧ h = h0
set_option maxRecDepth 65536 in
set_option maxHeartbeats 40000000 in
theorem rmCM (l : Launch) (Z : State) (a0 : Array Value) (hw : ∀ d ∈ tables_1, d.before a0 Z = true) (ws : List Jvm.Cond) (a : Addr) (f : Int32) (bi bt bp bm : Addr) (kbi kbt kbp kbm : ClassId) (n ni nt xp xm xi xt : Int32) (h0 : Heap) (n0 : Nat) (Z0 : n0 ≤ h0.size) (hn : n = (0 : Int32) ∨ n = (1 : Int32) ∨ n = (2 : Int32)) (hni : ni = (0 : Int32) ∨ ni = (1 : Int32) ∨ ni = (2 : Int32)) (hnt : nt = (0 : Int32) ∨ nt = (1 : Int32) ∨ nt = (2 : Int32)) (Fi : Fld Z h0 a "com/example/sharp_nose/sharpnose/BytePattern" "ignored" "[Z" (.ref bi)) (Hi : Arh Z h0 bi kbi .boolean (256 : Int32) (own_hs ni xi) [] (.int (0 : Int32))) (Ft : Fld Z h0 a "com/example/sharp_nose/sharpnose/BytePattern" "terminators" "[Z" (.ref bt)) (Ht : Arh Z h0 bt kbt .boolean (256 : Int32) (own_hs nt xt) [] (.int (0 : Int32))) (Fp : Fld Z h0 a "com/example/sharp_nose/sharpnose/BytePattern" "pattern" "[B" (.ref bp)) (Ap : Arv Z h0 bp kbp .byte n (own_l2 n xp) (.int (0 : Int32))) (Fm : Fld Z h0 a "com/example/sharp_nose/sharpnose/BytePattern" "mask" "[B" (.ref bm)) (Am : Arv Z h0 bm kbm .byte n (own_l2 n xm) (.int (0 : Int32))) (Fz : Fld Z h0 a "com/example/sharp_nose/sharpnose/BytePattern" "terminated" "Z" (.int (own_tm nt))) :
    MetFree l (⟨"com/example/sharp_nose/sharpnose/BytePattern", "couldMatchFrom", "(B)Z"⟩ : MethodName) (head1 (Jvm.Cond.code (⟨"com/example/sharp_nose/sharpnose/BytePattern", "couldMatchFrom", "(B)Z"⟩ : MethodName) prog_2_method_5_code 3 (some .boolean) :: ws) ({ frames := 0, cells := 0, slots := 0, locals := 0 } : Room)) (fun ar_ U_ => ar_ = #[(.ref a), (.int f)] ∧ Z.Warmed39 U_.vm ∧ U_.heap = h0) (fun _ _ _ _ _ => True) (fun _ U_ ou_ V_ => ∃ v_ L_, ou_ = .returned v_ ∧ QrmCM Z f n ni nt xp xm xi xt h0 n0 v_ V_.heap L_ ∧ FrameEnd U_ ou_ V_ L_ ({ frames := 0, cells := 0, slots := 0, locals := 0 } : Room).cells ({ frames := 0, cells := 0, slots := 0, locals := 0 } : Room).slots) := by
  refine MetFree.of_bodySF (plainFor_of_name own_pn4) hisR ?_
  intro p e s m args below meth c s₁ Bd hml0 hP hK
  obtain ⟨rfl, hZ, hh⟩ := hP
  have hx := Bd.exec
  have hby := Bd.bytes
  have hml : c.maxLocals = 3 := hml0
  have hown : s.vm.findClass "com/example/sharp_nose/sharpnose/BytePattern" = some m.cls := findClass_of_methodNamed Bd.named
  have hnm := (name_of_methodNamed Bd.named Bd.method).1
  have X0 : Stand p l e ({ frames := 0, cells := 0, slots := 0, locals := 0 } : Room) s m #[(.ref a), (.int f)] below meth c s₁ [] 0 0 := Stand.of_body Bd
  have e0 : s₁.heap = h0 := by rw [← hh, Bd.state]; rfl
  have N0 := Fr.nil n0
  refine own_go (A := s₁.setTop (mkF m 0 #[.val (.ref a), .val (.int f), .unset] [])) (fun t kz => castTop (own_ef4 m a f) kz) ?_
  refine own_go (A := s₁.setTop (mkF m 1 #[.val (.ref a), .val (.int f), .unset] [(.ref a)])) (fun _ kz => ?_) ?_
  · show Steps p.tables e below (s₁.setTop (mkF m 0 #[.val (.ref a), .val (.int f), .unset] [])) _
    refine XS.aloadN X0.here hx rfl (hb hby d4_0) rfl rfl ?_
    exact kz
  obtain ⟨T1, X1, e1, st1⟩ := getF X0 hx hZ hown (host := "") (Or.inl (hw _ (List.mem_of_getElem? (i := 15) rfl))) Via.refl e0 Fi (g := (mkF m 1 #[.val (.ref a), .val (.int f), .unset] [(.ref a)])) rfl rfl (hb hby d4_1)
  refine own_go (A := T1.setTop (mkF m 4 #[.val (.ref a), .val (.int f), .unset] [(.ref bi)])) (fun _ kz => st1 _ kz) ?_
  refine own_go (A := T1.setTop (mkF m 9 #[.val (.ref a), .val (.int f), .unset] [(.int (f &&& (255 : Int32))), (.ref bi)])) (fun _ kz => ?_) ?_
  · show Steps p.tables e below (T1.setTop (mkF m 4 #[.val (.ref a), .val (.int f), .unset] [(.ref bi)])) _
    refine XS.iloadN X1.here hx rfl (hb hby d4_4) rfl ?_
    show Steps p.tables e below (T1.setTop (mkF m 5 #[.val (.ref a), .val (.int f), .unset] [(.int f), (.ref bi)])) _
    refine XS.sipush X1.here hx rfl (hb hby d4_5) ?_
    show Steps p.tables e below (T1.setTop (mkF m 8 #[.val (.ref a), .val (.int f), .unset] [(.int (255 : Int32)), (.int f), (.ref bi)])) _
    refine XS.iand X1.here hx rfl (hb hby d4_8) rfl ?_
    exact kz
  obtain ⟨cl2, Ar2, -, S2, -, H2, -⟩ := id Hi
  have hin2 : ¬ ((f &&& (255 : Int32)) < 0 ∨ cl2.slots.size ≤ ((f &&& (255 : Int32))).toNatClampNeg) := inb_of S2 ⟨own_a0 _, own_a1 _⟩
  have hat2 : cl2.slots[((f &&& (255 : Int32))).toNatClampNeg]? = some (.int (own_hv ni xi (f &&& (255 : Int32)))) := atH H2 hin2 (own_hvat hni (own_a0 _))
  refine own_go (A := T1.setTop (mkF m 10 #[.val (.ref a), .val (.int f), .unset] [(.int (own_hv ni xi (f &&& (255 : Int32))))])) (fun _ kz => ?_) ?_
  · refine X1.baloadBooleans hx (j := (f &&& (255 : Int32))) (v := (.int (own_hv ni xi (f &&& (255 : Int32))))) (by rw [e1]; exact Ar2.1) (State.isArrayOf_alike hZ.alike Ar2.2.1) Ar2.2.2 hin2 hat2 (g := (mkF m 9 #[.val (.ref a), .val (.int f), .unset] [(.int (f &&& (255 : Int32))), (.ref bi)])) rfl rfl (hb hby d4_9) _ ?_
    exact kz
  by_cases hs3 : (own_hv ni xi (f &&& (255 : Int32))) = (0 : Int32)
  · skip
    refine own_go (A := T1.setTop (mkF m 18 #[.val (.ref a), .val (.int f), .unset] [])) (fun _ kz => ?_) ?_
    · show Steps p.tables e below (T1.setTop (mkF m 10 #[.val (.ref a), .val (.int f), .unset] [(.int (own_hv ni xi (f &&& (255 : Int32))))])) _
      refine XS.ifYes X1.here hx rfl (pc0 := 10) (pc' := 18) rfl (hb hby d4_10) rfl ((if0 _ _).trans (teq hs3).1) (by decide) (by decide) ?_
      exact kz
    refine own_go (A := T1.setTop (mkF m 19 #[.val (.ref a), .val (.int f), .unset] [(.ref a)])) (fun _ kz => ?_) ?_
    · show Steps p.tables e below (T1.setTop (mkF m 18 #[.val (.ref a), .val (.int f), .unset] [])) _
      refine XS.aloadN X1.here hx rfl (hb hby d4_18) rfl rfl ?_
      exact kz
    obtain ⟨T4, X4, e4, st4⟩ := getF X1 hx hZ hown (host := "") (Or.inl (hw _ (List.mem_of_getElem? (i := 28) rfl))) Via.refl e1 Fp (g := (mkF m 19 #[.val (.ref a), .val (.int f), .unset] [(.ref a)])) rfl rfl (hb hby d4_19)
    refine own_go (A := T4.setTop (mkF m 22 #[.val (.ref a), .val (.int f), .unset] [(.ref bp)])) (fun _ kz => st4 _ kz) ?_
    obtain ⟨cl5, Ar5, -, S5, M5, -, -⟩ := id Ap
    refine own_go (A := T4.setTop (mkF m 23 #[.val (.ref a), .val (.int f), .unset] [(.int n)])) (fun _ kz => ?_) ?_
    · refine X4.arraylength hx (by rw [e4]; exact Ar5.1) (State.isArrayOf_alike hZ.alike Ar5.2.1) (g := (mkF m 22 #[.val (.ref a), .val (.int f), .unset] [(.ref bp)])) rfl rfl (hb hby d4_22) _ ?_
      rw [len_of S5 M5]
      exact kz
    by_cases hs6 : (0 : Int32) < n
    · skip
      refine own_go (A := T4.setTop (mkF m 26 #[.val (.ref a), .val (.int f), .unset] [])) (fun _ kz => ?_) ?_
      · show Steps p.tables e below (T4.setTop (mkF m 23 #[.val (.ref a), .val (.int f), .unset] [(.int n)])) _
        refine XS.ifNo X4.here hx rfl (hb hby d4_23) rfl ((if0 _ _).trans (tlt hs6).2.2.2) ?_
        exact kz
      refine own_go (A := T4.setTop (mkF m 28 #[.val (.ref a), .val (.int f), .unset] [(.ref a), (.int f)])) (fun _ kz => ?_) ?_
      · show Steps p.tables e below (T4.setTop (mkF m 26 #[.val (.ref a), .val (.int f), .unset] [])) _
        refine XS.iloadN X4.here hx rfl (hb hby d4_26) rfl ?_
        show Steps p.tables e below (T4.setTop (mkF m 27 #[.val (.ref a), .val (.int f), .unset] [(.int f)])) _
        refine XS.aloadN X4.here hx rfl (hb hby d4_27) rfl rfl ?_
        exact kz
      obtain ⟨T7, X7, e7, st7⟩ := getF X4 hx hZ hown (host := "") (Or.inl (hw _ (List.mem_of_getElem? (i := 30) rfl))) Via.refl e4 Fm (g := (mkF m 28 #[.val (.ref a), .val (.int f), .unset] [(.ref a), (.int f)])) rfl rfl (hb hby d4_28)
      refine own_go (A := T7.setTop (mkF m 31 #[.val (.ref a), .val (.int f), .unset] [(.ref bm), (.int f)])) (fun _ kz => st7 _ kz) ?_
      refine own_go (A := T7.setTop (mkF m 32 #[.val (.ref a), .val (.int f), .unset] [(.int (0 : Int32)), (.ref bm), (.int f)])) (fun _ kz => ?_) ?_
      · show Steps p.tables e below (T7.setTop (mkF m 31 #[.val (.ref a), .val (.int f), .unset] [(.ref bm), (.int f)])) _
        refine XS.iconst X7.here hx rfl (hb hby d4_31) ?_
        exact kz
      obtain ⟨cl8, Ar8, -, S8, M8, H8, -⟩ := id Am
      have hin8 : ¬ ((0 : Int32) < 0 ∨ cl8.slots.size ≤ ((0 : Int32)).toNatClampNeg) := inb_of S8 ⟨by decide, hs6⟩
      have hat8 : cl8.slots[((0 : Int32)).toNatClampNeg]? = some (.int (own_b0 xm)) := H8.at hin8 (own_l20 hn hs6)
      refine own_go (A := T7.setTop (mkF m 33 #[.val (.ref a), .val (.int f), .unset] [(.int (own_b0 xm)), (.int f)])) (fun _ kz => ?_) ?_
      · refine X7.baloadBytes hx (j := (0 : Int32)) (v := (.int (own_b0 xm))) (by rw [e7]; exact Ar8.1) (State.isArrayOf_alike hZ.alike Ar8.2.1) Ar8.2.2 hin8 hat8 (g := (mkF m 32 #[.val (.ref a), .val (.int f), .unset] [(.int (0 : Int32)), (.ref bm), (.int f)])) rfl rfl (hb hby d4_32) _ ?_
        exact kz
      refine own_go (A := T7.setTop (mkF m 36 #[.val (.ref a), .val (.int f), .unset] [(.ref a), (.int ((f &&& (own_b0 xm)).toInt8.toInt32))])) (fun _ kz => ?_) ?_
      · show Steps p.tables e below (T7.setTop (mkF m 33 #[.val (.ref a), .val (.int f), .unset] [(.int (own_b0 xm)), (.int f)])) _
        refine XS.iand X7.here hx rfl (hb hby d4_33) rfl ?_
        show Steps p.tables e below (T7.setTop (mkF m 34 #[.val (.ref a), .val (.int f), .unset] [(.int (f &&& (own_b0 xm)))])) _
        refine XS.i2b X7.here hx rfl (hb hby d4_34) rfl ?_
        show Steps p.tables e below (T7.setTop (mkF m 35 #[.val (.ref a), .val (.int f), .unset] [(.int ((f &&& (own_b0 xm)).toInt8.toInt32))])) _
        refine XS.aloadN X7.here hx rfl (hb hby d4_35) rfl rfl ?_
        exact kz
      obtain ⟨T9, X9, e9, st9⟩ := getF X7 hx hZ hown (host := "") (Or.inl (hw _ (List.mem_of_getElem? (i := 28) rfl))) Via.refl e7 Fp (g := (mkF m 36 #[.val (.ref a), .val (.int f), .unset] [(.ref a), (.int ((f &&& (own_b0 xm)).toInt8.toInt32))])) rfl rfl (hb hby d4_36)
      refine own_go (A := T9.setTop (mkF m 39 #[.val (.ref a), .val (.int f), .unset] [(.ref bp), (.int ((f &&& (own_b0 xm)).toInt8.toInt32))])) (fun _ kz => st9 _ kz) ?_
      refine own_go (A := T9.setTop (mkF m 40 #[.val (.ref a), .val (.int f), .unset] [(.int (0 : Int32)), (.ref bp), (.int ((f &&& (own_b0 xm)).toInt8.toInt32))])) (fun _ kz => ?_) ?_
      · show Steps p.tables e below (T9.setTop (mkF m 39 #[.val (.ref a), .val (.int f), .unset] [(.ref bp), (.int ((f &&& (own_b0 xm)).toInt8.toInt32))])) _
        refine XS.iconst X9.here hx rfl (hb hby d4_39) ?_
        exact kz
      obtain ⟨cl10, Ar10, -, S10, M10, H10, -⟩ := id Ap
      have hin10 : ¬ ((0 : Int32) < 0 ∨ cl10.slots.size ≤ ((0 : Int32)).toNatClampNeg) := inb_of S10 ⟨by decide, hs6⟩
      have hat10 : cl10.slots[((0 : Int32)).toNatClampNeg]? = some (.int (own_b0 xp)) := H10.at hin10 (own_l20 hn hs6)
      refine own_go (A := T9.setTop (mkF m 41 #[.val (.ref a), .val (.int f), .unset] [(.int (own_b0 xp)), (.int ((f &&& (own_b0 xm)).toInt8.toInt32))])) (fun _ kz => ?_) ?_
      · refine X9.baloadBytes hx (j := (0 : Int32)) (v := (.int (own_b0 xp))) (by rw [e9]; exact Ar10.1) (State.isArrayOf_alike hZ.alike Ar10.2.1) Ar10.2.2 hin10 hat10 (g := (mkF m 40 #[.val (.ref a), .val (.int f), .unset] [(.int (0 : Int32)), (.ref bp), (.int ((f &&& (own_b0 xm)).toInt8.toInt32))])) rfl rfl (hb hby d4_40) _ ?_
        exact kz
      by_cases hs11 : ((f &&& (own_b0 xm)).toInt8.toInt32) = (own_b0 xp)
      · skip
        refine own_go (A := T9.setTop (mkF m 44 #[.val (.ref a), .val (.int f), .unset] [])) (fun _ kz => ?_) ?_
        · show Steps p.tables e below (T9.setTop (mkF m 41 #[.val (.ref a), .val (.int f), .unset] [(.int (own_b0 xp)), (.int ((f &&& (own_b0 xm)).toInt8.toInt32))])) _
          refine XS.icmpNo X9.here hx rfl (hb hby d4_41) rfl (teq hs11).2 ?_
          exact kz
        refine own_go (A := T9.setTop (mkF m 80 #[.val (.ref a), .val (.int f), .val (.int (1 : Int32))] [(.int (1 : Int32))])) (fun _ kz => ?_) ?_
        · show Steps p.tables e below (T9.setTop (mkF m 44 #[.val (.ref a), .val (.int f), .unset] [])) _
          refine XS.iconst X9.here hx rfl (hb hby d4_44) ?_
          show Steps p.tables e below (T9.setTop (mkF m 45 #[.val (.ref a), .val (.int f), .unset] [(.int (1 : Int32))])) _
          refine XS.goto X9.here hx rfl (pc0 := 45) (pc' := 49) rfl (hb hby d4_45) (by decide) (by decide) ?_
          show Steps p.tables e below (T9.setTop (mkF m 49 #[.val (.ref a), .val (.int f), .unset] [(.int (1 : Int32))])) _
          refine XS.istoreN X9.here hx rfl (hb hby d4_49) rfl (l' := #[.val (.ref a), .val (.int f), .val (.int (1 : Int32))]) rfl ?_
          show Steps p.tables e below (T9.setTop (mkF m 50 #[.val (.ref a), .val (.int f), .val (.int (1 : Int32))] [])) _
          refine XS.goto X9.here hx rfl (pc0 := 50) (pc' := 79) rfl (hb hby d4_50) (by decide) (by decide) ?_
          show Steps p.tables e below (T9.setTop (mkF m 79 #[.val (.ref a), .val (.int f), .val (.int (1 : Int32))] [])) _
          refine XS.iloadN X9.here hx rfl (hb hby d4_79) rfl ?_
          exact kz
        obtain ⟨fs, hrr, hrun, hended, hW, hsame⟩ := X9.leave (v := some (.int (1 : Int32))) (fun h => by rw [Bd.returns] at h; cases h)
        refine ⟨_, _, ?_, hrun, hended, _, _, rfl, ?_, ⟨_, rfl⟩, hW, hsame.mono (by decide) (by decide)⟩
        · show Steps p.tables e below (T9.setTop (mkF m 80 #[.val (.ref a), .val (.int f), .val (.int (1 : Int32))] [(.int (1 : Int32))])) _
          exact retN X9 hx (t := .boolean) Bd.returns (by simp) (hb hby d4_80) hrr
        · show QrmCM Z f n ni nt xp xm xi xt h0 n0 _ T9.heap _
          rw [e9]
          exact ⟨by unfold own_cm; rw [if_pos hs3, if_pos hs6, if_pos hs11], N0, rfl⟩
      · skip
        refine own_go (A := T9.setTop (mkF m 48 #[.val (.ref a), .val (.int f), .unset] [])) (fun _ kz => ?_) ?_
        · show Steps p.tables e below (T9.setTop (mkF m 41 #[.val (.ref a), .val (.int f), .unset] [(.int (own_b0 xp)), (.int ((f &&& (own_b0 xm)).toInt8.toInt32))])) _
          refine XS.icmpYes X9.here hx rfl (pc0 := 41) (pc' := 48) rfl (hb hby d4_41) rfl (feq hs11).2 (by decide) (by decide) ?_
          exact kz
        refine own_go (A := T9.setTop (mkF m 80 #[.val (.ref a), .val (.int f), .val (.int (0 : Int32))] [(.int (0 : Int32))])) (fun _ kz => ?_) ?_
        · show Steps p.tables e below (T9.setTop (mkF m 48 #[.val (.ref a), .val (.int f), .unset] [])) _
          refine XS.iconst X9.here hx rfl (hb hby d4_48) ?_
          show Steps p.tables e below (T9.setTop (mkF m 49 #[.val (.ref a), .val (.int f), .unset] [(.int (0 : Int32))])) _
          refine XS.istoreN X9.here hx rfl (hb hby d4_49) rfl (l' := #[.val (.ref a), .val (.int f), .val (.int (0 : Int32))]) rfl ?_
          show Steps p.tables e below (T9.setTop (mkF m 50 #[.val (.ref a), .val (.int f), .val (.int (0 : Int32))] [])) _
          refine XS.goto X9.here hx rfl (pc0 := 50) (pc' := 79) rfl (hb hby d4_50) (by decide) (by decide) ?_
          show Steps p.tables e below (T9.setTop (mkF m 79 #[.val (.ref a), .val (.int f), .val (.int (0 : Int32))] [])) _
          refine XS.iloadN X9.here hx rfl (hb hby d4_79) rfl ?_
          exact kz
        obtain ⟨fs, hrr, hrun, hended, hW, hsame⟩ := X9.leave (v := some (.int (0 : Int32))) (fun h => by rw [Bd.returns] at h; cases h)
        refine ⟨_, _, ?_, hrun, hended, _, _, rfl, ?_, ⟨_, rfl⟩, hW, hsame.mono (by decide) (by decide)⟩
        · show Steps p.tables e below (T9.setTop (mkF m 80 #[.val (.ref a), .val (.int f), .val (.int (0 : Int32))] [(.int (0 : Int32))])) _
          exact retN X9 hx (t := .boolean) Bd.returns (by simp) (hb hby d4_80) hrr
        · show QrmCM Z f n ni nt xp xm xi xt h0 n0 _ T9.heap _
          rw [e9]
          exact ⟨by unfold own_cm; rw [if_pos hs3, if_pos hs6, if_neg hs11], N0, rfl⟩
    · skip
      refine own_go (A := T4.setTop (mkF m 53 #[.val (.ref a), .val (.int f), .unset] [])) (fun _ kz => ?_) ?_
      · show Steps p.tables e below (T4.setTop (mkF m 23 #[.val (.ref a), .val (.int f), .unset] [(.int n)])) _
        refine XS.ifYes X4.here hx rfl (pc0 := 23) (pc' := 53) rfl (hb hby d4_23) rfl ((if0 _ _).trans (flt hs6).2.2.2) (by decide) (by decide) ?_
        exact kz
      refine own_go (A := T4.setTop (mkF m 54 #[.val (.ref a), .val (.int f), .unset] [(.ref a)])) (fun _ kz => ?_) ?_
      · show Steps p.tables e below (T4.setTop (mkF m 53 #[.val (.ref a), .val (.int f), .unset] [])) _
        refine XS.aloadN X4.here hx rfl (hb hby d4_53) rfl rfl ?_
        exact kz
      obtain ⟨T12, X12, e12, st12⟩ := getF X4 hx hZ hown (host := "") (Or.inl (hw _ (List.mem_of_getElem? (i := 34) rfl))) Via.refl e4 Fz (g := (mkF m 54 #[.val (.ref a), .val (.int f), .unset] [(.ref a)])) rfl rfl (hb hby d4_54)
      refine own_go (A := T12.setTop (mkF m 57 #[.val (.ref a), .val (.int f), .unset] [(.int (own_tm nt))])) (fun _ kz => st12 _ kz) ?_
      by_cases hs13 : (own_tm nt) = (0 : Int32)
      · skip
        refine own_go (A := T12.setTop (mkF m 73 #[.val (.ref a), .val (.int f), .unset] [])) (fun _ kz => ?_) ?_
        · show Steps p.tables e below (T12.setTop (mkF m 57 #[.val (.ref a), .val (.int f), .unset] [(.int (own_tm nt))])) _
          refine XS.ifYes X12.here hx rfl (pc0 := 57) (pc' := 73) rfl (hb hby d4_57) rfl ((if0 _ _).trans (teq hs13).1) (by decide) (by decide) ?_
          exact kz
        refine own_go (A := T12.setTop (mkF m 80 #[.val (.ref a), .val (.int f), .val (.int (1 : Int32))] [(.int (1 : Int32))])) (fun _ kz => ?_) ?_
        · show Steps p.tables e below (T12.setTop (mkF m 73 #[.val (.ref a), .val (.int f), .unset] [])) _
          refine XS.iconst X12.here hx rfl (hb hby d4_73) ?_
          show Steps p.tables e below (T12.setTop (mkF m 74 #[.val (.ref a), .val (.int f), .unset] [(.int (1 : Int32))])) _
          refine XS.goto X12.here hx rfl (pc0 := 74) (pc' := 78) rfl (hb hby d4_74) (by decide) (by decide) ?_
          show Steps p.tables e below (T12.setTop (mkF m 78 #[.val (.ref a), .val (.int f), .unset] [(.int (1 : Int32))])) _
          refine XS.istoreN X12.here hx rfl (hb hby d4_78) rfl (l' := #[.val (.ref a), .val (.int f), .val (.int (1 : Int32))]) rfl ?_
          show Steps p.tables e below (T12.setTop (mkF m 79 #[.val (.ref a), .val (.int f), .val (.int (1 : Int32))] [])) _
          refine XS.iloadN X12.here hx rfl (hb hby d4_79) rfl ?_
          exact kz
        obtain ⟨fs, hrr, hrun, hended, hW, hsame⟩ := X12.leave (v := some (.int (1 : Int32))) (fun h => by rw [Bd.returns] at h; cases h)
        refine ⟨_, _, ?_, hrun, hended, _, _, rfl, ?_, ⟨_, rfl⟩, hW, hsame.mono (by decide) (by decide)⟩
        · show Steps p.tables e below (T12.setTop (mkF m 80 #[.val (.ref a), .val (.int f), .val (.int (1 : Int32))] [(.int (1 : Int32))])) _
          exact retN X12 hx (t := .boolean) Bd.returns (by simp) (hb hby d4_80) hrr
        · show QrmCM Z f n ni nt xp xm xi xt h0 n0 _ T12.heap _
          rw [e12]
          exact ⟨by unfold own_cm; rw [if_pos hs3, if_neg hs6, if_pos hs13], N0, rfl⟩
      · skip
        refine own_go (A := T12.setTop (mkF m 60 #[.val (.ref a), .val (.int f), .unset] [])) (fun _ kz => ?_) ?_
        · show Steps p.tables e below (T12.setTop (mkF m 57 #[.val (.ref a), .val (.int f), .unset] [(.int (own_tm nt))])) _
          refine XS.ifNo X12.here hx rfl (hb hby d4_57) rfl ((if0 _ _).trans (feq hs13).1) ?_
          exact kz
        refine own_go (A := T12.setTop (mkF m 61 #[.val (.ref a), .val (.int f), .unset] [(.ref a)])) (fun _ kz => ?_) ?_
        · show Steps p.tables e below (T12.setTop (mkF m 60 #[.val (.ref a), .val (.int f), .unset] [])) _
          refine XS.aloadN X12.here hx rfl (hb hby d4_60) rfl rfl ?_
          exact kz
        obtain ⟨T14, X14, e14, st14⟩ := getF X12 hx hZ hown (host := "") (Or.inl (hw _ (List.mem_of_getElem? (i := 17) rfl))) Via.refl e12 Ft (g := (mkF m 61 #[.val (.ref a), .val (.int f), .unset] [(.ref a)])) rfl rfl (hb hby d4_61)
        refine own_go (A := T14.setTop (mkF m 64 #[.val (.ref a), .val (.int f), .unset] [(.ref bt)])) (fun _ kz => st14 _ kz) ?_
        refine own_go (A := T14.setTop (mkF m 69 #[.val (.ref a), .val (.int f), .unset] [(.int (f &&& (255 : Int32))), (.ref bt)])) (fun _ kz => ?_) ?_
        · show Steps p.tables e below (T14.setTop (mkF m 64 #[.val (.ref a), .val (.int f), .unset] [(.ref bt)])) _
          refine XS.iloadN X14.here hx rfl (hb hby d4_64) rfl ?_
          show Steps p.tables e below (T14.setTop (mkF m 65 #[.val (.ref a), .val (.int f), .unset] [(.int f), (.ref bt)])) _
          refine XS.sipush X14.here hx rfl (hb hby d4_65) ?_
          show Steps p.tables e below (T14.setTop (mkF m 68 #[.val (.ref a), .val (.int f), .unset] [(.int (255 : Int32)), (.int f), (.ref bt)])) _
          refine XS.iand X14.here hx rfl (hb hby d4_68) rfl ?_
          exact kz
        obtain ⟨cl15, Ar15, -, S15, -, H15, -⟩ := id Ht
        have hin15 : ¬ ((f &&& (255 : Int32)) < 0 ∨ cl15.slots.size ≤ ((f &&& (255 : Int32))).toNatClampNeg) := inb_of S15 ⟨own_a0 _, own_a1 _⟩
        have hat15 : cl15.slots[((f &&& (255 : Int32))).toNatClampNeg]? = some (.int (own_hv nt xt (f &&& (255 : Int32)))) := atH H15 hin15 (own_hvat hnt (own_a0 _))
        refine own_go (A := T14.setTop (mkF m 70 #[.val (.ref a), .val (.int f), .unset] [(.int (own_hv nt xt (f &&& (255 : Int32))))])) (fun _ kz => ?_) ?_
        · refine X14.baloadBooleans hx (j := (f &&& (255 : Int32))) (v := (.int (own_hv nt xt (f &&& (255 : Int32))))) (by rw [e14]; exact Ar15.1) (State.isArrayOf_alike hZ.alike Ar15.2.1) Ar15.2.2 hin15 hat15 (g := (mkF m 69 #[.val (.ref a), .val (.int f), .unset] [(.int (f &&& (255 : Int32))), (.ref bt)])) rfl rfl (hb hby d4_69) _ ?_
          exact kz
        by_cases hs16 : (own_hv nt xt (f &&& (255 : Int32))) = (0 : Int32)
        · skip
          refine own_go (A := T14.setTop (mkF m 77 #[.val (.ref a), .val (.int f), .unset] [])) (fun _ kz => ?_) ?_
          · show Steps p.tables e below (T14.setTop (mkF m 70 #[.val (.ref a), .val (.int f), .unset] [(.int (own_hv nt xt (f &&& (255 : Int32))))])) _
            refine XS.ifYes X14.here hx rfl (pc0 := 70) (pc' := 77) rfl (hb hby d4_70) rfl ((if0 _ _).trans (teq hs16).1) (by decide) (by decide) ?_
            exact kz
          refine own_go (A := T14.setTop (mkF m 80 #[.val (.ref a), .val (.int f), .val (.int (0 : Int32))] [(.int (0 : Int32))])) (fun _ kz => ?_) ?_
          · show Steps p.tables e below (T14.setTop (mkF m 77 #[.val (.ref a), .val (.int f), .unset] [])) _
            refine XS.iconst X14.here hx rfl (hb hby d4_77) ?_
            show Steps p.tables e below (T14.setTop (mkF m 78 #[.val (.ref a), .val (.int f), .unset] [(.int (0 : Int32))])) _
            refine XS.istoreN X14.here hx rfl (hb hby d4_78) rfl (l' := #[.val (.ref a), .val (.int f), .val (.int (0 : Int32))]) rfl ?_
            show Steps p.tables e below (T14.setTop (mkF m 79 #[.val (.ref a), .val (.int f), .val (.int (0 : Int32))] [])) _
            refine XS.iloadN X14.here hx rfl (hb hby d4_79) rfl ?_
            exact kz
          obtain ⟨fs, hrr, hrun, hended, hW, hsame⟩ := X14.leave (v := some (.int (0 : Int32))) (fun h => by rw [Bd.returns] at h; cases h)
          refine ⟨_, _, ?_, hrun, hended, _, _, rfl, ?_, ⟨_, rfl⟩, hW, hsame.mono (by decide) (by decide)⟩
          · show Steps p.tables e below (T14.setTop (mkF m 80 #[.val (.ref a), .val (.int f), .val (.int (0 : Int32))] [(.int (0 : Int32))])) _
            exact retN X14 hx (t := .boolean) Bd.returns (by simp) (hb hby d4_80) hrr
          · show QrmCM Z f n ni nt xp xm xi xt h0 n0 _ T14.heap _
            rw [e14]
            exact ⟨by unfold own_cm; rw [if_pos hs3, if_neg hs6, if_neg hs13, if_pos hs16], N0, rfl⟩
        · skip
          refine own_go (A := T14.setTop (mkF m 73 #[.val (.ref a), .val (.int f), .unset] [])) (fun _ kz => ?_) ?_
          · show Steps p.tables e below (T14.setTop (mkF m 70 #[.val (.ref a), .val (.int f), .unset] [(.int (own_hv nt xt (f &&& (255 : Int32))))])) _
            refine XS.ifNo X14.here hx rfl (hb hby d4_70) rfl ((if0 _ _).trans (feq hs16).1) ?_
            exact kz
          refine own_go (A := T14.setTop (mkF m 80 #[.val (.ref a), .val (.int f), .val (.int (1 : Int32))] [(.int (1 : Int32))])) (fun _ kz => ?_) ?_
          · show Steps p.tables e below (T14.setTop (mkF m 73 #[.val (.ref a), .val (.int f), .unset] [])) _
            refine XS.iconst X14.here hx rfl (hb hby d4_73) ?_
            show Steps p.tables e below (T14.setTop (mkF m 74 #[.val (.ref a), .val (.int f), .unset] [(.int (1 : Int32))])) _
            refine XS.goto X14.here hx rfl (pc0 := 74) (pc' := 78) rfl (hb hby d4_74) (by decide) (by decide) ?_
            show Steps p.tables e below (T14.setTop (mkF m 78 #[.val (.ref a), .val (.int f), .unset] [(.int (1 : Int32))])) _
            refine XS.istoreN X14.here hx rfl (hb hby d4_78) rfl (l' := #[.val (.ref a), .val (.int f), .val (.int (1 : Int32))]) rfl ?_
            show Steps p.tables e below (T14.setTop (mkF m 79 #[.val (.ref a), .val (.int f), .val (.int (1 : Int32))] [])) _
            refine XS.iloadN X14.here hx rfl (hb hby d4_79) rfl ?_
            exact kz
          obtain ⟨fs, hrr, hrun, hended, hW, hsame⟩ := X14.leave (v := some (.int (1 : Int32))) (fun h => by rw [Bd.returns] at h; cases h)
          refine ⟨_, _, ?_, hrun, hended, _, _, rfl, ?_, ⟨_, rfl⟩, hW, hsame.mono (by decide) (by decide)⟩
          · show Steps p.tables e below (T14.setTop (mkF m 80 #[.val (.ref a), .val (.int f), .val (.int (1 : Int32))] [(.int (1 : Int32))])) _
            exact retN X14 hx (t := .boolean) Bd.returns (by simp) (hb hby d4_80) hrr
          · show QrmCM Z f n ni nt xp xm xi xt h0 n0 _ T14.heap _
            rw [e14]
            exact ⟨by unfold own_cm; rw [if_pos hs3, if_neg hs6, if_neg hs13, if_neg hs16], N0, rfl⟩
  · skip
    refine own_go (A := T1.setTop (mkF m 13 #[.val (.ref a), .val (.int f), .unset] [])) (fun _ kz => ?_) ?_
    · show Steps p.tables e below (T1.setTop (mkF m 10 #[.val (.ref a), .val (.int f), .unset] [(.int (own_hv ni xi (f &&& (255 : Int32))))])) _
      refine XS.ifNo X1.here hx rfl (hb hby d4_10) rfl ((if0 _ _).trans (feq hs3).1) ?_
      exact kz
    refine own_go (A := T1.setTop (mkF m 80 #[.val (.ref a), .val (.int f), .val (.int (1 : Int32))] [(.int (1 : Int32))])) (fun _ kz => ?_) ?_
    · show Steps p.tables e below (T1.setTop (mkF m 13 #[.val (.ref a), .val (.int f), .unset] [])) _
      refine XS.iconst X1.here hx rfl (hb hby d4_13) ?_
      show Steps p.tables e below (T1.setTop (mkF m 14 #[.val (.ref a), .val (.int f), .unset] [(.int (1 : Int32))])) _
      refine XS.istoreN X1.here hx rfl (hb hby d4_14) rfl (l' := #[.val (.ref a), .val (.int f), .val (.int (1 : Int32))]) rfl ?_
      show Steps p.tables e below (T1.setTop (mkF m 15 #[.val (.ref a), .val (.int f), .val (.int (1 : Int32))] [])) _
      refine XS.goto X1.here hx rfl (pc0 := 15) (pc' := 79) rfl (hb hby d4_15) (by decide) (by decide) ?_
      show Steps p.tables e below (T1.setTop (mkF m 79 #[.val (.ref a), .val (.int f), .val (.int (1 : Int32))] [])) _
      refine XS.iloadN X1.here hx rfl (hb hby d4_79) rfl ?_
      exact kz
    obtain ⟨fs, hrr, hrun, hended, hW, hsame⟩ := X1.leave (v := some (.int (1 : Int32))) (fun h => by rw [Bd.returns] at h; cases h)
    refine ⟨_, _, ?_, hrun, hended, _, _, rfl, ?_, ⟨_, rfl⟩, hW, hsame.mono (by decide) (by decide)⟩
    · show Steps p.tables e below (T1.setTop (mkF m 80 #[.val (.ref a), .val (.int f), .val (.int (1 : Int32))] [(.int (1 : Int32))])) _
      exact retN X1 hx (t := .boolean) Bd.returns (by simp) (hb hby d4_80) hrr
    · show QrmCM Z f n ni nt xp xm xi xt h0 n0 _ T1.heap _
      rw [e1]
      exact ⟨by unfold own_cm; rw [if_neg hs3], N0, rfl⟩
theorem own_pn0 : plainName "com/example/sharp_nose/sharpnose/BytePatternCouldMatchFromPinLaw" = true := by first | (simp [plainName, overriddenIn]; done) | decide +kernel
theorem own_ef0 (m : MethodId) (x0 : Int32) (x1 : Int32) (x2 : Int32) (x3 : Int32) (x4 : Int32) (x5 : Int32) : entryFrame m #[(.int x0), (.int x1), (.int x2), (.int x3), (.int x4), (.int x5)] maxLocals = mkF m 0 #[.val (.int x0), .val (.int x1), .val (.int x2), .val (.int x3), .val (.int x4), .val (.int x5), .unset, .unset, .unset, .unset, .unset, .unset, .unset, .unset, .unset, .unset, .unset, .unset, .unset] [] := by first | (simp [entryFrame, mkF, argsToLocals, Value.category, maxLocals]; done) | rfl
def Qrm0 (Z : State) (p1 p2 p3 p4 p5 p6 : Int32) (h0 : Heap) (n0 : Nat) (v : Option Value) (h : Heap) (L : List Loc) : Prop := v = some (.int 1) ∧ Fr n0 L
set_option maxRecDepth 65536 in
set_option maxHeartbeats 40000000 in
theorem rm0 (l : Launch) (Z : State) (a0 : Array Value) (hw : ∀ d ∈ tables_1, d.before a0 Z = true) (ws : List Jvm.Cond) (p1 p2 p3 p4 p5 p6 : Int32) (h0 : Heap) (n0 : Nat) (Z0 : n0 ≤ h0.size)  :
    MetFree l x (head1 (Jvm.Cond.code x code maxLocals ret :: ws) room_1) (fun ar_ U_ => ar_ = #[(.int p1), (.int p2), (.int p3), (.int p4), (.int p5), (.int p6)] ∧ Z.Warmed39 U_.vm ∧ U_.heap = h0) (fun _ _ _ _ _ => True) (fun _ U_ ou_ V_ => ∃ v_ L_, ou_ = .returned v_ ∧ Qrm0 Z p1 p2 p3 p4 p5 p6 h0 n0 v_ V_.heap L_ ∧ FrameEnd U_ ou_ V_ L_ room_1.cells room_1.slots) := by
  refine MetFree.of_bodySF (plainFor_of_name own_pn0) hisR ?_
  intro p e s m args below meth c s₁ Bd hml0 hP hK
  obtain ⟨rfl, hZ, hh⟩ := hP
  have hx := Bd.exec
  have hby := Bd.bytes
  have hml : c.maxLocals = 19 := hml0
  have hown : s.vm.findClass "com/example/sharp_nose/sharpnose/BytePatternCouldMatchFromPinLaw" = some m.cls := findClass_of_methodNamed Bd.named
  have hnm := (name_of_methodNamed Bd.named Bd.method).1
  have X0 : Stand p l e room_1 s m #[(.int p1), (.int p2), (.int p3), (.int p4), (.int p5), (.int p6)] below meth c s₁ [] 0 0 := Stand.of_body Bd
  have e0 : s₁.heap = h0 := by rw [← hh, Bd.state]; rfl
  have N0 := Fr.nil n0
  refine own_go (A := s₁.setTop (mkF m 0 #[.val (.int p1), .val (.int p2), .val (.int p3), .val (.int p4), .val (.int p5), .val (.int p6), .unset, .unset, .unset, .unset, .unset, .unset, .unset, .unset, .unset, .unset, .unset, .unset, .unset] [])) (fun t kz => castTop (own_ef0 m p1 p2 p3 p4 p5 p6) kz) ?_
  refine own_go (A := s₁.setTop (mkF m 8 #[.val (.int p1), .val (.int p2), .val (.int p3), .val (.int p4), .val (.int p5), .val (.int p6), .val (.int ((p6 &&& (3 : Int32)) % (3 : Int32))), .unset, .unset, .unset, .unset, .unset, .unset, .unset, .unset, .unset, .unset, .unset, .unset] [])) (fun _ kz => ?_) ?_
  · show Steps p.tables e below (s₁.setTop (mkF m 0 #[.val (.int p1), .val (.int p2), .val (.int p3), .val (.int p4), .val (.int p5), .val (.int p6), .unset, .unset, .unset, .unset, .unset, .unset, .unset, .unset, .unset, .unset, .unset, .unset, .unset] [])) _
    refine XS.iload X0.here hx rfl (hb hby at_0) rfl ?_
    show Steps p.tables e below (s₁.setTop (mkF m 2 #[.val (.int p1), .val (.int p2), .val (.int p3), .val (.int p4), .val (.int p5), .val (.int p6), .unset, .unset, .unset, .unset, .unset, .unset, .unset, .unset, .unset, .unset, .unset, .unset, .unset] [(.int p6)])) _
    refine XS.iconst X0.here hx rfl (hb hby at_2) ?_
    show Steps p.tables e below (s₁.setTop (mkF m 3 #[.val (.int p1), .val (.int p2), .val (.int p3), .val (.int p4), .val (.int p5), .val (.int p6), .unset, .unset, .unset, .unset, .unset, .unset, .unset, .unset, .unset, .unset, .unset, .unset, .unset] [(.int (3 : Int32)), (.int p6)])) _
    refine XS.iand X0.here hx rfl (hb hby at_3) rfl ?_
    show Steps p.tables e below (s₁.setTop (mkF m 4 #[.val (.int p1), .val (.int p2), .val (.int p3), .val (.int p4), .val (.int p5), .val (.int p6), .unset, .unset, .unset, .unset, .unset, .unset, .unset, .unset, .unset, .unset, .unset, .unset, .unset] [(.int (p6 &&& (3 : Int32)))])) _
    refine XS.iconst X0.here hx rfl (hb hby at_4) ?_
    show Steps p.tables e below (s₁.setTop (mkF m 5 #[.val (.int p1), .val (.int p2), .val (.int p3), .val (.int p4), .val (.int p5), .val (.int p6), .unset, .unset, .unset, .unset, .unset, .unset, .unset, .unset, .unset, .unset, .unset, .unset, .unset] [(.int (3 : Int32)), (.int (p6 &&& (3 : Int32)))])) _
    refine iremM X0 hx rfl (hb hby at_5) rfl (by decide) ?_
    show Steps p.tables e below (s₁.setTop (mkF m 6 #[.val (.int p1), .val (.int p2), .val (.int p3), .val (.int p4), .val (.int p5), .val (.int p6), .unset, .unset, .unset, .unset, .unset, .unset, .unset, .unset, .unset, .unset, .unset, .unset, .unset] [(.int ((p6 &&& (3 : Int32)) % (3 : Int32)))])) _
    refine XS.istore X0.here hx rfl (hb hby at_6) rfl (l' := #[.val (.int p1), .val (.int p2), .val (.int p3), .val (.int p4), .val (.int p5), .val (.int p6), .val (.int ((p6 &&& (3 : Int32)) % (3 : Int32))), .unset, .unset, .unset, .unset, .unset, .unset, .unset, .unset, .unset, .unset, .unset, .unset]) rfl ?_
    exact kz
  obtain ⟨n, hn⟩ : ∃ z, z = ((p6 &&& (3 : Int32)) % (3 : Int32)) := ⟨_, rfl⟩
  refine own_go (A := s₁.setTop (mkF m 8 #[.val (.int p1), .val (.int p2), .val (.int p3), .val (.int p4), .val (.int p5), .val (.int p6), .val (.int n), .unset, .unset, .unset, .unset, .unset, .unset, .unset, .unset, .unset, .unset, .unset, .unset] [])) (fun _ kz => by rw [hn] at kz; exact kz) ?_
  have h3n := own_m3 _ hn
  refine own_go (A := s₁.setTop (mkF m 18 #[.val (.int p1), .val (.int p2), .val (.int p3), .val (.int p4), .val (.int p5), .val (.int p6), .val (.int n), .val (.int ((((p6.toUInt32 >>> ((2 : Int32) &&& 31).toUInt32).toInt32) &&& (3 : Int32)) % (3 : Int32))), .unset, .unset, .unset, .unset, .unset, .unset, .unset, .unset, .unset, .unset, .unset] [])) (fun _ kz => ?_) ?_
  · show Steps p.tables e below (s₁.setTop (mkF m 8 #[.val (.int p1), .val (.int p2), .val (.int p3), .val (.int p4), .val (.int p5), .val (.int p6), .val (.int n), .unset, .unset, .unset, .unset, .unset, .unset, .unset, .unset, .unset, .unset, .unset, .unset] [])) _
    refine XS.iload X0.here hx rfl (hb hby at_8) rfl ?_
    show Steps p.tables e below (s₁.setTop (mkF m 10 #[.val (.int p1), .val (.int p2), .val (.int p3), .val (.int p4), .val (.int p5), .val (.int p6), .val (.int n), .unset, .unset, .unset, .unset, .unset, .unset, .unset, .unset, .unset, .unset, .unset, .unset] [(.int p6)])) _
    refine XS.iconst X0.here hx rfl (hb hby at_10) ?_
    show Steps p.tables e below (s₁.setTop (mkF m 11 #[.val (.int p1), .val (.int p2), .val (.int p3), .val (.int p4), .val (.int p5), .val (.int p6), .val (.int n), .unset, .unset, .unset, .unset, .unset, .unset, .unset, .unset, .unset, .unset, .unset, .unset] [(.int (2 : Int32)), (.int p6)])) _
    refine XS.iushr X0.here hx rfl (hb hby at_11) rfl ?_
    show Steps p.tables e below (s₁.setTop (mkF m 12 #[.val (.int p1), .val (.int p2), .val (.int p3), .val (.int p4), .val (.int p5), .val (.int p6), .val (.int n), .unset, .unset, .unset, .unset, .unset, .unset, .unset, .unset, .unset, .unset, .unset, .unset] [(.int ((p6.toUInt32 >>> ((2 : Int32) &&& 31).toUInt32).toInt32))])) _
    refine XS.iconst X0.here hx rfl (hb hby at_12) ?_
    show Steps p.tables e below (s₁.setTop (mkF m 13 #[.val (.int p1), .val (.int p2), .val (.int p3), .val (.int p4), .val (.int p5), .val (.int p6), .val (.int n), .unset, .unset, .unset, .unset, .unset, .unset, .unset, .unset, .unset, .unset, .unset, .unset] [(.int (3 : Int32)), (.int ((p6.toUInt32 >>> ((2 : Int32) &&& 31).toUInt32).toInt32))])) _
    refine XS.iand X0.here hx rfl (hb hby at_13) rfl ?_
    show Steps p.tables e below (s₁.setTop (mkF m 14 #[.val (.int p1), .val (.int p2), .val (.int p3), .val (.int p4), .val (.int p5), .val (.int p6), .val (.int n), .unset, .unset, .unset, .unset, .unset, .unset, .unset, .unset, .unset, .unset, .unset, .unset] [(.int (((p6.toUInt32 >>> ((2 : Int32) &&& 31).toUInt32).toInt32) &&& (3 : Int32)))])) _
    refine XS.iconst X0.here hx rfl (hb hby at_14) ?_
    show Steps p.tables e below (s₁.setTop (mkF m 15 #[.val (.int p1), .val (.int p2), .val (.int p3), .val (.int p4), .val (.int p5), .val (.int p6), .val (.int n), .unset, .unset, .unset, .unset, .unset, .unset, .unset, .unset, .unset, .unset, .unset, .unset] [(.int (3 : Int32)), (.int (((p6.toUInt32 >>> ((2 : Int32) &&& 31).toUInt32).toInt32) &&& (3 : Int32)))])) _
    refine iremM X0 hx rfl (hb hby at_15) rfl (by decide) ?_
    show Steps p.tables e below (s₁.setTop (mkF m 16 #[.val (.int p1), .val (.int p2), .val (.int p3), .val (.int p4), .val (.int p5), .val (.int p6), .val (.int n), .unset, .unset, .unset, .unset, .unset, .unset, .unset, .unset, .unset, .unset, .unset, .unset] [(.int ((((p6.toUInt32 >>> ((2 : Int32) &&& 31).toUInt32).toInt32) &&& (3 : Int32)) % (3 : Int32)))])) _
    refine XS.istore X0.here hx rfl (hb hby at_16) rfl (l' := #[.val (.int p1), .val (.int p2), .val (.int p3), .val (.int p4), .val (.int p5), .val (.int p6), .val (.int n), .val (.int ((((p6.toUInt32 >>> ((2 : Int32) &&& 31).toUInt32).toInt32) &&& (3 : Int32)) % (3 : Int32))), .unset, .unset, .unset, .unset, .unset, .unset, .unset, .unset, .unset, .unset, .unset]) rfl ?_
    exact kz
  obtain ⟨ni, hni⟩ : ∃ z, z = ((((p6.toUInt32 >>> ((2 : Int32) &&& 31).toUInt32).toInt32) &&& (3 : Int32)) % (3 : Int32)) := ⟨_, rfl⟩
  refine own_go (A := s₁.setTop (mkF m 18 #[.val (.int p1), .val (.int p2), .val (.int p3), .val (.int p4), .val (.int p5), .val (.int p6), .val (.int n), .val (.int ni), .unset, .unset, .unset, .unset, .unset, .unset, .unset, .unset, .unset, .unset, .unset] [])) (fun _ kz => by rw [hni] at kz; exact kz) ?_
  have h3ni := own_m3 _ hni
  refine own_go (A := s₁.setTop (mkF m 28 #[.val (.int p1), .val (.int p2), .val (.int p3), .val (.int p4), .val (.int p5), .val (.int p6), .val (.int n), .val (.int ni), .val (.int ((((p6.toUInt32 >>> ((4 : Int32) &&& 31).toUInt32).toInt32) &&& (3 : Int32)) % (3 : Int32))), .unset, .unset, .unset, .unset, .unset, .unset, .unset, .unset, .unset, .unset] [])) (fun _ kz => ?_) ?_
  · show Steps p.tables e below (s₁.setTop (mkF m 18 #[.val (.int p1), .val (.int p2), .val (.int p3), .val (.int p4), .val (.int p5), .val (.int p6), .val (.int n), .val (.int ni), .unset, .unset, .unset, .unset, .unset, .unset, .unset, .unset, .unset, .unset, .unset] [])) _
    refine XS.iload X0.here hx rfl (hb hby at_18) rfl ?_
    show Steps p.tables e below (s₁.setTop (mkF m 20 #[.val (.int p1), .val (.int p2), .val (.int p3), .val (.int p4), .val (.int p5), .val (.int p6), .val (.int n), .val (.int ni), .unset, .unset, .unset, .unset, .unset, .unset, .unset, .unset, .unset, .unset, .unset] [(.int p6)])) _
    refine XS.iconst X0.here hx rfl (hb hby at_20) ?_
    show Steps p.tables e below (s₁.setTop (mkF m 21 #[.val (.int p1), .val (.int p2), .val (.int p3), .val (.int p4), .val (.int p5), .val (.int p6), .val (.int n), .val (.int ni), .unset, .unset, .unset, .unset, .unset, .unset, .unset, .unset, .unset, .unset, .unset] [(.int (4 : Int32)), (.int p6)])) _
    refine XS.iushr X0.here hx rfl (hb hby at_21) rfl ?_
    show Steps p.tables e below (s₁.setTop (mkF m 22 #[.val (.int p1), .val (.int p2), .val (.int p3), .val (.int p4), .val (.int p5), .val (.int p6), .val (.int n), .val (.int ni), .unset, .unset, .unset, .unset, .unset, .unset, .unset, .unset, .unset, .unset, .unset] [(.int ((p6.toUInt32 >>> ((4 : Int32) &&& 31).toUInt32).toInt32))])) _
    refine XS.iconst X0.here hx rfl (hb hby at_22) ?_
    show Steps p.tables e below (s₁.setTop (mkF m 23 #[.val (.int p1), .val (.int p2), .val (.int p3), .val (.int p4), .val (.int p5), .val (.int p6), .val (.int n), .val (.int ni), .unset, .unset, .unset, .unset, .unset, .unset, .unset, .unset, .unset, .unset, .unset] [(.int (3 : Int32)), (.int ((p6.toUInt32 >>> ((4 : Int32) &&& 31).toUInt32).toInt32))])) _
    refine XS.iand X0.here hx rfl (hb hby at_23) rfl ?_
    show Steps p.tables e below (s₁.setTop (mkF m 24 #[.val (.int p1), .val (.int p2), .val (.int p3), .val (.int p4), .val (.int p5), .val (.int p6), .val (.int n), .val (.int ni), .unset, .unset, .unset, .unset, .unset, .unset, .unset, .unset, .unset, .unset, .unset] [(.int (((p6.toUInt32 >>> ((4 : Int32) &&& 31).toUInt32).toInt32) &&& (3 : Int32)))])) _
    refine XS.iconst X0.here hx rfl (hb hby at_24) ?_
    show Steps p.tables e below (s₁.setTop (mkF m 25 #[.val (.int p1), .val (.int p2), .val (.int p3), .val (.int p4), .val (.int p5), .val (.int p6), .val (.int n), .val (.int ni), .unset, .unset, .unset, .unset, .unset, .unset, .unset, .unset, .unset, .unset, .unset] [(.int (3 : Int32)), (.int (((p6.toUInt32 >>> ((4 : Int32) &&& 31).toUInt32).toInt32) &&& (3 : Int32)))])) _
    refine iremM X0 hx rfl (hb hby at_25) rfl (by decide) ?_
    show Steps p.tables e below (s₁.setTop (mkF m 26 #[.val (.int p1), .val (.int p2), .val (.int p3), .val (.int p4), .val (.int p5), .val (.int p6), .val (.int n), .val (.int ni), .unset, .unset, .unset, .unset, .unset, .unset, .unset, .unset, .unset, .unset, .unset] [(.int ((((p6.toUInt32 >>> ((4 : Int32) &&& 31).toUInt32).toInt32) &&& (3 : Int32)) % (3 : Int32)))])) _
    refine XS.istore X0.here hx rfl (hb hby at_26) rfl (l' := #[.val (.int p1), .val (.int p2), .val (.int p3), .val (.int p4), .val (.int p5), .val (.int p6), .val (.int n), .val (.int ni), .val (.int ((((p6.toUInt32 >>> ((4 : Int32) &&& 31).toUInt32).toInt32) &&& (3 : Int32)) % (3 : Int32))), .unset, .unset, .unset, .unset, .unset, .unset, .unset, .unset, .unset, .unset]) rfl ?_
    exact kz
  obtain ⟨nt, hnt⟩ : ∃ z, z = ((((p6.toUInt32 >>> ((4 : Int32) &&& 31).toUInt32).toInt32) &&& (3 : Int32)) % (3 : Int32)) := ⟨_, rfl⟩
  refine own_go (A := s₁.setTop (mkF m 28 #[.val (.int p1), .val (.int p2), .val (.int p3), .val (.int p4), .val (.int p5), .val (.int p6), .val (.int n), .val (.int ni), .val (.int nt), .unset, .unset, .unset, .unset, .unset, .unset, .unset, .unset, .unset, .unset] [])) (fun _ kz => by rw [hnt] at kz; exact kz) ?_
  have h3nt := own_m3 _ hnt
  refine own_go (A := s₁.setTop (mkF m 31 #[.val (.int p1), .val (.int p2), .val (.int p3), .val (.int p4), .val (.int p5), .val (.int p6), .val (.int n), .val (.int ni), .val (.int nt), .unset, .unset, .unset, .unset, .unset, .unset, .unset, .unset, .unset, .unset] [(.int p2), (.int n)])) (fun _ kz => ?_) ?_
  · show Steps p.tables e below (s₁.setTop (mkF m 28 #[.val (.int p1), .val (.int p2), .val (.int p3), .val (.int p4), .val (.int p5), .val (.int p6), .val (.int n), .val (.int ni), .val (.int nt), .unset, .unset, .unset, .unset, .unset, .unset, .unset, .unset, .unset, .unset] [])) _
    refine XS.iload X0.here hx rfl (hb hby at_28) rfl ?_
    show Steps p.tables e below (s₁.setTop (mkF m 30 #[.val (.int p1), .val (.int p2), .val (.int p3), .val (.int p4), .val (.int p5), .val (.int p6), .val (.int n), .val (.int ni), .val (.int nt), .unset, .unset, .unset, .unset, .unset, .unset, .unset, .unset, .unset, .unset] [(.int n)])) _
    refine XS.iloadN X0.here hx rfl (hb hby at_30) rfl ?_
    exact kz
  obtain ⟨_, _, ⟨T1, L1, k1, n1⟩, -, X1, ⟨Lc1, hQ1, l1, y1, z1⟩, st1⟩ := Jvm.LawKit.callS X0 hx (y := (⟨"com/example/sharp_nose/sharpnose/BytePatternCouldMatchFromPinLaw", "bytes", "(II)[B"⟩ : MethodName)) hown (mvT hZ (hw _ (List.mem_of_getElem? (i := 0) rfl))) (mvT hZ (hw _ (List.mem_of_getElem? (i := 1) rfl))) (mvT hZ (hw _ (List.mem_of_getElem? (i := 2) rfl))) (mvT hZ (hw _ (List.mem_of_getElem? (i := 3) rfl))) (by decide) (backOf (W := 0) (rmBytes l Z a0 hw [] n p2 h0 n0 Z0 h3n) hZ (hw _ (List.mem_of_getElem? (i := 3) rfl)) (hw _ (List.mem_of_getElem? (i := 2) rfl)) (by decide) (by decide)) (g := (mkF m 31 #[.val (.int p1), .val (.int p2), .val (.int p3), .val (.int p4), .val (.int p5), .val (.int p6), .val (.int n), .val (.int ni), .val (.int nt), .unset, .unset, .unset, .unset, .unset, .unset, .unset, .unset, .unset, .unset] [(.int p2), (.int n)])) rfl (by rw [hml]; rfl) (argsL := [(.int n), (.int p2)]) (rest := []) (lenOf own_pd0 rfl) rfl (by show 2 * 0 + _ ≤ _; exact Nat.le_of_eq rfl) (hb hby at_31) (fun _ _ => ⟨rfl, e0, (by decide : 0 + 1 ≤ _), (by decide : 0 + 2 ≤ _)⟩)
  dsimp only [Pt.U, Pt.locs, Pt.cells, Pt.slots] at X1 l1 y1 z1 st1 hQ1
  subst l1 y1 z1
  obtain ⟨c1, kc1, rfl, N1q, zc1, K1q, Av1, Ex1⟩ := hQ1
  have N1 := Fr.app N0 N1q
  have g_c1 : n0 ≤ c1 := Nat.le_trans Z0 zc1
  have Z1 : n0 ≤ T1.heap.size := Nat.le_trans Z0 K1q.1
  refine own_go (A := T1.setTop (mkF m 34 #[.val (.int p1), .val (.int p2), .val (.int p3), .val (.int p4), .val (.int p5), .val (.int p6), .val (.int n), .val (.int ni), .val (.int nt), .unset, .unset, .unset, .unset, .unset, .unset, .unset, .unset, .unset, .unset] [(.ref c1)])) (fun _ kz => st1 _ kz) ?_
  refine own_go (A := T1.setTop (mkF m 41 #[.val (.int p1), .val (.int p2), .val (.int p3), .val (.int p4), .val (.int p5), .val (.int p6), .val (.int n), .val (.int ni), .val (.int nt), .val (.ref c1), .unset, .unset, .unset, .unset, .unset, .unset, .unset, .unset, .unset] [(.int (p3 &&& p2)), (.int n)])) (fun _ kz => ?_) ?_
  · show Steps p.tables e below (T1.setTop (mkF m 34 #[.val (.int p1), .val (.int p2), .val (.int p3), .val (.int p4), .val (.int p5), .val (.int p6), .val (.int n), .val (.int ni), .val (.int nt), .unset, .unset, .unset, .unset, .unset, .unset, .unset, .unset, .unset, .unset] [(.ref c1)])) _
    refine XS.astore X1.here hx rfl (hb hby at_34) rfl rfl (l' := #[.val (.int p1), .val (.int p2), .val (.int p3), .val (.int p4), .val (.int p5), .val (.int p6), .val (.int n), .val (.int ni), .val (.int nt), .val (.ref c1), .unset, .unset, .unset, .unset, .unset, .unset, .unset, .unset, .unset]) rfl ?_
    show Steps p.tables e below (T1.setTop (mkF m 36 #[.val (.int p1), .val (.int p2), .val (.int p3), .val (.int p4), .val (.int p5), .val (.int p6), .val (.int n), .val (.int ni), .val (.int nt), .val (.ref c1), .unset, .unset, .unset, .unset, .unset, .unset, .unset, .unset, .unset] [])) _
    refine XS.iload X1.here hx rfl (hb hby at_36) rfl ?_
    show Steps p.tables e below (T1.setTop (mkF m 38 #[.val (.int p1), .val (.int p2), .val (.int p3), .val (.int p4), .val (.int p5), .val (.int p6), .val (.int n), .val (.int ni), .val (.int nt), .val (.ref c1), .unset, .unset, .unset, .unset, .unset, .unset, .unset, .unset, .unset] [(.int n)])) _
    refine XS.iloadN X1.here hx rfl (hb hby at_38) rfl ?_
    show Steps p.tables e below (T1.setTop (mkF m 39 #[.val (.int p1), .val (.int p2), .val (.int p3), .val (.int p4), .val (.int p5), .val (.int p6), .val (.int n), .val (.int ni), .val (.int nt), .val (.ref c1), .unset, .unset, .unset, .unset, .unset, .unset, .unset, .unset, .unset] [(.int p3), (.int n)])) _
    refine XS.iloadN X1.here hx rfl (hb hby at_39) rfl ?_
    show Steps p.tables e below (T1.setTop (mkF m 40 #[.val (.int p1), .val (.int p2), .val (.int p3), .val (.int p4), .val (.int p5), .val (.int p6), .val (.int n), .val (.int ni), .val (.int nt), .val (.ref c1), .unset, .unset, .unset, .unset, .unset, .unset, .unset, .unset, .unset] [(.int p2), (.int p3), (.int n)])) _
    refine XS.iand X1.here hx rfl (hb hby at_40) rfl ?_
    exact kz
  obtain ⟨_, _, ⟨T2, L2, k2, n2⟩, -, X2, ⟨Lc2, hQ2, l2, y2, z2⟩, st2⟩ := Jvm.LawKit.callS X1 hx (y := (⟨"com/example/sharp_nose/sharpnose/BytePatternCouldMatchFromPinLaw", "bytes", "(II)[B"⟩ : MethodName)) hown (mvT hZ (hw _ (List.mem_of_getElem? (i := 0) rfl))) (mvT hZ (hw _ (List.mem_of_getElem? (i := 1) rfl))) (mvT hZ (hw _ (List.mem_of_getElem? (i := 2) rfl))) (mvT hZ (hw _ (List.mem_of_getElem? (i := 3) rfl))) (by decide) (backOf (W := 0) (rmBytes l Z a0 hw [] n (p3 &&& p2) T1.heap n0 Z1 h3n) hZ (hw _ (List.mem_of_getElem? (i := 3) rfl)) (hw _ (List.mem_of_getElem? (i := 2) rfl)) (by decide) (by decide)) (g := (mkF m 41 #[.val (.int p1), .val (.int p2), .val (.int p3), .val (.int p4), .val (.int p5), .val (.int p6), .val (.int n), .val (.int ni), .val (.int nt), .val (.ref c1), .unset, .unset, .unset, .unset, .unset, .unset, .unset, .unset, .unset] [(.int (p3 &&& p2)), (.int n)])) rfl (by rw [hml]; rfl) (argsL := [(.int n), (.int (p3 &&& p2))]) (rest := []) (lenOf own_pd0 rfl) rfl (by show 2 * 0 + _ ≤ _; exact Nat.le_of_eq rfl) (hb hby at_41) (fun _ _ => ⟨rfl, rfl, (by decide : 1 + 1 ≤ _), (by decide : 2 + 2 ≤ _)⟩)
  dsimp only [Pt.U, Pt.locs, Pt.cells, Pt.slots] at X2 l2 y2 z2 st2 hQ2
  subst l2 y2 z2
  obtain ⟨c2, kc2, rfl, N2q, zc2, K2q, Av2, Ex2⟩ := hQ2
  have N2 := Fr.app N1 N2q
  have ne_c1_c2 : c1 ≠ c2 := Nat.ne_of_lt (Nat.lt_of_lt_of_le Av1.lt zc2)
  have g_c2 : n0 ≤ c2 := Nat.le_trans Z1 zc2
  replace Av1 := Av1.keep K2q nin0
  replace Ex1 := Ex1.keep K2q
  have Z2 : n0 ≤ T2.heap.size := Nat.le_trans Z1 K2q.1
  refine own_go (A := T2.setTop (mkF m 44 #[.val (.int p1), .val (.int p2), .val (.int p3), .val (.int p4), .val (.int p5), .val (.int p6), .val (.int n), .val (.int ni), .val (.int nt), .val (.ref c1), .unset, .unset, .unset, .unset, .unset, .unset, .unset, .unset, .unset] [(.ref c2)])) (fun _ kz => st2 _ kz) ?_
  refine own_go (A := T2.setTop (mkF m 49 #[.val (.int p1), .val (.int p2), .val (.int p3), .val (.int p4), .val (.int p5), .val (.int p6), .val (.int n), .val (.int ni), .val (.int nt), .val (.ref c1), .val (.ref c2), .unset, .unset, .unset, .unset, .unset, .unset, .unset, .unset] [(.int p4), (.int ni)])) (fun _ kz => ?_) ?_
  · show Steps p.tables e below (T2.setTop (mkF m 44 #[.val (.int p1), .val (.int p2), .val (.int p3), .val (.int p4), .val (.int p5), .val (.int p6), .val (.int n), .val (.int ni), .val (.int nt), .val (.ref c1), .unset, .unset, .unset, .unset, .unset, .unset, .unset, .unset, .unset] [(.ref c2)])) _
    refine XS.astore X2.here hx rfl (hb hby at_44) rfl rfl (l' := #[.val (.int p1), .val (.int p2), .val (.int p3), .val (.int p4), .val (.int p5), .val (.int p6), .val (.int n), .val (.int ni), .val (.int nt), .val (.ref c1), .val (.ref c2), .unset, .unset, .unset, .unset, .unset, .unset, .unset, .unset]) rfl ?_
    show Steps p.tables e below (T2.setTop (mkF m 46 #[.val (.int p1), .val (.int p2), .val (.int p3), .val (.int p4), .val (.int p5), .val (.int p6), .val (.int n), .val (.int ni), .val (.int nt), .val (.ref c1), .val (.ref c2), .unset, .unset, .unset, .unset, .unset, .unset, .unset, .unset] [])) _
    refine XS.iload X2.here hx rfl (hb hby at_46) rfl ?_
    show Steps p.tables e below (T2.setTop (mkF m 48 #[.val (.int p1), .val (.int p2), .val (.int p3), .val (.int p4), .val (.int p5), .val (.int p6), .val (.int n), .val (.int ni), .val (.int nt), .val (.ref c1), .val (.ref c2), .unset, .unset, .unset, .unset, .unset, .unset, .unset, .unset] [(.int ni)])) _
    refine XS.iloadN X2.here hx rfl (hb hby at_48) rfl ?_
    exact kz
  obtain ⟨_, _, ⟨T3, L3, k3, n3⟩, -, X3, ⟨Lc3, hQ3, l3, y3, z3⟩, st3⟩ := Jvm.LawKit.callS X2 hx (y := (⟨"com/example/sharp_nose/sharpnose/BytePatternCouldMatchFromPinLaw", "bytes", "(II)[B"⟩ : MethodName)) hown (mvT hZ (hw _ (List.mem_of_getElem? (i := 0) rfl))) (mvT hZ (hw _ (List.mem_of_getElem? (i := 1) rfl))) (mvT hZ (hw _ (List.mem_of_getElem? (i := 2) rfl))) (mvT hZ (hw _ (List.mem_of_getElem? (i := 3) rfl))) (by decide) (backOf (W := 0) (rmBytes l Z a0 hw [] ni p4 T2.heap n0 Z2 h3ni) hZ (hw _ (List.mem_of_getElem? (i := 3) rfl)) (hw _ (List.mem_of_getElem? (i := 2) rfl)) (by decide) (by decide)) (g := (mkF m 49 #[.val (.int p1), .val (.int p2), .val (.int p3), .val (.int p4), .val (.int p5), .val (.int p6), .val (.int n), .val (.int ni), .val (.int nt), .val (.ref c1), .val (.ref c2), .unset, .unset, .unset, .unset, .unset, .unset, .unset, .unset] [(.int p4), (.int ni)])) rfl (by rw [hml]; rfl) (argsL := [(.int ni), (.int p4)]) (rest := []) (lenOf own_pd0 rfl) rfl (by show 2 * 0 + _ ≤ _; exact Nat.le_of_eq rfl) (hb hby at_49) (fun _ _ => ⟨rfl, rfl, (by decide : 2 + 1 ≤ _), (by decide : 4 + 2 ≤ _)⟩)
  dsimp only [Pt.U, Pt.locs, Pt.cells, Pt.slots] at X3 l3 y3 z3 st3 hQ3
  subst l3 y3 z3
  obtain ⟨c3, kc3, rfl, N3q, zc3, K3q, Av3, Ex3⟩ := hQ3
  have N3 := Fr.app N2 N3q
  have ne_c1_c3 : c1 ≠ c3 := Nat.ne_of_lt (Nat.lt_of_lt_of_le Av1.lt zc3)
  have ne_c2_c3 : c2 ≠ c3 := Nat.ne_of_lt (Nat.lt_of_lt_of_le Av2.lt zc3)
  have g_c3 : n0 ≤ c3 := Nat.le_trans Z2 zc3
  replace Av1 := Av1.keep K3q nin0
  replace Ex1 := Ex1.keep K3q
  replace Av2 := Av2.keep K3q nin0
  replace Ex2 := Ex2.keep K3q
  have Z3 : n0 ≤ T3.heap.size := Nat.le_trans Z2 K3q.1
  refine own_go (A := T3.setTop (mkF m 52 #[.val (.int p1), .val (.int p2), .val (.int p3), .val (.int p4), .val (.int p5), .val (.int p6), .val (.int n), .val (.int ni), .val (.int nt), .val (.ref c1), .val (.ref c2), .unset, .unset, .unset, .unset, .unset, .unset, .unset, .unset] [(.ref c3)])) (fun _ kz => st3 _ kz) ?_
  refine own_go (A := T3.setTop (mkF m 58 #[.val (.int p1), .val (.int p2), .val (.int p3), .val (.int p4), .val (.int p5), .val (.int p6), .val (.int n), .val (.int ni), .val (.int nt), .val (.ref c1), .val (.ref c2), .val (.ref c3), .unset, .unset, .unset, .unset, .unset, .unset, .unset] [(.int p5), (.int nt)])) (fun _ kz => ?_) ?_
  · show Steps p.tables e below (T3.setTop (mkF m 52 #[.val (.int p1), .val (.int p2), .val (.int p3), .val (.int p4), .val (.int p5), .val (.int p6), .val (.int n), .val (.int ni), .val (.int nt), .val (.ref c1), .val (.ref c2), .unset, .unset, .unset, .unset, .unset, .unset, .unset, .unset] [(.ref c3)])) _
    refine XS.astore X3.here hx rfl (hb hby at_52) rfl rfl (l' := #[.val (.int p1), .val (.int p2), .val (.int p3), .val (.int p4), .val (.int p5), .val (.int p6), .val (.int n), .val (.int ni), .val (.int nt), .val (.ref c1), .val (.ref c2), .val (.ref c3), .unset, .unset, .unset, .unset, .unset, .unset, .unset]) rfl ?_
    show Steps p.tables e below (T3.setTop (mkF m 54 #[.val (.int p1), .val (.int p2), .val (.int p3), .val (.int p4), .val (.int p5), .val (.int p6), .val (.int n), .val (.int ni), .val (.int nt), .val (.ref c1), .val (.ref c2), .val (.ref c3), .unset, .unset, .unset, .unset, .unset, .unset, .unset] [])) _
    refine XS.iload X3.here hx rfl (hb hby at_54) rfl ?_
    show Steps p.tables e below (T3.setTop (mkF m 56 #[.val (.int p1), .val (.int p2), .val (.int p3), .val (.int p4), .val (.int p5), .val (.int p6), .val (.int n), .val (.int ni), .val (.int nt), .val (.ref c1), .val (.ref c2), .val (.ref c3), .unset, .unset, .unset, .unset, .unset, .unset, .unset] [(.int nt)])) _
    refine XS.iload X3.here hx rfl (hb hby at_56) rfl ?_
    exact kz
  obtain ⟨_, _, ⟨T4, L4, k4, n4⟩, -, X4, ⟨Lc4, hQ4, l4, y4, z4⟩, st4⟩ := Jvm.LawKit.callS X3 hx (y := (⟨"com/example/sharp_nose/sharpnose/BytePatternCouldMatchFromPinLaw", "bytes", "(II)[B"⟩ : MethodName)) hown (mvT hZ (hw _ (List.mem_of_getElem? (i := 0) rfl))) (mvT hZ (hw _ (List.mem_of_getElem? (i := 1) rfl))) (mvT hZ (hw _ (List.mem_of_getElem? (i := 2) rfl))) (mvT hZ (hw _ (List.mem_of_getElem? (i := 3) rfl))) (by decide) (backOf (W := 0) (rmBytes l Z a0 hw [] nt p5 T3.heap n0 Z3 h3nt) hZ (hw _ (List.mem_of_getElem? (i := 3) rfl)) (hw _ (List.mem_of_getElem? (i := 2) rfl)) (by decide) (by decide)) (g := (mkF m 58 #[.val (.int p1), .val (.int p2), .val (.int p3), .val (.int p4), .val (.int p5), .val (.int p6), .val (.int n), .val (.int ni), .val (.int nt), .val (.ref c1), .val (.ref c2), .val (.ref c3), .unset, .unset, .unset, .unset, .unset, .unset, .unset] [(.int p5), (.int nt)])) rfl (by rw [hml]; rfl) (argsL := [(.int nt), (.int p5)]) (rest := []) (lenOf own_pd0 rfl) rfl (by show 2 * 0 + _ ≤ _; exact Nat.le_of_eq rfl) (hb hby at_58) (fun _ _ => ⟨rfl, rfl, (by decide : 3 + 1 ≤ _), (by decide : 6 + 2 ≤ _)⟩)
  dsimp only [Pt.U, Pt.locs, Pt.cells, Pt.slots] at X4 l4 y4 z4 st4 hQ4
  subst l4 y4 z4
  obtain ⟨c4, kc4, rfl, N4q, zc4, K4q, Av4, Ex4⟩ := hQ4
  have N4 := Fr.app N3 N4q
  have ne_c1_c4 : c1 ≠ c4 := Nat.ne_of_lt (Nat.lt_of_lt_of_le Av1.lt zc4)
  have ne_c2_c4 : c2 ≠ c4 := Nat.ne_of_lt (Nat.lt_of_lt_of_le Av2.lt zc4)
  have ne_c3_c4 : c3 ≠ c4 := Nat.ne_of_lt (Nat.lt_of_lt_of_le Av3.lt zc4)
  have g_c4 : n0 ≤ c4 := Nat.le_trans Z3 zc4
  replace Av1 := Av1.keep K4q nin0
  replace Ex1 := Ex1.keep K4q
  replace Av2 := Av2.keep K4q nin0
  replace Ex2 := Ex2.keep K4q
  replace Av3 := Av3.keep K4q nin0
  replace Ex3 := Ex3.keep K4q
  have Z4 : n0 ≤ T4.heap.size := Nat.le_trans Z3 K4q.1
  refine own_go (A := T4.setTop (mkF m 61 #[.val (.int p1), .val (.int p2), .val (.int p3), .val (.int p4), .val (.int p5), .val (.int p6), .val (.int n), .val (.int ni), .val (.int nt), .val (.ref c1), .val (.ref c2), .val (.ref c3), .unset, .unset, .unset, .unset, .unset, .unset, .unset] [(.ref c4)])) (fun _ kz => st4 _ kz) ?_
  refine own_go (A := T4.setTop (mkF m 63 #[.val (.int p1), .val (.int p2), .val (.int p3), .val (.int p4), .val (.int p5), .val (.int p6), .val (.int n), .val (.int ni), .val (.int nt), .val (.ref c1), .val (.ref c2), .val (.ref c3), .val (.ref c4), .unset, .unset, .unset, .unset, .unset, .unset] [])) (fun _ kz => ?_) ?_
  · show Steps p.tables e below (T4.setTop (mkF m 61 #[.val (.int p1), .val (.int p2), .val (.int p3), .val (.int p4), .val (.int p5), .val (.int p6), .val (.int n), .val (.int ni), .val (.int nt), .val (.ref c1), .val (.ref c2), .val (.ref c3), .unset, .unset, .unset, .unset, .unset, .unset, .unset] [(.ref c4)])) _
    refine XS.astore X4.here hx rfl (hb hby at_61) rfl rfl (l' := #[.val (.int p1), .val (.int p2), .val (.int p3), .val (.int p4), .val (.int p5), .val (.int p6), .val (.int n), .val (.int ni), .val (.int nt), .val (.ref c1), .val (.ref c2), .val (.ref c3), .val (.ref c4), .unset, .unset, .unset, .unset, .unset, .unset]) rfl ?_
    exact kz
  obtain ⟨T5, h5, X5, e5, E5, A5, D5, -, st5⟩ := newO X4 hx hZ hown (hw _ (List.mem_of_getElem? (i := 5) rfl)) (hw _ (List.mem_of_getElem? (i := 6) rfl)) (hw _ (List.mem_of_getElem? (i := 7) rfl)) rfl (g := (mkF m 63 #[.val (.int p1), .val (.int p2), .val (.int p3), .val (.int p4), .val (.int p5), .val (.int p6), .val (.int n), .val (.int ni), .val (.int nt), .val (.ref c1), .val (.ref c2), .val (.ref c3), .val (.ref c4), .unset, .unset, .unset, .unset, .unset, .unset] [])) rfl (hb hby at_63) (by decide) (by decide)
  obtain ⟨b5, gq5⟩ : ∃ z, z = T4.heap.size := ⟨_, rfl⟩
  rw [← gq5] at A5 D5 st5
  have g_b5 : n0 ≤ b5 := Nat.le_trans Z4 (Nat.le_of_eq gq5.symm)
  have ne_c1_b5 : c1 ≠ b5 := Nat.ne_of_lt (Nat.lt_of_lt_of_le Av1.lt (Nat.le_of_eq gq5.symm))
  have ne_c2_b5 : c2 ≠ b5 := Nat.ne_of_lt (Nat.lt_of_lt_of_le Av2.lt (Nat.le_of_eq gq5.symm))
  have ne_c3_b5 : c3 ≠ b5 := Nat.ne_of_lt (Nat.lt_of_lt_of_le Av3.lt (Nat.le_of_eq gq5.symm))
  have ne_c4_b5 : c4 ≠ b5 := Nat.ne_of_lt (Nat.lt_of_lt_of_le Av4.lt (Nat.le_of_eq gq5.symm))
  replace Av1 := Av1.ext E5
  replace Ex1 := Ex1.ext E5
  replace Av2 := Av2.ext E5
  replace Ex2 := Ex2.ext E5
  replace Av3 := Av3.ext E5
  replace Ex3 := Ex3.ext E5
  replace Av4 := Av4.ext E5
  replace Ex4 := Ex4.ext E5
  have Z5 : n0 ≤ h5.size := Nat.le_trans Z4 E5.1
  have Ex_b5 := A5
  have F_ignored_b5 : Fld Z h5 b5 "com/example/sharp_nose/sharpnose/BytePattern" "ignored" "[Z" .null := D5 (Or.inr (hw _ (List.mem_of_getElem? (i := 16) rfl))) (ty := (.array .boolean)) (by decide)
  have F_terminators_b5 : Fld Z h5 b5 "com/example/sharp_nose/sharpnose/BytePattern" "terminators" "[Z" .null := D5 (Or.inr (hw _ (List.mem_of_getElem? (i := 18) rfl))) (ty := (.array .boolean)) (by decide)
  have F_pattern_b5 : Fld Z h5 b5 "com/example/sharp_nose/sharpnose/BytePattern" "pattern" "[B" .null := D5 (Or.inr (hw _ (List.mem_of_getElem? (i := 29) rfl))) (ty := (.array .byte)) (by decide)
  have F_mask_b5 : Fld Z h5 b5 "com/example/sharp_nose/sharpnose/BytePattern" "mask" "[B" .null := D5 (Or.inr (hw _ (List.mem_of_getElem? (i := 31) rfl))) (ty := (.array .byte)) (by decide)
  have F_ignoring_b5 : Fld Z h5 b5 "com/example/sharp_nose/sharpnose/BytePattern" "ignoring" "Z" (.int (0 : Int32)) := D5 (Or.inr (hw _ (List.mem_of_getElem? (i := 33) rfl))) (ty := .boolean) (by decide)
  have F_terminated_b5 : Fld Z h5 b5 "com/example/sharp_nose/sharpnose/BytePattern" "terminated" "Z" (.int (0 : Int32)) := D5 (Or.inr (hw _ (List.mem_of_getElem? (i := 35) rfl))) (ty := .boolean) (by decide)
  refine own_go (A := T5.setTop (mkF m 66 #[.val (.int p1), .val (.int p2), .val (.int p3), .val (.int p4), .val (.int p5), .val (.int p6), .val (.int n), .val (.int ni), .val (.int nt), .val (.ref c1), .val (.ref c2), .val (.ref c3), .val (.ref c4), .unset, .unset, .unset, .unset, .unset, .unset] [(.ref b5)])) (fun _ kz => st5 _ kz) ?_
  refine own_go (A := T5.setTop (mkF m 75 #[.val (.int p1), .val (.int p2), .val (.int p3), .val (.int p4), .val (.int p5), .val (.int p6), .val (.int n), .val (.int ni), .val (.int nt), .val (.ref c1), .val (.ref c2), .val (.ref c3), .val (.ref c4), .unset, .unset, .unset, .unset, .unset, .unset] [(.ref c4), (.ref c3), (.ref c1), (.ref c2), (.ref b5), (.ref b5)])) (fun _ kz => ?_) ?_
  · show Steps p.tables e below (T5.setTop (mkF m 66 #[.val (.int p1), .val (.int p2), .val (.int p3), .val (.int p4), .val (.int p5), .val (.int p6), .val (.int n), .val (.int ni), .val (.int nt), .val (.ref c1), .val (.ref c2), .val (.ref c3), .val (.ref c4), .unset, .unset, .unset, .unset, .unset, .unset] [(.ref b5)])) _
    refine XS.dup X5.here hx rfl (hb hby at_66) rfl rfl ?_
    show Steps p.tables e below (T5.setTop (mkF m 67 #[.val (.int p1), .val (.int p2), .val (.int p3), .val (.int p4), .val (.int p5), .val (.int p6), .val (.int n), .val (.int ni), .val (.int nt), .val (.ref c1), .val (.ref c2), .val (.ref c3), .val (.ref c4), .unset, .unset, .unset, .unset, .unset, .unset] [(.ref b5), (.ref b5)])) _
    refine XS.aload X5.here hx rfl (hb hby at_67) rfl rfl ?_
    show Steps p.tables e below (T5.setTop (mkF m 69 #[.val (.int p1), .val (.int p2), .val (.int p3), .val (.int p4), .val (.int p5), .val (.int p6), .val (.int n), .val (.int ni), .val (.int nt), .val (.ref c1), .val (.ref c2), .val (.ref c3), .val (.ref c4), .unset, .unset, .unset, .unset, .unset, .unset] [(.ref c2), (.ref b5), (.ref b5)])) _
    refine XS.aload X5.here hx rfl (hb hby at_69) rfl rfl ?_
    show Steps p.tables e below (T5.setTop (mkF m 71 #[.val (.int p1), .val (.int p2), .val (.int p3), .val (.int p4), .val (.int p5), .val (.int p6), .val (.int n), .val (.int ni), .val (.int nt), .val (.ref c1), .val (.ref c2), .val (.ref c3), .val (.ref c4), .unset, .unset, .unset, .unset, .unset, .unset] [(.ref c1), (.ref c2), (.ref b5), (.ref b5)])) _
    refine XS.aload X5.here hx rfl (hb hby at_71) rfl rfl ?_
    show Steps p.tables e below (T5.setTop (mkF m 73 #[.val (.int p1), .val (.int p2), .val (.int p3), .val (.int p4), .val (.int p5), .val (.int p6), .val (.int n), .val (.int ni), .val (.int nt), .val (.ref c1), .val (.ref c2), .val (.ref c3), .val (.ref c4), .unset, .unset, .unset, .unset, .unset, .unset] [(.ref c3), (.ref c1), (.ref c2), (.ref b5), (.ref b5)])) _
    refine XS.aload X5.here hx rfl (hb hby at_73) rfl rfl ?_
    exact kz
  obtain ⟨_, _, ⟨T6, L6, k6, n6⟩, -, X6, ⟨Lc6, hQ6, l6, y6, z6⟩, st6⟩ := X5.specialBack hx (y := (⟨"com/example/sharp_nose/sharpnose/BytePattern", "<init>", "([B[B[B[B)V"⟩ : MethodName)) rfl hown (mvT hZ (hw _ (List.mem_of_getElem? (i := 8) rfl))) (mvT hZ (hw _ (List.mem_of_getElem? (i := 9) rfl))) (mvT hZ (hw _ (List.mem_of_getElem? (i := 10) rfl))) (by decide) (backOf (W := 1) (rmInit l Z a0 hw [] b5 c2 c1 c3 c4 kc2 kc1 kc3 kc4 n ni nt (p3 &&& p2) p2 p4 p5 h5 n0 Z5 h3n h3ni h3nt Ex_b5 g_b5 F_ignored_b5 F_terminators_b5 F_pattern_b5 F_mask_b5 F_ignoring_b5 F_terminated_b5 Av2 ne_c2_b5 Ex2 Av1 ne_c1_b5 Ex1 Av3 ne_c3_b5 Av4 ne_c4_b5 (own_sub0 _ _) (own_sub1 _ _)) hZ (hw _ (List.mem_of_getElem? (i := 10) rfl)) (hw _ (List.mem_of_getElem? (i := 7) rfl)) (by decide) (by decide)) (g := (mkF m 75 #[.val (.int p1), .val (.int p2), .val (.int p3), .val (.int p4), .val (.int p5), .val (.int p6), .val (.int n), .val (.int ni), .val (.int nt), .val (.ref c1), .val (.ref c2), .val (.ref c3), .val (.ref c4), .unset, .unset, .unset, .unset, .unset, .unset] [(.ref c4), (.ref c3), (.ref c1), (.ref c2), (.ref b5), (.ref b5)])) rfl (by rw [hml]; rfl) (Steps.refl _) (a := b5) (argsL := [(.ref c2), (.ref c1), (.ref c3), (.ref c4)]) (rest := [(.ref b5)]) (lenOf own_pd1 rfl) rfl (by show 2 * 0 + _ ≤ _; exact Nat.le_of_eq rfl) (hb hby at_75) (fun _ _ => ⟨rfl, e5, (by decide : 5 + 4 ≤ _), (by decide : 14 + 516 ≤ _)⟩)
  dsimp only [Pt.U, Pt.locs, Pt.cells, Pt.slots] at X6 l6 y6 z6 st6 hQ6
  subst l6 y6 z6
  obtain ⟨bi, bt, bp, bm, kbi, kbt, kbp, kbm, rfl, N6q, K6q, _, Fi, Hi, Ft, Ht, Fp, Ap, Fm, Am, Fz⟩ := hQ6
  have N6 := Fr.app N4 N6q
  replace Av1 := Av1.keep K6q (ninS ne_c1_b5 nin0)
  replace Ex1 := Ex1.keep K6q
  replace Av2 := Av2.keep K6q (ninS ne_c2_b5 nin0)
  replace Ex2 := Ex2.keep K6q
  replace Av3 := Av3.keep K6q (ninS ne_c3_b5 nin0)
  replace Ex3 := Ex3.keep K6q
  replace Av4 := Av4.keep K6q (ninS ne_c4_b5 nin0)
  replace Ex4 := Ex4.keep K6q
  replace Ex_b5 := Ex_b5.keep K6q
  have Z6 : n0 ≤ T6.heap.size := Nat.le_trans Z5 K6q.1
  refine own_go (A := T6.setTop (mkF m 78 #[.val (.int p1), .val (.int p2), .val (.int p3), .val (.int p4), .val (.int p5), .val (.int p6), .val (.int n), .val (.int ni), .val (.int nt), .val (.ref c1), .val (.ref c2), .val (.ref c3), .val (.ref c4), .unset, .unset, .unset, .unset, .unset, .unset] [(.ref b5)])) (fun _ kz => st6.trans kz) ?_
  refine own_go (A := T6.setTop (mkF m 84 #[.val (.int p1), .val (.int p2), .val (.int p3), .val (.int p4), .val (.int p5), .val (.int p6), .val (.int n), .val (.int ni), .val (.int nt), .val (.ref c1), .val (.ref c2), .val (.ref c3), .val (.ref c4), .val (.ref b5), .unset, .unset, .unset, .unset, .unset] [(.int (p1.toInt8.toInt32)), (.ref b5)])) (fun _ kz => ?_) ?_
  · show Steps p.tables e below (T6.setTop (mkF m 78 #[.val (.int p1), .val (.int p2), .val (.int p3), .val (.int p4), .val (.int p5), .val (.int p6), .val (.int n), .val (.int ni), .val (.int nt), .val (.ref c1), .val (.ref c2), .val (.ref c3), .val (.ref c4), .unset, .unset, .unset, .unset, .unset, .unset] [(.ref b5)])) _
    refine XS.astore X6.here hx rfl (hb hby at_78) rfl rfl (l' := #[.val (.int p1), .val (.int p2), .val (.int p3), .val (.int p4), .val (.int p5), .val (.int p6), .val (.int n), .val (.int ni), .val (.int nt), .val (.ref c1), .val (.ref c2), .val (.ref c3), .val (.ref c4), .val (.ref b5), .unset, .unset, .unset, .unset, .unset]) rfl ?_
    show Steps p.tables e below (T6.setTop (mkF m 80 #[.val (.int p1), .val (.int p2), .val (.int p3), .val (.int p4), .val (.int p5), .val (.int p6), .val (.int n), .val (.int ni), .val (.int nt), .val (.ref c1), .val (.ref c2), .val (.ref c3), .val (.ref c4), .val (.ref b5), .unset, .unset, .unset, .unset, .unset] [])) _
    refine XS.aload X6.here hx rfl (hb hby at_80) rfl rfl ?_
    show Steps p.tables e below (T6.setTop (mkF m 82 #[.val (.int p1), .val (.int p2), .val (.int p3), .val (.int p4), .val (.int p5), .val (.int p6), .val (.int n), .val (.int ni), .val (.int nt), .val (.ref c1), .val (.ref c2), .val (.ref c3), .val (.ref c4), .val (.ref b5), .unset, .unset, .unset, .unset, .unset] [(.ref b5)])) _
    refine XS.iloadN X6.here hx rfl (hb hby at_82) rfl ?_
    show Steps p.tables e below (T6.setTop (mkF m 83 #[.val (.int p1), .val (.int p2), .val (.int p3), .val (.int p4), .val (.int p5), .val (.int p6), .val (.int n), .val (.int ni), .val (.int nt), .val (.ref c1), .val (.ref c2), .val (.ref c3), .val (.ref c4), .val (.ref b5), .unset, .unset, .unset, .unset, .unset] [(.int p1), (.ref b5)])) _
    refine XS.i2b X6.here hx rfl (hb hby at_83) rfl ?_
    exact kz
  obtain ⟨cq7, kq7, q7a, q7b, q7c⟩ := isOf hZ rfl Ex_b5
  obtain ⟨_, _, ⟨T7, L7, k7, n7⟩, -, X7, ⟨Lc7, hQ7, l7, y7, z7⟩, st7⟩ := X6.virtualBack hx (y := (⟨"com/example/sharp_nose/sharpnose/BytePattern", "couldMatchFrom", "(B)Z"⟩ : MethodName)) (z := (⟨"com/example/sharp_nose/sharpnose/BytePattern", "couldMatchFrom", "(B)Z"⟩ : MethodName)) hown (mvT hZ (hw _ (List.mem_of_getElem? (i := 36) rfl))) (mvT hZ (hw _ (List.mem_of_getElem? (i := 37) rfl))) (notFace_of_selects (args := #[]) (mvT hZ (hw _ (List.mem_of_getElem? (i := 39) rfl)))) (mvT hZ (hw _ (List.mem_of_getElem? (i := 39) rfl))) (mvT hZ (hw _ (List.mem_of_getElem? (i := 38) rfl))) (by decide) (backOf (W := 0) (rmCM l Z a0 hw [] b5 (p1.toInt8.toInt32) bi bt bp bm kbi kbt kbp kbm n ni nt (p3 &&& p2) p2 p4 p5 T6.heap n0 Z6 h3n h3ni h3nt Fi Hi Ft Ht Fp Ap Fm Am Fz) hZ (hw _ (List.mem_of_getElem? (i := 40) rfl)) (hw _ (List.mem_of_getElem? (i := 7) rfl)) (by decide) (by decide)) q7a q7c (g := (mkF m 84 #[.val (.int p1), .val (.int p2), .val (.int p3), .val (.int p4), .val (.int p5), .val (.int p6), .val (.int n), .val (.int ni), .val (.int nt), .val (.ref c1), .val (.ref c2), .val (.ref c3), .val (.ref c4), .val (.ref b5), .unset, .unset, .unset, .unset, .unset] [(.int (p1.toInt8.toInt32)), (.ref b5)])) rfl (by rw [hml]; rfl) (Steps.refl _) (argsL := [(.int (p1.toInt8.toInt32))]) (rest := []) (lenOf own_pd2 rfl) rfl (by show 2 * 0 + _ ≤ _; exact Nat.le_of_eq rfl) (hb hby at_84) (fun _ _ => ⟨rfl, rfl, (by decide : 9 + 0 ≤ _), (by decide : 530 + 0 ≤ _)⟩)
  dsimp only [Pt.U, Pt.locs, Pt.cells, Pt.slots] at X7 l7 y7 z7 st7 hQ7
  subst l7 y7 z7
  obtain ⟨rfl, N7q, e7⟩ := hQ7
  have N7 := Fr.app N6 N7q
  refine own_go (A := T7.setTop (mkF m 87 #[.val (.int p1), .val (.int p2), .val (.int p3), .val (.int p4), .val (.int p5), .val (.int p6), .val (.int n), .val (.int ni), .val (.int nt), .val (.ref c1), .val (.ref c2), .val (.ref c3), .val (.ref c4), .val (.ref b5), .unset, .unset, .unset, .unset, .unset] [(.int (own_cm (p1.toInt8.toInt32) n ni nt (p3 &&& p2) p2 p4 p5))])) (fun _ kz => st7.trans kz) ?_
  obtain ⟨i4, hi4⟩ : ∃ z, z = (if (p1 &&& (255 : Int32)) = (((p4.toUInt32 >>> ((8 : Int32) &&& 31).toUInt32).toInt32) &&& (255 : Int32)) then (1 : Int32) else (0 : Int32)) := ⟨_, rfl⟩
  obtain ⟨i3, hi3⟩ : ∃ z, z = (if ni < (2 : Int32) then (0 : Int32) else i4) := ⟨_, rfl⟩
  obtain ⟨i2, hi2⟩ : ∃ z, z = (if (p1 &&& (255 : Int32)) = (p4 &&& (255 : Int32)) then (1 : Int32) else i3) := ⟨_, rfl⟩
  obtain ⟨i1, hi1⟩ : ∃ z, z = (if ni < (1 : Int32) then i3 else i2) := ⟨_, rfl⟩
  refine own_go (A := T7.setTop (mkF m 136 #[.val (.int p1), .val (.int p2), .val (.int p3), .val (.int p4), .val (.int p5), .val (.int p6), .val (.int n), .val (.int ni), .val (.int nt), .val (.ref c1), .val (.ref c2), .val (.ref c3), .val (.ref c4), .val (.ref b5), .val (.int (own_cm (p1.toInt8.toInt32) n ni nt (p3 &&& p2) p2 p4 p5)), .val (.int (p1 &&& (255 : Int32))), .unset, .unset, .unset] [(.int i1)])) (fun _ kz => ?_) ?_
  · show Steps p.tables e below (T7.setTop (mkF m 87 #[.val (.int p1), .val (.int p2), .val (.int p3), .val (.int p4), .val (.int p5), .val (.int p6), .val (.int n), .val (.int ni), .val (.int nt), .val (.ref c1), .val (.ref c2), .val (.ref c3), .val (.ref c4), .val (.ref b5), .unset, .unset, .unset, .unset, .unset] [(.int (own_cm (p1.toInt8.toInt32) n ni nt (p3 &&& p2) p2 p4 p5))])) _
    refine XS.istore X7.here hx rfl (hb hby at_87) rfl (l' := #[.val (.int p1), .val (.int p2), .val (.int p3), .val (.int p4), .val (.int p5), .val (.int p6), .val (.int n), .val (.int ni), .val (.int nt), .val (.ref c1), .val (.ref c2), .val (.ref c3), .val (.ref c4), .val (.ref b5), .val (.int (own_cm (p1.toInt8.toInt32) n ni nt (p3 &&& p2) p2 p4 p5)), .unset, .unset, .unset, .unset]) rfl ?_
    show Steps p.tables e below (T7.setTop (mkF m 89 #[.val (.int p1), .val (.int p2), .val (.int p3), .val (.int p4), .val (.int p5), .val (.int p6), .val (.int n), .val (.int ni), .val (.int nt), .val (.ref c1), .val (.ref c2), .val (.ref c3), .val (.ref c4), .val (.ref b5), .val (.int (own_cm (p1.toInt8.toInt32) n ni nt (p3 &&& p2) p2 p4 p5)), .unset, .unset, .unset, .unset] [])) _
    refine XS.iloadN X7.here hx rfl (hb hby at_89) rfl ?_
    show Steps p.tables e below (T7.setTop (mkF m 90 #[.val (.int p1), .val (.int p2), .val (.int p3), .val (.int p4), .val (.int p5), .val (.int p6), .val (.int n), .val (.int ni), .val (.int nt), .val (.ref c1), .val (.ref c2), .val (.ref c3), .val (.ref c4), .val (.ref b5), .val (.int (own_cm (p1.toInt8.toInt32) n ni nt (p3 &&& p2) p2 p4 p5)), .unset, .unset, .unset, .unset] [(.int p1)])) _
    refine XS.sipush X7.here hx rfl (hb hby at_90) ?_
    show Steps p.tables e below (T7.setTop (mkF m 93 #[.val (.int p1), .val (.int p2), .val (.int p3), .val (.int p4), .val (.int p5), .val (.int p6), .val (.int n), .val (.int ni), .val (.int nt), .val (.ref c1), .val (.ref c2), .val (.ref c3), .val (.ref c4), .val (.ref b5), .val (.int (own_cm (p1.toInt8.toInt32) n ni nt (p3 &&& p2) p2 p4 p5)), .unset, .unset, .unset, .unset] [(.int (255 : Int32)), (.int p1)])) _
    refine XS.iand X7.here hx rfl (hb hby at_93) rfl ?_
    show Steps p.tables e below (T7.setTop (mkF m 94 #[.val (.int p1), .val (.int p2), .val (.int p3), .val (.int p4), .val (.int p5), .val (.int p6), .val (.int n), .val (.int ni), .val (.int nt), .val (.ref c1), .val (.ref c2), .val (.ref c3), .val (.ref c4), .val (.ref b5), .val (.int (own_cm (p1.toInt8.toInt32) n ni nt (p3 &&& p2) p2 p4 p5)), .unset, .unset, .unset, .unset] [(.int (p1 &&& (255 : Int32)))])) _
    refine XS.istore X7.here hx rfl (hb hby at_94) rfl (l' := #[.val (.int p1), .val (.int p2), .val (.int p3), .val (.int p4), .val (.int p5), .val (.int p6), .val (.int n), .val (.int ni), .val (.int nt), .val (.ref c1), .val (.ref c2), .val (.ref c3), .val (.ref c4), .val (.ref b5), .val (.int (own_cm (p1.toInt8.toInt32) n ni nt (p3 &&& p2) p2 p4 p5)), .val (.int (p1 &&& (255 : Int32))), .unset, .unset, .unset]) rfl ?_
    show Steps p.tables e below (T7.setTop (mkF m 96 #[.val (.int p1), .val (.int p2), .val (.int p3), .val (.int p4), .val (.int p5), .val (.int p6), .val (.int n), .val (.int ni), .val (.int nt), .val (.ref c1), .val (.ref c2), .val (.ref c3), .val (.ref c4), .val (.ref b5), .val (.int (own_cm (p1.toInt8.toInt32) n ni nt (p3 &&& p2) p2 p4 p5)), .val (.int (p1 &&& (255 : Int32))), .unset, .unset, .unset] [])) _
    refine XS.iload X7.here hx rfl (hb hby at_96) rfl ?_
    show Steps p.tables e below (T7.setTop (mkF m 98 #[.val (.int p1), .val (.int p2), .val (.int p3), .val (.int p4), .val (.int p5), .val (.int p6), .val (.int n), .val (.int ni), .val (.int nt), .val (.ref c1), .val (.ref c2), .val (.ref c3), .val (.ref c4), .val (.ref b5), .val (.int (own_cm (p1.toInt8.toInt32) n ni nt (p3 &&& p2) p2 p4 p5)), .val (.int (p1 &&& (255 : Int32))), .unset, .unset, .unset] [(.int ni)])) _
    refine XS.iconst X7.here hx rfl (hb hby at_98) ?_
    show Steps p.tables e below (T7.setTop (mkF m 99 #[.val (.int p1), .val (.int p2), .val (.int p3), .val (.int p4), .val (.int p5), .val (.int p6), .val (.int n), .val (.int ni), .val (.int nt), .val (.ref c1), .val (.ref c2), .val (.ref c3), .val (.ref c4), .val (.ref b5), .val (.int (own_cm (p1.toInt8.toInt32) n ni nt (p3 &&& p2) p2 p4 p5)), .val (.int (p1 &&& (255 : Int32))), .unset, .unset, .unset] [(.int (1 : Int32)), (.int ni)])) _
    by_cases hc99 : ni < (1 : Int32)
    · rw [hi1, if_pos hc99] at kz
      refine XS.icmpYes X7.here hx rfl (pc0 := 99) (pc' := 112) rfl (hb hby at_99) rfl (tlt hc99).1 (by decide) (by decide) ?_
      show Steps p.tables e below (T7.setTop (mkF m 112 #[.val (.int p1), .val (.int p2), .val (.int p3), .val (.int p4), .val (.int p5), .val (.int p6), .val (.int n), .val (.int ni), .val (.int nt), .val (.ref c1), .val (.ref c2), .val (.ref c3), .val (.ref c4), .val (.ref b5), .val (.int (own_cm (p1.toInt8.toInt32) n ni nt (p3 &&& p2) p2 p4 p5)), .val (.int (p1 &&& (255 : Int32))), .unset, .unset, .unset] [])) _
      refine XS.iload X7.here hx rfl (hb hby at_112) rfl ?_
      show Steps p.tables e below (T7.setTop (mkF m 114 #[.val (.int p1), .val (.int p2), .val (.int p3), .val (.int p4), .val (.int p5), .val (.int p6), .val (.int n), .val (.int ni), .val (.int nt), .val (.ref c1), .val (.ref c2), .val (.ref c3), .val (.ref c4), .val (.ref b5), .val (.int (own_cm (p1.toInt8.toInt32) n ni nt (p3 &&& p2) p2 p4 p5)), .val (.int (p1 &&& (255 : Int32))), .unset, .unset, .unset] [(.int ni)])) _
      refine XS.iconst X7.here hx rfl (hb hby at_114) ?_
      show Steps p.tables e below (T7.setTop (mkF m 115 #[.val (.int p1), .val (.int p2), .val (.int p3), .val (.int p4), .val (.int p5), .val (.int p6), .val (.int n), .val (.int ni), .val (.int nt), .val (.ref c1), .val (.ref c2), .val (.ref c3), .val (.ref c4), .val (.ref b5), .val (.int (own_cm (p1.toInt8.toInt32) n ni nt (p3 &&& p2) p2 p4 p5)), .val (.int (p1 &&& (255 : Int32))), .unset, .unset, .unset] [(.int (2 : Int32)), (.int ni)])) _
      by_cases hc115 : ni < (2 : Int32)
      · rw [hi3, if_pos hc115] at kz
        refine XS.icmpYes X7.here hx rfl (pc0 := 115) (pc' := 135) rfl (hb hby at_115) rfl (tlt hc115).1 (by decide) (by decide) ?_
        show Steps p.tables e below (T7.setTop (mkF m 135 #[.val (.int p1), .val (.int p2), .val (.int p3), .val (.int p4), .val (.int p5), .val (.int p6), .val (.int n), .val (.int ni), .val (.int nt), .val (.ref c1), .val (.ref c2), .val (.ref c3), .val (.ref c4), .val (.ref b5), .val (.int (own_cm (p1.toInt8.toInt32) n ni nt (p3 &&& p2) p2 p4 p5)), .val (.int (p1 &&& (255 : Int32))), .unset, .unset, .unset] [])) _
        refine XS.iconst X7.here hx rfl (hb hby at_135) ?_
        exact kz
      · rw [hi3, if_neg hc115] at kz
        refine XS.icmpNo X7.here hx rfl (hb hby at_115) rfl (flt hc115).1 ?_
        show Steps p.tables e below (T7.setTop (mkF m 118 #[.val (.int p1), .val (.int p2), .val (.int p3), .val (.int p4), .val (.int p5), .val (.int p6), .val (.int n), .val (.int ni), .val (.int nt), .val (.ref c1), .val (.ref c2), .val (.ref c3), .val (.ref c4), .val (.ref b5), .val (.int (own_cm (p1.toInt8.toInt32) n ni nt (p3 &&& p2) p2 p4 p5)), .val (.int (p1 &&& (255 : Int32))), .unset, .unset, .unset] [])) _
        refine XS.iload X7.here hx rfl (hb hby at_118) rfl ?_
        show Steps p.tables e below (T7.setTop (mkF m 120 #[.val (.int p1), .val (.int p2), .val (.int p3), .val (.int p4), .val (.int p5), .val (.int p6), .val (.int n), .val (.int ni), .val (.int nt), .val (.ref c1), .val (.ref c2), .val (.ref c3), .val (.ref c4), .val (.ref b5), .val (.int (own_cm (p1.toInt8.toInt32) n ni nt (p3 &&& p2) p2 p4 p5)), .val (.int (p1 &&& (255 : Int32))), .unset, .unset, .unset] [(.int (p1 &&& (255 : Int32)))])) _
        refine XS.iloadN X7.here hx rfl (hb hby at_120) rfl ?_
        show Steps p.tables e below (T7.setTop (mkF m 121 #[.val (.int p1), .val (.int p2), .val (.int p3), .val (.int p4), .val (.int p5), .val (.int p6), .val (.int n), .val (.int ni), .val (.int nt), .val (.ref c1), .val (.ref c2), .val (.ref c3), .val (.ref c4), .val (.ref b5), .val (.int (own_cm (p1.toInt8.toInt32) n ni nt (p3 &&& p2) p2 p4 p5)), .val (.int (p1 &&& (255 : Int32))), .unset, .unset, .unset] [(.int p4), (.int (p1 &&& (255 : Int32)))])) _
        refine XS.bipush X7.here hx rfl (hb hby at_121) ?_
        show Steps p.tables e below (T7.setTop (mkF m 123 #[.val (.int p1), .val (.int p2), .val (.int p3), .val (.int p4), .val (.int p5), .val (.int p6), .val (.int n), .val (.int ni), .val (.int nt), .val (.ref c1), .val (.ref c2), .val (.ref c3), .val (.ref c4), .val (.ref b5), .val (.int (own_cm (p1.toInt8.toInt32) n ni nt (p3 &&& p2) p2 p4 p5)), .val (.int (p1 &&& (255 : Int32))), .unset, .unset, .unset] [(.int (8 : Int32)), (.int p4), (.int (p1 &&& (255 : Int32)))])) _
        refine XS.iushr X7.here hx rfl (hb hby at_123) rfl ?_
        show Steps p.tables e below (T7.setTop (mkF m 124 #[.val (.int p1), .val (.int p2), .val (.int p3), .val (.int p4), .val (.int p5), .val (.int p6), .val (.int n), .val (.int ni), .val (.int nt), .val (.ref c1), .val (.ref c2), .val (.ref c3), .val (.ref c4), .val (.ref b5), .val (.int (own_cm (p1.toInt8.toInt32) n ni nt (p3 &&& p2) p2 p4 p5)), .val (.int (p1 &&& (255 : Int32))), .unset, .unset, .unset] [(.int ((p4.toUInt32 >>> ((8 : Int32) &&& 31).toUInt32).toInt32)), (.int (p1 &&& (255 : Int32)))])) _
        refine XS.sipush X7.here hx rfl (hb hby at_124) ?_
        show Steps p.tables e below (T7.setTop (mkF m 127 #[.val (.int p1), .val (.int p2), .val (.int p3), .val (.int p4), .val (.int p5), .val (.int p6), .val (.int n), .val (.int ni), .val (.int nt), .val (.ref c1), .val (.ref c2), .val (.ref c3), .val (.ref c4), .val (.ref b5), .val (.int (own_cm (p1.toInt8.toInt32) n ni nt (p3 &&& p2) p2 p4 p5)), .val (.int (p1 &&& (255 : Int32))), .unset, .unset, .unset] [(.int (255 : Int32)), (.int ((p4.toUInt32 >>> ((8 : Int32) &&& 31).toUInt32).toInt32)), (.int (p1 &&& (255 : Int32)))])) _
        refine XS.iand X7.here hx rfl (hb hby at_127) rfl ?_
        show Steps p.tables e below (T7.setTop (mkF m 128 #[.val (.int p1), .val (.int p2), .val (.int p3), .val (.int p4), .val (.int p5), .val (.int p6), .val (.int n), .val (.int ni), .val (.int nt), .val (.ref c1), .val (.ref c2), .val (.ref c3), .val (.ref c4), .val (.ref b5), .val (.int (own_cm (p1.toInt8.toInt32) n ni nt (p3 &&& p2) p2 p4 p5)), .val (.int (p1 &&& (255 : Int32))), .unset, .unset, .unset] [(.int (((p4.toUInt32 >>> ((8 : Int32) &&& 31).toUInt32).toInt32) &&& (255 : Int32))), (.int (p1 &&& (255 : Int32)))])) _
        by_cases hc128 : (p1 &&& (255 : Int32)) = (((p4.toUInt32 >>> ((8 : Int32) &&& 31).toUInt32).toInt32) &&& (255 : Int32))
        · rw [hi4, if_pos hc128] at kz
          refine XS.icmpNo X7.here hx rfl (hb hby at_128) rfl (teq hc128).2 ?_
          show Steps p.tables e below (T7.setTop (mkF m 131 #[.val (.int p1), .val (.int p2), .val (.int p3), .val (.int p4), .val (.int p5), .val (.int p6), .val (.int n), .val (.int ni), .val (.int nt), .val (.ref c1), .val (.ref c2), .val (.ref c3), .val (.ref c4), .val (.ref b5), .val (.int (own_cm (p1.toInt8.toInt32) n ni nt (p3 &&& p2) p2 p4 p5)), .val (.int (p1 &&& (255 : Int32))), .unset, .unset, .unset] [])) _
          refine XS.iconst X7.here hx rfl (hb hby at_131) ?_
          show Steps p.tables e below (T7.setTop (mkF m 132 #[.val (.int p1), .val (.int p2), .val (.int p3), .val (.int p4), .val (.int p5), .val (.int p6), .val (.int n), .val (.int ni), .val (.int nt), .val (.ref c1), .val (.ref c2), .val (.ref c3), .val (.ref c4), .val (.ref b5), .val (.int (own_cm (p1.toInt8.toInt32) n ni nt (p3 &&& p2) p2 p4 p5)), .val (.int (p1 &&& (255 : Int32))), .unset, .unset, .unset] [(.int (1 : Int32))])) _
          refine XS.goto X7.here hx rfl (pc0 := 132) (pc' := 136) rfl (hb hby at_132) (by decide) (by decide) ?_
          exact kz
        · rw [hi4, if_neg hc128] at kz
          refine XS.icmpYes X7.here hx rfl (pc0 := 128) (pc' := 135) rfl (hb hby at_128) rfl (feq hc128).2 (by decide) (by decide) ?_
          show Steps p.tables e below (T7.setTop (mkF m 135 #[.val (.int p1), .val (.int p2), .val (.int p3), .val (.int p4), .val (.int p5), .val (.int p6), .val (.int n), .val (.int ni), .val (.int nt), .val (.ref c1), .val (.ref c2), .val (.ref c3), .val (.ref c4), .val (.ref b5), .val (.int (own_cm (p1.toInt8.toInt32) n ni nt (p3 &&& p2) p2 p4 p5)), .val (.int (p1 &&& (255 : Int32))), .unset, .unset, .unset] [])) _
          refine XS.iconst X7.here hx rfl (hb hby at_135) ?_
          exact kz
    · rw [hi1, if_neg hc99] at kz
      refine XS.icmpNo X7.here hx rfl (hb hby at_99) rfl (flt hc99).1 ?_
      show Steps p.tables e below (T7.setTop (mkF m 102 #[.val (.int p1), .val (.int p2), .val (.int p3), .val (.int p4), .val (.int p5), .val (.int p6), .val (.int n), .val (.int ni), .val (.int nt), .val (.ref c1), .val (.ref c2), .val (.ref c3), .val (.ref c4), .val (.ref b5), .val (.int (own_cm (p1.toInt8.toInt32) n ni nt (p3 &&& p2) p2 p4 p5)), .val (.int (p1 &&& (255 : Int32))), .unset, .unset, .unset] [])) _
      refine XS.iload X7.here hx rfl (hb hby at_102) rfl ?_
      show Steps p.tables e below (T7.setTop (mkF m 104 #[.val (.int p1), .val (.int p2), .val (.int p3), .val (.int p4), .val (.int p5), .val (.int p6), .val (.int n), .val (.int ni), .val (.int nt), .val (.ref c1), .val (.ref c2), .val (.ref c3), .val (.ref c4), .val (.ref b5), .val (.int (own_cm (p1.toInt8.toInt32) n ni nt (p3 &&& p2) p2 p4 p5)), .val (.int (p1 &&& (255 : Int32))), .unset, .unset, .unset] [(.int (p1 &&& (255 : Int32)))])) _
      refine XS.iloadN X7.here hx rfl (hb hby at_104) rfl ?_
      show Steps p.tables e below (T7.setTop (mkF m 105 #[.val (.int p1), .val (.int p2), .val (.int p3), .val (.int p4), .val (.int p5), .val (.int p6), .val (.int n), .val (.int ni), .val (.int nt), .val (.ref c1), .val (.ref c2), .val (.ref c3), .val (.ref c4), .val (.ref b5), .val (.int (own_cm (p1.toInt8.toInt32) n ni nt (p3 &&& p2) p2 p4 p5)), .val (.int (p1 &&& (255 : Int32))), .unset, .unset, .unset] [(.int p4), (.int (p1 &&& (255 : Int32)))])) _
      refine XS.sipush X7.here hx rfl (hb hby at_105) ?_
      show Steps p.tables e below (T7.setTop (mkF m 108 #[.val (.int p1), .val (.int p2), .val (.int p3), .val (.int p4), .val (.int p5), .val (.int p6), .val (.int n), .val (.int ni), .val (.int nt), .val (.ref c1), .val (.ref c2), .val (.ref c3), .val (.ref c4), .val (.ref b5), .val (.int (own_cm (p1.toInt8.toInt32) n ni nt (p3 &&& p2) p2 p4 p5)), .val (.int (p1 &&& (255 : Int32))), .unset, .unset, .unset] [(.int (255 : Int32)), (.int p4), (.int (p1 &&& (255 : Int32)))])) _
      refine XS.iand X7.here hx rfl (hb hby at_108) rfl ?_
      show Steps p.tables e below (T7.setTop (mkF m 109 #[.val (.int p1), .val (.int p2), .val (.int p3), .val (.int p4), .val (.int p5), .val (.int p6), .val (.int n), .val (.int ni), .val (.int nt), .val (.ref c1), .val (.ref c2), .val (.ref c3), .val (.ref c4), .val (.ref b5), .val (.int (own_cm (p1.toInt8.toInt32) n ni nt (p3 &&& p2) p2 p4 p5)), .val (.int (p1 &&& (255 : Int32))), .unset, .unset, .unset] [(.int (p4 &&& (255 : Int32))), (.int (p1 &&& (255 : Int32)))])) _
      by_cases hc109 : (p1 &&& (255 : Int32)) = (p4 &&& (255 : Int32))
      · rw [hi2, if_pos hc109] at kz
        refine XS.icmpYes X7.here hx rfl (pc0 := 109) (pc' := 131) rfl (hb hby at_109) rfl (teq hc109).1 (by decide) (by decide) ?_
        show Steps p.tables e below (T7.setTop (mkF m 131 #[.val (.int p1), .val (.int p2), .val (.int p3), .val (.int p4), .val (.int p5), .val (.int p6), .val (.int n), .val (.int ni), .val (.int nt), .val (.ref c1), .val (.ref c2), .val (.ref c3), .val (.ref c4), .val (.ref b5), .val (.int (own_cm (p1.toInt8.toInt32) n ni nt (p3 &&& p2) p2 p4 p5)), .val (.int (p1 &&& (255 : Int32))), .unset, .unset, .unset] [])) _
        refine XS.iconst X7.here hx rfl (hb hby at_131) ?_
        show Steps p.tables e below (T7.setTop (mkF m 132 #[.val (.int p1), .val (.int p2), .val (.int p3), .val (.int p4), .val (.int p5), .val (.int p6), .val (.int n), .val (.int ni), .val (.int nt), .val (.ref c1), .val (.ref c2), .val (.ref c3), .val (.ref c4), .val (.ref b5), .val (.int (own_cm (p1.toInt8.toInt32) n ni nt (p3 &&& p2) p2 p4 p5)), .val (.int (p1 &&& (255 : Int32))), .unset, .unset, .unset] [(.int (1 : Int32))])) _
        refine XS.goto X7.here hx rfl (pc0 := 132) (pc' := 136) rfl (hb hby at_132) (by decide) (by decide) ?_
        exact kz
      · rw [hi2, if_neg hc109] at kz
        refine XS.icmpNo X7.here hx rfl (hb hby at_109) rfl (feq hc109).1 ?_
        show Steps p.tables e below (T7.setTop (mkF m 112 #[.val (.int p1), .val (.int p2), .val (.int p3), .val (.int p4), .val (.int p5), .val (.int p6), .val (.int n), .val (.int ni), .val (.int nt), .val (.ref c1), .val (.ref c2), .val (.ref c3), .val (.ref c4), .val (.ref b5), .val (.int (own_cm (p1.toInt8.toInt32) n ni nt (p3 &&& p2) p2 p4 p5)), .val (.int (p1 &&& (255 : Int32))), .unset, .unset, .unset] [])) _
        refine XS.iload X7.here hx rfl (hb hby at_112) rfl ?_
        show Steps p.tables e below (T7.setTop (mkF m 114 #[.val (.int p1), .val (.int p2), .val (.int p3), .val (.int p4), .val (.int p5), .val (.int p6), .val (.int n), .val (.int ni), .val (.int nt), .val (.ref c1), .val (.ref c2), .val (.ref c3), .val (.ref c4), .val (.ref b5), .val (.int (own_cm (p1.toInt8.toInt32) n ni nt (p3 &&& p2) p2 p4 p5)), .val (.int (p1 &&& (255 : Int32))), .unset, .unset, .unset] [(.int ni)])) _
        refine XS.iconst X7.here hx rfl (hb hby at_114) ?_
        show Steps p.tables e below (T7.setTop (mkF m 115 #[.val (.int p1), .val (.int p2), .val (.int p3), .val (.int p4), .val (.int p5), .val (.int p6), .val (.int n), .val (.int ni), .val (.int nt), .val (.ref c1), .val (.ref c2), .val (.ref c3), .val (.ref c4), .val (.ref b5), .val (.int (own_cm (p1.toInt8.toInt32) n ni nt (p3 &&& p2) p2 p4 p5)), .val (.int (p1 &&& (255 : Int32))), .unset, .unset, .unset] [(.int (2 : Int32)), (.int ni)])) _
        by_cases hc115 : ni < (2 : Int32)
        · rw [hi3, if_pos hc115] at kz
          refine XS.icmpYes X7.here hx rfl (pc0 := 115) (pc' := 135) rfl (hb hby at_115) rfl (tlt hc115).1 (by decide) (by decide) ?_
          show Steps p.tables e below (T7.setTop (mkF m 135 #[.val (.int p1), .val (.int p2), .val (.int p3), .val (.int p4), .val (.int p5), .val (.int p6), .val (.int n), .val (.int ni), .val (.int nt), .val (.ref c1), .val (.ref c2), .val (.ref c3), .val (.ref c4), .val (.ref b5), .val (.int (own_cm (p1.toInt8.toInt32) n ni nt (p3 &&& p2) p2 p4 p5)), .val (.int (p1 &&& (255 : Int32))), .unset, .unset, .unset] [])) _
          refine XS.iconst X7.here hx rfl (hb hby at_135) ?_
          exact kz
        · rw [hi3, if_neg hc115] at kz
          refine XS.icmpNo X7.here hx rfl (hb hby at_115) rfl (flt hc115).1 ?_
          show Steps p.tables e below (T7.setTop (mkF m 118 #[.val (.int p1), .val (.int p2), .val (.int p3), .val (.int p4), .val (.int p5), .val (.int p6), .val (.int n), .val (.int ni), .val (.int nt), .val (.ref c1), .val (.ref c2), .val (.ref c3), .val (.ref c4), .val (.ref b5), .val (.int (own_cm (p1.toInt8.toInt32) n ni nt (p3 &&& p2) p2 p4 p5)), .val (.int (p1 &&& (255 : Int32))), .unset, .unset, .unset] [])) _
          refine XS.iload X7.here hx rfl (hb hby at_118) rfl ?_
          show Steps p.tables e below (T7.setTop (mkF m 120 #[.val (.int p1), .val (.int p2), .val (.int p3), .val (.int p4), .val (.int p5), .val (.int p6), .val (.int n), .val (.int ni), .val (.int nt), .val (.ref c1), .val (.ref c2), .val (.ref c3), .val (.ref c4), .val (.ref b5), .val (.int (own_cm (p1.toInt8.toInt32) n ni nt (p3 &&& p2) p2 p4 p5)), .val (.int (p1 &&& (255 : Int32))), .unset, .unset, .unset] [(.int (p1 &&& (255 : Int32)))])) _
          refine XS.iloadN X7.here hx rfl (hb hby at_120) rfl ?_
          show Steps p.tables e below (T7.setTop (mkF m 121 #[.val (.int p1), .val (.int p2), .val (.int p3), .val (.int p4), .val (.int p5), .val (.int p6), .val (.int n), .val (.int ni), .val (.int nt), .val (.ref c1), .val (.ref c2), .val (.ref c3), .val (.ref c4), .val (.ref b5), .val (.int (own_cm (p1.toInt8.toInt32) n ni nt (p3 &&& p2) p2 p4 p5)), .val (.int (p1 &&& (255 : Int32))), .unset, .unset, .unset] [(.int p4), (.int (p1 &&& (255 : Int32)))])) _
          refine XS.bipush X7.here hx rfl (hb hby at_121) ?_
          show Steps p.tables e below (T7.setTop (mkF m 123 #[.val (.int p1), .val (.int p2), .val (.int p3), .val (.int p4), .val (.int p5), .val (.int p6), .val (.int n), .val (.int ni), .val (.int nt), .val (.ref c1), .val (.ref c2), .val (.ref c3), .val (.ref c4), .val (.ref b5), .val (.int (own_cm (p1.toInt8.toInt32) n ni nt (p3 &&& p2) p2 p4 p5)), .val (.int (p1 &&& (255 : Int32))), .unset, .unset, .unset] [(.int (8 : Int32)), (.int p4), (.int (p1 &&& (255 : Int32)))])) _
          refine XS.iushr X7.here hx rfl (hb hby at_123) rfl ?_
          show Steps p.tables e below (T7.setTop (mkF m 124 #[.val (.int p1), .val (.int p2), .val (.int p3), .val (.int p4), .val (.int p5), .val (.int p6), .val (.int n), .val (.int ni), .val (.int nt), .val (.ref c1), .val (.ref c2), .val (.ref c3), .val (.ref c4), .val (.ref b5), .val (.int (own_cm (p1.toInt8.toInt32) n ni nt (p3 &&& p2) p2 p4 p5)), .val (.int (p1 &&& (255 : Int32))), .unset, .unset, .unset] [(.int ((p4.toUInt32 >>> ((8 : Int32) &&& 31).toUInt32).toInt32)), (.int (p1 &&& (255 : Int32)))])) _
          refine XS.sipush X7.here hx rfl (hb hby at_124) ?_
          show Steps p.tables e below (T7.setTop (mkF m 127 #[.val (.int p1), .val (.int p2), .val (.int p3), .val (.int p4), .val (.int p5), .val (.int p6), .val (.int n), .val (.int ni), .val (.int nt), .val (.ref c1), .val (.ref c2), .val (.ref c3), .val (.ref c4), .val (.ref b5), .val (.int (own_cm (p1.toInt8.toInt32) n ni nt (p3 &&& p2) p2 p4 p5)), .val (.int (p1 &&& (255 : Int32))), .unset, .unset, .unset] [(.int (255 : Int32)), (.int ((p4.toUInt32 >>> ((8 : Int32) &&& 31).toUInt32).toInt32)), (.int (p1 &&& (255 : Int32)))])) _
          refine XS.iand X7.here hx rfl (hb hby at_127) rfl ?_
          show Steps p.tables e below (T7.setTop (mkF m 128 #[.val (.int p1), .val (.int p2), .val (.int p3), .val (.int p4), .val (.int p5), .val (.int p6), .val (.int n), .val (.int ni), .val (.int nt), .val (.ref c1), .val (.ref c2), .val (.ref c3), .val (.ref c4), .val (.ref b5), .val (.int (own_cm (p1.toInt8.toInt32) n ni nt (p3 &&& p2) p2 p4 p5)), .val (.int (p1 &&& (255 : Int32))), .unset, .unset, .unset] [(.int (((p4.toUInt32 >>> ((8 : Int32) &&& 31).toUInt32).toInt32) &&& (255 : Int32))), (.int (p1 &&& (255 : Int32)))])) _
          by_cases hc128 : (p1 &&& (255 : Int32)) = (((p4.toUInt32 >>> ((8 : Int32) &&& 31).toUInt32).toInt32) &&& (255 : Int32))
          · rw [hi4, if_pos hc128] at kz
            refine XS.icmpNo X7.here hx rfl (hb hby at_128) rfl (teq hc128).2 ?_
            show Steps p.tables e below (T7.setTop (mkF m 131 #[.val (.int p1), .val (.int p2), .val (.int p3), .val (.int p4), .val (.int p5), .val (.int p6), .val (.int n), .val (.int ni), .val (.int nt), .val (.ref c1), .val (.ref c2), .val (.ref c3), .val (.ref c4), .val (.ref b5), .val (.int (own_cm (p1.toInt8.toInt32) n ni nt (p3 &&& p2) p2 p4 p5)), .val (.int (p1 &&& (255 : Int32))), .unset, .unset, .unset] [])) _
            refine XS.iconst X7.here hx rfl (hb hby at_131) ?_
            show Steps p.tables e below (T7.setTop (mkF m 132 #[.val (.int p1), .val (.int p2), .val (.int p3), .val (.int p4), .val (.int p5), .val (.int p6), .val (.int n), .val (.int ni), .val (.int nt), .val (.ref c1), .val (.ref c2), .val (.ref c3), .val (.ref c4), .val (.ref b5), .val (.int (own_cm (p1.toInt8.toInt32) n ni nt (p3 &&& p2) p2 p4 p5)), .val (.int (p1 &&& (255 : Int32))), .unset, .unset, .unset] [(.int (1 : Int32))])) _
            refine XS.goto X7.here hx rfl (pc0 := 132) (pc' := 136) rfl (hb hby at_132) (by decide) (by decide) ?_
            exact kz
          · rw [hi4, if_neg hc128] at kz
            refine XS.icmpYes X7.here hx rfl (pc0 := 128) (pc' := 135) rfl (hb hby at_128) rfl (feq hc128).2 (by decide) (by decide) ?_
            show Steps p.tables e below (T7.setTop (mkF m 135 #[.val (.int p1), .val (.int p2), .val (.int p3), .val (.int p4), .val (.int p5), .val (.int p6), .val (.int n), .val (.int ni), .val (.int nt), .val (.ref c1), .val (.ref c2), .val (.ref c3), .val (.ref c4), .val (.ref b5), .val (.int (own_cm (p1.toInt8.toInt32) n ni nt (p3 &&& p2) p2 p4 p5)), .val (.int (p1 &&& (255 : Int32))), .unset, .unset, .unset] [])) _
            refine XS.iconst X7.here hx rfl (hb hby at_135) ?_
            exact kz
  obtain ⟨t4, ht4⟩ : ∃ z, z = (if (p1 &&& (255 : Int32)) = (((p5.toUInt32 >>> ((8 : Int32) &&& 31).toUInt32).toInt32) &&& (255 : Int32)) then (1 : Int32) else (0 : Int32)) := ⟨_, rfl⟩
  obtain ⟨t3, ht3⟩ : ∃ z, z = (if nt < (2 : Int32) then (0 : Int32) else t4) := ⟨_, rfl⟩
  obtain ⟨t2, ht2⟩ : ∃ z, z = (if (p1 &&& (255 : Int32)) = (p5 &&& (255 : Int32)) then (1 : Int32) else t3) := ⟨_, rfl⟩
  obtain ⟨t1, ht1⟩ : ∃ z, z = (if nt < (1 : Int32) then t3 else t2) := ⟨_, rfl⟩
  refine own_go (A := T7.setTop (mkF m 180 #[.val (.int p1), .val (.int p2), .val (.int p3), .val (.int p4), .val (.int p5), .val (.int p6), .val (.int n), .val (.int ni), .val (.int nt), .val (.ref c1), .val (.ref c2), .val (.ref c3), .val (.ref c4), .val (.ref b5), .val (.int (own_cm (p1.toInt8.toInt32) n ni nt (p3 &&& p2) p2 p4 p5)), .val (.int (p1 &&& (255 : Int32))), .val (.int i1), .unset, .unset] [(.int t1)])) (fun _ kz => ?_) ?_
  · show Steps p.tables e below (T7.setTop (mkF m 136 #[.val (.int p1), .val (.int p2), .val (.int p3), .val (.int p4), .val (.int p5), .val (.int p6), .val (.int n), .val (.int ni), .val (.int nt), .val (.ref c1), .val (.ref c2), .val (.ref c3), .val (.ref c4), .val (.ref b5), .val (.int (own_cm (p1.toInt8.toInt32) n ni nt (p3 &&& p2) p2 p4 p5)), .val (.int (p1 &&& (255 : Int32))), .unset, .unset, .unset] [(.int i1)])) _
    refine XS.istore X7.here hx rfl (hb hby at_136) rfl (l' := #[.val (.int p1), .val (.int p2), .val (.int p3), .val (.int p4), .val (.int p5), .val (.int p6), .val (.int n), .val (.int ni), .val (.int nt), .val (.ref c1), .val (.ref c2), .val (.ref c3), .val (.ref c4), .val (.ref b5), .val (.int (own_cm (p1.toInt8.toInt32) n ni nt (p3 &&& p2) p2 p4 p5)), .val (.int (p1 &&& (255 : Int32))), .val (.int i1), .unset, .unset]) rfl ?_
    show Steps p.tables e below (T7.setTop (mkF m 138 #[.val (.int p1), .val (.int p2), .val (.int p3), .val (.int p4), .val (.int p5), .val (.int p6), .val (.int n), .val (.int ni), .val (.int nt), .val (.ref c1), .val (.ref c2), .val (.ref c3), .val (.ref c4), .val (.ref b5), .val (.int (own_cm (p1.toInt8.toInt32) n ni nt (p3 &&& p2) p2 p4 p5)), .val (.int (p1 &&& (255 : Int32))), .val (.int i1), .unset, .unset] [])) _
    refine XS.iload X7.here hx rfl (hb hby at_138) rfl ?_
    show Steps p.tables e below (T7.setTop (mkF m 140 #[.val (.int p1), .val (.int p2), .val (.int p3), .val (.int p4), .val (.int p5), .val (.int p6), .val (.int n), .val (.int ni), .val (.int nt), .val (.ref c1), .val (.ref c2), .val (.ref c3), .val (.ref c4), .val (.ref b5), .val (.int (own_cm (p1.toInt8.toInt32) n ni nt (p3 &&& p2) p2 p4 p5)), .val (.int (p1 &&& (255 : Int32))), .val (.int i1), .unset, .unset] [(.int nt)])) _
    refine XS.iconst X7.here hx rfl (hb hby at_140) ?_
    show Steps p.tables e below (T7.setTop (mkF m 141 #[.val (.int p1), .val (.int p2), .val (.int p3), .val (.int p4), .val (.int p5), .val (.int p6), .val (.int n), .val (.int ni), .val (.int nt), .val (.ref c1), .val (.ref c2), .val (.ref c3), .val (.ref c4), .val (.ref b5), .val (.int (own_cm (p1.toInt8.toInt32) n ni nt (p3 &&& p2) p2 p4 p5)), .val (.int (p1 &&& (255 : Int32))), .val (.int i1), .unset, .unset] [(.int (1 : Int32)), (.int nt)])) _
    by_cases hc141 : nt < (1 : Int32)
    · rw [ht1, if_pos hc141] at kz
      refine XS.icmpYes X7.here hx rfl (pc0 := 141) (pc' := 155) rfl (hb hby at_141) rfl (tlt hc141).1 (by decide) (by decide) ?_
      show Steps p.tables e below (T7.setTop (mkF m 155 #[.val (.int p1), .val (.int p2), .val (.int p3), .val (.int p4), .val (.int p5), .val (.int p6), .val (.int n), .val (.int ni), .val (.int nt), .val (.ref c1), .val (.ref c2), .val (.ref c3), .val (.ref c4), .val (.ref b5), .val (.int (own_cm (p1.toInt8.toInt32) n ni nt (p3 &&& p2) p2 p4 p5)), .val (.int (p1 &&& (255 : Int32))), .val (.int i1), .unset, .unset] [])) _
      refine XS.iload X7.here hx rfl (hb hby at_155) rfl ?_
      show Steps p.tables e below (T7.setTop (mkF m 157 #[.val (.int p1), .val (.int p2), .val (.int p3), .val (.int p4), .val (.int p5), .val (.int p6), .val (.int n), .val (.int ni), .val (.int nt), .val (.ref c1), .val (.ref c2), .val (.ref c3), .val (.ref c4), .val (.ref b5), .val (.int (own_cm (p1.toInt8.toInt32) n ni nt (p3 &&& p2) p2 p4 p5)), .val (.int (p1 &&& (255 : Int32))), .val (.int i1), .unset, .unset] [(.int nt)])) _
      refine XS.iconst X7.here hx rfl (hb hby at_157) ?_
      show Steps p.tables e below (T7.setTop (mkF m 158 #[.val (.int p1), .val (.int p2), .val (.int p3), .val (.int p4), .val (.int p5), .val (.int p6), .val (.int n), .val (.int ni), .val (.int nt), .val (.ref c1), .val (.ref c2), .val (.ref c3), .val (.ref c4), .val (.ref b5), .val (.int (own_cm (p1.toInt8.toInt32) n ni nt (p3 &&& p2) p2 p4 p5)), .val (.int (p1 &&& (255 : Int32))), .val (.int i1), .unset, .unset] [(.int (2 : Int32)), (.int nt)])) _
      by_cases hc158 : nt < (2 : Int32)
      · rw [ht3, if_pos hc158] at kz
        refine XS.icmpYes X7.here hx rfl (pc0 := 158) (pc' := 179) rfl (hb hby at_158) rfl (tlt hc158).1 (by decide) (by decide) ?_
        show Steps p.tables e below (T7.setTop (mkF m 179 #[.val (.int p1), .val (.int p2), .val (.int p3), .val (.int p4), .val (.int p5), .val (.int p6), .val (.int n), .val (.int ni), .val (.int nt), .val (.ref c1), .val (.ref c2), .val (.ref c3), .val (.ref c4), .val (.ref b5), .val (.int (own_cm (p1.toInt8.toInt32) n ni nt (p3 &&& p2) p2 p4 p5)), .val (.int (p1 &&& (255 : Int32))), .val (.int i1), .unset, .unset] [])) _
        refine XS.iconst X7.here hx rfl (hb hby at_179) ?_
        exact kz
      · rw [ht3, if_neg hc158] at kz
        refine XS.icmpNo X7.here hx rfl (hb hby at_158) rfl (flt hc158).1 ?_
        show Steps p.tables e below (T7.setTop (mkF m 161 #[.val (.int p1), .val (.int p2), .val (.int p3), .val (.int p4), .val (.int p5), .val (.int p6), .val (.int n), .val (.int ni), .val (.int nt), .val (.ref c1), .val (.ref c2), .val (.ref c3), .val (.ref c4), .val (.ref b5), .val (.int (own_cm (p1.toInt8.toInt32) n ni nt (p3 &&& p2) p2 p4 p5)), .val (.int (p1 &&& (255 : Int32))), .val (.int i1), .unset, .unset] [])) _
        refine XS.iload X7.here hx rfl (hb hby at_161) rfl ?_
        show Steps p.tables e below (T7.setTop (mkF m 163 #[.val (.int p1), .val (.int p2), .val (.int p3), .val (.int p4), .val (.int p5), .val (.int p6), .val (.int n), .val (.int ni), .val (.int nt), .val (.ref c1), .val (.ref c2), .val (.ref c3), .val (.ref c4), .val (.ref b5), .val (.int (own_cm (p1.toInt8.toInt32) n ni nt (p3 &&& p2) p2 p4 p5)), .val (.int (p1 &&& (255 : Int32))), .val (.int i1), .unset, .unset] [(.int (p1 &&& (255 : Int32)))])) _
        refine XS.iload X7.here hx rfl (hb hby at_163) rfl ?_
        show Steps p.tables e below (T7.setTop (mkF m 165 #[.val (.int p1), .val (.int p2), .val (.int p3), .val (.int p4), .val (.int p5), .val (.int p6), .val (.int n), .val (.int ni), .val (.int nt), .val (.ref c1), .val (.ref c2), .val (.ref c3), .val (.ref c4), .val (.ref b5), .val (.int (own_cm (p1.toInt8.toInt32) n ni nt (p3 &&& p2) p2 p4 p5)), .val (.int (p1 &&& (255 : Int32))), .val (.int i1), .unset, .unset] [(.int p5), (.int (p1 &&& (255 : Int32)))])) _
        refine XS.bipush X7.here hx rfl (hb hby at_165) ?_
        show Steps p.tables e below (T7.setTop (mkF m 167 #[.val (.int p1), .val (.int p2), .val (.int p3), .val (.int p4), .val (.int p5), .val (.int p6), .val (.int n), .val (.int ni), .val (.int nt), .val (.ref c1), .val (.ref c2), .val (.ref c3), .val (.ref c4), .val (.ref b5), .val (.int (own_cm (p1.toInt8.toInt32) n ni nt (p3 &&& p2) p2 p4 p5)), .val (.int (p1 &&& (255 : Int32))), .val (.int i1), .unset, .unset] [(.int (8 : Int32)), (.int p5), (.int (p1 &&& (255 : Int32)))])) _
        refine XS.iushr X7.here hx rfl (hb hby at_167) rfl ?_
        show Steps p.tables e below (T7.setTop (mkF m 168 #[.val (.int p1), .val (.int p2), .val (.int p3), .val (.int p4), .val (.int p5), .val (.int p6), .val (.int n), .val (.int ni), .val (.int nt), .val (.ref c1), .val (.ref c2), .val (.ref c3), .val (.ref c4), .val (.ref b5), .val (.int (own_cm (p1.toInt8.toInt32) n ni nt (p3 &&& p2) p2 p4 p5)), .val (.int (p1 &&& (255 : Int32))), .val (.int i1), .unset, .unset] [(.int ((p5.toUInt32 >>> ((8 : Int32) &&& 31).toUInt32).toInt32)), (.int (p1 &&& (255 : Int32)))])) _
        refine XS.sipush X7.here hx rfl (hb hby at_168) ?_
        show Steps p.tables e below (T7.setTop (mkF m 171 #[.val (.int p1), .val (.int p2), .val (.int p3), .val (.int p4), .val (.int p5), .val (.int p6), .val (.int n), .val (.int ni), .val (.int nt), .val (.ref c1), .val (.ref c2), .val (.ref c3), .val (.ref c4), .val (.ref b5), .val (.int (own_cm (p1.toInt8.toInt32) n ni nt (p3 &&& p2) p2 p4 p5)), .val (.int (p1 &&& (255 : Int32))), .val (.int i1), .unset, .unset] [(.int (255 : Int32)), (.int ((p5.toUInt32 >>> ((8 : Int32) &&& 31).toUInt32).toInt32)), (.int (p1 &&& (255 : Int32)))])) _
        refine XS.iand X7.here hx rfl (hb hby at_171) rfl ?_
        show Steps p.tables e below (T7.setTop (mkF m 172 #[.val (.int p1), .val (.int p2), .val (.int p3), .val (.int p4), .val (.int p5), .val (.int p6), .val (.int n), .val (.int ni), .val (.int nt), .val (.ref c1), .val (.ref c2), .val (.ref c3), .val (.ref c4), .val (.ref b5), .val (.int (own_cm (p1.toInt8.toInt32) n ni nt (p3 &&& p2) p2 p4 p5)), .val (.int (p1 &&& (255 : Int32))), .val (.int i1), .unset, .unset] [(.int (((p5.toUInt32 >>> ((8 : Int32) &&& 31).toUInt32).toInt32) &&& (255 : Int32))), (.int (p1 &&& (255 : Int32)))])) _
        by_cases hc172 : (p1 &&& (255 : Int32)) = (((p5.toUInt32 >>> ((8 : Int32) &&& 31).toUInt32).toInt32) &&& (255 : Int32))
        · rw [ht4, if_pos hc172] at kz
          refine XS.icmpNo X7.here hx rfl (hb hby at_172) rfl (teq hc172).2 ?_
          show Steps p.tables e below (T7.setTop (mkF m 175 #[.val (.int p1), .val (.int p2), .val (.int p3), .val (.int p4), .val (.int p5), .val (.int p6), .val (.int n), .val (.int ni), .val (.int nt), .val (.ref c1), .val (.ref c2), .val (.ref c3), .val (.ref c4), .val (.ref b5), .val (.int (own_cm (p1.toInt8.toInt32) n ni nt (p3 &&& p2) p2 p4 p5)), .val (.int (p1 &&& (255 : Int32))), .val (.int i1), .unset, .unset] [])) _
          refine XS.iconst X7.here hx rfl (hb hby at_175) ?_
          show Steps p.tables e below (T7.setTop (mkF m 176 #[.val (.int p1), .val (.int p2), .val (.int p3), .val (.int p4), .val (.int p5), .val (.int p6), .val (.int n), .val (.int ni), .val (.int nt), .val (.ref c1), .val (.ref c2), .val (.ref c3), .val (.ref c4), .val (.ref b5), .val (.int (own_cm (p1.toInt8.toInt32) n ni nt (p3 &&& p2) p2 p4 p5)), .val (.int (p1 &&& (255 : Int32))), .val (.int i1), .unset, .unset] [(.int (1 : Int32))])) _
          refine XS.goto X7.here hx rfl (pc0 := 176) (pc' := 180) rfl (hb hby at_176) (by decide) (by decide) ?_
          exact kz
        · rw [ht4, if_neg hc172] at kz
          refine XS.icmpYes X7.here hx rfl (pc0 := 172) (pc' := 179) rfl (hb hby at_172) rfl (feq hc172).2 (by decide) (by decide) ?_
          show Steps p.tables e below (T7.setTop (mkF m 179 #[.val (.int p1), .val (.int p2), .val (.int p3), .val (.int p4), .val (.int p5), .val (.int p6), .val (.int n), .val (.int ni), .val (.int nt), .val (.ref c1), .val (.ref c2), .val (.ref c3), .val (.ref c4), .val (.ref b5), .val (.int (own_cm (p1.toInt8.toInt32) n ni nt (p3 &&& p2) p2 p4 p5)), .val (.int (p1 &&& (255 : Int32))), .val (.int i1), .unset, .unset] [])) _
          refine XS.iconst X7.here hx rfl (hb hby at_179) ?_
          exact kz
    · rw [ht1, if_neg hc141] at kz
      refine XS.icmpNo X7.here hx rfl (hb hby at_141) rfl (flt hc141).1 ?_
      show Steps p.tables e below (T7.setTop (mkF m 144 #[.val (.int p1), .val (.int p2), .val (.int p3), .val (.int p4), .val (.int p5), .val (.int p6), .val (.int n), .val (.int ni), .val (.int nt), .val (.ref c1), .val (.ref c2), .val (.ref c3), .val (.ref c4), .val (.ref b5), .val (.int (own_cm (p1.toInt8.toInt32) n ni nt (p3 &&& p2) p2 p4 p5)), .val (.int (p1 &&& (255 : Int32))), .val (.int i1), .unset, .unset] [])) _
      refine XS.iload X7.here hx rfl (hb hby at_144) rfl ?_
      show Steps p.tables e below (T7.setTop (mkF m 146 #[.val (.int p1), .val (.int p2), .val (.int p3), .val (.int p4), .val (.int p5), .val (.int p6), .val (.int n), .val (.int ni), .val (.int nt), .val (.ref c1), .val (.ref c2), .val (.ref c3), .val (.ref c4), .val (.ref b5), .val (.int (own_cm (p1.toInt8.toInt32) n ni nt (p3 &&& p2) p2 p4 p5)), .val (.int (p1 &&& (255 : Int32))), .val (.int i1), .unset, .unset] [(.int (p1 &&& (255 : Int32)))])) _
      refine XS.iload X7.here hx rfl (hb hby at_146) rfl ?_
      show Steps p.tables e below (T7.setTop (mkF m 148 #[.val (.int p1), .val (.int p2), .val (.int p3), .val (.int p4), .val (.int p5), .val (.int p6), .val (.int n), .val (.int ni), .val (.int nt), .val (.ref c1), .val (.ref c2), .val (.ref c3), .val (.ref c4), .val (.ref b5), .val (.int (own_cm (p1.toInt8.toInt32) n ni nt (p3 &&& p2) p2 p4 p5)), .val (.int (p1 &&& (255 : Int32))), .val (.int i1), .unset, .unset] [(.int p5), (.int (p1 &&& (255 : Int32)))])) _
      refine XS.sipush X7.here hx rfl (hb hby at_148) ?_
      show Steps p.tables e below (T7.setTop (mkF m 151 #[.val (.int p1), .val (.int p2), .val (.int p3), .val (.int p4), .val (.int p5), .val (.int p6), .val (.int n), .val (.int ni), .val (.int nt), .val (.ref c1), .val (.ref c2), .val (.ref c3), .val (.ref c4), .val (.ref b5), .val (.int (own_cm (p1.toInt8.toInt32) n ni nt (p3 &&& p2) p2 p4 p5)), .val (.int (p1 &&& (255 : Int32))), .val (.int i1), .unset, .unset] [(.int (255 : Int32)), (.int p5), (.int (p1 &&& (255 : Int32)))])) _
      refine XS.iand X7.here hx rfl (hb hby at_151) rfl ?_
      show Steps p.tables e below (T7.setTop (mkF m 152 #[.val (.int p1), .val (.int p2), .val (.int p3), .val (.int p4), .val (.int p5), .val (.int p6), .val (.int n), .val (.int ni), .val (.int nt), .val (.ref c1), .val (.ref c2), .val (.ref c3), .val (.ref c4), .val (.ref b5), .val (.int (own_cm (p1.toInt8.toInt32) n ni nt (p3 &&& p2) p2 p4 p5)), .val (.int (p1 &&& (255 : Int32))), .val (.int i1), .unset, .unset] [(.int (p5 &&& (255 : Int32))), (.int (p1 &&& (255 : Int32)))])) _
      by_cases hc152 : (p1 &&& (255 : Int32)) = (p5 &&& (255 : Int32))
      · rw [ht2, if_pos hc152] at kz
        refine XS.icmpYes X7.here hx rfl (pc0 := 152) (pc' := 175) rfl (hb hby at_152) rfl (teq hc152).1 (by decide) (by decide) ?_
        show Steps p.tables e below (T7.setTop (mkF m 175 #[.val (.int p1), .val (.int p2), .val (.int p3), .val (.int p4), .val (.int p5), .val (.int p6), .val (.int n), .val (.int ni), .val (.int nt), .val (.ref c1), .val (.ref c2), .val (.ref c3), .val (.ref c4), .val (.ref b5), .val (.int (own_cm (p1.toInt8.toInt32) n ni nt (p3 &&& p2) p2 p4 p5)), .val (.int (p1 &&& (255 : Int32))), .val (.int i1), .unset, .unset] [])) _
        refine XS.iconst X7.here hx rfl (hb hby at_175) ?_
        show Steps p.tables e below (T7.setTop (mkF m 176 #[.val (.int p1), .val (.int p2), .val (.int p3), .val (.int p4), .val (.int p5), .val (.int p6), .val (.int n), .val (.int ni), .val (.int nt), .val (.ref c1), .val (.ref c2), .val (.ref c3), .val (.ref c4), .val (.ref b5), .val (.int (own_cm (p1.toInt8.toInt32) n ni nt (p3 &&& p2) p2 p4 p5)), .val (.int (p1 &&& (255 : Int32))), .val (.int i1), .unset, .unset] [(.int (1 : Int32))])) _
        refine XS.goto X7.here hx rfl (pc0 := 176) (pc' := 180) rfl (hb hby at_176) (by decide) (by decide) ?_
        exact kz
      · rw [ht2, if_neg hc152] at kz
        refine XS.icmpNo X7.here hx rfl (hb hby at_152) rfl (feq hc152).1 ?_
        show Steps p.tables e below (T7.setTop (mkF m 155 #[.val (.int p1), .val (.int p2), .val (.int p3), .val (.int p4), .val (.int p5), .val (.int p6), .val (.int n), .val (.int ni), .val (.int nt), .val (.ref c1), .val (.ref c2), .val (.ref c3), .val (.ref c4), .val (.ref b5), .val (.int (own_cm (p1.toInt8.toInt32) n ni nt (p3 &&& p2) p2 p4 p5)), .val (.int (p1 &&& (255 : Int32))), .val (.int i1), .unset, .unset] [])) _
        refine XS.iload X7.here hx rfl (hb hby at_155) rfl ?_
        show Steps p.tables e below (T7.setTop (mkF m 157 #[.val (.int p1), .val (.int p2), .val (.int p3), .val (.int p4), .val (.int p5), .val (.int p6), .val (.int n), .val (.int ni), .val (.int nt), .val (.ref c1), .val (.ref c2), .val (.ref c3), .val (.ref c4), .val (.ref b5), .val (.int (own_cm (p1.toInt8.toInt32) n ni nt (p3 &&& p2) p2 p4 p5)), .val (.int (p1 &&& (255 : Int32))), .val (.int i1), .unset, .unset] [(.int nt)])) _
        refine XS.iconst X7.here hx rfl (hb hby at_157) ?_
        show Steps p.tables e below (T7.setTop (mkF m 158 #[.val (.int p1), .val (.int p2), .val (.int p3), .val (.int p4), .val (.int p5), .val (.int p6), .val (.int n), .val (.int ni), .val (.int nt), .val (.ref c1), .val (.ref c2), .val (.ref c3), .val (.ref c4), .val (.ref b5), .val (.int (own_cm (p1.toInt8.toInt32) n ni nt (p3 &&& p2) p2 p4 p5)), .val (.int (p1 &&& (255 : Int32))), .val (.int i1), .unset, .unset] [(.int (2 : Int32)), (.int nt)])) _
        by_cases hc158 : nt < (2 : Int32)
        · rw [ht3, if_pos hc158] at kz
          refine XS.icmpYes X7.here hx rfl (pc0 := 158) (pc' := 179) rfl (hb hby at_158) rfl (tlt hc158).1 (by decide) (by decide) ?_
          show Steps p.tables e below (T7.setTop (mkF m 179 #[.val (.int p1), .val (.int p2), .val (.int p3), .val (.int p4), .val (.int p5), .val (.int p6), .val (.int n), .val (.int ni), .val (.int nt), .val (.ref c1), .val (.ref c2), .val (.ref c3), .val (.ref c4), .val (.ref b5), .val (.int (own_cm (p1.toInt8.toInt32) n ni nt (p3 &&& p2) p2 p4 p5)), .val (.int (p1 &&& (255 : Int32))), .val (.int i1), .unset, .unset] [])) _
          refine XS.iconst X7.here hx rfl (hb hby at_179) ?_
          exact kz
        · rw [ht3, if_neg hc158] at kz
          refine XS.icmpNo X7.here hx rfl (hb hby at_158) rfl (flt hc158).1 ?_
          show Steps p.tables e below (T7.setTop (mkF m 161 #[.val (.int p1), .val (.int p2), .val (.int p3), .val (.int p4), .val (.int p5), .val (.int p6), .val (.int n), .val (.int ni), .val (.int nt), .val (.ref c1), .val (.ref c2), .val (.ref c3), .val (.ref c4), .val (.ref b5), .val (.int (own_cm (p1.toInt8.toInt32) n ni nt (p3 &&& p2) p2 p4 p5)), .val (.int (p1 &&& (255 : Int32))), .val (.int i1), .unset, .unset] [])) _
          refine XS.iload X7.here hx rfl (hb hby at_161) rfl ?_
          show Steps p.tables e below (T7.setTop (mkF m 163 #[.val (.int p1), .val (.int p2), .val (.int p3), .val (.int p4), .val (.int p5), .val (.int p6), .val (.int n), .val (.int ni), .val (.int nt), .val (.ref c1), .val (.ref c2), .val (.ref c3), .val (.ref c4), .val (.ref b5), .val (.int (own_cm (p1.toInt8.toInt32) n ni nt (p3 &&& p2) p2 p4 p5)), .val (.int (p1 &&& (255 : Int32))), .val (.int i1), .unset, .unset] [(.int (p1 &&& (255 : Int32)))])) _
          refine XS.iload X7.here hx rfl (hb hby at_163) rfl ?_
          show Steps p.tables e below (T7.setTop (mkF m 165 #[.val (.int p1), .val (.int p2), .val (.int p3), .val (.int p4), .val (.int p5), .val (.int p6), .val (.int n), .val (.int ni), .val (.int nt), .val (.ref c1), .val (.ref c2), .val (.ref c3), .val (.ref c4), .val (.ref b5), .val (.int (own_cm (p1.toInt8.toInt32) n ni nt (p3 &&& p2) p2 p4 p5)), .val (.int (p1 &&& (255 : Int32))), .val (.int i1), .unset, .unset] [(.int p5), (.int (p1 &&& (255 : Int32)))])) _
          refine XS.bipush X7.here hx rfl (hb hby at_165) ?_
          show Steps p.tables e below (T7.setTop (mkF m 167 #[.val (.int p1), .val (.int p2), .val (.int p3), .val (.int p4), .val (.int p5), .val (.int p6), .val (.int n), .val (.int ni), .val (.int nt), .val (.ref c1), .val (.ref c2), .val (.ref c3), .val (.ref c4), .val (.ref b5), .val (.int (own_cm (p1.toInt8.toInt32) n ni nt (p3 &&& p2) p2 p4 p5)), .val (.int (p1 &&& (255 : Int32))), .val (.int i1), .unset, .unset] [(.int (8 : Int32)), (.int p5), (.int (p1 &&& (255 : Int32)))])) _
          refine XS.iushr X7.here hx rfl (hb hby at_167) rfl ?_
          show Steps p.tables e below (T7.setTop (mkF m 168 #[.val (.int p1), .val (.int p2), .val (.int p3), .val (.int p4), .val (.int p5), .val (.int p6), .val (.int n), .val (.int ni), .val (.int nt), .val (.ref c1), .val (.ref c2), .val (.ref c3), .val (.ref c4), .val (.ref b5), .val (.int (own_cm (p1.toInt8.toInt32) n ni nt (p3 &&& p2) p2 p4 p5)), .val (.int (p1 &&& (255 : Int32))), .val (.int i1), .unset, .unset] [(.int ((p5.toUInt32 >>> ((8 : Int32) &&& 31).toUInt32).toInt32)), (.int (p1 &&& (255 : Int32)))])) _
          refine XS.sipush X7.here hx rfl (hb hby at_168) ?_
          show Steps p.tables e below (T7.setTop (mkF m 171 #[.val (.int p1), .val (.int p2), .val (.int p3), .val (.int p4), .val (.int p5), .val (.int p6), .val (.int n), .val (.int ni), .val (.int nt), .val (.ref c1), .val (.ref c2), .val (.ref c3), .val (.ref c4), .val (.ref b5), .val (.int (own_cm (p1.toInt8.toInt32) n ni nt (p3 &&& p2) p2 p4 p5)), .val (.int (p1 &&& (255 : Int32))), .val (.int i1), .unset, .unset] [(.int (255 : Int32)), (.int ((p5.toUInt32 >>> ((8 : Int32) &&& 31).toUInt32).toInt32)), (.int (p1 &&& (255 : Int32)))])) _
          refine XS.iand X7.here hx rfl (hb hby at_171) rfl ?_
          show Steps p.tables e below (T7.setTop (mkF m 172 #[.val (.int p1), .val (.int p2), .val (.int p3), .val (.int p4), .val (.int p5), .val (.int p6), .val (.int n), .val (.int ni), .val (.int nt), .val (.ref c1), .val (.ref c2), .val (.ref c3), .val (.ref c4), .val (.ref b5), .val (.int (own_cm (p1.toInt8.toInt32) n ni nt (p3 &&& p2) p2 p4 p5)), .val (.int (p1 &&& (255 : Int32))), .val (.int i1), .unset, .unset] [(.int (((p5.toUInt32 >>> ((8 : Int32) &&& 31).toUInt32).toInt32) &&& (255 : Int32))), (.int (p1 &&& (255 : Int32)))])) _
          by_cases hc172 : (p1 &&& (255 : Int32)) = (((p5.toUInt32 >>> ((8 : Int32) &&& 31).toUInt32).toInt32) &&& (255 : Int32))
          · rw [ht4, if_pos hc172] at kz
            refine XS.icmpNo X7.here hx rfl (hb hby at_172) rfl (teq hc172).2 ?_
            show Steps p.tables e below (T7.setTop (mkF m 175 #[.val (.int p1), .val (.int p2), .val (.int p3), .val (.int p4), .val (.int p5), .val (.int p6), .val (.int n), .val (.int ni), .val (.int nt), .val (.ref c1), .val (.ref c2), .val (.ref c3), .val (.ref c4), .val (.ref b5), .val (.int (own_cm (p1.toInt8.toInt32) n ni nt (p3 &&& p2) p2 p4 p5)), .val (.int (p1 &&& (255 : Int32))), .val (.int i1), .unset, .unset] [])) _
            refine XS.iconst X7.here hx rfl (hb hby at_175) ?_
            show Steps p.tables e below (T7.setTop (mkF m 176 #[.val (.int p1), .val (.int p2), .val (.int p3), .val (.int p4), .val (.int p5), .val (.int p6), .val (.int n), .val (.int ni), .val (.int nt), .val (.ref c1), .val (.ref c2), .val (.ref c3), .val (.ref c4), .val (.ref b5), .val (.int (own_cm (p1.toInt8.toInt32) n ni nt (p3 &&& p2) p2 p4 p5)), .val (.int (p1 &&& (255 : Int32))), .val (.int i1), .unset, .unset] [(.int (1 : Int32))])) _
            refine XS.goto X7.here hx rfl (pc0 := 176) (pc' := 180) rfl (hb hby at_176) (by decide) (by decide) ?_
            exact kz
          · rw [ht4, if_neg hc172] at kz
            refine XS.icmpYes X7.here hx rfl (pc0 := 172) (pc' := 179) rfl (hb hby at_172) rfl (feq hc172).2 (by decide) (by decide) ?_
            show Steps p.tables e below (T7.setTop (mkF m 179 #[.val (.int p1), .val (.int p2), .val (.int p3), .val (.int p4), .val (.int p5), .val (.int p6), .val (.int n), .val (.int ni), .val (.int nt), .val (.ref c1), .val (.ref c2), .val (.ref c3), .val (.ref c4), .val (.ref b5), .val (.int (own_cm (p1.toInt8.toInt32) n ni nt (p3 &&& p2) p2 p4 p5)), .val (.int (p1 &&& (255 : Int32))), .val (.int i1), .unset, .unset] [])) _
            refine XS.iconst X7.here hx rfl (hb hby at_179) ?_
            exact kz
  obtain ⟨e3, he3⟩ : ∃ z, z = (if ((p1 &&& p2) &&& (255 : Int32)) = ((p3 &&& p2) &&& (255 : Int32)) then (1 : Int32) else (0 : Int32)) := ⟨_, rfl⟩
  obtain ⟨e5, he5⟩ : ∃ z, z = (if t1 = (0 : Int32) then (0 : Int32) else (1 : Int32)) := ⟨_, rfl⟩
  obtain ⟨e4, he4⟩ : ∃ z, z = (if nt = (0 : Int32) then (1 : Int32) else e5) := ⟨_, rfl⟩
  obtain ⟨e2, he2⟩ : ∃ z, z = (if (0 : Int32) < n then e3 else e4) := ⟨_, rfl⟩
  obtain ⟨e1, he1⟩ : ∃ z, z = (if i1 = (0 : Int32) then e2 else (1 : Int32)) := ⟨_, rfl⟩
  refine own_go (A := T7.setTop (mkF m 242 #[.val (.int p1), .val (.int p2), .val (.int p3), .val (.int p4), .val (.int p5), .val (.int p6), .val (.int n), .val (.int ni), .val (.int nt), .val (.ref c1), .val (.ref c2), .val (.ref c3), .val (.ref c4), .val (.ref b5), .val (.int (own_cm (p1.toInt8.toInt32) n ni nt (p3 &&& p2) p2 p4 p5)), .val (.int (p1 &&& (255 : Int32))), .val (.int i1), .val (.int t1), .val (.int e1)] [])) (fun _ kz => ?_) ?_
  · show Steps p.tables e below (T7.setTop (mkF m 180 #[.val (.int p1), .val (.int p2), .val (.int p3), .val (.int p4), .val (.int p5), .val (.int p6), .val (.int n), .val (.int ni), .val (.int nt), .val (.ref c1), .val (.ref c2), .val (.ref c3), .val (.ref c4), .val (.ref b5), .val (.int (own_cm (p1.toInt8.toInt32) n ni nt (p3 &&& p2) p2 p4 p5)), .val (.int (p1 &&& (255 : Int32))), .val (.int i1), .unset, .unset] [(.int t1)])) _
    refine XS.istore X7.here hx rfl (hb hby at_180) rfl (l' := #[.val (.int p1), .val (.int p2), .val (.int p3), .val (.int p4), .val (.int p5), .val (.int p6), .val (.int n), .val (.int ni), .val (.int nt), .val (.ref c1), .val (.ref c2), .val (.ref c3), .val (.ref c4), .val (.ref b5), .val (.int (own_cm (p1.toInt8.toInt32) n ni nt (p3 &&& p2) p2 p4 p5)), .val (.int (p1 &&& (255 : Int32))), .val (.int i1), .val (.int t1), .unset]) rfl ?_
    show Steps p.tables e below (T7.setTop (mkF m 182 #[.val (.int p1), .val (.int p2), .val (.int p3), .val (.int p4), .val (.int p5), .val (.int p6), .val (.int n), .val (.int ni), .val (.int nt), .val (.ref c1), .val (.ref c2), .val (.ref c3), .val (.ref c4), .val (.ref b5), .val (.int (own_cm (p1.toInt8.toInt32) n ni nt (p3 &&& p2) p2 p4 p5)), .val (.int (p1 &&& (255 : Int32))), .val (.int i1), .val (.int t1), .unset] [])) _
    refine XS.iload X7.here hx rfl (hb hby at_182) rfl ?_
    show Steps p.tables e below (T7.setTop (mkF m 184 #[.val (.int p1), .val (.int p2), .val (.int p3), .val (.int p4), .val (.int p5), .val (.int p6), .val (.int n), .val (.int ni), .val (.int nt), .val (.ref c1), .val (.ref c2), .val (.ref c3), .val (.ref c4), .val (.ref b5), .val (.int (own_cm (p1.toInt8.toInt32) n ni nt (p3 &&& p2) p2 p4 p5)), .val (.int (p1 &&& (255 : Int32))), .val (.int i1), .val (.int t1), .unset] [(.int i1)])) _
    by_cases hc184 : i1 = (0 : Int32)
    · rw [he1, if_pos hc184] at kz
      refine XS.ifYes X7.here hx rfl (pc0 := 184) (pc' := 193) rfl (hb hby at_184) rfl ((if0 _ _).trans (teq hc184).1) (by decide) (by decide) ?_
      show Steps p.tables e below (T7.setTop (mkF m 193 #[.val (.int p1), .val (.int p2), .val (.int p3), .val (.int p4), .val (.int p5), .val (.int p6), .val (.int n), .val (.int ni), .val (.int nt), .val (.ref c1), .val (.ref c2), .val (.ref c3), .val (.ref c4), .val (.ref b5), .val (.int (own_cm (p1.toInt8.toInt32) n ni nt (p3 &&& p2) p2 p4 p5)), .val (.int (p1 &&& (255 : Int32))), .val (.int i1), .val (.int t1), .unset] [])) _
      refine XS.iload X7.here hx rfl (hb hby at_193) rfl ?_
      show Steps p.tables e below (T7.setTop (mkF m 195 #[.val (.int p1), .val (.int p2), .val (.int p3), .val (.int p4), .val (.int p5), .val (.int p6), .val (.int n), .val (.int ni), .val (.int nt), .val (.ref c1), .val (.ref c2), .val (.ref c3), .val (.ref c4), .val (.ref b5), .val (.int (own_cm (p1.toInt8.toInt32) n ni nt (p3 &&& p2) p2 p4 p5)), .val (.int (p1 &&& (255 : Int32))), .val (.int i1), .val (.int t1), .unset] [(.int n)])) _
      by_cases hc195 : (0 : Int32) < n
      · rw [he2, if_pos hc195] at kz
        refine XS.ifNo X7.here hx rfl (hb hby at_195) rfl ((if0 _ _).trans (tlt hc195).2.2.2) ?_
        show Steps p.tables e below (T7.setTop (mkF m 198 #[.val (.int p1), .val (.int p2), .val (.int p3), .val (.int p4), .val (.int p5), .val (.int p6), .val (.int n), .val (.int ni), .val (.int nt), .val (.ref c1), .val (.ref c2), .val (.ref c3), .val (.ref c4), .val (.ref b5), .val (.int (own_cm (p1.toInt8.toInt32) n ni nt (p3 &&& p2) p2 p4 p5)), .val (.int (p1 &&& (255 : Int32))), .val (.int i1), .val (.int t1), .unset] [])) _
        refine XS.iloadN X7.here hx rfl (hb hby at_198) rfl ?_
        show Steps p.tables e below (T7.setTop (mkF m 199 #[.val (.int p1), .val (.int p2), .val (.int p3), .val (.int p4), .val (.int p5), .val (.int p6), .val (.int n), .val (.int ni), .val (.int nt), .val (.ref c1), .val (.ref c2), .val (.ref c3), .val (.ref c4), .val (.ref b5), .val (.int (own_cm (p1.toInt8.toInt32) n ni nt (p3 &&& p2) p2 p4 p5)), .val (.int (p1 &&& (255 : Int32))), .val (.int i1), .val (.int t1), .unset] [(.int p1)])) _
        refine XS.iloadN X7.here hx rfl (hb hby at_199) rfl ?_
        show Steps p.tables e below (T7.setTop (mkF m 200 #[.val (.int p1), .val (.int p2), .val (.int p3), .val (.int p4), .val (.int p5), .val (.int p6), .val (.int n), .val (.int ni), .val (.int nt), .val (.ref c1), .val (.ref c2), .val (.ref c3), .val (.ref c4), .val (.ref b5), .val (.int (own_cm (p1.toInt8.toInt32) n ni nt (p3 &&& p2) p2 p4 p5)), .val (.int (p1 &&& (255 : Int32))), .val (.int i1), .val (.int t1), .unset] [(.int p2), (.int p1)])) _
        refine XS.iand X7.here hx rfl (hb hby at_200) rfl ?_
        show Steps p.tables e below (T7.setTop (mkF m 201 #[.val (.int p1), .val (.int p2), .val (.int p3), .val (.int p4), .val (.int p5), .val (.int p6), .val (.int n), .val (.int ni), .val (.int nt), .val (.ref c1), .val (.ref c2), .val (.ref c3), .val (.ref c4), .val (.ref b5), .val (.int (own_cm (p1.toInt8.toInt32) n ni nt (p3 &&& p2) p2 p4 p5)), .val (.int (p1 &&& (255 : Int32))), .val (.int i1), .val (.int t1), .unset] [(.int (p1 &&& p2))])) _
        refine XS.sipush X7.here hx rfl (hb hby at_201) ?_
        show Steps p.tables e below (T7.setTop (mkF m 204 #[.val (.int p1), .val (.int p2), .val (.int p3), .val (.int p4), .val (.int p5), .val (.int p6), .val (.int n), .val (.int ni), .val (.int nt), .val (.ref c1), .val (.ref c2), .val (.ref c3), .val (.ref c4), .val (.ref b5), .val (.int (own_cm (p1.toInt8.toInt32) n ni nt (p3 &&& p2) p2 p4 p5)), .val (.int (p1 &&& (255 : Int32))), .val (.int i1), .val (.int t1), .unset] [(.int (255 : Int32)), (.int (p1 &&& p2))])) _
        refine XS.iand X7.here hx rfl (hb hby at_204) rfl ?_
        show Steps p.tables e below (T7.setTop (mkF m 205 #[.val (.int p1), .val (.int p2), .val (.int p3), .val (.int p4), .val (.int p5), .val (.int p6), .val (.int n), .val (.int ni), .val (.int nt), .val (.ref c1), .val (.ref c2), .val (.ref c3), .val (.ref c4), .val (.ref b5), .val (.int (own_cm (p1.toInt8.toInt32) n ni nt (p3 &&& p2) p2 p4 p5)), .val (.int (p1 &&& (255 : Int32))), .val (.int i1), .val (.int t1), .unset] [(.int ((p1 &&& p2) &&& (255 : Int32)))])) _
        refine XS.iloadN X7.here hx rfl (hb hby at_205) rfl ?_
        show Steps p.tables e below (T7.setTop (mkF m 206 #[.val (.int p1), .val (.int p2), .val (.int p3), .val (.int p4), .val (.int p5), .val (.int p6), .val (.int n), .val (.int ni), .val (.int nt), .val (.ref c1), .val (.ref c2), .val (.ref c3), .val (.ref c4), .val (.ref b5), .val (.int (own_cm (p1.toInt8.toInt32) n ni nt (p3 &&& p2) p2 p4 p5)), .val (.int (p1 &&& (255 : Int32))), .val (.int i1), .val (.int t1), .unset] [(.int p3), (.int ((p1 &&& p2) &&& (255 : Int32)))])) _
        refine XS.iloadN X7.here hx rfl (hb hby at_206) rfl ?_
        show Steps p.tables e below (T7.setTop (mkF m 207 #[.val (.int p1), .val (.int p2), .val (.int p3), .val (.int p4), .val (.int p5), .val (.int p6), .val (.int n), .val (.int ni), .val (.int nt), .val (.ref c1), .val (.ref c2), .val (.ref c3), .val (.ref c4), .val (.ref b5), .val (.int (own_cm (p1.toInt8.toInt32) n ni nt (p3 &&& p2) p2 p4 p5)), .val (.int (p1 &&& (255 : Int32))), .val (.int i1), .val (.int t1), .unset] [(.int p2), (.int p3), (.int ((p1 &&& p2) &&& (255 : Int32)))])) _
        refine XS.iand X7.here hx rfl (hb hby at_207) rfl ?_
        show Steps p.tables e below (T7.setTop (mkF m 208 #[.val (.int p1), .val (.int p2), .val (.int p3), .val (.int p4), .val (.int p5), .val (.int p6), .val (.int n), .val (.int ni), .val (.int nt), .val (.ref c1), .val (.ref c2), .val (.ref c3), .val (.ref c4), .val (.ref b5), .val (.int (own_cm (p1.toInt8.toInt32) n ni nt (p3 &&& p2) p2 p4 p5)), .val (.int (p1 &&& (255 : Int32))), .val (.int i1), .val (.int t1), .unset] [(.int (p3 &&& p2)), (.int ((p1 &&& p2) &&& (255 : Int32)))])) _
        refine XS.sipush X7.here hx rfl (hb hby at_208) ?_
        show Steps p.tables e below (T7.setTop (mkF m 211 #[.val (.int p1), .val (.int p2), .val (.int p3), .val (.int p4), .val (.int p5), .val (.int p6), .val (.int n), .val (.int ni), .val (.int nt), .val (.ref c1), .val (.ref c2), .val (.ref c3), .val (.ref c4), .val (.ref b5), .val (.int (own_cm (p1.toInt8.toInt32) n ni nt (p3 &&& p2) p2 p4 p5)), .val (.int (p1 &&& (255 : Int32))), .val (.int i1), .val (.int t1), .unset] [(.int (255 : Int32)), (.int (p3 &&& p2)), (.int ((p1 &&& p2) &&& (255 : Int32)))])) _
        refine XS.iand X7.here hx rfl (hb hby at_211) rfl ?_
        show Steps p.tables e below (T7.setTop (mkF m 212 #[.val (.int p1), .val (.int p2), .val (.int p3), .val (.int p4), .val (.int p5), .val (.int p6), .val (.int n), .val (.int ni), .val (.int nt), .val (.ref c1), .val (.ref c2), .val (.ref c3), .val (.ref c4), .val (.ref b5), .val (.int (own_cm (p1.toInt8.toInt32) n ni nt (p3 &&& p2) p2 p4 p5)), .val (.int (p1 &&& (255 : Int32))), .val (.int i1), .val (.int t1), .unset] [(.int ((p3 &&& p2) &&& (255 : Int32))), (.int ((p1 &&& p2) &&& (255 : Int32)))])) _
        by_cases hc212 : ((p1 &&& p2) &&& (255 : Int32)) = ((p3 &&& p2) &&& (255 : Int32))
        · rw [he3, if_pos hc212] at kz
          refine XS.icmpNo X7.here hx rfl (hb hby at_212) rfl (teq hc212).2 ?_
          show Steps p.tables e below (T7.setTop (mkF m 215 #[.val (.int p1), .val (.int p2), .val (.int p3), .val (.int p4), .val (.int p5), .val (.int p6), .val (.int n), .val (.int ni), .val (.int nt), .val (.ref c1), .val (.ref c2), .val (.ref c3), .val (.ref c4), .val (.ref b5), .val (.int (own_cm (p1.toInt8.toInt32) n ni nt (p3 &&& p2) p2 p4 p5)), .val (.int (p1 &&& (255 : Int32))), .val (.int i1), .val (.int t1), .unset] [])) _
          refine XS.iconst X7.here hx rfl (hb hby at_215) ?_
          show Steps p.tables e below (T7.setTop (mkF m 216 #[.val (.int p1), .val (.int p2), .val (.int p3), .val (.int p4), .val (.int p5), .val (.int p6), .val (.int n), .val (.int ni), .val (.int nt), .val (.ref c1), .val (.ref c2), .val (.ref c3), .val (.ref c4), .val (.ref b5), .val (.int (own_cm (p1.toInt8.toInt32) n ni nt (p3 &&& p2) p2 p4 p5)), .val (.int (p1 &&& (255 : Int32))), .val (.int i1), .val (.int t1), .unset] [(.int (1 : Int32))])) _
          refine XS.goto X7.here hx rfl (pc0 := 216) (pc' := 220) rfl (hb hby at_216) (by decide) (by decide) ?_
          show Steps p.tables e below (T7.setTop (mkF m 220 #[.val (.int p1), .val (.int p2), .val (.int p3), .val (.int p4), .val (.int p5), .val (.int p6), .val (.int n), .val (.int ni), .val (.int nt), .val (.ref c1), .val (.ref c2), .val (.ref c3), .val (.ref c4), .val (.ref b5), .val (.int (own_cm (p1.toInt8.toInt32) n ni nt (p3 &&& p2) p2 p4 p5)), .val (.int (p1 &&& (255 : Int32))), .val (.int i1), .val (.int t1), .unset] [(.int (1 : Int32))])) _
          refine XS.istore X7.here hx rfl (hb hby at_220) rfl (l' := #[.val (.int p1), .val (.int p2), .val (.int p3), .val (.int p4), .val (.int p5), .val (.int p6), .val (.int n), .val (.int ni), .val (.int nt), .val (.ref c1), .val (.ref c2), .val (.ref c3), .val (.ref c4), .val (.ref b5), .val (.int (own_cm (p1.toInt8.toInt32) n ni nt (p3 &&& p2) p2 p4 p5)), .val (.int (p1 &&& (255 : Int32))), .val (.int i1), .val (.int t1), .val (.int (1 : Int32))]) rfl ?_
          show Steps p.tables e below (T7.setTop (mkF m 222 #[.val (.int p1), .val (.int p2), .val (.int p3), .val (.int p4), .val (.int p5), .val (.int p6), .val (.int n), .val (.int ni), .val (.int nt), .val (.ref c1), .val (.ref c2), .val (.ref c3), .val (.ref c4), .val (.ref b5), .val (.int (own_cm (p1.toInt8.toInt32) n ni nt (p3 &&& p2) p2 p4 p5)), .val (.int (p1 &&& (255 : Int32))), .val (.int i1), .val (.int t1), .val (.int (1 : Int32))] [])) _
          refine XS.goto X7.here hx rfl (pc0 := 222) (pc' := 242) rfl (hb hby at_222) (by decide) (by decide) ?_
          exact kz
        · rw [he3, if_neg hc212] at kz
          refine XS.icmpYes X7.here hx rfl (pc0 := 212) (pc' := 219) rfl (hb hby at_212) rfl (feq hc212).2 (by decide) (by decide) ?_
          show Steps p.tables e below (T7.setTop (mkF m 219 #[.val (.int p1), .val (.int p2), .val (.int p3), .val (.int p4), .val (.int p5), .val (.int p6), .val (.int n), .val (.int ni), .val (.int nt), .val (.ref c1), .val (.ref c2), .val (.ref c3), .val (.ref c4), .val (.ref b5), .val (.int (own_cm (p1.toInt8.toInt32) n ni nt (p3 &&& p2) p2 p4 p5)), .val (.int (p1 &&& (255 : Int32))), .val (.int i1), .val (.int t1), .unset] [])) _
          refine XS.iconst X7.here hx rfl (hb hby at_219) ?_
          show Steps p.tables e below (T7.setTop (mkF m 220 #[.val (.int p1), .val (.int p2), .val (.int p3), .val (.int p4), .val (.int p5), .val (.int p6), .val (.int n), .val (.int ni), .val (.int nt), .val (.ref c1), .val (.ref c2), .val (.ref c3), .val (.ref c4), .val (.ref b5), .val (.int (own_cm (p1.toInt8.toInt32) n ni nt (p3 &&& p2) p2 p4 p5)), .val (.int (p1 &&& (255 : Int32))), .val (.int i1), .val (.int t1), .unset] [(.int (0 : Int32))])) _
          refine XS.istore X7.here hx rfl (hb hby at_220) rfl (l' := #[.val (.int p1), .val (.int p2), .val (.int p3), .val (.int p4), .val (.int p5), .val (.int p6), .val (.int n), .val (.int ni), .val (.int nt), .val (.ref c1), .val (.ref c2), .val (.ref c3), .val (.ref c4), .val (.ref b5), .val (.int (own_cm (p1.toInt8.toInt32) n ni nt (p3 &&& p2) p2 p4 p5)), .val (.int (p1 &&& (255 : Int32))), .val (.int i1), .val (.int t1), .val (.int (0 : Int32))]) rfl ?_
          show Steps p.tables e below (T7.setTop (mkF m 222 #[.val (.int p1), .val (.int p2), .val (.int p3), .val (.int p4), .val (.int p5), .val (.int p6), .val (.int n), .val (.int ni), .val (.int nt), .val (.ref c1), .val (.ref c2), .val (.ref c3), .val (.ref c4), .val (.ref b5), .val (.int (own_cm (p1.toInt8.toInt32) n ni nt (p3 &&& p2) p2 p4 p5)), .val (.int (p1 &&& (255 : Int32))), .val (.int i1), .val (.int t1), .val (.int (0 : Int32))] [])) _
          refine XS.goto X7.here hx rfl (pc0 := 222) (pc' := 242) rfl (hb hby at_222) (by decide) (by decide) ?_
          exact kz
      · rw [he2, if_neg hc195] at kz
        refine XS.ifYes X7.here hx rfl (pc0 := 195) (pc' := 225) rfl (hb hby at_195) rfl ((if0 _ _).trans (flt hc195).2.2.2) (by decide) (by decide) ?_
        show Steps p.tables e below (T7.setTop (mkF m 225 #[.val (.int p1), .val (.int p2), .val (.int p3), .val (.int p4), .val (.int p5), .val (.int p6), .val (.int n), .val (.int ni), .val (.int nt), .val (.ref c1), .val (.ref c2), .val (.ref c3), .val (.ref c4), .val (.ref b5), .val (.int (own_cm (p1.toInt8.toInt32) n ni nt (p3 &&& p2) p2 p4 p5)), .val (.int (p1 &&& (255 : Int32))), .val (.int i1), .val (.int t1), .unset] [])) _
        refine XS.iload X7.here hx rfl (hb hby at_225) rfl ?_
        show Steps p.tables e below (T7.setTop (mkF m 227 #[.val (.int p1), .val (.int p2), .val (.int p3), .val (.int p4), .val (.int p5), .val (.int p6), .val (.int n), .val (.int ni), .val (.int nt), .val (.ref c1), .val (.ref c2), .val (.ref c3), .val (.ref c4), .val (.ref b5), .val (.int (own_cm (p1.toInt8.toInt32) n ni nt (p3 &&& p2) p2 p4 p5)), .val (.int (p1 &&& (255 : Int32))), .val (.int i1), .val (.int t1), .unset] [(.int nt)])) _
        by_cases hc227 : nt = (0 : Int32)
        · rw [he4, if_pos hc227] at kz
          refine XS.ifYes X7.here hx rfl (pc0 := 227) (pc' := 235) rfl (hb hby at_227) rfl ((if0 _ _).trans (teq hc227).1) (by decide) (by decide) ?_
          show Steps p.tables e below (T7.setTop (mkF m 235 #[.val (.int p1), .val (.int p2), .val (.int p3), .val (.int p4), .val (.int p5), .val (.int p6), .val (.int n), .val (.int ni), .val (.int nt), .val (.ref c1), .val (.ref c2), .val (.ref c3), .val (.ref c4), .val (.ref b5), .val (.int (own_cm (p1.toInt8.toInt32) n ni nt (p3 &&& p2) p2 p4 p5)), .val (.int (p1 &&& (255 : Int32))), .val (.int i1), .val (.int t1), .unset] [])) _
          refine XS.iconst X7.here hx rfl (hb hby at_235) ?_
          show Steps p.tables e below (T7.setTop (mkF m 236 #[.val (.int p1), .val (.int p2), .val (.int p3), .val (.int p4), .val (.int p5), .val (.int p6), .val (.int n), .val (.int ni), .val (.int nt), .val (.ref c1), .val (.ref c2), .val (.ref c3), .val (.ref c4), .val (.ref b5), .val (.int (own_cm (p1.toInt8.toInt32) n ni nt (p3 &&& p2) p2 p4 p5)), .val (.int (p1 &&& (255 : Int32))), .val (.int i1), .val (.int t1), .unset] [(.int (1 : Int32))])) _
          refine XS.goto X7.here hx rfl (pc0 := 236) (pc' := 240) rfl (hb hby at_236) (by decide) (by decide) ?_
          show Steps p.tables e below (T7.setTop (mkF m 240 #[.val (.int p1), .val (.int p2), .val (.int p3), .val (.int p4), .val (.int p5), .val (.int p6), .val (.int n), .val (.int ni), .val (.int nt), .val (.ref c1), .val (.ref c2), .val (.ref c3), .val (.ref c4), .val (.ref b5), .val (.int (own_cm (p1.toInt8.toInt32) n ni nt (p3 &&& p2) p2 p4 p5)), .val (.int (p1 &&& (255 : Int32))), .val (.int i1), .val (.int t1), .unset] [(.int (1 : Int32))])) _
          refine XS.istore X7.here hx rfl (hb hby at_240) rfl (l' := #[.val (.int p1), .val (.int p2), .val (.int p3), .val (.int p4), .val (.int p5), .val (.int p6), .val (.int n), .val (.int ni), .val (.int nt), .val (.ref c1), .val (.ref c2), .val (.ref c3), .val (.ref c4), .val (.ref b5), .val (.int (own_cm (p1.toInt8.toInt32) n ni nt (p3 &&& p2) p2 p4 p5)), .val (.int (p1 &&& (255 : Int32))), .val (.int i1), .val (.int t1), .val (.int (1 : Int32))]) rfl ?_
          exact kz
        · rw [he4, if_neg hc227] at kz
          refine XS.ifNo X7.here hx rfl (hb hby at_227) rfl ((if0 _ _).trans (feq hc227).1) ?_
          show Steps p.tables e below (T7.setTop (mkF m 230 #[.val (.int p1), .val (.int p2), .val (.int p3), .val (.int p4), .val (.int p5), .val (.int p6), .val (.int n), .val (.int ni), .val (.int nt), .val (.ref c1), .val (.ref c2), .val (.ref c3), .val (.ref c4), .val (.ref b5), .val (.int (own_cm (p1.toInt8.toInt32) n ni nt (p3 &&& p2) p2 p4 p5)), .val (.int (p1 &&& (255 : Int32))), .val (.int i1), .val (.int t1), .unset] [])) _
          refine XS.iload X7.here hx rfl (hb hby at_230) rfl ?_
          show Steps p.tables e below (T7.setTop (mkF m 232 #[.val (.int p1), .val (.int p2), .val (.int p3), .val (.int p4), .val (.int p5), .val (.int p6), .val (.int n), .val (.int ni), .val (.int nt), .val (.ref c1), .val (.ref c2), .val (.ref c3), .val (.ref c4), .val (.ref b5), .val (.int (own_cm (p1.toInt8.toInt32) n ni nt (p3 &&& p2) p2 p4 p5)), .val (.int (p1 &&& (255 : Int32))), .val (.int i1), .val (.int t1), .unset] [(.int t1)])) _
          by_cases hc232 : t1 = (0 : Int32)
          · rw [he5, if_pos hc232] at kz
            refine XS.ifYes X7.here hx rfl (pc0 := 232) (pc' := 239) rfl (hb hby at_232) rfl ((if0 _ _).trans (teq hc232).1) (by decide) (by decide) ?_
            show Steps p.tables e below (T7.setTop (mkF m 239 #[.val (.int p1), .val (.int p2), .val (.int p3), .val (.int p4), .val (.int p5), .val (.int p6), .val (.int n), .val (.int ni), .val (.int nt), .val (.ref c1), .val (.ref c2), .val (.ref c3), .val (.ref c4), .val (.ref b5), .val (.int (own_cm (p1.toInt8.toInt32) n ni nt (p3 &&& p2) p2 p4 p5)), .val (.int (p1 &&& (255 : Int32))), .val (.int i1), .val (.int t1), .unset] [])) _
            refine XS.iconst X7.here hx rfl (hb hby at_239) ?_
            show Steps p.tables e below (T7.setTop (mkF m 240 #[.val (.int p1), .val (.int p2), .val (.int p3), .val (.int p4), .val (.int p5), .val (.int p6), .val (.int n), .val (.int ni), .val (.int nt), .val (.ref c1), .val (.ref c2), .val (.ref c3), .val (.ref c4), .val (.ref b5), .val (.int (own_cm (p1.toInt8.toInt32) n ni nt (p3 &&& p2) p2 p4 p5)), .val (.int (p1 &&& (255 : Int32))), .val (.int i1), .val (.int t1), .unset] [(.int (0 : Int32))])) _
            refine XS.istore X7.here hx rfl (hb hby at_240) rfl (l' := #[.val (.int p1), .val (.int p2), .val (.int p3), .val (.int p4), .val (.int p5), .val (.int p6), .val (.int n), .val (.int ni), .val (.int nt), .val (.ref c1), .val (.ref c2), .val (.ref c3), .val (.ref c4), .val (.ref b5), .val (.int (own_cm (p1.toInt8.toInt32) n ni nt (p3 &&& p2) p2 p4 p5)), .val (.int (p1 &&& (255 : Int32))), .val (.int i1), .val (.int t1), .val (.int (0 : Int32))]) rfl ?_
            exact kz
          · rw [he5, if_neg hc232] at kz
            refine XS.ifNo X7.here hx rfl (hb hby at_232) rfl ((if0 _ _).trans (feq hc232).1) ?_
            show Steps p.tables e below (T7.setTop (mkF m 235 #[.val (.int p1), .val (.int p2), .val (.int p3), .val (.int p4), .val (.int p5), .val (.int p6), .val (.int n), .val (.int ni), .val (.int nt), .val (.ref c1), .val (.ref c2), .val (.ref c3), .val (.ref c4), .val (.ref b5), .val (.int (own_cm (p1.toInt8.toInt32) n ni nt (p3 &&& p2) p2 p4 p5)), .val (.int (p1 &&& (255 : Int32))), .val (.int i1), .val (.int t1), .unset] [])) _
            refine XS.iconst X7.here hx rfl (hb hby at_235) ?_
            show Steps p.tables e below (T7.setTop (mkF m 236 #[.val (.int p1), .val (.int p2), .val (.int p3), .val (.int p4), .val (.int p5), .val (.int p6), .val (.int n), .val (.int ni), .val (.int nt), .val (.ref c1), .val (.ref c2), .val (.ref c3), .val (.ref c4), .val (.ref b5), .val (.int (own_cm (p1.toInt8.toInt32) n ni nt (p3 &&& p2) p2 p4 p5)), .val (.int (p1 &&& (255 : Int32))), .val (.int i1), .val (.int t1), .unset] [(.int (1 : Int32))])) _
            refine XS.goto X7.here hx rfl (pc0 := 236) (pc' := 240) rfl (hb hby at_236) (by decide) (by decide) ?_
            show Steps p.tables e below (T7.setTop (mkF m 240 #[.val (.int p1), .val (.int p2), .val (.int p3), .val (.int p4), .val (.int p5), .val (.int p6), .val (.int n), .val (.int ni), .val (.int nt), .val (.ref c1), .val (.ref c2), .val (.ref c3), .val (.ref c4), .val (.ref b5), .val (.int (own_cm (p1.toInt8.toInt32) n ni nt (p3 &&& p2) p2 p4 p5)), .val (.int (p1 &&& (255 : Int32))), .val (.int i1), .val (.int t1), .unset] [(.int (1 : Int32))])) _
            refine XS.istore X7.here hx rfl (hb hby at_240) rfl (l' := #[.val (.int p1), .val (.int p2), .val (.int p3), .val (.int p4), .val (.int p5), .val (.int p6), .val (.int n), .val (.int ni), .val (.int nt), .val (.ref c1), .val (.ref c2), .val (.ref c3), .val (.ref c4), .val (.ref b5), .val (.int (own_cm (p1.toInt8.toInt32) n ni nt (p3 &&& p2) p2 p4 p5)), .val (.int (p1 &&& (255 : Int32))), .val (.int i1), .val (.int t1), .val (.int (1 : Int32))]) rfl ?_
            exact kz
    · rw [he1, if_neg hc184] at kz
      refine XS.ifNo X7.here hx rfl (hb hby at_184) rfl ((if0 _ _).trans (feq hc184).1) ?_
      show Steps p.tables e below (T7.setTop (mkF m 187 #[.val (.int p1), .val (.int p2), .val (.int p3), .val (.int p4), .val (.int p5), .val (.int p6), .val (.int n), .val (.int ni), .val (.int nt), .val (.ref c1), .val (.ref c2), .val (.ref c3), .val (.ref c4), .val (.ref b5), .val (.int (own_cm (p1.toInt8.toInt32) n ni nt (p3 &&& p2) p2 p4 p5)), .val (.int (p1 &&& (255 : Int32))), .val (.int i1), .val (.int t1), .unset] [])) _
      refine XS.iconst X7.here hx rfl (hb hby at_187) ?_
      show Steps p.tables e below (T7.setTop (mkF m 188 #[.val (.int p1), .val (.int p2), .val (.int p3), .val (.int p4), .val (.int p5), .val (.int p6), .val (.int n), .val (.int ni), .val (.int nt), .val (.ref c1), .val (.ref c2), .val (.ref c3), .val (.ref c4), .val (.ref b5), .val (.int (own_cm (p1.toInt8.toInt32) n ni nt (p3 &&& p2) p2 p4 p5)), .val (.int (p1 &&& (255 : Int32))), .val (.int i1), .val (.int t1), .unset] [(.int (1 : Int32))])) _
      refine XS.istore X7.here hx rfl (hb hby at_188) rfl (l' := #[.val (.int p1), .val (.int p2), .val (.int p3), .val (.int p4), .val (.int p5), .val (.int p6), .val (.int n), .val (.int ni), .val (.int nt), .val (.ref c1), .val (.ref c2), .val (.ref c3), .val (.ref c4), .val (.ref b5), .val (.int (own_cm (p1.toInt8.toInt32) n ni nt (p3 &&& p2) p2 p4 p5)), .val (.int (p1 &&& (255 : Int32))), .val (.int i1), .val (.int t1), .val (.int (1 : Int32))]) rfl ?_
      show Steps p.tables e below (T7.setTop (mkF m 190 #[.val (.int p1), .val (.int p2), .val (.int p3), .val (.int p4), .val (.int p5), .val (.int p6), .val (.int n), .val (.int ni), .val (.int nt), .val (.ref c1), .val (.ref c2), .val (.ref c3), .val (.ref c4), .val (.ref b5), .val (.int (own_cm (p1.toInt8.toInt32) n ni nt (p3 &&& p2) p2 p4 p5)), .val (.int (p1 &&& (255 : Int32))), .val (.int i1), .val (.int t1), .val (.int (1 : Int32))] [])) _
      refine XS.goto X7.here hx rfl (pc0 := 190) (pc' := 242) rfl (hb hby at_190) (by decide) (by decide) ?_
      exact kz
  refine own_go (A := T7.setTop (mkF m 254 #[.val (.int p1), .val (.int p2), .val (.int p3), .val (.int p4), .val (.int p5), .val (.int p6), .val (.int n), .val (.int ni), .val (.int nt), .val (.ref c1), .val (.ref c2), .val (.ref c3), .val (.ref c4), .val (.ref b5), .val (.int (own_cm (p1.toInt8.toInt32) n ni nt (p3 &&& p2) p2 p4 p5)), .val (.int (p1 &&& (255 : Int32))), .val (.int i1), .val (.int t1), .val (.int e1)] [(.int (1 : Int32))])) (fun _ kz => ?_) ?_
  · show Steps p.tables e below (T7.setTop (mkF m 242 #[.val (.int p1), .val (.int p2), .val (.int p3), .val (.int p4), .val (.int p5), .val (.int p6), .val (.int n), .val (.int ni), .val (.int nt), .val (.ref c1), .val (.ref c2), .val (.ref c3), .val (.ref c4), .val (.ref b5), .val (.int (own_cm (p1.toInt8.toInt32) n ni nt (p3 &&& p2) p2 p4 p5)), .val (.int (p1 &&& (255 : Int32))), .val (.int i1), .val (.int t1), .val (.int e1)] [])) _
    refine XS.iload X7.here hx rfl (hb hby at_242) rfl ?_
    show Steps p.tables e below (T7.setTop (mkF m 244 #[.val (.int p1), .val (.int p2), .val (.int p3), .val (.int p4), .val (.int p5), .val (.int p6), .val (.int n), .val (.int ni), .val (.int nt), .val (.ref c1), .val (.ref c2), .val (.ref c3), .val (.ref c4), .val (.ref b5), .val (.int (own_cm (p1.toInt8.toInt32) n ni nt (p3 &&& p2) p2 p4 p5)), .val (.int (p1 &&& (255 : Int32))), .val (.int i1), .val (.int t1), .val (.int e1)] [(.int (own_cm (p1.toInt8.toInt32) n ni nt (p3 &&& p2) p2 p4 p5))])) _
    refine XS.iload X7.here hx rfl (hb hby at_244) rfl ?_
    show Steps p.tables e below (T7.setTop (mkF m 246 #[.val (.int p1), .val (.int p2), .val (.int p3), .val (.int p4), .val (.int p5), .val (.int p6), .val (.int n), .val (.int ni), .val (.int nt), .val (.ref c1), .val (.ref c2), .val (.ref c3), .val (.ref c4), .val (.ref b5), .val (.int (own_cm (p1.toInt8.toInt32) n ni nt (p3 &&& p2) p2 p4 p5)), .val (.int (p1 &&& (255 : Int32))), .val (.int i1), .val (.int t1), .val (.int e1)] [(.int e1), (.int (own_cm (p1.toInt8.toInt32) n ni nt (p3 &&& p2) p2 p4 p5))])) _
    refine XS.icmpNo X7.here hx rfl (hb hby at_246) rfl (teq (own_fin h3n h3ni h3nt hi1 hi2 hi3 hi4 ht1 ht2 ht3 ht4 he1 he2 he3 he4 he5)).2 ?_
    show Steps p.tables e below (T7.setTop (mkF m 249 #[.val (.int p1), .val (.int p2), .val (.int p3), .val (.int p4), .val (.int p5), .val (.int p6), .val (.int n), .val (.int ni), .val (.int nt), .val (.ref c1), .val (.ref c2), .val (.ref c3), .val (.ref c4), .val (.ref b5), .val (.int (own_cm (p1.toInt8.toInt32) n ni nt (p3 &&& p2) p2 p4 p5)), .val (.int (p1 &&& (255 : Int32))), .val (.int i1), .val (.int t1), .val (.int e1)] [])) _
    refine XS.iconst X7.here hx rfl (hb hby at_249) ?_
    show Steps p.tables e below (T7.setTop (mkF m 250 #[.val (.int p1), .val (.int p2), .val (.int p3), .val (.int p4), .val (.int p5), .val (.int p6), .val (.int n), .val (.int ni), .val (.int nt), .val (.ref c1), .val (.ref c2), .val (.ref c3), .val (.ref c4), .val (.ref b5), .val (.int (own_cm (p1.toInt8.toInt32) n ni nt (p3 &&& p2) p2 p4 p5)), .val (.int (p1 &&& (255 : Int32))), .val (.int i1), .val (.int t1), .val (.int e1)] [(.int (1 : Int32))])) _
    refine XS.goto X7.here hx rfl (pc0 := 250) (pc' := 254) rfl (hb hby at_250) (by decide) (by decide) ?_
    exact kz
  obtain ⟨fs, hrr, hrun, hended, hW, hsame⟩ := X7.leave (v := some (.int (1 : Int32))) (fun h => by rw [Bd.returns] at h; cases h)
  refine ⟨_, _, ?_, hrun, hended, _, _, rfl, ?_, ⟨_, rfl⟩, hW, hsame.mono (by decide) (by decide)⟩
  · show Steps p.tables e below (T7.setTop (mkF m 254 #[.val (.int p1), .val (.int p2), .val (.int p3), .val (.int p4), .val (.int p5), .val (.int p6), .val (.int n), .val (.int ni), .val (.int nt), .val (.ref c1), .val (.ref c2), .val (.ref c3), .val (.ref c4), .val (.ref b5), .val (.int (own_cm (p1.toInt8.toInt32) n ni nt (p3 &&& p2) p2 p4 p5)), .val (.int (p1 &&& (255 : Int32))), .val (.int i1), .val (.int t1), .val (.int e1)] [(.int (1 : Int32))])) _
    exact retN X7 hx (t := .boolean) Bd.returns (by simp) (hb hby at_254) hrr
  · show Qrm0 Z p1 p2 p3 p4 p5 p6 h0 n0 _ T7.heap _
    rw [e7]
    exact ⟨rfl, N7⟩
set_option maxRecDepth 65536 in
set_option maxHeartbeats 40000000 in
theorem comes_1 {Post : Tables → Env → Array Value → State → Outcome → State → Prop} (hpost : ∀ tb e args s v u, (limb_1_1.after args s (.returned v) u = true ∧ limb_1_2.after args s (.returned v) u = true ∧ True) → FrameEnd s (.returned v) u (Jvm.fieldLocs frame_1_writes args s ++ Jvm.arrayLocs frame_1_arrays args s ++ Jvm.staticLocs frame_1_statics s) 32 1152 → Post tb e args s (.returned v) u) :
    ArmFor flags0 classFile x code maxLocals ret World_1 tables_1 room_1 Calls_1 rest_1 Pre_1 Post := by
  intro l hfl _ _ p e ha hc hk s m args below hf hA hF happ hP
  obtain ⟨hcalls, hrest, hpre⟩ := hP
  obtain ⟨-, -, -, hnamed, -, -, -, hat⟩ := (Spec.applies_iff hf).mp happ
  obtain ⟨hg, hn⟩ := and_e (Cond.before_iff.mp (show (Jvm.Cond.and given_1 narrow_1).before args s = true from hpre))
  obtain ⟨hcnt, hg1⟩ := and_e hg
  obtain ⟨ha0, hg2⟩ := and_e hg1
  obtain ⟨ha1, hg3⟩ := and_e hg2
  obtain ⟨ha2, hg4⟩ := and_e hg3
  obtain ⟨ha3, hg5⟩ := and_e hg4
  obtain ⟨ha4, hg6⟩ := and_e hg5
  obtain ⟨w0, w1, w2, w3, w4, w5, rfl⟩ : ∃ w0 w1 w2 w3 w4 w5 : Value, args = #[w0, w1, w2, w3, w4, w5] := by
    have hs : args.size = 6 := by simpa [Cond.value, given_1] using hcnt
    obtain ⟨L⟩ := args
    match L, hs with
    | [w0, w1, w2, w3, w4, w5], _ => exact ⟨w0, w1, w2, w3, w4, w5, rfl⟩
  have hw := fun d (hd : d ∈ tables_1) => atoms_spec (ws := Jvm.Cond.code x code maxLocals ret :: tables_1) hat d (List.mem_cons_of_mem _ hd)
  have hfit : Fit s := fun {y c} hc i hi => by
    obtain ⟨ha, rfl⟩ := Array.getElem?_eq_some_iff.mp hc
    have q := List.all_eq_true.mp ((Array.all_eq_true_iff_forall_mem.mp hF) _ (Array.getElem_mem ha)) i (List.mem_range.mpr hi)
    simpa [Array.getElem?_eq_getElem hi] using q
  obtain ⟨i0, ei0⟩ := is_v ha0
  obtain rfl : w0 = (.int i0) := Option.some.inj ei0
  obtain ⟨i1, ei1⟩ := is_v ha1
  obtain rfl : w1 = (.int i1) := Option.some.inj ei1
  obtain ⟨i2, ei2⟩ := is_v ha2
  obtain rfl : w2 = (.int i2) := Option.some.inj ei2
  obtain ⟨i3, ei3⟩ := is_v ha3
  obtain rfl : w3 = (.int i3) := Option.some.inj ei3
  obtain ⟨i4, ei4⟩ := is_v ha4
  obtain rfl : w4 = (.int i4) := Option.some.inj ei4
  obtain ⟨i5, ei5⟩ := is_v hg6
  obtain rfl : w5 = (.int i5) := Option.some.inj ei5
  obtain ⟨n, o, h1, h2, h3, _, L, rfl, ⟨rfl, N⟩, hq⟩ := rm0 l s _ hw tables_1 i0 i1 i2 i3 i4 i5  s.heap s.heap.size (Nat.le_refl _)  p e ha hc hk s m _ below hf ((Spec.applies_iff_loose hf).mp happ).1 ⟨rfl, State.Warmed39.refl s, rfl⟩ trivial
  refine ⟨n, _, h1, h2, h3, hpost _ _ _ _ _ _ ⟨Cond.after_iff.mpr rfl, Cond.after_iff.mpr (eq_i res_at (Term.int_eval (1)) rfl), trivial⟩ ⟨hq.1, hq.2.1, (hq.2.2.sift fun y hy => Or.inr (N y hy)).mono (by decide) (by decide)⟩⟩
theorem main_1_1 : Claimed_1_1 := comes_1 fun _ _ _ _ _ _ h hF => ⟨h.1, hF⟩
theorem main_1_2 : Claimed_1_2 := comes_1 fun _ _ _ _ _ _ h hF => ⟨h.2.1, hF⟩
end Jvm.Pilot.@@N@@
namespace Jvm.Pilot.@@N@@
open Jvm Jvm.ClassFile Sem Op Lib Jvm.Free Jvm.Stand Jvm.Pilot.@@N@@.Jvm.D
/-! MADE BY PROGRAM (witnessworld.py) out of the Statement's table words and the real class files: 11 classes; the members and pool entries that the words name. The judged class is class 1, her method 2. -/
namespace start1
open Jvm.ClassFile
def u (s : String) : CpInfo := .utf8 (stringToUtf16 s)
/-- a pool by its gaps: so many unusable entries, then the entry; so many at the end -/
def gap : Nat → List CpInfo → List CpInfo
  | 0, r => r
  | n + 1, r => .unusable :: gap n r
def poolList (es : List (Nat × CpInfo)) (last : Nat) : List CpInfo := es.foldr (fun e r => gap e.1 (e.2 :: r)) (gap last [])
def pool (es : List (Nat × CpInfo)) (last : Nat) : Array CpInfo := ⟨poolList es last⟩
def fileOf (pool : Array CpInfo) (this : Nat) (attrs : Array Attribute := #[]) (ms : Array MethodInfo := #[]) (fl : Nat := 33) (sup : Nat := 0) (ifs : Array Nat := #[]) (fds : Array FieldInfo := #[]) : ClassFile where
  minorVersion := 0
  majorVersion := 65
  constantPool := pool
  accessFlags := fl
  thisClass := this
  superClass := sup
  interfaces := ifs
  fields := fds
  methods := ms
  attributes := attrs
def plain (name : String) (sup : Option ClassId) : Class where
  name := name
  kind := .ordinary
  loader := none
  accessFlags := 33
  super := sup
  interfaces := #[]
  cf := none
  fields := #[]
  methods := #[]
  instanceTypes := #[]
  staticTypes := #[]
  resolved := #[]
  callSites := []
  init := .initialized
  statics := none
  mirror := none

def pool0 : Array CpInfo := pool [(5, u "<init>"), (0, u "()V"), (1, .class_ 10), (1, u "java/lang/Object"), (85, u "clone"), (0, u "()Ljava/lang/Object;")] 26

def k0c0 : Code := { maxStack := 0, maxLocals := 1, code := object_method_1_code, exceptionTable := #[], attributes := #[] }
def k0m0 : Method := { name := "<init>", desc := "()V", sig := { parameters := [], returnType := none }, accessFlags := 1, code := some k0c0 }
def k0m1 : Method := { name := "clone", desc := "()Ljava/lang/Object;", sig := { parameters := [], returnType := some (.object "java/lang/Object") }, accessFlags := 260, code := none }
/-- java/lang/Object -/
def k0 : Class := { plain "java/lang/Object" none with
  accessFlags := 33
  interfaces := #[]
  cf := some (fileOf pool0 8 #[] #[{ accessFlags := 1, nameIndex := 5, descriptorIndex := 6, attributes := #[] }, { accessFlags := 260, nameIndex := 96, descriptorIndex := 97, attributes := #[] }] 33 0 #[] #[])
  fields := #[]
  methods := #[k0m0, k0m1]
  instanceTypes := #[]
  staticTypes := #[]
  resolved := Array.replicate 124 none
  statics := none }

def pool1 : Array CpInfo := pool [(2, .class_ 4), (1, u "java/lang/Object"), (0, u "<init>"), (0, u "()V"), (0, .methodref 8 9), (0, .class_ 10), (0, .nameAndType 11 12), (0, u "com/example/sharp_nose/sharpnose/BytePatternCouldMatchFromPinLaw"), (0, u "bytes"), (0, u "(II)[B"), (0, .class_ 14), (0, u "com/example/sharp_nose/sharpnose/BytePattern"), (0, .methodref 13 16), (0, .nameAndType 5 17), (0, u "([B[B[B[B)V"), (0, .methodref 13 19), (0, .nameAndType 20 21), (0, u "couldMatchFrom"), (0, u "(B)Z"), (3, u "law"), (0, u "(IIIIII)Z")] 4

def k1m0 : Method := { name := "<init>", desc := "()V", sig := { parameters := [], returnType := none }, accessFlags := 1, code := none }
def k1c1 : Code := { maxStack := 4, maxLocals := 3, code := method_2_code, exceptionTable := #[], attributes := #[] }
def k1m1 : Method := { name := "bytes", desc := "(II)[B", sig := { parameters := [.int, .int], returnType := some (.array .byte) }, accessFlags := 10, code := some k1c1 }
def k1c2 : Code := { maxStack := 6, maxLocals := 19, code := code, exceptionTable := #[], attributes := #[] }
def k1m2 : Method := { name := "law", desc := "(IIIIII)Z", sig := { parameters := [.int, .int, .int, .int, .int, .int], returnType := some .boolean }, accessFlags := 9, code := some k1c2 }
/-- com/example/sharp_nose/sharpnose/BytePatternCouldMatchFromPinLaw -/
def k1 : Class := { plain "com/example/sharp_nose/sharpnose/BytePatternCouldMatchFromPinLaw" (some 0) with
  accessFlags := 49
  interfaces := #[]
  cf := some (fileOf pool1 8 #[] #[{ accessFlags := 1, nameIndex := 5, descriptorIndex := 6, attributes := #[] }, { accessFlags := 10, nameIndex := 11, descriptorIndex := 12, attributes := #[] }, { accessFlags := 9, nameIndex := 25, descriptorIndex := 26, attributes := #[] }] 49 2 #[] #[])
  fields := #[]
  methods := #[k1m0, k1m1, k1m2]
  instanceTypes := #[]
  staticTypes := #[]
  resolved := Array.replicate 31 none
  statics := none }

def pool2 : Array CpInfo := pool [(2, .class_ 4), (1, u "com/example/sharp_nose/sharpnose/BytePattern"), (0, u "<init>"), (0, u "([B[B[B[B)V"), (0, .methodref 8 9), (0, .class_ 10), (0, .nameAndType 5 11), (0, u "java/lang/Object"), (0, u "()V"), (0, .fieldref 2 13), (0, .nameAndType 14 15), (0, u "ignored"), (0, u "[Z"), (0, .fieldref 2 17), (0, .nameAndType 18 15), (0, u "terminators"), (28, .methodref 48 49), (0, .class_ 50), (0, .nameAndType 51 52), (0, u "[B"), (0, u "clone"), (0, u "()Ljava/lang/Object;"), (0, .fieldref 2 54), (0, .nameAndType 55 50), (0, u "pattern"), (0, .fieldref 2 57), (0, .nameAndType 58 50), (0, u "mask"), (0, .fieldref 2 60), (0, .nameAndType 61 62), (0, u "ignoring"), (0, u "Z"), (0, .fieldref 2 64), (0, .nameAndType 65 62), (0, u "terminated"), (15, u "couldMatchFrom"), (0, u "(B)Z")] 17

def k2c0 : Code := { maxStack := 8, maxLocals := 9, code := prog_2_method_2_code, exceptionTable := #[], attributes := #[] }
def k2m0 : Method := { name := "<init>", desc := "([B[B[B[B)V", sig := { parameters := [(.array .byte), (.array .byte), (.array .byte), (.array .byte)], returnType := none }, accessFlags := 1, code := some k2c0 }
def k2c1 : Code := { maxStack := 3, maxLocals := 3, code := prog_2_method_5_code, exceptionTable := #[], attributes := #[] }
def k2m1 : Method := { name := "couldMatchFrom", desc := "(B)Z", sig := { parameters := [.byte], returnType := some .boolean }, accessFlags := 1, code := some k2c1 }
/-- com/example/sharp_nose/sharpnose/BytePattern -/
def k2 : Class := { plain "com/example/sharp_nose/sharpnose/BytePattern" (some 0) with
  accessFlags := 49
  interfaces := #[]
  cf := some (fileOf pool2 2 #[] #[{ accessFlags := 1, nameIndex := 5, descriptorIndex := 6, attributes := #[] }, { accessFlags := 1, nameIndex := 81, descriptorIndex := 82, attributes := #[] }] 49 8 #[] #[{ accessFlags := 18, nameIndex := 55, descriptorIndex := 50, attributes := #[] }, { accessFlags := 18, nameIndex := 58, descriptorIndex := 50, attributes := #[] }, { accessFlags := 18, nameIndex := 14, descriptorIndex := 15, attributes := #[] }, { accessFlags := 18, nameIndex := 61, descriptorIndex := 62, attributes := #[] }, { accessFlags := 18, nameIndex := 18, descriptorIndex := 15, attributes := #[] }, { accessFlags := 18, nameIndex := 65, descriptorIndex := 62, attributes := #[] }])
  fields := #[{ name := "pattern", type := (.array .byte), accessFlags := 18, slot := 0, constantValue := 0 }, { name := "mask", type := (.array .byte), accessFlags := 18, slot := 1, constantValue := 0 }, { name := "ignored", type := (.array .boolean), accessFlags := 18, slot := 2, constantValue := 0 }, { name := "ignoring", type := .boolean, accessFlags := 18, slot := 3, constantValue := 0 }, { name := "terminators", type := (.array .boolean), accessFlags := 18, slot := 4, constantValue := 0 }, { name := "terminated", type := .boolean, accessFlags := 18, slot := 5, constantValue := 0 }]
  methods := #[k2m0, k2m1]
  instanceTypes := #[(.array .byte), (.array .byte), (.array .boolean), .boolean, (.array .boolean), .boolean]
  staticTypes := #[]
  resolved := Array.replicate 100 none
  statics := none }

def pool3 : Array CpInfo := pool [(1, .class_ 2), (0, u "java/lang/Cloneable"), (0, .class_ 4), (0, u "java/lang/Object")] 2

/-- java/lang/Cloneable -/
def k3 : Class := { plain "java/lang/Cloneable" (some 0) with
  accessFlags := 1537
  interfaces := #[]
  cf := some (fileOf pool3 1 #[] #[] 1537 3 #[] #[])
  fields := #[]
  methods := #[]
  instanceTypes := #[]
  staticTypes := #[]
  resolved := Array.replicate 7 none
  statics := none }

def pool4 : Array CpInfo := pool [(1, u "java/io/Serializable"), (0, .class_ 1), (0, u "java/lang/Object"), (0, .class_ 3)] 3

/-- java/io/Serializable -/
def k4 : Class := { plain "java/io/Serializable" (some 0) with
  accessFlags := 1537
  interfaces := #[]
  cf := some (fileOf pool4 2 #[] #[] 1537 4 #[] #[])
  fields := #[]
  methods := #[]
  instanceTypes := #[]
  staticTypes := #[]
  resolved := Array.replicate 8 none
  statics := none }

/-- the primitive boolean -/
def k5 : Class := { plain "boolean" none with kind := .primitive 'Z', accessFlags := 0x411 }
/-- [Z -/
def k6 : Class := { plain "[Z" (some 0) with kind := .array 5 .boolean, interfaces := #[3, 4], accessFlags := 1041 }

/-- the primitive byte -/
def k7 : Class := { plain "byte" none with kind := .primitive 'B', accessFlags := 0x411 }
/-- [B -/
def k8 : Class := { plain "[B" (some 0) with kind := .array 7 .byte, interfaces := #[3, 4], accessFlags := 1041 }

/-- the primitive int -/
def k9 : Class := { plain "int" none with kind := .primitive 'I', accessFlags := 0x411 }
/-- [I -/
def k10 : Class := { plain "[I" (some 0) with kind := .array 9 .int, interfaces := #[3, 4], accessFlags := 1041 }

def heap : Heap := #[]
def classes : Array Class := #[k0, k1, k2, k3, k4, k5, k6, k7, k8, k9, k10]
def interned : List (Array UInt16 × Addr) := []
def slotsUsed : Nat := 0
def theMethod : MethodId := ⟨1, 2⟩
def args0 : Array Value := #[.int 5, .int 5, .int 5, .int 5, .int 5, .int 5]
def aboutOver (below : List Frame) : State where
  vm := { classes := classes, interned := interned.toArray }
  heap := heap
  slotsUsed := slotsUsed
  threads := #[{ frames := .invoking theMethod args0 :: below }]
def below0 : List Frame := [.native { method := ⟨0, 0⟩, args := #[] }]
def about1 : State := aboutOver below0
def p0 : Program := .bare "" "" ""
def e0 : Env := launch0.env 0 0 0
theorem w_frames : about1.frames = Frame.invoking theMethod args0 :: below0 := rfl
set_option maxRecDepth 65536 in
theorem w_args : argsFit about1.vm theMethod args0 = true := by decide +kernel
set_option maxRecDepth 65536 in
theorem w_heap : heapFits about1 = true := by decide +kernel
set_option maxRecDepth 65536 in
theorem w_runnable : about1.curStatus? = some .runnable := by decide +kernel
set_option maxRecDepth 65536 in
theorem w_alone : about1.alone = true := by decide +kernel
set_option maxRecDepth 65536 in
theorem w_named : about1.methodNamed? x = some theMethod := by decide +kernel
set_option maxRecDepth 65536 in
theorem w_hears : about1.hears theMethod below0 = true := by decide +kernel
set_option maxRecDepth 65536 in
theorem w_ripe : about1.ripe theMethod args0 below0 = true := by decide +kernel
theorem w_running : about1.status = .running := rfl
set_option maxRecDepth 65536 in
theorem w_room : about1.hasRoom e0.platform room_1 = true :=
  launch0.hasRoom_least _ room_1 (by decide +kernel) (by decide +kernel) (by decide +kernel) (by decide +kernel) (by decide +kernel) (by decide +kernel)
theorem allAtoms_all (ts : List Jvm.Cond) (a : Array Jvm.Value) (st : Jvm.State) : (allAtoms ts).before a st = ts.all (fun c => c.before a st) := by
  induction ts with
  | nil => rfl
  | cons c t ih =>
    show (Jvm.Cond.and c (allAtoms t)).before a st = _
    rw [Jvm.Cond.before_and, ih, List.all_cons]
def words1 : List Jvm.Cond := Jvm.Cond.code x code maxLocals ret :: tables_1
/-- a 'code' word, met by the world's own term for the bytes: nothing is compared byte by byte -/
theorem code_word {y : MethodName} {bytes : ByteArray} {mx : Nat} {rt : Option FieldType} {a : Array Value} {s : State} {m : MethodId} {meth : Method} {c : Code} (h1 : s.methodNamed? y = some m) (h2 : s.vm.method? m = some meth) (h3 : meth.code = some c) (h4 : c.code = bytes)
    (h5 : (c.maxLocals == mx && c.exceptionTable.isEmpty && decide (c.maxStack ≤ mostOperands) && decide (meth.sig.returnType = rt) && !meth.locks && decide (parseMethodDescriptor y.desc = some meth.sig)) = true) : (Jvm.Cond.code y bytes mx rt).before a s = true := by
  simp only [Bool.and_eq_true, beq_iff_eq, Bool.not_eq_true', decide_eq_true_eq] at h5
  obtain ⟨⟨⟨⟨⟨g1, g2⟩, g3⟩, g4⟩, g5⟩, g6⟩ := h5
  simp [Cond.before, Cond.holds, Cond.value, h1, h2, h3, h4, g1, g2, g3, g4, g5, g6]
def isCode : Jvm.Cond → Bool
  | .code _ _ _ _ => true
  | _ => false
theorem all_split {L : List Jvm.Cond} {P : Jvm.Cond → Bool} (h1 : L.all (fun c => isCode c || P c) = true) (h2 : ∀ c ∈ L.filter isCode, P c = true) : L.all P = true := by
  refine List.all_eq_true.mpr fun c hc => ?_
  have h := List.all_eq_true.mp h1 c hc
  rcases Bool.eq_false_or_eq_true (isCode c) with hi | hi
  · exact h2 c (List.mem_filter.mpr ⟨hc, hi⟩)
  · simpa [hi] using h
set_option maxRecDepth 65536 in
theorem w_c0 : (Jvm.Cond.code x code maxLocals ret).before args0 about1 = true := code_word (m := ⟨1, 2⟩) (meth := k1m2) (c := k1c2) (by decide +kernel) rfl rfl rfl (by decide +kernel)
set_option maxRecDepth 65536 in
theorem w_c1 : (Jvm.Cond.code ({ cls := "com/example/sharp_nose/sharpnose/BytePatternCouldMatchFromPinLaw", name := "bytes", desc := "(II)[B" } : Jvm.MethodName) method_2_code (3 : Nat) (Option.some (Jvm.ClassFile.FieldType.array Jvm.ClassFile.FieldType.byte))).before args0 about1 = true := code_word (m := ⟨1, 1⟩) (meth := k1m1) (c := k1c1) (by decide +kernel) rfl rfl rfl (by decide +kernel)
set_option maxRecDepth 65536 in
theorem w_c2 : (Jvm.Cond.code ({ cls := "com/example/sharp_nose/sharpnose/BytePattern", name := "<init>", desc := "([B[B[B[B)V" } : Jvm.MethodName) prog_2_method_2_code (9 : Nat) (Option.none : Option Jvm.ClassFile.FieldType)).before args0 about1 = true := code_word (m := ⟨2, 0⟩) (meth := k2m0) (c := k2c0) (by decide +kernel) rfl rfl rfl (by decide +kernel)
set_option maxRecDepth 65536 in
theorem w_c3 : (Jvm.Cond.code ({ cls := "java/lang/Object", name := "<init>", desc := "()V" } : Jvm.MethodName) object_method_1_code (1 : Nat) (Option.none : Option Jvm.ClassFile.FieldType)).before args0 about1 = true := code_word (m := ⟨0, 0⟩) (meth := k0m0) (c := k0c0) (by decide +kernel) rfl rfl rfl (by decide +kernel)
set_option maxRecDepth 65536 in
theorem w_c4 : (Jvm.Cond.code ({ cls := "com/example/sharp_nose/sharpnose/BytePattern", name := "couldMatchFrom", desc := "(B)Z" } : Jvm.MethodName) prog_2_method_5_code (3 : Nat) (Option.some Jvm.ClassFile.FieldType.boolean)).before args0 about1 = true := code_word (m := ⟨2, 1⟩) (meth := k2m1) (c := k2c1) (by decide +kernel) rfl rfl rfl (by decide +kernel)
def codes1 : List Jvm.Cond := [Jvm.Cond.code x code maxLocals ret, Jvm.Cond.code ({ cls := "com/example/sharp_nose/sharpnose/BytePatternCouldMatchFromPinLaw", name := "bytes", desc := "(II)[B" } : Jvm.MethodName) method_2_code (3 : Nat) (Option.some (Jvm.ClassFile.FieldType.array Jvm.ClassFile.FieldType.byte)), Jvm.Cond.code ({ cls := "com/example/sharp_nose/sharpnose/BytePattern", name := "<init>", desc := "([B[B[B[B)V" } : Jvm.MethodName) prog_2_method_2_code (9 : Nat) (Option.none : Option Jvm.ClassFile.FieldType), Jvm.Cond.code ({ cls := "java/lang/Object", name := "<init>", desc := "()V" } : Jvm.MethodName) object_method_1_code (1 : Nat) (Option.none : Option Jvm.ClassFile.FieldType), Jvm.Cond.code ({ cls := "com/example/sharp_nose/sharpnose/BytePattern", name := "couldMatchFrom", desc := "(B)Z" } : Jvm.MethodName) prog_2_method_5_code (3 : Nat) (Option.some Jvm.ClassFile.FieldType.boolean)]
set_option maxRecDepth 65536 in
theorem codes_eq : words1.filter isCode = codes1 := rfl
theorem w_codes : ∀ c ∈ words1.filter isCode, c.before args0 about1 = true := by
  rw [codes_eq]
  intro c hc
  simp only [codes1, List.mem_cons, List.not_mem_nil, or_false] at hc
  rcases hc with rfl | rfl | rfl | rfl | rfl
  · exact w_c0
  · exact w_c1
  · exact w_c2
  · exact w_c3
  · exact w_c4
set_option maxRecDepth 65536 in
theorem w_t1 : (words1.take 24).all (fun c => isCode c || c.before args0 about1) = true := by decide +kernel
set_option maxRecDepth 65536 in
theorem w_t2 : (words1.drop 24).all (fun c => isCode c || c.before args0 about1) = true := by decide +kernel
theorem w_tables : (allAtoms (Jvm.Cond.code x code maxLocals ret :: tables_1)).before args0 about1 = true := by
  rw [allAtoms_all]
  show words1.all (fun c => c.before args0 about1) = true
  refine all_split ?_ w_codes
  rw [← List.take_append_drop 24 words1, List.all_append, w_t1, w_t2]
  rfl
set_option maxRecDepth 65536 in
theorem w_case : (Jvm.Cond.and given_1 narrow_1).before args0 about1 = true := by decide +kernel
theorem w_applies : (headSpec (Jvm.Cond.code x code maxLocals ret :: tables_1) room_1).applies x e0.platform about1 = true :=
  (Spec.applies_iff w_frames).mpr ⟨w_running, w_runnable, w_alone, w_named, w_hears, w_ripe, w_room, w_tables⟩
theorem atStart : AtStart classFile x code maxLocals ret World_1 tables_1 room_1 Calls_1 rest_1 Pre_1 launch0 p0 e0 about1 theMethod args0 below0 :=
  ⟨lists_1, trivial, launch0.admits_env _ _ _, launch0.least_env, fairChoices_fair.cas, fairChoices_fair.clock, w_frames, w_args, w_heap, w_applies, trivial, trivial, w_case⟩
end start1
theorem witness_1 : WitnessClaimed_1 := ⟨start1.p0, start1.e0, start1.about1, start1.theMethod, start1.args0, start1.below0, start1.atStart⟩
end Jvm.Pilot.@@N@@
