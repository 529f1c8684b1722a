import JvmDerived
import JvmDerived.Pilot.@@N@@Statement
import JvmDerived.Pilot.@@N@@Code
set_option linter.unusedVariables false
set_option linter.unusedSimpArgs false
namespace Jvm.RoadKit
open Sem ClassFile Op Lib Jvm.Stand Jvm.Free Jvm.LawKit
section New
variable {p : Program} {l : Launch} {e : Env} {R : Room} {s : State} {m : MethodId} {args : Array Value} {below : List Frame} {meth : Method} {c : Code} {T : State} {locs : List Loc} {cells slots : Nat}
theorem retI (X : Stand p l e R s m args below meth c T locs cells slots) (hx : p.tables.exec = Jvm.exec) {pc : Nat} {Ls : Array Slot} {z : Int32} {rest : List Value} (hret : meth.sig.returnType = some .int) (hd : decode c.code pc = .ok (.ireturn, 1)) {fs : List Frame}
    (hl : ∀ (f : JFrame) (acts : List Action), f.method = m → f.locked = none → f.entered = [] → (doReturn e (T.setTop f) acts (some (.int z))).1 = T.setFrames fs) : Steps p.tables e below (T.setTop (mkF m pc Ls (.int z :: rest))) (T.setFrames fs) := by
  have hm' : T.vm.method? m = some meth := X.method'
  have hn : narrow .int (.int z) = .int z := rfl
  show Steps p.tables e below (T.setTop { method := m, pc := pc, locals := Ls, stack := _ :: rest, locked := none }) _
  jvm_step X.here [X.here.top, hx, hd, hm', hret, hn]
  first | (intro acts; rw [hl _ acts rfl rfl rfl]) | rw [hl _ _ rfl rfl rfl]
  exact Steps.refl _
end New
end Jvm.RoadKit
namespace Jvm.Pilot.@@N@@
open Jvm Jvm.ClassFile Sem Op Lib Jvm.Free Jvm.Stand Jvm.LawKit Jvm.RoadKit Bundle Jvm.Pilot.@@N@@.Jvm.D
/-- the same for a part of a walk that comes to the frame F -/
theorem own_via {α : Type} {tb : Tables} {e : Env} {below : List Frame} {A B : State} {P : State → α → Prop} {F : α → JFrame} (h : ∀ t, Steps tb e below A t → Steps tb e below B t) (k : ∃ (T : State) (x : α), P T x ∧ ∀ t, Steps tb e below (T.setTop (F x)) t → Steps tb e below A t) : ∃ (T : State) (x : α), P T x ∧ ∀ t, Steps tb e below (T.setTop (F x)) t → Steps tb e below B t := by
  obtain ⟨T, x, k1, k2⟩ := k
  exact ⟨T, x, k1, fun t q => h t (k2 t q)⟩
theorem own_ns {Z : State} {h : Heap} {a : Addr} {C : String} (F : Exa Z h a C) : ∀ c : Cell, h[a]? = some c → c.vm.isStatics = false := fun c hc => by
  obtain ⟨c1, k, h1, -, -, h4, -⟩ := F
  cases hc.symm.trans h1
  exact h4
theorem own_nsA {Z : State} {h : Heap} {a : Addr} {k : ClassId} {ty : FieldType} {z : Int32} {vs : List Value} {dv : Value} (F : Arv Z h a k ty z vs dv) : ∀ c : Cell, h[a]? = some c → c.vm.isStatics = false := fun c hc => by
  obtain ⟨c1, A, -⟩ := F
  cases hc.symm.trans A.1
  exact A.plain
theorem own_nsF {Z : State} {h : Heap} {a : Addr} {C n d : String} {v : Value} (F : Fld Z h a C n d v) : ∀ c : Cell, h[a]? = some c → c.vm.isStatics = false := fun c hc => by
  obtain ⟨c1, _, _, _, _, h1, _, _, _, h5, _⟩ := F
  cases hc.symm.trans h1
  exact h5
theorem own_neA {Z : State} {a0 : Array Value} {h : Heap} {a b : Addr} {C : String} {n : Nat} {k : ClassId} {ty : FieldType} {z : Int32} {vs : List Value} {dv : Value} (F : Exa Z h a C) (wi : (Cond.instantiable C n).before a0 Z = true) (G : Arv Z h b k ty z vs dv) : a ≠ b := by
  obtain ⟨c1, A, -⟩ := G
  exact ne_arr F wi A
theorem own_staKeep {Z : State} {h h' : Heap} {C n d : String} {v : Value} {ws : List Addr} (F : Sta Z h C n d v) (K : Keep h h' ws) (q : ∀ x ∈ ws, ∀ c : Cell, h[x]? = some c → c.vm.isStatics = false) : Sta Z h' C n d v := by
  obtain ⟨cf, i, k, f, st, cell, h1, h2, h3, h4, h5, h6, h7⟩ := F
  exact ⟨cf, i, k, f, st, cell, h1, h2, h3, h4, K.2.1 st cell h5 (fun hm => by rw [q st hm cell h5] at h6; cases h6), h6, h7⟩
/-- a byte made a byte again -/
theorem own_nb (y : Int32) : y.toInt8.toInt32.toInt8.toInt32 = y.toInt8.toInt32 := by 
  have h1 := c_i2b y
  have h2 := c_i2b (y.toInt8.toInt32)
  apply Int32.toInt_inj.mp
  omega
theorem own_nbn (y : Int32) : nar .byte (y.toInt8.toInt32) = y.toInt8.toInt32 := own_nb y
/-- the walk goes on from A where it comes from B to A -/
theorem own_go {tb : Tables} {e : Env} {below : List Frame} {A B : State} {P : State → Outcome → Prop} (h : ∀ t, Steps tb e below A t → Steps tb e below B t) (k : ∃ t o, Steps tb e below A t ∧ P t o) : ∃ t o, Steps tb e below B t ∧ P t o := by
  obtain ⟨t, o, k1, k2⟩ := k
  exact ⟨t, o, h t k1, k2⟩
theorem own_pd0 : parseMethodDescriptor "([B)Z" = some ⟨[(.array .byte)], some .boolean⟩ := by decide +kernel
theorem own_pd1 : parseMethodDescriptor "(B)Z" = some ⟨[.byte], some .boolean⟩ := by decide +kernel
def own_tv (u : Int32) : Int32 := if u < (32 : Int32) then (if u = (9 : Int32) then 0 else if u = (10 : Int32) then 0 else if u = (12 : Int32) then 0 else if u = (13 : Int32) then 0 else if u = (27 : Int32) then 0 else 1) else 0
def own_Tab (Z : State) (h : Heap) (a : Addr) : Prop := ∃ cl : Cell, Arr Z h a cl .boolean ∧ cl.slots.size = (256 : Int32).toNatClampNeg ∧ ∀ j : Int32, ¬ j < 0 → j < (256 : Int32) → cl.slots[j.toNatClampNeg]? = some (.int (own_tv j))
theorem own_Tab.ext {Z : State} {h h' : Heap} {a : Addr} (F : own_Tab Z h a) (E : Ext h h') : own_Tab Z h' a := by obtain ⟨c, A, r⟩ := F; exact ⟨c, A.ext E, r⟩
theorem own_Tab.other {Z : State} {h h' : Heap} {a b : Addr} {sl : Nat} {v : Value} (F : own_Tab Z h b) (W : Wr h h' a sl v) (q : b ≠ a) : own_Tab Z h' b := by obtain ⟨c, A, r⟩ := F; exact ⟨c, A.other W q, r⟩
theorem own_Tab.lt {Z : State} {h : Heap} {a : Addr} (F : own_Tab Z h a) : a < h.size := by obtain ⟨c, A, -⟩ := F; exact A.lt
theorem own_a0 (x : Int32) : ¬ (x &&& (255 : Int32)) < 0 := by
  have h := c_mask x (255 : Int32) 8 (by decide) (by decide)
  have e0 : (0 : Int32).toInt = 0 := by decide
  rw [Int32.lt_iff_toInt_lt, e0]; omega
theorem own_a1 (x : Int32) : (x &&& (255 : Int32)) < (256 : Int32) := by
  have h := c_mask x (255 : Int32) 8 (by decide) (by decide)
  have e0 : (256 : Int32).toInt = 256 := by decide
  rw [Int32.lt_iff_toInt_lt, e0]; omega
theorem own_mod {p1 : Int32} (k : Int32) (h : k = (p1 &&& (2147483647 : Int32)) % (5 : Int32)) : k = (0 : Int32) ∨ k = (1 : Int32) ∨ k = (2 : Int32) ∨ k = (3 : Int32) ∨ k = (4 : Int32) := by
  have h1 := c_mask p1 (2147483647 : Int32) 31 (by decide) (by decide)
  have h2 := (c_irem (p1 &&& (2147483647 : Int32)) (5 : Int32) 5 (by decide)).1 (by omega)
  rw [← h] at h2
  have e0 : (0 : Int32).toInt = 0 := by decide
  have e1 : (1 : Int32).toInt = 1 := by decide
  have e2 : (2 : Int32).toInt = 2 := by decide
  have e3 : (3 : Int32).toInt = 3 := by decide
  have e4 : (4 : Int32).toInt = 4 := by decide
  simp only [← Int32.toInt_inj, e0, e1, e2, e3, e4]
  omega
theorem own_eqInt {s : State} {args : Array Value} {t : Term} {k : Int32} {idx : List Nat} (h : (Cond.eq t (.int k)).value args s none s idx = some true) : t.eval args s none idx s = some (.int k) := by
  cases he : t.eval args s none idx s with
  | none => simp [Cond.value, he] at h
  | some v => cases v <;> simp_all [Cond.value, Term.eval]
theorem own_tv1 (j : Int32) (h : 0 ≤ j.toInt ∧ j.toInt < 32 ∧ j.toInt ≠ 9 ∧ j.toInt ≠ 10 ∧ j.toInt ≠ 12 ∧ j.toInt ≠ 13 ∧ j.toInt ≠ 27) : own_tv j = (1 : Int32) := by
  obtain ⟨h0, h1, h2, h3, h4, h5, h6⟩ := h
  unfold own_tv
  rw [if_pos (by rw [Int32.lt_iff_toInt_lt]; exact h1), if_neg (fun e => h2 (by rw [e]; decide)), if_neg (fun e => h3 (by rw [e]; decide)), if_neg (fun e => h4 (by rw [e]; decide)), if_neg (fun e => h5 (by rw [e]; decide)), if_neg (fun e => h6 (by rw [e]; decide))]
theorem own_tvz (j : Int32) (h : ¬ j.toInt < 32) : own_tv j = (0 : Int32) := by
  unfold own_tv
  rw [if_neg (by rw [Int32.lt_iff_toInt_lt]; exact h)]
theorem own_orR {s : State} {args : Array Value} {G Y : Jvm.Cond} {idx : List Nat} {P : Prop} [Decidable P] (hg : G.value args s none s idx = some (decide P)) (hn : ¬ P) (h : (Jvm.Cond.or G Y).value args s none s idx = some true) : Y.value args s none s idx = some true := by
  rwa [Cond.or_of_right (by rw [hg]; simp [hn])] at h
theorem own_lenlt {s : State} {args : Array Value} {t : Term} {a : Addr} {cl : Cell} {v : Value} (ea : t.eval args s none [] s = some (.ref a)) (hat : s.arrayAt? a = some cl) (hq : (Term.length t).eval args s none [] s = some v) : cl.slots.size < 2 ^ 31 := by
  by_cases hb : cl.slots.size < 2 ^ 31
  · exact hb
  · simp [Term.eval, ea, hat, hb] at hq
theorem own_tabStart {s : State} {args : Array Value} (hfit : Fit s) (nw0 : ((Jvm.Cond.arrayOf (Jvm.Term.static "com/example/sharp_nose/sharpnose/BinaryData" "BINARY_DATA_BYTES" "[Z") Jvm.ClassFile.FieldType.boolean)).value args s none s [] = some true) (nw1 : ((Jvm.Cond.eq (Jvm.Term.length (Jvm.Term.static "com/example/sharp_nose/sharpnose/BinaryData" "BINARY_DATA_BYTES" "[Z")) (Jvm.Term.int (256 : Int32)))).value args s none s [] = some true) (nw2 : ((Jvm.Cond.all (Jvm.Term.static "com/example/sharp_nose/sharpnose/BinaryData" "BINARY_DATA_BYTES" "[Z") (Jvm.Cond.or (Jvm.Cond.le (Jvm.Term.int (9 : Int32)) (Jvm.Term.index (0 : Nat))) (Jvm.Cond.eq (Jvm.Term.elem (Jvm.Term.static "com/example/sharp_nose/sharpnose/BinaryData" "BINARY_DATA_BYTES" "[Z") (Jvm.Term.index (0 : Nat))) (Jvm.Term.int (1 : Int32)))))).value args s none s [] = some true) (nw3 : ((Jvm.Cond.eq (Jvm.Term.elem (Jvm.Term.static "com/example/sharp_nose/sharpnose/BinaryData" "BINARY_DATA_BYTES" "[Z") (Jvm.Term.int (9 : Int32))) (Jvm.Term.int (0 : Int32)))).value args s none s [] = some true) (nw4 : ((Jvm.Cond.eq (Jvm.Term.elem (Jvm.Term.static "com/example/sharp_nose/sharpnose/BinaryData" "BINARY_DATA_BYTES" "[Z") (Jvm.Term.int (10 : Int32))) (Jvm.Term.int (0 : Int32)))).value args s none s [] = some true) (nw5 : ((Jvm.Cond.eq (Jvm.Term.elem (Jvm.Term.static "com/example/sharp_nose/sharpnose/BinaryData" "BINARY_DATA_BYTES" "[Z") (Jvm.Term.int (11 : Int32))) (Jvm.Term.int (1 : Int32)))).value args s none s [] = some true) (nw6 : ((Jvm.Cond.eq (Jvm.Term.elem (Jvm.Term.static "com/example/sharp_nose/sharpnose/BinaryData" "BINARY_DATA_BYTES" "[Z") (Jvm.Term.int (12 : Int32))) (Jvm.Term.int (0 : Int32)))).value args s none s [] = some true) (nw7 : ((Jvm.Cond.eq (Jvm.Term.elem (Jvm.Term.static "com/example/sharp_nose/sharpnose/BinaryData" "BINARY_DATA_BYTES" "[Z") (Jvm.Term.int (13 : Int32))) (Jvm.Term.int (0 : Int32)))).value args s none s [] = some true) (nw8 : ((Jvm.Cond.all (Jvm.Term.static "com/example/sharp_nose/sharpnose/BinaryData" "BINARY_DATA_BYTES" "[Z") (Jvm.Cond.or (Jvm.Cond.lt (Jvm.Term.index (0 : Nat)) (Jvm.Term.int (14 : Int32))) (Jvm.Cond.or (Jvm.Cond.le (Jvm.Term.int (27 : Int32)) (Jvm.Term.index (0 : Nat))) (Jvm.Cond.eq (Jvm.Term.elem (Jvm.Term.static "com/example/sharp_nose/sharpnose/BinaryData" "BINARY_DATA_BYTES" "[Z") (Jvm.Term.index (0 : Nat))) (Jvm.Term.int (1 : Int32))))))).value args s none s [] = some true) (nw9 : ((Jvm.Cond.eq (Jvm.Term.elem (Jvm.Term.static "com/example/sharp_nose/sharpnose/BinaryData" "BINARY_DATA_BYTES" "[Z") (Jvm.Term.int (27 : Int32))) (Jvm.Term.int (0 : Int32)))).value args s none s [] = some true) (nw10 : ((Jvm.Cond.all (Jvm.Term.static "com/example/sharp_nose/sharpnose/BinaryData" "BINARY_DATA_BYTES" "[Z") (Jvm.Cond.or (Jvm.Cond.lt (Jvm.Term.index (0 : Nat)) (Jvm.Term.int (28 : Int32))) (Jvm.Cond.or (Jvm.Cond.le (Jvm.Term.int (32 : Int32)) (Jvm.Term.index (0 : Nat))) (Jvm.Cond.eq (Jvm.Term.elem (Jvm.Term.static "com/example/sharp_nose/sharpnose/BinaryData" "BINARY_DATA_BYTES" "[Z") (Jvm.Term.index (0 : Nat))) (Jvm.Term.int (1 : Int32))))))).value args s none s [] = some true) (nw11 : ((Jvm.Cond.all (Jvm.Term.static "com/example/sharp_nose/sharpnose/BinaryData" "BINARY_DATA_BYTES" "[Z") (Jvm.Cond.or (Jvm.Cond.lt (Jvm.Term.index (0 : Nat)) (Jvm.Term.int (32 : Int32))) (Jvm.Cond.eq (Jvm.Term.elem (Jvm.Term.static "com/example/sharp_nose/sharpnose/BinaryData" "BINARY_DATA_BYTES" "[Z") (Jvm.Term.index (0 : Nat))) (Jvm.Term.int (0 : Int32)))))).value args s none s [] = some true) (hi : (Cond.initialized "com/example/sharp_nose/sharpnose/BinaryData").before args s = true) (hl : (Cond.laysStatic "com/example/sharp_nose/sharpnose/BinaryData" "BINARY_DATA_BYTES" "[Z").before args s = true) : ∃ at_, Sta s s.heap "com/example/sharp_nose/sharpnose/BinaryData" "BINARY_DATA_BYTES" "[Z" (.ref at_) ∧ own_Tab s s.heap at_ := by
  obtain ⟨a, ea⟩ := arr_v nw0
  obtain ⟨cl, A⟩ := Arr.start ea nw0
  have et : ∀ idx, (Term.static "com/example/sharp_nose/sharpnose/BinaryData" "BINARY_DATA_BYTES" "[Z").eval args s none idx s = some (.ref a) := fun idx => ea
  have hat : s.arrayAt? a = some cl := A.fin (Vm.Alike.refl _)
  have hq := own_eqInt nw1
  have hb : cl.slots.size < 2 ^ 31 := own_lenlt ea hat hq
  have hsz : cl.slots.size = 256 := by
    rw [len_f ea hat hb] at hq
    have e1 := len_toInt hb
    rw [Value.int.inj (Option.some.inj hq)] at e1
    have e2 : (256 : Int32).toInt = 256 := by decide
    omega
  refine ⟨a, Sta.start ea (Or.inr ⟨hi, hl⟩), cl, A, by rw [hsz]; decide, fun j h0 h1 => ?_⟩
  have n0 := nat_of h0
  have hj : j.toNatClampNeg < cl.slots.size := by
    rw [Int32.lt_iff_toInt_lt] at h1
    have e2 : (256 : Int32).toInt = 256 := by decide
    omega
  have ex : (Term.elem (Term.static "com/example/sharp_nose/sharpnose/BinaryData" "BINARY_DATA_BYTES" "[Z") (.index 0)).eval args s none [j.toNatClampNeg] s = cl.slots[j.toNatClampNeg]? := elem_f (et _) (idx_at h0) hat h0
  have key : ∀ k : Int32, ¬ k < 0 → (Term.elem (Term.static "com/example/sharp_nose/sharpnose/BinaryData" "BINARY_DATA_BYTES" "[Z") (.int k)).eval args s none [] s = cl.slots[k.toNatClampNeg]? := fun k hk => elem_f ea (Term.int_eval k) hat hk
  have lt : ∀ k : Int32, (Jvm.Cond.lt (Term.index 0) (Term.int k)).value args s none s [j.toNatClampNeg] = some (decide (j < k)) := fun k => Cond.lt_ints (idx_at h0) (Term.int_eval k)
  have le : ∀ k : Int32, (Jvm.Cond.le (Term.int k) (Term.index 0)).value args s none s [j.toNatClampNeg] = some (decide (k ≤ j)) := fun k => Cond.le_ints (Term.int_eval k) (idx_at h0)
  have a2 := Cond.all_elim ea hat nw2 _ hj
  have a8 := Cond.all_elim ea hat nw8 _ hj
  have a10 := Cond.all_elim ea hat nw10 _ hj
  have a11 := Cond.all_elim ea hat nw11 _ hj
  have e0 : (0 : Int32).toInt = 0 := by decide
  have e9 : (9 : Int32).toInt = 9 := by decide
  have e14 : (14 : Int32).toInt = 14 := by decide
  have e27 : (27 : Int32).toInt = 27 := by decide
  have e28 : (28 : Int32).toInt = 28 := by decide
  have e32 : (32 : Int32).toInt = 32 := by decide
  have lo : 0 ≤ j.toInt := by rw [Int32.lt_iff_toInt_lt, e0] at h0; omega
  by_cases c1 : j.toInt < 9
  · rw [← ex, own_eqInt (own_orR (le 9) (by rw [Int32.le_iff_toInt_le]; omega) a2), own_tv1 j (by omega)]
  by_cases c2 : 32 ≤ j.toInt
  · rw [← ex, own_eqInt (own_orR (lt 32) (by rw [Int32.lt_iff_toInt_lt]; omega) a11), own_tvz j (by omega)]
  by_cases c3 : 28 ≤ j.toInt
  · rw [← ex, own_eqInt (own_orR (le 32) (by rw [Int32.le_iff_toInt_le]; omega) (own_orR (lt 28) (by rw [Int32.lt_iff_toInt_lt]; omega) a10)), own_tv1 j (by omega)]
  by_cases c4 : 14 ≤ j.toInt ∧ j.toInt < 27
  · rw [← ex, own_eqInt (own_orR (le 27) (by rw [Int32.le_iff_toInt_le]; omega) (own_orR (lt 14) (by rw [Int32.lt_iff_toInt_lt]; omega) a8)), own_tv1 j (by omega)]
  have hc : j = 9 ∨ j = 10 ∨ j = 11 ∨ j = 12 ∨ j = 13 ∨ j = 27 := by
    simp only [← Int32.toInt_inj, (by decide : (9 : Int32).toInt = 9), (by decide : (10 : Int32).toInt = 10), (by decide : (11 : Int32).toInt = 11), (by decide : (12 : Int32).toInt = 12), (by decide : (13 : Int32).toInt = 13), (by decide : (27 : Int32).toInt = 27)]
    omega
  rcases hc with rfl | rfl | rfl | rfl | rfl | rfl
  · rw [← key 9 (by decide), own_eqInt nw3]; rfl
  · rw [← key 10 (by decide), own_eqInt nw4]; rfl
  · rw [← key 11 (by decide), own_eqInt nw5]; rfl
  · rw [← key 12 (by decide), own_eqInt nw6]; rfl
  · rw [← key 13 (by decide), own_eqInt nw7]; rfl
  · rw [← key 27 (by decide), own_eqInt nw9]; rfl
theorem d2_0 : decode method_2_code 0 = .ok (.iload_n 0, 1) := by decide +kernel
theorem d2_1 : decode method_2_code 1 = .ok (.sipush 255, 3) := by decide +kernel
theorem d2_4 : decode method_2_code 4 = .ok (.iand, 1) := by decide +kernel
theorem d2_5 : decode method_2_code 5 = .ok (.istore_n 1, 1) := by decide +kernel
theorem d2_6 : decode method_2_code 6 = .ok (.iload_n 1, 1) := by decide +kernel
theorem d2_7 : decode method_2_code 7 = .ok (.bipush 32, 2) := by decide +kernel
theorem d2_9 : decode method_2_code 9 = .ok (.if_icmp .lt 5, 3) := by decide +kernel
theorem d2_12 : decode method_2_code 12 = .ok (.iconst 0, 1) := by decide +kernel
theorem d2_13 : decode method_2_code 13 = .ok (.ireturn, 1) := by decide +kernel
theorem d2_14 : decode method_2_code 14 = .ok (.iload_n 1, 1) := by decide +kernel
theorem d2_15 : decode method_2_code 15 = .ok (.bipush 9, 2) := by decide +kernel
theorem d2_17 : decode method_2_code 17 = .ok (.if_icmp .eq 31, 3) := by decide +kernel
theorem d2_20 : decode method_2_code 20 = .ok (.iload_n 1, 1) := by decide +kernel
theorem d2_21 : decode method_2_code 21 = .ok (.bipush 10, 2) := by decide +kernel
theorem d2_23 : decode method_2_code 23 = .ok (.if_icmp .eq 25, 3) := by decide +kernel
theorem d2_26 : decode method_2_code 26 = .ok (.iload_n 1, 1) := by decide +kernel
theorem d2_27 : decode method_2_code 27 = .ok (.bipush 12, 2) := by decide +kernel
theorem d2_29 : decode method_2_code 29 = .ok (.if_icmp .eq 19, 3) := by decide +kernel
theorem d2_32 : decode method_2_code 32 = .ok (.iload_n 1, 1) := by decide +kernel
theorem d2_33 : decode method_2_code 33 = .ok (.bipush 13, 2) := by decide +kernel
theorem d2_35 : decode method_2_code 35 = .ok (.if_icmp .eq 13, 3) := by decide +kernel
theorem d2_38 : decode method_2_code 38 = .ok (.iload_n 1, 1) := by decide +kernel
theorem d2_39 : decode method_2_code 39 = .ok (.bipush 27, 2) := by decide +kernel
theorem d2_41 : decode method_2_code 41 = .ok (.if_icmp .eq 7, 3) := by decide +kernel
theorem d2_44 : decode method_2_code 44 = .ok (.iconst 1, 1) := by decide +kernel
theorem d2_45 : decode method_2_code 45 = .ok (.goto 4, 3) := by decide +kernel
theorem d2_48 : decode method_2_code 48 = .ok (.iconst 0, 1) := by decide +kernel
theorem d2_49 : decode method_2_code 49 = .ok (.ireturn, 1) := by decide +kernel
theorem own_pn2 : plainName "com/example/sharp_nose/sharpnose/BinaryDataFoundInPinLaw" = true := by first | (simp [plainName, overriddenIn]; done) | decide +kernel
theorem own_ef2 (m : MethodId) (x0 : Int32) : entryFrame m #[(.int x0)] 2 = mkF m 0 #[.val (.int x0), .unset] [] := by first | (simp [entryFrame, mkF, argsToLocals, Value.category]; done) | rfl
def QrmBin (Z : State) (x : Int32) (h0 : Heap) (n0 : Nat) (v : Option Value) (h : Heap) (L : List Loc) : Prop := v = some (.int (own_tv (x &&& (255 : Int32)))) ∧ Fr n0 L ∧ h = h0
set_option maxRecDepth 65536 in
set_option maxHeartbeats 40000000 in
theorem rmBin (l : Launch) (Z : State) (a0 : Array Value) (hw : ∀ d ∈ tables_1, d.before a0 Z = true) (ws : List Jvm.Cond) (x : Int32) (h0 : Heap) (n0 : Nat) (Z0 : n0 ≤ h0.size)  :
    MetFree l (⟨"com/example/sharp_nose/sharpnose/BinaryDataFoundInPinLaw", "bin", "(B)Z"⟩ : MethodName) (head1 (Jvm.Cond.code (⟨"com/example/sharp_nose/sharpnose/BinaryDataFoundInPinLaw", "bin", "(B)Z"⟩ : MethodName) method_2_code 2 (some .boolean) :: ws) ({ frames := 0, cells := 0, slots := 0, locals := 0 } : Room)) (fun ar_ U_ => ar_ = #[(.int x)] ∧ Z.Warmed39 U_.vm ∧ U_.heap = h0) (fun _ _ _ _ _ => True) (fun _ U_ ou_ V_ => ∃ v_ L_, ou_ = .returned v_ ∧ QrmBin Z x h0 n0 v_ V_.heap L_ ∧ FrameEnd U_ ou_ V_ L_ ({ frames := 0, cells := 0, slots := 0, locals := 0 } : Room).cells ({ frames := 0, cells := 0, slots := 0, locals := 0 } : Room).slots) := by
  refine MetFree.of_bodySF (plainFor_of_name own_pn2) hisR ?_
  intro p e s m args below meth c s₁ Bd hml0 hP hK
  obtain ⟨rfl, hZ, hh⟩ := hP
  have hx := Bd.exec
  have hby := Bd.bytes
  have hml : c.maxLocals = 2 := hml0
  have hown : s.vm.findClass "com/example/sharp_nose/sharpnose/BinaryDataFoundInPinLaw" = some m.cls := findClass_of_methodNamed Bd.named
  have hnm := (name_of_methodNamed Bd.named Bd.method).1
  have X0 : Stand p l e ({ frames := 0, cells := 0, slots := 0, locals := 0 } : Room) s m #[(.int x)] below meth c s₁ [] 0 0 := Stand.of_body Bd
  have e0 : s₁.heap = h0 := by rw [← hh, Bd.state]; rfl
  have N0 := Fr.nil n0
  refine own_go (A := s₁.setTop (mkF m 0 #[.val (.int x), .unset] [])) (fun t kz => castTop (own_ef2 m x) kz) ?_
  refine own_go (A := s₁.setTop (mkF m 9 #[.val (.int x), .val (.int (x &&& (255 : Int32)))] [(.int (32 : Int32)), (.int (x &&& (255 : Int32)))])) (fun _ kz => ?_) ?_
  · show Steps p.tables e below (s₁.setTop (mkF m 0 #[.val (.int x), .unset] [])) _
    refine XS.iloadN X0.here hx rfl (hb hby d2_0) rfl ?_
    show Steps p.tables e below (s₁.setTop (mkF m 1 #[.val (.int x), .unset] [(.int x)])) _
    refine XS.sipush X0.here hx rfl (hb hby d2_1) ?_
    show Steps p.tables e below (s₁.setTop (mkF m 4 #[.val (.int x), .unset] [(.int (255 : Int32)), (.int x)])) _
    refine XS.iand X0.here hx rfl (hb hby d2_4) rfl ?_
    show Steps p.tables e below (s₁.setTop (mkF m 5 #[.val (.int x), .unset] [(.int (x &&& (255 : Int32)))])) _
    refine XS.istoreN X0.here hx rfl (hb hby d2_5) rfl (l' := #[.val (.int x), .val (.int (x &&& (255 : Int32)))]) rfl ?_
    show Steps p.tables e below (s₁.setTop (mkF m 6 #[.val (.int x), .val (.int (x &&& (255 : Int32)))] [])) _
    refine XS.iloadN X0.here hx rfl (hb hby d2_6) rfl ?_
    show Steps p.tables e below (s₁.setTop (mkF m 7 #[.val (.int x), .val (.int (x &&& (255 : Int32)))] [(.int (x &&& (255 : Int32)))])) _
    refine XS.bipush X0.here hx rfl (hb hby d2_7) ?_
    exact kz
  by_cases hs1 : (x &&& (255 : Int32)) < (32 : Int32)
  · skip
    refine own_go (A := s₁.setTop (mkF m 14 #[.val (.int x), .val (.int (x &&& (255 : Int32)))] [])) (fun _ kz => ?_) ?_
    · show Steps p.tables e below (s₁.setTop (mkF m 9 #[.val (.int x), .val (.int (x &&& (255 : Int32)))] [(.int (32 : Int32)), (.int (x &&& (255 : Int32)))])) _
      refine XS.icmpYes X0.here hx rfl (pc0 := 9) (pc' := 14) rfl (hb hby d2_9) rfl (tlt hs1).1 (by decide) (by decide) ?_
      exact kz
    refine own_go (A := s₁.setTop (mkF m 17 #[.val (.int x), .val (.int (x &&& (255 : Int32)))] [(.int (9 : Int32)), (.int (x &&& (255 : Int32)))])) (fun _ kz => ?_) ?_
    · show Steps p.tables e below (s₁.setTop (mkF m 14 #[.val (.int x), .val (.int (x &&& (255 : Int32)))] [])) _
      refine XS.iloadN X0.here hx rfl (hb hby d2_14) rfl ?_
      show Steps p.tables e below (s₁.setTop (mkF m 15 #[.val (.int x), .val (.int (x &&& (255 : Int32)))] [(.int (x &&& (255 : Int32)))])) _
      refine XS.bipush X0.here hx rfl (hb hby d2_15) ?_
      exact kz
    by_cases hs2 : (x &&& (255 : Int32)) = (9 : Int32)
    · skip
      refine own_go (A := s₁.setTop (mkF m 48 #[.val (.int x), .val (.int (x &&& (255 : Int32)))] [])) (fun _ kz => ?_) ?_
      · show Steps p.tables e below (s₁.setTop (mkF m 17 #[.val (.int x), .val (.int (x &&& (255 : Int32)))] [(.int (9 : Int32)), (.int (x &&& (255 : Int32)))])) _
        refine XS.icmpYes X0.here hx rfl (pc0 := 17) (pc' := 48) rfl (hb hby d2_17) rfl (teq hs2).1 (by decide) (by decide) ?_
        exact kz
      refine own_go (A := s₁.setTop (mkF m 49 #[.val (.int x), .val (.int (x &&& (255 : Int32)))] [(.int (0 : Int32))])) (fun _ kz => ?_) ?_
      · show Steps p.tables e below (s₁.setTop (mkF m 48 #[.val (.int x), .val (.int (x &&& (255 : Int32)))] [])) _
        refine XS.iconst X0.here hx rfl (hb hby d2_48) ?_
        exact kz
      obtain ⟨fs, hrr, hrun, hended, hW, hsame⟩ := X0.leave (v := some (.int (0 : Int32))) (fun h => by rw [Bd.returns] at h; cases h)
      refine ⟨_, _, ?_, hrun, hended, _, _, rfl, ?_, ⟨_, rfl⟩, hW, hsame.mono (by decide) (by decide)⟩
      · show Steps p.tables e below (s₁.setTop (mkF m 49 #[.val (.int x), .val (.int (x &&& (255 : Int32)))] [(.int (0 : Int32))])) _
        exact retN X0 hx (t := .boolean) Bd.returns (by simp) (hb hby d2_49) hrr
      · show QrmBin Z x h0 n0 _ s₁.heap _
        rw [e0]
        exact ⟨by simp [own_tv, hs1, hs2], N0, rfl⟩
    · skip
      refine own_go (A := s₁.setTop (mkF m 20 #[.val (.int x), .val (.int (x &&& (255 : Int32)))] [])) (fun _ kz => ?_) ?_
      · show Steps p.tables e below (s₁.setTop (mkF m 17 #[.val (.int x), .val (.int (x &&& (255 : Int32)))] [(.int (9 : Int32)), (.int (x &&& (255 : Int32)))])) _
        refine XS.icmpNo X0.here hx rfl (hb hby d2_17) rfl (feq hs2).1 ?_
        exact kz
      refine own_go (A := s₁.setTop (mkF m 23 #[.val (.int x), .val (.int (x &&& (255 : Int32)))] [(.int (10 : Int32)), (.int (x &&& (255 : Int32)))])) (fun _ kz => ?_) ?_
      · show Steps p.tables e below (s₁.setTop (mkF m 20 #[.val (.int x), .val (.int (x &&& (255 : Int32)))] [])) _
        refine XS.iloadN X0.here hx rfl (hb hby d2_20) rfl ?_
        show Steps p.tables e below (s₁.setTop (mkF m 21 #[.val (.int x), .val (.int (x &&& (255 : Int32)))] [(.int (x &&& (255 : Int32)))])) _
        refine XS.bipush X0.here hx rfl (hb hby d2_21) ?_
        exact kz
      by_cases hs3 : (x &&& (255 : Int32)) = (10 : Int32)
      · skip
        refine own_go (A := s₁.setTop (mkF m 48 #[.val (.int x), .val (.int (x &&& (255 : Int32)))] [])) (fun _ kz => ?_) ?_
        · show Steps p.tables e below (s₁.setTop (mkF m 23 #[.val (.int x), .val (.int (x &&& (255 : Int32)))] [(.int (10 : Int32)), (.int (x &&& (255 : Int32)))])) _
          refine XS.icmpYes X0.here hx rfl (pc0 := 23) (pc' := 48) rfl (hb hby d2_23) rfl (teq hs3).1 (by decide) (by decide) ?_
          exact kz
        refine own_go (A := s₁.setTop (mkF m 49 #[.val (.int x), .val (.int (x &&& (255 : Int32)))] [(.int (0 : Int32))])) (fun _ kz => ?_) ?_
        · show Steps p.tables e below (s₁.setTop (mkF m 48 #[.val (.int x), .val (.int (x &&& (255 : Int32)))] [])) _
          refine XS.iconst X0.here hx rfl (hb hby d2_48) ?_
          exact kz
        obtain ⟨fs, hrr, hrun, hended, hW, hsame⟩ := X0.leave (v := some (.int (0 : Int32))) (fun h => by rw [Bd.returns] at h; cases h)
        refine ⟨_, _, ?_, hrun, hended, _, _, rfl, ?_, ⟨_, rfl⟩, hW, hsame.mono (by decide) (by decide)⟩
        · show Steps p.tables e below (s₁.setTop (mkF m 49 #[.val (.int x), .val (.int (x &&& (255 : Int32)))] [(.int (0 : Int32))])) _
          exact retN X0 hx (t := .boolean) Bd.returns (by simp) (hb hby d2_49) hrr
        · show QrmBin Z x h0 n0 _ s₁.heap _
          rw [e0]
          exact ⟨by simp [own_tv, hs1, hs2, hs3], N0, rfl⟩
      · skip
        refine own_go (A := s₁.setTop (mkF m 26 #[.val (.int x), .val (.int (x &&& (255 : Int32)))] [])) (fun _ kz => ?_) ?_
        · show Steps p.tables e below (s₁.setTop (mkF m 23 #[.val (.int x), .val (.int (x &&& (255 : Int32)))] [(.int (10 : Int32)), (.int (x &&& (255 : Int32)))])) _
          refine XS.icmpNo X0.here hx rfl (hb hby d2_23) rfl (feq hs3).1 ?_
          exact kz
        refine own_go (A := s₁.setTop (mkF m 29 #[.val (.int x), .val (.int (x &&& (255 : Int32)))] [(.int (12 : Int32)), (.int (x &&& (255 : Int32)))])) (fun _ kz => ?_) ?_
        · show Steps p.tables e below (s₁.setTop (mkF m 26 #[.val (.int x), .val (.int (x &&& (255 : Int32)))] [])) _
          refine XS.iloadN X0.here hx rfl (hb hby d2_26) rfl ?_
          show Steps p.tables e below (s₁.setTop (mkF m 27 #[.val (.int x), .val (.int (x &&& (255 : Int32)))] [(.int (x &&& (255 : Int32)))])) _
          refine XS.bipush X0.here hx rfl (hb hby d2_27) ?_
          exact kz
        by_cases hs4 : (x &&& (255 : Int32)) = (12 : Int32)
        · skip
          refine own_go (A := s₁.setTop (mkF m 48 #[.val (.int x), .val (.int (x &&& (255 : Int32)))] [])) (fun _ kz => ?_) ?_
          · show Steps p.tables e below (s₁.setTop (mkF m 29 #[.val (.int x), .val (.int (x &&& (255 : Int32)))] [(.int (12 : Int32)), (.int (x &&& (255 : Int32)))])) _
            refine XS.icmpYes X0.here hx rfl (pc0 := 29) (pc' := 48) rfl (hb hby d2_29) rfl (teq hs4).1 (by decide) (by decide) ?_
            exact kz
          refine own_go (A := s₁.setTop (mkF m 49 #[.val (.int x), .val (.int (x &&& (255 : Int32)))] [(.int (0 : Int32))])) (fun _ kz => ?_) ?_
          · show Steps p.tables e below (s₁.setTop (mkF m 48 #[.val (.int x), .val (.int (x &&& (255 : Int32)))] [])) _
            refine XS.iconst X0.here hx rfl (hb hby d2_48) ?_
            exact kz
          obtain ⟨fs, hrr, hrun, hended, hW, hsame⟩ := X0.leave (v := some (.int (0 : Int32))) (fun h => by rw [Bd.returns] at h; cases h)
          refine ⟨_, _, ?_, hrun, hended, _, _, rfl, ?_, ⟨_, rfl⟩, hW, hsame.mono (by decide) (by decide)⟩
          · show Steps p.tables e below (s₁.setTop (mkF m 49 #[.val (.int x), .val (.int (x &&& (255 : Int32)))] [(.int (0 : Int32))])) _
            exact retN X0 hx (t := .boolean) Bd.returns (by simp) (hb hby d2_49) hrr
          · show QrmBin Z x h0 n0 _ s₁.heap _
            rw [e0]
            exact ⟨by simp [own_tv, hs1, hs2, hs3, hs4], N0, rfl⟩
        · skip
          refine own_go (A := s₁.setTop (mkF m 32 #[.val (.int x), .val (.int (x &&& (255 : Int32)))] [])) (fun _ kz => ?_) ?_
          · show Steps p.tables e below (s₁.setTop (mkF m 29 #[.val (.int x), .val (.int (x &&& (255 : Int32)))] [(.int (12 : Int32)), (.int (x &&& (255 : Int32)))])) _
            refine XS.icmpNo X0.here hx rfl (hb hby d2_29) rfl (feq hs4).1 ?_
            exact kz
          refine own_go (A := s₁.setTop (mkF m 35 #[.val (.int x), .val (.int (x &&& (255 : Int32)))] [(.int (13 : Int32)), (.int (x &&& (255 : Int32)))])) (fun _ kz => ?_) ?_
          · show Steps p.tables e below (s₁.setTop (mkF m 32 #[.val (.int x), .val (.int (x &&& (255 : Int32)))] [])) _
            refine XS.iloadN X0.here hx rfl (hb hby d2_32) rfl ?_
            show Steps p.tables e below (s₁.setTop (mkF m 33 #[.val (.int x), .val (.int (x &&& (255 : Int32)))] [(.int (x &&& (255 : Int32)))])) _
            refine XS.bipush X0.here hx rfl (hb hby d2_33) ?_
            exact kz
          by_cases hs5 : (x &&& (255 : Int32)) = (13 : Int32)
          · skip
            refine own_go (A := s₁.setTop (mkF m 48 #[.val (.int x), .val (.int (x &&& (255 : Int32)))] [])) (fun _ kz => ?_) ?_
            · show Steps p.tables e below (s₁.setTop (mkF m 35 #[.val (.int x), .val (.int (x &&& (255 : Int32)))] [(.int (13 : Int32)), (.int (x &&& (255 : Int32)))])) _
              refine XS.icmpYes X0.here hx rfl (pc0 := 35) (pc' := 48) rfl (hb hby d2_35) rfl (teq hs5).1 (by decide) (by decide) ?_
              exact kz
            refine own_go (A := s₁.setTop (mkF m 49 #[.val (.int x), .val (.int (x &&& (255 : Int32)))] [(.int (0 : Int32))])) (fun _ kz => ?_) ?_
            · show Steps p.tables e below (s₁.setTop (mkF m 48 #[.val (.int x), .val (.int (x &&& (255 : Int32)))] [])) _
              refine XS.iconst X0.here hx rfl (hb hby d2_48) ?_
              exact kz
            obtain ⟨fs, hrr, hrun, hended, hW, hsame⟩ := X0.leave (v := some (.int (0 : Int32))) (fun h => by rw [Bd.returns] at h; cases h)
            refine ⟨_, _, ?_, hrun, hended, _, _, rfl, ?_, ⟨_, rfl⟩, hW, hsame.mono (by decide) (by decide)⟩
            · show Steps p.tables e below (s₁.setTop (mkF m 49 #[.val (.int x), .val (.int (x &&& (255 : Int32)))] [(.int (0 : Int32))])) _
              exact retN X0 hx (t := .boolean) Bd.returns (by simp) (hb hby d2_49) hrr
            · show QrmBin Z x h0 n0 _ s₁.heap _
              rw [e0]
              exact ⟨by simp [own_tv, hs1, hs2, hs3, hs4, hs5], N0, rfl⟩
          · skip
            refine own_go (A := s₁.setTop (mkF m 38 #[.val (.int x), .val (.int (x &&& (255 : Int32)))] [])) (fun _ kz => ?_) ?_
            · show Steps p.tables e below (s₁.setTop (mkF m 35 #[.val (.int x), .val (.int (x &&& (255 : Int32)))] [(.int (13 : Int32)), (.int (x &&& (255 : Int32)))])) _
              refine XS.icmpNo X0.here hx rfl (hb hby d2_35) rfl (feq hs5).1 ?_
              exact kz
            refine own_go (A := s₁.setTop (mkF m 41 #[.val (.int x), .val (.int (x &&& (255 : Int32)))] [(.int (27 : Int32)), (.int (x &&& (255 : Int32)))])) (fun _ kz => ?_) ?_
            · show Steps p.tables e below (s₁.setTop (mkF m 38 #[.val (.int x), .val (.int (x &&& (255 : Int32)))] [])) _
              refine XS.iloadN X0.here hx rfl (hb hby d2_38) rfl ?_
              show Steps p.tables e below (s₁.setTop (mkF m 39 #[.val (.int x), .val (.int (x &&& (255 : Int32)))] [(.int (x &&& (255 : Int32)))])) _
              refine XS.bipush X0.here hx rfl (hb hby d2_39) ?_
              exact kz
            by_cases hs6 : (x &&& (255 : Int32)) = (27 : Int32)
            · skip
              refine own_go (A := s₁.setTop (mkF m 48 #[.val (.int x), .val (.int (x &&& (255 : Int32)))] [])) (fun _ kz => ?_) ?_
              · show Steps p.tables e below (s₁.setTop (mkF m 41 #[.val (.int x), .val (.int (x &&& (255 : Int32)))] [(.int (27 : Int32)), (.int (x &&& (255 : Int32)))])) _
                refine XS.icmpYes X0.here hx rfl (pc0 := 41) (pc' := 48) rfl (hb hby d2_41) rfl (teq hs6).1 (by decide) (by decide) ?_
                exact kz
              refine own_go (A := s₁.setTop (mkF m 49 #[.val (.int x), .val (.int (x &&& (255 : Int32)))] [(.int (0 : Int32))])) (fun _ kz => ?_) ?_
              · show Steps p.tables e below (s₁.setTop (mkF m 48 #[.val (.int x), .val (.int (x &&& (255 : Int32)))] [])) _
                refine XS.iconst X0.here hx rfl (hb hby d2_48) ?_
                exact kz
              obtain ⟨fs, hrr, hrun, hended, hW, hsame⟩ := X0.leave (v := some (.int (0 : Int32))) (fun h => by rw [Bd.returns] at h; cases h)
              refine ⟨_, _, ?_, hrun, hended, _, _, rfl, ?_, ⟨_, rfl⟩, hW, hsame.mono (by decide) (by decide)⟩
              · show Steps p.tables e below (s₁.setTop (mkF m 49 #[.val (.int x), .val (.int (x &&& (255 : Int32)))] [(.int (0 : Int32))])) _
                exact retN X0 hx (t := .boolean) Bd.returns (by simp) (hb hby d2_49) hrr
              · show QrmBin Z x h0 n0 _ s₁.heap _
                rw [e0]
                exact ⟨by simp [own_tv, hs1, hs2, hs3, hs4, hs5, hs6], N0, rfl⟩
            · skip
              refine own_go (A := s₁.setTop (mkF m 44 #[.val (.int x), .val (.int (x &&& (255 : Int32)))] [])) (fun _ kz => ?_) ?_
              · show Steps p.tables e below (s₁.setTop (mkF m 41 #[.val (.int x), .val (.int (x &&& (255 : Int32)))] [(.int (27 : Int32)), (.int (x &&& (255 : Int32)))])) _
                refine XS.icmpNo X0.here hx rfl (hb hby d2_41) rfl (feq hs6).1 ?_
                exact kz
              refine own_go (A := s₁.setTop (mkF m 49 #[.val (.int x), .val (.int (x &&& (255 : Int32)))] [(.int (1 : Int32))])) (fun _ kz => ?_) ?_
              · show Steps p.tables e below (s₁.setTop (mkF m 44 #[.val (.int x), .val (.int (x &&& (255 : Int32)))] [])) _
                refine XS.iconst X0.here hx rfl (hb hby d2_44) ?_
                show Steps p.tables e below (s₁.setTop (mkF m 45 #[.val (.int x), .val (.int (x &&& (255 : Int32)))] [(.int (1 : Int32))])) _
                refine XS.goto X0.here hx rfl (pc0 := 45) (pc' := 49) rfl (hb hby d2_45) (by decide) (by decide) ?_
                exact kz
              obtain ⟨fs, hrr, hrun, hended, hW, hsame⟩ := X0.leave (v := some (.int (1 : Int32))) (fun h => by rw [Bd.returns] at h; cases h)
              refine ⟨_, _, ?_, hrun, hended, _, _, rfl, ?_, ⟨_, rfl⟩, hW, hsame.mono (by decide) (by decide)⟩
              · show Steps p.tables e below (s₁.setTop (mkF m 49 #[.val (.int x), .val (.int (x &&& (255 : Int32)))] [(.int (1 : Int32))])) _
                exact retN X0 hx (t := .boolean) Bd.returns (by simp) (hb hby d2_49) hrr
              · show QrmBin Z x h0 n0 _ s₁.heap _
                rw [e0]
                exact ⟨by simp [own_tv, hs1, hs2, hs3, hs4, hs5, hs6], N0, rfl⟩
  · skip
    refine own_go (A := s₁.setTop (mkF m 12 #[.val (.int x), .val (.int (x &&& (255 : Int32)))] [])) (fun _ kz => ?_) ?_
    · show Steps p.tables e below (s₁.setTop (mkF m 9 #[.val (.int x), .val (.int (x &&& (255 : Int32)))] [(.int (32 : Int32)), (.int (x &&& (255 : Int32)))])) _
      refine XS.icmpNo X0.here hx rfl (hb hby d2_9) rfl (flt hs1).1 ?_
      exact kz
    refine own_go (A := s₁.setTop (mkF m 13 #[.val (.int x), .val (.int (x &&& (255 : Int32)))] [(.int (0 : Int32))])) (fun _ kz => ?_) ?_
    · show Steps p.tables e below (s₁.setTop (mkF m 12 #[.val (.int x), .val (.int (x &&& (255 : Int32)))] [])) _
      refine XS.iconst X0.here hx rfl (hb hby d2_12) ?_
      exact kz
    obtain ⟨fs, hrr, hrun, hended, hW, hsame⟩ := X0.leave (v := some (.int (0 : Int32))) (fun h => by rw [Bd.returns] at h; cases h)
    refine ⟨_, _, ?_, hrun, hended, _, _, rfl, ?_, ⟨_, rfl⟩, hW, hsame.mono (by decide) (by decide)⟩
    · show Steps p.tables e below (s₁.setTop (mkF m 13 #[.val (.int x), .val (.int (x &&& (255 : Int32)))] [(.int (0 : Int32))])) _
      exact retN X0 hx (t := .boolean) Bd.returns (by simp) (hb hby d2_13) hrr
    · show QrmBin Z x h0 n0 _ s₁.heap _
      rw [e0]
      exact ⟨by simp [own_tv, hs1], N0, rfl⟩
theorem d1_0 : decode prog_1_method_2_code 0 = .ok (.aload_n 0, 1) := by decide +kernel
theorem d1_1 : decode prog_1_method_2_code 1 = .ok (.astore_n 1, 1) := by decide +kernel
theorem d1_2 : decode prog_1_method_2_code 2 = .ok (.aload_n 1, 1) := by decide +kernel
theorem d1_3 : decode prog_1_method_2_code 3 = .ok (.arraylength, 1) := by decide +kernel
theorem d1_4 : decode prog_1_method_2_code 4 = .ok (.istore_n 2, 1) := by decide +kernel
theorem d1_5 : decode prog_1_method_2_code 5 = .ok (.iconst 0, 1) := by decide +kernel
theorem d1_6 : decode prog_1_method_2_code 6 = .ok (.istore_n 3, 1) := by decide +kernel
theorem d1_7 : decode prog_1_method_2_code 7 = .ok (.iload_n 3, 1) := by decide +kernel
theorem d1_8 : decode prog_1_method_2_code 8 = .ok (.iload_n 2, 1) := by decide +kernel
theorem d1_9 : decode prog_1_method_2_code 9 = .ok (.if_icmp .ge 29, 3) := by decide +kernel
theorem d1_38 : decode prog_1_method_2_code 38 = .ok (.iconst 0, 1) := by decide +kernel
theorem d1_39 : decode prog_1_method_2_code 39 = .ok (.ireturn, 1) := by decide +kernel
theorem own_pn1 : plainName "com/example/sharp_nose/sharpnose/BinaryData" = true := by first | (simp [plainName, overriddenIn]; done) | decide +kernel
theorem own_ef1 (m : MethodId) (x0 : Addr) : entryFrame m #[(.ref x0)] 5 = mkF m 0 #[.val (.ref x0), .unset, .unset, .unset, .unset] [] := by first | (simp [entryFrame, mkF, argsToLocals, Value.category]; done) | rfl
def QrmF0 (Z : State) (a at_ : Addr) (kc : ClassId) ( r : Int32) (h0 : Heap) (n0 : Nat) (v : Option Value) (h : Heap) (L : List Loc) : Prop := v = some (.int r) ∧ Fr n0 L ∧ h = h0
set_option maxRecDepth 65536 in
set_option maxHeartbeats 40000000 in
theorem rmF0 (l : Launch) (Z : State) (a0 : Array Value) (hw : ∀ d ∈ tables_1, d.before a0 Z = true) (ws : List Jvm.Cond) (a at_ : Addr) (kc : ClassId) ( r : Int32) (h0 : Heap) (n0 : Nat) (Z0 : n0 ≤ h0.size) (Av : Arv Z h0 a kc .byte (0 : Int32) [] (.int (0 : Int32))) (S_t : Sta Z h0 "com/example/sharp_nose/sharpnose/BinaryData" "BINARY_DATA_BYTES" "[Z" (.ref at_)) (Tb : own_Tab Z h0 at_) (hr : (0 : Int32) = r) :
    MetFree l (⟨"com/example/sharp_nose/sharpnose/BinaryData", "foundIn", "([B)Z"⟩ : MethodName) (head1 (Jvm.Cond.code (⟨"com/example/sharp_nose/sharpnose/BinaryData", "foundIn", "([B)Z"⟩ : MethodName) prog_1_method_2_code 5 (some .boolean) :: ws) ({ frames := 0, cells := 0, slots := 0, locals := 0 } : Room)) (fun ar_ U_ => ar_ = #[(.ref a)] ∧ Z.Warmed39 U_.vm ∧ U_.heap = h0) (fun _ _ _ _ _ => True) (fun _ U_ ou_ V_ => ∃ v_ L_, ou_ = .returned v_ ∧ QrmF0 Z a at_ kc r h0 n0 v_ V_.heap L_ ∧ FrameEnd U_ ou_ V_ L_ ({ frames := 0, cells := 0, slots := 0, locals := 0 } : Room).cells ({ frames := 0, cells := 0, slots := 0, locals := 0 } : Room).slots) := by
  refine MetFree.of_bodySF (plainFor_of_name own_pn1) hisR ?_
  intro p e s m args below meth c s₁ Bd hml0 hP hK
  obtain ⟨rfl, hZ, hh⟩ := hP
  have hx := Bd.exec
  have hby := Bd.bytes
  have hml : c.maxLocals = 5 := hml0
  have hown : s.vm.findClass "com/example/sharp_nose/sharpnose/BinaryData" = some m.cls := findClass_of_methodNamed Bd.named
  have hnm := (name_of_methodNamed Bd.named Bd.method).1
  have X0 : Stand p l e ({ frames := 0, cells := 0, slots := 0, locals := 0 } : Room) s m #[(.ref a)] below meth c s₁ [] 0 0 := Stand.of_body Bd
  have e0 : s₁.heap = h0 := by rw [← hh, Bd.state]; rfl
  have N0 := Fr.nil n0
  refine own_go (A := s₁.setTop (mkF m 0 #[.val (.ref a), .unset, .unset, .unset, .unset] [])) (fun t kz => castTop (own_ef1 m a) kz) ?_
  refine own_go (A := s₁.setTop (mkF m 3 #[.val (.ref a), .val (.ref a), .unset, .unset, .unset] [(.ref a)])) (fun _ kz => ?_) ?_
  · show Steps p.tables e below (s₁.setTop (mkF m 0 #[.val (.ref a), .unset, .unset, .unset, .unset] [])) _
    refine XS.aloadN X0.here hx rfl (hb hby d1_0) rfl rfl ?_
    show Steps p.tables e below (s₁.setTop (mkF m 1 #[.val (.ref a), .unset, .unset, .unset, .unset] [(.ref a)])) _
    refine XS.astoreN X0.here hx rfl (hb hby d1_1) rfl rfl (l' := #[.val (.ref a), .val (.ref a), .unset, .unset, .unset]) rfl ?_
    show Steps p.tables e below (s₁.setTop (mkF m 2 #[.val (.ref a), .val (.ref a), .unset, .unset, .unset] [])) _
    refine XS.aloadN X0.here hx rfl (hb hby d1_2) rfl rfl ?_
    exact kz
  obtain ⟨cl1, Ar1, -, S1, M1, -, -⟩ := id Av
  refine own_go (A := s₁.setTop (mkF m 4 #[.val (.ref a), .val (.ref a), .unset, .unset, .unset] [(.int (0 : Int32))])) (fun _ kz => ?_) ?_
  · refine X0.arraylength hx (by rw [e0]; exact Ar1.1) (State.isArrayOf_alike hZ.alike Ar1.2.1) (g := (mkF m 3 #[.val (.ref a), .val (.ref a), .unset, .unset, .unset] [(.ref a)])) rfl rfl (hb hby d1_3) _ ?_
    rw [len_of S1 M1]
    exact kz
  refine own_go (A := s₁.setTop (mkF m 39 #[.val (.ref a), .val (.ref a), .val (.int (0 : Int32)), .val (.int (0 : Int32)), .unset] [(.int (0 : Int32))])) (fun _ kz => ?_) ?_
  · show Steps p.tables e below (s₁.setTop (mkF m 4 #[.val (.ref a), .val (.ref a), .unset, .unset, .unset] [(.int (0 : Int32))])) _
    refine XS.istoreN X0.here hx rfl (hb hby d1_4) rfl (l' := #[.val (.ref a), .val (.ref a), .val (.int (0 : Int32)), .unset, .unset]) rfl ?_
    show Steps p.tables e below (s₁.setTop (mkF m 5 #[.val (.ref a), .val (.ref a), .val (.int (0 : Int32)), .unset, .unset] [])) _
    refine XS.iconst X0.here hx rfl (hb hby d1_5) ?_
    show Steps p.tables e below (s₁.setTop (mkF m 6 #[.val (.ref a), .val (.ref a), .val (.int (0 : Int32)), .unset, .unset] [(.int (0 : Int32))])) _
    refine XS.istoreN X0.here hx rfl (hb hby d1_6) rfl (l' := #[.val (.ref a), .val (.ref a), .val (.int (0 : Int32)), .val (.int (0 : Int32)), .unset]) rfl ?_
    show Steps p.tables e below (s₁.setTop (mkF m 7 #[.val (.ref a), .val (.ref a), .val (.int (0 : Int32)), .val (.int (0 : Int32)), .unset] [])) _
    refine XS.iloadN X0.here hx rfl (hb hby d1_7) rfl ?_
    show Steps p.tables e below (s₁.setTop (mkF m 8 #[.val (.ref a), .val (.ref a), .val (.int (0 : Int32)), .val (.int (0 : Int32)), .unset] [(.int (0 : Int32))])) _
    refine XS.iloadN X0.here hx rfl (hb hby d1_8) rfl ?_
    show Steps p.tables e below (s₁.setTop (mkF m 9 #[.val (.ref a), .val (.ref a), .val (.int (0 : Int32)), .val (.int (0 : Int32)), .unset] [(.int (0 : Int32)), (.int (0 : Int32))])) _
    refine XS.icmpYes X0.here hx rfl (pc0 := 9) (pc' := 38) rfl (hb hby d1_9) rfl (flt (by decide : ¬ ((0 : Int32) < (0 : Int32)))).2.1 (by decide) (by decide) ?_
    show Steps p.tables e below (s₁.setTop (mkF m 38 #[.val (.ref a), .val (.ref a), .val (.int (0 : Int32)), .val (.int (0 : Int32)), .unset] [])) _
    refine XS.iconst X0.here hx rfl (hb hby d1_38) ?_
    exact kz
  obtain ⟨fs, hrr, hrun, hended, hW, hsame⟩ := X0.leave (v := some (.int (0 : Int32))) (fun h => by rw [Bd.returns] at h; cases h)
  refine ⟨_, _, ?_, hrun, hended, _, _, rfl, ?_, ⟨_, rfl⟩, hW, hsame.mono (by decide) (by decide)⟩
  · show Steps p.tables e below (s₁.setTop (mkF m 39 #[.val (.ref a), .val (.ref a), .val (.int (0 : Int32)), .val (.int (0 : Int32)), .unset] [(.int (0 : Int32))])) _
    exact retN X0 hx (t := .boolean) Bd.returns (by simp) (hb hby d1_39) hrr
  · show QrmF0 Z a at_ kc r h0 n0 _ s₁.heap _
    rw [e0]
    exact ⟨by subst hr; simp [], N0, rfl⟩

theorem d1_12 : decode prog_1_method_2_code 12 = .ok (.aload_n 1, 1) := by decide +kernel
theorem d1_13 : decode prog_1_method_2_code 13 = .ok (.iload_n 3, 1) := by decide +kernel
theorem d1_14 : decode prog_1_method_2_code 14 = .ok (.baload, 1) := by decide +kernel
theorem d1_15 : decode prog_1_method_2_code 15 = .ok (.istore 4, 2) := by decide +kernel
theorem d1_17 : decode prog_1_method_2_code 17 = .ok (.getstatic 7, 3) := by decide +kernel
theorem d1_20 : decode prog_1_method_2_code 20 = .ok (.iload 4, 2) := by decide +kernel
theorem d1_22 : decode prog_1_method_2_code 22 = .ok (.sipush 255, 3) := by decide +kernel
theorem d1_25 : decode prog_1_method_2_code 25 = .ok (.iand, 1) := by decide +kernel
theorem d1_26 : decode prog_1_method_2_code 26 = .ok (.baload, 1) := by decide +kernel
theorem d1_27 : decode prog_1_method_2_code 27 = .ok (.ifCond .eq 5, 3) := by decide +kernel
theorem d1_30 : decode prog_1_method_2_code 30 = .ok (.iconst 1, 1) := by decide +kernel
theorem d1_31 : decode prog_1_method_2_code 31 = .ok (.ireturn, 1) := by decide +kernel
theorem d1_32 : decode prog_1_method_2_code 32 = .ok (.iinc 3 1, 3) := by decide +kernel
theorem d1_35 : decode prog_1_method_2_code 35 = .ok (.goto (-28), 3) := by decide +kernel
theorem own_efF1 (m : MethodId) (x0 : Addr) : entryFrame m #[(.ref x0)] 5 = mkF m 0 #[.val (.ref x0), .unset, .unset, .unset, .unset] [] := by first | (simp [entryFrame, mkF, argsToLocals, Value.category]; done) | rfl
def QrmF1 (Z : State) (a at_ : Addr) (kc : ClassId) (x0 r : Int32) (h0 : Heap) (n0 : Nat) (v : Option Value) (h : Heap) (L : List Loc) : Prop := v = some (.int r) ∧ Fr n0 L ∧ h = h0
set_option maxRecDepth 65536 in
set_option maxHeartbeats 40000000 in
theorem rmF1 (l : Launch) (Z : State) (a0 : Array Value) (hw : ∀ d ∈ tables_1, d.before a0 Z = true) (ws : List Jvm.Cond) (a at_ : Addr) (kc : ClassId) (x0 r : Int32) (h0 : Heap) (n0 : Nat) (Z0 : n0 ≤ h0.size) (Av : Arv Z h0 a kc .byte (1 : Int32) [(.int x0)] (.int (0 : Int32))) (S_t : Sta Z h0 "com/example/sharp_nose/sharpnose/BinaryData" "BINARY_DATA_BYTES" "[Z" (.ref at_)) (Tb : own_Tab Z h0 at_) (hr : (if (own_tv (x0 &&& (255 : Int32))) = (0 : Int32) then (0 : Int32) else (1 : Int32)) = r) :
    MetFree l (⟨"com/example/sharp_nose/sharpnose/BinaryData", "foundIn", "([B)Z"⟩ : MethodName) (head1 (Jvm.Cond.code (⟨"com/example/sharp_nose/sharpnose/BinaryData", "foundIn", "([B)Z"⟩ : MethodName) prog_1_method_2_code 5 (some .boolean) :: ws) ({ frames := 0, cells := 0, slots := 0, locals := 0 } : Room)) (fun ar_ U_ => ar_ = #[(.ref a)] ∧ Z.Warmed39 U_.vm ∧ U_.heap = h0) (fun _ _ _ _ _ => True) (fun _ U_ ou_ V_ => ∃ v_ L_, ou_ = .returned v_ ∧ QrmF1 Z a at_ kc x0 r h0 n0 v_ V_.heap L_ ∧ FrameEnd U_ ou_ V_ L_ ({ frames := 0, cells := 0, slots := 0, locals := 0 } : Room).cells ({ frames := 0, cells := 0, slots := 0, locals := 0 } : Room).slots) := by
  refine MetFree.of_bodySF (plainFor_of_name own_pn1) hisR ?_
  intro p e s m args below meth c s₁ Bd hml0 hP hK
  obtain ⟨rfl, hZ, hh⟩ := hP
  have hx := Bd.exec
  have hby := Bd.bytes
  have hml : c.maxLocals = 5 := hml0
  have hown : s.vm.findClass "com/example/sharp_nose/sharpnose/BinaryData" = some m.cls := findClass_of_methodNamed Bd.named
  have hnm := (name_of_methodNamed Bd.named Bd.method).1
  have X0 : Stand p l e ({ frames := 0, cells := 0, slots := 0, locals := 0 } : Room) s m #[(.ref a)] below meth c s₁ [] 0 0 := Stand.of_body Bd
  have e0 : s₁.heap = h0 := by rw [← hh, Bd.state]; rfl
  have N0 := Fr.nil n0
  refine own_go (A := s₁.setTop (mkF m 0 #[.val (.ref a), .unset, .unset, .unset, .unset] [])) (fun t kz => castTop (own_efF1 m a) kz) ?_
  refine own_go (A := s₁.setTop (mkF m 3 #[.val (.ref a), .val (.ref a), .unset, .unset, .unset] [(.ref a)])) (fun _ kz => ?_) ?_
  · show Steps p.tables e below (s₁.setTop (mkF m 0 #[.val (.ref a), .unset, .unset, .unset, .unset] [])) _
    refine XS.aloadN X0.here hx rfl (hb hby d1_0) rfl rfl ?_
    show Steps p.tables e below (s₁.setTop (mkF m 1 #[.val (.ref a), .unset, .unset, .unset, .unset] [(.ref a)])) _
    refine XS.astoreN X0.here hx rfl (hb hby d1_1) rfl rfl (l' := #[.val (.ref a), .val (.ref a), .unset, .unset, .unset]) rfl ?_
    show Steps p.tables e below (s₁.setTop (mkF m 2 #[.val (.ref a), .val (.ref a), .unset, .unset, .unset] [])) _
    refine XS.aloadN X0.here hx rfl (hb hby d1_2) rfl rfl ?_
    exact kz
  obtain ⟨cl1, Ar1, -, S1, M1, -, -⟩ := id Av
  refine own_go (A := s₁.setTop (mkF m 4 #[.val (.ref a), .val (.ref a), .unset, .unset, .unset] [(.int (1 : Int32))])) (fun _ kz => ?_) ?_
  · refine X0.arraylength hx (by rw [e0]; exact Ar1.1) (State.isArrayOf_alike hZ.alike Ar1.2.1) (g := (mkF m 3 #[.val (.ref a), .val (.ref a), .unset, .unset, .unset] [(.ref a)])) rfl rfl (hb hby d1_3) _ ?_
    rw [len_of S1 M1]
    exact kz
  refine own_go (A := s₁.setTop (mkF m 14 #[.val (.ref a), .val (.ref a), .val (.int (1 : Int32)), .val (.int (0 : Int32)), .unset] [(.int (0 : Int32)), (.ref a)])) (fun _ kz => ?_) ?_
  · show Steps p.tables e below (s₁.setTop (mkF m 4 #[.val (.ref a), .val (.ref a), .unset, .unset, .unset] [(.int (1 : Int32))])) _
    refine XS.istoreN X0.here hx rfl (hb hby d1_4) rfl (l' := #[.val (.ref a), .val (.ref a), .val (.int (1 : Int32)), .unset, .unset]) rfl ?_
    show Steps p.tables e below (s₁.setTop (mkF m 5 #[.val (.ref a), .val (.ref a), .val (.int (1 : Int32)), .unset, .unset] [])) _
    refine XS.iconst X0.here hx rfl (hb hby d1_5) ?_
    show Steps p.tables e below (s₁.setTop (mkF m 6 #[.val (.ref a), .val (.ref a), .val (.int (1 : Int32)), .unset, .unset] [(.int (0 : Int32))])) _
    refine XS.istoreN X0.here hx rfl (hb hby d1_6) rfl (l' := #[.val (.ref a), .val (.ref a), .val (.int (1 : Int32)), .val (.int (0 : Int32)), .unset]) rfl ?_
    show Steps p.tables e below (s₁.setTop (mkF m 7 #[.val (.ref a), .val (.ref a), .val (.int (1 : Int32)), .val (.int (0 : Int32)), .unset] [])) _
    refine XS.iloadN X0.here hx rfl (hb hby d1_7) rfl ?_
    show Steps p.tables e below (s₁.setTop (mkF m 8 #[.val (.ref a), .val (.ref a), .val (.int (1 : Int32)), .val (.int (0 : Int32)), .unset] [(.int (0 : Int32))])) _
    refine XS.iloadN X0.here hx rfl (hb hby d1_8) rfl ?_
    show Steps p.tables e below (s₁.setTop (mkF m 9 #[.val (.ref a), .val (.ref a), .val (.int (1 : Int32)), .val (.int (0 : Int32)), .unset] [(.int (1 : Int32)), (.int (0 : Int32))])) _
    refine XS.icmpNo X0.here hx rfl (hb hby d1_9) rfl (tlt (by decide : ((0 : Int32) < (1 : Int32)))).2.1 ?_
    show Steps p.tables e below (s₁.setTop (mkF m 12 #[.val (.ref a), .val (.ref a), .val (.int (1 : Int32)), .val (.int (0 : Int32)), .unset] [])) _
    refine XS.aloadN X0.here hx rfl (hb hby d1_12) rfl rfl ?_
    show Steps p.tables e below (s₁.setTop (mkF m 13 #[.val (.ref a), .val (.ref a), .val (.int (1 : Int32)), .val (.int (0 : Int32)), .unset] [(.ref a)])) _
    refine XS.iloadN X0.here hx rfl (hb hby d1_13) rfl ?_
    exact kz
  obtain ⟨cl2, Ar2, -, S2, M2, H2, -⟩ := id Av
  have hin2 : ¬ ((0 : Int32) < 0 ∨ cl2.slots.size ≤ ((0 : Int32)).toNatClampNeg) := inb_of S2 ⟨by decide, by decide⟩
  have hat2 : cl2.slots[((0 : Int32)).toNatClampNeg]? = some (.int x0) := H2.at hin2 rfl
  refine own_go (A := s₁.setTop (mkF m 15 #[.val (.ref a), .val (.ref a), .val (.int (1 : Int32)), .val (.int (0 : Int32)), .unset] [(.int x0)])) (fun _ kz => ?_) ?_
  · refine X0.baloadBytes hx (j := (0 : Int32)) (v := (.int x0)) (by rw [e0]; exact Ar2.1) (State.isArrayOf_alike hZ.alike Ar2.2.1) Ar2.2.2 hin2 hat2 (g := (mkF m 14 #[.val (.ref a), .val (.ref a), .val (.int (1 : Int32)), .val (.int (0 : Int32)), .unset] [(.int (0 : Int32)), (.ref a)])) rfl rfl (hb hby d1_14) _ ?_
    exact kz
  refine own_go (A := s₁.setTop (mkF m 17 #[.val (.ref a), .val (.ref a), .val (.int (1 : Int32)), .val (.int (0 : Int32)), .val (.int x0)] [])) (fun _ kz => ?_) ?_
  · show Steps p.tables e below (s₁.setTop (mkF m 15 #[.val (.ref a), .val (.ref a), .val (.int (1 : Int32)), .val (.int (0 : Int32)), .unset] [(.int x0)])) _
    refine XS.istore X0.here hx rfl (hb hby d1_15) rfl (l' := #[.val (.ref a), .val (.ref a), .val (.int (1 : Int32)), .val (.int (0 : Int32)), .val (.int x0)]) rfl ?_
    exact kz
  obtain ⟨T3, X3, e3, st3⟩ := getS2 X0 hx hZ hown (host := "") (Or.inl (hw _ (List.mem_of_getElem? (i := 10) rfl))) Via.refl e0 S_t (g := (mkF m 17 #[.val (.ref a), .val (.ref a), .val (.int (1 : Int32)), .val (.int (0 : Int32)), .val (.int x0)] [])) rfl (hb hby d1_17)
  refine own_go (A := T3.setTop (mkF m 20 #[.val (.ref a), .val (.ref a), .val (.int (1 : Int32)), .val (.int (0 : Int32)), .val (.int x0)] [(.ref at_)])) (fun _ kz => st3 _ kz) ?_
  refine own_go (A := T3.setTop (mkF m 26 #[.val (.ref a), .val (.ref a), .val (.int (1 : Int32)), .val (.int (0 : Int32)), .val (.int x0)] [(.int (x0 &&& (255 : Int32))), (.ref at_)])) (fun _ kz => ?_) ?_
  · show Steps p.tables e below (T3.setTop (mkF m 20 #[.val (.ref a), .val (.ref a), .val (.int (1 : Int32)), .val (.int (0 : Int32)), .val (.int x0)] [(.ref at_)])) _
    refine XS.iload X3.here hx rfl (hb hby d1_20) rfl ?_
    show Steps p.tables e below (T3.setTop (mkF m 22 #[.val (.ref a), .val (.ref a), .val (.int (1 : Int32)), .val (.int (0 : Int32)), .val (.int x0)] [(.int x0), (.ref at_)])) _
    refine XS.sipush X3.here hx rfl (hb hby d1_22) ?_
    show Steps p.tables e below (T3.setTop (mkF m 25 #[.val (.ref a), .val (.ref a), .val (.int (1 : Int32)), .val (.int (0 : Int32)), .val (.int x0)] [(.int (255 : Int32)), (.int x0), (.ref at_)])) _
    refine XS.iand X3.here hx rfl (hb hby d1_25) rfl ?_
    exact kz
  obtain ⟨cl4, Ar4, S4, Ht4⟩ := id Tb
  have hin4 : ¬ ((x0 &&& (255 : Int32)) < 0 ∨ cl4.slots.size ≤ ((x0 &&& (255 : Int32))).toNatClampNeg) := inb_of S4 ⟨own_a0 _, own_a1 _⟩
  refine own_go (A := T3.setTop (mkF m 27 #[.val (.ref a), .val (.ref a), .val (.int (1 : Int32)), .val (.int (0 : Int32)), .val (.int x0)] [(.int (own_tv (x0 &&& (255 : Int32))))])) (fun _ kz => ?_) ?_
  · refine X3.baloadBooleans hx (j := (x0 &&& (255 : Int32))) (v := (.int (own_tv (x0 &&& (255 : Int32))))) (e3 ▸ Ar4.1) (State.isArrayOf_alike hZ.alike Ar4.2.1) Ar4.2.2 hin4 (Ht4 _ (own_a0 _) (own_a1 _)) (g := (mkF m 26 #[.val (.ref a), .val (.ref a), .val (.int (1 : Int32)), .val (.int (0 : Int32)), .val (.int x0)] [(.int (x0 &&& (255 : Int32))), (.ref at_)])) rfl rfl (hb hby d1_26) _ ?_
    exact kz
  by_cases hs5 : (own_tv (x0 &&& (255 : Int32))) = (0 : Int32)
  · skip
    refine own_go (A := T3.setTop (mkF m 32 #[.val (.ref a), .val (.ref a), .val (.int (1 : Int32)), .val (.int (0 : Int32)), .val (.int x0)] [])) (fun _ kz => ?_) ?_
    · show Steps p.tables e below (T3.setTop (mkF m 27 #[.val (.ref a), .val (.ref a), .val (.int (1 : Int32)), .val (.int (0 : Int32)), .val (.int x0)] [(.int (own_tv (x0 &&& (255 : Int32))))])) _
      refine XS.ifYes X3.here hx rfl (pc0 := 27) (pc' := 32) rfl (hb hby d1_27) rfl ((if0 _ _).trans (teq hs5).1) (by decide) (by decide) ?_
      exact kz
    refine own_go (A := T3.setTop (mkF m 39 #[.val (.ref a), .val (.ref a), .val (.int (1 : Int32)), .val (.int (1 : Int32)), .val (.int x0)] [(.int (0 : Int32))])) (fun _ kz => ?_) ?_
    · show Steps p.tables e below (T3.setTop (mkF m 32 #[.val (.ref a), .val (.ref a), .val (.int (1 : Int32)), .val (.int (0 : Int32)), .val (.int x0)] [])) _
      refine XS.iinc X3.here hx rfl (hb hby d1_32) rfl (l' := #[.val (.ref a), .val (.ref a), .val (.int (1 : Int32)), .val (.int (1 : Int32)), .val (.int x0)]) rfl ?_
      show Steps p.tables e below (T3.setTop (mkF m 35 #[.val (.ref a), .val (.ref a), .val (.int (1 : Int32)), .val (.int (1 : Int32)), .val (.int x0)] [])) _
      refine XS.goto X3.here hx rfl (pc0 := 35) (pc' := 7) rfl (hb hby d1_35) (by decide) (by decide) ?_
      show Steps p.tables e below (T3.setTop (mkF m 7 #[.val (.ref a), .val (.ref a), .val (.int (1 : Int32)), .val (.int (1 : Int32)), .val (.int x0)] [])) _
      refine XS.iloadN X3.here hx rfl (hb hby d1_7) rfl ?_
      show Steps p.tables e below (T3.setTop (mkF m 8 #[.val (.ref a), .val (.ref a), .val (.int (1 : Int32)), .val (.int (1 : Int32)), .val (.int x0)] [(.int (1 : Int32))])) _
      refine XS.iloadN X3.here hx rfl (hb hby d1_8) rfl ?_
      show Steps p.tables e below (T3.setTop (mkF m 9 #[.val (.ref a), .val (.ref a), .val (.int (1 : Int32)), .val (.int (1 : Int32)), .val (.int x0)] [(.int (1 : Int32)), (.int (1 : Int32))])) _
      refine XS.icmpYes X3.here hx rfl (pc0 := 9) (pc' := 38) rfl (hb hby d1_9) rfl (flt (by decide : ¬ ((1 : Int32) < (1 : Int32)))).2.1 (by decide) (by decide) ?_
      show Steps p.tables e below (T3.setTop (mkF m 38 #[.val (.ref a), .val (.ref a), .val (.int (1 : Int32)), .val (.int (1 : Int32)), .val (.int x0)] [])) _
      refine XS.iconst X3.here hx rfl (hb hby d1_38) ?_
      exact kz
    obtain ⟨fs, hrr, hrun, hended, hW, hsame⟩ := X3.leave (v := some (.int (0 : Int32))) (fun h => by rw [Bd.returns] at h; cases h)
    refine ⟨_, _, ?_, hrun, hended, _, _, rfl, ?_, ⟨_, rfl⟩, hW, hsame.mono (by decide) (by decide)⟩
    · show Steps p.tables e below (T3.setTop (mkF m 39 #[.val (.ref a), .val (.ref a), .val (.int (1 : Int32)), .val (.int (1 : Int32)), .val (.int x0)] [(.int (0 : Int32))])) _
      exact retN X3 hx (t := .boolean) Bd.returns (by simp) (hb hby d1_39) hrr
    · show QrmF1 Z a at_ kc x0 r h0 n0 _ T3.heap _
      rw [e3]
      exact ⟨by subst hr; simp [hs5], N0, rfl⟩
  · skip
    refine own_go (A := T3.setTop (mkF m 30 #[.val (.ref a), .val (.ref a), .val (.int (1 : Int32)), .val (.int (0 : Int32)), .val (.int x0)] [])) (fun _ kz => ?_) ?_
    · show Steps p.tables e below (T3.setTop (mkF m 27 #[.val (.ref a), .val (.ref a), .val (.int (1 : Int32)), .val (.int (0 : Int32)), .val (.int x0)] [(.int (own_tv (x0 &&& (255 : Int32))))])) _
      refine XS.ifNo X3.here hx rfl (hb hby d1_27) rfl ((if0 _ _).trans (feq hs5).1) ?_
      exact kz
    refine own_go (A := T3.setTop (mkF m 31 #[.val (.ref a), .val (.ref a), .val (.int (1 : Int32)), .val (.int (0 : Int32)), .val (.int x0)] [(.int (1 : Int32))])) (fun _ kz => ?_) ?_
    · show Steps p.tables e below (T3.setTop (mkF m 30 #[.val (.ref a), .val (.ref a), .val (.int (1 : Int32)), .val (.int (0 : Int32)), .val (.int x0)] [])) _
      refine XS.iconst X3.here hx rfl (hb hby d1_30) ?_
      exact kz
    obtain ⟨fs, hrr, hrun, hended, hW, hsame⟩ := X3.leave (v := some (.int (1 : Int32))) (fun h => by rw [Bd.returns] at h; cases h)
    refine ⟨_, _, ?_, hrun, hended, _, _, rfl, ?_, ⟨_, rfl⟩, hW, hsame.mono (by decide) (by decide)⟩
    · show Steps p.tables e below (T3.setTop (mkF m 31 #[.val (.ref a), .val (.ref a), .val (.int (1 : Int32)), .val (.int (0 : Int32)), .val (.int x0)] [(.int (1 : Int32))])) _
      exact retN X3 hx (t := .boolean) Bd.returns (by simp) (hb hby d1_31) hrr
    · show QrmF1 Z a at_ kc x0 r h0 n0 _ T3.heap _
      rw [e3]
      exact ⟨by subst hr; simp [hs5], N0, rfl⟩

theorem own_efF2 (m : MethodId) (x0 : Addr) : entryFrame m #[(.ref x0)] 5 = mkF m 0 #[.val (.ref x0), .unset, .unset, .unset, .unset] [] := by first | (simp [entryFrame, mkF, argsToLocals, Value.category]; done) | rfl
def QrmF2 (Z : State) (a at_ : Addr) (kc : ClassId) (x0 x1 r : Int32) (h0 : Heap) (n0 : Nat) (v : Option Value) (h : Heap) (L : List Loc) : Prop := v = some (.int r) ∧ Fr n0 L ∧ h = h0
set_option maxRecDepth 65536 in
set_option maxHeartbeats 40000000 in
theorem rmF2 (l : Launch) (Z : State) (a0 : Array Value) (hw : ∀ d ∈ tables_1, d.before a0 Z = true) (ws : List Jvm.Cond) (a at_ : Addr) (kc : ClassId) (x0 x1 r : Int32) (h0 : Heap) (n0 : Nat) (Z0 : n0 ≤ h0.size) (Av : Arv Z h0 a kc .byte (2 : Int32) [(.int x0), (.int x1)] (.int (0 : Int32))) (S_t : Sta Z h0 "com/example/sharp_nose/sharpnose/BinaryData" "BINARY_DATA_BYTES" "[Z" (.ref at_)) (Tb : own_Tab Z h0 at_) (hr : (if (own_tv (x0 &&& (255 : Int32))) = (0 : Int32) then (if (own_tv (x1 &&& (255 : Int32))) = (0 : Int32) then (0 : Int32) else (1 : Int32)) else (1 : Int32)) = r) :
    MetFree l (⟨"com/example/sharp_nose/sharpnose/BinaryData", "foundIn", "([B)Z"⟩ : MethodName) (head1 (Jvm.Cond.code (⟨"com/example/sharp_nose/sharpnose/BinaryData", "foundIn", "([B)Z"⟩ : MethodName) prog_1_method_2_code 5 (some .boolean) :: ws) ({ frames := 0, cells := 0, slots := 0, locals := 0 } : Room)) (fun ar_ U_ => ar_ = #[(.ref a)] ∧ Z.Warmed39 U_.vm ∧ U_.heap = h0) (fun _ _ _ _ _ => True) (fun _ U_ ou_ V_ => ∃ v_ L_, ou_ = .returned v_ ∧ QrmF2 Z a at_ kc x0 x1 r h0 n0 v_ V_.heap L_ ∧ FrameEnd U_ ou_ V_ L_ ({ frames := 0, cells := 0, slots := 0, locals := 0 } : Room).cells ({ frames := 0, cells := 0, slots := 0, locals := 0 } : Room).slots) := by
  refine MetFree.of_bodySF (plainFor_of_name own_pn1) hisR ?_
  intro p e s m args below meth c s₁ Bd hml0 hP hK
  obtain ⟨rfl, hZ, hh⟩ := hP
  have hx := Bd.exec
  have hby := Bd.bytes
  have hml : c.maxLocals = 5 := hml0
  have hown : s.vm.findClass "com/example/sharp_nose/sharpnose/BinaryData" = some m.cls := findClass_of_methodNamed Bd.named
  have hnm := (name_of_methodNamed Bd.named Bd.method).1
  have X0 : Stand p l e ({ frames := 0, cells := 0, slots := 0, locals := 0 } : Room) s m #[(.ref a)] below meth c s₁ [] 0 0 := Stand.of_body Bd
  have e0 : s₁.heap = h0 := by rw [← hh, Bd.state]; rfl
  have N0 := Fr.nil n0
  refine own_go (A := s₁.setTop (mkF m 0 #[.val (.ref a), .unset, .unset, .unset, .unset] [])) (fun t kz => castTop (own_efF2 m a) kz) ?_
  refine own_go (A := s₁.setTop (mkF m 3 #[.val (.ref a), .val (.ref a), .unset, .unset, .unset] [(.ref a)])) (fun _ kz => ?_) ?_
  · show Steps p.tables e below (s₁.setTop (mkF m 0 #[.val (.ref a), .unset, .unset, .unset, .unset] [])) _
    refine XS.aloadN X0.here hx rfl (hb hby d1_0) rfl rfl ?_
    show Steps p.tables e below (s₁.setTop (mkF m 1 #[.val (.ref a), .unset, .unset, .unset, .unset] [(.ref a)])) _
    refine XS.astoreN X0.here hx rfl (hb hby d1_1) rfl rfl (l' := #[.val (.ref a), .val (.ref a), .unset, .unset, .unset]) rfl ?_
    show Steps p.tables e below (s₁.setTop (mkF m 2 #[.val (.ref a), .val (.ref a), .unset, .unset, .unset] [])) _
    refine XS.aloadN X0.here hx rfl (hb hby d1_2) rfl rfl ?_
    exact kz
  obtain ⟨cl1, Ar1, -, S1, M1, -, -⟩ := id Av
  refine own_go (A := s₁.setTop (mkF m 4 #[.val (.ref a), .val (.ref a), .unset, .unset, .unset] [(.int (2 : Int32))])) (fun _ kz => ?_) ?_
  · refine X0.arraylength hx (by rw [e0]; exact Ar1.1) (State.isArrayOf_alike hZ.alike Ar1.2.1) (g := (mkF m 3 #[.val (.ref a), .val (.ref a), .unset, .unset, .unset] [(.ref a)])) rfl rfl (hb hby d1_3) _ ?_
    rw [len_of S1 M1]
    exact kz
  refine own_go (A := s₁.setTop (mkF m 14 #[.val (.ref a), .val (.ref a), .val (.int (2 : Int32)), .val (.int (0 : Int32)), .unset] [(.int (0 : Int32)), (.ref a)])) (fun _ kz => ?_) ?_
  · show Steps p.tables e below (s₁.setTop (mkF m 4 #[.val (.ref a), .val (.ref a), .unset, .unset, .unset] [(.int (2 : Int32))])) _
    refine XS.istoreN X0.here hx rfl (hb hby d1_4) rfl (l' := #[.val (.ref a), .val (.ref a), .val (.int (2 : Int32)), .unset, .unset]) rfl ?_
    show Steps p.tables e below (s₁.setTop (mkF m 5 #[.val (.ref a), .val (.ref a), .val (.int (2 : Int32)), .unset, .unset] [])) _
    refine XS.iconst X0.here hx rfl (hb hby d1_5) ?_
    show Steps p.tables e below (s₁.setTop (mkF m 6 #[.val (.ref a), .val (.ref a), .val (.int (2 : Int32)), .unset, .unset] [(.int (0 : Int32))])) _
    refine XS.istoreN X0.here hx rfl (hb hby d1_6) rfl (l' := #[.val (.ref a), .val (.ref a), .val (.int (2 : Int32)), .val (.int (0 : Int32)), .unset]) rfl ?_
    show Steps p.tables e below (s₁.setTop (mkF m 7 #[.val (.ref a), .val (.ref a), .val (.int (2 : Int32)), .val (.int (0 : Int32)), .unset] [])) _
    refine XS.iloadN X0.here hx rfl (hb hby d1_7) rfl ?_
    show Steps p.tables e below (s₁.setTop (mkF m 8 #[.val (.ref a), .val (.ref a), .val (.int (2 : Int32)), .val (.int (0 : Int32)), .unset] [(.int (0 : Int32))])) _
    refine XS.iloadN X0.here hx rfl (hb hby d1_8) rfl ?_
    show Steps p.tables e below (s₁.setTop (mkF m 9 #[.val (.ref a), .val (.ref a), .val (.int (2 : Int32)), .val (.int (0 : Int32)), .unset] [(.int (2 : Int32)), (.int (0 : Int32))])) _
    refine XS.icmpNo X0.here hx rfl (hb hby d1_9) rfl (tlt (by decide : ((0 : Int32) < (2 : Int32)))).2.1 ?_
    show Steps p.tables e below (s₁.setTop (mkF m 12 #[.val (.ref a), .val (.ref a), .val (.int (2 : Int32)), .val (.int (0 : Int32)), .unset] [])) _
    refine XS.aloadN X0.here hx rfl (hb hby d1_12) rfl rfl ?_
    show Steps p.tables e below (s₁.setTop (mkF m 13 #[.val (.ref a), .val (.ref a), .val (.int (2 : Int32)), .val (.int (0 : Int32)), .unset] [(.ref a)])) _
    refine XS.iloadN X0.here hx rfl (hb hby d1_13) rfl ?_
    exact kz
  obtain ⟨cl2, Ar2, -, S2, M2, H2, -⟩ := id Av
  have hin2 : ¬ ((0 : Int32) < 0 ∨ cl2.slots.size ≤ ((0 : Int32)).toNatClampNeg) := inb_of S2 ⟨by decide, by decide⟩
  have hat2 : cl2.slots[((0 : Int32)).toNatClampNeg]? = some (.int x0) := H2.at hin2 rfl
  refine own_go (A := s₁.setTop (mkF m 15 #[.val (.ref a), .val (.ref a), .val (.int (2 : Int32)), .val (.int (0 : Int32)), .unset] [(.int x0)])) (fun _ kz => ?_) ?_
  · refine X0.baloadBytes hx (j := (0 : Int32)) (v := (.int x0)) (by rw [e0]; exact Ar2.1) (State.isArrayOf_alike hZ.alike Ar2.2.1) Ar2.2.2 hin2 hat2 (g := (mkF m 14 #[.val (.ref a), .val (.ref a), .val (.int (2 : Int32)), .val (.int (0 : Int32)), .unset] [(.int (0 : Int32)), (.ref a)])) rfl rfl (hb hby d1_14) _ ?_
    exact kz
  refine own_go (A := s₁.setTop (mkF m 17 #[.val (.ref a), .val (.ref a), .val (.int (2 : Int32)), .val (.int (0 : Int32)), .val (.int x0)] [])) (fun _ kz => ?_) ?_
  · show Steps p.tables e below (s₁.setTop (mkF m 15 #[.val (.ref a), .val (.ref a), .val (.int (2 : Int32)), .val (.int (0 : Int32)), .unset] [(.int x0)])) _
    refine XS.istore X0.here hx rfl (hb hby d1_15) rfl (l' := #[.val (.ref a), .val (.ref a), .val (.int (2 : Int32)), .val (.int (0 : Int32)), .val (.int x0)]) rfl ?_
    exact kz
  obtain ⟨T3, X3, e3, st3⟩ := getS2 X0 hx hZ hown (host := "") (Or.inl (hw _ (List.mem_of_getElem? (i := 10) rfl))) Via.refl e0 S_t (g := (mkF m 17 #[.val (.ref a), .val (.ref a), .val (.int (2 : Int32)), .val (.int (0 : Int32)), .val (.int x0)] [])) rfl (hb hby d1_17)
  refine own_go (A := T3.setTop (mkF m 20 #[.val (.ref a), .val (.ref a), .val (.int (2 : Int32)), .val (.int (0 : Int32)), .val (.int x0)] [(.ref at_)])) (fun _ kz => st3 _ kz) ?_
  refine own_go (A := T3.setTop (mkF m 26 #[.val (.ref a), .val (.ref a), .val (.int (2 : Int32)), .val (.int (0 : Int32)), .val (.int x0)] [(.int (x0 &&& (255 : Int32))), (.ref at_)])) (fun _ kz => ?_) ?_
  · show Steps p.tables e below (T3.setTop (mkF m 20 #[.val (.ref a), .val (.ref a), .val (.int (2 : Int32)), .val (.int (0 : Int32)), .val (.int x0)] [(.ref at_)])) _
    refine XS.iload X3.here hx rfl (hb hby d1_20) rfl ?_
    show Steps p.tables e below (T3.setTop (mkF m 22 #[.val (.ref a), .val (.ref a), .val (.int (2 : Int32)), .val (.int (0 : Int32)), .val (.int x0)] [(.int x0), (.ref at_)])) _
    refine XS.sipush X3.here hx rfl (hb hby d1_22) ?_
    show Steps p.tables e below (T3.setTop (mkF m 25 #[.val (.ref a), .val (.ref a), .val (.int (2 : Int32)), .val (.int (0 : Int32)), .val (.int x0)] [(.int (255 : Int32)), (.int x0), (.ref at_)])) _
    refine XS.iand X3.here hx rfl (hb hby d1_25) rfl ?_
    exact kz
  obtain ⟨cl4, Ar4, S4, Ht4⟩ := id Tb
  have hin4 : ¬ ((x0 &&& (255 : Int32)) < 0 ∨ cl4.slots.size ≤ ((x0 &&& (255 : Int32))).toNatClampNeg) := inb_of S4 ⟨own_a0 _, own_a1 _⟩
  refine own_go (A := T3.setTop (mkF m 27 #[.val (.ref a), .val (.ref a), .val (.int (2 : Int32)), .val (.int (0 : Int32)), .val (.int x0)] [(.int (own_tv (x0 &&& (255 : Int32))))])) (fun _ kz => ?_) ?_
  · refine X3.baloadBooleans hx (j := (x0 &&& (255 : Int32))) (v := (.int (own_tv (x0 &&& (255 : Int32))))) (e3 ▸ Ar4.1) (State.isArrayOf_alike hZ.alike Ar4.2.1) Ar4.2.2 hin4 (Ht4 _ (own_a0 _) (own_a1 _)) (g := (mkF m 26 #[.val (.ref a), .val (.ref a), .val (.int (2 : Int32)), .val (.int (0 : Int32)), .val (.int x0)] [(.int (x0 &&& (255 : Int32))), (.ref at_)])) rfl rfl (hb hby d1_26) _ ?_
    exact kz
  by_cases hs5 : (own_tv (x0 &&& (255 : Int32))) = (0 : Int32)
  · skip
    refine own_go (A := T3.setTop (mkF m 32 #[.val (.ref a), .val (.ref a), .val (.int (2 : Int32)), .val (.int (0 : Int32)), .val (.int x0)] [])) (fun _ kz => ?_) ?_
    · show Steps p.tables e below (T3.setTop (mkF m 27 #[.val (.ref a), .val (.ref a), .val (.int (2 : Int32)), .val (.int (0 : Int32)), .val (.int x0)] [(.int (own_tv (x0 &&& (255 : Int32))))])) _
      refine XS.ifYes X3.here hx rfl (pc0 := 27) (pc' := 32) rfl (hb hby d1_27) rfl ((if0 _ _).trans (teq hs5).1) (by decide) (by decide) ?_
      exact kz
    refine own_go (A := T3.setTop (mkF m 14 #[.val (.ref a), .val (.ref a), .val (.int (2 : Int32)), .val (.int (1 : Int32)), .val (.int x0)] [(.int (1 : Int32)), (.ref a)])) (fun _ kz => ?_) ?_
    · show Steps p.tables e below (T3.setTop (mkF m 32 #[.val (.ref a), .val (.ref a), .val (.int (2 : Int32)), .val (.int (0 : Int32)), .val (.int x0)] [])) _
      refine XS.iinc X3.here hx rfl (hb hby d1_32) rfl (l' := #[.val (.ref a), .val (.ref a), .val (.int (2 : Int32)), .val (.int (1 : Int32)), .val (.int x0)]) rfl ?_
      show Steps p.tables e below (T3.setTop (mkF m 35 #[.val (.ref a), .val (.ref a), .val (.int (2 : Int32)), .val (.int (1 : Int32)), .val (.int x0)] [])) _
      refine XS.goto X3.here hx rfl (pc0 := 35) (pc' := 7) rfl (hb hby d1_35) (by decide) (by decide) ?_
      show Steps p.tables e below (T3.setTop (mkF m 7 #[.val (.ref a), .val (.ref a), .val (.int (2 : Int32)), .val (.int (1 : Int32)), .val (.int x0)] [])) _
      refine XS.iloadN X3.here hx rfl (hb hby d1_7) rfl ?_
      show Steps p.tables e below (T3.setTop (mkF m 8 #[.val (.ref a), .val (.ref a), .val (.int (2 : Int32)), .val (.int (1 : Int32)), .val (.int x0)] [(.int (1 : Int32))])) _
      refine XS.iloadN X3.here hx rfl (hb hby d1_8) rfl ?_
      show Steps p.tables e below (T3.setTop (mkF m 9 #[.val (.ref a), .val (.ref a), .val (.int (2 : Int32)), .val (.int (1 : Int32)), .val (.int x0)] [(.int (2 : Int32)), (.int (1 : Int32))])) _
      refine XS.icmpNo X3.here hx rfl (hb hby d1_9) rfl (tlt (by decide : ((1 : Int32) < (2 : Int32)))).2.1 ?_
      show Steps p.tables e below (T3.setTop (mkF m 12 #[.val (.ref a), .val (.ref a), .val (.int (2 : Int32)), .val (.int (1 : Int32)), .val (.int x0)] [])) _
      refine XS.aloadN X3.here hx rfl (hb hby d1_12) rfl rfl ?_
      show Steps p.tables e below (T3.setTop (mkF m 13 #[.val (.ref a), .val (.ref a), .val (.int (2 : Int32)), .val (.int (1 : Int32)), .val (.int x0)] [(.ref a)])) _
      refine XS.iloadN X3.here hx rfl (hb hby d1_13) rfl ?_
      exact kz
    obtain ⟨cl6, Ar6, -, S6, M6, H6, -⟩ := id Av
    have hin6 : ¬ ((1 : Int32) < 0 ∨ cl6.slots.size ≤ ((1 : Int32)).toNatClampNeg) := inb_of S6 ⟨by decide, by decide⟩
    have hat6 : cl6.slots[((1 : Int32)).toNatClampNeg]? = some (.int x1) := H6.at hin6 rfl
    refine own_go (A := T3.setTop (mkF m 15 #[.val (.ref a), .val (.ref a), .val (.int (2 : Int32)), .val (.int (1 : Int32)), .val (.int x0)] [(.int x1)])) (fun _ kz => ?_) ?_
    · refine X3.baloadBytes hx (j := (1 : Int32)) (v := (.int x1)) (by rw [e3]; exact Ar6.1) (State.isArrayOf_alike hZ.alike Ar6.2.1) Ar6.2.2 hin6 hat6 (g := (mkF m 14 #[.val (.ref a), .val (.ref a), .val (.int (2 : Int32)), .val (.int (1 : Int32)), .val (.int x0)] [(.int (1 : Int32)), (.ref a)])) rfl rfl (hb hby d1_14) _ ?_
      exact kz
    refine own_go (A := T3.setTop (mkF m 17 #[.val (.ref a), .val (.ref a), .val (.int (2 : Int32)), .val (.int (1 : Int32)), .val (.int x1)] [])) (fun _ kz => ?_) ?_
    · show Steps p.tables e below (T3.setTop (mkF m 15 #[.val (.ref a), .val (.ref a), .val (.int (2 : Int32)), .val (.int (1 : Int32)), .val (.int x0)] [(.int x1)])) _
      refine XS.istore X3.here hx rfl (hb hby d1_15) rfl (l' := #[.val (.ref a), .val (.ref a), .val (.int (2 : Int32)), .val (.int (1 : Int32)), .val (.int x1)]) rfl ?_
      exact kz
    obtain ⟨T7, X7, e7, st7⟩ := getS2 X3 hx hZ hown (host := "") (Or.inl (hw _ (List.mem_of_getElem? (i := 10) rfl))) Via.refl e3 S_t (g := (mkF m 17 #[.val (.ref a), .val (.ref a), .val (.int (2 : Int32)), .val (.int (1 : Int32)), .val (.int x1)] [])) rfl (hb hby d1_17)
    refine own_go (A := T7.setTop (mkF m 20 #[.val (.ref a), .val (.ref a), .val (.int (2 : Int32)), .val (.int (1 : Int32)), .val (.int x1)] [(.ref at_)])) (fun _ kz => st7 _ kz) ?_
    refine own_go (A := T7.setTop (mkF m 26 #[.val (.ref a), .val (.ref a), .val (.int (2 : Int32)), .val (.int (1 : Int32)), .val (.int x1)] [(.int (x1 &&& (255 : Int32))), (.ref at_)])) (fun _ kz => ?_) ?_
    · show Steps p.tables e below (T7.setTop (mkF m 20 #[.val (.ref a), .val (.ref a), .val (.int (2 : Int32)), .val (.int (1 : Int32)), .val (.int x1)] [(.ref at_)])) _
      refine XS.iload X7.here hx rfl (hb hby d1_20) rfl ?_
      show Steps p.tables e below (T7.setTop (mkF m 22 #[.val (.ref a), .val (.ref a), .val (.int (2 : Int32)), .val (.int (1 : Int32)), .val (.int x1)] [(.int x1), (.ref at_)])) _
      refine XS.sipush X7.here hx rfl (hb hby d1_22) ?_
      show Steps p.tables e below (T7.setTop (mkF m 25 #[.val (.ref a), .val (.ref a), .val (.int (2 : Int32)), .val (.int (1 : Int32)), .val (.int x1)] [(.int (255 : Int32)), (.int x1), (.ref at_)])) _
      refine XS.iand X7.here hx rfl (hb hby d1_25) rfl ?_
      exact kz
    obtain ⟨cl8, Ar8, S8, Ht8⟩ := id Tb
    have hin8 : ¬ ((x1 &&& (255 : Int32)) < 0 ∨ cl8.slots.size ≤ ((x1 &&& (255 : Int32))).toNatClampNeg) := inb_of S8 ⟨own_a0 _, own_a1 _⟩
    refine own_go (A := T7.setTop (mkF m 27 #[.val (.ref a), .val (.ref a), .val (.int (2 : Int32)), .val (.int (1 : Int32)), .val (.int x1)] [(.int (own_tv (x1 &&& (255 : Int32))))])) (fun _ kz => ?_) ?_
    · refine X7.baloadBooleans hx (j := (x1 &&& (255 : Int32))) (v := (.int (own_tv (x1 &&& (255 : Int32))))) (e7 ▸ Ar8.1) (State.isArrayOf_alike hZ.alike Ar8.2.1) Ar8.2.2 hin8 (Ht8 _ (own_a0 _) (own_a1 _)) (g := (mkF m 26 #[.val (.ref a), .val (.ref a), .val (.int (2 : Int32)), .val (.int (1 : Int32)), .val (.int x1)] [(.int (x1 &&& (255 : Int32))), (.ref at_)])) rfl rfl (hb hby d1_26) _ ?_
      exact kz
    by_cases hs9 : (own_tv (x1 &&& (255 : Int32))) = (0 : Int32)
    · skip
      refine own_go (A := T7.setTop (mkF m 32 #[.val (.ref a), .val (.ref a), .val (.int (2 : Int32)), .val (.int (1 : Int32)), .val (.int x1)] [])) (fun _ kz => ?_) ?_
      · show Steps p.tables e below (T7.setTop (mkF m 27 #[.val (.ref a), .val (.ref a), .val (.int (2 : Int32)), .val (.int (1 : Int32)), .val (.int x1)] [(.int (own_tv (x1 &&& (255 : Int32))))])) _
        refine XS.ifYes X7.here hx rfl (pc0 := 27) (pc' := 32) rfl (hb hby d1_27) rfl ((if0 _ _).trans (teq hs9).1) (by decide) (by decide) ?_
        exact kz
      refine own_go (A := T7.setTop (mkF m 39 #[.val (.ref a), .val (.ref a), .val (.int (2 : Int32)), .val (.int (2 : Int32)), .val (.int x1)] [(.int (0 : Int32))])) (fun _ kz => ?_) ?_
      · show Steps p.tables e below (T7.setTop (mkF m 32 #[.val (.ref a), .val (.ref a), .val (.int (2 : Int32)), .val (.int (1 : Int32)), .val (.int x1)] [])) _
        refine XS.iinc X7.here hx rfl (hb hby d1_32) rfl (l' := #[.val (.ref a), .val (.ref a), .val (.int (2 : Int32)), .val (.int (2 : Int32)), .val (.int x1)]) rfl ?_
        show Steps p.tables e below (T7.setTop (mkF m 35 #[.val (.ref a), .val (.ref a), .val (.int (2 : Int32)), .val (.int (2 : Int32)), .val (.int x1)] [])) _
        refine XS.goto X7.here hx rfl (pc0 := 35) (pc' := 7) rfl (hb hby d1_35) (by decide) (by decide) ?_
        show Steps p.tables e below (T7.setTop (mkF m 7 #[.val (.ref a), .val (.ref a), .val (.int (2 : Int32)), .val (.int (2 : Int32)), .val (.int x1)] [])) _
        refine XS.iloadN X7.here hx rfl (hb hby d1_7) rfl ?_
        show Steps p.tables e below (T7.setTop (mkF m 8 #[.val (.ref a), .val (.ref a), .val (.int (2 : Int32)), .val (.int (2 : Int32)), .val (.int x1)] [(.int (2 : Int32))])) _
        refine XS.iloadN X7.here hx rfl (hb hby d1_8) rfl ?_
        show Steps p.tables e below (T7.setTop (mkF m 9 #[.val (.ref a), .val (.ref a), .val (.int (2 : Int32)), .val (.int (2 : Int32)), .val (.int x1)] [(.int (2 : Int32)), (.int (2 : Int32))])) _
        refine XS.icmpYes X7.here hx rfl (pc0 := 9) (pc' := 38) rfl (hb hby d1_9) rfl (flt (by decide : ¬ ((2 : Int32) < (2 : Int32)))).2.1 (by decide) (by decide) ?_
        show Steps p.tables e below (T7.setTop (mkF m 38 #[.val (.ref a), .val (.ref a), .val (.int (2 : Int32)), .val (.int (2 : Int32)), .val (.int x1)] [])) _
        refine XS.iconst X7.here hx rfl (hb hby d1_38) ?_
        exact kz
      obtain ⟨fs, hrr, hrun, hended, hW, hsame⟩ := X7.leave (v := some (.int (0 : Int32))) (fun h => by rw [Bd.returns] at h; cases h)
      refine ⟨_, _, ?_, hrun, hended, _, _, rfl, ?_, ⟨_, rfl⟩, hW, hsame.mono (by decide) (by decide)⟩
      · show Steps p.tables e below (T7.setTop (mkF m 39 #[.val (.ref a), .val (.ref a), .val (.int (2 : Int32)), .val (.int (2 : Int32)), .val (.int x1)] [(.int (0 : Int32))])) _
        exact retN X7 hx (t := .boolean) Bd.returns (by simp) (hb hby d1_39) hrr
      · show QrmF2 Z a at_ kc x0 x1 r h0 n0 _ T7.heap _
        rw [e7]
        exact ⟨by subst hr; simp [hs5, hs9], N0, rfl⟩
    · skip
      refine own_go (A := T7.setTop (mkF m 30 #[.val (.ref a), .val (.ref a), .val (.int (2 : Int32)), .val (.int (1 : Int32)), .val (.int x1)] [])) (fun _ kz => ?_) ?_
      · show Steps p.tables e below (T7.setTop (mkF m 27 #[.val (.ref a), .val (.ref a), .val (.int (2 : Int32)), .val (.int (1 : Int32)), .val (.int x1)] [(.int (own_tv (x1 &&& (255 : Int32))))])) _
        refine XS.ifNo X7.here hx rfl (hb hby d1_27) rfl ((if0 _ _).trans (feq hs9).1) ?_
        exact kz
      refine own_go (A := T7.setTop (mkF m 31 #[.val (.ref a), .val (.ref a), .val (.int (2 : Int32)), .val (.int (1 : Int32)), .val (.int x1)] [(.int (1 : Int32))])) (fun _ kz => ?_) ?_
      · show Steps p.tables e below (T7.setTop (mkF m 30 #[.val (.ref a), .val (.ref a), .val (.int (2 : Int32)), .val (.int (1 : Int32)), .val (.int x1)] [])) _
        refine XS.iconst X7.here hx rfl (hb hby d1_30) ?_
        exact kz
      obtain ⟨fs, hrr, hrun, hended, hW, hsame⟩ := X7.leave (v := some (.int (1 : Int32))) (fun h => by rw [Bd.returns] at h; cases h)
      refine ⟨_, _, ?_, hrun, hended, _, _, rfl, ?_, ⟨_, rfl⟩, hW, hsame.mono (by decide) (by decide)⟩
      · show Steps p.tables e below (T7.setTop (mkF m 31 #[.val (.ref a), .val (.ref a), .val (.int (2 : Int32)), .val (.int (1 : Int32)), .val (.int x1)] [(.int (1 : Int32))])) _
        exact retN X7 hx (t := .boolean) Bd.returns (by simp) (hb hby d1_31) hrr
      · show QrmF2 Z a at_ kc x0 x1 r h0 n0 _ T7.heap _
        rw [e7]
        exact ⟨by subst hr; simp [hs5, hs9], N0, rfl⟩
  · skip
    refine own_go (A := T3.setTop (mkF m 30 #[.val (.ref a), .val (.ref a), .val (.int (2 : Int32)), .val (.int (0 : Int32)), .val (.int x0)] [])) (fun _ kz => ?_) ?_
    · show Steps p.tables e below (T3.setTop (mkF m 27 #[.val (.ref a), .val (.ref a), .val (.int (2 : Int32)), .val (.int (0 : Int32)), .val (.int x0)] [(.int (own_tv (x0 &&& (255 : Int32))))])) _
      refine XS.ifNo X3.here hx rfl (hb hby d1_27) rfl ((if0 _ _).trans (feq hs5).1) ?_
      exact kz
    refine own_go (A := T3.setTop (mkF m 31 #[.val (.ref a), .val (.ref a), .val (.int (2 : Int32)), .val (.int (0 : Int32)), .val (.int x0)] [(.int (1 : Int32))])) (fun _ kz => ?_) ?_
    · show Steps p.tables e below (T3.setTop (mkF m 30 #[.val (.ref a), .val (.ref a), .val (.int (2 : Int32)), .val (.int (0 : Int32)), .val (.int x0)] [])) _
      refine XS.iconst X3.here hx rfl (hb hby d1_30) ?_
      exact kz
    obtain ⟨fs, hrr, hrun, hended, hW, hsame⟩ := X3.leave (v := some (.int (1 : Int32))) (fun h => by rw [Bd.returns] at h; cases h)
    refine ⟨_, _, ?_, hrun, hended, _, _, rfl, ?_, ⟨_, rfl⟩, hW, hsame.mono (by decide) (by decide)⟩
    · show Steps p.tables e below (T3.setTop (mkF m 31 #[.val (.ref a), .val (.ref a), .val (.int (2 : Int32)), .val (.int (0 : Int32)), .val (.int x0)] [(.int (1 : Int32))])) _
      exact retN X3 hx (t := .boolean) Bd.returns (by simp) (hb hby d1_31) hrr
    · show QrmF2 Z a at_ kc x0 x1 r h0 n0 _ T3.heap _
      rw [e3]
      exact ⟨by subst hr; simp [hs5], N0, rfl⟩
theorem own_efF3 (m : MethodId) (x0 : Addr) : entryFrame m #[(.ref x0)] 5 = mkF m 0 #[.val (.ref x0), .unset, .unset, .unset, .unset] [] := by first | (simp [entryFrame, mkF, argsToLocals, Value.category]; done) | rfl
def QrmF3 (Z : State) (a at_ : Addr) (kc : ClassId) (x0 x1 x2 r : Int32) (h0 : Heap) (n0 : Nat) (v : Option Value) (h : Heap) (L : List Loc) : Prop := v = some (.int r) ∧ Fr n0 L ∧ h = h0
set_option maxRecDepth 65536 in
set_option maxHeartbeats 40000000 in
theorem rmF3 (l : Launch) (Z : State) (a0 : Array Value) (hw : ∀ d ∈ tables_1, d.before a0 Z = true) (ws : List Jvm.Cond) (a at_ : Addr) (kc : ClassId) (x0 x1 x2 r : Int32) (h0 : Heap) (n0 : Nat) (Z0 : n0 ≤ h0.size) (Av : Arv Z h0 a kc .byte (3 : Int32) [(.int x0), (.int x1), (.int x2)] (.int (0 : Int32))) (S_t : Sta Z h0 "com/example/sharp_nose/sharpnose/BinaryData" "BINARY_DATA_BYTES" "[Z" (.ref at_)) (Tb : own_Tab Z h0 at_) (hr : (if (own_tv (x0 &&& (255 : Int32))) = (0 : Int32) then (if (own_tv (x1 &&& (255 : Int32))) = (0 : Int32) then (if (own_tv (x2 &&& (255 : Int32))) = (0 : Int32) then (0 : Int32) else (1 : Int32)) else (1 : Int32)) else (1 : Int32)) = r) :
    MetFree l (⟨"com/example/sharp_nose/sharpnose/BinaryData", "foundIn", "([B)Z"⟩ : MethodName) (head1 (Jvm.Cond.code (⟨"com/example/sharp_nose/sharpnose/BinaryData", "foundIn", "([B)Z"⟩ : MethodName) prog_1_method_2_code 5 (some .boolean) :: ws) ({ frames := 0, cells := 0, slots := 0, locals := 0 } : Room)) (fun ar_ U_ => ar_ = #[(.ref a)] ∧ Z.Warmed39 U_.vm ∧ U_.heap = h0) (fun _ _ _ _ _ => True) (fun _ U_ ou_ V_ => ∃ v_ L_, ou_ = .returned v_ ∧ QrmF3 Z a at_ kc x0 x1 x2 r h0 n0 v_ V_.heap L_ ∧ FrameEnd U_ ou_ V_ L_ ({ frames := 0, cells := 0, slots := 0, locals := 0 } : Room).cells ({ frames := 0, cells := 0, slots := 0, locals := 0 } : Room).slots) := by
  refine MetFree.of_bodySF (plainFor_of_name own_pn1) hisR ?_
  intro p e s m args below meth c s₁ Bd hml0 hP hK
  obtain ⟨rfl, hZ, hh⟩ := hP
  have hx := Bd.exec
  have hby := Bd.bytes
  have hml : c.maxLocals = 5 := hml0
  have hown : s.vm.findClass "com/example/sharp_nose/sharpnose/BinaryData" = some m.cls := findClass_of_methodNamed Bd.named
  have hnm := (name_of_methodNamed Bd.named Bd.method).1
  have X0 : Stand p l e ({ frames := 0, cells := 0, slots := 0, locals := 0 } : Room) s m #[(.ref a)] below meth c s₁ [] 0 0 := Stand.of_body Bd
  have e0 : s₁.heap = h0 := by rw [← hh, Bd.state]; rfl
  have N0 := Fr.nil n0
  refine own_go (A := s₁.setTop (mkF m 0 #[.val (.ref a), .unset, .unset, .unset, .unset] [])) (fun t kz => castTop (own_efF3 m a) kz) ?_
  refine own_go (A := s₁.setTop (mkF m 3 #[.val (.ref a), .val (.ref a), .unset, .unset, .unset] [(.ref a)])) (fun _ kz => ?_) ?_
  · show Steps p.tables e below (s₁.setTop (mkF m 0 #[.val (.ref a), .unset, .unset, .unset, .unset] [])) _
    refine XS.aloadN X0.here hx rfl (hb hby d1_0) rfl rfl ?_
    show Steps p.tables e below (s₁.setTop (mkF m 1 #[.val (.ref a), .unset, .unset, .unset, .unset] [(.ref a)])) _
    refine XS.astoreN X0.here hx rfl (hb hby d1_1) rfl rfl (l' := #[.val (.ref a), .val (.ref a), .unset, .unset, .unset]) rfl ?_
    show Steps p.tables e below (s₁.setTop (mkF m 2 #[.val (.ref a), .val (.ref a), .unset, .unset, .unset] [])) _
    refine XS.aloadN X0.here hx rfl (hb hby d1_2) rfl rfl ?_
    exact kz
  obtain ⟨cl1, Ar1, -, S1, M1, -, -⟩ := id Av
  refine own_go (A := s₁.setTop (mkF m 4 #[.val (.ref a), .val (.ref a), .unset, .unset, .unset] [(.int (3 : Int32))])) (fun _ kz => ?_) ?_
  · refine X0.arraylength hx (by rw [e0]; exact Ar1.1) (State.isArrayOf_alike hZ.alike Ar1.2.1) (g := (mkF m 3 #[.val (.ref a), .val (.ref a), .unset, .unset, .unset] [(.ref a)])) rfl rfl (hb hby d1_3) _ ?_
    rw [len_of S1 M1]
    exact kz
  refine own_go (A := s₁.setTop (mkF m 14 #[.val (.ref a), .val (.ref a), .val (.int (3 : Int32)), .val (.int (0 : Int32)), .unset] [(.int (0 : Int32)), (.ref a)])) (fun _ kz => ?_) ?_
  · show Steps p.tables e below (s₁.setTop (mkF m 4 #[.val (.ref a), .val (.ref a), .unset, .unset, .unset] [(.int (3 : Int32))])) _
    refine XS.istoreN X0.here hx rfl (hb hby d1_4) rfl (l' := #[.val (.ref a), .val (.ref a), .val (.int (3 : Int32)), .unset, .unset]) rfl ?_
    show Steps p.tables e below (s₁.setTop (mkF m 5 #[.val (.ref a), .val (.ref a), .val (.int (3 : Int32)), .unset, .unset] [])) _
    refine XS.iconst X0.here hx rfl (hb hby d1_5) ?_
    show Steps p.tables e below (s₁.setTop (mkF m 6 #[.val (.ref a), .val (.ref a), .val (.int (3 : Int32)), .unset, .unset] [(.int (0 : Int32))])) _
    refine XS.istoreN X0.here hx rfl (hb hby d1_6) rfl (l' := #[.val (.ref a), .val (.ref a), .val (.int (3 : Int32)), .val (.int (0 : Int32)), .unset]) rfl ?_
    show Steps p.tables e below (s₁.setTop (mkF m 7 #[.val (.ref a), .val (.ref a), .val (.int (3 : Int32)), .val (.int (0 : Int32)), .unset] [])) _
    refine XS.iloadN X0.here hx rfl (hb hby d1_7) rfl ?_
    show Steps p.tables e below (s₁.setTop (mkF m 8 #[.val (.ref a), .val (.ref a), .val (.int (3 : Int32)), .val (.int (0 : Int32)), .unset] [(.int (0 : Int32))])) _
    refine XS.iloadN X0.here hx rfl (hb hby d1_8) rfl ?_
    show Steps p.tables e below (s₁.setTop (mkF m 9 #[.val (.ref a), .val (.ref a), .val (.int (3 : Int32)), .val (.int (0 : Int32)), .unset] [(.int (3 : Int32)), (.int (0 : Int32))])) _
    refine XS.icmpNo X0.here hx rfl (hb hby d1_9) rfl (tlt (by decide : ((0 : Int32) < (3 : Int32)))).2.1 ?_
    show Steps p.tables e below (s₁.setTop (mkF m 12 #[.val (.ref a), .val (.ref a), .val (.int (3 : Int32)), .val (.int (0 : Int32)), .unset] [])) _
    refine XS.aloadN X0.here hx rfl (hb hby d1_12) rfl rfl ?_
    show Steps p.tables e below (s₁.setTop (mkF m 13 #[.val (.ref a), .val (.ref a), .val (.int (3 : Int32)), .val (.int (0 : Int32)), .unset] [(.ref a)])) _
    refine XS.iloadN X0.here hx rfl (hb hby d1_13) rfl ?_
    exact kz
  obtain ⟨cl2, Ar2, -, S2, M2, H2, -⟩ := id Av
  have hin2 : ¬ ((0 : Int32) < 0 ∨ cl2.slots.size ≤ ((0 : Int32)).toNatClampNeg) := inb_of S2 ⟨by decide, by decide⟩
  have hat2 : cl2.slots[((0 : Int32)).toNatClampNeg]? = some (.int x0) := H2.at hin2 rfl
  refine own_go (A := s₁.setTop (mkF m 15 #[.val (.ref a), .val (.ref a), .val (.int (3 : Int32)), .val (.int (0 : Int32)), .unset] [(.int x0)])) (fun _ kz => ?_) ?_
  · refine X0.baloadBytes hx (j := (0 : Int32)) (v := (.int x0)) (by rw [e0]; exact Ar2.1) (State.isArrayOf_alike hZ.alike Ar2.2.1) Ar2.2.2 hin2 hat2 (g := (mkF m 14 #[.val (.ref a), .val (.ref a), .val (.int (3 : Int32)), .val (.int (0 : Int32)), .unset] [(.int (0 : Int32)), (.ref a)])) rfl rfl (hb hby d1_14) _ ?_
    exact kz
  refine own_go (A := s₁.setTop (mkF m 17 #[.val (.ref a), .val (.ref a), .val (.int (3 : Int32)), .val (.int (0 : Int32)), .val (.int x0)] [])) (fun _ kz => ?_) ?_
  · show Steps p.tables e below (s₁.setTop (mkF m 15 #[.val (.ref a), .val (.ref a), .val (.int (3 : Int32)), .val (.int (0 : Int32)), .unset] [(.int x0)])) _
    refine XS.istore X0.here hx rfl (hb hby d1_15) rfl (l' := #[.val (.ref a), .val (.ref a), .val (.int (3 : Int32)), .val (.int (0 : Int32)), .val (.int x0)]) rfl ?_
    exact kz
  obtain ⟨T3, X3, e3, st3⟩ := getS2 X0 hx hZ hown (host := "") (Or.inl (hw _ (List.mem_of_getElem? (i := 10) rfl))) Via.refl e0 S_t (g := (mkF m 17 #[.val (.ref a), .val (.ref a), .val (.int (3 : Int32)), .val (.int (0 : Int32)), .val (.int x0)] [])) rfl (hb hby d1_17)
  refine own_go (A := T3.setTop (mkF m 20 #[.val (.ref a), .val (.ref a), .val (.int (3 : Int32)), .val (.int (0 : Int32)), .val (.int x0)] [(.ref at_)])) (fun _ kz => st3 _ kz) ?_
  refine own_go (A := T3.setTop (mkF m 26 #[.val (.ref a), .val (.ref a), .val (.int (3 : Int32)), .val (.int (0 : Int32)), .val (.int x0)] [(.int (x0 &&& (255 : Int32))), (.ref at_)])) (fun _ kz => ?_) ?_
  · show Steps p.tables e below (T3.setTop (mkF m 20 #[.val (.ref a), .val (.ref a), .val (.int (3 : Int32)), .val (.int (0 : Int32)), .val (.int x0)] [(.ref at_)])) _
    refine XS.iload X3.here hx rfl (hb hby d1_20) rfl ?_
    show Steps p.tables e below (T3.setTop (mkF m 22 #[.val (.ref a), .val (.ref a), .val (.int (3 : Int32)), .val (.int (0 : Int32)), .val (.int x0)] [(.int x0), (.ref at_)])) _
    refine XS.sipush X3.here hx rfl (hb hby d1_22) ?_
    show Steps p.tables e below (T3.setTop (mkF m 25 #[.val (.ref a), .val (.ref a), .val (.int (3 : Int32)), .val (.int (0 : Int32)), .val (.int x0)] [(.int (255 : Int32)), (.int x0), (.ref at_)])) _
    refine XS.iand X3.here hx rfl (hb hby d1_25) rfl ?_
    exact kz
  obtain ⟨cl4, Ar4, S4, Ht4⟩ := id Tb
  have hin4 : ¬ ((x0 &&& (255 : Int32)) < 0 ∨ cl4.slots.size ≤ ((x0 &&& (255 : Int32))).toNatClampNeg) := inb_of S4 ⟨own_a0 _, own_a1 _⟩
  refine own_go (A := T3.setTop (mkF m 27 #[.val (.ref a), .val (.ref a), .val (.int (3 : Int32)), .val (.int (0 : Int32)), .val (.int x0)] [(.int (own_tv (x0 &&& (255 : Int32))))])) (fun _ kz => ?_) ?_
  · refine X3.baloadBooleans hx (j := (x0 &&& (255 : Int32))) (v := (.int (own_tv (x0 &&& (255 : Int32))))) (e3 ▸ Ar4.1) (State.isArrayOf_alike hZ.alike Ar4.2.1) Ar4.2.2 hin4 (Ht4 _ (own_a0 _) (own_a1 _)) (g := (mkF m 26 #[.val (.ref a), .val (.ref a), .val (.int (3 : Int32)), .val (.int (0 : Int32)), .val (.int x0)] [(.int (x0 &&& (255 : Int32))), (.ref at_)])) rfl rfl (hb hby d1_26) _ ?_
    exact kz
  by_cases hs5 : (own_tv (x0 &&& (255 : Int32))) = (0 : Int32)
  · skip
    refine own_go (A := T3.setTop (mkF m 32 #[.val (.ref a), .val (.ref a), .val (.int (3 : Int32)), .val (.int (0 : Int32)), .val (.int x0)] [])) (fun _ kz => ?_) ?_
    · show Steps p.tables e below (T3.setTop (mkF m 27 #[.val (.ref a), .val (.ref a), .val (.int (3 : Int32)), .val (.int (0 : Int32)), .val (.int x0)] [(.int (own_tv (x0 &&& (255 : Int32))))])) _
      refine XS.ifYes X3.here hx rfl (pc0 := 27) (pc' := 32) rfl (hb hby d1_27) rfl ((if0 _ _).trans (teq hs5).1) (by decide) (by decide) ?_
      exact kz
    refine own_go (A := T3.setTop (mkF m 14 #[.val (.ref a), .val (.ref a), .val (.int (3 : Int32)), .val (.int (1 : Int32)), .val (.int x0)] [(.int (1 : Int32)), (.ref a)])) (fun _ kz => ?_) ?_
    · show Steps p.tables e below (T3.setTop (mkF m 32 #[.val (.ref a), .val (.ref a), .val (.int (3 : Int32)), .val (.int (0 : Int32)), .val (.int x0)] [])) _
      refine XS.iinc X3.here hx rfl (hb hby d1_32) rfl (l' := #[.val (.ref a), .val (.ref a), .val (.int (3 : Int32)), .val (.int (1 : Int32)), .val (.int x0)]) rfl ?_
      show Steps p.tables e below (T3.setTop (mkF m 35 #[.val (.ref a), .val (.ref a), .val (.int (3 : Int32)), .val (.int (1 : Int32)), .val (.int x0)] [])) _
      refine XS.goto X3.here hx rfl (pc0 := 35) (pc' := 7) rfl (hb hby d1_35) (by decide) (by decide) ?_
      show Steps p.tables e below (T3.setTop (mkF m 7 #[.val (.ref a), .val (.ref a), .val (.int (3 : Int32)), .val (.int (1 : Int32)), .val (.int x0)] [])) _
      refine XS.iloadN X3.here hx rfl (hb hby d1_7) rfl ?_
      show Steps p.tables e below (T3.setTop (mkF m 8 #[.val (.ref a), .val (.ref a), .val (.int (3 : Int32)), .val (.int (1 : Int32)), .val (.int x0)] [(.int (1 : Int32))])) _
      refine XS.iloadN X3.here hx rfl (hb hby d1_8) rfl ?_
      show Steps p.tables e below (T3.setTop (mkF m 9 #[.val (.ref a), .val (.ref a), .val (.int (3 : Int32)), .val (.int (1 : Int32)), .val (.int x0)] [(.int (3 : Int32)), (.int (1 : Int32))])) _
      refine XS.icmpNo X3.here hx rfl (hb hby d1_9) rfl (tlt (by decide : ((1 : Int32) < (3 : Int32)))).2.1 ?_
      show Steps p.tables e below (T3.setTop (mkF m 12 #[.val (.ref a), .val (.ref a), .val (.int (3 : Int32)), .val (.int (1 : Int32)), .val (.int x0)] [])) _
      refine XS.aloadN X3.here hx rfl (hb hby d1_12) rfl rfl ?_
      show Steps p.tables e below (T3.setTop (mkF m 13 #[.val (.ref a), .val (.ref a), .val (.int (3 : Int32)), .val (.int (1 : Int32)), .val (.int x0)] [(.ref a)])) _
      refine XS.iloadN X3.here hx rfl (hb hby d1_13) rfl ?_
      exact kz
    obtain ⟨cl6, Ar6, -, S6, M6, H6, -⟩ := id Av
    have hin6 : ¬ ((1 : Int32) < 0 ∨ cl6.slots.size ≤ ((1 : Int32)).toNatClampNeg) := inb_of S6 ⟨by decide, by decide⟩
    have hat6 : cl6.slots[((1 : Int32)).toNatClampNeg]? = some (.int x1) := H6.at hin6 rfl
    refine own_go (A := T3.setTop (mkF m 15 #[.val (.ref a), .val (.ref a), .val (.int (3 : Int32)), .val (.int (1 : Int32)), .val (.int x0)] [(.int x1)])) (fun _ kz => ?_) ?_
    · refine X3.baloadBytes hx (j := (1 : Int32)) (v := (.int x1)) (by rw [e3]; exact Ar6.1) (State.isArrayOf_alike hZ.alike Ar6.2.1) Ar6.2.2 hin6 hat6 (g := (mkF m 14 #[.val (.ref a), .val (.ref a), .val (.int (3 : Int32)), .val (.int (1 : Int32)), .val (.int x0)] [(.int (1 : Int32)), (.ref a)])) rfl rfl (hb hby d1_14) _ ?_
      exact kz
    refine own_go (A := T3.setTop (mkF m 17 #[.val (.ref a), .val (.ref a), .val (.int (3 : Int32)), .val (.int (1 : Int32)), .val (.int x1)] [])) (fun _ kz => ?_) ?_
    · show Steps p.tables e below (T3.setTop (mkF m 15 #[.val (.ref a), .val (.ref a), .val (.int (3 : Int32)), .val (.int (1 : Int32)), .val (.int x0)] [(.int x1)])) _
      refine XS.istore X3.here hx rfl (hb hby d1_15) rfl (l' := #[.val (.ref a), .val (.ref a), .val (.int (3 : Int32)), .val (.int (1 : Int32)), .val (.int x1)]) rfl ?_
      exact kz
    obtain ⟨T7, X7, e7, st7⟩ := getS2 X3 hx hZ hown (host := "") (Or.inl (hw _ (List.mem_of_getElem? (i := 10) rfl))) Via.refl e3 S_t (g := (mkF m 17 #[.val (.ref a), .val (.ref a), .val (.int (3 : Int32)), .val (.int (1 : Int32)), .val (.int x1)] [])) rfl (hb hby d1_17)
    refine own_go (A := T7.setTop (mkF m 20 #[.val (.ref a), .val (.ref a), .val (.int (3 : Int32)), .val (.int (1 : Int32)), .val (.int x1)] [(.ref at_)])) (fun _ kz => st7 _ kz) ?_
    refine own_go (A := T7.setTop (mkF m 26 #[.val (.ref a), .val (.ref a), .val (.int (3 : Int32)), .val (.int (1 : Int32)), .val (.int x1)] [(.int (x1 &&& (255 : Int32))), (.ref at_)])) (fun _ kz => ?_) ?_
    · show Steps p.tables e below (T7.setTop (mkF m 20 #[.val (.ref a), .val (.ref a), .val (.int (3 : Int32)), .val (.int (1 : Int32)), .val (.int x1)] [(.ref at_)])) _
      refine XS.iload X7.here hx rfl (hb hby d1_20) rfl ?_
      show Steps p.tables e below (T7.setTop (mkF m 22 #[.val (.ref a), .val (.ref a), .val (.int (3 : Int32)), .val (.int (1 : Int32)), .val (.int x1)] [(.int x1), (.ref at_)])) _
      refine XS.sipush X7.here hx rfl (hb hby d1_22) ?_
      show Steps p.tables e below (T7.setTop (mkF m 25 #[.val (.ref a), .val (.ref a), .val (.int (3 : Int32)), .val (.int (1 : Int32)), .val (.int x1)] [(.int (255 : Int32)), (.int x1), (.ref at_)])) _
      refine XS.iand X7.here hx rfl (hb hby d1_25) rfl ?_
      exact kz
    obtain ⟨cl8, Ar8, S8, Ht8⟩ := id Tb
    have hin8 : ¬ ((x1 &&& (255 : Int32)) < 0 ∨ cl8.slots.size ≤ ((x1 &&& (255 : Int32))).toNatClampNeg) := inb_of S8 ⟨own_a0 _, own_a1 _⟩
    refine own_go (A := T7.setTop (mkF m 27 #[.val (.ref a), .val (.ref a), .val (.int (3 : Int32)), .val (.int (1 : Int32)), .val (.int x1)] [(.int (own_tv (x1 &&& (255 : Int32))))])) (fun _ kz => ?_) ?_
    · refine X7.baloadBooleans hx (j := (x1 &&& (255 : Int32))) (v := (.int (own_tv (x1 &&& (255 : Int32))))) (e7 ▸ Ar8.1) (State.isArrayOf_alike hZ.alike Ar8.2.1) Ar8.2.2 hin8 (Ht8 _ (own_a0 _) (own_a1 _)) (g := (mkF m 26 #[.val (.ref a), .val (.ref a), .val (.int (3 : Int32)), .val (.int (1 : Int32)), .val (.int x1)] [(.int (x1 &&& (255 : Int32))), (.ref at_)])) rfl rfl (hb hby d1_26) _ ?_
      exact kz
    by_cases hs9 : (own_tv (x1 &&& (255 : Int32))) = (0 : Int32)
    · skip
      refine own_go (A := T7.setTop (mkF m 32 #[.val (.ref a), .val (.ref a), .val (.int (3 : Int32)), .val (.int (1 : Int32)), .val (.int x1)] [])) (fun _ kz => ?_) ?_
      · show Steps p.tables e below (T7.setTop (mkF m 27 #[.val (.ref a), .val (.ref a), .val (.int (3 : Int32)), .val (.int (1 : Int32)), .val (.int x1)] [(.int (own_tv (x1 &&& (255 : Int32))))])) _
        refine XS.ifYes X7.here hx rfl (pc0 := 27) (pc' := 32) rfl (hb hby d1_27) rfl ((if0 _ _).trans (teq hs9).1) (by decide) (by decide) ?_
        exact kz
      refine own_go (A := T7.setTop (mkF m 14 #[.val (.ref a), .val (.ref a), .val (.int (3 : Int32)), .val (.int (2 : Int32)), .val (.int x1)] [(.int (2 : Int32)), (.ref a)])) (fun _ kz => ?_) ?_
      · show Steps p.tables e below (T7.setTop (mkF m 32 #[.val (.ref a), .val (.ref a), .val (.int (3 : Int32)), .val (.int (1 : Int32)), .val (.int x1)] [])) _
        refine XS.iinc X7.here hx rfl (hb hby d1_32) rfl (l' := #[.val (.ref a), .val (.ref a), .val (.int (3 : Int32)), .val (.int (2 : Int32)), .val (.int x1)]) rfl ?_
        show Steps p.tables e below (T7.setTop (mkF m 35 #[.val (.ref a), .val (.ref a), .val (.int (3 : Int32)), .val (.int (2 : Int32)), .val (.int x1)] [])) _
        refine XS.goto X7.here hx rfl (pc0 := 35) (pc' := 7) rfl (hb hby d1_35) (by decide) (by decide) ?_
        show Steps p.tables e below (T7.setTop (mkF m 7 #[.val (.ref a), .val (.ref a), .val (.int (3 : Int32)), .val (.int (2 : Int32)), .val (.int x1)] [])) _
        refine XS.iloadN X7.here hx rfl (hb hby d1_7) rfl ?_
        show Steps p.tables e below (T7.setTop (mkF m 8 #[.val (.ref a), .val (.ref a), .val (.int (3 : Int32)), .val (.int (2 : Int32)), .val (.int x1)] [(.int (2 : Int32))])) _
        refine XS.iloadN X7.here hx rfl (hb hby d1_8) rfl ?_
        show Steps p.tables e below (T7.setTop (mkF m 9 #[.val (.ref a), .val (.ref a), .val (.int (3 : Int32)), .val (.int (2 : Int32)), .val (.int x1)] [(.int (3 : Int32)), (.int (2 : Int32))])) _
        refine XS.icmpNo X7.here hx rfl (hb hby d1_9) rfl (tlt (by decide : ((2 : Int32) < (3 : Int32)))).2.1 ?_
        show Steps p.tables e below (T7.setTop (mkF m 12 #[.val (.ref a), .val (.ref a), .val (.int (3 : Int32)), .val (.int (2 : Int32)), .val (.int x1)] [])) _
        refine XS.aloadN X7.here hx rfl (hb hby d1_12) rfl rfl ?_
        show Steps p.tables e below (T7.setTop (mkF m 13 #[.val (.ref a), .val (.ref a), .val (.int (3 : Int32)), .val (.int (2 : Int32)), .val (.int x1)] [(.ref a)])) _
        refine XS.iloadN X7.here hx rfl (hb hby d1_13) rfl ?_
        exact kz
      obtain ⟨cl10, Ar10, -, S10, M10, H10, -⟩ := id Av
      have hin10 : ¬ ((2 : Int32) < 0 ∨ cl10.slots.size ≤ ((2 : Int32)).toNatClampNeg) := inb_of S10 ⟨by decide, by decide⟩
      have hat10 : cl10.slots[((2 : Int32)).toNatClampNeg]? = some (.int x2) := H10.at hin10 rfl
      refine own_go (A := T7.setTop (mkF m 15 #[.val (.ref a), .val (.ref a), .val (.int (3 : Int32)), .val (.int (2 : Int32)), .val (.int x1)] [(.int x2)])) (fun _ kz => ?_) ?_
      · refine X7.baloadBytes hx (j := (2 : Int32)) (v := (.int x2)) (by rw [e7]; exact Ar10.1) (State.isArrayOf_alike hZ.alike Ar10.2.1) Ar10.2.2 hin10 hat10 (g := (mkF m 14 #[.val (.ref a), .val (.ref a), .val (.int (3 : Int32)), .val (.int (2 : Int32)), .val (.int x1)] [(.int (2 : Int32)), (.ref a)])) rfl rfl (hb hby d1_14) _ ?_
        exact kz
      refine own_go (A := T7.setTop (mkF m 17 #[.val (.ref a), .val (.ref a), .val (.int (3 : Int32)), .val (.int (2 : Int32)), .val (.int x2)] [])) (fun _ kz => ?_) ?_
      · show Steps p.tables e below (T7.setTop (mkF m 15 #[.val (.ref a), .val (.ref a), .val (.int (3 : Int32)), .val (.int (2 : Int32)), .val (.int x1)] [(.int x2)])) _
        refine XS.istore X7.here hx rfl (hb hby d1_15) rfl (l' := #[.val (.ref a), .val (.ref a), .val (.int (3 : Int32)), .val (.int (2 : Int32)), .val (.int x2)]) rfl ?_
        exact kz
      obtain ⟨T11, X11, e11, st11⟩ := getS2 X7 hx hZ hown (host := "") (Or.inl (hw _ (List.mem_of_getElem? (i := 10) rfl))) Via.refl e7 S_t (g := (mkF m 17 #[.val (.ref a), .val (.ref a), .val (.int (3 : Int32)), .val (.int (2 : Int32)), .val (.int x2)] [])) rfl (hb hby d1_17)
      refine own_go (A := T11.setTop (mkF m 20 #[.val (.ref a), .val (.ref a), .val (.int (3 : Int32)), .val (.int (2 : Int32)), .val (.int x2)] [(.ref at_)])) (fun _ kz => st11 _ kz) ?_
      refine own_go (A := T11.setTop (mkF m 26 #[.val (.ref a), .val (.ref a), .val (.int (3 : Int32)), .val (.int (2 : Int32)), .val (.int x2)] [(.int (x2 &&& (255 : Int32))), (.ref at_)])) (fun _ kz => ?_) ?_
      · show Steps p.tables e below (T11.setTop (mkF m 20 #[.val (.ref a), .val (.ref a), .val (.int (3 : Int32)), .val (.int (2 : Int32)), .val (.int x2)] [(.ref at_)])) _
        refine XS.iload X11.here hx rfl (hb hby d1_20) rfl ?_
        show Steps p.tables e below (T11.setTop (mkF m 22 #[.val (.ref a), .val (.ref a), .val (.int (3 : Int32)), .val (.int (2 : Int32)), .val (.int x2)] [(.int x2), (.ref at_)])) _
        refine XS.sipush X11.here hx rfl (hb hby d1_22) ?_
        show Steps p.tables e below (T11.setTop (mkF m 25 #[.val (.ref a), .val (.ref a), .val (.int (3 : Int32)), .val (.int (2 : Int32)), .val (.int x2)] [(.int (255 : Int32)), (.int x2), (.ref at_)])) _
        refine XS.iand X11.here hx rfl (hb hby d1_25) rfl ?_
        exact kz
      obtain ⟨cl12, Ar12, S12, Ht12⟩ := id Tb
      have hin12 : ¬ ((x2 &&& (255 : Int32)) < 0 ∨ cl12.slots.size ≤ ((x2 &&& (255 : Int32))).toNatClampNeg) := inb_of S12 ⟨own_a0 _, own_a1 _⟩
      refine own_go (A := T11.setTop (mkF m 27 #[.val (.ref a), .val (.ref a), .val (.int (3 : Int32)), .val (.int (2 : Int32)), .val (.int x2)] [(.int (own_tv (x2 &&& (255 : Int32))))])) (fun _ kz => ?_) ?_
      · refine X11.baloadBooleans hx (j := (x2 &&& (255 : Int32))) (v := (.int (own_tv (x2 &&& (255 : Int32))))) (e11 ▸ Ar12.1) (State.isArrayOf_alike hZ.alike Ar12.2.1) Ar12.2.2 hin12 (Ht12 _ (own_a0 _) (own_a1 _)) (g := (mkF m 26 #[.val (.ref a), .val (.ref a), .val (.int (3 : Int32)), .val (.int (2 : Int32)), .val (.int x2)] [(.int (x2 &&& (255 : Int32))), (.ref at_)])) rfl rfl (hb hby d1_26) _ ?_
        exact kz
      by_cases hs13 : (own_tv (x2 &&& (255 : Int32))) = (0 : Int32)
      · skip
        refine own_go (A := T11.setTop (mkF m 32 #[.val (.ref a), .val (.ref a), .val (.int (3 : Int32)), .val (.int (2 : Int32)), .val (.int x2)] [])) (fun _ kz => ?_) ?_
        · show Steps p.tables e below (T11.setTop (mkF m 27 #[.val (.ref a), .val (.ref a), .val (.int (3 : Int32)), .val (.int (2 : Int32)), .val (.int x2)] [(.int (own_tv (x2 &&& (255 : Int32))))])) _
          refine XS.ifYes X11.here hx rfl (pc0 := 27) (pc' := 32) rfl (hb hby d1_27) rfl ((if0 _ _).trans (teq hs13).1) (by decide) (by decide) ?_
          exact kz
        refine own_go (A := T11.setTop (mkF m 39 #[.val (.ref a), .val (.ref a), .val (.int (3 : Int32)), .val (.int (3 : Int32)), .val (.int x2)] [(.int (0 : Int32))])) (fun _ kz => ?_) ?_
        · show Steps p.tables e below (T11.setTop (mkF m 32 #[.val (.ref a), .val (.ref a), .val (.int (3 : Int32)), .val (.int (2 : Int32)), .val (.int x2)] [])) _
          refine XS.iinc X11.here hx rfl (hb hby d1_32) rfl (l' := #[.val (.ref a), .val (.ref a), .val (.int (3 : Int32)), .val (.int (3 : Int32)), .val (.int x2)]) rfl ?_
          show Steps p.tables e below (T11.setTop (mkF m 35 #[.val (.ref a), .val (.ref a), .val (.int (3 : Int32)), .val (.int (3 : Int32)), .val (.int x2)] [])) _
          refine XS.goto X11.here hx rfl (pc0 := 35) (pc' := 7) rfl (hb hby d1_35) (by decide) (by decide) ?_
          show Steps p.tables e below (T11.setTop (mkF m 7 #[.val (.ref a), .val (.ref a), .val (.int (3 : Int32)), .val (.int (3 : Int32)), .val (.int x2)] [])) _
          refine XS.iloadN X11.here hx rfl (hb hby d1_7) rfl ?_
          show Steps p.tables e below (T11.setTop (mkF m 8 #[.val (.ref a), .val (.ref a), .val (.int (3 : Int32)), .val (.int (3 : Int32)), .val (.int x2)] [(.int (3 : Int32))])) _
          refine XS.iloadN X11.here hx rfl (hb hby d1_8) rfl ?_
          show Steps p.tables e below (T11.setTop (mkF m 9 #[.val (.ref a), .val (.ref a), .val (.int (3 : Int32)), .val (.int (3 : Int32)), .val (.int x2)] [(.int (3 : Int32)), (.int (3 : Int32))])) _
          refine XS.icmpYes X11.here hx rfl (pc0 := 9) (pc' := 38) rfl (hb hby d1_9) rfl (flt (by decide : ¬ ((3 : Int32) < (3 : Int32)))).2.1 (by decide) (by decide) ?_
          show Steps p.tables e below (T11.setTop (mkF m 38 #[.val (.ref a), .val (.ref a), .val (.int (3 : Int32)), .val (.int (3 : Int32)), .val (.int x2)] [])) _
          refine XS.iconst X11.here hx rfl (hb hby d1_38) ?_
          exact kz
        obtain ⟨fs, hrr, hrun, hended, hW, hsame⟩ := X11.leave (v := some (.int (0 : Int32))) (fun h => by rw [Bd.returns] at h; cases h)
        refine ⟨_, _, ?_, hrun, hended, _, _, rfl, ?_, ⟨_, rfl⟩, hW, hsame.mono (by decide) (by decide)⟩
        · show Steps p.tables e below (T11.setTop (mkF m 39 #[.val (.ref a), .val (.ref a), .val (.int (3 : Int32)), .val (.int (3 : Int32)), .val (.int x2)] [(.int (0 : Int32))])) _
          exact retN X11 hx (t := .boolean) Bd.returns (by simp) (hb hby d1_39) hrr
        · show QrmF3 Z a at_ kc x0 x1 x2 r h0 n0 _ T11.heap _
          rw [e11]
          exact ⟨by subst hr; simp [hs5, hs9, hs13], N0, rfl⟩
      · skip
        refine own_go (A := T11.setTop (mkF m 30 #[.val (.ref a), .val (.ref a), .val (.int (3 : Int32)), .val (.int (2 : Int32)), .val (.int x2)] [])) (fun _ kz => ?_) ?_
        · show Steps p.tables e below (T11.setTop (mkF m 27 #[.val (.ref a), .val (.ref a), .val (.int (3 : Int32)), .val (.int (2 : Int32)), .val (.int x2)] [(.int (own_tv (x2 &&& (255 : Int32))))])) _
          refine XS.ifNo X11.here hx rfl (hb hby d1_27) rfl ((if0 _ _).trans (feq hs13).1) ?_
          exact kz
        refine own_go (A := T11.setTop (mkF m 31 #[.val (.ref a), .val (.ref a), .val (.int (3 : Int32)), .val (.int (2 : Int32)), .val (.int x2)] [(.int (1 : Int32))])) (fun _ kz => ?_) ?_
        · show Steps p.tables e below (T11.setTop (mkF m 30 #[.val (.ref a), .val (.ref a), .val (.int (3 : Int32)), .val (.int (2 : Int32)), .val (.int x2)] [])) _
          refine XS.iconst X11.here hx rfl (hb hby d1_30) ?_
          exact kz
        obtain ⟨fs, hrr, hrun, hended, hW, hsame⟩ := X11.leave (v := some (.int (1 : Int32))) (fun h => by rw [Bd.returns] at h; cases h)
        refine ⟨_, _, ?_, hrun, hended, _, _, rfl, ?_, ⟨_, rfl⟩, hW, hsame.mono (by decide) (by decide)⟩
        · show Steps p.tables e below (T11.setTop (mkF m 31 #[.val (.ref a), .val (.ref a), .val (.int (3 : Int32)), .val (.int (2 : Int32)), .val (.int x2)] [(.int (1 : Int32))])) _
          exact retN X11 hx (t := .boolean) Bd.returns (by simp) (hb hby d1_31) hrr
        · show QrmF3 Z a at_ kc x0 x1 x2 r h0 n0 _ T11.heap _
          rw [e11]
          exact ⟨by subst hr; simp [hs5, hs9, hs13], N0, rfl⟩
    · skip
      refine own_go (A := T7.setTop (mkF m 30 #[.val (.ref a), .val (.ref a), .val (.int (3 : Int32)), .val (.int (1 : Int32)), .val (.int x1)] [])) (fun _ kz => ?_) ?_
      · show Steps p.tables e below (T7.setTop (mkF m 27 #[.val (.ref a), .val (.ref a), .val (.int (3 : Int32)), .val (.int (1 : Int32)), .val (.int x1)] [(.int (own_tv (x1 &&& (255 : Int32))))])) _
        refine XS.ifNo X7.here hx rfl (hb hby d1_27) rfl ((if0 _ _).trans (feq hs9).1) ?_
        exact kz
      refine own_go (A := T7.setTop (mkF m 31 #[.val (.ref a), .val (.ref a), .val (.int (3 : Int32)), .val (.int (1 : Int32)), .val (.int x1)] [(.int (1 : Int32))])) (fun _ kz => ?_) ?_
      · show Steps p.tables e below (T7.setTop (mkF m 30 #[.val (.ref a), .val (.ref a), .val (.int (3 : Int32)), .val (.int (1 : Int32)), .val (.int x1)] [])) _
        refine XS.iconst X7.here hx rfl (hb hby d1_30) ?_
        exact kz
      obtain ⟨fs, hrr, hrun, hended, hW, hsame⟩ := X7.leave (v := some (.int (1 : Int32))) (fun h => by rw [Bd.returns] at h; cases h)
      refine ⟨_, _, ?_, hrun, hended, _, _, rfl, ?_, ⟨_, rfl⟩, hW, hsame.mono (by decide) (by decide)⟩
      · show Steps p.tables e below (T7.setTop (mkF m 31 #[.val (.ref a), .val (.ref a), .val (.int (3 : Int32)), .val (.int (1 : Int32)), .val (.int x1)] [(.int (1 : Int32))])) _
        exact retN X7 hx (t := .boolean) Bd.returns (by simp) (hb hby d1_31) hrr
      · show QrmF3 Z a at_ kc x0 x1 x2 r h0 n0 _ T7.heap _
        rw [e7]
        exact ⟨by subst hr; simp [hs5, hs9], N0, rfl⟩
  · skip
    refine own_go (A := T3.setTop (mkF m 30 #[.val (.ref a), .val (.ref a), .val (.int (3 : Int32)), .val (.int (0 : Int32)), .val (.int x0)] [])) (fun _ kz => ?_) ?_
    · show Steps p.tables e below (T3.setTop (mkF m 27 #[.val (.ref a), .val (.ref a), .val (.int (3 : Int32)), .val (.int (0 : Int32)), .val (.int x0)] [(.int (own_tv (x0 &&& (255 : Int32))))])) _
      refine XS.ifNo X3.here hx rfl (hb hby d1_27) rfl ((if0 _ _).trans (feq hs5).1) ?_
      exact kz
    refine own_go (A := T3.setTop (mkF m 31 #[.val (.ref a), .val (.ref a), .val (.int (3 : Int32)), .val (.int (0 : Int32)), .val (.int x0)] [(.int (1 : Int32))])) (fun _ kz => ?_) ?_
    · show Steps p.tables e below (T3.setTop (mkF m 30 #[.val (.ref a), .val (.ref a), .val (.int (3 : Int32)), .val (.int (0 : Int32)), .val (.int x0)] [])) _
      refine XS.iconst X3.here hx rfl (hb hby d1_30) ?_
      exact kz
    obtain ⟨fs, hrr, hrun, hended, hW, hsame⟩ := X3.leave (v := some (.int (1 : Int32))) (fun h => by rw [Bd.returns] at h; cases h)
    refine ⟨_, _, ?_, hrun, hended, _, _, rfl, ?_, ⟨_, rfl⟩, hW, hsame.mono (by decide) (by decide)⟩
    · show Steps p.tables e below (T3.setTop (mkF m 31 #[.val (.ref a), .val (.ref a), .val (.int (3 : Int32)), .val (.int (0 : Int32)), .val (.int x0)] [(.int (1 : Int32))])) _
      exact retN X3 hx (t := .boolean) Bd.returns (by simp) (hb hby d1_31) hrr
    · show QrmF3 Z a at_ kc x0 x1 x2 r h0 n0 _ T3.heap _
      rw [e3]
      exact ⟨by subst hr; simp [hs5], N0, rfl⟩
theorem own_efF4 (m : MethodId) (x0 : Addr) : entryFrame m #[(.ref x0)] 5 = mkF m 0 #[.val (.ref x0), .unset, .unset, .unset, .unset] [] := by first | (simp [entryFrame, mkF, argsToLocals, Value.category]; done) | rfl
def QrmF4 (Z : State) (a at_ : Addr) (kc : ClassId) (x0 x1 x2 x3 r : Int32) (h0 : Heap) (n0 : Nat) (v : Option Value) (h : Heap) (L : List Loc) : Prop := v = some (.int r) ∧ Fr n0 L ∧ h = h0
set_option maxRecDepth 65536 in
set_option maxHeartbeats 40000000 in
theorem rmF4 (l : Launch) (Z : State) (a0 : Array Value) (hw : ∀ d ∈ tables_1, d.before a0 Z = true) (ws : List Jvm.Cond) (a at_ : Addr) (kc : ClassId) (x0 x1 x2 x3 r : Int32) (h0 : Heap) (n0 : Nat) (Z0 : n0 ≤ h0.size) (Av : Arv Z h0 a kc .byte (4 : Int32) [(.int x0), (.int x1), (.int x2), (.int x3)] (.int (0 : Int32))) (S_t : Sta Z h0 "com/example/sharp_nose/sharpnose/BinaryData" "BINARY_DATA_BYTES" "[Z" (.ref at_)) (Tb : own_Tab Z h0 at_) (hr : (if (own_tv (x0 &&& (255 : Int32))) = (0 : Int32) then (if (own_tv (x1 &&& (255 : Int32))) = (0 : Int32) then (if (own_tv (x2 &&& (255 : Int32))) = (0 : Int32) then (if (own_tv (x3 &&& (255 : Int32))) = (0 : Int32) then (0 : Int32) else (1 : Int32)) else (1 : Int32)) else (1 : Int32)) else (1 : Int32)) = r) :
    MetFree l (⟨"com/example/sharp_nose/sharpnose/BinaryData", "foundIn", "([B)Z"⟩ : MethodName) (head1 (Jvm.Cond.code (⟨"com/example/sharp_nose/sharpnose/BinaryData", "foundIn", "([B)Z"⟩ : MethodName) prog_1_method_2_code 5 (some .boolean) :: ws) ({ frames := 0, cells := 0, slots := 0, locals := 0 } : Room)) (fun ar_ U_ => ar_ = #[(.ref a)] ∧ Z.Warmed39 U_.vm ∧ U_.heap = h0) (fun _ _ _ _ _ => True) (fun _ U_ ou_ V_ => ∃ v_ L_, ou_ = .returned v_ ∧ QrmF4 Z a at_ kc x0 x1 x2 x3 r h0 n0 v_ V_.heap L_ ∧ FrameEnd U_ ou_ V_ L_ ({ frames := 0, cells := 0, slots := 0, locals := 0 } : Room).cells ({ frames := 0, cells := 0, slots := 0, locals := 0 } : Room).slots) := by
  refine MetFree.of_bodySF (plainFor_of_name own_pn1) hisR ?_
  intro p e s m args below meth c s₁ Bd hml0 hP hK
  obtain ⟨rfl, hZ, hh⟩ := hP
  have hx := Bd.exec
  have hby := Bd.bytes
  have hml : c.maxLocals = 5 := hml0
  have hown : s.vm.findClass "com/example/sharp_nose/sharpnose/BinaryData" = some m.cls := findClass_of_methodNamed Bd.named
  have hnm := (name_of_methodNamed Bd.named Bd.method).1
  have X0 : Stand p l e ({ frames := 0, cells := 0, slots := 0, locals := 0 } : Room) s m #[(.ref a)] below meth c s₁ [] 0 0 := Stand.of_body Bd
  have e0 : s₁.heap = h0 := by rw [← hh, Bd.state]; rfl
  have N0 := Fr.nil n0
  refine own_go (A := s₁.setTop (mkF m 0 #[.val (.ref a), .unset, .unset, .unset, .unset] [])) (fun t kz => castTop (own_efF4 m a) kz) ?_
  refine own_go (A := s₁.setTop (mkF m 3 #[.val (.ref a), .val (.ref a), .unset, .unset, .unset] [(.ref a)])) (fun _ kz => ?_) ?_
  · show Steps p.tables e below (s₁.setTop (mkF m 0 #[.val (.ref a), .unset, .unset, .unset, .unset] [])) _
    refine XS.aloadN X0.here hx rfl (hb hby d1_0) rfl rfl ?_
    show Steps p.tables e below (s₁.setTop (mkF m 1 #[.val (.ref a), .unset, .unset, .unset, .unset] [(.ref a)])) _
    refine XS.astoreN X0.here hx rfl (hb hby d1_1) rfl rfl (l' := #[.val (.ref a), .val (.ref a), .unset, .unset, .unset]) rfl ?_
    show Steps p.tables e below (s₁.setTop (mkF m 2 #[.val (.ref a), .val (.ref a), .unset, .unset, .unset] [])) _
    refine XS.aloadN X0.here hx rfl (hb hby d1_2) rfl rfl ?_
    exact kz
  obtain ⟨cl1, Ar1, -, S1, M1, -, -⟩ := id Av
  refine own_go (A := s₁.setTop (mkF m 4 #[.val (.ref a), .val (.ref a), .unset, .unset, .unset] [(.int (4 : Int32))])) (fun _ kz => ?_) ?_
  · refine X0.arraylength hx (by rw [e0]; exact Ar1.1) (State.isArrayOf_alike hZ.alike Ar1.2.1) (g := (mkF m 3 #[.val (.ref a), .val (.ref a), .unset, .unset, .unset] [(.ref a)])) rfl rfl (hb hby d1_3) _ ?_
    rw [len_of S1 M1]
    exact kz
  refine own_go (A := s₁.setTop (mkF m 14 #[.val (.ref a), .val (.ref a), .val (.int (4 : Int32)), .val (.int (0 : Int32)), .unset] [(.int (0 : Int32)), (.ref a)])) (fun _ kz => ?_) ?_
  · show Steps p.tables e below (s₁.setTop (mkF m 4 #[.val (.ref a), .val (.ref a), .unset, .unset, .unset] [(.int (4 : Int32))])) _
    refine XS.istoreN X0.here hx rfl (hb hby d1_4) rfl (l' := #[.val (.ref a), .val (.ref a), .val (.int (4 : Int32)), .unset, .unset]) rfl ?_
    show Steps p.tables e below (s₁.setTop (mkF m 5 #[.val (.ref a), .val (.ref a), .val (.int (4 : Int32)), .unset, .unset] [])) _
    refine XS.iconst X0.here hx rfl (hb hby d1_5) ?_
    show Steps p.tables e below (s₁.setTop (mkF m 6 #[.val (.ref a), .val (.ref a), .val (.int (4 : Int32)), .unset, .unset] [(.int (0 : Int32))])) _
    refine XS.istoreN X0.here hx rfl (hb hby d1_6) rfl (l' := #[.val (.ref a), .val (.ref a), .val (.int (4 : Int32)), .val (.int (0 : Int32)), .unset]) rfl ?_
    show Steps p.tables e below (s₁.setTop (mkF m 7 #[.val (.ref a), .val (.ref a), .val (.int (4 : Int32)), .val (.int (0 : Int32)), .unset] [])) _
    refine XS.iloadN X0.here hx rfl (hb hby d1_7) rfl ?_
    show Steps p.tables e below (s₁.setTop (mkF m 8 #[.val (.ref a), .val (.ref a), .val (.int (4 : Int32)), .val (.int (0 : Int32)), .unset] [(.int (0 : Int32))])) _
    refine XS.iloadN X0.here hx rfl (hb hby d1_8) rfl ?_
    show Steps p.tables e below (s₁.setTop (mkF m 9 #[.val (.ref a), .val (.ref a), .val (.int (4 : Int32)), .val (.int (0 : Int32)), .unset] [(.int (4 : Int32)), (.int (0 : Int32))])) _
    refine XS.icmpNo X0.here hx rfl (hb hby d1_9) rfl (tlt (by decide : ((0 : Int32) < (4 : Int32)))).2.1 ?_
    show Steps p.tables e below (s₁.setTop (mkF m 12 #[.val (.ref a), .val (.ref a), .val (.int (4 : Int32)), .val (.int (0 : Int32)), .unset] [])) _
    refine XS.aloadN X0.here hx rfl (hb hby d1_12) rfl rfl ?_
    show Steps p.tables e below (s₁.setTop (mkF m 13 #[.val (.ref a), .val (.ref a), .val (.int (4 : Int32)), .val (.int (0 : Int32)), .unset] [(.ref a)])) _
    refine XS.iloadN X0.here hx rfl (hb hby d1_13) rfl ?_
    exact kz
  obtain ⟨cl2, Ar2, -, S2, M2, H2, -⟩ := id Av
  have hin2 : ¬ ((0 : Int32) < 0 ∨ cl2.slots.size ≤ ((0 : Int32)).toNatClampNeg) := inb_of S2 ⟨by decide, by decide⟩
  have hat2 : cl2.slots[((0 : Int32)).toNatClampNeg]? = some (.int x0) := H2.at hin2 rfl
  refine own_go (A := s₁.setTop (mkF m 15 #[.val (.ref a), .val (.ref a), .val (.int (4 : Int32)), .val (.int (0 : Int32)), .unset] [(.int x0)])) (fun _ kz => ?_) ?_
  · refine X0.baloadBytes hx (j := (0 : Int32)) (v := (.int x0)) (by rw [e0]; exact Ar2.1) (State.isArrayOf_alike hZ.alike Ar2.2.1) Ar2.2.2 hin2 hat2 (g := (mkF m 14 #[.val (.ref a), .val (.ref a), .val (.int (4 : Int32)), .val (.int (0 : Int32)), .unset] [(.int (0 : Int32)), (.ref a)])) rfl rfl (hb hby d1_14) _ ?_
    exact kz
  refine own_go (A := s₁.setTop (mkF m 17 #[.val (.ref a), .val (.ref a), .val (.int (4 : Int32)), .val (.int (0 : Int32)), .val (.int x0)] [])) (fun _ kz => ?_) ?_
  · show Steps p.tables e below (s₁.setTop (mkF m 15 #[.val (.ref a), .val (.ref a), .val (.int (4 : Int32)), .val (.int (0 : Int32)), .unset] [(.int x0)])) _
    refine XS.istore X0.here hx rfl (hb hby d1_15) rfl (l' := #[.val (.ref a), .val (.ref a), .val (.int (4 : Int32)), .val (.int (0 : Int32)), .val (.int x0)]) rfl ?_
    exact kz
  obtain ⟨T3, X3, e3, st3⟩ := getS2 X0 hx hZ hown (host := "") (Or.inl (hw _ (List.mem_of_getElem? (i := 10) rfl))) Via.refl e0 S_t (g := (mkF m 17 #[.val (.ref a), .val (.ref a), .val (.int (4 : Int32)), .val (.int (0 : Int32)), .val (.int x0)] [])) rfl (hb hby d1_17)
  refine own_go (A := T3.setTop (mkF m 20 #[.val (.ref a), .val (.ref a), .val (.int (4 : Int32)), .val (.int (0 : Int32)), .val (.int x0)] [(.ref at_)])) (fun _ kz => st3 _ kz) ?_
  refine own_go (A := T3.setTop (mkF m 26 #[.val (.ref a), .val (.ref a), .val (.int (4 : Int32)), .val (.int (0 : Int32)), .val (.int x0)] [(.int (x0 &&& (255 : Int32))), (.ref at_)])) (fun _ kz => ?_) ?_
  · show Steps p.tables e below (T3.setTop (mkF m 20 #[.val (.ref a), .val (.ref a), .val (.int (4 : Int32)), .val (.int (0 : Int32)), .val (.int x0)] [(.ref at_)])) _
    refine XS.iload X3.here hx rfl (hb hby d1_20) rfl ?_
    show Steps p.tables e below (T3.setTop (mkF m 22 #[.val (.ref a), .val (.ref a), .val (.int (4 : Int32)), .val (.int (0 : Int32)), .val (.int x0)] [(.int x0), (.ref at_)])) _
    refine XS.sipush X3.here hx rfl (hb hby d1_22) ?_
    show Steps p.tables e below (T3.setTop (mkF m 25 #[.val (.ref a), .val (.ref a), .val (.int (4 : Int32)), .val (.int (0 : Int32)), .val (.int x0)] [(.int (255 : Int32)), (.int x0), (.ref at_)])) _
    refine XS.iand X3.here hx rfl (hb hby d1_25) rfl ?_
    exact kz
  obtain ⟨cl4, Ar4, S4, Ht4⟩ := id Tb
  have hin4 : ¬ ((x0 &&& (255 : Int32)) < 0 ∨ cl4.slots.size ≤ ((x0 &&& (255 : Int32))).toNatClampNeg) := inb_of S4 ⟨own_a0 _, own_a1 _⟩
  refine own_go (A := T3.setTop (mkF m 27 #[.val (.ref a), .val (.ref a), .val (.int (4 : Int32)), .val (.int (0 : Int32)), .val (.int x0)] [(.int (own_tv (x0 &&& (255 : Int32))))])) (fun _ kz => ?_) ?_
  · refine X3.baloadBooleans hx (j := (x0 &&& (255 : Int32))) (v := (.int (own_tv (x0 &&& (255 : Int32))))) (e3 ▸ Ar4.1) (State.isArrayOf_alike hZ.alike Ar4.2.1) Ar4.2.2 hin4 (Ht4 _ (own_a0 _) (own_a1 _)) (g := (mkF m 26 #[.val (.ref a), .val (.ref a), .val (.int (4 : Int32)), .val (.int (0 : Int32)), .val (.int x0)] [(.int (x0 &&& (255 : Int32))), (.ref at_)])) rfl rfl (hb hby d1_26) _ ?_
    exact kz
  by_cases hs5 : (own_tv (x0 &&& (255 : Int32))) = (0 : Int32)
  · skip
    refine own_go (A := T3.setTop (mkF m 32 #[.val (.ref a), .val (.ref a), .val (.int (4 : Int32)), .val (.int (0 : Int32)), .val (.int x0)] [])) (fun _ kz => ?_) ?_
    · show Steps p.tables e below (T3.setTop (mkF m 27 #[.val (.ref a), .val (.ref a), .val (.int (4 : Int32)), .val (.int (0 : Int32)), .val (.int x0)] [(.int (own_tv (x0 &&& (255 : Int32))))])) _
      refine XS.ifYes X3.here hx rfl (pc0 := 27) (pc' := 32) rfl (hb hby d1_27) rfl ((if0 _ _).trans (teq hs5).1) (by decide) (by decide) ?_
      exact kz
    refine own_go (A := T3.setTop (mkF m 14 #[.val (.ref a), .val (.ref a), .val (.int (4 : Int32)), .val (.int (1 : Int32)), .val (.int x0)] [(.int (1 : Int32)), (.ref a)])) (fun _ kz => ?_) ?_
    · show Steps p.tables e below (T3.setTop (mkF m 32 #[.val (.ref a), .val (.ref a), .val (.int (4 : Int32)), .val (.int (0 : Int32)), .val (.int x0)] [])) _
      refine XS.iinc X3.here hx rfl (hb hby d1_32) rfl (l' := #[.val (.ref a), .val (.ref a), .val (.int (4 : Int32)), .val (.int (1 : Int32)), .val (.int x0)]) rfl ?_
      show Steps p.tables e below (T3.setTop (mkF m 35 #[.val (.ref a), .val (.ref a), .val (.int (4 : Int32)), .val (.int (1 : Int32)), .val (.int x0)] [])) _
      refine XS.goto X3.here hx rfl (pc0 := 35) (pc' := 7) rfl (hb hby d1_35) (by decide) (by decide) ?_
      show Steps p.tables e below (T3.setTop (mkF m 7 #[.val (.ref a), .val (.ref a), .val (.int (4 : Int32)), .val (.int (1 : Int32)), .val (.int x0)] [])) _
      refine XS.iloadN X3.here hx rfl (hb hby d1_7) rfl ?_
      show Steps p.tables e below (T3.setTop (mkF m 8 #[.val (.ref a), .val (.ref a), .val (.int (4 : Int32)), .val (.int (1 : Int32)), .val (.int x0)] [(.int (1 : Int32))])) _
      refine XS.iloadN X3.here hx rfl (hb hby d1_8) rfl ?_
      show Steps p.tables e below (T3.setTop (mkF m 9 #[.val (.ref a), .val (.ref a), .val (.int (4 : Int32)), .val (.int (1 : Int32)), .val (.int x0)] [(.int (4 : Int32)), (.int (1 : Int32))])) _
      refine XS.icmpNo X3.here hx rfl (hb hby d1_9) rfl (tlt (by decide : ((1 : Int32) < (4 : Int32)))).2.1 ?_
      show Steps p.tables e below (T3.setTop (mkF m 12 #[.val (.ref a), .val (.ref a), .val (.int (4 : Int32)), .val (.int (1 : Int32)), .val (.int x0)] [])) _
      refine XS.aloadN X3.here hx rfl (hb hby d1_12) rfl rfl ?_
      show Steps p.tables e below (T3.setTop (mkF m 13 #[.val (.ref a), .val (.ref a), .val (.int (4 : Int32)), .val (.int (1 : Int32)), .val (.int x0)] [(.ref a)])) _
      refine XS.iloadN X3.here hx rfl (hb hby d1_13) rfl ?_
      exact kz
    obtain ⟨cl6, Ar6, -, S6, M6, H6, -⟩ := id Av
    have hin6 : ¬ ((1 : Int32) < 0 ∨ cl6.slots.size ≤ ((1 : Int32)).toNatClampNeg) := inb_of S6 ⟨by decide, by decide⟩
    have hat6 : cl6.slots[((1 : Int32)).toNatClampNeg]? = some (.int x1) := H6.at hin6 rfl
    refine own_go (A := T3.setTop (mkF m 15 #[.val (.ref a), .val (.ref a), .val (.int (4 : Int32)), .val (.int (1 : Int32)), .val (.int x0)] [(.int x1)])) (fun _ kz => ?_) ?_
    · refine X3.baloadBytes hx (j := (1 : Int32)) (v := (.int x1)) (by rw [e3]; exact Ar6.1) (State.isArrayOf_alike hZ.alike Ar6.2.1) Ar6.2.2 hin6 hat6 (g := (mkF m 14 #[.val (.ref a), .val (.ref a), .val (.int (4 : Int32)), .val (.int (1 : Int32)), .val (.int x0)] [(.int (1 : Int32)), (.ref a)])) rfl rfl (hb hby d1_14) _ ?_
      exact kz
    refine own_go (A := T3.setTop (mkF m 17 #[.val (.ref a), .val (.ref a), .val (.int (4 : Int32)), .val (.int (1 : Int32)), .val (.int x1)] [])) (fun _ kz => ?_) ?_
    · show Steps p.tables e below (T3.setTop (mkF m 15 #[.val (.ref a), .val (.ref a), .val (.int (4 : Int32)), .val (.int (1 : Int32)), .val (.int x0)] [(.int x1)])) _
      refine XS.istore X3.here hx rfl (hb hby d1_15) rfl (l' := #[.val (.ref a), .val (.ref a), .val (.int (4 : Int32)), .val (.int (1 : Int32)), .val (.int x1)]) rfl ?_
      exact kz
    obtain ⟨T7, X7, e7, st7⟩ := getS2 X3 hx hZ hown (host := "") (Or.inl (hw _ (List.mem_of_getElem? (i := 10) rfl))) Via.refl e3 S_t (g := (mkF m 17 #[.val (.ref a), .val (.ref a), .val (.int (4 : Int32)), .val (.int (1 : Int32)), .val (.int x1)] [])) rfl (hb hby d1_17)
    refine own_go (A := T7.setTop (mkF m 20 #[.val (.ref a), .val (.ref a), .val (.int (4 : Int32)), .val (.int (1 : Int32)), .val (.int x1)] [(.ref at_)])) (fun _ kz => st7 _ kz) ?_
    refine own_go (A := T7.setTop (mkF m 26 #[.val (.ref a), .val (.ref a), .val (.int (4 : Int32)), .val (.int (1 : Int32)), .val (.int x1)] [(.int (x1 &&& (255 : Int32))), (.ref at_)])) (fun _ kz => ?_) ?_
    · show Steps p.tables e below (T7.setTop (mkF m 20 #[.val (.ref a), .val (.ref a), .val (.int (4 : Int32)), .val (.int (1 : Int32)), .val (.int x1)] [(.ref at_)])) _
      refine XS.iload X7.here hx rfl (hb hby d1_20) rfl ?_
      show Steps p.tables e below (T7.setTop (mkF m 22 #[.val (.ref a), .val (.ref a), .val (.int (4 : Int32)), .val (.int (1 : Int32)), .val (.int x1)] [(.int x1), (.ref at_)])) _
      refine XS.sipush X7.here hx rfl (hb hby d1_22) ?_
      show Steps p.tables e below (T7.setTop (mkF m 25 #[.val (.ref a), .val (.ref a), .val (.int (4 : Int32)), .val (.int (1 : Int32)), .val (.int x1)] [(.int (255 : Int32)), (.int x1), (.ref at_)])) _
      refine XS.iand X7.here hx rfl (hb hby d1_25) rfl ?_
      exact kz
    obtain ⟨cl8, Ar8, S8, Ht8⟩ := id Tb
    have hin8 : ¬ ((x1 &&& (255 : Int32)) < 0 ∨ cl8.slots.size ≤ ((x1 &&& (255 : Int32))).toNatClampNeg) := inb_of S8 ⟨own_a0 _, own_a1 _⟩
    refine own_go (A := T7.setTop (mkF m 27 #[.val (.ref a), .val (.ref a), .val (.int (4 : Int32)), .val (.int (1 : Int32)), .val (.int x1)] [(.int (own_tv (x1 &&& (255 : Int32))))])) (fun _ kz => ?_) ?_
    · refine X7.baloadBooleans hx (j := (x1 &&& (255 : Int32))) (v := (.int (own_tv (x1 &&& (255 : Int32))))) (e7 ▸ Ar8.1) (State.isArrayOf_alike hZ.alike Ar8.2.1) Ar8.2.2 hin8 (Ht8 _ (own_a0 _) (own_a1 _)) (g := (mkF m 26 #[.val (.ref a), .val (.ref a), .val (.int (4 : Int32)), .val (.int (1 : Int32)), .val (.int x1)] [(.int (x1 &&& (255 : Int32))), (.ref at_)])) rfl rfl (hb hby d1_26) _ ?_
      exact kz
    by_cases hs9 : (own_tv (x1 &&& (255 : Int32))) = (0 : Int32)
    · skip
      refine own_go (A := T7.setTop (mkF m 32 #[.val (.ref a), .val (.ref a), .val (.int (4 : Int32)), .val (.int (1 : Int32)), .val (.int x1)] [])) (fun _ kz => ?_) ?_
      · show Steps p.tables e below (T7.setTop (mkF m 27 #[.val (.ref a), .val (.ref a), .val (.int (4 : Int32)), .val (.int (1 : Int32)), .val (.int x1)] [(.int (own_tv (x1 &&& (255 : Int32))))])) _
        refine XS.ifYes X7.here hx rfl (pc0 := 27) (pc' := 32) rfl (hb hby d1_27) rfl ((if0 _ _).trans (teq hs9).1) (by decide) (by decide) ?_
        exact kz
      refine own_go (A := T7.setTop (mkF m 14 #[.val (.ref a), .val (.ref a), .val (.int (4 : Int32)), .val (.int (2 : Int32)), .val (.int x1)] [(.int (2 : Int32)), (.ref a)])) (fun _ kz => ?_) ?_
      · show Steps p.tables e below (T7.setTop (mkF m 32 #[.val (.ref a), .val (.ref a), .val (.int (4 : Int32)), .val (.int (1 : Int32)), .val (.int x1)] [])) _
        refine XS.iinc X7.here hx rfl (hb hby d1_32) rfl (l' := #[.val (.ref a), .val (.ref a), .val (.int (4 : Int32)), .val (.int (2 : Int32)), .val (.int x1)]) rfl ?_
        show Steps p.tables e below (T7.setTop (mkF m 35 #[.val (.ref a), .val (.ref a), .val (.int (4 : Int32)), .val (.int (2 : Int32)), .val (.int x1)] [])) _
        refine XS.goto X7.here hx rfl (pc0 := 35) (pc' := 7) rfl (hb hby d1_35) (by decide) (by decide) ?_
        show Steps p.tables e below (T7.setTop (mkF m 7 #[.val (.ref a), .val (.ref a), .val (.int (4 : Int32)), .val (.int (2 : Int32)), .val (.int x1)] [])) _
        refine XS.iloadN X7.here hx rfl (hb hby d1_7) rfl ?_
        show Steps p.tables e below (T7.setTop (mkF m 8 #[.val (.ref a), .val (.ref a), .val (.int (4 : Int32)), .val (.int (2 : Int32)), .val (.int x1)] [(.int (2 : Int32))])) _
        refine XS.iloadN X7.here hx rfl (hb hby d1_8) rfl ?_
        show Steps p.tables e below (T7.setTop (mkF m 9 #[.val (.ref a), .val (.ref a), .val (.int (4 : Int32)), .val (.int (2 : Int32)), .val (.int x1)] [(.int (4 : Int32)), (.int (2 : Int32))])) _
        refine XS.icmpNo X7.here hx rfl (hb hby d1_9) rfl (tlt (by decide : ((2 : Int32) < (4 : Int32)))).2.1 ?_
        show Steps p.tables e below (T7.setTop (mkF m 12 #[.val (.ref a), .val (.ref a), .val (.int (4 : Int32)), .val (.int (2 : Int32)), .val (.int x1)] [])) _
        refine XS.aloadN X7.here hx rfl (hb hby d1_12) rfl rfl ?_
        show Steps p.tables e below (T7.setTop (mkF m 13 #[.val (.ref a), .val (.ref a), .val (.int (4 : Int32)), .val (.int (2 : Int32)), .val (.int x1)] [(.ref a)])) _
        refine XS.iloadN X7.here hx rfl (hb hby d1_13) rfl ?_
        exact kz
      obtain ⟨cl10, Ar10, -, S10, M10, H10, -⟩ := id Av
      have hin10 : ¬ ((2 : Int32) < 0 ∨ cl10.slots.size ≤ ((2 : Int32)).toNatClampNeg) := inb_of S10 ⟨by decide, by decide⟩
      have hat10 : cl10.slots[((2 : Int32)).toNatClampNeg]? = some (.int x2) := H10.at hin10 rfl
      refine own_go (A := T7.setTop (mkF m 15 #[.val (.ref a), .val (.ref a), .val (.int (4 : Int32)), .val (.int (2 : Int32)), .val (.int x1)] [(.int x2)])) (fun _ kz => ?_) ?_
      · refine X7.baloadBytes hx (j := (2 : Int32)) (v := (.int x2)) (by rw [e7]; exact Ar10.1) (State.isArrayOf_alike hZ.alike Ar10.2.1) Ar10.2.2 hin10 hat10 (g := (mkF m 14 #[.val (.ref a), .val (.ref a), .val (.int (4 : Int32)), .val (.int (2 : Int32)), .val (.int x1)] [(.int (2 : Int32)), (.ref a)])) rfl rfl (hb hby d1_14) _ ?_
        exact kz
      refine own_go (A := T7.setTop (mkF m 17 #[.val (.ref a), .val (.ref a), .val (.int (4 : Int32)), .val (.int (2 : Int32)), .val (.int x2)] [])) (fun _ kz => ?_) ?_
      · show Steps p.tables e below (T7.setTop (mkF m 15 #[.val (.ref a), .val (.ref a), .val (.int (4 : Int32)), .val (.int (2 : Int32)), .val (.int x1)] [(.int x2)])) _
        refine XS.istore X7.here hx rfl (hb hby d1_15) rfl (l' := #[.val (.ref a), .val (.ref a), .val (.int (4 : Int32)), .val (.int (2 : Int32)), .val (.int x2)]) rfl ?_
        exact kz
      obtain ⟨T11, X11, e11, st11⟩ := getS2 X7 hx hZ hown (host := "") (Or.inl (hw _ (List.mem_of_getElem? (i := 10) rfl))) Via.refl e7 S_t (g := (mkF m 17 #[.val (.ref a), .val (.ref a), .val (.int (4 : Int32)), .val (.int (2 : Int32)), .val (.int x2)] [])) rfl (hb hby d1_17)
      refine own_go (A := T11.setTop (mkF m 20 #[.val (.ref a), .val (.ref a), .val (.int (4 : Int32)), .val (.int (2 : Int32)), .val (.int x2)] [(.ref at_)])) (fun _ kz => st11 _ kz) ?_
      refine own_go (A := T11.setTop (mkF m 26 #[.val (.ref a), .val (.ref a), .val (.int (4 : Int32)), .val (.int (2 : Int32)), .val (.int x2)] [(.int (x2 &&& (255 : Int32))), (.ref at_)])) (fun _ kz => ?_) ?_
      · show Steps p.tables e below (T11.setTop (mkF m 20 #[.val (.ref a), .val (.ref a), .val (.int (4 : Int32)), .val (.int (2 : Int32)), .val (.int x2)] [(.ref at_)])) _
        refine XS.iload X11.here hx rfl (hb hby d1_20) rfl ?_
        show Steps p.tables e below (T11.setTop (mkF m 22 #[.val (.ref a), .val (.ref a), .val (.int (4 : Int32)), .val (.int (2 : Int32)), .val (.int x2)] [(.int x2), (.ref at_)])) _
        refine XS.sipush X11.here hx rfl (hb hby d1_22) ?_
        show Steps p.tables e below (T11.setTop (mkF m 25 #[.val (.ref a), .val (.ref a), .val (.int (4 : Int32)), .val (.int (2 : Int32)), .val (.int x2)] [(.int (255 : Int32)), (.int x2), (.ref at_)])) _
        refine XS.iand X11.here hx rfl (hb hby d1_25) rfl ?_
        exact kz
      obtain ⟨cl12, Ar12, S12, Ht12⟩ := id Tb
      have hin12 : ¬ ((x2 &&& (255 : Int32)) < 0 ∨ cl12.slots.size ≤ ((x2 &&& (255 : Int32))).toNatClampNeg) := inb_of S12 ⟨own_a0 _, own_a1 _⟩
      refine own_go (A := T11.setTop (mkF m 27 #[.val (.ref a), .val (.ref a), .val (.int (4 : Int32)), .val (.int (2 : Int32)), .val (.int x2)] [(.int (own_tv (x2 &&& (255 : Int32))))])) (fun _ kz => ?_) ?_
      · refine X11.baloadBooleans hx (j := (x2 &&& (255 : Int32))) (v := (.int (own_tv (x2 &&& (255 : Int32))))) (e11 ▸ Ar12.1) (State.isArrayOf_alike hZ.alike Ar12.2.1) Ar12.2.2 hin12 (Ht12 _ (own_a0 _) (own_a1 _)) (g := (mkF m 26 #[.val (.ref a), .val (.ref a), .val (.int (4 : Int32)), .val (.int (2 : Int32)), .val (.int x2)] [(.int (x2 &&& (255 : Int32))), (.ref at_)])) rfl rfl (hb hby d1_26) _ ?_
        exact kz
      by_cases hs13 : (own_tv (x2 &&& (255 : Int32))) = (0 : Int32)
      · skip
        refine own_go (A := T11.setTop (mkF m 32 #[.val (.ref a), .val (.ref a), .val (.int (4 : Int32)), .val (.int (2 : Int32)), .val (.int x2)] [])) (fun _ kz => ?_) ?_
        · show Steps p.tables e below (T11.setTop (mkF m 27 #[.val (.ref a), .val (.ref a), .val (.int (4 : Int32)), .val (.int (2 : Int32)), .val (.int x2)] [(.int (own_tv (x2 &&& (255 : Int32))))])) _
          refine XS.ifYes X11.here hx rfl (pc0 := 27) (pc' := 32) rfl (hb hby d1_27) rfl ((if0 _ _).trans (teq hs13).1) (by decide) (by decide) ?_
          exact kz
        refine own_go (A := T11.setTop (mkF m 14 #[.val (.ref a), .val (.ref a), .val (.int (4 : Int32)), .val (.int (3 : Int32)), .val (.int x2)] [(.int (3 : Int32)), (.ref a)])) (fun _ kz => ?_) ?_
        · show Steps p.tables e below (T11.setTop (mkF m 32 #[.val (.ref a), .val (.ref a), .val (.int (4 : Int32)), .val (.int (2 : Int32)), .val (.int x2)] [])) _
          refine XS.iinc X11.here hx rfl (hb hby d1_32) rfl (l' := #[.val (.ref a), .val (.ref a), .val (.int (4 : Int32)), .val (.int (3 : Int32)), .val (.int x2)]) rfl ?_
          show Steps p.tables e below (T11.setTop (mkF m 35 #[.val (.ref a), .val (.ref a), .val (.int (4 : Int32)), .val (.int (3 : Int32)), .val (.int x2)] [])) _
          refine XS.goto X11.here hx rfl (pc0 := 35) (pc' := 7) rfl (hb hby d1_35) (by decide) (by decide) ?_
          show Steps p.tables e below (T11.setTop (mkF m 7 #[.val (.ref a), .val (.ref a), .val (.int (4 : Int32)), .val (.int (3 : Int32)), .val (.int x2)] [])) _
          refine XS.iloadN X11.here hx rfl (hb hby d1_7) rfl ?_
          show Steps p.tables e below (T11.setTop (mkF m 8 #[.val (.ref a), .val (.ref a), .val (.int (4 : Int32)), .val (.int (3 : Int32)), .val (.int x2)] [(.int (3 : Int32))])) _
          refine XS.iloadN X11.here hx rfl (hb hby d1_8) rfl ?_
          show Steps p.tables e below (T11.setTop (mkF m 9 #[.val (.ref a), .val (.ref a), .val (.int (4 : Int32)), .val (.int (3 : Int32)), .val (.int x2)] [(.int (4 : Int32)), (.int (3 : Int32))])) _
          refine XS.icmpNo X11.here hx rfl (hb hby d1_9) rfl (tlt (by decide : ((3 : Int32) < (4 : Int32)))).2.1 ?_
          show Steps p.tables e below (T11.setTop (mkF m 12 #[.val (.ref a), .val (.ref a), .val (.int (4 : Int32)), .val (.int (3 : Int32)), .val (.int x2)] [])) _
          refine XS.aloadN X11.here hx rfl (hb hby d1_12) rfl rfl ?_
          show Steps p.tables e below (T11.setTop (mkF m 13 #[.val (.ref a), .val (.ref a), .val (.int (4 : Int32)), .val (.int (3 : Int32)), .val (.int x2)] [(.ref a)])) _
          refine XS.iloadN X11.here hx rfl (hb hby d1_13) rfl ?_
          exact kz
        obtain ⟨cl14, Ar14, -, S14, M14, H14, -⟩ := id Av
        have hin14 : ¬ ((3 : Int32) < 0 ∨ cl14.slots.size ≤ ((3 : Int32)).toNatClampNeg) := inb_of S14 ⟨by decide, by decide⟩
        have hat14 : cl14.slots[((3 : Int32)).toNatClampNeg]? = some (.int x3) := H14.at hin14 rfl
        refine own_go (A := T11.setTop (mkF m 15 #[.val (.ref a), .val (.ref a), .val (.int (4 : Int32)), .val (.int (3 : Int32)), .val (.int x2)] [(.int x3)])) (fun _ kz => ?_) ?_
        · refine X11.baloadBytes hx (j := (3 : Int32)) (v := (.int x3)) (by rw [e11]; exact Ar14.1) (State.isArrayOf_alike hZ.alike Ar14.2.1) Ar14.2.2 hin14 hat14 (g := (mkF m 14 #[.val (.ref a), .val (.ref a), .val (.int (4 : Int32)), .val (.int (3 : Int32)), .val (.int x2)] [(.int (3 : Int32)), (.ref a)])) rfl rfl (hb hby d1_14) _ ?_
          exact kz
        refine own_go (A := T11.setTop (mkF m 17 #[.val (.ref a), .val (.ref a), .val (.int (4 : Int32)), .val (.int (3 : Int32)), .val (.int x3)] [])) (fun _ kz => ?_) ?_
        · show Steps p.tables e below (T11.setTop (mkF m 15 #[.val (.ref a), .val (.ref a), .val (.int (4 : Int32)), .val (.int (3 : Int32)), .val (.int x2)] [(.int x3)])) _
          refine XS.istore X11.here hx rfl (hb hby d1_15) rfl (l' := #[.val (.ref a), .val (.ref a), .val (.int (4 : Int32)), .val (.int (3 : Int32)), .val (.int x3)]) rfl ?_
          exact kz
        obtain ⟨T15, X15, e15, st15⟩ := getS2 X11 hx hZ hown (host := "") (Or.inl (hw _ (List.mem_of_getElem? (i := 10) rfl))) Via.refl e11 S_t (g := (mkF m 17 #[.val (.ref a), .val (.ref a), .val (.int (4 : Int32)), .val (.int (3 : Int32)), .val (.int x3)] [])) rfl (hb hby d1_17)
        refine own_go (A := T15.setTop (mkF m 20 #[.val (.ref a), .val (.ref a), .val (.int (4 : Int32)), .val (.int (3 : Int32)), .val (.int x3)] [(.ref at_)])) (fun _ kz => st15 _ kz) ?_
        refine own_go (A := T15.setTop (mkF m 26 #[.val (.ref a), .val (.ref a), .val (.int (4 : Int32)), .val (.int (3 : Int32)), .val (.int x3)] [(.int (x3 &&& (255 : Int32))), (.ref at_)])) (fun _ kz => ?_) ?_
        · show Steps p.tables e below (T15.setTop (mkF m 20 #[.val (.ref a), .val (.ref a), .val (.int (4 : Int32)), .val (.int (3 : Int32)), .val (.int x3)] [(.ref at_)])) _
          refine XS.iload X15.here hx rfl (hb hby d1_20) rfl ?_
          show Steps p.tables e below (T15.setTop (mkF m 22 #[.val (.ref a), .val (.ref a), .val (.int (4 : Int32)), .val (.int (3 : Int32)), .val (.int x3)] [(.int x3), (.ref at_)])) _
          refine XS.sipush X15.here hx rfl (hb hby d1_22) ?_
          show Steps p.tables e below (T15.setTop (mkF m 25 #[.val (.ref a), .val (.ref a), .val (.int (4 : Int32)), .val (.int (3 : Int32)), .val (.int x3)] [(.int (255 : Int32)), (.int x3), (.ref at_)])) _
          refine XS.iand X15.here hx rfl (hb hby d1_25) rfl ?_
          exact kz
        obtain ⟨cl16, Ar16, S16, Ht16⟩ := id Tb
        have hin16 : ¬ ((x3 &&& (255 : Int32)) < 0 ∨ cl16.slots.size ≤ ((x3 &&& (255 : Int32))).toNatClampNeg) := inb_of S16 ⟨own_a0 _, own_a1 _⟩
        refine own_go (A := T15.setTop (mkF m 27 #[.val (.ref a), .val (.ref a), .val (.int (4 : Int32)), .val (.int (3 : Int32)), .val (.int x3)] [(.int (own_tv (x3 &&& (255 : Int32))))])) (fun _ kz => ?_) ?_
        · refine X15.baloadBooleans hx (j := (x3 &&& (255 : Int32))) (v := (.int (own_tv (x3 &&& (255 : Int32))))) (e15 ▸ Ar16.1) (State.isArrayOf_alike hZ.alike Ar16.2.1) Ar16.2.2 hin16 (Ht16 _ (own_a0 _) (own_a1 _)) (g := (mkF m 26 #[.val (.ref a), .val (.ref a), .val (.int (4 : Int32)), .val (.int (3 : Int32)), .val (.int x3)] [(.int (x3 &&& (255 : Int32))), (.ref at_)])) rfl rfl (hb hby d1_26) _ ?_
          exact kz
        by_cases hs17 : (own_tv (x3 &&& (255 : Int32))) = (0 : Int32)
        · skip
          refine own_go (A := T15.setTop (mkF m 32 #[.val (.ref a), .val (.ref a), .val (.int (4 : Int32)), .val (.int (3 : Int32)), .val (.int x3)] [])) (fun _ kz => ?_) ?_
          · show Steps p.tables e below (T15.setTop (mkF m 27 #[.val (.ref a), .val (.ref a), .val (.int (4 : Int32)), .val (.int (3 : Int32)), .val (.int x3)] [(.int (own_tv (x3 &&& (255 : Int32))))])) _
            refine XS.ifYes X15.here hx rfl (pc0 := 27) (pc' := 32) rfl (hb hby d1_27) rfl ((if0 _ _).trans (teq hs17).1) (by decide) (by decide) ?_
            exact kz
          refine own_go (A := T15.setTop (mkF m 39 #[.val (.ref a), .val (.ref a), .val (.int (4 : Int32)), .val (.int (4 : Int32)), .val (.int x3)] [(.int (0 : Int32))])) (fun _ kz => ?_) ?_
          · show Steps p.tables e below (T15.setTop (mkF m 32 #[.val (.ref a), .val (.ref a), .val (.int (4 : Int32)), .val (.int (3 : Int32)), .val (.int x3)] [])) _
            refine XS.iinc X15.here hx rfl (hb hby d1_32) rfl (l' := #[.val (.ref a), .val (.ref a), .val (.int (4 : Int32)), .val (.int (4 : Int32)), .val (.int x3)]) rfl ?_
            show Steps p.tables e below (T15.setTop (mkF m 35 #[.val (.ref a), .val (.ref a), .val (.int (4 : Int32)), .val (.int (4 : Int32)), .val (.int x3)] [])) _
            refine XS.goto X15.here hx rfl (pc0 := 35) (pc' := 7) rfl (hb hby d1_35) (by decide) (by decide) ?_
            show Steps p.tables e below (T15.setTop (mkF m 7 #[.val (.ref a), .val (.ref a), .val (.int (4 : Int32)), .val (.int (4 : Int32)), .val (.int x3)] [])) _
            refine XS.iloadN X15.here hx rfl (hb hby d1_7) rfl ?_
            show Steps p.tables e below (T15.setTop (mkF m 8 #[.val (.ref a), .val (.ref a), .val (.int (4 : Int32)), .val (.int (4 : Int32)), .val (.int x3)] [(.int (4 : Int32))])) _
            refine XS.iloadN X15.here hx rfl (hb hby d1_8) rfl ?_
            show Steps p.tables e below (T15.setTop (mkF m 9 #[.val (.ref a), .val (.ref a), .val (.int (4 : Int32)), .val (.int (4 : Int32)), .val (.int x3)] [(.int (4 : Int32)), (.int (4 : Int32))])) _
            refine XS.icmpYes X15.here hx rfl (pc0 := 9) (pc' := 38) rfl (hb hby d1_9) rfl (flt (by decide : ¬ ((4 : Int32) < (4 : Int32)))).2.1 (by decide) (by decide) ?_
            show Steps p.tables e below (T15.setTop (mkF m 38 #[.val (.ref a), .val (.ref a), .val (.int (4 : Int32)), .val (.int (4 : Int32)), .val (.int x3)] [])) _
            refine XS.iconst X15.here hx rfl (hb hby d1_38) ?_
            exact kz
          obtain ⟨fs, hrr, hrun, hended, hW, hsame⟩ := X15.leave (v := some (.int (0 : Int32))) (fun h => by rw [Bd.returns] at h; cases h)
          refine ⟨_, _, ?_, hrun, hended, _, _, rfl, ?_, ⟨_, rfl⟩, hW, hsame.mono (by decide) (by decide)⟩
          · show Steps p.tables e below (T15.setTop (mkF m 39 #[.val (.ref a), .val (.ref a), .val (.int (4 : Int32)), .val (.int (4 : Int32)), .val (.int x3)] [(.int (0 : Int32))])) _
            exact retN X15 hx (t := .boolean) Bd.returns (by simp) (hb hby d1_39) hrr
          · show QrmF4 Z a at_ kc x0 x1 x2 x3 r h0 n0 _ T15.heap _
            rw [e15]
            exact ⟨by subst hr; simp [hs5, hs9, hs13, hs17], N0, rfl⟩
        · skip
          refine own_go (A := T15.setTop (mkF m 30 #[.val (.ref a), .val (.ref a), .val (.int (4 : Int32)), .val (.int (3 : Int32)), .val (.int x3)] [])) (fun _ kz => ?_) ?_
          · show Steps p.tables e below (T15.setTop (mkF m 27 #[.val (.ref a), .val (.ref a), .val (.int (4 : Int32)), .val (.int (3 : Int32)), .val (.int x3)] [(.int (own_tv (x3 &&& (255 : Int32))))])) _
            refine XS.ifNo X15.here hx rfl (hb hby d1_27) rfl ((if0 _ _).trans (feq hs17).1) ?_
            exact kz
          refine own_go (A := T15.setTop (mkF m 31 #[.val (.ref a), .val (.ref a), .val (.int (4 : Int32)), .val (.int (3 : Int32)), .val (.int x3)] [(.int (1 : Int32))])) (fun _ kz => ?_) ?_
          · show Steps p.tables e below (T15.setTop (mkF m 30 #[.val (.ref a), .val (.ref a), .val (.int (4 : Int32)), .val (.int (3 : Int32)), .val (.int x3)] [])) _
            refine XS.iconst X15.here hx rfl (hb hby d1_30) ?_
            exact kz
          obtain ⟨fs, hrr, hrun, hended, hW, hsame⟩ := X15.leave (v := some (.int (1 : Int32))) (fun h => by rw [Bd.returns] at h; cases h)
          refine ⟨_, _, ?_, hrun, hended, _, _, rfl, ?_, ⟨_, rfl⟩, hW, hsame.mono (by decide) (by decide)⟩
          · show Steps p.tables e below (T15.setTop (mkF m 31 #[.val (.ref a), .val (.ref a), .val (.int (4 : Int32)), .val (.int (3 : Int32)), .val (.int x3)] [(.int (1 : Int32))])) _
            exact retN X15 hx (t := .boolean) Bd.returns (by simp) (hb hby d1_31) hrr
          · show QrmF4 Z a at_ kc x0 x1 x2 x3 r h0 n0 _ T15.heap _
            rw [e15]
            exact ⟨by subst hr; simp [hs5, hs9, hs13, hs17], N0, rfl⟩
      · skip
        refine own_go (A := T11.setTop (mkF m 30 #[.val (.ref a), .val (.ref a), .val (.int (4 : Int32)), .val (.int (2 : Int32)), .val (.int x2)] [])) (fun _ kz => ?_) ?_
        · show Steps p.tables e below (T11.setTop (mkF m 27 #[.val (.ref a), .val (.ref a), .val (.int (4 : Int32)), .val (.int (2 : Int32)), .val (.int x2)] [(.int (own_tv (x2 &&& (255 : Int32))))])) _
          refine XS.ifNo X11.here hx rfl (hb hby d1_27) rfl ((if0 _ _).trans (feq hs13).1) ?_
          exact kz
        refine own_go (A := T11.setTop (mkF m 31 #[.val (.ref a), .val (.ref a), .val (.int (4 : Int32)), .val (.int (2 : Int32)), .val (.int x2)] [(.int (1 : Int32))])) (fun _ kz => ?_) ?_
        · show Steps p.tables e below (T11.setTop (mkF m 30 #[.val (.ref a), .val (.ref a), .val (.int (4 : Int32)), .val (.int (2 : Int32)), .val (.int x2)] [])) _
          refine XS.iconst X11.here hx rfl (hb hby d1_30) ?_
          exact kz
        obtain ⟨fs, hrr, hrun, hended, hW, hsame⟩ := X11.leave (v := some (.int (1 : Int32))) (fun h => by rw [Bd.returns] at h; cases h)
        refine ⟨_, _, ?_, hrun, hended, _, _, rfl, ?_, ⟨_, rfl⟩, hW, hsame.mono (by decide) (by decide)⟩
        · show Steps p.tables e below (T11.setTop (mkF m 31 #[.val (.ref a), .val (.ref a), .val (.int (4 : Int32)), .val (.int (2 : Int32)), .val (.int x2)] [(.int (1 : Int32))])) _
          exact retN X11 hx (t := .boolean) Bd.returns (by simp) (hb hby d1_31) hrr
        · show QrmF4 Z a at_ kc x0 x1 x2 x3 r h0 n0 _ T11.heap _
          rw [e11]
          exact ⟨by subst hr; simp [hs5, hs9, hs13], N0, rfl⟩
    · skip
      refine own_go (A := T7.setTop (mkF m 30 #[.val (.ref a), .val (.ref a), .val (.int (4 : Int32)), .val (.int (1 : Int32)), .val (.int x1)] [])) (fun _ kz => ?_) ?_
      · show Steps p.tables e below (T7.setTop (mkF m 27 #[.val (.ref a), .val (.ref a), .val (.int (4 : Int32)), .val (.int (1 : Int32)), .val (.int x1)] [(.int (own_tv (x1 &&& (255 : Int32))))])) _
        refine XS.ifNo X7.here hx rfl (hb hby d1_27) rfl ((if0 _ _).trans (feq hs9).1) ?_
        exact kz
      refine own_go (A := T7.setTop (mkF m 31 #[.val (.ref a), .val (.ref a), .val (.int (4 : Int32)), .val (.int (1 : Int32)), .val (.int x1)] [(.int (1 : Int32))])) (fun _ kz => ?_) ?_
      · show Steps p.tables e below (T7.setTop (mkF m 30 #[.val (.ref a), .val (.ref a), .val (.int (4 : Int32)), .val (.int (1 : Int32)), .val (.int x1)] [])) _
        refine XS.iconst X7.here hx rfl (hb hby d1_30) ?_
        exact kz
      obtain ⟨fs, hrr, hrun, hended, hW, hsame⟩ := X7.leave (v := some (.int (1 : Int32))) (fun h => by rw [Bd.returns] at h; cases h)
      refine ⟨_, _, ?_, hrun, hended, _, _, rfl, ?_, ⟨_, rfl⟩, hW, hsame.mono (by decide) (by decide)⟩
      · show Steps p.tables e below (T7.setTop (mkF m 31 #[.val (.ref a), .val (.ref a), .val (.int (4 : Int32)), .val (.int (1 : Int32)), .val (.int x1)] [(.int (1 : Int32))])) _
        exact retN X7 hx (t := .boolean) Bd.returns (by simp) (hb hby d1_31) hrr
      · show QrmF4 Z a at_ kc x0 x1 x2 x3 r h0 n0 _ T7.heap _
        rw [e7]
        exact ⟨by subst hr; simp [hs5, hs9], N0, rfl⟩
  · skip
    refine own_go (A := T3.setTop (mkF m 30 #[.val (.ref a), .val (.ref a), .val (.int (4 : Int32)), .val (.int (0 : Int32)), .val (.int x0)] [])) (fun _ kz => ?_) ?_
    · show Steps p.tables e below (T3.setTop (mkF m 27 #[.val (.ref a), .val (.ref a), .val (.int (4 : Int32)), .val (.int (0 : Int32)), .val (.int x0)] [(.int (own_tv (x0 &&& (255 : Int32))))])) _
      refine XS.ifNo X3.here hx rfl (hb hby d1_27) rfl ((if0 _ _).trans (feq hs5).1) ?_
      exact kz
    refine own_go (A := T3.setTop (mkF m 31 #[.val (.ref a), .val (.ref a), .val (.int (4 : Int32)), .val (.int (0 : Int32)), .val (.int x0)] [(.int (1 : Int32))])) (fun _ kz => ?_) ?_
    · show Steps p.tables e below (T3.setTop (mkF m 30 #[.val (.ref a), .val (.ref a), .val (.int (4 : Int32)), .val (.int (0 : Int32)), .val (.int x0)] [])) _
      refine XS.iconst X3.here hx rfl (hb hby d1_30) ?_
      exact kz
    obtain ⟨fs, hrr, hrun, hended, hW, hsame⟩ := X3.leave (v := some (.int (1 : Int32))) (fun h => by rw [Bd.returns] at h; cases h)
    refine ⟨_, _, ?_, hrun, hended, _, _, rfl, ?_, ⟨_, rfl⟩, hW, hsame.mono (by decide) (by decide)⟩
    · show Steps p.tables e below (T3.setTop (mkF m 31 #[.val (.ref a), .val (.ref a), .val (.int (4 : Int32)), .val (.int (0 : Int32)), .val (.int x0)] [(.int (1 : Int32))])) _
      exact retN X3 hx (t := .boolean) Bd.returns (by simp) (hb hby d1_31) hrr
    · show QrmF4 Z a at_ kc x0 x1 x2 x3 r h0 n0 _ T3.heap _
      rw [e3]
      exact ⟨by subst hr; simp [hs5], N0, rfl⟩
theorem own_pn0 : plainName "com/example/sharp_nose/sharpnose/BinaryDataFoundInPinLaw" = true := by first | (simp [plainName, overriddenIn]; done) | decide +kernel
theorem own_ef0 (m : MethodId) (x0 : Int32) (x1 : Int32) (x2 : Int32) (x3 : Int32) (x4 : Int32) : entryFrame m #[(.int x0), (.int x1), (.int x2), (.int x3), (.int x4)] maxLocals = mkF m 0 #[.val (.int x0), .val (.int x1), .val (.int x2), .val (.int x3), .val (.int x4), .unset, .unset, .unset, .unset] [] := by first | (simp [entryFrame, mkF, argsToLocals, Value.category, maxLocals]; done) | rfl
def Qrm0 (Z : State) (p1 p2 p3 p4 p5 : Int32) (at_ : Addr) (h0 : Heap) (n0 : Nat) (v : Option Value) (h : Heap) (L : List Loc) : Prop := v = some (.int 1) ∧ Fr n0 L
set_option maxRecDepth 65536 in
set_option maxHeartbeats 40000000 in
theorem rm0 (l : Launch) (Z : State) (a0 : Array Value) (hw : ∀ d ∈ tables_1, d.before a0 Z = true) (ws : List Jvm.Cond) (p1 p2 p3 p4 p5 : Int32) (at_ : Addr) (h0 : Heap) (n0 : Nat) (Z0 : n0 ≤ h0.size) (S_t : Sta Z h0 "com/example/sharp_nose/sharpnose/BinaryData" "BINARY_DATA_BYTES" "[Z" (.ref at_)) (Tb : own_Tab Z h0 at_) :
    MetFree l x (head1 (Jvm.Cond.code x code maxLocals ret :: ws) room_1) (fun ar_ U_ => ar_ = #[(.int p1), (.int p2), (.int p3), (.int p4), (.int p5)] ∧ Z.Warmed39 U_.vm ∧ U_.heap = h0) (fun _ _ _ _ _ => True) (fun _ U_ ou_ V_ => ∃ v_ L_, ou_ = .returned v_ ∧ Qrm0 Z p1 p2 p3 p4 p5 at_ h0 n0 v_ V_.heap L_ ∧ FrameEnd U_ ou_ V_ L_ room_1.cells room_1.slots) := by
  refine MetFree.of_bodySF (plainFor_of_name own_pn0) hisR ?_
  intro p e s m args below meth c s₁ Bd hml0 hP hK
  obtain ⟨rfl, hZ, hh⟩ := hP
  have hx := Bd.exec
  have hby := Bd.bytes
  have hml : c.maxLocals = 9 := hml0
  have hown : s.vm.findClass "com/example/sharp_nose/sharpnose/BinaryDataFoundInPinLaw" = some m.cls := findClass_of_methodNamed Bd.named
  have hnm := (name_of_methodNamed Bd.named Bd.method).1
  have X0 : Stand p l e room_1 s m #[(.int p1), (.int p2), (.int p3), (.int p4), (.int p5)] below meth c s₁ [] 0 0 := Stand.of_body Bd
  have e0 : s₁.heap = h0 := by rw [← hh, Bd.state]; rfl
  have N0 := Fr.nil n0
  refine own_go (A := s₁.setTop (mkF m 0 #[.val (.int p1), .val (.int p2), .val (.int p3), .val (.int p4), .val (.int p5), .unset, .unset, .unset, .unset] [])) (fun t kz => castTop (own_ef0 m p1 p2 p3 p4 p5) kz) ?_
  refine own_go (A := s₁.setTop (mkF m 9 #[.val (.int p1), .val (.int p2), .val (.int p3), .val (.int p4), .val (.int p5), .val (.int ((p1 &&& (2147483647 : Int32)) % (5 : Int32))), .unset, .unset, .unset] [(.int (4 : Int32))])) (fun _ kz => ?_) ?_
  · show Steps p.tables e below (s₁.setTop (mkF m 0 #[.val (.int p1), .val (.int p2), .val (.int p3), .val (.int p4), .val (.int p5), .unset, .unset, .unset, .unset] [])) _
    refine XS.iloadN X0.here hx rfl (hb hby at_0) rfl ?_
    show Steps p.tables e below (s₁.setTop (mkF m 1 #[.val (.int p1), .val (.int p2), .val (.int p3), .val (.int p4), .val (.int p5), .unset, .unset, .unset, .unset] [(.int p1)])) _
    refine X0.ldcInt hx hown (mvT hZ (hw _ (List.mem_of_getElem? (i := 0) rfl))) (g := (mkF m 1 #[.val (.int p1), .val (.int p2), .val (.int p3), .val (.int p4), .val (.int p5), .unset, .unset, .unset, .unset] [(.int p1)])) rfl (hb hby at_1) _ ?_
    show Steps p.tables e below (s₁.setTop (mkF m 3 #[.val (.int p1), .val (.int p2), .val (.int p3), .val (.int p4), .val (.int p5), .unset, .unset, .unset, .unset] [(.int (2147483647 : Int32)), (.int p1)])) _
    refine XS.iand X0.here hx rfl (hb hby at_3) rfl ?_
    show Steps p.tables e below (s₁.setTop (mkF m 4 #[.val (.int p1), .val (.int p2), .val (.int p3), .val (.int p4), .val (.int p5), .unset, .unset, .unset, .unset] [(.int (p1 &&& (2147483647 : Int32)))])) _
    refine XS.iconst X0.here hx rfl (hb hby at_4) ?_
    show Steps p.tables e below (s₁.setTop (mkF m 5 #[.val (.int p1), .val (.int p2), .val (.int p3), .val (.int p4), .val (.int p5), .unset, .unset, .unset, .unset] [(.int (5 : Int32)), (.int (p1 &&& (2147483647 : Int32)))])) _
    refine iremM X0 hx rfl (hb hby at_5) rfl (by decide) ?_
    show Steps p.tables e below (s₁.setTop (mkF m 6 #[.val (.int p1), .val (.int p2), .val (.int p3), .val (.int p4), .val (.int p5), .unset, .unset, .unset, .unset] [(.int ((p1 &&& (2147483647 : Int32)) % (5 : Int32)))])) _
    refine XS.istore X0.here hx rfl (hb hby at_6) rfl (l' := #[.val (.int p1), .val (.int p2), .val (.int p3), .val (.int p4), .val (.int p5), .val (.int ((p1 &&& (2147483647 : Int32)) % (5 : Int32))), .unset, .unset, .unset]) rfl ?_
    show Steps p.tables e below (s₁.setTop (mkF m 8 #[.val (.int p1), .val (.int p2), .val (.int p3), .val (.int p4), .val (.int p5), .val (.int ((p1 &&& (2147483647 : Int32)) % (5 : Int32))), .unset, .unset, .unset] [])) _
    refine XS.iconst X0.here hx rfl (hb hby at_8) ?_
    exact kz
  obtain ⟨T1, h1, k1, X1, e1, E1, A1, st1⟩ := newP X0 hx hZ (hw _ (List.mem_of_getElem? (i := 1) rfl)) e0 (g := (mkF m 9 #[.val (.int p1), .val (.int p2), .val (.int p3), .val (.int p4), .val (.int p5), .val (.int ((p1 &&& (2147483647 : Int32)) % (5 : Int32))), .unset, .unset, .unset] [(.int (4 : Int32))])) rfl (hb hby at_9) rfl (by decide) (cap := 4) (by decide) (by decide) (by decide) (by decide)
  obtain ⟨b1, gq1⟩ : ∃ z, z = h0.size := ⟨_, rfl⟩
  rw [← gq1] at A1 st1
  have g_b1 : n0 ≤ b1 := Nat.le_trans Z0 (Nat.le_of_eq gq1.symm)
  have ne_at__b1 : at_ ≠ b1 := Nat.ne_of_lt (Nat.lt_of_lt_of_le Tb.lt (Nat.le_of_eq gq1.symm))
  replace S_t := S_t.ext E1
  replace Tb := Tb.ext E1
  have Z1 : n0 ≤ h1.size := Nat.le_trans Z0 E1.1
  have Av_b1 : Arv Z h1 b1 k1 .byte (4 : Int32) [(.int (0 : Int32)), (.int (0 : Int32)), (.int (0 : Int32)), (.int (0 : Int32))] (.int (0 : Int32)) := (Arv.new A1 (by decide)).pad (pad_rep [] (.int (0 : Int32)) 4)
  refine own_go (A := T1.setTop (mkF m 11 #[.val (.int p1), .val (.int p2), .val (.int p3), .val (.int p4), .val (.int p5), .val (.int ((p1 &&& (2147483647 : Int32)) % (5 : Int32))), .unset, .unset, .unset] [(.ref b1)])) (fun _ kz => st1 _ kz) ?_
  refine own_go (A := T1.setTop (mkF m 15 #[.val (.int p1), .val (.int p2), .val (.int p3), .val (.int p4), .val (.int p5), .val (.int ((p1 &&& (2147483647 : Int32)) % (5 : Int32))), .unset, .unset, .unset] [(.int (p2.toInt8.toInt32)), (.int (0 : Int32)), (.ref b1), (.ref b1)])) (fun _ kz => ?_) ?_
  · show Steps p.tables e below (T1.setTop (mkF m 11 #[.val (.int p1), .val (.int p2), .val (.int p3), .val (.int p4), .val (.int p5), .val (.int ((p1 &&& (2147483647 : Int32)) % (5 : Int32))), .unset, .unset, .unset] [(.ref b1)])) _
    refine XS.dup X1.here hx rfl (hb hby at_11) rfl rfl ?_
    show Steps p.tables e below (T1.setTop (mkF m 12 #[.val (.int p1), .val (.int p2), .val (.int p3), .val (.int p4), .val (.int p5), .val (.int ((p1 &&& (2147483647 : Int32)) % (5 : Int32))), .unset, .unset, .unset] [(.ref b1), (.ref b1)])) _
    refine XS.iconst X1.here hx rfl (hb hby at_12) ?_
    show Steps p.tables e below (T1.setTop (mkF m 13 #[.val (.int p1), .val (.int p2), .val (.int p3), .val (.int p4), .val (.int p5), .val (.int ((p1 &&& (2147483647 : Int32)) % (5 : Int32))), .unset, .unset, .unset] [(.int (0 : Int32)), (.ref b1), (.ref b1)])) _
    refine XS.iloadN X1.here hx rfl (hb hby at_13) rfl ?_
    show Steps p.tables e below (T1.setTop (mkF m 14 #[.val (.int p1), .val (.int p2), .val (.int p3), .val (.int p4), .val (.int p5), .val (.int ((p1 &&& (2147483647 : Int32)) % (5 : Int32))), .unset, .unset, .unset] [(.int p2), (.int (0 : Int32)), (.ref b1), (.ref b1)])) _
    refine XS.i2b X1.here hx rfl (hb hby at_14) rfl ?_
    exact kz
  obtain ⟨cl2, Ar2, q2, S2, M2, H2, G2⟩ := id Av_b1
  have hin2 : ¬ ((0 : Int32) < 0 ∨ cl2.slots.size ≤ ((0 : Int32)).toNatClampNeg) := inb_of S2 ⟨by decide, by decide⟩
  obtain ⟨T2, h2, X2, e2, W2, st2⟩ := stB X1 hx hZ e1 Ar2 (j := (0 : Int32)) hin2 (g := (mkF m 15 #[.val (.int p1), .val (.int p2), .val (.int p3), .val (.int p4), .val (.int p5), .val (.int ((p1 &&& (2147483647 : Int32)) % (5 : Int32))), .unset, .unset, .unset] [(.int (p2.toInt8.toInt32)), (.int (0 : Int32)), (.ref b1), (.ref b1)])) rfl rfl (hb hby at_15)
  rw [own_nbn] at W2
  have Aw2 := Arv.set Ar2 q2 S2 M2 H2 G2 (fits_nar_byte _) W2 0 rfl (Nat.le_of_ble_eq_true rfl)
  replace S_t := S_t.wr W2
  replace Tb := Tb.other W2 ne_at__b1
  have Z2 : n0 ≤ h2.size := Nat.le_trans Z1 (Keep.of_wr W2).1
  have Av_b1 : Arv Z h2 b1 k1 .byte (4 : Int32) [(.int (p2.toInt8.toInt32)), (.int (0 : Int32)), (.int (0 : Int32)), (.int (0 : Int32))] (.int (0 : Int32)) := Aw2
  have N2 := Fr.snoc X2 N0 g_b1
  refine own_go (A := T2.setTop (mkF m 16 #[.val (.int p1), .val (.int p2), .val (.int p3), .val (.int p4), .val (.int p5), .val (.int ((p1 &&& (2147483647 : Int32)) % (5 : Int32))), .unset, .unset, .unset] [(.ref b1)])) (fun _ kz => st2 _ kz) ?_
  refine own_go (A := T2.setTop (mkF m 20 #[.val (.int p1), .val (.int p2), .val (.int p3), .val (.int p4), .val (.int p5), .val (.int ((p1 &&& (2147483647 : Int32)) % (5 : Int32))), .unset, .unset, .unset] [(.int (p3.toInt8.toInt32)), (.int (1 : Int32)), (.ref b1), (.ref b1)])) (fun _ kz => ?_) ?_
  · show Steps p.tables e below (T2.setTop (mkF m 16 #[.val (.int p1), .val (.int p2), .val (.int p3), .val (.int p4), .val (.int p5), .val (.int ((p1 &&& (2147483647 : Int32)) % (5 : Int32))), .unset, .unset, .unset] [(.ref b1)])) _
    refine XS.dup X2.here hx rfl (hb hby at_16) rfl rfl ?_
    show Steps p.tables e below (T2.setTop (mkF m 17 #[.val (.int p1), .val (.int p2), .val (.int p3), .val (.int p4), .val (.int p5), .val (.int ((p1 &&& (2147483647 : Int32)) % (5 : Int32))), .unset, .unset, .unset] [(.ref b1), (.ref b1)])) _
    refine XS.iconst X2.here hx rfl (hb hby at_17) ?_
    show Steps p.tables e below (T2.setTop (mkF m 18 #[.val (.int p1), .val (.int p2), .val (.int p3), .val (.int p4), .val (.int p5), .val (.int ((p1 &&& (2147483647 : Int32)) % (5 : Int32))), .unset, .unset, .unset] [(.int (1 : Int32)), (.ref b1), (.ref b1)])) _
    refine XS.iloadN X2.here hx rfl (hb hby at_18) rfl ?_
    show Steps p.tables e below (T2.setTop (mkF m 19 #[.val (.int p1), .val (.int p2), .val (.int p3), .val (.int p4), .val (.int p5), .val (.int ((p1 &&& (2147483647 : Int32)) % (5 : Int32))), .unset, .unset, .unset] [(.int p3), (.int (1 : Int32)), (.ref b1), (.ref b1)])) _
    refine XS.i2b X2.here hx rfl (hb hby at_19) rfl ?_
    exact kz
  obtain ⟨cl3, Ar3, q3, S3, M3, H3, G3⟩ := id Av_b1
  have hin3 : ¬ ((1 : Int32) < 0 ∨ cl3.slots.size ≤ ((1 : Int32)).toNatClampNeg) := inb_of S3 ⟨by decide, by decide⟩
  obtain ⟨T3, h3, X3, e3, W3, st3⟩ := stB X2 hx hZ e2 Ar3 (j := (1 : Int32)) hin3 (g := (mkF m 20 #[.val (.int p1), .val (.int p2), .val (.int p3), .val (.int p4), .val (.int p5), .val (.int ((p1 &&& (2147483647 : Int32)) % (5 : Int32))), .unset, .unset, .unset] [(.int (p3.toInt8.toInt32)), (.int (1 : Int32)), (.ref b1), (.ref b1)])) rfl rfl (hb hby at_20)
  rw [own_nbn] at W3
  have Aw3 := Arv.set Ar3 q3 S3 M3 H3 G3 (fits_nar_byte _) W3 1 rfl (Nat.le_of_ble_eq_true rfl)
  replace S_t := S_t.wr W3
  replace Tb := Tb.other W3 ne_at__b1
  have Z3 : n0 ≤ h3.size := Nat.le_trans Z2 (Keep.of_wr W3).1
  have Av_b1 : Arv Z h3 b1 k1 .byte (4 : Int32) [(.int (p2.toInt8.toInt32)), (.int (p3.toInt8.toInt32)), (.int (0 : Int32)), (.int (0 : Int32))] (.int (0 : Int32)) := Aw3
  have N3 := Fr.snoc X3 N2 g_b1
  refine own_go (A := T3.setTop (mkF m 21 #[.val (.int p1), .val (.int p2), .val (.int p3), .val (.int p4), .val (.int p5), .val (.int ((p1 &&& (2147483647 : Int32)) % (5 : Int32))), .unset, .unset, .unset] [(.ref b1)])) (fun _ kz => st3 _ kz) ?_
  refine own_go (A := T3.setTop (mkF m 25 #[.val (.int p1), .val (.int p2), .val (.int p3), .val (.int p4), .val (.int p5), .val (.int ((p1 &&& (2147483647 : Int32)) % (5 : Int32))), .unset, .unset, .unset] [(.int (p4.toInt8.toInt32)), (.int (2 : Int32)), (.ref b1), (.ref b1)])) (fun _ kz => ?_) ?_
  · show Steps p.tables e below (T3.setTop (mkF m 21 #[.val (.int p1), .val (.int p2), .val (.int p3), .val (.int p4), .val (.int p5), .val (.int ((p1 &&& (2147483647 : Int32)) % (5 : Int32))), .unset, .unset, .unset] [(.ref b1)])) _
    refine XS.dup X3.here hx rfl (hb hby at_21) rfl rfl ?_
    show Steps p.tables e below (T3.setTop (mkF m 22 #[.val (.int p1), .val (.int p2), .val (.int p3), .val (.int p4), .val (.int p5), .val (.int ((p1 &&& (2147483647 : Int32)) % (5 : Int32))), .unset, .unset, .unset] [(.ref b1), (.ref b1)])) _
    refine XS.iconst X3.here hx rfl (hb hby at_22) ?_
    show Steps p.tables e below (T3.setTop (mkF m 23 #[.val (.int p1), .val (.int p2), .val (.int p3), .val (.int p4), .val (.int p5), .val (.int ((p1 &&& (2147483647 : Int32)) % (5 : Int32))), .unset, .unset, .unset] [(.int (2 : Int32)), (.ref b1), (.ref b1)])) _
    refine XS.iloadN X3.here hx rfl (hb hby at_23) rfl ?_
    show Steps p.tables e below (T3.setTop (mkF m 24 #[.val (.int p1), .val (.int p2), .val (.int p3), .val (.int p4), .val (.int p5), .val (.int ((p1 &&& (2147483647 : Int32)) % (5 : Int32))), .unset, .unset, .unset] [(.int p4), (.int (2 : Int32)), (.ref b1), (.ref b1)])) _
    refine XS.i2b X3.here hx rfl (hb hby at_24) rfl ?_
    exact kz
  obtain ⟨cl4, Ar4, q4, S4, M4, H4, G4⟩ := id Av_b1
  have hin4 : ¬ ((2 : Int32) < 0 ∨ cl4.slots.size ≤ ((2 : Int32)).toNatClampNeg) := inb_of S4 ⟨by decide, by decide⟩
  obtain ⟨T4, h4, X4, e4, W4, st4⟩ := stB X3 hx hZ e3 Ar4 (j := (2 : Int32)) hin4 (g := (mkF m 25 #[.val (.int p1), .val (.int p2), .val (.int p3), .val (.int p4), .val (.int p5), .val (.int ((p1 &&& (2147483647 : Int32)) % (5 : Int32))), .unset, .unset, .unset] [(.int (p4.toInt8.toInt32)), (.int (2 : Int32)), (.ref b1), (.ref b1)])) rfl rfl (hb hby at_25)
  rw [own_nbn] at W4
  have Aw4 := Arv.set Ar4 q4 S4 M4 H4 G4 (fits_nar_byte _) W4 2 rfl (Nat.le_of_ble_eq_true rfl)
  replace S_t := S_t.wr W4
  replace Tb := Tb.other W4 ne_at__b1
  have Z4 : n0 ≤ h4.size := Nat.le_trans Z3 (Keep.of_wr W4).1
  have Av_b1 : Arv Z h4 b1 k1 .byte (4 : Int32) [(.int (p2.toInt8.toInt32)), (.int (p3.toInt8.toInt32)), (.int (p4.toInt8.toInt32)), (.int (0 : Int32))] (.int (0 : Int32)) := Aw4
  have N4 := Fr.snoc X4 N3 g_b1
  refine own_go (A := T4.setTop (mkF m 26 #[.val (.int p1), .val (.int p2), .val (.int p3), .val (.int p4), .val (.int p5), .val (.int ((p1 &&& (2147483647 : Int32)) % (5 : Int32))), .unset, .unset, .unset] [(.ref b1)])) (fun _ kz => st4 _ kz) ?_
  refine own_go (A := T4.setTop (mkF m 31 #[.val (.int p1), .val (.int p2), .val (.int p3), .val (.int p4), .val (.int p5), .val (.int ((p1 &&& (2147483647 : Int32)) % (5 : Int32))), .unset, .unset, .unset] [(.int (p5.toInt8.toInt32)), (.int (3 : Int32)), (.ref b1), (.ref b1)])) (fun _ kz => ?_) ?_
  · show Steps p.tables e below (T4.setTop (mkF m 26 #[.val (.int p1), .val (.int p2), .val (.int p3), .val (.int p4), .val (.int p5), .val (.int ((p1 &&& (2147483647 : Int32)) % (5 : Int32))), .unset, .unset, .unset] [(.ref b1)])) _
    refine XS.dup X4.here hx rfl (hb hby at_26) rfl rfl ?_
    show Steps p.tables e below (T4.setTop (mkF m 27 #[.val (.int p1), .val (.int p2), .val (.int p3), .val (.int p4), .val (.int p5), .val (.int ((p1 &&& (2147483647 : Int32)) % (5 : Int32))), .unset, .unset, .unset] [(.ref b1), (.ref b1)])) _
    refine XS.iconst X4.here hx rfl (hb hby at_27) ?_
    show Steps p.tables e below (T4.setTop (mkF m 28 #[.val (.int p1), .val (.int p2), .val (.int p3), .val (.int p4), .val (.int p5), .val (.int ((p1 &&& (2147483647 : Int32)) % (5 : Int32))), .unset, .unset, .unset] [(.int (3 : Int32)), (.ref b1), (.ref b1)])) _
    refine XS.iload X4.here hx rfl (hb hby at_28) rfl ?_
    show Steps p.tables e below (T4.setTop (mkF m 30 #[.val (.int p1), .val (.int p2), .val (.int p3), .val (.int p4), .val (.int p5), .val (.int ((p1 &&& (2147483647 : Int32)) % (5 : Int32))), .unset, .unset, .unset] [(.int p5), (.int (3 : Int32)), (.ref b1), (.ref b1)])) _
    refine XS.i2b X4.here hx rfl (hb hby at_30) rfl ?_
    exact kz
  obtain ⟨cl5, Ar5, q5, S5, M5, H5, G5⟩ := id Av_b1
  have hin5 : ¬ ((3 : Int32) < 0 ∨ cl5.slots.size ≤ ((3 : Int32)).toNatClampNeg) := inb_of S5 ⟨by decide, by decide⟩
  obtain ⟨T5, h5, X5, e5, W5, st5⟩ := stB X4 hx hZ e4 Ar5 (j := (3 : Int32)) hin5 (g := (mkF m 31 #[.val (.int p1), .val (.int p2), .val (.int p3), .val (.int p4), .val (.int p5), .val (.int ((p1 &&& (2147483647 : Int32)) % (5 : Int32))), .unset, .unset, .unset] [(.int (p5.toInt8.toInt32)), (.int (3 : Int32)), (.ref b1), (.ref b1)])) rfl rfl (hb hby at_31)
  rw [own_nbn] at W5
  have Aw5 := Arv.set Ar5 q5 S5 M5 H5 G5 (fits_nar_byte _) W5 3 rfl (Nat.le_of_ble_eq_true rfl)
  replace S_t := S_t.wr W5
  replace Tb := Tb.other W5 ne_at__b1
  have Z5 : n0 ≤ h5.size := Nat.le_trans Z4 (Keep.of_wr W5).1
  have Av_b1 : Arv Z h5 b1 k1 .byte (4 : Int32) [(.int (p2.toInt8.toInt32)), (.int (p3.toInt8.toInt32)), (.int (p4.toInt8.toInt32)), (.int (p5.toInt8.toInt32))] (.int (0 : Int32)) := Aw5
  have N5 := Fr.snoc X5 N4 g_b1
  refine own_go (A := T5.setTop (mkF m 32 #[.val (.int p1), .val (.int p2), .val (.int p3), .val (.int p4), .val (.int p5), .val (.int ((p1 &&& (2147483647 : Int32)) % (5 : Int32))), .unset, .unset, .unset] [(.ref b1)])) (fun _ kz => st5 _ kz) ?_
  refine own_go (A := T5.setTop (mkF m 34 #[.val (.int p1), .val (.int p2), .val (.int p3), .val (.int p4), .val (.int p5), .val (.int ((p1 &&& (2147483647 : Int32)) % (5 : Int32))), .val (.ref b1), .unset, .unset] [])) (fun _ kz => ?_) ?_
  · show Steps p.tables e below (T5.setTop (mkF m 32 #[.val (.int p1), .val (.int p2), .val (.int p3), .val (.int p4), .val (.int p5), .val (.int ((p1 &&& (2147483647 : Int32)) % (5 : Int32))), .unset, .unset, .unset] [(.ref b1)])) _
    refine XS.astore X5.here hx rfl (hb hby at_32) rfl rfl (l' := #[.val (.int p1), .val (.int p2), .val (.int p3), .val (.int p4), .val (.int p5), .val (.int ((p1 &&& (2147483647 : Int32)) % (5 : Int32))), .val (.ref b1), .unset, .unset]) rfl ?_
    exact kz
  obtain ⟨kk, hkk⟩ : ∃ z, z = ((p1 &&& (2147483647 : Int32)) % (5 : Int32)) := ⟨_, rfl⟩
  refine own_go (A := T5.setTop (mkF m 34 #[.val (.int p1), .val (.int p2), .val (.int p3), .val (.int p4), .val (.int p5), .val (.int kk), .val (.ref b1), .unset, .unset] [])) (fun _ kz => by rw [hkk] at kz; exact kz) ?_
  rcases own_mod _ hkk with rfl | rfl | rfl | rfl | rfl
  · skip
    refine own_go (A := T5.setTop (mkF m 36 #[.val (.int p1), .val (.int p2), .val (.int p3), .val (.int p4), .val (.int p5), .val (.int (0 : Int32)), .val (.ref b1), .unset, .unset] [(.int (0 : Int32))])) (fun _ kz => ?_) ?_
    · show Steps p.tables e below (T5.setTop (mkF m 34 #[.val (.int p1), .val (.int p2), .val (.int p3), .val (.int p4), .val (.int p5), .val (.int (0 : Int32)), .val (.ref b1), .unset, .unset] [])) _
      refine XS.iload X5.here hx rfl (hb hby at_34) rfl ?_
      exact kz
    obtain ⟨T6, h6, k6, X6, e6, E6, A6, st6⟩ := newP X5 hx hZ (hw _ (List.mem_of_getElem? (i := 1) rfl)) e5 (g := (mkF m 36 #[.val (.int p1), .val (.int p2), .val (.int p3), .val (.int p4), .val (.int p5), .val (.int (0 : Int32)), .val (.ref b1), .unset, .unset] [(.int (0 : Int32))])) rfl (hb hby at_36) rfl (by decide) (cap := 0) (by decide) (by decide) (by decide) (by decide)
    obtain ⟨b6, gq6⟩ : ∃ z, z = h5.size := ⟨_, rfl⟩
    rw [← gq6] at A6 st6
    have g_b6 : n0 ≤ b6 := Nat.le_trans Z5 (Nat.le_of_eq gq6.symm)
    have ne_at__b6 : at_ ≠ b6 := Nat.ne_of_lt (Nat.lt_of_lt_of_le Tb.lt (Nat.le_of_eq gq6.symm))
    have ne_b1_b6 : b1 ≠ b6 := Nat.ne_of_lt (Nat.lt_of_lt_of_le Av_b1.lt (Nat.le_of_eq gq6.symm))
    replace S_t := S_t.ext E6
    replace Tb := Tb.ext E6
    replace Av_b1 := Av_b1.ext E6
    have Z6 : n0 ≤ h6.size := Nat.le_trans Z5 E6.1
    have Av_b6 : Arv Z h6 b6 k6 .byte (0 : Int32) [] (.int (0 : Int32)) := Arv.new A6 (by decide)
    refine own_go (A := T6.setTop (mkF m 38 #[.val (.int p1), .val (.int p2), .val (.int p3), .val (.int p4), .val (.int p5), .val (.int (0 : Int32)), .val (.ref b1), .unset, .unset] [(.ref b6)])) (fun _ kz => st6 _ kz) ?_
    refine own_go (A := T6.setTop (mkF m 188 #[.val (.int p1), .val (.int p2), .val (.int p3), .val (.int p4), .val (.int p5), .val (.int (0 : Int32)), .val (.ref b1), .val (.ref b6), .val (.int (0 : Int32))] [(.ref b6)])) (fun _ kz => ?_) ?_
    · show Steps p.tables e below (T6.setTop (mkF m 38 #[.val (.int p1), .val (.int p2), .val (.int p3), .val (.int p4), .val (.int p5), .val (.int (0 : Int32)), .val (.ref b1), .unset, .unset] [(.ref b6)])) _
      refine XS.astore X6.here hx rfl (hb hby at_38) rfl rfl (l' := #[.val (.int p1), .val (.int p2), .val (.int p3), .val (.int p4), .val (.int p5), .val (.int (0 : Int32)), .val (.ref b1), .val (.ref b6), .unset]) rfl ?_
      show Steps p.tables e below (T6.setTop (mkF m 40 #[.val (.int p1), .val (.int p2), .val (.int p3), .val (.int p4), .val (.int p5), .val (.int (0 : Int32)), .val (.ref b1), .val (.ref b6), .unset] [])) _
      refine XS.iconst X6.here hx rfl (hb hby at_40) ?_
      show Steps p.tables e below (T6.setTop (mkF m 41 #[.val (.int p1), .val (.int p2), .val (.int p3), .val (.int p4), .val (.int p5), .val (.int (0 : Int32)), .val (.ref b1), .val (.ref b6), .unset] [(.int (0 : Int32))])) _
      refine XS.istore X6.here hx rfl (hb hby at_41) rfl (l' := #[.val (.int p1), .val (.int p2), .val (.int p3), .val (.int p4), .val (.int p5), .val (.int (0 : Int32)), .val (.ref b1), .val (.ref b6), .val (.int (0 : Int32))]) rfl ?_
      show Steps p.tables e below (T6.setTop (mkF m 43 #[.val (.int p1), .val (.int p2), .val (.int p3), .val (.int p4), .val (.int p5), .val (.int (0 : Int32)), .val (.ref b1), .val (.ref b6), .val (.int (0 : Int32))] [])) _
      refine XS.iload X6.here hx rfl (hb hby at_43) rfl ?_
      show Steps p.tables e below (T6.setTop (mkF m 45 #[.val (.int p1), .val (.int p2), .val (.int p3), .val (.int p4), .val (.int p5), .val (.int (0 : Int32)), .val (.ref b1), .val (.ref b6), .val (.int (0 : Int32))] [(.int (0 : Int32))])) _
      refine XS.ifYes X6.here hx rfl (pc0 := 45) (pc' := 78) rfl (hb hby at_45) rfl ((if0 _ _).trans (flt (by decide : ¬ ((0 : Int32) < (0 : Int32)))).2.2.2) (by decide) (by decide) ?_
      show Steps p.tables e below (T6.setTop (mkF m 78 #[.val (.int p1), .val (.int p2), .val (.int p3), .val (.int p4), .val (.int p5), .val (.int (0 : Int32)), .val (.ref b1), .val (.ref b6), .val (.int (0 : Int32))] [])) _
      refine XS.iload X6.here hx rfl (hb hby at_78) rfl ?_
      show Steps p.tables e below (T6.setTop (mkF m 80 #[.val (.int p1), .val (.int p2), .val (.int p3), .val (.int p4), .val (.int p5), .val (.int (0 : Int32)), .val (.ref b1), .val (.ref b6), .val (.int (0 : Int32))] [(.int (0 : Int32))])) _
      refine XS.iconst X6.here hx rfl (hb hby at_80) ?_
      show Steps p.tables e below (T6.setTop (mkF m 81 #[.val (.int p1), .val (.int p2), .val (.int p3), .val (.int p4), .val (.int p5), .val (.int (0 : Int32)), .val (.ref b1), .val (.ref b6), .val (.int (0 : Int32))] [(.int (1 : Int32)), (.int (0 : Int32))])) _
      refine XS.icmpYes X6.here hx rfl (pc0 := 81) (pc' := 114) rfl (hb hby at_81) rfl (flt (by decide : ¬ ((1 : Int32) < (0 : Int32)))).2.2.2 (by decide) (by decide) ?_
      show Steps p.tables e below (T6.setTop (mkF m 114 #[.val (.int p1), .val (.int p2), .val (.int p3), .val (.int p4), .val (.int p5), .val (.int (0 : Int32)), .val (.ref b1), .val (.ref b6), .val (.int (0 : Int32))] [])) _
      refine XS.iload X6.here hx rfl (hb hby at_114) rfl ?_
      show Steps p.tables e below (T6.setTop (mkF m 116 #[.val (.int p1), .val (.int p2), .val (.int p3), .val (.int p4), .val (.int p5), .val (.int (0 : Int32)), .val (.ref b1), .val (.ref b6), .val (.int (0 : Int32))] [(.int (0 : Int32))])) _
      refine XS.iconst X6.here hx rfl (hb hby at_116) ?_
      show Steps p.tables e below (T6.setTop (mkF m 117 #[.val (.int p1), .val (.int p2), .val (.int p3), .val (.int p4), .val (.int p5), .val (.int (0 : Int32)), .val (.ref b1), .val (.ref b6), .val (.int (0 : Int32))] [(.int (2 : Int32)), (.int (0 : Int32))])) _
      refine XS.icmpYes X6.here hx rfl (pc0 := 117) (pc' := 150) rfl (hb hby at_117) rfl (flt (by decide : ¬ ((2 : Int32) < (0 : Int32)))).2.2.2 (by decide) (by decide) ?_
      show Steps p.tables e below (T6.setTop (mkF m 150 #[.val (.int p1), .val (.int p2), .val (.int p3), .val (.int p4), .val (.int p5), .val (.int (0 : Int32)), .val (.ref b1), .val (.ref b6), .val (.int (0 : Int32))] [])) _
      refine XS.iload X6.here hx rfl (hb hby at_150) rfl ?_
      show Steps p.tables e below (T6.setTop (mkF m 152 #[.val (.int p1), .val (.int p2), .val (.int p3), .val (.int p4), .val (.int p5), .val (.int (0 : Int32)), .val (.ref b1), .val (.ref b6), .val (.int (0 : Int32))] [(.int (0 : Int32))])) _
      refine XS.iconst X6.here hx rfl (hb hby at_152) ?_
      show Steps p.tables e below (T6.setTop (mkF m 153 #[.val (.int p1), .val (.int p2), .val (.int p3), .val (.int p4), .val (.int p5), .val (.int (0 : Int32)), .val (.ref b1), .val (.ref b6), .val (.int (0 : Int32))] [(.int (3 : Int32)), (.int (0 : Int32))])) _
      refine XS.icmpYes X6.here hx rfl (pc0 := 153) (pc' := 186) rfl (hb hby at_153) rfl (flt (by decide : ¬ ((3 : Int32) < (0 : Int32)))).2.2.2 (by decide) (by decide) ?_
      show Steps p.tables e below (T6.setTop (mkF m 186 #[.val (.int p1), .val (.int p2), .val (.int p3), .val (.int p4), .val (.int p5), .val (.int (0 : Int32)), .val (.ref b1), .val (.ref b6), .val (.int (0 : Int32))] [])) _
      refine XS.aload X6.here hx rfl (hb hby at_186) rfl rfl ?_
      exact kz
    obtain ⟨_, _, ⟨T7, L7, k7, n7⟩, -, X7, ⟨Lc7, hQ7, l7, y7, z7⟩, st7⟩ := Jvm.LawKit.callS X6 hx (y := (⟨"com/example/sharp_nose/sharpnose/BinaryData", "foundIn", "([B)Z"⟩ : MethodName)) hown (mvT hZ (hw _ (List.mem_of_getElem? (i := 2) rfl))) (mvT hZ (hw _ (List.mem_of_getElem? (i := 3) rfl))) (mvT hZ (hw _ (List.mem_of_getElem? (i := 4) rfl))) (mvT hZ (hw _ (List.mem_of_getElem? (i := 5) rfl))) (by decide) (backOf (W := 0) (rmF0 l Z a0 hw [] b6 at_ k6  (0 : Int32) h6 n0 Z6 Av_b6 S_t Tb (by simp [])) hZ (hw _ (List.mem_of_getElem? (i := 5) rfl)) (hw _ (List.mem_of_getElem? (i := 4) rfl)) (by decide) (by decide)) (g := (mkF m 188 #[.val (.int p1), .val (.int p2), .val (.int p3), .val (.int p4), .val (.int p5), .val (.int (0 : Int32)), .val (.ref b1), .val (.ref b6), .val (.int (0 : Int32))] [(.ref b6)])) rfl (by rw [hml]; rfl) (argsL := [(.ref b6)]) (rest := []) (lenOf own_pd0 rfl) rfl (by show 2 * 0 + _ ≤ _; exact Nat.le_of_eq rfl) (hb hby at_188) (fun _ _ => ⟨rfl, e6, (by decide : 2 + 0 ≤ _), (by decide : 4 + 0 ≤ _)⟩)
    dsimp only [Pt.U, Pt.locs, Pt.cells, Pt.slots] at X7 l7 y7 z7 st7 hQ7
    subst l7 y7 z7
    obtain ⟨rfl, N7q, e7⟩ := hQ7
    have N7 := Fr.app N5 N7q
    refine own_go (A := T7.setTop (mkF m 191 #[.val (.int p1), .val (.int p2), .val (.int p3), .val (.int p4), .val (.int p5), .val (.int (0 : Int32)), .val (.ref b1), .val (.ref b6), .val (.int (0 : Int32))] [(.int (0 : Int32))])) (fun _ kz => st7 _ kz) ?_
    refine own_go (A := T7.setTop (mkF m 201 #[.val (.int p1), .val (.int p2), .val (.int p3), .val (.int p4), .val (.int p5), .val (.int (0 : Int32)), .val (.ref b1), .val (.ref b6), .val (.int (0 : Int32))] [(.int (1 : Int32))])) (fun _ kz => ?_) ?_
    · show Steps p.tables e below (T7.setTop (mkF m 191 #[.val (.int p1), .val (.int p2), .val (.int p3), .val (.int p4), .val (.int p5), .val (.int (0 : Int32)), .val (.ref b1), .val (.ref b6), .val (.int (0 : Int32))] [(.int (0 : Int32))])) _
      refine XS.iload X7.here hx rfl (hb hby at_191) rfl ?_
      show Steps p.tables e below (T7.setTop (mkF m 193 #[.val (.int p1), .val (.int p2), .val (.int p3), .val (.int p4), .val (.int p5), .val (.int (0 : Int32)), .val (.ref b1), .val (.ref b6), .val (.int (0 : Int32))] [(.int (0 : Int32)), (.int (0 : Int32))])) _
      refine XS.icmpNo X7.here hx rfl (hb hby at_193) rfl (teq (by decide : ((0 : Int32) = (0 : Int32)))).2 ?_
      show Steps p.tables e below (T7.setTop (mkF m 196 #[.val (.int p1), .val (.int p2), .val (.int p3), .val (.int p4), .val (.int p5), .val (.int (0 : Int32)), .val (.ref b1), .val (.ref b6), .val (.int (0 : Int32))] [])) _
      refine XS.iconst X7.here hx rfl (hb hby at_196) ?_
      show Steps p.tables e below (T7.setTop (mkF m 197 #[.val (.int p1), .val (.int p2), .val (.int p3), .val (.int p4), .val (.int p5), .val (.int (0 : Int32)), .val (.ref b1), .val (.ref b6), .val (.int (0 : Int32))] [(.int (1 : Int32))])) _
      refine XS.goto X7.here hx rfl (pc0 := 197) (pc' := 201) rfl (hb hby at_197) (by decide) (by decide) ?_
      exact kz
    obtain ⟨fs, hrr, hrun, hended, hW, hsame⟩ := X7.leave (v := some (.int (1 : Int32))) (fun h => by rw [Bd.returns] at h; cases h)
    refine ⟨_, _, ?_, hrun, hended, _, _, rfl, ?_, ⟨_, rfl⟩, hW, hsame.mono (by decide) (by decide)⟩
    · show Steps p.tables e below (T7.setTop (mkF m 201 #[.val (.int p1), .val (.int p2), .val (.int p3), .val (.int p4), .val (.int p5), .val (.int (0 : Int32)), .val (.ref b1), .val (.ref b6), .val (.int (0 : Int32))] [(.int (1 : Int32))])) _
      exact retN X7 hx (t := .boolean) Bd.returns (by simp) (hb hby at_201) hrr
    · show Qrm0 Z p1 p2 p3 p4 p5 at_ h0 n0 _ T7.heap _
      rw [e7]
      exact ⟨rfl, N7⟩
  · skip
    refine own_go (A := T5.setTop (mkF m 36 #[.val (.int p1), .val (.int p2), .val (.int p3), .val (.int p4), .val (.int p5), .val (.int (1 : Int32)), .val (.ref b1), .unset, .unset] [(.int (1 : Int32))])) (fun _ kz => ?_) ?_
    · show Steps p.tables e below (T5.setTop (mkF m 34 #[.val (.int p1), .val (.int p2), .val (.int p3), .val (.int p4), .val (.int p5), .val (.int (1 : Int32)), .val (.ref b1), .unset, .unset] [])) _
      refine XS.iload X5.here hx rfl (hb hby at_34) rfl ?_
      exact kz
    obtain ⟨T8, h8, k8, X8, e8, E8, A8, st8⟩ := newP X5 hx hZ (hw _ (List.mem_of_getElem? (i := 1) rfl)) e5 (g := (mkF m 36 #[.val (.int p1), .val (.int p2), .val (.int p3), .val (.int p4), .val (.int p5), .val (.int (1 : Int32)), .val (.ref b1), .unset, .unset] [(.int (1 : Int32))])) rfl (hb hby at_36) rfl (by decide) (cap := 1) (by decide) (by decide) (by decide) (by decide)
    obtain ⟨b8, gq8⟩ : ∃ z, z = h5.size := ⟨_, rfl⟩
    rw [← gq8] at A8 st8
    have g_b8 : n0 ≤ b8 := Nat.le_trans Z5 (Nat.le_of_eq gq8.symm)
    have ne_at__b8 : at_ ≠ b8 := Nat.ne_of_lt (Nat.lt_of_lt_of_le Tb.lt (Nat.le_of_eq gq8.symm))
    have ne_b1_b8 : b1 ≠ b8 := Nat.ne_of_lt (Nat.lt_of_lt_of_le Av_b1.lt (Nat.le_of_eq gq8.symm))
    replace S_t := S_t.ext E8
    replace Tb := Tb.ext E8
    replace Av_b1 := Av_b1.ext E8
    have Z8 : n0 ≤ h8.size := Nat.le_trans Z5 E8.1
    have Av_b8 : Arv Z h8 b8 k8 .byte (1 : Int32) [(.int (0 : Int32))] (.int (0 : Int32)) := (Arv.new A8 (by decide)).pad (pad_rep [] (.int (0 : Int32)) 1)
    refine own_go (A := T8.setTop (mkF m 38 #[.val (.int p1), .val (.int p2), .val (.int p3), .val (.int p4), .val (.int p5), .val (.int (1 : Int32)), .val (.ref b1), .unset, .unset] [(.ref b8)])) (fun _ kz => st8 _ kz) ?_
    refine own_go (A := T8.setTop (mkF m 54 #[.val (.int p1), .val (.int p2), .val (.int p3), .val (.int p4), .val (.int p5), .val (.int (1 : Int32)), .val (.ref b1), .val (.ref b8), .val (.int (0 : Int32))] [(.int (0 : Int32)), (.ref b1), (.int (0 : Int32)), (.ref b8)])) (fun _ kz => ?_) ?_
    · show Steps p.tables e below (T8.setTop (mkF m 38 #[.val (.int p1), .val (.int p2), .val (.int p3), .val (.int p4), .val (.int p5), .val (.int (1 : Int32)), .val (.ref b1), .unset, .unset] [(.ref b8)])) _
      refine XS.astore X8.here hx rfl (hb hby at_38) rfl rfl (l' := #[.val (.int p1), .val (.int p2), .val (.int p3), .val (.int p4), .val (.int p5), .val (.int (1 : Int32)), .val (.ref b1), .val (.ref b8), .unset]) rfl ?_
      show Steps p.tables e below (T8.setTop (mkF m 40 #[.val (.int p1), .val (.int p2), .val (.int p3), .val (.int p4), .val (.int p5), .val (.int (1 : Int32)), .val (.ref b1), .val (.ref b8), .unset] [])) _
      refine XS.iconst X8.here hx rfl (hb hby at_40) ?_
      show Steps p.tables e below (T8.setTop (mkF m 41 #[.val (.int p1), .val (.int p2), .val (.int p3), .val (.int p4), .val (.int p5), .val (.int (1 : Int32)), .val (.ref b1), .val (.ref b8), .unset] [(.int (0 : Int32))])) _
      refine XS.istore X8.here hx rfl (hb hby at_41) rfl (l' := #[.val (.int p1), .val (.int p2), .val (.int p3), .val (.int p4), .val (.int p5), .val (.int (1 : Int32)), .val (.ref b1), .val (.ref b8), .val (.int (0 : Int32))]) rfl ?_
      show Steps p.tables e below (T8.setTop (mkF m 43 #[.val (.int p1), .val (.int p2), .val (.int p3), .val (.int p4), .val (.int p5), .val (.int (1 : Int32)), .val (.ref b1), .val (.ref b8), .val (.int (0 : Int32))] [])) _
      refine XS.iload X8.here hx rfl (hb hby at_43) rfl ?_
      show Steps p.tables e below (T8.setTop (mkF m 45 #[.val (.int p1), .val (.int p2), .val (.int p3), .val (.int p4), .val (.int p5), .val (.int (1 : Int32)), .val (.ref b1), .val (.ref b8), .val (.int (0 : Int32))] [(.int (1 : Int32))])) _
      refine XS.ifNo X8.here hx rfl (hb hby at_45) rfl ((if0 _ _).trans (tlt (by decide : ((0 : Int32) < (1 : Int32)))).2.2.2) ?_
      show Steps p.tables e below (T8.setTop (mkF m 48 #[.val (.int p1), .val (.int p2), .val (.int p3), .val (.int p4), .val (.int p5), .val (.int (1 : Int32)), .val (.ref b1), .val (.ref b8), .val (.int (0 : Int32))] [])) _
      refine XS.aload X8.here hx rfl (hb hby at_48) rfl rfl ?_
      show Steps p.tables e below (T8.setTop (mkF m 50 #[.val (.int p1), .val (.int p2), .val (.int p3), .val (.int p4), .val (.int p5), .val (.int (1 : Int32)), .val (.ref b1), .val (.ref b8), .val (.int (0 : Int32))] [(.ref b8)])) _
      refine XS.iconst X8.here hx rfl (hb hby at_50) ?_
      show Steps p.tables e below (T8.setTop (mkF m 51 #[.val (.int p1), .val (.int p2), .val (.int p3), .val (.int p4), .val (.int p5), .val (.int (1 : Int32)), .val (.ref b1), .val (.ref b8), .val (.int (0 : Int32))] [(.int (0 : Int32)), (.ref b8)])) _
      refine XS.aload X8.here hx rfl (hb hby at_51) rfl rfl ?_
      show Steps p.tables e below (T8.setTop (mkF m 53 #[.val (.int p1), .val (.int p2), .val (.int p3), .val (.int p4), .val (.int p5), .val (.int (1 : Int32)), .val (.ref b1), .val (.ref b8), .val (.int (0 : Int32))] [(.ref b1), (.int (0 : Int32)), (.ref b8)])) _
      refine XS.iconst X8.here hx rfl (hb hby at_53) ?_
      exact kz
    obtain ⟨cl9, Ar9, -, S9, M9, H9, -⟩ := id Av_b1
    have hin9 : ¬ ((0 : Int32) < 0 ∨ cl9.slots.size ≤ ((0 : Int32)).toNatClampNeg) := inb_of S9 ⟨by decide, by decide⟩
    have hat9 : cl9.slots[((0 : Int32)).toNatClampNeg]? = some (.int (p2.toInt8.toInt32)) := H9.at hin9 rfl
    refine own_go (A := T8.setTop (mkF m 55 #[.val (.int p1), .val (.int p2), .val (.int p3), .val (.int p4), .val (.int p5), .val (.int (1 : Int32)), .val (.ref b1), .val (.ref b8), .val (.int (0 : Int32))] [(.int (p2.toInt8.toInt32)), (.int (0 : Int32)), (.ref b8)])) (fun _ kz => ?_) ?_
    · refine X8.baloadBytes hx (j := (0 : Int32)) (v := (.int (p2.toInt8.toInt32))) (by rw [e8]; exact Ar9.1) (State.isArrayOf_alike hZ.alike Ar9.2.1) Ar9.2.2 hin9 hat9 (g := (mkF m 54 #[.val (.int p1), .val (.int p2), .val (.int p3), .val (.int p4), .val (.int p5), .val (.int (1 : Int32)), .val (.ref b1), .val (.ref b8), .val (.int (0 : Int32))] [(.int (0 : Int32)), (.ref b1), (.int (0 : Int32)), (.ref b8)])) rfl rfl (hb hby at_54) _ ?_
      exact kz
    obtain ⟨cl10, Ar10, q10, S10, M10, H10, G10⟩ := id Av_b8
    have hin10 : ¬ ((0 : Int32) < 0 ∨ cl10.slots.size ≤ ((0 : Int32)).toNatClampNeg) := inb_of S10 ⟨by decide, by decide⟩
    obtain ⟨T10, h10, X10, e10, W10, st10⟩ := stB X8 hx hZ e8 Ar10 (j := (0 : Int32)) hin10 (g := (mkF m 55 #[.val (.int p1), .val (.int p2), .val (.int p3), .val (.int p4), .val (.int p5), .val (.int (1 : Int32)), .val (.ref b1), .val (.ref b8), .val (.int (0 : Int32))] [(.int (p2.toInt8.toInt32)), (.int (0 : Int32)), (.ref b8)])) rfl rfl (hb hby at_55)
    rw [own_nbn] at W10
    have Aw10 := Arv.set Ar10 q10 S10 M10 H10 G10 (fits_nar_byte _) W10 0 rfl (Nat.le_of_ble_eq_true rfl)
    replace S_t := S_t.wr W10
    replace Tb := Tb.other W10 ne_at__b8
    replace Av_b1 := Av_b1.other W10 ne_b1_b8
    have Z10 : n0 ≤ h10.size := Nat.le_trans Z8 (Keep.of_wr W10).1
    have Av_b8 : Arv Z h10 b8 k8 .byte (1 : Int32) [(.int (p2.toInt8.toInt32))] (.int (0 : Int32)) := Aw10
    have N10 := Fr.snoc X10 N5 g_b8
    refine own_go (A := T10.setTop (mkF m 56 #[.val (.int p1), .val (.int p2), .val (.int p3), .val (.int p4), .val (.int p5), .val (.int (1 : Int32)), .val (.ref b1), .val (.ref b8), .val (.int (0 : Int32))] [])) (fun _ kz => st10 _ kz) ?_
    refine own_go (A := T10.setTop (mkF m 64 #[.val (.int p1), .val (.int p2), .val (.int p3), .val (.int p4), .val (.int p5), .val (.int (1 : Int32)), .val (.ref b1), .val (.ref b8), .val (.int (0 : Int32))] [(.int (0 : Int32)), (.ref b1)])) (fun _ kz => ?_) ?_
    · show Steps p.tables e below (T10.setTop (mkF m 56 #[.val (.int p1), .val (.int p2), .val (.int p3), .val (.int p4), .val (.int p5), .val (.int (1 : Int32)), .val (.ref b1), .val (.ref b8), .val (.int (0 : Int32))] [])) _
      refine XS.iload X10.here hx rfl (hb hby at_56) rfl ?_
      show Steps p.tables e below (T10.setTop (mkF m 58 #[.val (.int p1), .val (.int p2), .val (.int p3), .val (.int p4), .val (.int p5), .val (.int (1 : Int32)), .val (.ref b1), .val (.ref b8), .val (.int (0 : Int32))] [(.int (0 : Int32))])) _
      refine XS.ifNo X10.here hx rfl (hb hby at_58) rfl ((if0 _ _).trans (teq (by decide : ((0 : Int32) = (0 : Int32)))).2) ?_
      show Steps p.tables e below (T10.setTop (mkF m 61 #[.val (.int p1), .val (.int p2), .val (.int p3), .val (.int p4), .val (.int p5), .val (.int (1 : Int32)), .val (.ref b1), .val (.ref b8), .val (.int (0 : Int32))] [])) _
      refine XS.aload X10.here hx rfl (hb hby at_61) rfl rfl ?_
      show Steps p.tables e below (T10.setTop (mkF m 63 #[.val (.int p1), .val (.int p2), .val (.int p3), .val (.int p4), .val (.int p5), .val (.int (1 : Int32)), .val (.ref b1), .val (.ref b8), .val (.int (0 : Int32))] [(.ref b1)])) _
      refine XS.iconst X10.here hx rfl (hb hby at_63) ?_
      exact kz
    obtain ⟨cl11, Ar11, -, S11, M11, H11, -⟩ := id Av_b1
    have hin11 : ¬ ((0 : Int32) < 0 ∨ cl11.slots.size ≤ ((0 : Int32)).toNatClampNeg) := inb_of S11 ⟨by decide, by decide⟩
    have hat11 : cl11.slots[((0 : Int32)).toNatClampNeg]? = some (.int (p2.toInt8.toInt32)) := H11.at hin11 rfl
    refine own_go (A := T10.setTop (mkF m 65 #[.val (.int p1), .val (.int p2), .val (.int p3), .val (.int p4), .val (.int p5), .val (.int (1 : Int32)), .val (.ref b1), .val (.ref b8), .val (.int (0 : Int32))] [(.int (p2.toInt8.toInt32))])) (fun _ kz => ?_) ?_
    · refine X10.baloadBytes hx (j := (0 : Int32)) (v := (.int (p2.toInt8.toInt32))) (by rw [e10]; exact Ar11.1) (State.isArrayOf_alike hZ.alike Ar11.2.1) Ar11.2.2 hin11 hat11 (g := (mkF m 64 #[.val (.int p1), .val (.int p2), .val (.int p3), .val (.int p4), .val (.int p5), .val (.int (1 : Int32)), .val (.ref b1), .val (.ref b8), .val (.int (0 : Int32))] [(.int (0 : Int32)), (.ref b1)])) rfl rfl (hb hby at_64) _ ?_
      exact kz
    obtain ⟨_, _, ⟨T12, L12, k12, n12⟩, -, X12, ⟨Lc12, hQ12, l12, y12, z12⟩, st12⟩ := Jvm.LawKit.callS X10 hx (y := (⟨"com/example/sharp_nose/sharpnose/BinaryDataFoundInPinLaw", "bin", "(B)Z"⟩ : MethodName)) hown (mvT hZ (hw _ (List.mem_of_getElem? (i := 6) rfl))) (mvT hZ (hw _ (List.mem_of_getElem? (i := 7) rfl))) (mvT hZ (hw _ (List.mem_of_getElem? (i := 8) rfl))) (mvT hZ (hw _ (List.mem_of_getElem? (i := 9) rfl))) (by decide) (backOf (W := 0) (rmBin l Z a0 hw [] (p2.toInt8.toInt32) h10 n0 Z10) hZ (hw _ (List.mem_of_getElem? (i := 9) rfl)) (hw _ (List.mem_of_getElem? (i := 8) rfl)) (by decide) (by decide)) (g := (mkF m 65 #[.val (.int p1), .val (.int p2), .val (.int p3), .val (.int p4), .val (.int p5), .val (.int (1 : Int32)), .val (.ref b1), .val (.ref b8), .val (.int (0 : Int32))] [(.int (p2.toInt8.toInt32))])) rfl (by rw [hml]; rfl) (argsL := [(.int (p2.toInt8.toInt32))]) (rest := []) (lenOf own_pd1 rfl) rfl (by show 2 * 0 + _ ≤ _; exact Nat.le_of_eq rfl) (hb hby at_65) (fun _ _ => ⟨rfl, e10, (by decide : 2 + 0 ≤ _), (by decide : 5 + 0 ≤ _)⟩)
    dsimp only [Pt.U, Pt.locs, Pt.cells, Pt.slots] at X12 l12 y12 z12 st12 hQ12
    subst l12 y12 z12
    obtain ⟨rfl, N12q, e12⟩ := hQ12
    have N12 := Fr.app N10 N12q
    refine own_go (A := T12.setTop (mkF m 68 #[.val (.int p1), .val (.int p2), .val (.int p3), .val (.int p4), .val (.int p5), .val (.int (1 : Int32)), .val (.ref b1), .val (.ref b8), .val (.int (0 : Int32))] [(.int (own_tv ((p2.toInt8.toInt32) &&& (255 : Int32))))])) (fun _ kz => st12 _ kz) ?_
    by_cases hs13 : (own_tv ((p2.toInt8.toInt32) &&& (255 : Int32))) = (0 : Int32)
    · skip
      refine own_go (A := T12.setTop (mkF m 75 #[.val (.int p1), .val (.int p2), .val (.int p3), .val (.int p4), .val (.int p5), .val (.int (1 : Int32)), .val (.ref b1), .val (.ref b8), .val (.int (0 : Int32))] [])) (fun _ kz => ?_) ?_
      · show Steps p.tables e below (T12.setTop (mkF m 68 #[.val (.int p1), .val (.int p2), .val (.int p3), .val (.int p4), .val (.int p5), .val (.int (1 : Int32)), .val (.ref b1), .val (.ref b8), .val (.int (0 : Int32))] [(.int (own_tv ((p2.toInt8.toInt32) &&& (255 : Int32))))])) _
        refine XS.ifYes X12.here hx rfl (pc0 := 68) (pc' := 75) rfl (hb hby at_68) rfl ((if0 _ _).trans (teq hs13).1) (by decide) (by decide) ?_
        exact kz
      refine own_go (A := T12.setTop (mkF m 188 #[.val (.int p1), .val (.int p2), .val (.int p3), .val (.int p4), .val (.int p5), .val (.int (1 : Int32)), .val (.ref b1), .val (.ref b8), .val (.int (0 : Int32))] [(.ref b8)])) (fun _ kz => ?_) ?_
      · show Steps p.tables e below (T12.setTop (mkF m 75 #[.val (.int p1), .val (.int p2), .val (.int p3), .val (.int p4), .val (.int p5), .val (.int (1 : Int32)), .val (.ref b1), .val (.ref b8), .val (.int (0 : Int32))] [])) _
        refine XS.iconst X12.here hx rfl (hb hby at_75) ?_
        show Steps p.tables e below (T12.setTop (mkF m 76 #[.val (.int p1), .val (.int p2), .val (.int p3), .val (.int p4), .val (.int p5), .val (.int (1 : Int32)), .val (.ref b1), .val (.ref b8), .val (.int (0 : Int32))] [(.int (0 : Int32))])) _
        refine XS.istore X12.here hx rfl (hb hby at_76) rfl (l' := #[.val (.int p1), .val (.int p2), .val (.int p3), .val (.int p4), .val (.int p5), .val (.int (1 : Int32)), .val (.ref b1), .val (.ref b8), .val (.int (0 : Int32))]) rfl ?_
        show Steps p.tables e below (T12.setTop (mkF m 78 #[.val (.int p1), .val (.int p2), .val (.int p3), .val (.int p4), .val (.int p5), .val (.int (1 : Int32)), .val (.ref b1), .val (.ref b8), .val (.int (0 : Int32))] [])) _
        refine XS.iload X12.here hx rfl (hb hby at_78) rfl ?_
        show Steps p.tables e below (T12.setTop (mkF m 80 #[.val (.int p1), .val (.int p2), .val (.int p3), .val (.int p4), .val (.int p5), .val (.int (1 : Int32)), .val (.ref b1), .val (.ref b8), .val (.int (0 : Int32))] [(.int (1 : Int32))])) _
        refine XS.iconst X12.here hx rfl (hb hby at_80) ?_
        show Steps p.tables e below (T12.setTop (mkF m 81 #[.val (.int p1), .val (.int p2), .val (.int p3), .val (.int p4), .val (.int p5), .val (.int (1 : Int32)), .val (.ref b1), .val (.ref b8), .val (.int (0 : Int32))] [(.int (1 : Int32)), (.int (1 : Int32))])) _
        refine XS.icmpYes X12.here hx rfl (pc0 := 81) (pc' := 114) rfl (hb hby at_81) rfl (flt (by decide : ¬ ((1 : Int32) < (1 : Int32)))).2.2.2 (by decide) (by decide) ?_
        show Steps p.tables e below (T12.setTop (mkF m 114 #[.val (.int p1), .val (.int p2), .val (.int p3), .val (.int p4), .val (.int p5), .val (.int (1 : Int32)), .val (.ref b1), .val (.ref b8), .val (.int (0 : Int32))] [])) _
        refine XS.iload X12.here hx rfl (hb hby at_114) rfl ?_
        show Steps p.tables e below (T12.setTop (mkF m 116 #[.val (.int p1), .val (.int p2), .val (.int p3), .val (.int p4), .val (.int p5), .val (.int (1 : Int32)), .val (.ref b1), .val (.ref b8), .val (.int (0 : Int32))] [(.int (1 : Int32))])) _
        refine XS.iconst X12.here hx rfl (hb hby at_116) ?_
        show Steps p.tables e below (T12.setTop (mkF m 117 #[.val (.int p1), .val (.int p2), .val (.int p3), .val (.int p4), .val (.int p5), .val (.int (1 : Int32)), .val (.ref b1), .val (.ref b8), .val (.int (0 : Int32))] [(.int (2 : Int32)), (.int (1 : Int32))])) _
        refine XS.icmpYes X12.here hx rfl (pc0 := 117) (pc' := 150) rfl (hb hby at_117) rfl (flt (by decide : ¬ ((2 : Int32) < (1 : Int32)))).2.2.2 (by decide) (by decide) ?_
        show Steps p.tables e below (T12.setTop (mkF m 150 #[.val (.int p1), .val (.int p2), .val (.int p3), .val (.int p4), .val (.int p5), .val (.int (1 : Int32)), .val (.ref b1), .val (.ref b8), .val (.int (0 : Int32))] [])) _
        refine XS.iload X12.here hx rfl (hb hby at_150) rfl ?_
        show Steps p.tables e below (T12.setTop (mkF m 152 #[.val (.int p1), .val (.int p2), .val (.int p3), .val (.int p4), .val (.int p5), .val (.int (1 : Int32)), .val (.ref b1), .val (.ref b8), .val (.int (0 : Int32))] [(.int (1 : Int32))])) _
        refine XS.iconst X12.here hx rfl (hb hby at_152) ?_
        show Steps p.tables e below (T12.setTop (mkF m 153 #[.val (.int p1), .val (.int p2), .val (.int p3), .val (.int p4), .val (.int p5), .val (.int (1 : Int32)), .val (.ref b1), .val (.ref b8), .val (.int (0 : Int32))] [(.int (3 : Int32)), (.int (1 : Int32))])) _
        refine XS.icmpYes X12.here hx rfl (pc0 := 153) (pc' := 186) rfl (hb hby at_153) rfl (flt (by decide : ¬ ((3 : Int32) < (1 : Int32)))).2.2.2 (by decide) (by decide) ?_
        show Steps p.tables e below (T12.setTop (mkF m 186 #[.val (.int p1), .val (.int p2), .val (.int p3), .val (.int p4), .val (.int p5), .val (.int (1 : Int32)), .val (.ref b1), .val (.ref b8), .val (.int (0 : Int32))] [])) _
        refine XS.aload X12.here hx rfl (hb hby at_186) rfl rfl ?_
        exact kz
      obtain ⟨_, _, ⟨T14, L14, k14, n14⟩, -, X14, ⟨Lc14, hQ14, l14, y14, z14⟩, st14⟩ := Jvm.LawKit.callS X12 hx (y := (⟨"com/example/sharp_nose/sharpnose/BinaryData", "foundIn", "([B)Z"⟩ : MethodName)) hown (mvT hZ (hw _ (List.mem_of_getElem? (i := 2) rfl))) (mvT hZ (hw _ (List.mem_of_getElem? (i := 3) rfl))) (mvT hZ (hw _ (List.mem_of_getElem? (i := 4) rfl))) (mvT hZ (hw _ (List.mem_of_getElem? (i := 5) rfl))) (by decide) (backOf (W := 0) (rmF1 l Z a0 hw [] b8 at_ k8 (p2.toInt8.toInt32) (0 : Int32) h10 n0 Z10 Av_b8 S_t Tb (by simp [hs13])) hZ (hw _ (List.mem_of_getElem? (i := 5) rfl)) (hw _ (List.mem_of_getElem? (i := 4) rfl)) (by decide) (by decide)) (g := (mkF m 188 #[.val (.int p1), .val (.int p2), .val (.int p3), .val (.int p4), .val (.int p5), .val (.int (1 : Int32)), .val (.ref b1), .val (.ref b8), .val (.int (0 : Int32))] [(.ref b8)])) rfl (by rw [hml]; rfl) (argsL := [(.ref b8)]) (rest := []) (lenOf own_pd0 rfl) rfl (by show 2 * 0 + _ ≤ _; exact Nat.le_of_eq rfl) (hb hby at_188) (fun _ _ => ⟨rfl, e12, (by decide : 2 + 0 ≤ _), (by decide : 5 + 0 ≤ _)⟩)
      dsimp only [Pt.U, Pt.locs, Pt.cells, Pt.slots] at X14 l14 y14 z14 st14 hQ14
      subst l14 y14 z14
      obtain ⟨rfl, N14q, e14⟩ := hQ14
      have N14 := Fr.app N12 N14q
      refine own_go (A := T14.setTop (mkF m 191 #[.val (.int p1), .val (.int p2), .val (.int p3), .val (.int p4), .val (.int p5), .val (.int (1 : Int32)), .val (.ref b1), .val (.ref b8), .val (.int (0 : Int32))] [(.int (0 : Int32))])) (fun _ kz => st14 _ kz) ?_
      refine own_go (A := T14.setTop (mkF m 201 #[.val (.int p1), .val (.int p2), .val (.int p3), .val (.int p4), .val (.int p5), .val (.int (1 : Int32)), .val (.ref b1), .val (.ref b8), .val (.int (0 : Int32))] [(.int (1 : Int32))])) (fun _ kz => ?_) ?_
      · show Steps p.tables e below (T14.setTop (mkF m 191 #[.val (.int p1), .val (.int p2), .val (.int p3), .val (.int p4), .val (.int p5), .val (.int (1 : Int32)), .val (.ref b1), .val (.ref b8), .val (.int (0 : Int32))] [(.int (0 : Int32))])) _
        refine XS.iload X14.here hx rfl (hb hby at_191) rfl ?_
        show Steps p.tables e below (T14.setTop (mkF m 193 #[.val (.int p1), .val (.int p2), .val (.int p3), .val (.int p4), .val (.int p5), .val (.int (1 : Int32)), .val (.ref b1), .val (.ref b8), .val (.int (0 : Int32))] [(.int (0 : Int32)), (.int (0 : Int32))])) _
        refine XS.icmpNo X14.here hx rfl (hb hby at_193) rfl (teq (by decide : ((0 : Int32) = (0 : Int32)))).2 ?_
        show Steps p.tables e below (T14.setTop (mkF m 196 #[.val (.int p1), .val (.int p2), .val (.int p3), .val (.int p4), .val (.int p5), .val (.int (1 : Int32)), .val (.ref b1), .val (.ref b8), .val (.int (0 : Int32))] [])) _
        refine XS.iconst X14.here hx rfl (hb hby at_196) ?_
        show Steps p.tables e below (T14.setTop (mkF m 197 #[.val (.int p1), .val (.int p2), .val (.int p3), .val (.int p4), .val (.int p5), .val (.int (1 : Int32)), .val (.ref b1), .val (.ref b8), .val (.int (0 : Int32))] [(.int (1 : Int32))])) _
        refine XS.goto X14.here hx rfl (pc0 := 197) (pc' := 201) rfl (hb hby at_197) (by decide) (by decide) ?_
        exact kz
      obtain ⟨fs, hrr, hrun, hended, hW, hsame⟩ := X14.leave (v := some (.int (1 : Int32))) (fun h => by rw [Bd.returns] at h; cases h)
      refine ⟨_, _, ?_, hrun, hended, _, _, rfl, ?_, ⟨_, rfl⟩, hW, hsame.mono (by decide) (by decide)⟩
      · show Steps p.tables e below (T14.setTop (mkF m 201 #[.val (.int p1), .val (.int p2), .val (.int p3), .val (.int p4), .val (.int p5), .val (.int (1 : Int32)), .val (.ref b1), .val (.ref b8), .val (.int (0 : Int32))] [(.int (1 : Int32))])) _
        exact retN X14 hx (t := .boolean) Bd.returns (by simp) (hb hby at_201) hrr
      · show Qrm0 Z p1 p2 p3 p4 p5 at_ h0 n0 _ T14.heap _
        rw [e14]
        exact ⟨rfl, N14⟩
    · skip
      refine own_go (A := T12.setTop (mkF m 71 #[.val (.int p1), .val (.int p2), .val (.int p3), .val (.int p4), .val (.int p5), .val (.int (1 : Int32)), .val (.ref b1), .val (.ref b8), .val (.int (0 : Int32))] [])) (fun _ kz => ?_) ?_
      · show Steps p.tables e below (T12.setTop (mkF m 68 #[.val (.int p1), .val (.int p2), .val (.int p3), .val (.int p4), .val (.int p5), .val (.int (1 : Int32)), .val (.ref b1), .val (.ref b8), .val (.int (0 : Int32))] [(.int (own_tv ((p2.toInt8.toInt32) &&& (255 : Int32))))])) _
        refine XS.ifNo X12.here hx rfl (hb hby at_68) rfl ((if0 _ _).trans (feq hs13).1) ?_
        exact kz
      refine own_go (A := T12.setTop (mkF m 188 #[.val (.int p1), .val (.int p2), .val (.int p3), .val (.int p4), .val (.int p5), .val (.int (1 : Int32)), .val (.ref b1), .val (.ref b8), .val (.int (1 : Int32))] [(.ref b8)])) (fun _ kz => ?_) ?_
      · show Steps p.tables e below (T12.setTop (mkF m 71 #[.val (.int p1), .val (.int p2), .val (.int p3), .val (.int p4), .val (.int p5), .val (.int (1 : Int32)), .val (.ref b1), .val (.ref b8), .val (.int (0 : Int32))] [])) _
        refine XS.iconst X12.here hx rfl (hb hby at_71) ?_
        show Steps p.tables e below (T12.setTop (mkF m 72 #[.val (.int p1), .val (.int p2), .val (.int p3), .val (.int p4), .val (.int p5), .val (.int (1 : Int32)), .val (.ref b1), .val (.ref b8), .val (.int (0 : Int32))] [(.int (1 : Int32))])) _
        refine XS.goto X12.here hx rfl (pc0 := 72) (pc' := 76) rfl (hb hby at_72) (by decide) (by decide) ?_
        show Steps p.tables e below (T12.setTop (mkF m 76 #[.val (.int p1), .val (.int p2), .val (.int p3), .val (.int p4), .val (.int p5), .val (.int (1 : Int32)), .val (.ref b1), .val (.ref b8), .val (.int (0 : Int32))] [(.int (1 : Int32))])) _
        refine XS.istore X12.here hx rfl (hb hby at_76) rfl (l' := #[.val (.int p1), .val (.int p2), .val (.int p3), .val (.int p4), .val (.int p5), .val (.int (1 : Int32)), .val (.ref b1), .val (.ref b8), .val (.int (1 : Int32))]) rfl ?_
        show Steps p.tables e below (T12.setTop (mkF m 78 #[.val (.int p1), .val (.int p2), .val (.int p3), .val (.int p4), .val (.int p5), .val (.int (1 : Int32)), .val (.ref b1), .val (.ref b8), .val (.int (1 : Int32))] [])) _
        refine XS.iload X12.here hx rfl (hb hby at_78) rfl ?_
        show Steps p.tables e below (T12.setTop (mkF m 80 #[.val (.int p1), .val (.int p2), .val (.int p3), .val (.int p4), .val (.int p5), .val (.int (1 : Int32)), .val (.ref b1), .val (.ref b8), .val (.int (1 : Int32))] [(.int (1 : Int32))])) _
        refine XS.iconst X12.here hx rfl (hb hby at_80) ?_
        show Steps p.tables e below (T12.setTop (mkF m 81 #[.val (.int p1), .val (.int p2), .val (.int p3), .val (.int p4), .val (.int p5), .val (.int (1 : Int32)), .val (.ref b1), .val (.ref b8), .val (.int (1 : Int32))] [(.int (1 : Int32)), (.int (1 : Int32))])) _
        refine XS.icmpYes X12.here hx rfl (pc0 := 81) (pc' := 114) rfl (hb hby at_81) rfl (flt (by decide : ¬ ((1 : Int32) < (1 : Int32)))).2.2.2 (by decide) (by decide) ?_
        show Steps p.tables e below (T12.setTop (mkF m 114 #[.val (.int p1), .val (.int p2), .val (.int p3), .val (.int p4), .val (.int p5), .val (.int (1 : Int32)), .val (.ref b1), .val (.ref b8), .val (.int (1 : Int32))] [])) _
        refine XS.iload X12.here hx rfl (hb hby at_114) rfl ?_
        show Steps p.tables e below (T12.setTop (mkF m 116 #[.val (.int p1), .val (.int p2), .val (.int p3), .val (.int p4), .val (.int p5), .val (.int (1 : Int32)), .val (.ref b1), .val (.ref b8), .val (.int (1 : Int32))] [(.int (1 : Int32))])) _
        refine XS.iconst X12.here hx rfl (hb hby at_116) ?_
        show Steps p.tables e below (T12.setTop (mkF m 117 #[.val (.int p1), .val (.int p2), .val (.int p3), .val (.int p4), .val (.int p5), .val (.int (1 : Int32)), .val (.ref b1), .val (.ref b8), .val (.int (1 : Int32))] [(.int (2 : Int32)), (.int (1 : Int32))])) _
        refine XS.icmpYes X12.here hx rfl (pc0 := 117) (pc' := 150) rfl (hb hby at_117) rfl (flt (by decide : ¬ ((2 : Int32) < (1 : Int32)))).2.2.2 (by decide) (by decide) ?_
        show Steps p.tables e below (T12.setTop (mkF m 150 #[.val (.int p1), .val (.int p2), .val (.int p3), .val (.int p4), .val (.int p5), .val (.int (1 : Int32)), .val (.ref b1), .val (.ref b8), .val (.int (1 : Int32))] [])) _
        refine XS.iload X12.here hx rfl (hb hby at_150) rfl ?_
        show Steps p.tables e below (T12.setTop (mkF m 152 #[.val (.int p1), .val (.int p2), .val (.int p3), .val (.int p4), .val (.int p5), .val (.int (1 : Int32)), .val (.ref b1), .val (.ref b8), .val (.int (1 : Int32))] [(.int (1 : Int32))])) _
        refine XS.iconst X12.here hx rfl (hb hby at_152) ?_
        show Steps p.tables e below (T12.setTop (mkF m 153 #[.val (.int p1), .val (.int p2), .val (.int p3), .val (.int p4), .val (.int p5), .val (.int (1 : Int32)), .val (.ref b1), .val (.ref b8), .val (.int (1 : Int32))] [(.int (3 : Int32)), (.int (1 : Int32))])) _
        refine XS.icmpYes X12.here hx rfl (pc0 := 153) (pc' := 186) rfl (hb hby at_153) rfl (flt (by decide : ¬ ((3 : Int32) < (1 : Int32)))).2.2.2 (by decide) (by decide) ?_
        show Steps p.tables e below (T12.setTop (mkF m 186 #[.val (.int p1), .val (.int p2), .val (.int p3), .val (.int p4), .val (.int p5), .val (.int (1 : Int32)), .val (.ref b1), .val (.ref b8), .val (.int (1 : Int32))] [])) _
        refine XS.aload X12.here hx rfl (hb hby at_186) rfl rfl ?_
        exact kz
      obtain ⟨_, _, ⟨T15, L15, k15, n15⟩, -, X15, ⟨Lc15, hQ15, l15, y15, z15⟩, st15⟩ := Jvm.LawKit.callS X12 hx (y := (⟨"com/example/sharp_nose/sharpnose/BinaryData", "foundIn", "([B)Z"⟩ : MethodName)) hown (mvT hZ (hw _ (List.mem_of_getElem? (i := 2) rfl))) (mvT hZ (hw _ (List.mem_of_getElem? (i := 3) rfl))) (mvT hZ (hw _ (List.mem_of_getElem? (i := 4) rfl))) (mvT hZ (hw _ (List.mem_of_getElem? (i := 5) rfl))) (by decide) (backOf (W := 0) (rmF1 l Z a0 hw [] b8 at_ k8 (p2.toInt8.toInt32) (1 : Int32) h10 n0 Z10 Av_b8 S_t Tb (by simp [hs13])) hZ (hw _ (List.mem_of_getElem? (i := 5) rfl)) (hw _ (List.mem_of_getElem? (i := 4) rfl)) (by decide) (by decide)) (g := (mkF m 188 #[.val (.int p1), .val (.int p2), .val (.int p3), .val (.int p4), .val (.int p5), .val (.int (1 : Int32)), .val (.ref b1), .val (.ref b8), .val (.int (1 : Int32))] [(.ref b8)])) rfl (by rw [hml]; rfl) (argsL := [(.ref b8)]) (rest := []) (lenOf own_pd0 rfl) rfl (by show 2 * 0 + _ ≤ _; exact Nat.le_of_eq rfl) (hb hby at_188) (fun _ _ => ⟨rfl, e12, (by decide : 2 + 0 ≤ _), (by decide : 5 + 0 ≤ _)⟩)
      dsimp only [Pt.U, Pt.locs, Pt.cells, Pt.slots] at X15 l15 y15 z15 st15 hQ15
      subst l15 y15 z15
      obtain ⟨rfl, N15q, e15⟩ := hQ15
      have N15 := Fr.app N12 N15q
      refine own_go (A := T15.setTop (mkF m 191 #[.val (.int p1), .val (.int p2), .val (.int p3), .val (.int p4), .val (.int p5), .val (.int (1 : Int32)), .val (.ref b1), .val (.ref b8), .val (.int (1 : Int32))] [(.int (1 : Int32))])) (fun _ kz => st15 _ kz) ?_
      refine own_go (A := T15.setTop (mkF m 201 #[.val (.int p1), .val (.int p2), .val (.int p3), .val (.int p4), .val (.int p5), .val (.int (1 : Int32)), .val (.ref b1), .val (.ref b8), .val (.int (1 : Int32))] [(.int (1 : Int32))])) (fun _ kz => ?_) ?_
      · show Steps p.tables e below (T15.setTop (mkF m 191 #[.val (.int p1), .val (.int p2), .val (.int p3), .val (.int p4), .val (.int p5), .val (.int (1 : Int32)), .val (.ref b1), .val (.ref b8), .val (.int (1 : Int32))] [(.int (1 : Int32))])) _
        refine XS.iload X15.here hx rfl (hb hby at_191) rfl ?_
        show Steps p.tables e below (T15.setTop (mkF m 193 #[.val (.int p1), .val (.int p2), .val (.int p3), .val (.int p4), .val (.int p5), .val (.int (1 : Int32)), .val (.ref b1), .val (.ref b8), .val (.int (1 : Int32))] [(.int (1 : Int32)), (.int (1 : Int32))])) _
        refine XS.icmpNo X15.here hx rfl (hb hby at_193) rfl (teq (by decide : ((1 : Int32) = (1 : Int32)))).2 ?_
        show Steps p.tables e below (T15.setTop (mkF m 196 #[.val (.int p1), .val (.int p2), .val (.int p3), .val (.int p4), .val (.int p5), .val (.int (1 : Int32)), .val (.ref b1), .val (.ref b8), .val (.int (1 : Int32))] [])) _
        refine XS.iconst X15.here hx rfl (hb hby at_196) ?_
        show Steps p.tables e below (T15.setTop (mkF m 197 #[.val (.int p1), .val (.int p2), .val (.int p3), .val (.int p4), .val (.int p5), .val (.int (1 : Int32)), .val (.ref b1), .val (.ref b8), .val (.int (1 : Int32))] [(.int (1 : Int32))])) _
        refine XS.goto X15.here hx rfl (pc0 := 197) (pc' := 201) rfl (hb hby at_197) (by decide) (by decide) ?_
        exact kz
      obtain ⟨fs, hrr, hrun, hended, hW, hsame⟩ := X15.leave (v := some (.int (1 : Int32))) (fun h => by rw [Bd.returns] at h; cases h)
      refine ⟨_, _, ?_, hrun, hended, _, _, rfl, ?_, ⟨_, rfl⟩, hW, hsame.mono (by decide) (by decide)⟩
      · show Steps p.tables e below (T15.setTop (mkF m 201 #[.val (.int p1), .val (.int p2), .val (.int p3), .val (.int p4), .val (.int p5), .val (.int (1 : Int32)), .val (.ref b1), .val (.ref b8), .val (.int (1 : Int32))] [(.int (1 : Int32))])) _
        exact retN X15 hx (t := .boolean) Bd.returns (by simp) (hb hby at_201) hrr
      · show Qrm0 Z p1 p2 p3 p4 p5 at_ h0 n0 _ T15.heap _
        rw [e15]
        exact ⟨rfl, N15⟩
  · skip
    refine own_go (A := T5.setTop (mkF m 36 #[.val (.int p1), .val (.int p2), .val (.int p3), .val (.int p4), .val (.int p5), .val (.int (2 : Int32)), .val (.ref b1), .unset, .unset] [(.int (2 : Int32))])) (fun _ kz => ?_) ?_
    · show Steps p.tables e below (T5.setTop (mkF m 34 #[.val (.int p1), .val (.int p2), .val (.int p3), .val (.int p4), .val (.int p5), .val (.int (2 : Int32)), .val (.ref b1), .unset, .unset] [])) _
      refine XS.iload X5.here hx rfl (hb hby at_34) rfl ?_
      exact kz
    obtain ⟨T16, h16, k16, X16, e16, E16, A16, st16⟩ := newP X5 hx hZ (hw _ (List.mem_of_getElem? (i := 1) rfl)) e5 (g := (mkF m 36 #[.val (.int p1), .val (.int p2), .val (.int p3), .val (.int p4), .val (.int p5), .val (.int (2 : Int32)), .val (.ref b1), .unset, .unset] [(.int (2 : Int32))])) rfl (hb hby at_36) rfl (by decide) (cap := 2) (by decide) (by decide) (by decide) (by decide)
    obtain ⟨b16, gq16⟩ : ∃ z, z = h5.size := ⟨_, rfl⟩
    rw [← gq16] at A16 st16
    have g_b16 : n0 ≤ b16 := Nat.le_trans Z5 (Nat.le_of_eq gq16.symm)
    have ne_at__b16 : at_ ≠ b16 := Nat.ne_of_lt (Nat.lt_of_lt_of_le Tb.lt (Nat.le_of_eq gq16.symm))
    have ne_b1_b16 : b1 ≠ b16 := Nat.ne_of_lt (Nat.lt_of_lt_of_le Av_b1.lt (Nat.le_of_eq gq16.symm))
    replace S_t := S_t.ext E16
    replace Tb := Tb.ext E16
    replace Av_b1 := Av_b1.ext E16
    have Z16 : n0 ≤ h16.size := Nat.le_trans Z5 E16.1
    have Av_b16 : Arv Z h16 b16 k16 .byte (2 : Int32) [(.int (0 : Int32)), (.int (0 : Int32))] (.int (0 : Int32)) := (Arv.new A16 (by decide)).pad (pad_rep [] (.int (0 : Int32)) 2)
    refine own_go (A := T16.setTop (mkF m 38 #[.val (.int p1), .val (.int p2), .val (.int p3), .val (.int p4), .val (.int p5), .val (.int (2 : Int32)), .val (.ref b1), .unset, .unset] [(.ref b16)])) (fun _ kz => st16 _ kz) ?_
    refine own_go (A := T16.setTop (mkF m 54 #[.val (.int p1), .val (.int p2), .val (.int p3), .val (.int p4), .val (.int p5), .val (.int (2 : Int32)), .val (.ref b1), .val (.ref b16), .val (.int (0 : Int32))] [(.int (0 : Int32)), (.ref b1), (.int (0 : Int32)), (.ref b16)])) (fun _ kz => ?_) ?_
    · show Steps p.tables e below (T16.setTop (mkF m 38 #[.val (.int p1), .val (.int p2), .val (.int p3), .val (.int p4), .val (.int p5), .val (.int (2 : Int32)), .val (.ref b1), .unset, .unset] [(.ref b16)])) _
      refine XS.astore X16.here hx rfl (hb hby at_38) rfl rfl (l' := #[.val (.int p1), .val (.int p2), .val (.int p3), .val (.int p4), .val (.int p5), .val (.int (2 : Int32)), .val (.ref b1), .val (.ref b16), .unset]) rfl ?_
      show Steps p.tables e below (T16.setTop (mkF m 40 #[.val (.int p1), .val (.int p2), .val (.int p3), .val (.int p4), .val (.int p5), .val (.int (2 : Int32)), .val (.ref b1), .val (.ref b16), .unset] [])) _
      refine XS.iconst X16.here hx rfl (hb hby at_40) ?_
      show Steps p.tables e below (T16.setTop (mkF m 41 #[.val (.int p1), .val (.int p2), .val (.int p3), .val (.int p4), .val (.int p5), .val (.int (2 : Int32)), .val (.ref b1), .val (.ref b16), .unset] [(.int (0 : Int32))])) _
      refine XS.istore X16.here hx rfl (hb hby at_41) rfl (l' := #[.val (.int p1), .val (.int p2), .val (.int p3), .val (.int p4), .val (.int p5), .val (.int (2 : Int32)), .val (.ref b1), .val (.ref b16), .val (.int (0 : Int32))]) rfl ?_
      show Steps p.tables e below (T16.setTop (mkF m 43 #[.val (.int p1), .val (.int p2), .val (.int p3), .val (.int p4), .val (.int p5), .val (.int (2 : Int32)), .val (.ref b1), .val (.ref b16), .val (.int (0 : Int32))] [])) _
      refine XS.iload X16.here hx rfl (hb hby at_43) rfl ?_
      show Steps p.tables e below (T16.setTop (mkF m 45 #[.val (.int p1), .val (.int p2), .val (.int p3), .val (.int p4), .val (.int p5), .val (.int (2 : Int32)), .val (.ref b1), .val (.ref b16), .val (.int (0 : Int32))] [(.int (2 : Int32))])) _
      refine XS.ifNo X16.here hx rfl (hb hby at_45) rfl ((if0 _ _).trans (tlt (by decide : ((0 : Int32) < (2 : Int32)))).2.2.2) ?_
      show Steps p.tables e below (T16.setTop (mkF m 48 #[.val (.int p1), .val (.int p2), .val (.int p3), .val (.int p4), .val (.int p5), .val (.int (2 : Int32)), .val (.ref b1), .val (.ref b16), .val (.int (0 : Int32))] [])) _
      refine XS.aload X16.here hx rfl (hb hby at_48) rfl rfl ?_
      show Steps p.tables e below (T16.setTop (mkF m 50 #[.val (.int p1), .val (.int p2), .val (.int p3), .val (.int p4), .val (.int p5), .val (.int (2 : Int32)), .val (.ref b1), .val (.ref b16), .val (.int (0 : Int32))] [(.ref b16)])) _
      refine XS.iconst X16.here hx rfl (hb hby at_50) ?_
      show Steps p.tables e below (T16.setTop (mkF m 51 #[.val (.int p1), .val (.int p2), .val (.int p3), .val (.int p4), .val (.int p5), .val (.int (2 : Int32)), .val (.ref b1), .val (.ref b16), .val (.int (0 : Int32))] [(.int (0 : Int32)), (.ref b16)])) _
      refine XS.aload X16.here hx rfl (hb hby at_51) rfl rfl ?_
      show Steps p.tables e below (T16.setTop (mkF m 53 #[.val (.int p1), .val (.int p2), .val (.int p3), .val (.int p4), .val (.int p5), .val (.int (2 : Int32)), .val (.ref b1), .val (.ref b16), .val (.int (0 : Int32))] [(.ref b1), (.int (0 : Int32)), (.ref b16)])) _
      refine XS.iconst X16.here hx rfl (hb hby at_53) ?_
      exact kz
    obtain ⟨cl17, Ar17, -, S17, M17, H17, -⟩ := id Av_b1
    have hin17 : ¬ ((0 : Int32) < 0 ∨ cl17.slots.size ≤ ((0 : Int32)).toNatClampNeg) := inb_of S17 ⟨by decide, by decide⟩
    have hat17 : cl17.slots[((0 : Int32)).toNatClampNeg]? = some (.int (p2.toInt8.toInt32)) := H17.at hin17 rfl
    refine own_go (A := T16.setTop (mkF m 55 #[.val (.int p1), .val (.int p2), .val (.int p3), .val (.int p4), .val (.int p5), .val (.int (2 : Int32)), .val (.ref b1), .val (.ref b16), .val (.int (0 : Int32))] [(.int (p2.toInt8.toInt32)), (.int (0 : Int32)), (.ref b16)])) (fun _ kz => ?_) ?_
    · refine X16.baloadBytes hx (j := (0 : Int32)) (v := (.int (p2.toInt8.toInt32))) (by rw [e16]; exact Ar17.1) (State.isArrayOf_alike hZ.alike Ar17.2.1) Ar17.2.2 hin17 hat17 (g := (mkF m 54 #[.val (.int p1), .val (.int p2), .val (.int p3), .val (.int p4), .val (.int p5), .val (.int (2 : Int32)), .val (.ref b1), .val (.ref b16), .val (.int (0 : Int32))] [(.int (0 : Int32)), (.ref b1), (.int (0 : Int32)), (.ref b16)])) rfl rfl (hb hby at_54) _ ?_
      exact kz
    obtain ⟨cl18, Ar18, q18, S18, M18, H18, G18⟩ := id Av_b16
    have hin18 : ¬ ((0 : Int32) < 0 ∨ cl18.slots.size ≤ ((0 : Int32)).toNatClampNeg) := inb_of S18 ⟨by decide, by decide⟩
    obtain ⟨T18, h18, X18, e18, W18, st18⟩ := stB X16 hx hZ e16 Ar18 (j := (0 : Int32)) hin18 (g := (mkF m 55 #[.val (.int p1), .val (.int p2), .val (.int p3), .val (.int p4), .val (.int p5), .val (.int (2 : Int32)), .val (.ref b1), .val (.ref b16), .val (.int (0 : Int32))] [(.int (p2.toInt8.toInt32)), (.int (0 : Int32)), (.ref b16)])) rfl rfl (hb hby at_55)
    rw [own_nbn] at W18
    have Aw18 := Arv.set Ar18 q18 S18 M18 H18 G18 (fits_nar_byte _) W18 0 rfl (Nat.le_of_ble_eq_true rfl)
    replace S_t := S_t.wr W18
    replace Tb := Tb.other W18 ne_at__b16
    replace Av_b1 := Av_b1.other W18 ne_b1_b16
    have Z18 : n0 ≤ h18.size := Nat.le_trans Z16 (Keep.of_wr W18).1
    have Av_b16 : Arv Z h18 b16 k16 .byte (2 : Int32) [(.int (p2.toInt8.toInt32)), (.int (0 : Int32))] (.int (0 : Int32)) := Aw18
    have N18 := Fr.snoc X18 N5 g_b16
    refine own_go (A := T18.setTop (mkF m 56 #[.val (.int p1), .val (.int p2), .val (.int p3), .val (.int p4), .val (.int p5), .val (.int (2 : Int32)), .val (.ref b1), .val (.ref b16), .val (.int (0 : Int32))] [])) (fun _ kz => st18 _ kz) ?_
    refine own_go (A := T18.setTop (mkF m 64 #[.val (.int p1), .val (.int p2), .val (.int p3), .val (.int p4), .val (.int p5), .val (.int (2 : Int32)), .val (.ref b1), .val (.ref b16), .val (.int (0 : Int32))] [(.int (0 : Int32)), (.ref b1)])) (fun _ kz => ?_) ?_
    · show Steps p.tables e below (T18.setTop (mkF m 56 #[.val (.int p1), .val (.int p2), .val (.int p3), .val (.int p4), .val (.int p5), .val (.int (2 : Int32)), .val (.ref b1), .val (.ref b16), .val (.int (0 : Int32))] [])) _
      refine XS.iload X18.here hx rfl (hb hby at_56) rfl ?_
      show Steps p.tables e below (T18.setTop (mkF m 58 #[.val (.int p1), .val (.int p2), .val (.int p3), .val (.int p4), .val (.int p5), .val (.int (2 : Int32)), .val (.ref b1), .val (.ref b16), .val (.int (0 : Int32))] [(.int (0 : Int32))])) _
      refine XS.ifNo X18.here hx rfl (hb hby at_58) rfl ((if0 _ _).trans (teq (by decide : ((0 : Int32) = (0 : Int32)))).2) ?_
      show Steps p.tables e below (T18.setTop (mkF m 61 #[.val (.int p1), .val (.int p2), .val (.int p3), .val (.int p4), .val (.int p5), .val (.int (2 : Int32)), .val (.ref b1), .val (.ref b16), .val (.int (0 : Int32))] [])) _
      refine XS.aload X18.here hx rfl (hb hby at_61) rfl rfl ?_
      show Steps p.tables e below (T18.setTop (mkF m 63 #[.val (.int p1), .val (.int p2), .val (.int p3), .val (.int p4), .val (.int p5), .val (.int (2 : Int32)), .val (.ref b1), .val (.ref b16), .val (.int (0 : Int32))] [(.ref b1)])) _
      refine XS.iconst X18.here hx rfl (hb hby at_63) ?_
      exact kz
    obtain ⟨cl19, Ar19, -, S19, M19, H19, -⟩ := id Av_b1
    have hin19 : ¬ ((0 : Int32) < 0 ∨ cl19.slots.size ≤ ((0 : Int32)).toNatClampNeg) := inb_of S19 ⟨by decide, by decide⟩
    have hat19 : cl19.slots[((0 : Int32)).toNatClampNeg]? = some (.int (p2.toInt8.toInt32)) := H19.at hin19 rfl
    refine own_go (A := T18.setTop (mkF m 65 #[.val (.int p1), .val (.int p2), .val (.int p3), .val (.int p4), .val (.int p5), .val (.int (2 : Int32)), .val (.ref b1), .val (.ref b16), .val (.int (0 : Int32))] [(.int (p2.toInt8.toInt32))])) (fun _ kz => ?_) ?_
    · refine X18.baloadBytes hx (j := (0 : Int32)) (v := (.int (p2.toInt8.toInt32))) (by rw [e18]; exact Ar19.1) (State.isArrayOf_alike hZ.alike Ar19.2.1) Ar19.2.2 hin19 hat19 (g := (mkF m 64 #[.val (.int p1), .val (.int p2), .val (.int p3), .val (.int p4), .val (.int p5), .val (.int (2 : Int32)), .val (.ref b1), .val (.ref b16), .val (.int (0 : Int32))] [(.int (0 : Int32)), (.ref b1)])) rfl rfl (hb hby at_64) _ ?_
      exact kz
    obtain ⟨_, _, ⟨T20, L20, k20, n20⟩, -, X20, ⟨Lc20, hQ20, l20, y20, z20⟩, st20⟩ := Jvm.LawKit.callS X18 hx (y := (⟨"com/example/sharp_nose/sharpnose/BinaryDataFoundInPinLaw", "bin", "(B)Z"⟩ : MethodName)) hown (mvT hZ (hw _ (List.mem_of_getElem? (i := 6) rfl))) (mvT hZ (hw _ (List.mem_of_getElem? (i := 7) rfl))) (mvT hZ (hw _ (List.mem_of_getElem? (i := 8) rfl))) (mvT hZ (hw _ (List.mem_of_getElem? (i := 9) rfl))) (by decide) (backOf (W := 0) (rmBin l Z a0 hw [] (p2.toInt8.toInt32) h18 n0 Z18) hZ (hw _ (List.mem_of_getElem? (i := 9) rfl)) (hw _ (List.mem_of_getElem? (i := 8) rfl)) (by decide) (by decide)) (g := (mkF m 65 #[.val (.int p1), .val (.int p2), .val (.int p3), .val (.int p4), .val (.int p5), .val (.int (2 : Int32)), .val (.ref b1), .val (.ref b16), .val (.int (0 : Int32))] [(.int (p2.toInt8.toInt32))])) rfl (by rw [hml]; rfl) (argsL := [(.int (p2.toInt8.toInt32))]) (rest := []) (lenOf own_pd1 rfl) rfl (by show 2 * 0 + _ ≤ _; exact Nat.le_of_eq rfl) (hb hby at_65) (fun _ _ => ⟨rfl, e18, (by decide : 2 + 0 ≤ _), (by decide : 6 + 0 ≤ _)⟩)
    dsimp only [Pt.U, Pt.locs, Pt.cells, Pt.slots] at X20 l20 y20 z20 st20 hQ20
    subst l20 y20 z20
    obtain ⟨rfl, N20q, e20⟩ := hQ20
    have N20 := Fr.app N18 N20q
    refine own_go (A := T20.setTop (mkF m 68 #[.val (.int p1), .val (.int p2), .val (.int p3), .val (.int p4), .val (.int p5), .val (.int (2 : Int32)), .val (.ref b1), .val (.ref b16), .val (.int (0 : Int32))] [(.int (own_tv ((p2.toInt8.toInt32) &&& (255 : Int32))))])) (fun _ kz => st20 _ kz) ?_
    by_cases hs21 : (own_tv ((p2.toInt8.toInt32) &&& (255 : Int32))) = (0 : Int32)
    · skip
      refine own_go (A := T20.setTop (mkF m 75 #[.val (.int p1), .val (.int p2), .val (.int p3), .val (.int p4), .val (.int p5), .val (.int (2 : Int32)), .val (.ref b1), .val (.ref b16), .val (.int (0 : Int32))] [])) (fun _ kz => ?_) ?_
      · show Steps p.tables e below (T20.setTop (mkF m 68 #[.val (.int p1), .val (.int p2), .val (.int p3), .val (.int p4), .val (.int p5), .val (.int (2 : Int32)), .val (.ref b1), .val (.ref b16), .val (.int (0 : Int32))] [(.int (own_tv ((p2.toInt8.toInt32) &&& (255 : Int32))))])) _
        refine XS.ifYes X20.here hx rfl (pc0 := 68) (pc' := 75) rfl (hb hby at_68) rfl ((if0 _ _).trans (teq hs21).1) (by decide) (by decide) ?_
        exact kz
      refine own_go (A := T20.setTop (mkF m 90 #[.val (.int p1), .val (.int p2), .val (.int p3), .val (.int p4), .val (.int p5), .val (.int (2 : Int32)), .val (.ref b1), .val (.ref b16), .val (.int (0 : Int32))] [(.int (1 : Int32)), (.ref b1), (.int (1 : Int32)), (.ref b16)])) (fun _ kz => ?_) ?_
      · show Steps p.tables e below (T20.setTop (mkF m 75 #[.val (.int p1), .val (.int p2), .val (.int p3), .val (.int p4), .val (.int p5), .val (.int (2 : Int32)), .val (.ref b1), .val (.ref b16), .val (.int (0 : Int32))] [])) _
        refine XS.iconst X20.here hx rfl (hb hby at_75) ?_
        show Steps p.tables e below (T20.setTop (mkF m 76 #[.val (.int p1), .val (.int p2), .val (.int p3), .val (.int p4), .val (.int p5), .val (.int (2 : Int32)), .val (.ref b1), .val (.ref b16), .val (.int (0 : Int32))] [(.int (0 : Int32))])) _
        refine XS.istore X20.here hx rfl (hb hby at_76) rfl (l' := #[.val (.int p1), .val (.int p2), .val (.int p3), .val (.int p4), .val (.int p5), .val (.int (2 : Int32)), .val (.ref b1), .val (.ref b16), .val (.int (0 : Int32))]) rfl ?_
        show Steps p.tables e below (T20.setTop (mkF m 78 #[.val (.int p1), .val (.int p2), .val (.int p3), .val (.int p4), .val (.int p5), .val (.int (2 : Int32)), .val (.ref b1), .val (.ref b16), .val (.int (0 : Int32))] [])) _
        refine XS.iload X20.here hx rfl (hb hby at_78) rfl ?_
        show Steps p.tables e below (T20.setTop (mkF m 80 #[.val (.int p1), .val (.int p2), .val (.int p3), .val (.int p4), .val (.int p5), .val (.int (2 : Int32)), .val (.ref b1), .val (.ref b16), .val (.int (0 : Int32))] [(.int (2 : Int32))])) _
        refine XS.iconst X20.here hx rfl (hb hby at_80) ?_
        show Steps p.tables e below (T20.setTop (mkF m 81 #[.val (.int p1), .val (.int p2), .val (.int p3), .val (.int p4), .val (.int p5), .val (.int (2 : Int32)), .val (.ref b1), .val (.ref b16), .val (.int (0 : Int32))] [(.int (1 : Int32)), (.int (2 : Int32))])) _
        refine XS.icmpNo X20.here hx rfl (hb hby at_81) rfl (tlt (by decide : ((1 : Int32) < (2 : Int32)))).2.2.2 ?_
        show Steps p.tables e below (T20.setTop (mkF m 84 #[.val (.int p1), .val (.int p2), .val (.int p3), .val (.int p4), .val (.int p5), .val (.int (2 : Int32)), .val (.ref b1), .val (.ref b16), .val (.int (0 : Int32))] [])) _
        refine XS.aload X20.here hx rfl (hb hby at_84) rfl rfl ?_
        show Steps p.tables e below (T20.setTop (mkF m 86 #[.val (.int p1), .val (.int p2), .val (.int p3), .val (.int p4), .val (.int p5), .val (.int (2 : Int32)), .val (.ref b1), .val (.ref b16), .val (.int (0 : Int32))] [(.ref b16)])) _
        refine XS.iconst X20.here hx rfl (hb hby at_86) ?_
        show Steps p.tables e below (T20.setTop (mkF m 87 #[.val (.int p1), .val (.int p2), .val (.int p3), .val (.int p4), .val (.int p5), .val (.int (2 : Int32)), .val (.ref b1), .val (.ref b16), .val (.int (0 : Int32))] [(.int (1 : Int32)), (.ref b16)])) _
        refine XS.aload X20.here hx rfl (hb hby at_87) rfl rfl ?_
        show Steps p.tables e below (T20.setTop (mkF m 89 #[.val (.int p1), .val (.int p2), .val (.int p3), .val (.int p4), .val (.int p5), .val (.int (2 : Int32)), .val (.ref b1), .val (.ref b16), .val (.int (0 : Int32))] [(.ref b1), (.int (1 : Int32)), (.ref b16)])) _
        refine XS.iconst X20.here hx rfl (hb hby at_89) ?_
        exact kz
      obtain ⟨cl22, Ar22, -, S22, M22, H22, -⟩ := id Av_b1
      have hin22 : ¬ ((1 : Int32) < 0 ∨ cl22.slots.size ≤ ((1 : Int32)).toNatClampNeg) := inb_of S22 ⟨by decide, by decide⟩
      have hat22 : cl22.slots[((1 : Int32)).toNatClampNeg]? = some (.int (p3.toInt8.toInt32)) := H22.at hin22 rfl
      refine own_go (A := T20.setTop (mkF m 91 #[.val (.int p1), .val (.int p2), .val (.int p3), .val (.int p4), .val (.int p5), .val (.int (2 : Int32)), .val (.ref b1), .val (.ref b16), .val (.int (0 : Int32))] [(.int (p3.toInt8.toInt32)), (.int (1 : Int32)), (.ref b16)])) (fun _ kz => ?_) ?_
      · refine X20.baloadBytes hx (j := (1 : Int32)) (v := (.int (p3.toInt8.toInt32))) (by rw [e20]; exact Ar22.1) (State.isArrayOf_alike hZ.alike Ar22.2.1) Ar22.2.2 hin22 hat22 (g := (mkF m 90 #[.val (.int p1), .val (.int p2), .val (.int p3), .val (.int p4), .val (.int p5), .val (.int (2 : Int32)), .val (.ref b1), .val (.ref b16), .val (.int (0 : Int32))] [(.int (1 : Int32)), (.ref b1), (.int (1 : Int32)), (.ref b16)])) rfl rfl (hb hby at_90) _ ?_
        exact kz
      obtain ⟨cl23, Ar23, q23, S23, M23, H23, G23⟩ := id Av_b16
      have hin23 : ¬ ((1 : Int32) < 0 ∨ cl23.slots.size ≤ ((1 : Int32)).toNatClampNeg) := inb_of S23 ⟨by decide, by decide⟩
      obtain ⟨T23, h23, X23, e23, W23, st23⟩ := stB X20 hx hZ e20 Ar23 (j := (1 : Int32)) hin23 (g := (mkF m 91 #[.val (.int p1), .val (.int p2), .val (.int p3), .val (.int p4), .val (.int p5), .val (.int (2 : Int32)), .val (.ref b1), .val (.ref b16), .val (.int (0 : Int32))] [(.int (p3.toInt8.toInt32)), (.int (1 : Int32)), (.ref b16)])) rfl rfl (hb hby at_91)
      rw [own_nbn] at W23
      have Aw23 := Arv.set Ar23 q23 S23 M23 H23 G23 (fits_nar_byte _) W23 1 rfl (Nat.le_of_ble_eq_true rfl)
      replace S_t := S_t.wr W23
      replace Tb := Tb.other W23 ne_at__b16
      replace Av_b1 := Av_b1.other W23 ne_b1_b16
      have Z23 : n0 ≤ h23.size := Nat.le_trans Z18 (Keep.of_wr W23).1
      have Av_b16 : Arv Z h23 b16 k16 .byte (2 : Int32) [(.int (p2.toInt8.toInt32)), (.int (p3.toInt8.toInt32))] (.int (0 : Int32)) := Aw23
      have N23 := Fr.snoc X23 N20 g_b16
      refine own_go (A := T23.setTop (mkF m 92 #[.val (.int p1), .val (.int p2), .val (.int p3), .val (.int p4), .val (.int p5), .val (.int (2 : Int32)), .val (.ref b1), .val (.ref b16), .val (.int (0 : Int32))] [])) (fun _ kz => st23 _ kz) ?_
      refine own_go (A := T23.setTop (mkF m 100 #[.val (.int p1), .val (.int p2), .val (.int p3), .val (.int p4), .val (.int p5), .val (.int (2 : Int32)), .val (.ref b1), .val (.ref b16), .val (.int (0 : Int32))] [(.int (1 : Int32)), (.ref b1)])) (fun _ kz => ?_) ?_
      · show Steps p.tables e below (T23.setTop (mkF m 92 #[.val (.int p1), .val (.int p2), .val (.int p3), .val (.int p4), .val (.int p5), .val (.int (2 : Int32)), .val (.ref b1), .val (.ref b16), .val (.int (0 : Int32))] [])) _
        refine XS.iload X23.here hx rfl (hb hby at_92) rfl ?_
        show Steps p.tables e below (T23.setTop (mkF m 94 #[.val (.int p1), .val (.int p2), .val (.int p3), .val (.int p4), .val (.int p5), .val (.int (2 : Int32)), .val (.ref b1), .val (.ref b16), .val (.int (0 : Int32))] [(.int (0 : Int32))])) _
        refine XS.ifNo X23.here hx rfl (hb hby at_94) rfl ((if0 _ _).trans (teq (by decide : ((0 : Int32) = (0 : Int32)))).2) ?_
        show Steps p.tables e below (T23.setTop (mkF m 97 #[.val (.int p1), .val (.int p2), .val (.int p3), .val (.int p4), .val (.int p5), .val (.int (2 : Int32)), .val (.ref b1), .val (.ref b16), .val (.int (0 : Int32))] [])) _
        refine XS.aload X23.here hx rfl (hb hby at_97) rfl rfl ?_
        show Steps p.tables e below (T23.setTop (mkF m 99 #[.val (.int p1), .val (.int p2), .val (.int p3), .val (.int p4), .val (.int p5), .val (.int (2 : Int32)), .val (.ref b1), .val (.ref b16), .val (.int (0 : Int32))] [(.ref b1)])) _
        refine XS.iconst X23.here hx rfl (hb hby at_99) ?_
        exact kz
      obtain ⟨cl24, Ar24, -, S24, M24, H24, -⟩ := id Av_b1
      have hin24 : ¬ ((1 : Int32) < 0 ∨ cl24.slots.size ≤ ((1 : Int32)).toNatClampNeg) := inb_of S24 ⟨by decide, by decide⟩
      have hat24 : cl24.slots[((1 : Int32)).toNatClampNeg]? = some (.int (p3.toInt8.toInt32)) := H24.at hin24 rfl
      refine own_go (A := T23.setTop (mkF m 101 #[.val (.int p1), .val (.int p2), .val (.int p3), .val (.int p4), .val (.int p5), .val (.int (2 : Int32)), .val (.ref b1), .val (.ref b16), .val (.int (0 : Int32))] [(.int (p3.toInt8.toInt32))])) (fun _ kz => ?_) ?_
      · refine X23.baloadBytes hx (j := (1 : Int32)) (v := (.int (p3.toInt8.toInt32))) (by rw [e23]; exact Ar24.1) (State.isArrayOf_alike hZ.alike Ar24.2.1) Ar24.2.2 hin24 hat24 (g := (mkF m 100 #[.val (.int p1), .val (.int p2), .val (.int p3), .val (.int p4), .val (.int p5), .val (.int (2 : Int32)), .val (.ref b1), .val (.ref b16), .val (.int (0 : Int32))] [(.int (1 : Int32)), (.ref b1)])) rfl rfl (hb hby at_100) _ ?_
        exact kz
      obtain ⟨_, _, ⟨T25, L25, k25, n25⟩, -, X25, ⟨Lc25, hQ25, l25, y25, z25⟩, st25⟩ := Jvm.LawKit.callS X23 hx (y := (⟨"com/example/sharp_nose/sharpnose/BinaryDataFoundInPinLaw", "bin", "(B)Z"⟩ : MethodName)) hown (mvT hZ (hw _ (List.mem_of_getElem? (i := 6) rfl))) (mvT hZ (hw _ (List.mem_of_getElem? (i := 7) rfl))) (mvT hZ (hw _ (List.mem_of_getElem? (i := 8) rfl))) (mvT hZ (hw _ (List.mem_of_getElem? (i := 9) rfl))) (by decide) (backOf (W := 0) (rmBin l Z a0 hw [] (p3.toInt8.toInt32) h23 n0 Z23) hZ (hw _ (List.mem_of_getElem? (i := 9) rfl)) (hw _ (List.mem_of_getElem? (i := 8) rfl)) (by decide) (by decide)) (g := (mkF m 101 #[.val (.int p1), .val (.int p2), .val (.int p3), .val (.int p4), .val (.int p5), .val (.int (2 : Int32)), .val (.ref b1), .val (.ref b16), .val (.int (0 : Int32))] [(.int (p3.toInt8.toInt32))])) rfl (by rw [hml]; rfl) (argsL := [(.int (p3.toInt8.toInt32))]) (rest := []) (lenOf own_pd1 rfl) rfl (by show 2 * 0 + _ ≤ _; exact Nat.le_of_eq rfl) (hb hby at_101) (fun _ _ => ⟨rfl, e23, (by decide : 2 + 0 ≤ _), (by decide : 6 + 0 ≤ _)⟩)
      dsimp only [Pt.U, Pt.locs, Pt.cells, Pt.slots] at X25 l25 y25 z25 st25 hQ25
      subst l25 y25 z25
      obtain ⟨rfl, N25q, e25⟩ := hQ25
      have N25 := Fr.app N23 N25q
      refine own_go (A := T25.setTop (mkF m 104 #[.val (.int p1), .val (.int p2), .val (.int p3), .val (.int p4), .val (.int p5), .val (.int (2 : Int32)), .val (.ref b1), .val (.ref b16), .val (.int (0 : Int32))] [(.int (own_tv ((p3.toInt8.toInt32) &&& (255 : Int32))))])) (fun _ kz => st25 _ kz) ?_
      by_cases hs26 : (own_tv ((p3.toInt8.toInt32) &&& (255 : Int32))) = (0 : Int32)
      · skip
        refine own_go (A := T25.setTop (mkF m 111 #[.val (.int p1), .val (.int p2), .val (.int p3), .val (.int p4), .val (.int p5), .val (.int (2 : Int32)), .val (.ref b1), .val (.ref b16), .val (.int (0 : Int32))] [])) (fun _ kz => ?_) ?_
        · show Steps p.tables e below (T25.setTop (mkF m 104 #[.val (.int p1), .val (.int p2), .val (.int p3), .val (.int p4), .val (.int p5), .val (.int (2 : Int32)), .val (.ref b1), .val (.ref b16), .val (.int (0 : Int32))] [(.int (own_tv ((p3.toInt8.toInt32) &&& (255 : Int32))))])) _
          refine XS.ifYes X25.here hx rfl (pc0 := 104) (pc' := 111) rfl (hb hby at_104) rfl ((if0 _ _).trans (teq hs26).1) (by decide) (by decide) ?_
          exact kz
        refine own_go (A := T25.setTop (mkF m 188 #[.val (.int p1), .val (.int p2), .val (.int p3), .val (.int p4), .val (.int p5), .val (.int (2 : Int32)), .val (.ref b1), .val (.ref b16), .val (.int (0 : Int32))] [(.ref b16)])) (fun _ kz => ?_) ?_
        · show Steps p.tables e below (T25.setTop (mkF m 111 #[.val (.int p1), .val (.int p2), .val (.int p3), .val (.int p4), .val (.int p5), .val (.int (2 : Int32)), .val (.ref b1), .val (.ref b16), .val (.int (0 : Int32))] [])) _
          refine XS.iconst X25.here hx rfl (hb hby at_111) ?_
          show Steps p.tables e below (T25.setTop (mkF m 112 #[.val (.int p1), .val (.int p2), .val (.int p3), .val (.int p4), .val (.int p5), .val (.int (2 : Int32)), .val (.ref b1), .val (.ref b16), .val (.int (0 : Int32))] [(.int (0 : Int32))])) _
          refine XS.istore X25.here hx rfl (hb hby at_112) rfl (l' := #[.val (.int p1), .val (.int p2), .val (.int p3), .val (.int p4), .val (.int p5), .val (.int (2 : Int32)), .val (.ref b1), .val (.ref b16), .val (.int (0 : Int32))]) rfl ?_
          show Steps p.tables e below (T25.setTop (mkF m 114 #[.val (.int p1), .val (.int p2), .val (.int p3), .val (.int p4), .val (.int p5), .val (.int (2 : Int32)), .val (.ref b1), .val (.ref b16), .val (.int (0 : Int32))] [])) _
          refine XS.iload X25.here hx rfl (hb hby at_114) rfl ?_
          show Steps p.tables e below (T25.setTop (mkF m 116 #[.val (.int p1), .val (.int p2), .val (.int p3), .val (.int p4), .val (.int p5), .val (.int (2 : Int32)), .val (.ref b1), .val (.ref b16), .val (.int (0 : Int32))] [(.int (2 : Int32))])) _
          refine XS.iconst X25.here hx rfl (hb hby at_116) ?_
          show Steps p.tables e below (T25.setTop (mkF m 117 #[.val (.int p1), .val (.int p2), .val (.int p3), .val (.int p4), .val (.int p5), .val (.int (2 : Int32)), .val (.ref b1), .val (.ref b16), .val (.int (0 : Int32))] [(.int (2 : Int32)), (.int (2 : Int32))])) _
          refine XS.icmpYes X25.here hx rfl (pc0 := 117) (pc' := 150) rfl (hb hby at_117) rfl (flt (by decide : ¬ ((2 : Int32) < (2 : Int32)))).2.2.2 (by decide) (by decide) ?_
          show Steps p.tables e below (T25.setTop (mkF m 150 #[.val (.int p1), .val (.int p2), .val (.int p3), .val (.int p4), .val (.int p5), .val (.int (2 : Int32)), .val (.ref b1), .val (.ref b16), .val (.int (0 : Int32))] [])) _
          refine XS.iload X25.here hx rfl (hb hby at_150) rfl ?_
          show Steps p.tables e below (T25.setTop (mkF m 152 #[.val (.int p1), .val (.int p2), .val (.int p3), .val (.int p4), .val (.int p5), .val (.int (2 : Int32)), .val (.ref b1), .val (.ref b16), .val (.int (0 : Int32))] [(.int (2 : Int32))])) _
          refine XS.iconst X25.here hx rfl (hb hby at_152) ?_
          show Steps p.tables e below (T25.setTop (mkF m 153 #[.val (.int p1), .val (.int p2), .val (.int p3), .val (.int p4), .val (.int p5), .val (.int (2 : Int32)), .val (.ref b1), .val (.ref b16), .val (.int (0 : Int32))] [(.int (3 : Int32)), (.int (2 : Int32))])) _
          refine XS.icmpYes X25.here hx rfl (pc0 := 153) (pc' := 186) rfl (hb hby at_153) rfl (flt (by decide : ¬ ((3 : Int32) < (2 : Int32)))).2.2.2 (by decide) (by decide) ?_
          show Steps p.tables e below (T25.setTop (mkF m 186 #[.val (.int p1), .val (.int p2), .val (.int p3), .val (.int p4), .val (.int p5), .val (.int (2 : Int32)), .val (.ref b1), .val (.ref b16), .val (.int (0 : Int32))] [])) _
          refine XS.aload X25.here hx rfl (hb hby at_186) rfl rfl ?_
          exact kz
        obtain ⟨_, _, ⟨T27, L27, k27, n27⟩, -, X27, ⟨Lc27, hQ27, l27, y27, z27⟩, st27⟩ := Jvm.LawKit.callS X25 hx (y := (⟨"com/example/sharp_nose/sharpnose/BinaryData", "foundIn", "([B)Z"⟩ : MethodName)) hown (mvT hZ (hw _ (List.mem_of_getElem? (i := 2) rfl))) (mvT hZ (hw _ (List.mem_of_getElem? (i := 3) rfl))) (mvT hZ (hw _ (List.mem_of_getElem? (i := 4) rfl))) (mvT hZ (hw _ (List.mem_of_getElem? (i := 5) rfl))) (by decide) (backOf (W := 0) (rmF2 l Z a0 hw [] b16 at_ k16 (p2.toInt8.toInt32) (p3.toInt8.toInt32) (0 : Int32) h23 n0 Z23 Av_b16 S_t Tb (by simp [hs21, hs26])) hZ (hw _ (List.mem_of_getElem? (i := 5) rfl)) (hw _ (List.mem_of_getElem? (i := 4) rfl)) (by decide) (by decide)) (g := (mkF m 188 #[.val (.int p1), .val (.int p2), .val (.int p3), .val (.int p4), .val (.int p5), .val (.int (2 : Int32)), .val (.ref b1), .val (.ref b16), .val (.int (0 : Int32))] [(.ref b16)])) rfl (by rw [hml]; rfl) (argsL := [(.ref b16)]) (rest := []) (lenOf own_pd0 rfl) rfl (by show 2 * 0 + _ ≤ _; exact Nat.le_of_eq rfl) (hb hby at_188) (fun _ _ => ⟨rfl, e25, (by decide : 2 + 0 ≤ _), (by decide : 6 + 0 ≤ _)⟩)
        dsimp only [Pt.U, Pt.locs, Pt.cells, Pt.slots] at X27 l27 y27 z27 st27 hQ27
        subst l27 y27 z27
        obtain ⟨rfl, N27q, e27⟩ := hQ27
        have N27 := Fr.app N25 N27q
        refine own_go (A := T27.setTop (mkF m 191 #[.val (.int p1), .val (.int p2), .val (.int p3), .val (.int p4), .val (.int p5), .val (.int (2 : Int32)), .val (.ref b1), .val (.ref b16), .val (.int (0 : Int32))] [(.int (0 : Int32))])) (fun _ kz => st27 _ kz) ?_
        refine own_go (A := T27.setTop (mkF m 201 #[.val (.int p1), .val (.int p2), .val (.int p3), .val (.int p4), .val (.int p5), .val (.int (2 : Int32)), .val (.ref b1), .val (.ref b16), .val (.int (0 : Int32))] [(.int (1 : Int32))])) (fun _ kz => ?_) ?_
        · show Steps p.tables e below (T27.setTop (mkF m 191 #[.val (.int p1), .val (.int p2), .val (.int p3), .val (.int p4), .val (.int p5), .val (.int (2 : Int32)), .val (.ref b1), .val (.ref b16), .val (.int (0 : Int32))] [(.int (0 : Int32))])) _
          refine XS.iload X27.here hx rfl (hb hby at_191) rfl ?_
          show Steps p.tables e below (T27.setTop (mkF m 193 #[.val (.int p1), .val (.int p2), .val (.int p3), .val (.int p4), .val (.int p5), .val (.int (2 : Int32)), .val (.ref b1), .val (.ref b16), .val (.int (0 : Int32))] [(.int (0 : Int32)), (.int (0 : Int32))])) _
          refine XS.icmpNo X27.here hx rfl (hb hby at_193) rfl (teq (by decide : ((0 : Int32) = (0 : Int32)))).2 ?_
          show Steps p.tables e below (T27.setTop (mkF m 196 #[.val (.int p1), .val (.int p2), .val (.int p3), .val (.int p4), .val (.int p5), .val (.int (2 : Int32)), .val (.ref b1), .val (.ref b16), .val (.int (0 : Int32))] [])) _
          refine XS.iconst X27.here hx rfl (hb hby at_196) ?_
          show Steps p.tables e below (T27.setTop (mkF m 197 #[.val (.int p1), .val (.int p2), .val (.int p3), .val (.int p4), .val (.int p5), .val (.int (2 : Int32)), .val (.ref b1), .val (.ref b16), .val (.int (0 : Int32))] [(.int (1 : Int32))])) _
          refine XS.goto X27.here hx rfl (pc0 := 197) (pc' := 201) rfl (hb hby at_197) (by decide) (by decide) ?_
          exact kz
        obtain ⟨fs, hrr, hrun, hended, hW, hsame⟩ := X27.leave (v := some (.int (1 : Int32))) (fun h => by rw [Bd.returns] at h; cases h)
        refine ⟨_, _, ?_, hrun, hended, _, _, rfl, ?_, ⟨_, rfl⟩, hW, hsame.mono (by decide) (by decide)⟩
        · show Steps p.tables e below (T27.setTop (mkF m 201 #[.val (.int p1), .val (.int p2), .val (.int p3), .val (.int p4), .val (.int p5), .val (.int (2 : Int32)), .val (.ref b1), .val (.ref b16), .val (.int (0 : Int32))] [(.int (1 : Int32))])) _
          exact retN X27 hx (t := .boolean) Bd.returns (by simp) (hb hby at_201) hrr
        · show Qrm0 Z p1 p2 p3 p4 p5 at_ h0 n0 _ T27.heap _
          rw [e27]
          exact ⟨rfl, N27⟩
      · skip
        refine own_go (A := T25.setTop (mkF m 107 #[.val (.int p1), .val (.int p2), .val (.int p3), .val (.int p4), .val (.int p5), .val (.int (2 : Int32)), .val (.ref b1), .val (.ref b16), .val (.int (0 : Int32))] [])) (fun _ kz => ?_) ?_
        · show Steps p.tables e below (T25.setTop (mkF m 104 #[.val (.int p1), .val (.int p2), .val (.int p3), .val (.int p4), .val (.int p5), .val (.int (2 : Int32)), .val (.ref b1), .val (.ref b16), .val (.int (0 : Int32))] [(.int (own_tv ((p3.toInt8.toInt32) &&& (255 : Int32))))])) _
          refine XS.ifNo X25.here hx rfl (hb hby at_104) rfl ((if0 _ _).trans (feq hs26).1) ?_
          exact kz
        refine own_go (A := T25.setTop (mkF m 188 #[.val (.int p1), .val (.int p2), .val (.int p3), .val (.int p4), .val (.int p5), .val (.int (2 : Int32)), .val (.ref b1), .val (.ref b16), .val (.int (1 : Int32))] [(.ref b16)])) (fun _ kz => ?_) ?_
        · show Steps p.tables e below (T25.setTop (mkF m 107 #[.val (.int p1), .val (.int p2), .val (.int p3), .val (.int p4), .val (.int p5), .val (.int (2 : Int32)), .val (.ref b1), .val (.ref b16), .val (.int (0 : Int32))] [])) _
          refine XS.iconst X25.here hx rfl (hb hby at_107) ?_
          show Steps p.tables e below (T25.setTop (mkF m 108 #[.val (.int p1), .val (.int p2), .val (.int p3), .val (.int p4), .val (.int p5), .val (.int (2 : Int32)), .val (.ref b1), .val (.ref b16), .val (.int (0 : Int32))] [(.int (1 : Int32))])) _
          refine XS.goto X25.here hx rfl (pc0 := 108) (pc' := 112) rfl (hb hby at_108) (by decide) (by decide) ?_
          show Steps p.tables e below (T25.setTop (mkF m 112 #[.val (.int p1), .val (.int p2), .val (.int p3), .val (.int p4), .val (.int p5), .val (.int (2 : Int32)), .val (.ref b1), .val (.ref b16), .val (.int (0 : Int32))] [(.int (1 : Int32))])) _
          refine XS.istore X25.here hx rfl (hb hby at_112) rfl (l' := #[.val (.int p1), .val (.int p2), .val (.int p3), .val (.int p4), .val (.int p5), .val (.int (2 : Int32)), .val (.ref b1), .val (.ref b16), .val (.int (1 : Int32))]) rfl ?_
          show Steps p.tables e below (T25.setTop (mkF m 114 #[.val (.int p1), .val (.int p2), .val (.int p3), .val (.int p4), .val (.int p5), .val (.int (2 : Int32)), .val (.ref b1), .val (.ref b16), .val (.int (1 : Int32))] [])) _
          refine XS.iload X25.here hx rfl (hb hby at_114) rfl ?_
          show Steps p.tables e below (T25.setTop (mkF m 116 #[.val (.int p1), .val (.int p2), .val (.int p3), .val (.int p4), .val (.int p5), .val (.int (2 : Int32)), .val (.ref b1), .val (.ref b16), .val (.int (1 : Int32))] [(.int (2 : Int32))])) _
          refine XS.iconst X25.here hx rfl (hb hby at_116) ?_
          show Steps p.tables e below (T25.setTop (mkF m 117 #[.val (.int p1), .val (.int p2), .val (.int p3), .val (.int p4), .val (.int p5), .val (.int (2 : Int32)), .val (.ref b1), .val (.ref b16), .val (.int (1 : Int32))] [(.int (2 : Int32)), (.int (2 : Int32))])) _
          refine XS.icmpYes X25.here hx rfl (pc0 := 117) (pc' := 150) rfl (hb hby at_117) rfl (flt (by decide : ¬ ((2 : Int32) < (2 : Int32)))).2.2.2 (by decide) (by decide) ?_
          show Steps p.tables e below (T25.setTop (mkF m 150 #[.val (.int p1), .val (.int p2), .val (.int p3), .val (.int p4), .val (.int p5), .val (.int (2 : Int32)), .val (.ref b1), .val (.ref b16), .val (.int (1 : Int32))] [])) _
          refine XS.iload X25.here hx rfl (hb hby at_150) rfl ?_
          show Steps p.tables e below (T25.setTop (mkF m 152 #[.val (.int p1), .val (.int p2), .val (.int p3), .val (.int p4), .val (.int p5), .val (.int (2 : Int32)), .val (.ref b1), .val (.ref b16), .val (.int (1 : Int32))] [(.int (2 : Int32))])) _
          refine XS.iconst X25.here hx rfl (hb hby at_152) ?_
          show Steps p.tables e below (T25.setTop (mkF m 153 #[.val (.int p1), .val (.int p2), .val (.int p3), .val (.int p4), .val (.int p5), .val (.int (2 : Int32)), .val (.ref b1), .val (.ref b16), .val (.int (1 : Int32))] [(.int (3 : Int32)), (.int (2 : Int32))])) _
          refine XS.icmpYes X25.here hx rfl (pc0 := 153) (pc' := 186) rfl (hb hby at_153) rfl (flt (by decide : ¬ ((3 : Int32) < (2 : Int32)))).2.2.2 (by decide) (by decide) ?_
          show Steps p.tables e below (T25.setTop (mkF m 186 #[.val (.int p1), .val (.int p2), .val (.int p3), .val (.int p4), .val (.int p5), .val (.int (2 : Int32)), .val (.ref b1), .val (.ref b16), .val (.int (1 : Int32))] [])) _
          refine XS.aload X25.here hx rfl (hb hby at_186) rfl rfl ?_
          exact kz
        obtain ⟨_, _, ⟨T28, L28, k28, n28⟩, -, X28, ⟨Lc28, hQ28, l28, y28, z28⟩, st28⟩ := Jvm.LawKit.callS X25 hx (y := (⟨"com/example/sharp_nose/sharpnose/BinaryData", "foundIn", "([B)Z"⟩ : MethodName)) hown (mvT hZ (hw _ (List.mem_of_getElem? (i := 2) rfl))) (mvT hZ (hw _ (List.mem_of_getElem? (i := 3) rfl))) (mvT hZ (hw _ (List.mem_of_getElem? (i := 4) rfl))) (mvT hZ (hw _ (List.mem_of_getElem? (i := 5) rfl))) (by decide) (backOf (W := 0) (rmF2 l Z a0 hw [] b16 at_ k16 (p2.toInt8.toInt32) (p3.toInt8.toInt32) (1 : Int32) h23 n0 Z23 Av_b16 S_t Tb (by simp [hs21, hs26])) hZ (hw _ (List.mem_of_getElem? (i := 5) rfl)) (hw _ (List.mem_of_getElem? (i := 4) rfl)) (by decide) (by decide)) (g := (mkF m 188 #[.val (.int p1), .val (.int p2), .val (.int p3), .val (.int p4), .val (.int p5), .val (.int (2 : Int32)), .val (.ref b1), .val (.ref b16), .val (.int (1 : Int32))] [(.ref b16)])) rfl (by rw [hml]; rfl) (argsL := [(.ref b16)]) (rest := []) (lenOf own_pd0 rfl) rfl (by show 2 * 0 + _ ≤ _; exact Nat.le_of_eq rfl) (hb hby at_188) (fun _ _ => ⟨rfl, e25, (by decide : 2 + 0 ≤ _), (by decide : 6 + 0 ≤ _)⟩)
        dsimp only [Pt.U, Pt.locs, Pt.cells, Pt.slots] at X28 l28 y28 z28 st28 hQ28
        subst l28 y28 z28
        obtain ⟨rfl, N28q, e28⟩ := hQ28
        have N28 := Fr.app N25 N28q
        refine own_go (A := T28.setTop (mkF m 191 #[.val (.int p1), .val (.int p2), .val (.int p3), .val (.int p4), .val (.int p5), .val (.int (2 : Int32)), .val (.ref b1), .val (.ref b16), .val (.int (1 : Int32))] [(.int (1 : Int32))])) (fun _ kz => st28 _ kz) ?_
        refine own_go (A := T28.setTop (mkF m 201 #[.val (.int p1), .val (.int p2), .val (.int p3), .val (.int p4), .val (.int p5), .val (.int (2 : Int32)), .val (.ref b1), .val (.ref b16), .val (.int (1 : Int32))] [(.int (1 : Int32))])) (fun _ kz => ?_) ?_
        · show Steps p.tables e below (T28.setTop (mkF m 191 #[.val (.int p1), .val (.int p2), .val (.int p3), .val (.int p4), .val (.int p5), .val (.int (2 : Int32)), .val (.ref b1), .val (.ref b16), .val (.int (1 : Int32))] [(.int (1 : Int32))])) _
          refine XS.iload X28.here hx rfl (hb hby at_191) rfl ?_
          show Steps p.tables e below (T28.setTop (mkF m 193 #[.val (.int p1), .val (.int p2), .val (.int p3), .val (.int p4), .val (.int p5), .val (.int (2 : Int32)), .val (.ref b1), .val (.ref b16), .val (.int (1 : Int32))] [(.int (1 : Int32)), (.int (1 : Int32))])) _
          refine XS.icmpNo X28.here hx rfl (hb hby at_193) rfl (teq (by decide : ((1 : Int32) = (1 : Int32)))).2 ?_
          show Steps p.tables e below (T28.setTop (mkF m 196 #[.val (.int p1), .val (.int p2), .val (.int p3), .val (.int p4), .val (.int p5), .val (.int (2 : Int32)), .val (.ref b1), .val (.ref b16), .val (.int (1 : Int32))] [])) _
          refine XS.iconst X28.here hx rfl (hb hby at_196) ?_
          show Steps p.tables e below (T28.setTop (mkF m 197 #[.val (.int p1), .val (.int p2), .val (.int p3), .val (.int p4), .val (.int p5), .val (.int (2 : Int32)), .val (.ref b1), .val (.ref b16), .val (.int (1 : Int32))] [(.int (1 : Int32))])) _
          refine XS.goto X28.here hx rfl (pc0 := 197) (pc' := 201) rfl (hb hby at_197) (by decide) (by decide) ?_
          exact kz
        obtain ⟨fs, hrr, hrun, hended, hW, hsame⟩ := X28.leave (v := some (.int (1 : Int32))) (fun h => by rw [Bd.returns] at h; cases h)
        refine ⟨_, _, ?_, hrun, hended, _, _, rfl, ?_, ⟨_, rfl⟩, hW, hsame.mono (by decide) (by decide)⟩
        · show Steps p.tables e below (T28.setTop (mkF m 201 #[.val (.int p1), .val (.int p2), .val (.int p3), .val (.int p4), .val (.int p5), .val (.int (2 : Int32)), .val (.ref b1), .val (.ref b16), .val (.int (1 : Int32))] [(.int (1 : Int32))])) _
          exact retN X28 hx (t := .boolean) Bd.returns (by simp) (hb hby at_201) hrr
        · show Qrm0 Z p1 p2 p3 p4 p5 at_ h0 n0 _ T28.heap _
          rw [e28]
          exact ⟨rfl, N28⟩
    · skip
      refine own_go (A := T20.setTop (mkF m 71 #[.val (.int p1), .val (.int p2), .val (.int p3), .val (.int p4), .val (.int p5), .val (.int (2 : Int32)), .val (.ref b1), .val (.ref b16), .val (.int (0 : Int32))] [])) (fun _ kz => ?_) ?_
      · show Steps p.tables e below (T20.setTop (mkF m 68 #[.val (.int p1), .val (.int p2), .val (.int p3), .val (.int p4), .val (.int p5), .val (.int (2 : Int32)), .val (.ref b1), .val (.ref b16), .val (.int (0 : Int32))] [(.int (own_tv ((p2.toInt8.toInt32) &&& (255 : Int32))))])) _
        refine XS.ifNo X20.here hx rfl (hb hby at_68) rfl ((if0 _ _).trans (feq hs21).1) ?_
        exact kz
      refine own_go (A := T20.setTop (mkF m 90 #[.val (.int p1), .val (.int p2), .val (.int p3), .val (.int p4), .val (.int p5), .val (.int (2 : Int32)), .val (.ref b1), .val (.ref b16), .val (.int (1 : Int32))] [(.int (1 : Int32)), (.ref b1), (.int (1 : Int32)), (.ref b16)])) (fun _ kz => ?_) ?_
      · show Steps p.tables e below (T20.setTop (mkF m 71 #[.val (.int p1), .val (.int p2), .val (.int p3), .val (.int p4), .val (.int p5), .val (.int (2 : Int32)), .val (.ref b1), .val (.ref b16), .val (.int (0 : Int32))] [])) _
        refine XS.iconst X20.here hx rfl (hb hby at_71) ?_
        show Steps p.tables e below (T20.setTop (mkF m 72 #[.val (.int p1), .val (.int p2), .val (.int p3), .val (.int p4), .val (.int p5), .val (.int (2 : Int32)), .val (.ref b1), .val (.ref b16), .val (.int (0 : Int32))] [(.int (1 : Int32))])) _
        refine XS.goto X20.here hx rfl (pc0 := 72) (pc' := 76) rfl (hb hby at_72) (by decide) (by decide) ?_
        show Steps p.tables e below (T20.setTop (mkF m 76 #[.val (.int p1), .val (.int p2), .val (.int p3), .val (.int p4), .val (.int p5), .val (.int (2 : Int32)), .val (.ref b1), .val (.ref b16), .val (.int (0 : Int32))] [(.int (1 : Int32))])) _
        refine XS.istore X20.here hx rfl (hb hby at_76) rfl (l' := #[.val (.int p1), .val (.int p2), .val (.int p3), .val (.int p4), .val (.int p5), .val (.int (2 : Int32)), .val (.ref b1), .val (.ref b16), .val (.int (1 : Int32))]) rfl ?_
        show Steps p.tables e below (T20.setTop (mkF m 78 #[.val (.int p1), .val (.int p2), .val (.int p3), .val (.int p4), .val (.int p5), .val (.int (2 : Int32)), .val (.ref b1), .val (.ref b16), .val (.int (1 : Int32))] [])) _
        refine XS.iload X20.here hx rfl (hb hby at_78) rfl ?_
        show Steps p.tables e below (T20.setTop (mkF m 80 #[.val (.int p1), .val (.int p2), .val (.int p3), .val (.int p4), .val (.int p5), .val (.int (2 : Int32)), .val (.ref b1), .val (.ref b16), .val (.int (1 : Int32))] [(.int (2 : Int32))])) _
        refine XS.iconst X20.here hx rfl (hb hby at_80) ?_
        show Steps p.tables e below (T20.setTop (mkF m 81 #[.val (.int p1), .val (.int p2), .val (.int p3), .val (.int p4), .val (.int p5), .val (.int (2 : Int32)), .val (.ref b1), .val (.ref b16), .val (.int (1 : Int32))] [(.int (1 : Int32)), (.int (2 : Int32))])) _
        refine XS.icmpNo X20.here hx rfl (hb hby at_81) rfl (tlt (by decide : ((1 : Int32) < (2 : Int32)))).2.2.2 ?_
        show Steps p.tables e below (T20.setTop (mkF m 84 #[.val (.int p1), .val (.int p2), .val (.int p3), .val (.int p4), .val (.int p5), .val (.int (2 : Int32)), .val (.ref b1), .val (.ref b16), .val (.int (1 : Int32))] [])) _
        refine XS.aload X20.here hx rfl (hb hby at_84) rfl rfl ?_
        show Steps p.tables e below (T20.setTop (mkF m 86 #[.val (.int p1), .val (.int p2), .val (.int p3), .val (.int p4), .val (.int p5), .val (.int (2 : Int32)), .val (.ref b1), .val (.ref b16), .val (.int (1 : Int32))] [(.ref b16)])) _
        refine XS.iconst X20.here hx rfl (hb hby at_86) ?_
        show Steps p.tables e below (T20.setTop (mkF m 87 #[.val (.int p1), .val (.int p2), .val (.int p3), .val (.int p4), .val (.int p5), .val (.int (2 : Int32)), .val (.ref b1), .val (.ref b16), .val (.int (1 : Int32))] [(.int (1 : Int32)), (.ref b16)])) _
        refine XS.aload X20.here hx rfl (hb hby at_87) rfl rfl ?_
        show Steps p.tables e below (T20.setTop (mkF m 89 #[.val (.int p1), .val (.int p2), .val (.int p3), .val (.int p4), .val (.int p5), .val (.int (2 : Int32)), .val (.ref b1), .val (.ref b16), .val (.int (1 : Int32))] [(.ref b1), (.int (1 : Int32)), (.ref b16)])) _
        refine XS.iconst X20.here hx rfl (hb hby at_89) ?_
        exact kz
      obtain ⟨cl29, Ar29, -, S29, M29, H29, -⟩ := id Av_b1
      have hin29 : ¬ ((1 : Int32) < 0 ∨ cl29.slots.size ≤ ((1 : Int32)).toNatClampNeg) := inb_of S29 ⟨by decide, by decide⟩
      have hat29 : cl29.slots[((1 : Int32)).toNatClampNeg]? = some (.int (p3.toInt8.toInt32)) := H29.at hin29 rfl
      refine own_go (A := T20.setTop (mkF m 91 #[.val (.int p1), .val (.int p2), .val (.int p3), .val (.int p4), .val (.int p5), .val (.int (2 : Int32)), .val (.ref b1), .val (.ref b16), .val (.int (1 : Int32))] [(.int (p3.toInt8.toInt32)), (.int (1 : Int32)), (.ref b16)])) (fun _ kz => ?_) ?_
      · refine X20.baloadBytes hx (j := (1 : Int32)) (v := (.int (p3.toInt8.toInt32))) (by rw [e20]; exact Ar29.1) (State.isArrayOf_alike hZ.alike Ar29.2.1) Ar29.2.2 hin29 hat29 (g := (mkF m 90 #[.val (.int p1), .val (.int p2), .val (.int p3), .val (.int p4), .val (.int p5), .val (.int (2 : Int32)), .val (.ref b1), .val (.ref b16), .val (.int (1 : Int32))] [(.int (1 : Int32)), (.ref b1), (.int (1 : Int32)), (.ref b16)])) rfl rfl (hb hby at_90) _ ?_
        exact kz
      obtain ⟨cl30, Ar30, q30, S30, M30, H30, G30⟩ := id Av_b16
      have hin30 : ¬ ((1 : Int32) < 0 ∨ cl30.slots.size ≤ ((1 : Int32)).toNatClampNeg) := inb_of S30 ⟨by decide, by decide⟩
      obtain ⟨T30, h30, X30, e30, W30, st30⟩ := stB X20 hx hZ e20 Ar30 (j := (1 : Int32)) hin30 (g := (mkF m 91 #[.val (.int p1), .val (.int p2), .val (.int p3), .val (.int p4), .val (.int p5), .val (.int (2 : Int32)), .val (.ref b1), .val (.ref b16), .val (.int (1 : Int32))] [(.int (p3.toInt8.toInt32)), (.int (1 : Int32)), (.ref b16)])) rfl rfl (hb hby at_91)
      rw [own_nbn] at W30
      have Aw30 := Arv.set Ar30 q30 S30 M30 H30 G30 (fits_nar_byte _) W30 1 rfl (Nat.le_of_ble_eq_true rfl)
      replace S_t := S_t.wr W30
      replace Tb := Tb.other W30 ne_at__b16
      replace Av_b1 := Av_b1.other W30 ne_b1_b16
      have Z30 : n0 ≤ h30.size := Nat.le_trans Z18 (Keep.of_wr W30).1
      have Av_b16 : Arv Z h30 b16 k16 .byte (2 : Int32) [(.int (p2.toInt8.toInt32)), (.int (p3.toInt8.toInt32))] (.int (0 : Int32)) := Aw30
      have N30 := Fr.snoc X30 N20 g_b16
      refine own_go (A := T30.setTop (mkF m 92 #[.val (.int p1), .val (.int p2), .val (.int p3), .val (.int p4), .val (.int p5), .val (.int (2 : Int32)), .val (.ref b1), .val (.ref b16), .val (.int (1 : Int32))] [])) (fun _ kz => st30 _ kz) ?_
      refine own_go (A := T30.setTop (mkF m 188 #[.val (.int p1), .val (.int p2), .val (.int p3), .val (.int p4), .val (.int p5), .val (.int (2 : Int32)), .val (.ref b1), .val (.ref b16), .val (.int (1 : Int32))] [(.ref b16)])) (fun _ kz => ?_) ?_
      · show Steps p.tables e below (T30.setTop (mkF m 92 #[.val (.int p1), .val (.int p2), .val (.int p3), .val (.int p4), .val (.int p5), .val (.int (2 : Int32)), .val (.ref b1), .val (.ref b16), .val (.int (1 : Int32))] [])) _
        refine XS.iload X30.here hx rfl (hb hby at_92) rfl ?_
        show Steps p.tables e below (T30.setTop (mkF m 94 #[.val (.int p1), .val (.int p2), .val (.int p3), .val (.int p4), .val (.int p5), .val (.int (2 : Int32)), .val (.ref b1), .val (.ref b16), .val (.int (1 : Int32))] [(.int (1 : Int32))])) _
        refine XS.ifYes X30.here hx rfl (pc0 := 94) (pc' := 107) rfl (hb hby at_94) rfl ((if0 _ _).trans (feq (by decide : ¬ ((1 : Int32) = (0 : Int32)))).2) (by decide) (by decide) ?_
        show Steps p.tables e below (T30.setTop (mkF m 107 #[.val (.int p1), .val (.int p2), .val (.int p3), .val (.int p4), .val (.int p5), .val (.int (2 : Int32)), .val (.ref b1), .val (.ref b16), .val (.int (1 : Int32))] [])) _
        refine XS.iconst X30.here hx rfl (hb hby at_107) ?_
        show Steps p.tables e below (T30.setTop (mkF m 108 #[.val (.int p1), .val (.int p2), .val (.int p3), .val (.int p4), .val (.int p5), .val (.int (2 : Int32)), .val (.ref b1), .val (.ref b16), .val (.int (1 : Int32))] [(.int (1 : Int32))])) _
        refine XS.goto X30.here hx rfl (pc0 := 108) (pc' := 112) rfl (hb hby at_108) (by decide) (by decide) ?_
        show Steps p.tables e below (T30.setTop (mkF m 112 #[.val (.int p1), .val (.int p2), .val (.int p3), .val (.int p4), .val (.int p5), .val (.int (2 : Int32)), .val (.ref b1), .val (.ref b16), .val (.int (1 : Int32))] [(.int (1 : Int32))])) _
        refine XS.istore X30.here hx rfl (hb hby at_112) rfl (l' := #[.val (.int p1), .val (.int p2), .val (.int p3), .val (.int p4), .val (.int p5), .val (.int (2 : Int32)), .val (.ref b1), .val (.ref b16), .val (.int (1 : Int32))]) rfl ?_
        show Steps p.tables e below (T30.setTop (mkF m 114 #[.val (.int p1), .val (.int p2), .val (.int p3), .val (.int p4), .val (.int p5), .val (.int (2 : Int32)), .val (.ref b1), .val (.ref b16), .val (.int (1 : Int32))] [])) _
        refine XS.iload X30.here hx rfl (hb hby at_114) rfl ?_
        show Steps p.tables e below (T30.setTop (mkF m 116 #[.val (.int p1), .val (.int p2), .val (.int p3), .val (.int p4), .val (.int p5), .val (.int (2 : Int32)), .val (.ref b1), .val (.ref b16), .val (.int (1 : Int32))] [(.int (2 : Int32))])) _
        refine XS.iconst X30.here hx rfl (hb hby at_116) ?_
        show Steps p.tables e below (T30.setTop (mkF m 117 #[.val (.int p1), .val (.int p2), .val (.int p3), .val (.int p4), .val (.int p5), .val (.int (2 : Int32)), .val (.ref b1), .val (.ref b16), .val (.int (1 : Int32))] [(.int (2 : Int32)), (.int (2 : Int32))])) _
        refine XS.icmpYes X30.here hx rfl (pc0 := 117) (pc' := 150) rfl (hb hby at_117) rfl (flt (by decide : ¬ ((2 : Int32) < (2 : Int32)))).2.2.2 (by decide) (by decide) ?_
        show Steps p.tables e below (T30.setTop (mkF m 150 #[.val (.int p1), .val (.int p2), .val (.int p3), .val (.int p4), .val (.int p5), .val (.int (2 : Int32)), .val (.ref b1), .val (.ref b16), .val (.int (1 : Int32))] [])) _
        refine XS.iload X30.here hx rfl (hb hby at_150) rfl ?_
        show Steps p.tables e below (T30.setTop (mkF m 152 #[.val (.int p1), .val (.int p2), .val (.int p3), .val (.int p4), .val (.int p5), .val (.int (2 : Int32)), .val (.ref b1), .val (.ref b16), .val (.int (1 : Int32))] [(.int (2 : Int32))])) _
        refine XS.iconst X30.here hx rfl (hb hby at_152) ?_
        show Steps p.tables e below (T30.setTop (mkF m 153 #[.val (.int p1), .val (.int p2), .val (.int p3), .val (.int p4), .val (.int p5), .val (.int (2 : Int32)), .val (.ref b1), .val (.ref b16), .val (.int (1 : Int32))] [(.int (3 : Int32)), (.int (2 : Int32))])) _
        refine XS.icmpYes X30.here hx rfl (pc0 := 153) (pc' := 186) rfl (hb hby at_153) rfl (flt (by decide : ¬ ((3 : Int32) < (2 : Int32)))).2.2.2 (by decide) (by decide) ?_
        show Steps p.tables e below (T30.setTop (mkF m 186 #[.val (.int p1), .val (.int p2), .val (.int p3), .val (.int p4), .val (.int p5), .val (.int (2 : Int32)), .val (.ref b1), .val (.ref b16), .val (.int (1 : Int32))] [])) _
        refine XS.aload X30.here hx rfl (hb hby at_186) rfl rfl ?_
        exact kz
      obtain ⟨_, _, ⟨T31, L31, k31, n31⟩, -, X31, ⟨Lc31, hQ31, l31, y31, z31⟩, st31⟩ := Jvm.LawKit.callS X30 hx (y := (⟨"com/example/sharp_nose/sharpnose/BinaryData", "foundIn", "([B)Z"⟩ : MethodName)) hown (mvT hZ (hw _ (List.mem_of_getElem? (i := 2) rfl))) (mvT hZ (hw _ (List.mem_of_getElem? (i := 3) rfl))) (mvT hZ (hw _ (List.mem_of_getElem? (i := 4) rfl))) (mvT hZ (hw _ (List.mem_of_getElem? (i := 5) rfl))) (by decide) (backOf (W := 0) (rmF2 l Z a0 hw [] b16 at_ k16 (p2.toInt8.toInt32) (p3.toInt8.toInt32) (1 : Int32) h30 n0 Z30 Av_b16 S_t Tb (by simp [hs21])) hZ (hw _ (List.mem_of_getElem? (i := 5) rfl)) (hw _ (List.mem_of_getElem? (i := 4) rfl)) (by decide) (by decide)) (g := (mkF m 188 #[.val (.int p1), .val (.int p2), .val (.int p3), .val (.int p4), .val (.int p5), .val (.int (2 : Int32)), .val (.ref b1), .val (.ref b16), .val (.int (1 : Int32))] [(.ref b16)])) rfl (by rw [hml]; rfl) (argsL := [(.ref b16)]) (rest := []) (lenOf own_pd0 rfl) rfl (by show 2 * 0 + _ ≤ _; exact Nat.le_of_eq rfl) (hb hby at_188) (fun _ _ => ⟨rfl, e30, (by decide : 2 + 0 ≤ _), (by decide : 6 + 0 ≤ _)⟩)
      dsimp only [Pt.U, Pt.locs, Pt.cells, Pt.slots] at X31 l31 y31 z31 st31 hQ31
      subst l31 y31 z31
      obtain ⟨rfl, N31q, e31⟩ := hQ31
      have N31 := Fr.app N30 N31q
      refine own_go (A := T31.setTop (mkF m 191 #[.val (.int p1), .val (.int p2), .val (.int p3), .val (.int p4), .val (.int p5), .val (.int (2 : Int32)), .val (.ref b1), .val (.ref b16), .val (.int (1 : Int32))] [(.int (1 : Int32))])) (fun _ kz => st31 _ kz) ?_
      refine own_go (A := T31.setTop (mkF m 201 #[.val (.int p1), .val (.int p2), .val (.int p3), .val (.int p4), .val (.int p5), .val (.int (2 : Int32)), .val (.ref b1), .val (.ref b16), .val (.int (1 : Int32))] [(.int (1 : Int32))])) (fun _ kz => ?_) ?_
      · show Steps p.tables e below (T31.setTop (mkF m 191 #[.val (.int p1), .val (.int p2), .val (.int p3), .val (.int p4), .val (.int p5), .val (.int (2 : Int32)), .val (.ref b1), .val (.ref b16), .val (.int (1 : Int32))] [(.int (1 : Int32))])) _
        refine XS.iload X31.here hx rfl (hb hby at_191) rfl ?_
        show Steps p.tables e below (T31.setTop (mkF m 193 #[.val (.int p1), .val (.int p2), .val (.int p3), .val (.int p4), .val (.int p5), .val (.int (2 : Int32)), .val (.ref b1), .val (.ref b16), .val (.int (1 : Int32))] [(.int (1 : Int32)), (.int (1 : Int32))])) _
        refine XS.icmpNo X31.here hx rfl (hb hby at_193) rfl (teq (by decide : ((1 : Int32) = (1 : Int32)))).2 ?_
        show Steps p.tables e below (T31.setTop (mkF m 196 #[.val (.int p1), .val (.int p2), .val (.int p3), .val (.int p4), .val (.int p5), .val (.int (2 : Int32)), .val (.ref b1), .val (.ref b16), .val (.int (1 : Int32))] [])) _
        refine XS.iconst X31.here hx rfl (hb hby at_196) ?_
        show Steps p.tables e below (T31.setTop (mkF m 197 #[.val (.int p1), .val (.int p2), .val (.int p3), .val (.int p4), .val (.int p5), .val (.int (2 : Int32)), .val (.ref b1), .val (.ref b16), .val (.int (1 : Int32))] [(.int (1 : Int32))])) _
        refine XS.goto X31.here hx rfl (pc0 := 197) (pc' := 201) rfl (hb hby at_197) (by decide) (by decide) ?_
        exact kz
      obtain ⟨fs, hrr, hrun, hended, hW, hsame⟩ := X31.leave (v := some (.int (1 : Int32))) (fun h => by rw [Bd.returns] at h; cases h)
      refine ⟨_, _, ?_, hrun, hended, _, _, rfl, ?_, ⟨_, rfl⟩, hW, hsame.mono (by decide) (by decide)⟩
      · show Steps p.tables e below (T31.setTop (mkF m 201 #[.val (.int p1), .val (.int p2), .val (.int p3), .val (.int p4), .val (.int p5), .val (.int (2 : Int32)), .val (.ref b1), .val (.ref b16), .val (.int (1 : Int32))] [(.int (1 : Int32))])) _
        exact retN X31 hx (t := .boolean) Bd.returns (by simp) (hb hby at_201) hrr
      · show Qrm0 Z p1 p2 p3 p4 p5 at_ h0 n0 _ T31.heap _
        rw [e31]
        exact ⟨rfl, N31⟩
  · skip
    refine own_go (A := T5.setTop (mkF m 36 #[.val (.int p1), .val (.int p2), .val (.int p3), .val (.int p4), .val (.int p5), .val (.int (3 : Int32)), .val (.ref b1), .unset, .unset] [(.int (3 : Int32))])) (fun _ kz => ?_) ?_
    · show Steps p.tables e below (T5.setTop (mkF m 34 #[.val (.int p1), .val (.int p2), .val (.int p3), .val (.int p4), .val (.int p5), .val (.int (3 : Int32)), .val (.ref b1), .unset, .unset] [])) _
      refine XS.iload X5.here hx rfl (hb hby at_34) rfl ?_
      exact kz
    obtain ⟨T32, h32, k32, X32, e32, E32, A32, st32⟩ := newP X5 hx hZ (hw _ (List.mem_of_getElem? (i := 1) rfl)) e5 (g := (mkF m 36 #[.val (.int p1), .val (.int p2), .val (.int p3), .val (.int p4), .val (.int p5), .val (.int (3 : Int32)), .val (.ref b1), .unset, .unset] [(.int (3 : Int32))])) rfl (hb hby at_36) rfl (by decide) (cap := 3) (by decide) (by decide) (by decide) (by decide)
    obtain ⟨b32, gq32⟩ : ∃ z, z = h5.size := ⟨_, rfl⟩
    rw [← gq32] at A32 st32
    have g_b32 : n0 ≤ b32 := Nat.le_trans Z5 (Nat.le_of_eq gq32.symm)
    have ne_at__b32 : at_ ≠ b32 := Nat.ne_of_lt (Nat.lt_of_lt_of_le Tb.lt (Nat.le_of_eq gq32.symm))
    have ne_b1_b32 : b1 ≠ b32 := Nat.ne_of_lt (Nat.lt_of_lt_of_le Av_b1.lt (Nat.le_of_eq gq32.symm))
    replace S_t := S_t.ext E32
    replace Tb := Tb.ext E32
    replace Av_b1 := Av_b1.ext E32
    have Z32 : n0 ≤ h32.size := Nat.le_trans Z5 E32.1
    have Av_b32 : Arv Z h32 b32 k32 .byte (3 : Int32) [(.int (0 : Int32)), (.int (0 : Int32)), (.int (0 : Int32))] (.int (0 : Int32)) := (Arv.new A32 (by decide)).pad (pad_rep [] (.int (0 : Int32)) 3)
    refine own_go (A := T32.setTop (mkF m 38 #[.val (.int p1), .val (.int p2), .val (.int p3), .val (.int p4), .val (.int p5), .val (.int (3 : Int32)), .val (.ref b1), .unset, .unset] [(.ref b32)])) (fun _ kz => st32 _ kz) ?_
    refine own_go (A := T32.setTop (mkF m 54 #[.val (.int p1), .val (.int p2), .val (.int p3), .val (.int p4), .val (.int p5), .val (.int (3 : Int32)), .val (.ref b1), .val (.ref b32), .val (.int (0 : Int32))] [(.int (0 : Int32)), (.ref b1), (.int (0 : Int32)), (.ref b32)])) (fun _ kz => ?_) ?_
    · show Steps p.tables e below (T32.setTop (mkF m 38 #[.val (.int p1), .val (.int p2), .val (.int p3), .val (.int p4), .val (.int p5), .val (.int (3 : Int32)), .val (.ref b1), .unset, .unset] [(.ref b32)])) _
      refine XS.astore X32.here hx rfl (hb hby at_38) rfl rfl (l' := #[.val (.int p1), .val (.int p2), .val (.int p3), .val (.int p4), .val (.int p5), .val (.int (3 : Int32)), .val (.ref b1), .val (.ref b32), .unset]) rfl ?_
      show Steps p.tables e below (T32.setTop (mkF m 40 #[.val (.int p1), .val (.int p2), .val (.int p3), .val (.int p4), .val (.int p5), .val (.int (3 : Int32)), .val (.ref b1), .val (.ref b32), .unset] [])) _
      refine XS.iconst X32.here hx rfl (hb hby at_40) ?_
      show Steps p.tables e below (T32.setTop (mkF m 41 #[.val (.int p1), .val (.int p2), .val (.int p3), .val (.int p4), .val (.int p5), .val (.int (3 : Int32)), .val (.ref b1), .val (.ref b32), .unset] [(.int (0 : Int32))])) _
      refine XS.istore X32.here hx rfl (hb hby at_41) rfl (l' := #[.val (.int p1), .val (.int p2), .val (.int p3), .val (.int p4), .val (.int p5), .val (.int (3 : Int32)), .val (.ref b1), .val (.ref b32), .val (.int (0 : Int32))]) rfl ?_
      show Steps p.tables e below (T32.setTop (mkF m 43 #[.val (.int p1), .val (.int p2), .val (.int p3), .val (.int p4), .val (.int p5), .val (.int (3 : Int32)), .val (.ref b1), .val (.ref b32), .val (.int (0 : Int32))] [])) _
      refine XS.iload X32.here hx rfl (hb hby at_43) rfl ?_
      show Steps p.tables e below (T32.setTop (mkF m 45 #[.val (.int p1), .val (.int p2), .val (.int p3), .val (.int p4), .val (.int p5), .val (.int (3 : Int32)), .val (.ref b1), .val (.ref b32), .val (.int (0 : Int32))] [(.int (3 : Int32))])) _
      refine XS.ifNo X32.here hx rfl (hb hby at_45) rfl ((if0 _ _).trans (tlt (by decide : ((0 : Int32) < (3 : Int32)))).2.2.2) ?_
      show Steps p.tables e below (T32.setTop (mkF m 48 #[.val (.int p1), .val (.int p2), .val (.int p3), .val (.int p4), .val (.int p5), .val (.int (3 : Int32)), .val (.ref b1), .val (.ref b32), .val (.int (0 : Int32))] [])) _
      refine XS.aload X32.here hx rfl (hb hby at_48) rfl rfl ?_
      show Steps p.tables e below (T32.setTop (mkF m 50 #[.val (.int p1), .val (.int p2), .val (.int p3), .val (.int p4), .val (.int p5), .val (.int (3 : Int32)), .val (.ref b1), .val (.ref b32), .val (.int (0 : Int32))] [(.ref b32)])) _
      refine XS.iconst X32.here hx rfl (hb hby at_50) ?_
      show Steps p.tables e below (T32.setTop (mkF m 51 #[.val (.int p1), .val (.int p2), .val (.int p3), .val (.int p4), .val (.int p5), .val (.int (3 : Int32)), .val (.ref b1), .val (.ref b32), .val (.int (0 : Int32))] [(.int (0 : Int32)), (.ref b32)])) _
      refine XS.aload X32.here hx rfl (hb hby at_51) rfl rfl ?_
      show Steps p.tables e below (T32.setTop (mkF m 53 #[.val (.int p1), .val (.int p2), .val (.int p3), .val (.int p4), .val (.int p5), .val (.int (3 : Int32)), .val (.ref b1), .val (.ref b32), .val (.int (0 : Int32))] [(.ref b1), (.int (0 : Int32)), (.ref b32)])) _
      refine XS.iconst X32.here hx rfl (hb hby at_53) ?_
      exact kz
    obtain ⟨cl33, Ar33, -, S33, M33, H33, -⟩ := id Av_b1
    have hin33 : ¬ ((0 : Int32) < 0 ∨ cl33.slots.size ≤ ((0 : Int32)).toNatClampNeg) := inb_of S33 ⟨by decide, by decide⟩
    have hat33 : cl33.slots[((0 : Int32)).toNatClampNeg]? = some (.int (p2.toInt8.toInt32)) := H33.at hin33 rfl
    refine own_go (A := T32.setTop (mkF m 55 #[.val (.int p1), .val (.int p2), .val (.int p3), .val (.int p4), .val (.int p5), .val (.int (3 : Int32)), .val (.ref b1), .val (.ref b32), .val (.int (0 : Int32))] [(.int (p2.toInt8.toInt32)), (.int (0 : Int32)), (.ref b32)])) (fun _ kz => ?_) ?_
    · refine X32.baloadBytes hx (j := (0 : Int32)) (v := (.int (p2.toInt8.toInt32))) (by rw [e32]; exact Ar33.1) (State.isArrayOf_alike hZ.alike Ar33.2.1) Ar33.2.2 hin33 hat33 (g := (mkF m 54 #[.val (.int p1), .val (.int p2), .val (.int p3), .val (.int p4), .val (.int p5), .val (.int (3 : Int32)), .val (.ref b1), .val (.ref b32), .val (.int (0 : Int32))] [(.int (0 : Int32)), (.ref b1), (.int (0 : Int32)), (.ref b32)])) rfl rfl (hb hby at_54) _ ?_
      exact kz
    obtain ⟨cl34, Ar34, q34, S34, M34, H34, G34⟩ := id Av_b32
    have hin34 : ¬ ((0 : Int32) < 0 ∨ cl34.slots.size ≤ ((0 : Int32)).toNatClampNeg) := inb_of S34 ⟨by decide, by decide⟩
    obtain ⟨T34, h34, X34, e34, W34, st34⟩ := stB X32 hx hZ e32 Ar34 (j := (0 : Int32)) hin34 (g := (mkF m 55 #[.val (.int p1), .val (.int p2), .val (.int p3), .val (.int p4), .val (.int p5), .val (.int (3 : Int32)), .val (.ref b1), .val (.ref b32), .val (.int (0 : Int32))] [(.int (p2.toInt8.toInt32)), (.int (0 : Int32)), (.ref b32)])) rfl rfl (hb hby at_55)
    rw [own_nbn] at W34
    have Aw34 := Arv.set Ar34 q34 S34 M34 H34 G34 (fits_nar_byte _) W34 0 rfl (Nat.le_of_ble_eq_true rfl)
    replace S_t := S_t.wr W34
    replace Tb := Tb.other W34 ne_at__b32
    replace Av_b1 := Av_b1.other W34 ne_b1_b32
    have Z34 : n0 ≤ h34.size := Nat.le_trans Z32 (Keep.of_wr W34).1
    have Av_b32 : Arv Z h34 b32 k32 .byte (3 : Int32) [(.int (p2.toInt8.toInt32)), (.int (0 : Int32)), (.int (0 : Int32))] (.int (0 : Int32)) := Aw34
    have N34 := Fr.snoc X34 N5 g_b32
    refine own_go (A := T34.setTop (mkF m 56 #[.val (.int p1), .val (.int p2), .val (.int p3), .val (.int p4), .val (.int p5), .val (.int (3 : Int32)), .val (.ref b1), .val (.ref b32), .val (.int (0 : Int32))] [])) (fun _ kz => st34 _ kz) ?_
    refine own_go (A := T34.setTop (mkF m 64 #[.val (.int p1), .val (.int p2), .val (.int p3), .val (.int p4), .val (.int p5), .val (.int (3 : Int32)), .val (.ref b1), .val (.ref b32), .val (.int (0 : Int32))] [(.int (0 : Int32)), (.ref b1)])) (fun _ kz => ?_) ?_
    · show Steps p.tables e below (T34.setTop (mkF m 56 #[.val (.int p1), .val (.int p2), .val (.int p3), .val (.int p4), .val (.int p5), .val (.int (3 : Int32)), .val (.ref b1), .val (.ref b32), .val (.int (0 : Int32))] [])) _
      refine XS.iload X34.here hx rfl (hb hby at_56) rfl ?_
      show Steps p.tables e below (T34.setTop (mkF m 58 #[.val (.int p1), .val (.int p2), .val (.int p3), .val (.int p4), .val (.int p5), .val (.int (3 : Int32)), .val (.ref b1), .val (.ref b32), .val (.int (0 : Int32))] [(.int (0 : Int32))])) _
      refine XS.ifNo X34.here hx rfl (hb hby at_58) rfl ((if0 _ _).trans (teq (by decide : ((0 : Int32) = (0 : Int32)))).2) ?_
      show Steps p.tables e below (T34.setTop (mkF m 61 #[.val (.int p1), .val (.int p2), .val (.int p3), .val (.int p4), .val (.int p5), .val (.int (3 : Int32)), .val (.ref b1), .val (.ref b32), .val (.int (0 : Int32))] [])) _
      refine XS.aload X34.here hx rfl (hb hby at_61) rfl rfl ?_
      show Steps p.tables e below (T34.setTop (mkF m 63 #[.val (.int p1), .val (.int p2), .val (.int p3), .val (.int p4), .val (.int p5), .val (.int (3 : Int32)), .val (.ref b1), .val (.ref b32), .val (.int (0 : Int32))] [(.ref b1)])) _
      refine XS.iconst X34.here hx rfl (hb hby at_63) ?_
      exact kz
    obtain ⟨cl35, Ar35, -, S35, M35, H35, -⟩ := id Av_b1
    have hin35 : ¬ ((0 : Int32) < 0 ∨ cl35.slots.size ≤ ((0 : Int32)).toNatClampNeg) := inb_of S35 ⟨by decide, by decide⟩
    have hat35 : cl35.slots[((0 : Int32)).toNatClampNeg]? = some (.int (p2.toInt8.toInt32)) := H35.at hin35 rfl
    refine own_go (A := T34.setTop (mkF m 65 #[.val (.int p1), .val (.int p2), .val (.int p3), .val (.int p4), .val (.int p5), .val (.int (3 : Int32)), .val (.ref b1), .val (.ref b32), .val (.int (0 : Int32))] [(.int (p2.toInt8.toInt32))])) (fun _ kz => ?_) ?_
    · refine X34.baloadBytes hx (j := (0 : Int32)) (v := (.int (p2.toInt8.toInt32))) (by rw [e34]; exact Ar35.1) (State.isArrayOf_alike hZ.alike Ar35.2.1) Ar35.2.2 hin35 hat35 (g := (mkF m 64 #[.val (.int p1), .val (.int p2), .val (.int p3), .val (.int p4), .val (.int p5), .val (.int (3 : Int32)), .val (.ref b1), .val (.ref b32), .val (.int (0 : Int32))] [(.int (0 : Int32)), (.ref b1)])) rfl rfl (hb hby at_64) _ ?_
      exact kz
    obtain ⟨_, _, ⟨T36, L36, k36, n36⟩, -, X36, ⟨Lc36, hQ36, l36, y36, z36⟩, st36⟩ := Jvm.LawKit.callS X34 hx (y := (⟨"com/example/sharp_nose/sharpnose/BinaryDataFoundInPinLaw", "bin", "(B)Z"⟩ : MethodName)) hown (mvT hZ (hw _ (List.mem_of_getElem? (i := 6) rfl))) (mvT hZ (hw _ (List.mem_of_getElem? (i := 7) rfl))) (mvT hZ (hw _ (List.mem_of_getElem? (i := 8) rfl))) (mvT hZ (hw _ (List.mem_of_getElem? (i := 9) rfl))) (by decide) (backOf (W := 0) (rmBin l Z a0 hw [] (p2.toInt8.toInt32) h34 n0 Z34) hZ (hw _ (List.mem_of_getElem? (i := 9) rfl)) (hw _ (List.mem_of_getElem? (i := 8) rfl)) (by decide) (by decide)) (g := (mkF m 65 #[.val (.int p1), .val (.int p2), .val (.int p3), .val (.int p4), .val (.int p5), .val (.int (3 : Int32)), .val (.ref b1), .val (.ref b32), .val (.int (0 : Int32))] [(.int (p2.toInt8.toInt32))])) rfl (by rw [hml]; rfl) (argsL := [(.int (p2.toInt8.toInt32))]) (rest := []) (lenOf own_pd1 rfl) rfl (by show 2 * 0 + _ ≤ _; exact Nat.le_of_eq rfl) (hb hby at_65) (fun _ _ => ⟨rfl, e34, (by decide : 2 + 0 ≤ _), (by decide : 7 + 0 ≤ _)⟩)
    dsimp only [Pt.U, Pt.locs, Pt.cells, Pt.slots] at X36 l36 y36 z36 st36 hQ36
    subst l36 y36 z36
    obtain ⟨rfl, N36q, e36⟩ := hQ36
    have N36 := Fr.app N34 N36q
    refine own_go (A := T36.setTop (mkF m 68 #[.val (.int p1), .val (.int p2), .val (.int p3), .val (.int p4), .val (.int p5), .val (.int (3 : Int32)), .val (.ref b1), .val (.ref b32), .val (.int (0 : Int32))] [(.int (own_tv ((p2.toInt8.toInt32) &&& (255 : Int32))))])) (fun _ kz => st36 _ kz) ?_
    by_cases hs37 : (own_tv ((p2.toInt8.toInt32) &&& (255 : Int32))) = (0 : Int32)
    · skip
      refine own_go (A := T36.setTop (mkF m 75 #[.val (.int p1), .val (.int p2), .val (.int p3), .val (.int p4), .val (.int p5), .val (.int (3 : Int32)), .val (.ref b1), .val (.ref b32), .val (.int (0 : Int32))] [])) (fun _ kz => ?_) ?_
      · show Steps p.tables e below (T36.setTop (mkF m 68 #[.val (.int p1), .val (.int p2), .val (.int p3), .val (.int p4), .val (.int p5), .val (.int (3 : Int32)), .val (.ref b1), .val (.ref b32), .val (.int (0 : Int32))] [(.int (own_tv ((p2.toInt8.toInt32) &&& (255 : Int32))))])) _
        refine XS.ifYes X36.here hx rfl (pc0 := 68) (pc' := 75) rfl (hb hby at_68) rfl ((if0 _ _).trans (teq hs37).1) (by decide) (by decide) ?_
        exact kz
      refine own_go (A := T36.setTop (mkF m 90 #[.val (.int p1), .val (.int p2), .val (.int p3), .val (.int p4), .val (.int p5), .val (.int (3 : Int32)), .val (.ref b1), .val (.ref b32), .val (.int (0 : Int32))] [(.int (1 : Int32)), (.ref b1), (.int (1 : Int32)), (.ref b32)])) (fun _ kz => ?_) ?_
      · show Steps p.tables e below (T36.setTop (mkF m 75 #[.val (.int p1), .val (.int p2), .val (.int p3), .val (.int p4), .val (.int p5), .val (.int (3 : Int32)), .val (.ref b1), .val (.ref b32), .val (.int (0 : Int32))] [])) _
        refine XS.iconst X36.here hx rfl (hb hby at_75) ?_
        show Steps p.tables e below (T36.setTop (mkF m 76 #[.val (.int p1), .val (.int p2), .val (.int p3), .val (.int p4), .val (.int p5), .val (.int (3 : Int32)), .val (.ref b1), .val (.ref b32), .val (.int (0 : Int32))] [(.int (0 : Int32))])) _
        refine XS.istore X36.here hx rfl (hb hby at_76) rfl (l' := #[.val (.int p1), .val (.int p2), .val (.int p3), .val (.int p4), .val (.int p5), .val (.int (3 : Int32)), .val (.ref b1), .val (.ref b32), .val (.int (0 : Int32))]) rfl ?_
        show Steps p.tables e below (T36.setTop (mkF m 78 #[.val (.int p1), .val (.int p2), .val (.int p3), .val (.int p4), .val (.int p5), .val (.int (3 : Int32)), .val (.ref b1), .val (.ref b32), .val (.int (0 : Int32))] [])) _
        refine XS.iload X36.here hx rfl (hb hby at_78) rfl ?_
        show Steps p.tables e below (T36.setTop (mkF m 80 #[.val (.int p1), .val (.int p2), .val (.int p3), .val (.int p4), .val (.int p5), .val (.int (3 : Int32)), .val (.ref b1), .val (.ref b32), .val (.int (0 : Int32))] [(.int (3 : Int32))])) _
        refine XS.iconst X36.here hx rfl (hb hby at_80) ?_
        show Steps p.tables e below (T36.setTop (mkF m 81 #[.val (.int p1), .val (.int p2), .val (.int p3), .val (.int p4), .val (.int p5), .val (.int (3 : Int32)), .val (.ref b1), .val (.ref b32), .val (.int (0 : Int32))] [(.int (1 : Int32)), (.int (3 : Int32))])) _
        refine XS.icmpNo X36.here hx rfl (hb hby at_81) rfl (tlt (by decide : ((1 : Int32) < (3 : Int32)))).2.2.2 ?_
        show Steps p.tables e below (T36.setTop (mkF m 84 #[.val (.int p1), .val (.int p2), .val (.int p3), .val (.int p4), .val (.int p5), .val (.int (3 : Int32)), .val (.ref b1), .val (.ref b32), .val (.int (0 : Int32))] [])) _
        refine XS.aload X36.here hx rfl (hb hby at_84) rfl rfl ?_
        show Steps p.tables e below (T36.setTop (mkF m 86 #[.val (.int p1), .val (.int p2), .val (.int p3), .val (.int p4), .val (.int p5), .val (.int (3 : Int32)), .val (.ref b1), .val (.ref b32), .val (.int (0 : Int32))] [(.ref b32)])) _
        refine XS.iconst X36.here hx rfl (hb hby at_86) ?_
        show Steps p.tables e below (T36.setTop (mkF m 87 #[.val (.int p1), .val (.int p2), .val (.int p3), .val (.int p4), .val (.int p5), .val (.int (3 : Int32)), .val (.ref b1), .val (.ref b32), .val (.int (0 : Int32))] [(.int (1 : Int32)), (.ref b32)])) _
        refine XS.aload X36.here hx rfl (hb hby at_87) rfl rfl ?_
        show Steps p.tables e below (T36.setTop (mkF m 89 #[.val (.int p1), .val (.int p2), .val (.int p3), .val (.int p4), .val (.int p5), .val (.int (3 : Int32)), .val (.ref b1), .val (.ref b32), .val (.int (0 : Int32))] [(.ref b1), (.int (1 : Int32)), (.ref b32)])) _
        refine XS.iconst X36.here hx rfl (hb hby at_89) ?_
        exact kz
      obtain ⟨cl38, Ar38, -, S38, M38, H38, -⟩ := id Av_b1
      have hin38 : ¬ ((1 : Int32) < 0 ∨ cl38.slots.size ≤ ((1 : Int32)).toNatClampNeg) := inb_of S38 ⟨by decide, by decide⟩
      have hat38 : cl38.slots[((1 : Int32)).toNatClampNeg]? = some (.int (p3.toInt8.toInt32)) := H38.at hin38 rfl
      refine own_go (A := T36.setTop (mkF m 91 #[.val (.int p1), .val (.int p2), .val (.int p3), .val (.int p4), .val (.int p5), .val (.int (3 : Int32)), .val (.ref b1), .val (.ref b32), .val (.int (0 : Int32))] [(.int (p3.toInt8.toInt32)), (.int (1 : Int32)), (.ref b32)])) (fun _ kz => ?_) ?_
      · refine X36.baloadBytes hx (j := (1 : Int32)) (v := (.int (p3.toInt8.toInt32))) (by rw [e36]; exact Ar38.1) (State.isArrayOf_alike hZ.alike Ar38.2.1) Ar38.2.2 hin38 hat38 (g := (mkF m 90 #[.val (.int p1), .val (.int p2), .val (.int p3), .val (.int p4), .val (.int p5), .val (.int (3 : Int32)), .val (.ref b1), .val (.ref b32), .val (.int (0 : Int32))] [(.int (1 : Int32)), (.ref b1), (.int (1 : Int32)), (.ref b32)])) rfl rfl (hb hby at_90) _ ?_
        exact kz
      obtain ⟨cl39, Ar39, q39, S39, M39, H39, G39⟩ := id Av_b32
      have hin39 : ¬ ((1 : Int32) < 0 ∨ cl39.slots.size ≤ ((1 : Int32)).toNatClampNeg) := inb_of S39 ⟨by decide, by decide⟩
      obtain ⟨T39, h39, X39, e39, W39, st39⟩ := stB X36 hx hZ e36 Ar39 (j := (1 : Int32)) hin39 (g := (mkF m 91 #[.val (.int p1), .val (.int p2), .val (.int p3), .val (.int p4), .val (.int p5), .val (.int (3 : Int32)), .val (.ref b1), .val (.ref b32), .val (.int (0 : Int32))] [(.int (p3.toInt8.toInt32)), (.int (1 : Int32)), (.ref b32)])) rfl rfl (hb hby at_91)
      rw [own_nbn] at W39
      have Aw39 := Arv.set Ar39 q39 S39 M39 H39 G39 (fits_nar_byte _) W39 1 rfl (Nat.le_of_ble_eq_true rfl)
      replace S_t := S_t.wr W39
      replace Tb := Tb.other W39 ne_at__b32
      replace Av_b1 := Av_b1.other W39 ne_b1_b32
      have Z39 : n0 ≤ h39.size := Nat.le_trans Z34 (Keep.of_wr W39).1
      have Av_b32 : Arv Z h39 b32 k32 .byte (3 : Int32) [(.int (p2.toInt8.toInt32)), (.int (p3.toInt8.toInt32)), (.int (0 : Int32))] (.int (0 : Int32)) := Aw39
      have N39 := Fr.snoc X39 N36 g_b32
      refine own_go (A := T39.setTop (mkF m 92 #[.val (.int p1), .val (.int p2), .val (.int p3), .val (.int p4), .val (.int p5), .val (.int (3 : Int32)), .val (.ref b1), .val (.ref b32), .val (.int (0 : Int32))] [])) (fun _ kz => st39 _ kz) ?_
      refine own_go (A := T39.setTop (mkF m 100 #[.val (.int p1), .val (.int p2), .val (.int p3), .val (.int p4), .val (.int p5), .val (.int (3 : Int32)), .val (.ref b1), .val (.ref b32), .val (.int (0 : Int32))] [(.int (1 : Int32)), (.ref b1)])) (fun _ kz => ?_) ?_
      · show Steps p.tables e below (T39.setTop (mkF m 92 #[.val (.int p1), .val (.int p2), .val (.int p3), .val (.int p4), .val (.int p5), .val (.int (3 : Int32)), .val (.ref b1), .val (.ref b32), .val (.int (0 : Int32))] [])) _
        refine XS.iload X39.here hx rfl (hb hby at_92) rfl ?_
        show Steps p.tables e below (T39.setTop (mkF m 94 #[.val (.int p1), .val (.int p2), .val (.int p3), .val (.int p4), .val (.int p5), .val (.int (3 : Int32)), .val (.ref b1), .val (.ref b32), .val (.int (0 : Int32))] [(.int (0 : Int32))])) _
        refine XS.ifNo X39.here hx rfl (hb hby at_94) rfl ((if0 _ _).trans (teq (by decide : ((0 : Int32) = (0 : Int32)))).2) ?_
        show Steps p.tables e below (T39.setTop (mkF m 97 #[.val (.int p1), .val (.int p2), .val (.int p3), .val (.int p4), .val (.int p5), .val (.int (3 : Int32)), .val (.ref b1), .val (.ref b32), .val (.int (0 : Int32))] [])) _
        refine XS.aload X39.here hx rfl (hb hby at_97) rfl rfl ?_
        show Steps p.tables e below (T39.setTop (mkF m 99 #[.val (.int p1), .val (.int p2), .val (.int p3), .val (.int p4), .val (.int p5), .val (.int (3 : Int32)), .val (.ref b1), .val (.ref b32), .val (.int (0 : Int32))] [(.ref b1)])) _
        refine XS.iconst X39.here hx rfl (hb hby at_99) ?_
        exact kz
      obtain ⟨cl40, Ar40, -, S40, M40, H40, -⟩ := id Av_b1
      have hin40 : ¬ ((1 : Int32) < 0 ∨ cl40.slots.size ≤ ((1 : Int32)).toNatClampNeg) := inb_of S40 ⟨by decide, by decide⟩
      have hat40 : cl40.slots[((1 : Int32)).toNatClampNeg]? = some (.int (p3.toInt8.toInt32)) := H40.at hin40 rfl
      refine own_go (A := T39.setTop (mkF m 101 #[.val (.int p1), .val (.int p2), .val (.int p3), .val (.int p4), .val (.int p5), .val (.int (3 : Int32)), .val (.ref b1), .val (.ref b32), .val (.int (0 : Int32))] [(.int (p3.toInt8.toInt32))])) (fun _ kz => ?_) ?_
      · refine X39.baloadBytes hx (j := (1 : Int32)) (v := (.int (p3.toInt8.toInt32))) (by rw [e39]; exact Ar40.1) (State.isArrayOf_alike hZ.alike Ar40.2.1) Ar40.2.2 hin40 hat40 (g := (mkF m 100 #[.val (.int p1), .val (.int p2), .val (.int p3), .val (.int p4), .val (.int p5), .val (.int (3 : Int32)), .val (.ref b1), .val (.ref b32), .val (.int (0 : Int32))] [(.int (1 : Int32)), (.ref b1)])) rfl rfl (hb hby at_100) _ ?_
        exact kz
      obtain ⟨_, _, ⟨T41, L41, k41, n41⟩, -, X41, ⟨Lc41, hQ41, l41, y41, z41⟩, st41⟩ := Jvm.LawKit.callS X39 hx (y := (⟨"com/example/sharp_nose/sharpnose/BinaryDataFoundInPinLaw", "bin", "(B)Z"⟩ : MethodName)) hown (mvT hZ (hw _ (List.mem_of_getElem? (i := 6) rfl))) (mvT hZ (hw _ (List.mem_of_getElem? (i := 7) rfl))) (mvT hZ (hw _ (List.mem_of_getElem? (i := 8) rfl))) (mvT hZ (hw _ (List.mem_of_getElem? (i := 9) rfl))) (by decide) (backOf (W := 0) (rmBin l Z a0 hw [] (p3.toInt8.toInt32) h39 n0 Z39) hZ (hw _ (List.mem_of_getElem? (i := 9) rfl)) (hw _ (List.mem_of_getElem? (i := 8) rfl)) (by decide) (by decide)) (g := (mkF m 101 #[.val (.int p1), .val (.int p2), .val (.int p3), .val (.int p4), .val (.int p5), .val (.int (3 : Int32)), .val (.ref b1), .val (.ref b32), .val (.int (0 : Int32))] [(.int (p3.toInt8.toInt32))])) rfl (by rw [hml]; rfl) (argsL := [(.int (p3.toInt8.toInt32))]) (rest := []) (lenOf own_pd1 rfl) rfl (by show 2 * 0 + _ ≤ _; exact Nat.le_of_eq rfl) (hb hby at_101) (fun _ _ => ⟨rfl, e39, (by decide : 2 + 0 ≤ _), (by decide : 7 + 0 ≤ _)⟩)
      dsimp only [Pt.U, Pt.locs, Pt.cells, Pt.slots] at X41 l41 y41 z41 st41 hQ41
      subst l41 y41 z41
      obtain ⟨rfl, N41q, e41⟩ := hQ41
      have N41 := Fr.app N39 N41q
      refine own_go (A := T41.setTop (mkF m 104 #[.val (.int p1), .val (.int p2), .val (.int p3), .val (.int p4), .val (.int p5), .val (.int (3 : Int32)), .val (.ref b1), .val (.ref b32), .val (.int (0 : Int32))] [(.int (own_tv ((p3.toInt8.toInt32) &&& (255 : Int32))))])) (fun _ kz => st41 _ kz) ?_
      by_cases hs42 : (own_tv ((p3.toInt8.toInt32) &&& (255 : Int32))) = (0 : Int32)
      · skip
        refine own_go (A := T41.setTop (mkF m 111 #[.val (.int p1), .val (.int p2), .val (.int p3), .val (.int p4), .val (.int p5), .val (.int (3 : Int32)), .val (.ref b1), .val (.ref b32), .val (.int (0 : Int32))] [])) (fun _ kz => ?_) ?_
        · show Steps p.tables e below (T41.setTop (mkF m 104 #[.val (.int p1), .val (.int p2), .val (.int p3), .val (.int p4), .val (.int p5), .val (.int (3 : Int32)), .val (.ref b1), .val (.ref b32), .val (.int (0 : Int32))] [(.int (own_tv ((p3.toInt8.toInt32) &&& (255 : Int32))))])) _
          refine XS.ifYes X41.here hx rfl (pc0 := 104) (pc' := 111) rfl (hb hby at_104) rfl ((if0 _ _).trans (teq hs42).1) (by decide) (by decide) ?_
          exact kz
        refine own_go (A := T41.setTop (mkF m 126 #[.val (.int p1), .val (.int p2), .val (.int p3), .val (.int p4), .val (.int p5), .val (.int (3 : Int32)), .val (.ref b1), .val (.ref b32), .val (.int (0 : Int32))] [(.int (2 : Int32)), (.ref b1), (.int (2 : Int32)), (.ref b32)])) (fun _ kz => ?_) ?_
        · show Steps p.tables e below (T41.setTop (mkF m 111 #[.val (.int p1), .val (.int p2), .val (.int p3), .val (.int p4), .val (.int p5), .val (.int (3 : Int32)), .val (.ref b1), .val (.ref b32), .val (.int (0 : Int32))] [])) _
          refine XS.iconst X41.here hx rfl (hb hby at_111) ?_
          show Steps p.tables e below (T41.setTop (mkF m 112 #[.val (.int p1), .val (.int p2), .val (.int p3), .val (.int p4), .val (.int p5), .val (.int (3 : Int32)), .val (.ref b1), .val (.ref b32), .val (.int (0 : Int32))] [(.int (0 : Int32))])) _
          refine XS.istore X41.here hx rfl (hb hby at_112) rfl (l' := #[.val (.int p1), .val (.int p2), .val (.int p3), .val (.int p4), .val (.int p5), .val (.int (3 : Int32)), .val (.ref b1), .val (.ref b32), .val (.int (0 : Int32))]) rfl ?_
          show Steps p.tables e below (T41.setTop (mkF m 114 #[.val (.int p1), .val (.int p2), .val (.int p3), .val (.int p4), .val (.int p5), .val (.int (3 : Int32)), .val (.ref b1), .val (.ref b32), .val (.int (0 : Int32))] [])) _
          refine XS.iload X41.here hx rfl (hb hby at_114) rfl ?_
          show Steps p.tables e below (T41.setTop (mkF m 116 #[.val (.int p1), .val (.int p2), .val (.int p3), .val (.int p4), .val (.int p5), .val (.int (3 : Int32)), .val (.ref b1), .val (.ref b32), .val (.int (0 : Int32))] [(.int (3 : Int32))])) _
          refine XS.iconst X41.here hx rfl (hb hby at_116) ?_
          show Steps p.tables e below (T41.setTop (mkF m 117 #[.val (.int p1), .val (.int p2), .val (.int p3), .val (.int p4), .val (.int p5), .val (.int (3 : Int32)), .val (.ref b1), .val (.ref b32), .val (.int (0 : Int32))] [(.int (2 : Int32)), (.int (3 : Int32))])) _
          refine XS.icmpNo X41.here hx rfl (hb hby at_117) rfl (tlt (by decide : ((2 : Int32) < (3 : Int32)))).2.2.2 ?_
          show Steps p.tables e below (T41.setTop (mkF m 120 #[.val (.int p1), .val (.int p2), .val (.int p3), .val (.int p4), .val (.int p5), .val (.int (3 : Int32)), .val (.ref b1), .val (.ref b32), .val (.int (0 : Int32))] [])) _
          refine XS.aload X41.here hx rfl (hb hby at_120) rfl rfl ?_
          show Steps p.tables e below (T41.setTop (mkF m 122 #[.val (.int p1), .val (.int p2), .val (.int p3), .val (.int p4), .val (.int p5), .val (.int (3 : Int32)), .val (.ref b1), .val (.ref b32), .val (.int (0 : Int32))] [(.ref b32)])) _
          refine XS.iconst X41.here hx rfl (hb hby at_122) ?_
          show Steps p.tables e below (T41.setTop (mkF m 123 #[.val (.int p1), .val (.int p2), .val (.int p3), .val (.int p4), .val (.int p5), .val (.int (3 : Int32)), .val (.ref b1), .val (.ref b32), .val (.int (0 : Int32))] [(.int (2 : Int32)), (.ref b32)])) _
          refine XS.aload X41.here hx rfl (hb hby at_123) rfl rfl ?_
          show Steps p.tables e below (T41.setTop (mkF m 125 #[.val (.int p1), .val (.int p2), .val (.int p3), .val (.int p4), .val (.int p5), .val (.int (3 : Int32)), .val (.ref b1), .val (.ref b32), .val (.int (0 : Int32))] [(.ref b1), (.int (2 : Int32)), (.ref b32)])) _
          refine XS.iconst X41.here hx rfl (hb hby at_125) ?_
          exact kz
        obtain ⟨cl43, Ar43, -, S43, M43, H43, -⟩ := id Av_b1
        have hin43 : ¬ ((2 : Int32) < 0 ∨ cl43.slots.size ≤ ((2 : Int32)).toNatClampNeg) := inb_of S43 ⟨by decide, by decide⟩
        have hat43 : cl43.slots[((2 : Int32)).toNatClampNeg]? = some (.int (p4.toInt8.toInt32)) := H43.at hin43 rfl
        refine own_go (A := T41.setTop (mkF m 127 #[.val (.int p1), .val (.int p2), .val (.int p3), .val (.int p4), .val (.int p5), .val (.int (3 : Int32)), .val (.ref b1), .val (.ref b32), .val (.int (0 : Int32))] [(.int (p4.toInt8.toInt32)), (.int (2 : Int32)), (.ref b32)])) (fun _ kz => ?_) ?_
        · refine X41.baloadBytes hx (j := (2 : Int32)) (v := (.int (p4.toInt8.toInt32))) (by rw [e41]; exact Ar43.1) (State.isArrayOf_alike hZ.alike Ar43.2.1) Ar43.2.2 hin43 hat43 (g := (mkF m 126 #[.val (.int p1), .val (.int p2), .val (.int p3), .val (.int p4), .val (.int p5), .val (.int (3 : Int32)), .val (.ref b1), .val (.ref b32), .val (.int (0 : Int32))] [(.int (2 : Int32)), (.ref b1), (.int (2 : Int32)), (.ref b32)])) rfl rfl (hb hby at_126) _ ?_
          exact kz
        obtain ⟨cl44, Ar44, q44, S44, M44, H44, G44⟩ := id Av_b32
        have hin44 : ¬ ((2 : Int32) < 0 ∨ cl44.slots.size ≤ ((2 : Int32)).toNatClampNeg) := inb_of S44 ⟨by decide, by decide⟩
        obtain ⟨T44, h44, X44, e44, W44, st44⟩ := stB X41 hx hZ e41 Ar44 (j := (2 : Int32)) hin44 (g := (mkF m 127 #[.val (.int p1), .val (.int p2), .val (.int p3), .val (.int p4), .val (.int p5), .val (.int (3 : Int32)), .val (.ref b1), .val (.ref b32), .val (.int (0 : Int32))] [(.int (p4.toInt8.toInt32)), (.int (2 : Int32)), (.ref b32)])) rfl rfl (hb hby at_127)
        rw [own_nbn] at W44
        have Aw44 := Arv.set Ar44 q44 S44 M44 H44 G44 (fits_nar_byte _) W44 2 rfl (Nat.le_of_ble_eq_true rfl)
        replace S_t := S_t.wr W44
        replace Tb := Tb.other W44 ne_at__b32
        replace Av_b1 := Av_b1.other W44 ne_b1_b32
        have Z44 : n0 ≤ h44.size := Nat.le_trans Z39 (Keep.of_wr W44).1
        have Av_b32 : Arv Z h44 b32 k32 .byte (3 : Int32) [(.int (p2.toInt8.toInt32)), (.int (p3.toInt8.toInt32)), (.int (p4.toInt8.toInt32))] (.int (0 : Int32)) := Aw44
        have N44 := Fr.snoc X44 N41 g_b32
        refine own_go (A := T44.setTop (mkF m 128 #[.val (.int p1), .val (.int p2), .val (.int p3), .val (.int p4), .val (.int p5), .val (.int (3 : Int32)), .val (.ref b1), .val (.ref b32), .val (.int (0 : Int32))] [])) (fun _ kz => st44 _ kz) ?_
        refine own_go (A := T44.setTop (mkF m 136 #[.val (.int p1), .val (.int p2), .val (.int p3), .val (.int p4), .val (.int p5), .val (.int (3 : Int32)), .val (.ref b1), .val (.ref b32), .val (.int (0 : Int32))] [(.int (2 : Int32)), (.ref b1)])) (fun _ kz => ?_) ?_
        · show Steps p.tables e below (T44.setTop (mkF m 128 #[.val (.int p1), .val (.int p2), .val (.int p3), .val (.int p4), .val (.int p5), .val (.int (3 : Int32)), .val (.ref b1), .val (.ref b32), .val (.int (0 : Int32))] [])) _
          refine XS.iload X44.here hx rfl (hb hby at_128) rfl ?_
          show Steps p.tables e below (T44.setTop (mkF m 130 #[.val (.int p1), .val (.int p2), .val (.int p3), .val (.int p4), .val (.int p5), .val (.int (3 : Int32)), .val (.ref b1), .val (.ref b32), .val (.int (0 : Int32))] [(.int (0 : Int32))])) _
          refine XS.ifNo X44.here hx rfl (hb hby at_130) rfl ((if0 _ _).trans (teq (by decide : ((0 : Int32) = (0 : Int32)))).2) ?_
          show Steps p.tables e below (T44.setTop (mkF m 133 #[.val (.int p1), .val (.int p2), .val (.int p3), .val (.int p4), .val (.int p5), .val (.int (3 : Int32)), .val (.ref b1), .val (.ref b32), .val (.int (0 : Int32))] [])) _
          refine XS.aload X44.here hx rfl (hb hby at_133) rfl rfl ?_
          show Steps p.tables e below (T44.setTop (mkF m 135 #[.val (.int p1), .val (.int p2), .val (.int p3), .val (.int p4), .val (.int p5), .val (.int (3 : Int32)), .val (.ref b1), .val (.ref b32), .val (.int (0 : Int32))] [(.ref b1)])) _
          refine XS.iconst X44.here hx rfl (hb hby at_135) ?_
          exact kz
        obtain ⟨cl45, Ar45, -, S45, M45, H45, -⟩ := id Av_b1
        have hin45 : ¬ ((2 : Int32) < 0 ∨ cl45.slots.size ≤ ((2 : Int32)).toNatClampNeg) := inb_of S45 ⟨by decide, by decide⟩
        have hat45 : cl45.slots[((2 : Int32)).toNatClampNeg]? = some (.int (p4.toInt8.toInt32)) := H45.at hin45 rfl
        refine own_go (A := T44.setTop (mkF m 137 #[.val (.int p1), .val (.int p2), .val (.int p3), .val (.int p4), .val (.int p5), .val (.int (3 : Int32)), .val (.ref b1), .val (.ref b32), .val (.int (0 : Int32))] [(.int (p4.toInt8.toInt32))])) (fun _ kz => ?_) ?_
        · refine X44.baloadBytes hx (j := (2 : Int32)) (v := (.int (p4.toInt8.toInt32))) (by rw [e44]; exact Ar45.1) (State.isArrayOf_alike hZ.alike Ar45.2.1) Ar45.2.2 hin45 hat45 (g := (mkF m 136 #[.val (.int p1), .val (.int p2), .val (.int p3), .val (.int p4), .val (.int p5), .val (.int (3 : Int32)), .val (.ref b1), .val (.ref b32), .val (.int (0 : Int32))] [(.int (2 : Int32)), (.ref b1)])) rfl rfl (hb hby at_136) _ ?_
          exact kz
        obtain ⟨_, _, ⟨T46, L46, k46, n46⟩, -, X46, ⟨Lc46, hQ46, l46, y46, z46⟩, st46⟩ := Jvm.LawKit.callS X44 hx (y := (⟨"com/example/sharp_nose/sharpnose/BinaryDataFoundInPinLaw", "bin", "(B)Z"⟩ : MethodName)) hown (mvT hZ (hw _ (List.mem_of_getElem? (i := 6) rfl))) (mvT hZ (hw _ (List.mem_of_getElem? (i := 7) rfl))) (mvT hZ (hw _ (List.mem_of_getElem? (i := 8) rfl))) (mvT hZ (hw _ (List.mem_of_getElem? (i := 9) rfl))) (by decide) (backOf (W := 0) (rmBin l Z a0 hw [] (p4.toInt8.toInt32) h44 n0 Z44) hZ (hw _ (List.mem_of_getElem? (i := 9) rfl)) (hw _ (List.mem_of_getElem? (i := 8) rfl)) (by decide) (by decide)) (g := (mkF m 137 #[.val (.int p1), .val (.int p2), .val (.int p3), .val (.int p4), .val (.int p5), .val (.int (3 : Int32)), .val (.ref b1), .val (.ref b32), .val (.int (0 : Int32))] [(.int (p4.toInt8.toInt32))])) rfl (by rw [hml]; rfl) (argsL := [(.int (p4.toInt8.toInt32))]) (rest := []) (lenOf own_pd1 rfl) rfl (by show 2 * 0 + _ ≤ _; exact Nat.le_of_eq rfl) (hb hby at_137) (fun _ _ => ⟨rfl, e44, (by decide : 2 + 0 ≤ _), (by decide : 7 + 0 ≤ _)⟩)
        dsimp only [Pt.U, Pt.locs, Pt.cells, Pt.slots] at X46 l46 y46 z46 st46 hQ46
        subst l46 y46 z46
        obtain ⟨rfl, N46q, e46⟩ := hQ46
        have N46 := Fr.app N44 N46q
        refine own_go (A := T46.setTop (mkF m 140 #[.val (.int p1), .val (.int p2), .val (.int p3), .val (.int p4), .val (.int p5), .val (.int (3 : Int32)), .val (.ref b1), .val (.ref b32), .val (.int (0 : Int32))] [(.int (own_tv ((p4.toInt8.toInt32) &&& (255 : Int32))))])) (fun _ kz => st46 _ kz) ?_
        by_cases hs47 : (own_tv ((p4.toInt8.toInt32) &&& (255 : Int32))) = (0 : Int32)
        · skip
          refine own_go (A := T46.setTop (mkF m 147 #[.val (.int p1), .val (.int p2), .val (.int p3), .val (.int p4), .val (.int p5), .val (.int (3 : Int32)), .val (.ref b1), .val (.ref b32), .val (.int (0 : Int32))] [])) (fun _ kz => ?_) ?_
          · show Steps p.tables e below (T46.setTop (mkF m 140 #[.val (.int p1), .val (.int p2), .val (.int p3), .val (.int p4), .val (.int p5), .val (.int (3 : Int32)), .val (.ref b1), .val (.ref b32), .val (.int (0 : Int32))] [(.int (own_tv ((p4.toInt8.toInt32) &&& (255 : Int32))))])) _
            refine XS.ifYes X46.here hx rfl (pc0 := 140) (pc' := 147) rfl (hb hby at_140) rfl ((if0 _ _).trans (teq hs47).1) (by decide) (by decide) ?_
            exact kz
          refine own_go (A := T46.setTop (mkF m 188 #[.val (.int p1), .val (.int p2), .val (.int p3), .val (.int p4), .val (.int p5), .val (.int (3 : Int32)), .val (.ref b1), .val (.ref b32), .val (.int (0 : Int32))] [(.ref b32)])) (fun _ kz => ?_) ?_
          · show Steps p.tables e below (T46.setTop (mkF m 147 #[.val (.int p1), .val (.int p2), .val (.int p3), .val (.int p4), .val (.int p5), .val (.int (3 : Int32)), .val (.ref b1), .val (.ref b32), .val (.int (0 : Int32))] [])) _
            refine XS.iconst X46.here hx rfl (hb hby at_147) ?_
            show Steps p.tables e below (T46.setTop (mkF m 148 #[.val (.int p1), .val (.int p2), .val (.int p3), .val (.int p4), .val (.int p5), .val (.int (3 : Int32)), .val (.ref b1), .val (.ref b32), .val (.int (0 : Int32))] [(.int (0 : Int32))])) _
            refine XS.istore X46.here hx rfl (hb hby at_148) rfl (l' := #[.val (.int p1), .val (.int p2), .val (.int p3), .val (.int p4), .val (.int p5), .val (.int (3 : Int32)), .val (.ref b1), .val (.ref b32), .val (.int (0 : Int32))]) rfl ?_
            show Steps p.tables e below (T46.setTop (mkF m 150 #[.val (.int p1), .val (.int p2), .val (.int p3), .val (.int p4), .val (.int p5), .val (.int (3 : Int32)), .val (.ref b1), .val (.ref b32), .val (.int (0 : Int32))] [])) _
            refine XS.iload X46.here hx rfl (hb hby at_150) rfl ?_
            show Steps p.tables e below (T46.setTop (mkF m 152 #[.val (.int p1), .val (.int p2), .val (.int p3), .val (.int p4), .val (.int p5), .val (.int (3 : Int32)), .val (.ref b1), .val (.ref b32), .val (.int (0 : Int32))] [(.int (3 : Int32))])) _
            refine XS.iconst X46.here hx rfl (hb hby at_152) ?_
            show Steps p.tables e below (T46.setTop (mkF m 153 #[.val (.int p1), .val (.int p2), .val (.int p3), .val (.int p4), .val (.int p5), .val (.int (3 : Int32)), .val (.ref b1), .val (.ref b32), .val (.int (0 : Int32))] [(.int (3 : Int32)), (.int (3 : Int32))])) _
            refine XS.icmpYes X46.here hx rfl (pc0 := 153) (pc' := 186) rfl (hb hby at_153) rfl (flt (by decide : ¬ ((3 : Int32) < (3 : Int32)))).2.2.2 (by decide) (by decide) ?_
            show Steps p.tables e below (T46.setTop (mkF m 186 #[.val (.int p1), .val (.int p2), .val (.int p3), .val (.int p4), .val (.int p5), .val (.int (3 : Int32)), .val (.ref b1), .val (.ref b32), .val (.int (0 : Int32))] [])) _
            refine XS.aload X46.here hx rfl (hb hby at_186) rfl rfl ?_
            exact kz
          obtain ⟨_, _, ⟨T48, L48, k48, n48⟩, -, X48, ⟨Lc48, hQ48, l48, y48, z48⟩, st48⟩ := Jvm.LawKit.callS X46 hx (y := (⟨"com/example/sharp_nose/sharpnose/BinaryData", "foundIn", "([B)Z"⟩ : MethodName)) hown (mvT hZ (hw _ (List.mem_of_getElem? (i := 2) rfl))) (mvT hZ (hw _ (List.mem_of_getElem? (i := 3) rfl))) (mvT hZ (hw _ (List.mem_of_getElem? (i := 4) rfl))) (mvT hZ (hw _ (List.mem_of_getElem? (i := 5) rfl))) (by decide) (backOf (W := 0) (rmF3 l Z a0 hw [] b32 at_ k32 (p2.toInt8.toInt32) (p3.toInt8.toInt32) (p4.toInt8.toInt32) (0 : Int32) h44 n0 Z44 Av_b32 S_t Tb (by simp [hs37, hs42, hs47])) hZ (hw _ (List.mem_of_getElem? (i := 5) rfl)) (hw _ (List.mem_of_getElem? (i := 4) rfl)) (by decide) (by decide)) (g := (mkF m 188 #[.val (.int p1), .val (.int p2), .val (.int p3), .val (.int p4), .val (.int p5), .val (.int (3 : Int32)), .val (.ref b1), .val (.ref b32), .val (.int (0 : Int32))] [(.ref b32)])) rfl (by rw [hml]; rfl) (argsL := [(.ref b32)]) (rest := []) (lenOf own_pd0 rfl) rfl (by show 2 * 0 + _ ≤ _; exact Nat.le_of_eq rfl) (hb hby at_188) (fun _ _ => ⟨rfl, e46, (by decide : 2 + 0 ≤ _), (by decide : 7 + 0 ≤ _)⟩)
          dsimp only [Pt.U, Pt.locs, Pt.cells, Pt.slots] at X48 l48 y48 z48 st48 hQ48
          subst l48 y48 z48
          obtain ⟨rfl, N48q, e48⟩ := hQ48
          have N48 := Fr.app N46 N48q
          refine own_go (A := T48.setTop (mkF m 191 #[.val (.int p1), .val (.int p2), .val (.int p3), .val (.int p4), .val (.int p5), .val (.int (3 : Int32)), .val (.ref b1), .val (.ref b32), .val (.int (0 : Int32))] [(.int (0 : Int32))])) (fun _ kz => st48 _ kz) ?_
          refine own_go (A := T48.setTop (mkF m 201 #[.val (.int p1), .val (.int p2), .val (.int p3), .val (.int p4), .val (.int p5), .val (.int (3 : Int32)), .val (.ref b1), .val (.ref b32), .val (.int (0 : Int32))] [(.int (1 : Int32))])) (fun _ kz => ?_) ?_
          · show Steps p.tables e below (T48.setTop (mkF m 191 #[.val (.int p1), .val (.int p2), .val (.int p3), .val (.int p4), .val (.int p5), .val (.int (3 : Int32)), .val (.ref b1), .val (.ref b32), .val (.int (0 : Int32))] [(.int (0 : Int32))])) _
            refine XS.iload X48.here hx rfl (hb hby at_191) rfl ?_
            show Steps p.tables e below (T48.setTop (mkF m 193 #[.val (.int p1), .val (.int p2), .val (.int p3), .val (.int p4), .val (.int p5), .val (.int (3 : Int32)), .val (.ref b1), .val (.ref b32), .val (.int (0 : Int32))] [(.int (0 : Int32)), (.int (0 : Int32))])) _
            refine XS.icmpNo X48.here hx rfl (hb hby at_193) rfl (teq (by decide : ((0 : Int32) = (0 : Int32)))).2 ?_
            show Steps p.tables e below (T48.setTop (mkF m 196 #[.val (.int p1), .val (.int p2), .val (.int p3), .val (.int p4), .val (.int p5), .val (.int (3 : Int32)), .val (.ref b1), .val (.ref b32), .val (.int (0 : Int32))] [])) _
            refine XS.iconst X48.here hx rfl (hb hby at_196) ?_
            show Steps p.tables e below (T48.setTop (mkF m 197 #[.val (.int p1), .val (.int p2), .val (.int p3), .val (.int p4), .val (.int p5), .val (.int (3 : Int32)), .val (.ref b1), .val (.ref b32), .val (.int (0 : Int32))] [(.int (1 : Int32))])) _
            refine XS.goto X48.here hx rfl (pc0 := 197) (pc' := 201) rfl (hb hby at_197) (by decide) (by decide) ?_
            exact kz
          obtain ⟨fs, hrr, hrun, hended, hW, hsame⟩ := X48.leave (v := some (.int (1 : Int32))) (fun h => by rw [Bd.returns] at h; cases h)
          refine ⟨_, _, ?_, hrun, hended, _, _, rfl, ?_, ⟨_, rfl⟩, hW, hsame.mono (by decide) (by decide)⟩
          · show Steps p.tables e below (T48.setTop (mkF m 201 #[.val (.int p1), .val (.int p2), .val (.int p3), .val (.int p4), .val (.int p5), .val (.int (3 : Int32)), .val (.ref b1), .val (.ref b32), .val (.int (0 : Int32))] [(.int (1 : Int32))])) _
            exact retN X48 hx (t := .boolean) Bd.returns (by simp) (hb hby at_201) hrr
          · show Qrm0 Z p1 p2 p3 p4 p5 at_ h0 n0 _ T48.heap _
            rw [e48]
            exact ⟨rfl, N48⟩
        · skip
          refine own_go (A := T46.setTop (mkF m 143 #[.val (.int p1), .val (.int p2), .val (.int p3), .val (.int p4), .val (.int p5), .val (.int (3 : Int32)), .val (.ref b1), .val (.ref b32), .val (.int (0 : Int32))] [])) (fun _ kz => ?_) ?_
          · show Steps p.tables e below (T46.setTop (mkF m 140 #[.val (.int p1), .val (.int p2), .val (.int p3), .val (.int p4), .val (.int p5), .val (.int (3 : Int32)), .val (.ref b1), .val (.ref b32), .val (.int (0 : Int32))] [(.int (own_tv ((p4.toInt8.toInt32) &&& (255 : Int32))))])) _
            refine XS.ifNo X46.here hx rfl (hb hby at_140) rfl ((if0 _ _).trans (feq hs47).1) ?_
            exact kz
          refine own_go (A := T46.setTop (mkF m 188 #[.val (.int p1), .val (.int p2), .val (.int p3), .val (.int p4), .val (.int p5), .val (.int (3 : Int32)), .val (.ref b1), .val (.ref b32), .val (.int (1 : Int32))] [(.ref b32)])) (fun _ kz => ?_) ?_
          · show Steps p.tables e below (T46.setTop (mkF m 143 #[.val (.int p1), .val (.int p2), .val (.int p3), .val (.int p4), .val (.int p5), .val (.int (3 : Int32)), .val (.ref b1), .val (.ref b32), .val (.int (0 : Int32))] [])) _
            refine XS.iconst X46.here hx rfl (hb hby at_143) ?_
            show Steps p.tables e below (T46.setTop (mkF m 144 #[.val (.int p1), .val (.int p2), .val (.int p3), .val (.int p4), .val (.int p5), .val (.int (3 : Int32)), .val (.ref b1), .val (.ref b32), .val (.int (0 : Int32))] [(.int (1 : Int32))])) _
            refine XS.goto X46.here hx rfl (pc0 := 144) (pc' := 148) rfl (hb hby at_144) (by decide) (by decide) ?_
            show Steps p.tables e below (T46.setTop (mkF m 148 #[.val (.int p1), .val (.int p2), .val (.int p3), .val (.int p4), .val (.int p5), .val (.int (3 : Int32)), .val (.ref b1), .val (.ref b32), .val (.int (0 : Int32))] [(.int (1 : Int32))])) _
            refine XS.istore X46.here hx rfl (hb hby at_148) rfl (l' := #[.val (.int p1), .val (.int p2), .val (.int p3), .val (.int p4), .val (.int p5), .val (.int (3 : Int32)), .val (.ref b1), .val (.ref b32), .val (.int (1 : Int32))]) rfl ?_
            show Steps p.tables e below (T46.setTop (mkF m 150 #[.val (.int p1), .val (.int p2), .val (.int p3), .val (.int p4), .val (.int p5), .val (.int (3 : Int32)), .val (.ref b1), .val (.ref b32), .val (.int (1 : Int32))] [])) _
            refine XS.iload X46.here hx rfl (hb hby at_150) rfl ?_
            show Steps p.tables e below (T46.setTop (mkF m 152 #[.val (.int p1), .val (.int p2), .val (.int p3), .val (.int p4), .val (.int p5), .val (.int (3 : Int32)), .val (.ref b1), .val (.ref b32), .val (.int (1 : Int32))] [(.int (3 : Int32))])) _
            refine XS.iconst X46.here hx rfl (hb hby at_152) ?_
            show Steps p.tables e below (T46.setTop (mkF m 153 #[.val (.int p1), .val (.int p2), .val (.int p3), .val (.int p4), .val (.int p5), .val (.int (3 : Int32)), .val (.ref b1), .val (.ref b32), .val (.int (1 : Int32))] [(.int (3 : Int32)), (.int (3 : Int32))])) _
            refine XS.icmpYes X46.here hx rfl (pc0 := 153) (pc' := 186) rfl (hb hby at_153) rfl (flt (by decide : ¬ ((3 : Int32) < (3 : Int32)))).2.2.2 (by decide) (by decide) ?_
            show Steps p.tables e below (T46.setTop (mkF m 186 #[.val (.int p1), .val (.int p2), .val (.int p3), .val (.int p4), .val (.int p5), .val (.int (3 : Int32)), .val (.ref b1), .val (.ref b32), .val (.int (1 : Int32))] [])) _
            refine XS.aload X46.here hx rfl (hb hby at_186) rfl rfl ?_
            exact kz
          obtain ⟨_, _, ⟨T49, L49, k49, n49⟩, -, X49, ⟨Lc49, hQ49, l49, y49, z49⟩, st49⟩ := Jvm.LawKit.callS X46 hx (y := (⟨"com/example/sharp_nose/sharpnose/BinaryData", "foundIn", "([B)Z"⟩ : MethodName)) hown (mvT hZ (hw _ (List.mem_of_getElem? (i := 2) rfl))) (mvT hZ (hw _ (List.mem_of_getElem? (i := 3) rfl))) (mvT hZ (hw _ (List.mem_of_getElem? (i := 4) rfl))) (mvT hZ (hw _ (List.mem_of_getElem? (i := 5) rfl))) (by decide) (backOf (W := 0) (rmF3 l Z a0 hw [] b32 at_ k32 (p2.toInt8.toInt32) (p3.toInt8.toInt32) (p4.toInt8.toInt32) (1 : Int32) h44 n0 Z44 Av_b32 S_t Tb (by simp [hs37, hs42, hs47])) hZ (hw _ (List.mem_of_getElem? (i := 5) rfl)) (hw _ (List.mem_of_getElem? (i := 4) rfl)) (by decide) (by decide)) (g := (mkF m 188 #[.val (.int p1), .val (.int p2), .val (.int p3), .val (.int p4), .val (.int p5), .val (.int (3 : Int32)), .val (.ref b1), .val (.ref b32), .val (.int (1 : Int32))] [(.ref b32)])) rfl (by rw [hml]; rfl) (argsL := [(.ref b32)]) (rest := []) (lenOf own_pd0 rfl) rfl (by show 2 * 0 + _ ≤ _; exact Nat.le_of_eq rfl) (hb hby at_188) (fun _ _ => ⟨rfl, e46, (by decide : 2 + 0 ≤ _), (by decide : 7 + 0 ≤ _)⟩)
          dsimp only [Pt.U, Pt.locs, Pt.cells, Pt.slots] at X49 l49 y49 z49 st49 hQ49
          subst l49 y49 z49
          obtain ⟨rfl, N49q, e49⟩ := hQ49
          have N49 := Fr.app N46 N49q
          refine own_go (A := T49.setTop (mkF m 191 #[.val (.int p1), .val (.int p2), .val (.int p3), .val (.int p4), .val (.int p5), .val (.int (3 : Int32)), .val (.ref b1), .val (.ref b32), .val (.int (1 : Int32))] [(.int (1 : Int32))])) (fun _ kz => st49 _ kz) ?_
          refine own_go (A := T49.setTop (mkF m 201 #[.val (.int p1), .val (.int p2), .val (.int p3), .val (.int p4), .val (.int p5), .val (.int (3 : Int32)), .val (.ref b1), .val (.ref b32), .val (.int (1 : Int32))] [(.int (1 : Int32))])) (fun _ kz => ?_) ?_
          · show Steps p.tables e below (T49.setTop (mkF m 191 #[.val (.int p1), .val (.int p2), .val (.int p3), .val (.int p4), .val (.int p5), .val (.int (3 : Int32)), .val (.ref b1), .val (.ref b32), .val (.int (1 : Int32))] [(.int (1 : Int32))])) _
            refine XS.iload X49.here hx rfl (hb hby at_191) rfl ?_
            show Steps p.tables e below (T49.setTop (mkF m 193 #[.val (.int p1), .val (.int p2), .val (.int p3), .val (.int p4), .val (.int p5), .val (.int (3 : Int32)), .val (.ref b1), .val (.ref b32), .val (.int (1 : Int32))] [(.int (1 : Int32)), (.int (1 : Int32))])) _
            refine XS.icmpNo X49.here hx rfl (hb hby at_193) rfl (teq (by decide : ((1 : Int32) = (1 : Int32)))).2 ?_
            show Steps p.tables e below (T49.setTop (mkF m 196 #[.val (.int p1), .val (.int p2), .val (.int p3), .val (.int p4), .val (.int p5), .val (.int (3 : Int32)), .val (.ref b1), .val (.ref b32), .val (.int (1 : Int32))] [])) _
            refine XS.iconst X49.here hx rfl (hb hby at_196) ?_
            show Steps p.tables e below (T49.setTop (mkF m 197 #[.val (.int p1), .val (.int p2), .val (.int p3), .val (.int p4), .val (.int p5), .val (.int (3 : Int32)), .val (.ref b1), .val (.ref b32), .val (.int (1 : Int32))] [(.int (1 : Int32))])) _
            refine XS.goto X49.here hx rfl (pc0 := 197) (pc' := 201) rfl (hb hby at_197) (by decide) (by decide) ?_
            exact kz
          obtain ⟨fs, hrr, hrun, hended, hW, hsame⟩ := X49.leave (v := some (.int (1 : Int32))) (fun h => by rw [Bd.returns] at h; cases h)
          refine ⟨_, _, ?_, hrun, hended, _, _, rfl, ?_, ⟨_, rfl⟩, hW, hsame.mono (by decide) (by decide)⟩
          · show Steps p.tables e below (T49.setTop (mkF m 201 #[.val (.int p1), .val (.int p2), .val (.int p3), .val (.int p4), .val (.int p5), .val (.int (3 : Int32)), .val (.ref b1), .val (.ref b32), .val (.int (1 : Int32))] [(.int (1 : Int32))])) _
            exact retN X49 hx (t := .boolean) Bd.returns (by simp) (hb hby at_201) hrr
          · show Qrm0 Z p1 p2 p3 p4 p5 at_ h0 n0 _ T49.heap _
            rw [e49]
            exact ⟨rfl, N49⟩
      · skip
        refine own_go (A := T41.setTop (mkF m 107 #[.val (.int p1), .val (.int p2), .val (.int p3), .val (.int p4), .val (.int p5), .val (.int (3 : Int32)), .val (.ref b1), .val (.ref b32), .val (.int (0 : Int32))] [])) (fun _ kz => ?_) ?_
        · show Steps p.tables e below (T41.setTop (mkF m 104 #[.val (.int p1), .val (.int p2), .val (.int p3), .val (.int p4), .val (.int p5), .val (.int (3 : Int32)), .val (.ref b1), .val (.ref b32), .val (.int (0 : Int32))] [(.int (own_tv ((p3.toInt8.toInt32) &&& (255 : Int32))))])) _
          refine XS.ifNo X41.here hx rfl (hb hby at_104) rfl ((if0 _ _).trans (feq hs42).1) ?_
          exact kz
        refine own_go (A := T41.setTop (mkF m 126 #[.val (.int p1), .val (.int p2), .val (.int p3), .val (.int p4), .val (.int p5), .val (.int (3 : Int32)), .val (.ref b1), .val (.ref b32), .val (.int (1 : Int32))] [(.int (2 : Int32)), (.ref b1), (.int (2 : Int32)), (.ref b32)])) (fun _ kz => ?_) ?_
        · show Steps p.tables e below (T41.setTop (mkF m 107 #[.val (.int p1), .val (.int p2), .val (.int p3), .val (.int p4), .val (.int p5), .val (.int (3 : Int32)), .val (.ref b1), .val (.ref b32), .val (.int (0 : Int32))] [])) _
          refine XS.iconst X41.here hx rfl (hb hby at_107) ?_
          show Steps p.tables e below (T41.setTop (mkF m 108 #[.val (.int p1), .val (.int p2), .val (.int p3), .val (.int p4), .val (.int p5), .val (.int (3 : Int32)), .val (.ref b1), .val (.ref b32), .val (.int (0 : Int32))] [(.int (1 : Int32))])) _
          refine XS.goto X41.here hx rfl (pc0 := 108) (pc' := 112) rfl (hb hby at_108) (by decide) (by decide) ?_
          show Steps p.tables e below (T41.setTop (mkF m 112 #[.val (.int p1), .val (.int p2), .val (.int p3), .val (.int p4), .val (.int p5), .val (.int (3 : Int32)), .val (.ref b1), .val (.ref b32), .val (.int (0 : Int32))] [(.int (1 : Int32))])) _
          refine XS.istore X41.here hx rfl (hb hby at_112) rfl (l' := #[.val (.int p1), .val (.int p2), .val (.int p3), .val (.int p4), .val (.int p5), .val (.int (3 : Int32)), .val (.ref b1), .val (.ref b32), .val (.int (1 : Int32))]) rfl ?_
          show Steps p.tables e below (T41.setTop (mkF m 114 #[.val (.int p1), .val (.int p2), .val (.int p3), .val (.int p4), .val (.int p5), .val (.int (3 : Int32)), .val (.ref b1), .val (.ref b32), .val (.int (1 : Int32))] [])) _
          refine XS.iload X41.here hx rfl (hb hby at_114) rfl ?_
          show Steps p.tables e below (T41.setTop (mkF m 116 #[.val (.int p1), .val (.int p2), .val (.int p3), .val (.int p4), .val (.int p5), .val (.int (3 : Int32)), .val (.ref b1), .val (.ref b32), .val (.int (1 : Int32))] [(.int (3 : Int32))])) _
          refine XS.iconst X41.here hx rfl (hb hby at_116) ?_
          show Steps p.tables e below (T41.setTop (mkF m 117 #[.val (.int p1), .val (.int p2), .val (.int p3), .val (.int p4), .val (.int p5), .val (.int (3 : Int32)), .val (.ref b1), .val (.ref b32), .val (.int (1 : Int32))] [(.int (2 : Int32)), (.int (3 : Int32))])) _
          refine XS.icmpNo X41.here hx rfl (hb hby at_117) rfl (tlt (by decide : ((2 : Int32) < (3 : Int32)))).2.2.2 ?_
          show Steps p.tables e below (T41.setTop (mkF m 120 #[.val (.int p1), .val (.int p2), .val (.int p3), .val (.int p4), .val (.int p5), .val (.int (3 : Int32)), .val (.ref b1), .val (.ref b32), .val (.int (1 : Int32))] [])) _
          refine XS.aload X41.here hx rfl (hb hby at_120) rfl rfl ?_
          show Steps p.tables e below (T41.setTop (mkF m 122 #[.val (.int p1), .val (.int p2), .val (.int p3), .val (.int p4), .val (.int p5), .val (.int (3 : Int32)), .val (.ref b1), .val (.ref b32), .val (.int (1 : Int32))] [(.ref b32)])) _
          refine XS.iconst X41.here hx rfl (hb hby at_122) ?_
          show Steps p.tables e below (T41.setTop (mkF m 123 #[.val (.int p1), .val (.int p2), .val (.int p3), .val (.int p4), .val (.int p5), .val (.int (3 : Int32)), .val (.ref b1), .val (.ref b32), .val (.int (1 : Int32))] [(.int (2 : Int32)), (.ref b32)])) _
          refine XS.aload X41.here hx rfl (hb hby at_123) rfl rfl ?_
          show Steps p.tables e below (T41.setTop (mkF m 125 #[.val (.int p1), .val (.int p2), .val (.int p3), .val (.int p4), .val (.int p5), .val (.int (3 : Int32)), .val (.ref b1), .val (.ref b32), .val (.int (1 : Int32))] [(.ref b1), (.int (2 : Int32)), (.ref b32)])) _
          refine XS.iconst X41.here hx rfl (hb hby at_125) ?_
          exact kz
        obtain ⟨cl50, Ar50, -, S50, M50, H50, -⟩ := id Av_b1
        have hin50 : ¬ ((2 : Int32) < 0 ∨ cl50.slots.size ≤ ((2 : Int32)).toNatClampNeg) := inb_of S50 ⟨by decide, by decide⟩
        have hat50 : cl50.slots[((2 : Int32)).toNatClampNeg]? = some (.int (p4.toInt8.toInt32)) := H50.at hin50 rfl
        refine own_go (A := T41.setTop (mkF m 127 #[.val (.int p1), .val (.int p2), .val (.int p3), .val (.int p4), .val (.int p5), .val (.int (3 : Int32)), .val (.ref b1), .val (.ref b32), .val (.int (1 : Int32))] [(.int (p4.toInt8.toInt32)), (.int (2 : Int32)), (.ref b32)])) (fun _ kz => ?_) ?_
        · refine X41.baloadBytes hx (j := (2 : Int32)) (v := (.int (p4.toInt8.toInt32))) (by rw [e41]; exact Ar50.1) (State.isArrayOf_alike hZ.alike Ar50.2.1) Ar50.2.2 hin50 hat50 (g := (mkF m 126 #[.val (.int p1), .val (.int p2), .val (.int p3), .val (.int p4), .val (.int p5), .val (.int (3 : Int32)), .val (.ref b1), .val (.ref b32), .val (.int (1 : Int32))] [(.int (2 : Int32)), (.ref b1), (.int (2 : Int32)), (.ref b32)])) rfl rfl (hb hby at_126) _ ?_
          exact kz
        obtain ⟨cl51, Ar51, q51, S51, M51, H51, G51⟩ := id Av_b32
        have hin51 : ¬ ((2 : Int32) < 0 ∨ cl51.slots.size ≤ ((2 : Int32)).toNatClampNeg) := inb_of S51 ⟨by decide, by decide⟩
        obtain ⟨T51, h51, X51, e51, W51, st51⟩ := stB X41 hx hZ e41 Ar51 (j := (2 : Int32)) hin51 (g := (mkF m 127 #[.val (.int p1), .val (.int p2), .val (.int p3), .val (.int p4), .val (.int p5), .val (.int (3 : Int32)), .val (.ref b1), .val (.ref b32), .val (.int (1 : Int32))] [(.int (p4.toInt8.toInt32)), (.int (2 : Int32)), (.ref b32)])) rfl rfl (hb hby at_127)
        rw [own_nbn] at W51
        have Aw51 := Arv.set Ar51 q51 S51 M51 H51 G51 (fits_nar_byte _) W51 2 rfl (Nat.le_of_ble_eq_true rfl)
        replace S_t := S_t.wr W51
        replace Tb := Tb.other W51 ne_at__b32
        replace Av_b1 := Av_b1.other W51 ne_b1_b32
        have Z51 : n0 ≤ h51.size := Nat.le_trans Z39 (Keep.of_wr W51).1
        have Av_b32 : Arv Z h51 b32 k32 .byte (3 : Int32) [(.int (p2.toInt8.toInt32)), (.int (p3.toInt8.toInt32)), (.int (p4.toInt8.toInt32))] (.int (0 : Int32)) := Aw51
        have N51 := Fr.snoc X51 N41 g_b32
        refine own_go (A := T51.setTop (mkF m 128 #[.val (.int p1), .val (.int p2), .val (.int p3), .val (.int p4), .val (.int p5), .val (.int (3 : Int32)), .val (.ref b1), .val (.ref b32), .val (.int (1 : Int32))] [])) (fun _ kz => st51 _ kz) ?_
        refine own_go (A := T51.setTop (mkF m 188 #[.val (.int p1), .val (.int p2), .val (.int p3), .val (.int p4), .val (.int p5), .val (.int (3 : Int32)), .val (.ref b1), .val (.ref b32), .val (.int (1 : Int32))] [(.ref b32)])) (fun _ kz => ?_) ?_
        · show Steps p.tables e below (T51.setTop (mkF m 128 #[.val (.int p1), .val (.int p2), .val (.int p3), .val (.int p4), .val (.int p5), .val (.int (3 : Int32)), .val (.ref b1), .val (.ref b32), .val (.int (1 : Int32))] [])) _
          refine XS.iload X51.here hx rfl (hb hby at_128) rfl ?_
          show Steps p.tables e below (T51.setTop (mkF m 130 #[.val (.int p1), .val (.int p2), .val (.int p3), .val (.int p4), .val (.int p5), .val (.int (3 : Int32)), .val (.ref b1), .val (.ref b32), .val (.int (1 : Int32))] [(.int (1 : Int32))])) _
          refine XS.ifYes X51.here hx rfl (pc0 := 130) (pc' := 143) rfl (hb hby at_130) rfl ((if0 _ _).trans (feq (by decide : ¬ ((1 : Int32) = (0 : Int32)))).2) (by decide) (by decide) ?_
          show Steps p.tables e below (T51.setTop (mkF m 143 #[.val (.int p1), .val (.int p2), .val (.int p3), .val (.int p4), .val (.int p5), .val (.int (3 : Int32)), .val (.ref b1), .val (.ref b32), .val (.int (1 : Int32))] [])) _
          refine XS.iconst X51.here hx rfl (hb hby at_143) ?_
          show Steps p.tables e below (T51.setTop (mkF m 144 #[.val (.int p1), .val (.int p2), .val (.int p3), .val (.int p4), .val (.int p5), .val (.int (3 : Int32)), .val (.ref b1), .val (.ref b32), .val (.int (1 : Int32))] [(.int (1 : Int32))])) _
          refine XS.goto X51.here hx rfl (pc0 := 144) (pc' := 148) rfl (hb hby at_144) (by decide) (by decide) ?_
          show Steps p.tables e below (T51.setTop (mkF m 148 #[.val (.int p1), .val (.int p2), .val (.int p3), .val (.int p4), .val (.int p5), .val (.int (3 : Int32)), .val (.ref b1), .val (.ref b32), .val (.int (1 : Int32))] [(.int (1 : Int32))])) _
          refine XS.istore X51.here hx rfl (hb hby at_148) rfl (l' := #[.val (.int p1), .val (.int p2), .val (.int p3), .val (.int p4), .val (.int p5), .val (.int (3 : Int32)), .val (.ref b1), .val (.ref b32), .val (.int (1 : Int32))]) rfl ?_
          show Steps p.tables e below (T51.setTop (mkF m 150 #[.val (.int p1), .val (.int p2), .val (.int p3), .val (.int p4), .val (.int p5), .val (.int (3 : Int32)), .val (.ref b1), .val (.ref b32), .val (.int (1 : Int32))] [])) _
          refine XS.iload X51.here hx rfl (hb hby at_150) rfl ?_
          show Steps p.tables e below (T51.setTop (mkF m 152 #[.val (.int p1), .val (.int p2), .val (.int p3), .val (.int p4), .val (.int p5), .val (.int (3 : Int32)), .val (.ref b1), .val (.ref b32), .val (.int (1 : Int32))] [(.int (3 : Int32))])) _
          refine XS.iconst X51.here hx rfl (hb hby at_152) ?_
          show Steps p.tables e below (T51.setTop (mkF m 153 #[.val (.int p1), .val (.int p2), .val (.int p3), .val (.int p4), .val (.int p5), .val (.int (3 : Int32)), .val (.ref b1), .val (.ref b32), .val (.int (1 : Int32))] [(.int (3 : Int32)), (.int (3 : Int32))])) _
          refine XS.icmpYes X51.here hx rfl (pc0 := 153) (pc' := 186) rfl (hb hby at_153) rfl (flt (by decide : ¬ ((3 : Int32) < (3 : Int32)))).2.2.2 (by decide) (by decide) ?_
          show Steps p.tables e below (T51.setTop (mkF m 186 #[.val (.int p1), .val (.int p2), .val (.int p3), .val (.int p4), .val (.int p5), .val (.int (3 : Int32)), .val (.ref b1), .val (.ref b32), .val (.int (1 : Int32))] [])) _
          refine XS.aload X51.here hx rfl (hb hby at_186) rfl rfl ?_
          exact kz
        obtain ⟨_, _, ⟨T52, L52, k52, n52⟩, -, X52, ⟨Lc52, hQ52, l52, y52, z52⟩, st52⟩ := Jvm.LawKit.callS X51 hx (y := (⟨"com/example/sharp_nose/sharpnose/BinaryData", "foundIn", "([B)Z"⟩ : MethodName)) hown (mvT hZ (hw _ (List.mem_of_getElem? (i := 2) rfl))) (mvT hZ (hw _ (List.mem_of_getElem? (i := 3) rfl))) (mvT hZ (hw _ (List.mem_of_getElem? (i := 4) rfl))) (mvT hZ (hw _ (List.mem_of_getElem? (i := 5) rfl))) (by decide) (backOf (W := 0) (rmF3 l Z a0 hw [] b32 at_ k32 (p2.toInt8.toInt32) (p3.toInt8.toInt32) (p4.toInt8.toInt32) (1 : Int32) h51 n0 Z51 Av_b32 S_t Tb (by simp [hs37, hs42])) hZ (hw _ (List.mem_of_getElem? (i := 5) rfl)) (hw _ (List.mem_of_getElem? (i := 4) rfl)) (by decide) (by decide)) (g := (mkF m 188 #[.val (.int p1), .val (.int p2), .val (.int p3), .val (.int p4), .val (.int p5), .val (.int (3 : Int32)), .val (.ref b1), .val (.ref b32), .val (.int (1 : Int32))] [(.ref b32)])) rfl (by rw [hml]; rfl) (argsL := [(.ref b32)]) (rest := []) (lenOf own_pd0 rfl) rfl (by show 2 * 0 + _ ≤ _; exact Nat.le_of_eq rfl) (hb hby at_188) (fun _ _ => ⟨rfl, e51, (by decide : 2 + 0 ≤ _), (by decide : 7 + 0 ≤ _)⟩)
        dsimp only [Pt.U, Pt.locs, Pt.cells, Pt.slots] at X52 l52 y52 z52 st52 hQ52
        subst l52 y52 z52
        obtain ⟨rfl, N52q, e52⟩ := hQ52
        have N52 := Fr.app N51 N52q
        refine own_go (A := T52.setTop (mkF m 191 #[.val (.int p1), .val (.int p2), .val (.int p3), .val (.int p4), .val (.int p5), .val (.int (3 : Int32)), .val (.ref b1), .val (.ref b32), .val (.int (1 : Int32))] [(.int (1 : Int32))])) (fun _ kz => st52 _ kz) ?_
        refine own_go (A := T52.setTop (mkF m 201 #[.val (.int p1), .val (.int p2), .val (.int p3), .val (.int p4), .val (.int p5), .val (.int (3 : Int32)), .val (.ref b1), .val (.ref b32), .val (.int (1 : Int32))] [(.int (1 : Int32))])) (fun _ kz => ?_) ?_
        · show Steps p.tables e below (T52.setTop (mkF m 191 #[.val (.int p1), .val (.int p2), .val (.int p3), .val (.int p4), .val (.int p5), .val (.int (3 : Int32)), .val (.ref b1), .val (.ref b32), .val (.int (1 : Int32))] [(.int (1 : Int32))])) _
          refine XS.iload X52.here hx rfl (hb hby at_191) rfl ?_
          show Steps p.tables e below (T52.setTop (mkF m 193 #[.val (.int p1), .val (.int p2), .val (.int p3), .val (.int p4), .val (.int p5), .val (.int (3 : Int32)), .val (.ref b1), .val (.ref b32), .val (.int (1 : Int32))] [(.int (1 : Int32)), (.int (1 : Int32))])) _
          refine XS.icmpNo X52.here hx rfl (hb hby at_193) rfl (teq (by decide : ((1 : Int32) = (1 : Int32)))).2 ?_
          show Steps p.tables e below (T52.setTop (mkF m 196 #[.val (.int p1), .val (.int p2), .val (.int p3), .val (.int p4), .val (.int p5), .val (.int (3 : Int32)), .val (.ref b1), .val (.ref b32), .val (.int (1 : Int32))] [])) _
          refine XS.iconst X52.here hx rfl (hb hby at_196) ?_
          show Steps p.tables e below (T52.setTop (mkF m 197 #[.val (.int p1), .val (.int p2), .val (.int p3), .val (.int p4), .val (.int p5), .val (.int (3 : Int32)), .val (.ref b1), .val (.ref b32), .val (.int (1 : Int32))] [(.int (1 : Int32))])) _
          refine XS.goto X52.here hx rfl (pc0 := 197) (pc' := 201) rfl (hb hby at_197) (by decide) (by decide) ?_
          exact kz
        obtain ⟨fs, hrr, hrun, hended, hW, hsame⟩ := X52.leave (v := some (.int (1 : Int32))) (fun h => by rw [Bd.returns] at h; cases h)
        refine ⟨_, _, ?_, hrun, hended, _, _, rfl, ?_, ⟨_, rfl⟩, hW, hsame.mono (by decide) (by decide)⟩
        · show Steps p.tables e below (T52.setTop (mkF m 201 #[.val (.int p1), .val (.int p2), .val (.int p3), .val (.int p4), .val (.int p5), .val (.int (3 : Int32)), .val (.ref b1), .val (.ref b32), .val (.int (1 : Int32))] [(.int (1 : Int32))])) _
          exact retN X52 hx (t := .boolean) Bd.returns (by simp) (hb hby at_201) hrr
        · show Qrm0 Z p1 p2 p3 p4 p5 at_ h0 n0 _ T52.heap _
          rw [e52]
          exact ⟨rfl, N52⟩
    · skip
      refine own_go (A := T36.setTop (mkF m 71 #[.val (.int p1), .val (.int p2), .val (.int p3), .val (.int p4), .val (.int p5), .val (.int (3 : Int32)), .val (.ref b1), .val (.ref b32), .val (.int (0 : Int32))] [])) (fun _ kz => ?_) ?_
      · show Steps p.tables e below (T36.setTop (mkF m 68 #[.val (.int p1), .val (.int p2), .val (.int p3), .val (.int p4), .val (.int p5), .val (.int (3 : Int32)), .val (.ref b1), .val (.ref b32), .val (.int (0 : Int32))] [(.int (own_tv ((p2.toInt8.toInt32) &&& (255 : Int32))))])) _
        refine XS.ifNo X36.here hx rfl (hb hby at_68) rfl ((if0 _ _).trans (feq hs37).1) ?_
        exact kz
      refine own_go (A := T36.setTop (mkF m 90 #[.val (.int p1), .val (.int p2), .val (.int p3), .val (.int p4), .val (.int p5), .val (.int (3 : Int32)), .val (.ref b1), .val (.ref b32), .val (.int (1 : Int32))] [(.int (1 : Int32)), (.ref b1), (.int (1 : Int32)), (.ref b32)])) (fun _ kz => ?_) ?_
      · show Steps p.tables e below (T36.setTop (mkF m 71 #[.val (.int p1), .val (.int p2), .val (.int p3), .val (.int p4), .val (.int p5), .val (.int (3 : Int32)), .val (.ref b1), .val (.ref b32), .val (.int (0 : Int32))] [])) _
        refine XS.iconst X36.here hx rfl (hb hby at_71) ?_
        show Steps p.tables e below (T36.setTop (mkF m 72 #[.val (.int p1), .val (.int p2), .val (.int p3), .val (.int p4), .val (.int p5), .val (.int (3 : Int32)), .val (.ref b1), .val (.ref b32), .val (.int (0 : Int32))] [(.int (1 : Int32))])) _
        refine XS.goto X36.here hx rfl (pc0 := 72) (pc' := 76) rfl (hb hby at_72) (by decide) (by decide) ?_
        show Steps p.tables e below (T36.setTop (mkF m 76 #[.val (.int p1), .val (.int p2), .val (.int p3), .val (.int p4), .val (.int p5), .val (.int (3 : Int32)), .val (.ref b1), .val (.ref b32), .val (.int (0 : Int32))] [(.int (1 : Int32))])) _
        refine XS.istore X36.here hx rfl (hb hby at_76) rfl (l' := #[.val (.int p1), .val (.int p2), .val (.int p3), .val (.int p4), .val (.int p5), .val (.int (3 : Int32)), .val (.ref b1), .val (.ref b32), .val (.int (1 : Int32))]) rfl ?_
        show Steps p.tables e below (T36.setTop (mkF m 78 #[.val (.int p1), .val (.int p2), .val (.int p3), .val (.int p4), .val (.int p5), .val (.int (3 : Int32)), .val (.ref b1), .val (.ref b32), .val (.int (1 : Int32))] [])) _
        refine XS.iload X36.here hx rfl (hb hby at_78) rfl ?_
        show Steps p.tables e below (T36.setTop (mkF m 80 #[.val (.int p1), .val (.int p2), .val (.int p3), .val (.int p4), .val (.int p5), .val (.int (3 : Int32)), .val (.ref b1), .val (.ref b32), .val (.int (1 : Int32))] [(.int (3 : Int32))])) _
        refine XS.iconst X36.here hx rfl (hb hby at_80) ?_
        show Steps p.tables e below (T36.setTop (mkF m 81 #[.val (.int p1), .val (.int p2), .val (.int p3), .val (.int p4), .val (.int p5), .val (.int (3 : Int32)), .val (.ref b1), .val (.ref b32), .val (.int (1 : Int32))] [(.int (1 : Int32)), (.int (3 : Int32))])) _
        refine XS.icmpNo X36.here hx rfl (hb hby at_81) rfl (tlt (by decide : ((1 : Int32) < (3 : Int32)))).2.2.2 ?_
        show Steps p.tables e below (T36.setTop (mkF m 84 #[.val (.int p1), .val (.int p2), .val (.int p3), .val (.int p4), .val (.int p5), .val (.int (3 : Int32)), .val (.ref b1), .val (.ref b32), .val (.int (1 : Int32))] [])) _
        refine XS.aload X36.here hx rfl (hb hby at_84) rfl rfl ?_
        show Steps p.tables e below (T36.setTop (mkF m 86 #[.val (.int p1), .val (.int p2), .val (.int p3), .val (.int p4), .val (.int p5), .val (.int (3 : Int32)), .val (.ref b1), .val (.ref b32), .val (.int (1 : Int32))] [(.ref b32)])) _
        refine XS.iconst X36.here hx rfl (hb hby at_86) ?_
        show Steps p.tables e below (T36.setTop (mkF m 87 #[.val (.int p1), .val (.int p2), .val (.int p3), .val (.int p4), .val (.int p5), .val (.int (3 : Int32)), .val (.ref b1), .val (.ref b32), .val (.int (1 : Int32))] [(.int (1 : Int32)), (.ref b32)])) _
        refine XS.aload X36.here hx rfl (hb hby at_87) rfl rfl ?_
        show Steps p.tables e below (T36.setTop (mkF m 89 #[.val (.int p1), .val (.int p2), .val (.int p3), .val (.int p4), .val (.int p5), .val (.int (3 : Int32)), .val (.ref b1), .val (.ref b32), .val (.int (1 : Int32))] [(.ref b1), (.int (1 : Int32)), (.ref b32)])) _
        refine XS.iconst X36.here hx rfl (hb hby at_89) ?_
        exact kz
      obtain ⟨cl53, Ar53, -, S53, M53, H53, -⟩ := id Av_b1
      have hin53 : ¬ ((1 : Int32) < 0 ∨ cl53.slots.size ≤ ((1 : Int32)).toNatClampNeg) := inb_of S53 ⟨by decide, by decide⟩
      have hat53 : cl53.slots[((1 : Int32)).toNatClampNeg]? = some (.int (p3.toInt8.toInt32)) := H53.at hin53 rfl
      refine own_go (A := T36.setTop (mkF m 91 #[.val (.int p1), .val (.int p2), .val (.int p3), .val (.int p4), .val (.int p5), .val (.int (3 : Int32)), .val (.ref b1), .val (.ref b32), .val (.int (1 : Int32))] [(.int (p3.toInt8.toInt32)), (.int (1 : Int32)), (.ref b32)])) (fun _ kz => ?_) ?_
      · refine X36.baloadBytes hx (j := (1 : Int32)) (v := (.int (p3.toInt8.toInt32))) (by rw [e36]; exact Ar53.1) (State.isArrayOf_alike hZ.alike Ar53.2.1) Ar53.2.2 hin53 hat53 (g := (mkF m 90 #[.val (.int p1), .val (.int p2), .val (.int p3), .val (.int p4), .val (.int p5), .val (.int (3 : Int32)), .val (.ref b1), .val (.ref b32), .val (.int (1 : Int32))] [(.int (1 : Int32)), (.ref b1), (.int (1 : Int32)), (.ref b32)])) rfl rfl (hb hby at_90) _ ?_
        exact kz
      obtain ⟨cl54, Ar54, q54, S54, M54, H54, G54⟩ := id Av_b32
      have hin54 : ¬ ((1 : Int32) < 0 ∨ cl54.slots.size ≤ ((1 : Int32)).toNatClampNeg) := inb_of S54 ⟨by decide, by decide⟩
      obtain ⟨T54, h54, X54, e54, W54, st54⟩ := stB X36 hx hZ e36 Ar54 (j := (1 : Int32)) hin54 (g := (mkF m 91 #[.val (.int p1), .val (.int p2), .val (.int p3), .val (.int p4), .val (.int p5), .val (.int (3 : Int32)), .val (.ref b1), .val (.ref b32), .val (.int (1 : Int32))] [(.int (p3.toInt8.toInt32)), (.int (1 : Int32)), (.ref b32)])) rfl rfl (hb hby at_91)
      rw [own_nbn] at W54
      have Aw54 := Arv.set Ar54 q54 S54 M54 H54 G54 (fits_nar_byte _) W54 1 rfl (Nat.le_of_ble_eq_true rfl)
      replace S_t := S_t.wr W54
      replace Tb := Tb.other W54 ne_at__b32
      replace Av_b1 := Av_b1.other W54 ne_b1_b32
      have Z54 : n0 ≤ h54.size := Nat.le_trans Z34 (Keep.of_wr W54).1
      have Av_b32 : Arv Z h54 b32 k32 .byte (3 : Int32) [(.int (p2.toInt8.toInt32)), (.int (p3.toInt8.toInt32)), (.int (0 : Int32))] (.int (0 : Int32)) := Aw54
      have N54 := Fr.snoc X54 N36 g_b32
      refine own_go (A := T54.setTop (mkF m 92 #[.val (.int p1), .val (.int p2), .val (.int p3), .val (.int p4), .val (.int p5), .val (.int (3 : Int32)), .val (.ref b1), .val (.ref b32), .val (.int (1 : Int32))] [])) (fun _ kz => st54 _ kz) ?_
      refine own_go (A := T54.setTop (mkF m 126 #[.val (.int p1), .val (.int p2), .val (.int p3), .val (.int p4), .val (.int p5), .val (.int (3 : Int32)), .val (.ref b1), .val (.ref b32), .val (.int (1 : Int32))] [(.int (2 : Int32)), (.ref b1), (.int (2 : Int32)), (.ref b32)])) (fun _ kz => ?_) ?_
      · show Steps p.tables e below (T54.setTop (mkF m 92 #[.val (.int p1), .val (.int p2), .val (.int p3), .val (.int p4), .val (.int p5), .val (.int (3 : Int32)), .val (.ref b1), .val (.ref b32), .val (.int (1 : Int32))] [])) _
        refine XS.iload X54.here hx rfl (hb hby at_92) rfl ?_
        show Steps p.tables e below (T54.setTop (mkF m 94 #[.val (.int p1), .val (.int p2), .val (.int p3), .val (.int p4), .val (.int p5), .val (.int (3 : Int32)), .val (.ref b1), .val (.ref b32), .val (.int (1 : Int32))] [(.int (1 : Int32))])) _
        refine XS.ifYes X54.here hx rfl (pc0 := 94) (pc' := 107) rfl (hb hby at_94) rfl ((if0 _ _).trans (feq (by decide : ¬ ((1 : Int32) = (0 : Int32)))).2) (by decide) (by decide) ?_
        show Steps p.tables e below (T54.setTop (mkF m 107 #[.val (.int p1), .val (.int p2), .val (.int p3), .val (.int p4), .val (.int p5), .val (.int (3 : Int32)), .val (.ref b1), .val (.ref b32), .val (.int (1 : Int32))] [])) _
        refine XS.iconst X54.here hx rfl (hb hby at_107) ?_
        show Steps p.tables e below (T54.setTop (mkF m 108 #[.val (.int p1), .val (.int p2), .val (.int p3), .val (.int p4), .val (.int p5), .val (.int (3 : Int32)), .val (.ref b1), .val (.ref b32), .val (.int (1 : Int32))] [(.int (1 : Int32))])) _
        refine XS.goto X54.here hx rfl (pc0 := 108) (pc' := 112) rfl (hb hby at_108) (by decide) (by decide) ?_
        show Steps p.tables e below (T54.setTop (mkF m 112 #[.val (.int p1), .val (.int p2), .val (.int p3), .val (.int p4), .val (.int p5), .val (.int (3 : Int32)), .val (.ref b1), .val (.ref b32), .val (.int (1 : Int32))] [(.int (1 : Int32))])) _
        refine XS.istore X54.here hx rfl (hb hby at_112) rfl (l' := #[.val (.int p1), .val (.int p2), .val (.int p3), .val (.int p4), .val (.int p5), .val (.int (3 : Int32)), .val (.ref b1), .val (.ref b32), .val (.int (1 : Int32))]) rfl ?_
        show Steps p.tables e below (T54.setTop (mkF m 114 #[.val (.int p1), .val (.int p2), .val (.int p3), .val (.int p4), .val (.int p5), .val (.int (3 : Int32)), .val (.ref b1), .val (.ref b32), .val (.int (1 : Int32))] [])) _
        refine XS.iload X54.here hx rfl (hb hby at_114) rfl ?_
        show Steps p.tables e below (T54.setTop (mkF m 116 #[.val (.int p1), .val (.int p2), .val (.int p3), .val (.int p4), .val (.int p5), .val (.int (3 : Int32)), .val (.ref b1), .val (.ref b32), .val (.int (1 : Int32))] [(.int (3 : Int32))])) _
        refine XS.iconst X54.here hx rfl (hb hby at_116) ?_
        show Steps p.tables e below (T54.setTop (mkF m 117 #[.val (.int p1), .val (.int p2), .val (.int p3), .val (.int p4), .val (.int p5), .val (.int (3 : Int32)), .val (.ref b1), .val (.ref b32), .val (.int (1 : Int32))] [(.int (2 : Int32)), (.int (3 : Int32))])) _
        refine XS.icmpNo X54.here hx rfl (hb hby at_117) rfl (tlt (by decide : ((2 : Int32) < (3 : Int32)))).2.2.2 ?_
        show Steps p.tables e below (T54.setTop (mkF m 120 #[.val (.int p1), .val (.int p2), .val (.int p3), .val (.int p4), .val (.int p5), .val (.int (3 : Int32)), .val (.ref b1), .val (.ref b32), .val (.int (1 : Int32))] [])) _
        refine XS.aload X54.here hx rfl (hb hby at_120) rfl rfl ?_
        show Steps p.tables e below (T54.setTop (mkF m 122 #[.val (.int p1), .val (.int p2), .val (.int p3), .val (.int p4), .val (.int p5), .val (.int (3 : Int32)), .val (.ref b1), .val (.ref b32), .val (.int (1 : Int32))] [(.ref b32)])) _
        refine XS.iconst X54.here hx rfl (hb hby at_122) ?_
        show Steps p.tables e below (T54.setTop (mkF m 123 #[.val (.int p1), .val (.int p2), .val (.int p3), .val (.int p4), .val (.int p5), .val (.int (3 : Int32)), .val (.ref b1), .val (.ref b32), .val (.int (1 : Int32))] [(.int (2 : Int32)), (.ref b32)])) _
        refine XS.aload X54.here hx rfl (hb hby at_123) rfl rfl ?_
        show Steps p.tables e below (T54.setTop (mkF m 125 #[.val (.int p1), .val (.int p2), .val (.int p3), .val (.int p4), .val (.int p5), .val (.int (3 : Int32)), .val (.ref b1), .val (.ref b32), .val (.int (1 : Int32))] [(.ref b1), (.int (2 : Int32)), (.ref b32)])) _
        refine XS.iconst X54.here hx rfl (hb hby at_125) ?_
        exact kz
      obtain ⟨cl55, Ar55, -, S55, M55, H55, -⟩ := id Av_b1
      have hin55 : ¬ ((2 : Int32) < 0 ∨ cl55.slots.size ≤ ((2 : Int32)).toNatClampNeg) := inb_of S55 ⟨by decide, by decide⟩
      have hat55 : cl55.slots[((2 : Int32)).toNatClampNeg]? = some (.int (p4.toInt8.toInt32)) := H55.at hin55 rfl
      refine own_go (A := T54.setTop (mkF m 127 #[.val (.int p1), .val (.int p2), .val (.int p3), .val (.int p4), .val (.int p5), .val (.int (3 : Int32)), .val (.ref b1), .val (.ref b32), .val (.int (1 : Int32))] [(.int (p4.toInt8.toInt32)), (.int (2 : Int32)), (.ref b32)])) (fun _ kz => ?_) ?_
      · refine X54.baloadBytes hx (j := (2 : Int32)) (v := (.int (p4.toInt8.toInt32))) (by rw [e54]; exact Ar55.1) (State.isArrayOf_alike hZ.alike Ar55.2.1) Ar55.2.2 hin55 hat55 (g := (mkF m 126 #[.val (.int p1), .val (.int p2), .val (.int p3), .val (.int p4), .val (.int p5), .val (.int (3 : Int32)), .val (.ref b1), .val (.ref b32), .val (.int (1 : Int32))] [(.int (2 : Int32)), (.ref b1), (.int (2 : Int32)), (.ref b32)])) rfl rfl (hb hby at_126) _ ?_
        exact kz
      obtain ⟨cl56, Ar56, q56, S56, M56, H56, G56⟩ := id Av_b32
      have hin56 : ¬ ((2 : Int32) < 0 ∨ cl56.slots.size ≤ ((2 : Int32)).toNatClampNeg) := inb_of S56 ⟨by decide, by decide⟩
      obtain ⟨T56, h56, X56, e56, W56, st56⟩ := stB X54 hx hZ e54 Ar56 (j := (2 : Int32)) hin56 (g := (mkF m 127 #[.val (.int p1), .val (.int p2), .val (.int p3), .val (.int p4), .val (.int p5), .val (.int (3 : Int32)), .val (.ref b1), .val (.ref b32), .val (.int (1 : Int32))] [(.int (p4.toInt8.toInt32)), (.int (2 : Int32)), (.ref b32)])) rfl rfl (hb hby at_127)
      rw [own_nbn] at W56
      have Aw56 := Arv.set Ar56 q56 S56 M56 H56 G56 (fits_nar_byte _) W56 2 rfl (Nat.le_of_ble_eq_true rfl)
      replace S_t := S_t.wr W56
      replace Tb := Tb.other W56 ne_at__b32
      replace Av_b1 := Av_b1.other W56 ne_b1_b32
      have Z56 : n0 ≤ h56.size := Nat.le_trans Z54 (Keep.of_wr W56).1
      have Av_b32 : Arv Z h56 b32 k32 .byte (3 : Int32) [(.int (p2.toInt8.toInt32)), (.int (p3.toInt8.toInt32)), (.int (p4.toInt8.toInt32))] (.int (0 : Int32)) := Aw56
      have N56 := Fr.snoc X56 N54 g_b32
      refine own_go (A := T56.setTop (mkF m 128 #[.val (.int p1), .val (.int p2), .val (.int p3), .val (.int p4), .val (.int p5), .val (.int (3 : Int32)), .val (.ref b1), .val (.ref b32), .val (.int (1 : Int32))] [])) (fun _ kz => st56 _ kz) ?_
      refine own_go (A := T56.setTop (mkF m 188 #[.val (.int p1), .val (.int p2), .val (.int p3), .val (.int p4), .val (.int p5), .val (.int (3 : Int32)), .val (.ref b1), .val (.ref b32), .val (.int (1 : Int32))] [(.ref b32)])) (fun _ kz => ?_) ?_
      · show Steps p.tables e below (T56.setTop (mkF m 128 #[.val (.int p1), .val (.int p2), .val (.int p3), .val (.int p4), .val (.int p5), .val (.int (3 : Int32)), .val (.ref b1), .val (.ref b32), .val (.int (1 : Int32))] [])) _
        refine XS.iload X56.here hx rfl (hb hby at_128) rfl ?_
        show Steps p.tables e below (T56.setTop (mkF m 130 #[.val (.int p1), .val (.int p2), .val (.int p3), .val (.int p4), .val (.int p5), .val (.int (3 : Int32)), .val (.ref b1), .val (.ref b32), .val (.int (1 : Int32))] [(.int (1 : Int32))])) _
        refine XS.ifYes X56.here hx rfl (pc0 := 130) (pc' := 143) rfl (hb hby at_130) rfl ((if0 _ _).trans (feq (by decide : ¬ ((1 : Int32) = (0 : Int32)))).2) (by decide) (by decide) ?_
        show Steps p.tables e below (T56.setTop (mkF m 143 #[.val (.int p1), .val (.int p2), .val (.int p3), .val (.int p4), .val (.int p5), .val (.int (3 : Int32)), .val (.ref b1), .val (.ref b32), .val (.int (1 : Int32))] [])) _
        refine XS.iconst X56.here hx rfl (hb hby at_143) ?_
        show Steps p.tables e below (T56.setTop (mkF m 144 #[.val (.int p1), .val (.int p2), .val (.int p3), .val (.int p4), .val (.int p5), .val (.int (3 : Int32)), .val (.ref b1), .val (.ref b32), .val (.int (1 : Int32))] [(.int (1 : Int32))])) _
        refine XS.goto X56.here hx rfl (pc0 := 144) (pc' := 148) rfl (hb hby at_144) (by decide) (by decide) ?_
        show Steps p.tables e below (T56.setTop (mkF m 148 #[.val (.int p1), .val (.int p2), .val (.int p3), .val (.int p4), .val (.int p5), .val (.int (3 : Int32)), .val (.ref b1), .val (.ref b32), .val (.int (1 : Int32))] [(.int (1 : Int32))])) _
        refine XS.istore X56.here hx rfl (hb hby at_148) rfl (l' := #[.val (.int p1), .val (.int p2), .val (.int p3), .val (.int p4), .val (.int p5), .val (.int (3 : Int32)), .val (.ref b1), .val (.ref b32), .val (.int (1 : Int32))]) rfl ?_
        show Steps p.tables e below (T56.setTop (mkF m 150 #[.val (.int p1), .val (.int p2), .val (.int p3), .val (.int p4), .val (.int p5), .val (.int (3 : Int32)), .val (.ref b1), .val (.ref b32), .val (.int (1 : Int32))] [])) _
        refine XS.iload X56.here hx rfl (hb hby at_150) rfl ?_
        show Steps p.tables e below (T56.setTop (mkF m 152 #[.val (.int p1), .val (.int p2), .val (.int p3), .val (.int p4), .val (.int p5), .val (.int (3 : Int32)), .val (.ref b1), .val (.ref b32), .val (.int (1 : Int32))] [(.int (3 : Int32))])) _
        refine XS.iconst X56.here hx rfl (hb hby at_152) ?_
        show Steps p.tables e below (T56.setTop (mkF m 153 #[.val (.int p1), .val (.int p2), .val (.int p3), .val (.int p4), .val (.int p5), .val (.int (3 : Int32)), .val (.ref b1), .val (.ref b32), .val (.int (1 : Int32))] [(.int (3 : Int32)), (.int (3 : Int32))])) _
        refine XS.icmpYes X56.here hx rfl (pc0 := 153) (pc' := 186) rfl (hb hby at_153) rfl (flt (by decide : ¬ ((3 : Int32) < (3 : Int32)))).2.2.2 (by decide) (by decide) ?_
        show Steps p.tables e below (T56.setTop (mkF m 186 #[.val (.int p1), .val (.int p2), .val (.int p3), .val (.int p4), .val (.int p5), .val (.int (3 : Int32)), .val (.ref b1), .val (.ref b32), .val (.int (1 : Int32))] [])) _
        refine XS.aload X56.here hx rfl (hb hby at_186) rfl rfl ?_
        exact kz
      obtain ⟨_, _, ⟨T57, L57, k57, n57⟩, -, X57, ⟨Lc57, hQ57, l57, y57, z57⟩, st57⟩ := Jvm.LawKit.callS X56 hx (y := (⟨"com/example/sharp_nose/sharpnose/BinaryData", "foundIn", "([B)Z"⟩ : MethodName)) hown (mvT hZ (hw _ (List.mem_of_getElem? (i := 2) rfl))) (mvT hZ (hw _ (List.mem_of_getElem? (i := 3) rfl))) (mvT hZ (hw _ (List.mem_of_getElem? (i := 4) rfl))) (mvT hZ (hw _ (List.mem_of_getElem? (i := 5) rfl))) (by decide) (backOf (W := 0) (rmF3 l Z a0 hw [] b32 at_ k32 (p2.toInt8.toInt32) (p3.toInt8.toInt32) (p4.toInt8.toInt32) (1 : Int32) h56 n0 Z56 Av_b32 S_t Tb (by simp [hs37])) hZ (hw _ (List.mem_of_getElem? (i := 5) rfl)) (hw _ (List.mem_of_getElem? (i := 4) rfl)) (by decide) (by decide)) (g := (mkF m 188 #[.val (.int p1), .val (.int p2), .val (.int p3), .val (.int p4), .val (.int p5), .val (.int (3 : Int32)), .val (.ref b1), .val (.ref b32), .val (.int (1 : Int32))] [(.ref b32)])) rfl (by rw [hml]; rfl) (argsL := [(.ref b32)]) (rest := []) (lenOf own_pd0 rfl) rfl (by show 2 * 0 + _ ≤ _; exact Nat.le_of_eq rfl) (hb hby at_188) (fun _ _ => ⟨rfl, e56, (by decide : 2 + 0 ≤ _), (by decide : 7 + 0 ≤ _)⟩)
      dsimp only [Pt.U, Pt.locs, Pt.cells, Pt.slots] at X57 l57 y57 z57 st57 hQ57
      subst l57 y57 z57
      obtain ⟨rfl, N57q, e57⟩ := hQ57
      have N57 := Fr.app N56 N57q
      refine own_go (A := T57.setTop (mkF m 191 #[.val (.int p1), .val (.int p2), .val (.int p3), .val (.int p4), .val (.int p5), .val (.int (3 : Int32)), .val (.ref b1), .val (.ref b32), .val (.int (1 : Int32))] [(.int (1 : Int32))])) (fun _ kz => st57 _ kz) ?_
      refine own_go (A := T57.setTop (mkF m 201 #[.val (.int p1), .val (.int p2), .val (.int p3), .val (.int p4), .val (.int p5), .val (.int (3 : Int32)), .val (.ref b1), .val (.ref b32), .val (.int (1 : Int32))] [(.int (1 : Int32))])) (fun _ kz => ?_) ?_
      · show Steps p.tables e below (T57.setTop (mkF m 191 #[.val (.int p1), .val (.int p2), .val (.int p3), .val (.int p4), .val (.int p5), .val (.int (3 : Int32)), .val (.ref b1), .val (.ref b32), .val (.int (1 : Int32))] [(.int (1 : Int32))])) _
        refine XS.iload X57.here hx rfl (hb hby at_191) rfl ?_
        show Steps p.tables e below (T57.setTop (mkF m 193 #[.val (.int p1), .val (.int p2), .val (.int p3), .val (.int p4), .val (.int p5), .val (.int (3 : Int32)), .val (.ref b1), .val (.ref b32), .val (.int (1 : Int32))] [(.int (1 : Int32)), (.int (1 : Int32))])) _
        refine XS.icmpNo X57.here hx rfl (hb hby at_193) rfl (teq (by decide : ((1 : Int32) = (1 : Int32)))).2 ?_
        show Steps p.tables e below (T57.setTop (mkF m 196 #[.val (.int p1), .val (.int p2), .val (.int p3), .val (.int p4), .val (.int p5), .val (.int (3 : Int32)), .val (.ref b1), .val (.ref b32), .val (.int (1 : Int32))] [])) _
        refine XS.iconst X57.here hx rfl (hb hby at_196) ?_
        show Steps p.tables e below (T57.setTop (mkF m 197 #[.val (.int p1), .val (.int p2), .val (.int p3), .val (.int p4), .val (.int p5), .val (.int (3 : Int32)), .val (.ref b1), .val (.ref b32), .val (.int (1 : Int32))] [(.int (1 : Int32))])) _
        refine XS.goto X57.here hx rfl (pc0 := 197) (pc' := 201) rfl (hb hby at_197) (by decide) (by decide) ?_
        exact kz
      obtain ⟨fs, hrr, hrun, hended, hW, hsame⟩ := X57.leave (v := some (.int (1 : Int32))) (fun h => by rw [Bd.returns] at h; cases h)
      refine ⟨_, _, ?_, hrun, hended, _, _, rfl, ?_, ⟨_, rfl⟩, hW, hsame.mono (by decide) (by decide)⟩
      · show Steps p.tables e below (T57.setTop (mkF m 201 #[.val (.int p1), .val (.int p2), .val (.int p3), .val (.int p4), .val (.int p5), .val (.int (3 : Int32)), .val (.ref b1), .val (.ref b32), .val (.int (1 : Int32))] [(.int (1 : Int32))])) _
        exact retN X57 hx (t := .boolean) Bd.returns (by simp) (hb hby at_201) hrr
      · show Qrm0 Z p1 p2 p3 p4 p5 at_ h0 n0 _ T57.heap _
        rw [e57]
        exact ⟨rfl, N57⟩
  · skip
    refine own_go (A := T5.setTop (mkF m 36 #[.val (.int p1), .val (.int p2), .val (.int p3), .val (.int p4), .val (.int p5), .val (.int (4 : Int32)), .val (.ref b1), .unset, .unset] [(.int (4 : Int32))])) (fun _ kz => ?_) ?_
    · show Steps p.tables e below (T5.setTop (mkF m 34 #[.val (.int p1), .val (.int p2), .val (.int p3), .val (.int p4), .val (.int p5), .val (.int (4 : Int32)), .val (.ref b1), .unset, .unset] [])) _
      refine XS.iload X5.here hx rfl (hb hby at_34) rfl ?_
      exact kz
    obtain ⟨T58, h58, k58, X58, e58, E58, A58, st58⟩ := newP X5 hx hZ (hw _ (List.mem_of_getElem? (i := 1) rfl)) e5 (g := (mkF m 36 #[.val (.int p1), .val (.int p2), .val (.int p3), .val (.int p4), .val (.int p5), .val (.int (4 : Int32)), .val (.ref b1), .unset, .unset] [(.int (4 : Int32))])) rfl (hb hby at_36) rfl (by decide) (cap := 4) (by decide) (by decide) (by decide) (by decide)
    obtain ⟨b58, gq58⟩ : ∃ z, z = h5.size := ⟨_, rfl⟩
    rw [← gq58] at A58 st58
    have g_b58 : n0 ≤ b58 := Nat.le_trans Z5 (Nat.le_of_eq gq58.symm)
    have ne_at__b58 : at_ ≠ b58 := Nat.ne_of_lt (Nat.lt_of_lt_of_le Tb.lt (Nat.le_of_eq gq58.symm))
    have ne_b1_b58 : b1 ≠ b58 := Nat.ne_of_lt (Nat.lt_of_lt_of_le Av_b1.lt (Nat.le_of_eq gq58.symm))
    replace S_t := S_t.ext E58
    replace Tb := Tb.ext E58
    replace Av_b1 := Av_b1.ext E58
    have Z58 : n0 ≤ h58.size := Nat.le_trans Z5 E58.1
    have Av_b58 : Arv Z h58 b58 k58 .byte (4 : Int32) [(.int (0 : Int32)), (.int (0 : Int32)), (.int (0 : Int32)), (.int (0 : Int32))] (.int (0 : Int32)) := (Arv.new A58 (by decide)).pad (pad_rep [] (.int (0 : Int32)) 4)
    refine own_go (A := T58.setTop (mkF m 38 #[.val (.int p1), .val (.int p2), .val (.int p3), .val (.int p4), .val (.int p5), .val (.int (4 : Int32)), .val (.ref b1), .unset, .unset] [(.ref b58)])) (fun _ kz => st58 _ kz) ?_
    refine own_go (A := T58.setTop (mkF m 54 #[.val (.int p1), .val (.int p2), .val (.int p3), .val (.int p4), .val (.int p5), .val (.int (4 : Int32)), .val (.ref b1), .val (.ref b58), .val (.int (0 : Int32))] [(.int (0 : Int32)), (.ref b1), (.int (0 : Int32)), (.ref b58)])) (fun _ kz => ?_) ?_
    · show Steps p.tables e below (T58.setTop (mkF m 38 #[.val (.int p1), .val (.int p2), .val (.int p3), .val (.int p4), .val (.int p5), .val (.int (4 : Int32)), .val (.ref b1), .unset, .unset] [(.ref b58)])) _
      refine XS.astore X58.here hx rfl (hb hby at_38) rfl rfl (l' := #[.val (.int p1), .val (.int p2), .val (.int p3), .val (.int p4), .val (.int p5), .val (.int (4 : Int32)), .val (.ref b1), .val (.ref b58), .unset]) rfl ?_
      show Steps p.tables e below (T58.setTop (mkF m 40 #[.val (.int p1), .val (.int p2), .val (.int p3), .val (.int p4), .val (.int p5), .val (.int (4 : Int32)), .val (.ref b1), .val (.ref b58), .unset] [])) _
      refine XS.iconst X58.here hx rfl (hb hby at_40) ?_
      show Steps p.tables e below (T58.setTop (mkF m 41 #[.val (.int p1), .val (.int p2), .val (.int p3), .val (.int p4), .val (.int p5), .val (.int (4 : Int32)), .val (.ref b1), .val (.ref b58), .unset] [(.int (0 : Int32))])) _
      refine XS.istore X58.here hx rfl (hb hby at_41) rfl (l' := #[.val (.int p1), .val (.int p2), .val (.int p3), .val (.int p4), .val (.int p5), .val (.int (4 : Int32)), .val (.ref b1), .val (.ref b58), .val (.int (0 : Int32))]) rfl ?_
      show Steps p.tables e below (T58.setTop (mkF m 43 #[.val (.int p1), .val (.int p2), .val (.int p3), .val (.int p4), .val (.int p5), .val (.int (4 : Int32)), .val (.ref b1), .val (.ref b58), .val (.int (0 : Int32))] [])) _
      refine XS.iload X58.here hx rfl (hb hby at_43) rfl ?_
      show Steps p.tables e below (T58.setTop (mkF m 45 #[.val (.int p1), .val (.int p2), .val (.int p3), .val (.int p4), .val (.int p5), .val (.int (4 : Int32)), .val (.ref b1), .val (.ref b58), .val (.int (0 : Int32))] [(.int (4 : Int32))])) _
      refine XS.ifNo X58.here hx rfl (hb hby at_45) rfl ((if0 _ _).trans (tlt (by decide : ((0 : Int32) < (4 : Int32)))).2.2.2) ?_
      show Steps p.tables e below (T58.setTop (mkF m 48 #[.val (.int p1), .val (.int p2), .val (.int p3), .val (.int p4), .val (.int p5), .val (.int (4 : Int32)), .val (.ref b1), .val (.ref b58), .val (.int (0 : Int32))] [])) _
      refine XS.aload X58.here hx rfl (hb hby at_48) rfl rfl ?_
      show Steps p.tables e below (T58.setTop (mkF m 50 #[.val (.int p1), .val (.int p2), .val (.int p3), .val (.int p4), .val (.int p5), .val (.int (4 : Int32)), .val (.ref b1), .val (.ref b58), .val (.int (0 : Int32))] [(.ref b58)])) _
      refine XS.iconst X58.here hx rfl (hb hby at_50) ?_
      show Steps p.tables e below (T58.setTop (mkF m 51 #[.val (.int p1), .val (.int p2), .val (.int p3), .val (.int p4), .val (.int p5), .val (.int (4 : Int32)), .val (.ref b1), .val (.ref b58), .val (.int (0 : Int32))] [(.int (0 : Int32)), (.ref b58)])) _
      refine XS.aload X58.here hx rfl (hb hby at_51) rfl rfl ?_
      show Steps p.tables e below (T58.setTop (mkF m 53 #[.val (.int p1), .val (.int p2), .val (.int p3), .val (.int p4), .val (.int p5), .val (.int (4 : Int32)), .val (.ref b1), .val (.ref b58), .val (.int (0 : Int32))] [(.ref b1), (.int (0 : Int32)), (.ref b58)])) _
      refine XS.iconst X58.here hx rfl (hb hby at_53) ?_
      exact kz
    obtain ⟨cl59, Ar59, -, S59, M59, H59, -⟩ := id Av_b1
    have hin59 : ¬ ((0 : Int32) < 0 ∨ cl59.slots.size ≤ ((0 : Int32)).toNatClampNeg) := inb_of S59 ⟨by decide, by decide⟩
    have hat59 : cl59.slots[((0 : Int32)).toNatClampNeg]? = some (.int (p2.toInt8.toInt32)) := H59.at hin59 rfl
    refine own_go (A := T58.setTop (mkF m 55 #[.val (.int p1), .val (.int p2), .val (.int p3), .val (.int p4), .val (.int p5), .val (.int (4 : Int32)), .val (.ref b1), .val (.ref b58), .val (.int (0 : Int32))] [(.int (p2.toInt8.toInt32)), (.int (0 : Int32)), (.ref b58)])) (fun _ kz => ?_) ?_
    · refine X58.baloadBytes hx (j := (0 : Int32)) (v := (.int (p2.toInt8.toInt32))) (by rw [e58]; exact Ar59.1) (State.isArrayOf_alike hZ.alike Ar59.2.1) Ar59.2.2 hin59 hat59 (g := (mkF m 54 #[.val (.int p1), .val (.int p2), .val (.int p3), .val (.int p4), .val (.int p5), .val (.int (4 : Int32)), .val (.ref b1), .val (.ref b58), .val (.int (0 : Int32))] [(.int (0 : Int32)), (.ref b1), (.int (0 : Int32)), (.ref b58)])) rfl rfl (hb hby at_54) _ ?_
      exact kz
    obtain ⟨cl60, Ar60, q60, S60, M60, H60, G60⟩ := id Av_b58
    have hin60 : ¬ ((0 : Int32) < 0 ∨ cl60.slots.size ≤ ((0 : Int32)).toNatClampNeg) := inb_of S60 ⟨by decide, by decide⟩
    obtain ⟨T60, h60, X60, e60, W60, st60⟩ := stB X58 hx hZ e58 Ar60 (j := (0 : Int32)) hin60 (g := (mkF m 55 #[.val (.int p1), .val (.int p2), .val (.int p3), .val (.int p4), .val (.int p5), .val (.int (4 : Int32)), .val (.ref b1), .val (.ref b58), .val (.int (0 : Int32))] [(.int (p2.toInt8.toInt32)), (.int (0 : Int32)), (.ref b58)])) rfl rfl (hb hby at_55)
    rw [own_nbn] at W60
    have Aw60 := Arv.set Ar60 q60 S60 M60 H60 G60 (fits_nar_byte _) W60 0 rfl (Nat.le_of_ble_eq_true rfl)
    replace S_t := S_t.wr W60
    replace Tb := Tb.other W60 ne_at__b58
    replace Av_b1 := Av_b1.other W60 ne_b1_b58
    have Z60 : n0 ≤ h60.size := Nat.le_trans Z58 (Keep.of_wr W60).1
    have Av_b58 : Arv Z h60 b58 k58 .byte (4 : Int32) [(.int (p2.toInt8.toInt32)), (.int (0 : Int32)), (.int (0 : Int32)), (.int (0 : Int32))] (.int (0 : Int32)) := Aw60
    have N60 := Fr.snoc X60 N5 g_b58
    refine own_go (A := T60.setTop (mkF m 56 #[.val (.int p1), .val (.int p2), .val (.int p3), .val (.int p4), .val (.int p5), .val (.int (4 : Int32)), .val (.ref b1), .val (.ref b58), .val (.int (0 : Int32))] [])) (fun _ kz => st60 _ kz) ?_
    refine own_go (A := T60.setTop (mkF m 64 #[.val (.int p1), .val (.int p2), .val (.int p3), .val (.int p4), .val (.int p5), .val (.int (4 : Int32)), .val (.ref b1), .val (.ref b58), .val (.int (0 : Int32))] [(.int (0 : Int32)), (.ref b1)])) (fun _ kz => ?_) ?_
    · show Steps p.tables e below (T60.setTop (mkF m 56 #[.val (.int p1), .val (.int p2), .val (.int p3), .val (.int p4), .val (.int p5), .val (.int (4 : Int32)), .val (.ref b1), .val (.ref b58), .val (.int (0 : Int32))] [])) _
      refine XS.iload X60.here hx rfl (hb hby at_56) rfl ?_
      show Steps p.tables e below (T60.setTop (mkF m 58 #[.val (.int p1), .val (.int p2), .val (.int p3), .val (.int p4), .val (.int p5), .val (.int (4 : Int32)), .val (.ref b1), .val (.ref b58), .val (.int (0 : Int32))] [(.int (0 : Int32))])) _
      refine XS.ifNo X60.here hx rfl (hb hby at_58) rfl ((if0 _ _).trans (teq (by decide : ((0 : Int32) = (0 : Int32)))).2) ?_
      show Steps p.tables e below (T60.setTop (mkF m 61 #[.val (.int p1), .val (.int p2), .val (.int p3), .val (.int p4), .val (.int p5), .val (.int (4 : Int32)), .val (.ref b1), .val (.ref b58), .val (.int (0 : Int32))] [])) _
      refine XS.aload X60.here hx rfl (hb hby at_61) rfl rfl ?_
      show Steps p.tables e below (T60.setTop (mkF m 63 #[.val (.int p1), .val (.int p2), .val (.int p3), .val (.int p4), .val (.int p5), .val (.int (4 : Int32)), .val (.ref b1), .val (.ref b58), .val (.int (0 : Int32))] [(.ref b1)])) _
      refine XS.iconst X60.here hx rfl (hb hby at_63) ?_
      exact kz
    obtain ⟨cl61, Ar61, -, S61, M61, H61, -⟩ := id Av_b1
    have hin61 : ¬ ((0 : Int32) < 0 ∨ cl61.slots.size ≤ ((0 : Int32)).toNatClampNeg) := inb_of S61 ⟨by decide, by decide⟩
    have hat61 : cl61.slots[((0 : Int32)).toNatClampNeg]? = some (.int (p2.toInt8.toInt32)) := H61.at hin61 rfl
    refine own_go (A := T60.setTop (mkF m 65 #[.val (.int p1), .val (.int p2), .val (.int p3), .val (.int p4), .val (.int p5), .val (.int (4 : Int32)), .val (.ref b1), .val (.ref b58), .val (.int (0 : Int32))] [(.int (p2.toInt8.toInt32))])) (fun _ kz => ?_) ?_
    · refine X60.baloadBytes hx (j := (0 : Int32)) (v := (.int (p2.toInt8.toInt32))) (by rw [e60]; exact Ar61.1) (State.isArrayOf_alike hZ.alike Ar61.2.1) Ar61.2.2 hin61 hat61 (g := (mkF m 64 #[.val (.int p1), .val (.int p2), .val (.int p3), .val (.int p4), .val (.int p5), .val (.int (4 : Int32)), .val (.ref b1), .val (.ref b58), .val (.int (0 : Int32))] [(.int (0 : Int32)), (.ref b1)])) rfl rfl (hb hby at_64) _ ?_
      exact kz
    obtain ⟨_, _, ⟨T62, L62, k62, n62⟩, -, X62, ⟨Lc62, hQ62, l62, y62, z62⟩, st62⟩ := Jvm.LawKit.callS X60 hx (y := (⟨"com/example/sharp_nose/sharpnose/BinaryDataFoundInPinLaw", "bin", "(B)Z"⟩ : MethodName)) hown (mvT hZ (hw _ (List.mem_of_getElem? (i := 6) rfl))) (mvT hZ (hw _ (List.mem_of_getElem? (i := 7) rfl))) (mvT hZ (hw _ (List.mem_of_getElem? (i := 8) rfl))) (mvT hZ (hw _ (List.mem_of_getElem? (i := 9) rfl))) (by decide) (backOf (W := 0) (rmBin l Z a0 hw [] (p2.toInt8.toInt32) h60 n0 Z60) hZ (hw _ (List.mem_of_getElem? (i := 9) rfl)) (hw _ (List.mem_of_getElem? (i := 8) rfl)) (by decide) (by decide)) (g := (mkF m 65 #[.val (.int p1), .val (.int p2), .val (.int p3), .val (.int p4), .val (.int p5), .val (.int (4 : Int32)), .val (.ref b1), .val (.ref b58), .val (.int (0 : Int32))] [(.int (p2.toInt8.toInt32))])) rfl (by rw [hml]; rfl) (argsL := [(.int (p2.toInt8.toInt32))]) (rest := []) (lenOf own_pd1 rfl) rfl (by show 2 * 0 + _ ≤ _; exact Nat.le_of_eq rfl) (hb hby at_65) (fun _ _ => ⟨rfl, e60, (by decide : 2 + 0 ≤ _), (by decide : 8 + 0 ≤ _)⟩)
    dsimp only [Pt.U, Pt.locs, Pt.cells, Pt.slots] at X62 l62 y62 z62 st62 hQ62
    subst l62 y62 z62
    obtain ⟨rfl, N62q, e62⟩ := hQ62
    have N62 := Fr.app N60 N62q
    refine own_go (A := T62.setTop (mkF m 68 #[.val (.int p1), .val (.int p2), .val (.int p3), .val (.int p4), .val (.int p5), .val (.int (4 : Int32)), .val (.ref b1), .val (.ref b58), .val (.int (0 : Int32))] [(.int (own_tv ((p2.toInt8.toInt32) &&& (255 : Int32))))])) (fun _ kz => st62 _ kz) ?_
    by_cases hs63 : (own_tv ((p2.toInt8.toInt32) &&& (255 : Int32))) = (0 : Int32)
    · skip
      refine own_go (A := T62.setTop (mkF m 75 #[.val (.int p1), .val (.int p2), .val (.int p3), .val (.int p4), .val (.int p5), .val (.int (4 : Int32)), .val (.ref b1), .val (.ref b58), .val (.int (0 : Int32))] [])) (fun _ kz => ?_) ?_
      · show Steps p.tables e below (T62.setTop (mkF m 68 #[.val (.int p1), .val (.int p2), .val (.int p3), .val (.int p4), .val (.int p5), .val (.int (4 : Int32)), .val (.ref b1), .val (.ref b58), .val (.int (0 : Int32))] [(.int (own_tv ((p2.toInt8.toInt32) &&& (255 : Int32))))])) _
        refine XS.ifYes X62.here hx rfl (pc0 := 68) (pc' := 75) rfl (hb hby at_68) rfl ((if0 _ _).trans (teq hs63).1) (by decide) (by decide) ?_
        exact kz
      refine own_go (A := T62.setTop (mkF m 90 #[.val (.int p1), .val (.int p2), .val (.int p3), .val (.int p4), .val (.int p5), .val (.int (4 : Int32)), .val (.ref b1), .val (.ref b58), .val (.int (0 : Int32))] [(.int (1 : Int32)), (.ref b1), (.int (1 : Int32)), (.ref b58)])) (fun _ kz => ?_) ?_
      · show Steps p.tables e below (T62.setTop (mkF m 75 #[.val (.int p1), .val (.int p2), .val (.int p3), .val (.int p4), .val (.int p5), .val (.int (4 : Int32)), .val (.ref b1), .val (.ref b58), .val (.int (0 : Int32))] [])) _
        refine XS.iconst X62.here hx rfl (hb hby at_75) ?_
        show Steps p.tables e below (T62.setTop (mkF m 76 #[.val (.int p1), .val (.int p2), .val (.int p3), .val (.int p4), .val (.int p5), .val (.int (4 : Int32)), .val (.ref b1), .val (.ref b58), .val (.int (0 : Int32))] [(.int (0 : Int32))])) _
        refine XS.istore X62.here hx rfl (hb hby at_76) rfl (l' := #[.val (.int p1), .val (.int p2), .val (.int p3), .val (.int p4), .val (.int p5), .val (.int (4 : Int32)), .val (.ref b1), .val (.ref b58), .val (.int (0 : Int32))]) rfl ?_
        show Steps p.tables e below (T62.setTop (mkF m 78 #[.val (.int p1), .val (.int p2), .val (.int p3), .val (.int p4), .val (.int p5), .val (.int (4 : Int32)), .val (.ref b1), .val (.ref b58), .val (.int (0 : Int32))] [])) _
        refine XS.iload X62.here hx rfl (hb hby at_78) rfl ?_
        show Steps p.tables e below (T62.setTop (mkF m 80 #[.val (.int p1), .val (.int p2), .val (.int p3), .val (.int p4), .val (.int p5), .val (.int (4 : Int32)), .val (.ref b1), .val (.ref b58), .val (.int (0 : Int32))] [(.int (4 : Int32))])) _
        refine XS.iconst X62.here hx rfl (hb hby at_80) ?_
        show Steps p.tables e below (T62.setTop (mkF m 81 #[.val (.int p1), .val (.int p2), .val (.int p3), .val (.int p4), .val (.int p5), .val (.int (4 : Int32)), .val (.ref b1), .val (.ref b58), .val (.int (0 : Int32))] [(.int (1 : Int32)), (.int (4 : Int32))])) _
        refine XS.icmpNo X62.here hx rfl (hb hby at_81) rfl (tlt (by decide : ((1 : Int32) < (4 : Int32)))).2.2.2 ?_
        show Steps p.tables e below (T62.setTop (mkF m 84 #[.val (.int p1), .val (.int p2), .val (.int p3), .val (.int p4), .val (.int p5), .val (.int (4 : Int32)), .val (.ref b1), .val (.ref b58), .val (.int (0 : Int32))] [])) _
        refine XS.aload X62.here hx rfl (hb hby at_84) rfl rfl ?_
        show Steps p.tables e below (T62.setTop (mkF m 86 #[.val (.int p1), .val (.int p2), .val (.int p3), .val (.int p4), .val (.int p5), .val (.int (4 : Int32)), .val (.ref b1), .val (.ref b58), .val (.int (0 : Int32))] [(.ref b58)])) _
        refine XS.iconst X62.here hx rfl (hb hby at_86) ?_
        show Steps p.tables e below (T62.setTop (mkF m 87 #[.val (.int p1), .val (.int p2), .val (.int p3), .val (.int p4), .val (.int p5), .val (.int (4 : Int32)), .val (.ref b1), .val (.ref b58), .val (.int (0 : Int32))] [(.int (1 : Int32)), (.ref b58)])) _
        refine XS.aload X62.here hx rfl (hb hby at_87) rfl rfl ?_
        show Steps p.tables e below (T62.setTop (mkF m 89 #[.val (.int p1), .val (.int p2), .val (.int p3), .val (.int p4), .val (.int p5), .val (.int (4 : Int32)), .val (.ref b1), .val (.ref b58), .val (.int (0 : Int32))] [(.ref b1), (.int (1 : Int32)), (.ref b58)])) _
        refine XS.iconst X62.here hx rfl (hb hby at_89) ?_
        exact kz
      obtain ⟨cl64, Ar64, -, S64, M64, H64, -⟩ := id Av_b1
      have hin64 : ¬ ((1 : Int32) < 0 ∨ cl64.slots.size ≤ ((1 : Int32)).toNatClampNeg) := inb_of S64 ⟨by decide, by decide⟩
      have hat64 : cl64.slots[((1 : Int32)).toNatClampNeg]? = some (.int (p3.toInt8.toInt32)) := H64.at hin64 rfl
      refine own_go (A := T62.setTop (mkF m 91 #[.val (.int p1), .val (.int p2), .val (.int p3), .val (.int p4), .val (.int p5), .val (.int (4 : Int32)), .val (.ref b1), .val (.ref b58), .val (.int (0 : Int32))] [(.int (p3.toInt8.toInt32)), (.int (1 : Int32)), (.ref b58)])) (fun _ kz => ?_) ?_
      · refine X62.baloadBytes hx (j := (1 : Int32)) (v := (.int (p3.toInt8.toInt32))) (by rw [e62]; exact Ar64.1) (State.isArrayOf_alike hZ.alike Ar64.2.1) Ar64.2.2 hin64 hat64 (g := (mkF m 90 #[.val (.int p1), .val (.int p2), .val (.int p3), .val (.int p4), .val (.int p5), .val (.int (4 : Int32)), .val (.ref b1), .val (.ref b58), .val (.int (0 : Int32))] [(.int (1 : Int32)), (.ref b1), (.int (1 : Int32)), (.ref b58)])) rfl rfl (hb hby at_90) _ ?_
        exact kz
      obtain ⟨cl65, Ar65, q65, S65, M65, H65, G65⟩ := id Av_b58
      have hin65 : ¬ ((1 : Int32) < 0 ∨ cl65.slots.size ≤ ((1 : Int32)).toNatClampNeg) := inb_of S65 ⟨by decide, by decide⟩
      obtain ⟨T65, h65, X65, e65, W65, st65⟩ := stB X62 hx hZ e62 Ar65 (j := (1 : Int32)) hin65 (g := (mkF m 91 #[.val (.int p1), .val (.int p2), .val (.int p3), .val (.int p4), .val (.int p5), .val (.int (4 : Int32)), .val (.ref b1), .val (.ref b58), .val (.int (0 : Int32))] [(.int (p3.toInt8.toInt32)), (.int (1 : Int32)), (.ref b58)])) rfl rfl (hb hby at_91)
      rw [own_nbn] at W65
      have Aw65 := Arv.set Ar65 q65 S65 M65 H65 G65 (fits_nar_byte _) W65 1 rfl (Nat.le_of_ble_eq_true rfl)
      replace S_t := S_t.wr W65
      replace Tb := Tb.other W65 ne_at__b58
      replace Av_b1 := Av_b1.other W65 ne_b1_b58
      have Z65 : n0 ≤ h65.size := Nat.le_trans Z60 (Keep.of_wr W65).1
      have Av_b58 : Arv Z h65 b58 k58 .byte (4 : Int32) [(.int (p2.toInt8.toInt32)), (.int (p3.toInt8.toInt32)), (.int (0 : Int32)), (.int (0 : Int32))] (.int (0 : Int32)) := Aw65
      have N65 := Fr.snoc X65 N62 g_b58
      refine own_go (A := T65.setTop (mkF m 92 #[.val (.int p1), .val (.int p2), .val (.int p3), .val (.int p4), .val (.int p5), .val (.int (4 : Int32)), .val (.ref b1), .val (.ref b58), .val (.int (0 : Int32))] [])) (fun _ kz => st65 _ kz) ?_
      refine own_go (A := T65.setTop (mkF m 100 #[.val (.int p1), .val (.int p2), .val (.int p3), .val (.int p4), .val (.int p5), .val (.int (4 : Int32)), .val (.ref b1), .val (.ref b58), .val (.int (0 : Int32))] [(.int (1 : Int32)), (.ref b1)])) (fun _ kz => ?_) ?_
      · show Steps p.tables e below (T65.setTop (mkF m 92 #[.val (.int p1), .val (.int p2), .val (.int p3), .val (.int p4), .val (.int p5), .val (.int (4 : Int32)), .val (.ref b1), .val (.ref b58), .val (.int (0 : Int32))] [])) _
        refine XS.iload X65.here hx rfl (hb hby at_92) rfl ?_
        show Steps p.tables e below (T65.setTop (mkF m 94 #[.val (.int p1), .val (.int p2), .val (.int p3), .val (.int p4), .val (.int p5), .val (.int (4 : Int32)), .val (.ref b1), .val (.ref b58), .val (.int (0 : Int32))] [(.int (0 : Int32))])) _
        refine XS.ifNo X65.here hx rfl (hb hby at_94) rfl ((if0 _ _).trans (teq (by decide : ((0 : Int32) = (0 : Int32)))).2) ?_
        show Steps p.tables e below (T65.setTop (mkF m 97 #[.val (.int p1), .val (.int p2), .val (.int p3), .val (.int p4), .val (.int p5), .val (.int (4 : Int32)), .val (.ref b1), .val (.ref b58), .val (.int (0 : Int32))] [])) _
        refine XS.aload X65.here hx rfl (hb hby at_97) rfl rfl ?_
        show Steps p.tables e below (T65.setTop (mkF m 99 #[.val (.int p1), .val (.int p2), .val (.int p3), .val (.int p4), .val (.int p5), .val (.int (4 : Int32)), .val (.ref b1), .val (.ref b58), .val (.int (0 : Int32))] [(.ref b1)])) _
        refine XS.iconst X65.here hx rfl (hb hby at_99) ?_
        exact kz
      obtain ⟨cl66, Ar66, -, S66, M66, H66, -⟩ := id Av_b1
      have hin66 : ¬ ((1 : Int32) < 0 ∨ cl66.slots.size ≤ ((1 : Int32)).toNatClampNeg) := inb_of S66 ⟨by decide, by decide⟩
      have hat66 : cl66.slots[((1 : Int32)).toNatClampNeg]? = some (.int (p3.toInt8.toInt32)) := H66.at hin66 rfl
      refine own_go (A := T65.setTop (mkF m 101 #[.val (.int p1), .val (.int p2), .val (.int p3), .val (.int p4), .val (.int p5), .val (.int (4 : Int32)), .val (.ref b1), .val (.ref b58), .val (.int (0 : Int32))] [(.int (p3.toInt8.toInt32))])) (fun _ kz => ?_) ?_
      · refine X65.baloadBytes hx (j := (1 : Int32)) (v := (.int (p3.toInt8.toInt32))) (by rw [e65]; exact Ar66.1) (State.isArrayOf_alike hZ.alike Ar66.2.1) Ar66.2.2 hin66 hat66 (g := (mkF m 100 #[.val (.int p1), .val (.int p2), .val (.int p3), .val (.int p4), .val (.int p5), .val (.int (4 : Int32)), .val (.ref b1), .val (.ref b58), .val (.int (0 : Int32))] [(.int (1 : Int32)), (.ref b1)])) rfl rfl (hb hby at_100) _ ?_
        exact kz
      obtain ⟨_, _, ⟨T67, L67, k67, n67⟩, -, X67, ⟨Lc67, hQ67, l67, y67, z67⟩, st67⟩ := Jvm.LawKit.callS X65 hx (y := (⟨"com/example/sharp_nose/sharpnose/BinaryDataFoundInPinLaw", "bin", "(B)Z"⟩ : MethodName)) hown (mvT hZ (hw _ (List.mem_of_getElem? (i := 6) rfl))) (mvT hZ (hw _ (List.mem_of_getElem? (i := 7) rfl))) (mvT hZ (hw _ (List.mem_of_getElem? (i := 8) rfl))) (mvT hZ (hw _ (List.mem_of_getElem? (i := 9) rfl))) (by decide) (backOf (W := 0) (rmBin l Z a0 hw [] (p3.toInt8.toInt32) h65 n0 Z65) hZ (hw _ (List.mem_of_getElem? (i := 9) rfl)) (hw _ (List.mem_of_getElem? (i := 8) rfl)) (by decide) (by decide)) (g := (mkF m 101 #[.val (.int p1), .val (.int p2), .val (.int p3), .val (.int p4), .val (.int p5), .val (.int (4 : Int32)), .val (.ref b1), .val (.ref b58), .val (.int (0 : Int32))] [(.int (p3.toInt8.toInt32))])) rfl (by rw [hml]; rfl) (argsL := [(.int (p3.toInt8.toInt32))]) (rest := []) (lenOf own_pd1 rfl) rfl (by show 2 * 0 + _ ≤ _; exact Nat.le_of_eq rfl) (hb hby at_101) (fun _ _ => ⟨rfl, e65, (by decide : 2 + 0 ≤ _), (by decide : 8 + 0 ≤ _)⟩)
      dsimp only [Pt.U, Pt.locs, Pt.cells, Pt.slots] at X67 l67 y67 z67 st67 hQ67
      subst l67 y67 z67
      obtain ⟨rfl, N67q, e67⟩ := hQ67
      have N67 := Fr.app N65 N67q
      refine own_go (A := T67.setTop (mkF m 104 #[.val (.int p1), .val (.int p2), .val (.int p3), .val (.int p4), .val (.int p5), .val (.int (4 : Int32)), .val (.ref b1), .val (.ref b58), .val (.int (0 : Int32))] [(.int (own_tv ((p3.toInt8.toInt32) &&& (255 : Int32))))])) (fun _ kz => st67 _ kz) ?_
      by_cases hs68 : (own_tv ((p3.toInt8.toInt32) &&& (255 : Int32))) = (0 : Int32)
      · skip
        refine own_go (A := T67.setTop (mkF m 111 #[.val (.int p1), .val (.int p2), .val (.int p3), .val (.int p4), .val (.int p5), .val (.int (4 : Int32)), .val (.ref b1), .val (.ref b58), .val (.int (0 : Int32))] [])) (fun _ kz => ?_) ?_
        · show Steps p.tables e below (T67.setTop (mkF m 104 #[.val (.int p1), .val (.int p2), .val (.int p3), .val (.int p4), .val (.int p5), .val (.int (4 : Int32)), .val (.ref b1), .val (.ref b58), .val (.int (0 : Int32))] [(.int (own_tv ((p3.toInt8.toInt32) &&& (255 : Int32))))])) _
          refine XS.ifYes X67.here hx rfl (pc0 := 104) (pc' := 111) rfl (hb hby at_104) rfl ((if0 _ _).trans (teq hs68).1) (by decide) (by decide) ?_
          exact kz
        refine own_go (A := T67.setTop (mkF m 126 #[.val (.int p1), .val (.int p2), .val (.int p3), .val (.int p4), .val (.int p5), .val (.int (4 : Int32)), .val (.ref b1), .val (.ref b58), .val (.int (0 : Int32))] [(.int (2 : Int32)), (.ref b1), (.int (2 : Int32)), (.ref b58)])) (fun _ kz => ?_) ?_
        · show Steps p.tables e below (T67.setTop (mkF m 111 #[.val (.int p1), .val (.int p2), .val (.int p3), .val (.int p4), .val (.int p5), .val (.int (4 : Int32)), .val (.ref b1), .val (.ref b58), .val (.int (0 : Int32))] [])) _
          refine XS.iconst X67.here hx rfl (hb hby at_111) ?_
          show Steps p.tables e below (T67.setTop (mkF m 112 #[.val (.int p1), .val (.int p2), .val (.int p3), .val (.int p4), .val (.int p5), .val (.int (4 : Int32)), .val (.ref b1), .val (.ref b58), .val (.int (0 : Int32))] [(.int (0 : Int32))])) _
          refine XS.istore X67.here hx rfl (hb hby at_112) rfl (l' := #[.val (.int p1), .val (.int p2), .val (.int p3), .val (.int p4), .val (.int p5), .val (.int (4 : Int32)), .val (.ref b1), .val (.ref b58), .val (.int (0 : Int32))]) rfl ?_
          show Steps p.tables e below (T67.setTop (mkF m 114 #[.val (.int p1), .val (.int p2), .val (.int p3), .val (.int p4), .val (.int p5), .val (.int (4 : Int32)), .val (.ref b1), .val (.ref b58), .val (.int (0 : Int32))] [])) _
          refine XS.iload X67.here hx rfl (hb hby at_114) rfl ?_
          show Steps p.tables e below (T67.setTop (mkF m 116 #[.val (.int p1), .val (.int p2), .val (.int p3), .val (.int p4), .val (.int p5), .val (.int (4 : Int32)), .val (.ref b1), .val (.ref b58), .val (.int (0 : Int32))] [(.int (4 : Int32))])) _
          refine XS.iconst X67.here hx rfl (hb hby at_116) ?_
          show Steps p.tables e below (T67.setTop (mkF m 117 #[.val (.int p1), .val (.int p2), .val (.int p3), .val (.int p4), .val (.int p5), .val (.int (4 : Int32)), .val (.ref b1), .val (.ref b58), .val (.int (0 : Int32))] [(.int (2 : Int32)), (.int (4 : Int32))])) _
          refine XS.icmpNo X67.here hx rfl (hb hby at_117) rfl (tlt (by decide : ((2 : Int32) < (4 : Int32)))).2.2.2 ?_
          show Steps p.tables e below (T67.setTop (mkF m 120 #[.val (.int p1), .val (.int p2), .val (.int p3), .val (.int p4), .val (.int p5), .val (.int (4 : Int32)), .val (.ref b1), .val (.ref b58), .val (.int (0 : Int32))] [])) _
          refine XS.aload X67.here hx rfl (hb hby at_120) rfl rfl ?_
          show Steps p.tables e below (T67.setTop (mkF m 122 #[.val (.int p1), .val (.int p2), .val (.int p3), .val (.int p4), .val (.int p5), .val (.int (4 : Int32)), .val (.ref b1), .val (.ref b58), .val (.int (0 : Int32))] [(.ref b58)])) _
          refine XS.iconst X67.here hx rfl (hb hby at_122) ?_
          show Steps p.tables e below (T67.setTop (mkF m 123 #[.val (.int p1), .val (.int p2), .val (.int p3), .val (.int p4), .val (.int p5), .val (.int (4 : Int32)), .val (.ref b1), .val (.ref b58), .val (.int (0 : Int32))] [(.int (2 : Int32)), (.ref b58)])) _
          refine XS.aload X67.here hx rfl (hb hby at_123) rfl rfl ?_
          show Steps p.tables e below (T67.setTop (mkF m 125 #[.val (.int p1), .val (.int p2), .val (.int p3), .val (.int p4), .val (.int p5), .val (.int (4 : Int32)), .val (.ref b1), .val (.ref b58), .val (.int (0 : Int32))] [(.ref b1), (.int (2 : Int32)), (.ref b58)])) _
          refine XS.iconst X67.here hx rfl (hb hby at_125) ?_
          exact kz
        obtain ⟨cl69, Ar69, -, S69, M69, H69, -⟩ := id Av_b1
        have hin69 : ¬ ((2 : Int32) < 0 ∨ cl69.slots.size ≤ ((2 : Int32)).toNatClampNeg) := inb_of S69 ⟨by decide, by decide⟩
        have hat69 : cl69.slots[((2 : Int32)).toNatClampNeg]? = some (.int (p4.toInt8.toInt32)) := H69.at hin69 rfl
        refine own_go (A := T67.setTop (mkF m 127 #[.val (.int p1), .val (.int p2), .val (.int p3), .val (.int p4), .val (.int p5), .val (.int (4 : Int32)), .val (.ref b1), .val (.ref b58), .val (.int (0 : Int32))] [(.int (p4.toInt8.toInt32)), (.int (2 : Int32)), (.ref b58)])) (fun _ kz => ?_) ?_
        · refine X67.baloadBytes hx (j := (2 : Int32)) (v := (.int (p4.toInt8.toInt32))) (by rw [e67]; exact Ar69.1) (State.isArrayOf_alike hZ.alike Ar69.2.1) Ar69.2.2 hin69 hat69 (g := (mkF m 126 #[.val (.int p1), .val (.int p2), .val (.int p3), .val (.int p4), .val (.int p5), .val (.int (4 : Int32)), .val (.ref b1), .val (.ref b58), .val (.int (0 : Int32))] [(.int (2 : Int32)), (.ref b1), (.int (2 : Int32)), (.ref b58)])) rfl rfl (hb hby at_126) _ ?_
          exact kz
        obtain ⟨cl70, Ar70, q70, S70, M70, H70, G70⟩ := id Av_b58
        have hin70 : ¬ ((2 : Int32) < 0 ∨ cl70.slots.size ≤ ((2 : Int32)).toNatClampNeg) := inb_of S70 ⟨by decide, by decide⟩
        obtain ⟨T70, h70, X70, e70, W70, st70⟩ := stB X67 hx hZ e67 Ar70 (j := (2 : Int32)) hin70 (g := (mkF m 127 #[.val (.int p1), .val (.int p2), .val (.int p3), .val (.int p4), .val (.int p5), .val (.int (4 : Int32)), .val (.ref b1), .val (.ref b58), .val (.int (0 : Int32))] [(.int (p4.toInt8.toInt32)), (.int (2 : Int32)), (.ref b58)])) rfl rfl (hb hby at_127)
        rw [own_nbn] at W70
        have Aw70 := Arv.set Ar70 q70 S70 M70 H70 G70 (fits_nar_byte _) W70 2 rfl (Nat.le_of_ble_eq_true rfl)
        replace S_t := S_t.wr W70
        replace Tb := Tb.other W70 ne_at__b58
        replace Av_b1 := Av_b1.other W70 ne_b1_b58
        have Z70 : n0 ≤ h70.size := Nat.le_trans Z65 (Keep.of_wr W70).1
        have Av_b58 : Arv Z h70 b58 k58 .byte (4 : Int32) [(.int (p2.toInt8.toInt32)), (.int (p3.toInt8.toInt32)), (.int (p4.toInt8.toInt32)), (.int (0 : Int32))] (.int (0 : Int32)) := Aw70
        have N70 := Fr.snoc X70 N67 g_b58
        refine own_go (A := T70.setTop (mkF m 128 #[.val (.int p1), .val (.int p2), .val (.int p3), .val (.int p4), .val (.int p5), .val (.int (4 : Int32)), .val (.ref b1), .val (.ref b58), .val (.int (0 : Int32))] [])) (fun _ kz => st70 _ kz) ?_
        refine own_go (A := T70.setTop (mkF m 136 #[.val (.int p1), .val (.int p2), .val (.int p3), .val (.int p4), .val (.int p5), .val (.int (4 : Int32)), .val (.ref b1), .val (.ref b58), .val (.int (0 : Int32))] [(.int (2 : Int32)), (.ref b1)])) (fun _ kz => ?_) ?_
        · show Steps p.tables e below (T70.setTop (mkF m 128 #[.val (.int p1), .val (.int p2), .val (.int p3), .val (.int p4), .val (.int p5), .val (.int (4 : Int32)), .val (.ref b1), .val (.ref b58), .val (.int (0 : Int32))] [])) _
          refine XS.iload X70.here hx rfl (hb hby at_128) rfl ?_
          show Steps p.tables e below (T70.setTop (mkF m 130 #[.val (.int p1), .val (.int p2), .val (.int p3), .val (.int p4), .val (.int p5), .val (.int (4 : Int32)), .val (.ref b1), .val (.ref b58), .val (.int (0 : Int32))] [(.int (0 : Int32))])) _
          refine XS.ifNo X70.here hx rfl (hb hby at_130) rfl ((if0 _ _).trans (teq (by decide : ((0 : Int32) = (0 : Int32)))).2) ?_
          show Steps p.tables e below (T70.setTop (mkF m 133 #[.val (.int p1), .val (.int p2), .val (.int p3), .val (.int p4), .val (.int p5), .val (.int (4 : Int32)), .val (.ref b1), .val (.ref b58), .val (.int (0 : Int32))] [])) _
          refine XS.aload X70.here hx rfl (hb hby at_133) rfl rfl ?_
          show Steps p.tables e below (T70.setTop (mkF m 135 #[.val (.int p1), .val (.int p2), .val (.int p3), .val (.int p4), .val (.int p5), .val (.int (4 : Int32)), .val (.ref b1), .val (.ref b58), .val (.int (0 : Int32))] [(.ref b1)])) _
          refine XS.iconst X70.here hx rfl (hb hby at_135) ?_
          exact kz
        obtain ⟨cl71, Ar71, -, S71, M71, H71, -⟩ := id Av_b1
        have hin71 : ¬ ((2 : Int32) < 0 ∨ cl71.slots.size ≤ ((2 : Int32)).toNatClampNeg) := inb_of S71 ⟨by decide, by decide⟩
        have hat71 : cl71.slots[((2 : Int32)).toNatClampNeg]? = some (.int (p4.toInt8.toInt32)) := H71.at hin71 rfl
        refine own_go (A := T70.setTop (mkF m 137 #[.val (.int p1), .val (.int p2), .val (.int p3), .val (.int p4), .val (.int p5), .val (.int (4 : Int32)), .val (.ref b1), .val (.ref b58), .val (.int (0 : Int32))] [(.int (p4.toInt8.toInt32))])) (fun _ kz => ?_) ?_
        · refine X70.baloadBytes hx (j := (2 : Int32)) (v := (.int (p4.toInt8.toInt32))) (by rw [e70]; exact Ar71.1) (State.isArrayOf_alike hZ.alike Ar71.2.1) Ar71.2.2 hin71 hat71 (g := (mkF m 136 #[.val (.int p1), .val (.int p2), .val (.int p3), .val (.int p4), .val (.int p5), .val (.int (4 : Int32)), .val (.ref b1), .val (.ref b58), .val (.int (0 : Int32))] [(.int (2 : Int32)), (.ref b1)])) rfl rfl (hb hby at_136) _ ?_
          exact kz
        obtain ⟨_, _, ⟨T72, L72, k72, n72⟩, -, X72, ⟨Lc72, hQ72, l72, y72, z72⟩, st72⟩ := Jvm.LawKit.callS X70 hx (y := (⟨"com/example/sharp_nose/sharpnose/BinaryDataFoundInPinLaw", "bin", "(B)Z"⟩ : MethodName)) hown (mvT hZ (hw _ (List.mem_of_getElem? (i := 6) rfl))) (mvT hZ (hw _ (List.mem_of_getElem? (i := 7) rfl))) (mvT hZ (hw _ (List.mem_of_getElem? (i := 8) rfl))) (mvT hZ (hw _ (List.mem_of_getElem? (i := 9) rfl))) (by decide) (backOf (W := 0) (rmBin l Z a0 hw [] (p4.toInt8.toInt32) h70 n0 Z70) hZ (hw _ (List.mem_of_getElem? (i := 9) rfl)) (hw _ (List.mem_of_getElem? (i := 8) rfl)) (by decide) (by decide)) (g := (mkF m 137 #[.val (.int p1), .val (.int p2), .val (.int p3), .val (.int p4), .val (.int p5), .val (.int (4 : Int32)), .val (.ref b1), .val (.ref b58), .val (.int (0 : Int32))] [(.int (p4.toInt8.toInt32))])) rfl (by rw [hml]; rfl) (argsL := [(.int (p4.toInt8.toInt32))]) (rest := []) (lenOf own_pd1 rfl) rfl (by show 2 * 0 + _ ≤ _; exact Nat.le_of_eq rfl) (hb hby at_137) (fun _ _ => ⟨rfl, e70, (by decide : 2 + 0 ≤ _), (by decide : 8 + 0 ≤ _)⟩)
        dsimp only [Pt.U, Pt.locs, Pt.cells, Pt.slots] at X72 l72 y72 z72 st72 hQ72
        subst l72 y72 z72
        obtain ⟨rfl, N72q, e72⟩ := hQ72
        have N72 := Fr.app N70 N72q
        refine own_go (A := T72.setTop (mkF m 140 #[.val (.int p1), .val (.int p2), .val (.int p3), .val (.int p4), .val (.int p5), .val (.int (4 : Int32)), .val (.ref b1), .val (.ref b58), .val (.int (0 : Int32))] [(.int (own_tv ((p4.toInt8.toInt32) &&& (255 : Int32))))])) (fun _ kz => st72 _ kz) ?_
        by_cases hs73 : (own_tv ((p4.toInt8.toInt32) &&& (255 : Int32))) = (0 : Int32)
        · skip
          refine own_go (A := T72.setTop (mkF m 147 #[.val (.int p1), .val (.int p2), .val (.int p3), .val (.int p4), .val (.int p5), .val (.int (4 : Int32)), .val (.ref b1), .val (.ref b58), .val (.int (0 : Int32))] [])) (fun _ kz => ?_) ?_
          · show Steps p.tables e below (T72.setTop (mkF m 140 #[.val (.int p1), .val (.int p2), .val (.int p3), .val (.int p4), .val (.int p5), .val (.int (4 : Int32)), .val (.ref b1), .val (.ref b58), .val (.int (0 : Int32))] [(.int (own_tv ((p4.toInt8.toInt32) &&& (255 : Int32))))])) _
            refine XS.ifYes X72.here hx rfl (pc0 := 140) (pc' := 147) rfl (hb hby at_140) rfl ((if0 _ _).trans (teq hs73).1) (by decide) (by decide) ?_
            exact kz
          refine own_go (A := T72.setTop (mkF m 162 #[.val (.int p1), .val (.int p2), .val (.int p3), .val (.int p4), .val (.int p5), .val (.int (4 : Int32)), .val (.ref b1), .val (.ref b58), .val (.int (0 : Int32))] [(.int (3 : Int32)), (.ref b1), (.int (3 : Int32)), (.ref b58)])) (fun _ kz => ?_) ?_
          · show Steps p.tables e below (T72.setTop (mkF m 147 #[.val (.int p1), .val (.int p2), .val (.int p3), .val (.int p4), .val (.int p5), .val (.int (4 : Int32)), .val (.ref b1), .val (.ref b58), .val (.int (0 : Int32))] [])) _
            refine XS.iconst X72.here hx rfl (hb hby at_147) ?_
            show Steps p.tables e below (T72.setTop (mkF m 148 #[.val (.int p1), .val (.int p2), .val (.int p3), .val (.int p4), .val (.int p5), .val (.int (4 : Int32)), .val (.ref b1), .val (.ref b58), .val (.int (0 : Int32))] [(.int (0 : Int32))])) _
            refine XS.istore X72.here hx rfl (hb hby at_148) rfl (l' := #[.val (.int p1), .val (.int p2), .val (.int p3), .val (.int p4), .val (.int p5), .val (.int (4 : Int32)), .val (.ref b1), .val (.ref b58), .val (.int (0 : Int32))]) rfl ?_
            show Steps p.tables e below (T72.setTop (mkF m 150 #[.val (.int p1), .val (.int p2), .val (.int p3), .val (.int p4), .val (.int p5), .val (.int (4 : Int32)), .val (.ref b1), .val (.ref b58), .val (.int (0 : Int32))] [])) _
            refine XS.iload X72.here hx rfl (hb hby at_150) rfl ?_
            show Steps p.tables e below (T72.setTop (mkF m 152 #[.val (.int p1), .val (.int p2), .val (.int p3), .val (.int p4), .val (.int p5), .val (.int (4 : Int32)), .val (.ref b1), .val (.ref b58), .val (.int (0 : Int32))] [(.int (4 : Int32))])) _
            refine XS.iconst X72.here hx rfl (hb hby at_152) ?_
            show Steps p.tables e below (T72.setTop (mkF m 153 #[.val (.int p1), .val (.int p2), .val (.int p3), .val (.int p4), .val (.int p5), .val (.int (4 : Int32)), .val (.ref b1), .val (.ref b58), .val (.int (0 : Int32))] [(.int (3 : Int32)), (.int (4 : Int32))])) _
            refine XS.icmpNo X72.here hx rfl (hb hby at_153) rfl (tlt (by decide : ((3 : Int32) < (4 : Int32)))).2.2.2 ?_
            show Steps p.tables e below (T72.setTop (mkF m 156 #[.val (.int p1), .val (.int p2), .val (.int p3), .val (.int p4), .val (.int p5), .val (.int (4 : Int32)), .val (.ref b1), .val (.ref b58), .val (.int (0 : Int32))] [])) _
            refine XS.aload X72.here hx rfl (hb hby at_156) rfl rfl ?_
            show Steps p.tables e below (T72.setTop (mkF m 158 #[.val (.int p1), .val (.int p2), .val (.int p3), .val (.int p4), .val (.int p5), .val (.int (4 : Int32)), .val (.ref b1), .val (.ref b58), .val (.int (0 : Int32))] [(.ref b58)])) _
            refine XS.iconst X72.here hx rfl (hb hby at_158) ?_
            show Steps p.tables e below (T72.setTop (mkF m 159 #[.val (.int p1), .val (.int p2), .val (.int p3), .val (.int p4), .val (.int p5), .val (.int (4 : Int32)), .val (.ref b1), .val (.ref b58), .val (.int (0 : Int32))] [(.int (3 : Int32)), (.ref b58)])) _
            refine XS.aload X72.here hx rfl (hb hby at_159) rfl rfl ?_
            show Steps p.tables e below (T72.setTop (mkF m 161 #[.val (.int p1), .val (.int p2), .val (.int p3), .val (.int p4), .val (.int p5), .val (.int (4 : Int32)), .val (.ref b1), .val (.ref b58), .val (.int (0 : Int32))] [(.ref b1), (.int (3 : Int32)), (.ref b58)])) _
            refine XS.iconst X72.here hx rfl (hb hby at_161) ?_
            exact kz
          obtain ⟨cl74, Ar74, -, S74, M74, H74, -⟩ := id Av_b1
          have hin74 : ¬ ((3 : Int32) < 0 ∨ cl74.slots.size ≤ ((3 : Int32)).toNatClampNeg) := inb_of S74 ⟨by decide, by decide⟩
          have hat74 : cl74.slots[((3 : Int32)).toNatClampNeg]? = some (.int (p5.toInt8.toInt32)) := H74.at hin74 rfl
          refine own_go (A := T72.setTop (mkF m 163 #[.val (.int p1), .val (.int p2), .val (.int p3), .val (.int p4), .val (.int p5), .val (.int (4 : Int32)), .val (.ref b1), .val (.ref b58), .val (.int (0 : Int32))] [(.int (p5.toInt8.toInt32)), (.int (3 : Int32)), (.ref b58)])) (fun _ kz => ?_) ?_
          · refine X72.baloadBytes hx (j := (3 : Int32)) (v := (.int (p5.toInt8.toInt32))) (by rw [e72]; exact Ar74.1) (State.isArrayOf_alike hZ.alike Ar74.2.1) Ar74.2.2 hin74 hat74 (g := (mkF m 162 #[.val (.int p1), .val (.int p2), .val (.int p3), .val (.int p4), .val (.int p5), .val (.int (4 : Int32)), .val (.ref b1), .val (.ref b58), .val (.int (0 : Int32))] [(.int (3 : Int32)), (.ref b1), (.int (3 : Int32)), (.ref b58)])) rfl rfl (hb hby at_162) _ ?_
            exact kz
          obtain ⟨cl75, Ar75, q75, S75, M75, H75, G75⟩ := id Av_b58
          have hin75 : ¬ ((3 : Int32) < 0 ∨ cl75.slots.size ≤ ((3 : Int32)).toNatClampNeg) := inb_of S75 ⟨by decide, by decide⟩
          obtain ⟨T75, h75, X75, e75, W75, st75⟩ := stB X72 hx hZ e72 Ar75 (j := (3 : Int32)) hin75 (g := (mkF m 163 #[.val (.int p1), .val (.int p2), .val (.int p3), .val (.int p4), .val (.int p5), .val (.int (4 : Int32)), .val (.ref b1), .val (.ref b58), .val (.int (0 : Int32))] [(.int (p5.toInt8.toInt32)), (.int (3 : Int32)), (.ref b58)])) rfl rfl (hb hby at_163)
          rw [own_nbn] at W75
          have Aw75 := Arv.set Ar75 q75 S75 M75 H75 G75 (fits_nar_byte _) W75 3 rfl (Nat.le_of_ble_eq_true rfl)
          replace S_t := S_t.wr W75
          replace Tb := Tb.other W75 ne_at__b58
          replace Av_b1 := Av_b1.other W75 ne_b1_b58
          have Z75 : n0 ≤ h75.size := Nat.le_trans Z70 (Keep.of_wr W75).1
          have Av_b58 : Arv Z h75 b58 k58 .byte (4 : Int32) [(.int (p2.toInt8.toInt32)), (.int (p3.toInt8.toInt32)), (.int (p4.toInt8.toInt32)), (.int (p5.toInt8.toInt32))] (.int (0 : Int32)) := Aw75
          have N75 := Fr.snoc X75 N72 g_b58
          refine own_go (A := T75.setTop (mkF m 164 #[.val (.int p1), .val (.int p2), .val (.int p3), .val (.int p4), .val (.int p5), .val (.int (4 : Int32)), .val (.ref b1), .val (.ref b58), .val (.int (0 : Int32))] [])) (fun _ kz => st75 _ kz) ?_
          refine own_go (A := T75.setTop (mkF m 172 #[.val (.int p1), .val (.int p2), .val (.int p3), .val (.int p4), .val (.int p5), .val (.int (4 : Int32)), .val (.ref b1), .val (.ref b58), .val (.int (0 : Int32))] [(.int (3 : Int32)), (.ref b1)])) (fun _ kz => ?_) ?_
          · show Steps p.tables e below (T75.setTop (mkF m 164 #[.val (.int p1), .val (.int p2), .val (.int p3), .val (.int p4), .val (.int p5), .val (.int (4 : Int32)), .val (.ref b1), .val (.ref b58), .val (.int (0 : Int32))] [])) _
            refine XS.iload X75.here hx rfl (hb hby at_164) rfl ?_
            show Steps p.tables e below (T75.setTop (mkF m 166 #[.val (.int p1), .val (.int p2), .val (.int p3), .val (.int p4), .val (.int p5), .val (.int (4 : Int32)), .val (.ref b1), .val (.ref b58), .val (.int (0 : Int32))] [(.int (0 : Int32))])) _
            refine XS.ifNo X75.here hx rfl (hb hby at_166) rfl ((if0 _ _).trans (teq (by decide : ((0 : Int32) = (0 : Int32)))).2) ?_
            show Steps p.tables e below (T75.setTop (mkF m 169 #[.val (.int p1), .val (.int p2), .val (.int p3), .val (.int p4), .val (.int p5), .val (.int (4 : Int32)), .val (.ref b1), .val (.ref b58), .val (.int (0 : Int32))] [])) _
            refine XS.aload X75.here hx rfl (hb hby at_169) rfl rfl ?_
            show Steps p.tables e below (T75.setTop (mkF m 171 #[.val (.int p1), .val (.int p2), .val (.int p3), .val (.int p4), .val (.int p5), .val (.int (4 : Int32)), .val (.ref b1), .val (.ref b58), .val (.int (0 : Int32))] [(.ref b1)])) _
            refine XS.iconst X75.here hx rfl (hb hby at_171) ?_
            exact kz
          obtain ⟨cl76, Ar76, -, S76, M76, H76, -⟩ := id Av_b1
          have hin76 : ¬ ((3 : Int32) < 0 ∨ cl76.slots.size ≤ ((3 : Int32)).toNatClampNeg) := inb_of S76 ⟨by decide, by decide⟩
          have hat76 : cl76.slots[((3 : Int32)).toNatClampNeg]? = some (.int (p5.toInt8.toInt32)) := H76.at hin76 rfl
          refine own_go (A := T75.setTop (mkF m 173 #[.val (.int p1), .val (.int p2), .val (.int p3), .val (.int p4), .val (.int p5), .val (.int (4 : Int32)), .val (.ref b1), .val (.ref b58), .val (.int (0 : Int32))] [(.int (p5.toInt8.toInt32))])) (fun _ kz => ?_) ?_
          · refine X75.baloadBytes hx (j := (3 : Int32)) (v := (.int (p5.toInt8.toInt32))) (by rw [e75]; exact Ar76.1) (State.isArrayOf_alike hZ.alike Ar76.2.1) Ar76.2.2 hin76 hat76 (g := (mkF m 172 #[.val (.int p1), .val (.int p2), .val (.int p3), .val (.int p4), .val (.int p5), .val (.int (4 : Int32)), .val (.ref b1), .val (.ref b58), .val (.int (0 : Int32))] [(.int (3 : Int32)), (.ref b1)])) rfl rfl (hb hby at_172) _ ?_
            exact kz
          obtain ⟨_, _, ⟨T77, L77, k77, n77⟩, -, X77, ⟨Lc77, hQ77, l77, y77, z77⟩, st77⟩ := Jvm.LawKit.callS X75 hx (y := (⟨"com/example/sharp_nose/sharpnose/BinaryDataFoundInPinLaw", "bin", "(B)Z"⟩ : MethodName)) hown (mvT hZ (hw _ (List.mem_of_getElem? (i := 6) rfl))) (mvT hZ (hw _ (List.mem_of_getElem? (i := 7) rfl))) (mvT hZ (hw _ (List.mem_of_getElem? (i := 8) rfl))) (mvT hZ (hw _ (List.mem_of_getElem? (i := 9) rfl))) (by decide) (backOf (W := 0) (rmBin l Z a0 hw [] (p5.toInt8.toInt32) h75 n0 Z75) hZ (hw _ (List.mem_of_getElem? (i := 9) rfl)) (hw _ (List.mem_of_getElem? (i := 8) rfl)) (by decide) (by decide)) (g := (mkF m 173 #[.val (.int p1), .val (.int p2), .val (.int p3), .val (.int p4), .val (.int p5), .val (.int (4 : Int32)), .val (.ref b1), .val (.ref b58), .val (.int (0 : Int32))] [(.int (p5.toInt8.toInt32))])) rfl (by rw [hml]; rfl) (argsL := [(.int (p5.toInt8.toInt32))]) (rest := []) (lenOf own_pd1 rfl) rfl (by show 2 * 0 + _ ≤ _; exact Nat.le_of_eq rfl) (hb hby at_173) (fun _ _ => ⟨rfl, e75, (by decide : 2 + 0 ≤ _), (by decide : 8 + 0 ≤ _)⟩)
          dsimp only [Pt.U, Pt.locs, Pt.cells, Pt.slots] at X77 l77 y77 z77 st77 hQ77
          subst l77 y77 z77
          obtain ⟨rfl, N77q, e77⟩ := hQ77
          have N77 := Fr.app N75 N77q
          refine own_go (A := T77.setTop (mkF m 176 #[.val (.int p1), .val (.int p2), .val (.int p3), .val (.int p4), .val (.int p5), .val (.int (4 : Int32)), .val (.ref b1), .val (.ref b58), .val (.int (0 : Int32))] [(.int (own_tv ((p5.toInt8.toInt32) &&& (255 : Int32))))])) (fun _ kz => st77 _ kz) ?_
          by_cases hs78 : (own_tv ((p5.toInt8.toInt32) &&& (255 : Int32))) = (0 : Int32)
          · skip
            refine own_go (A := T77.setTop (mkF m 183 #[.val (.int p1), .val (.int p2), .val (.int p3), .val (.int p4), .val (.int p5), .val (.int (4 : Int32)), .val (.ref b1), .val (.ref b58), .val (.int (0 : Int32))] [])) (fun _ kz => ?_) ?_
            · show Steps p.tables e below (T77.setTop (mkF m 176 #[.val (.int p1), .val (.int p2), .val (.int p3), .val (.int p4), .val (.int p5), .val (.int (4 : Int32)), .val (.ref b1), .val (.ref b58), .val (.int (0 : Int32))] [(.int (own_tv ((p5.toInt8.toInt32) &&& (255 : Int32))))])) _
              refine XS.ifYes X77.here hx rfl (pc0 := 176) (pc' := 183) rfl (hb hby at_176) rfl ((if0 _ _).trans (teq hs78).1) (by decide) (by decide) ?_
              exact kz
            refine own_go (A := T77.setTop (mkF m 188 #[.val (.int p1), .val (.int p2), .val (.int p3), .val (.int p4), .val (.int p5), .val (.int (4 : Int32)), .val (.ref b1), .val (.ref b58), .val (.int (0 : Int32))] [(.ref b58)])) (fun _ kz => ?_) ?_
            · show Steps p.tables e below (T77.setTop (mkF m 183 #[.val (.int p1), .val (.int p2), .val (.int p3), .val (.int p4), .val (.int p5), .val (.int (4 : Int32)), .val (.ref b1), .val (.ref b58), .val (.int (0 : Int32))] [])) _
              refine XS.iconst X77.here hx rfl (hb hby at_183) ?_
              show Steps p.tables e below (T77.setTop (mkF m 184 #[.val (.int p1), .val (.int p2), .val (.int p3), .val (.int p4), .val (.int p5), .val (.int (4 : Int32)), .val (.ref b1), .val (.ref b58), .val (.int (0 : Int32))] [(.int (0 : Int32))])) _
              refine XS.istore X77.here hx rfl (hb hby at_184) rfl (l' := #[.val (.int p1), .val (.int p2), .val (.int p3), .val (.int p4), .val (.int p5), .val (.int (4 : Int32)), .val (.ref b1), .val (.ref b58), .val (.int (0 : Int32))]) rfl ?_
              show Steps p.tables e below (T77.setTop (mkF m 186 #[.val (.int p1), .val (.int p2), .val (.int p3), .val (.int p4), .val (.int p5), .val (.int (4 : Int32)), .val (.ref b1), .val (.ref b58), .val (.int (0 : Int32))] [])) _
              refine XS.aload X77.here hx rfl (hb hby at_186) rfl rfl ?_
              exact kz
            obtain ⟨_, _, ⟨T79, L79, k79, n79⟩, -, X79, ⟨Lc79, hQ79, l79, y79, z79⟩, st79⟩ := Jvm.LawKit.callS X77 hx (y := (⟨"com/example/sharp_nose/sharpnose/BinaryData", "foundIn", "([B)Z"⟩ : MethodName)) hown (mvT hZ (hw _ (List.mem_of_getElem? (i := 2) rfl))) (mvT hZ (hw _ (List.mem_of_getElem? (i := 3) rfl))) (mvT hZ (hw _ (List.mem_of_getElem? (i := 4) rfl))) (mvT hZ (hw _ (List.mem_of_getElem? (i := 5) rfl))) (by decide) (backOf (W := 0) (rmF4 l Z a0 hw [] b58 at_ k58 (p2.toInt8.toInt32) (p3.toInt8.toInt32) (p4.toInt8.toInt32) (p5.toInt8.toInt32) (0 : Int32) h75 n0 Z75 Av_b58 S_t Tb (by simp [hs63, hs68, hs73, hs78])) hZ (hw _ (List.mem_of_getElem? (i := 5) rfl)) (hw _ (List.mem_of_getElem? (i := 4) rfl)) (by decide) (by decide)) (g := (mkF m 188 #[.val (.int p1), .val (.int p2), .val (.int p3), .val (.int p4), .val (.int p5), .val (.int (4 : Int32)), .val (.ref b1), .val (.ref b58), .val (.int (0 : Int32))] [(.ref b58)])) rfl (by rw [hml]; rfl) (argsL := [(.ref b58)]) (rest := []) (lenOf own_pd0 rfl) rfl (by show 2 * 0 + _ ≤ _; exact Nat.le_of_eq rfl) (hb hby at_188) (fun _ _ => ⟨rfl, e77, (by decide : 2 + 0 ≤ _), (by decide : 8 + 0 ≤ _)⟩)
            dsimp only [Pt.U, Pt.locs, Pt.cells, Pt.slots] at X79 l79 y79 z79 st79 hQ79
            subst l79 y79 z79
            obtain ⟨rfl, N79q, e79⟩ := hQ79
            have N79 := Fr.app N77 N79q
            refine own_go (A := T79.setTop (mkF m 191 #[.val (.int p1), .val (.int p2), .val (.int p3), .val (.int p4), .val (.int p5), .val (.int (4 : Int32)), .val (.ref b1), .val (.ref b58), .val (.int (0 : Int32))] [(.int (0 : Int32))])) (fun _ kz => st79 _ kz) ?_
            refine own_go (A := T79.setTop (mkF m 201 #[.val (.int p1), .val (.int p2), .val (.int p3), .val (.int p4), .val (.int p5), .val (.int (4 : Int32)), .val (.ref b1), .val (.ref b58), .val (.int (0 : Int32))] [(.int (1 : Int32))])) (fun _ kz => ?_) ?_
            · show Steps p.tables e below (T79.setTop (mkF m 191 #[.val (.int p1), .val (.int p2), .val (.int p3), .val (.int p4), .val (.int p5), .val (.int (4 : Int32)), .val (.ref b1), .val (.ref b58), .val (.int (0 : Int32))] [(.int (0 : Int32))])) _
              refine XS.iload X79.here hx rfl (hb hby at_191) rfl ?_
              show Steps p.tables e below (T79.setTop (mkF m 193 #[.val (.int p1), .val (.int p2), .val (.int p3), .val (.int p4), .val (.int p5), .val (.int (4 : Int32)), .val (.ref b1), .val (.ref b58), .val (.int (0 : Int32))] [(.int (0 : Int32)), (.int (0 : Int32))])) _
              refine XS.icmpNo X79.here hx rfl (hb hby at_193) rfl (teq (by decide : ((0 : Int32) = (0 : Int32)))).2 ?_
              show Steps p.tables e below (T79.setTop (mkF m 196 #[.val (.int p1), .val (.int p2), .val (.int p3), .val (.int p4), .val (.int p5), .val (.int (4 : Int32)), .val (.ref b1), .val (.ref b58), .val (.int (0 : Int32))] [])) _
              refine XS.iconst X79.here hx rfl (hb hby at_196) ?_
              show Steps p.tables e below (T79.setTop (mkF m 197 #[.val (.int p1), .val (.int p2), .val (.int p3), .val (.int p4), .val (.int p5), .val (.int (4 : Int32)), .val (.ref b1), .val (.ref b58), .val (.int (0 : Int32))] [(.int (1 : Int32))])) _
              refine XS.goto X79.here hx rfl (pc0 := 197) (pc' := 201) rfl (hb hby at_197) (by decide) (by decide) ?_
              exact kz
            obtain ⟨fs, hrr, hrun, hended, hW, hsame⟩ := X79.leave (v := some (.int (1 : Int32))) (fun h => by rw [Bd.returns] at h; cases h)
            refine ⟨_, _, ?_, hrun, hended, _, _, rfl, ?_, ⟨_, rfl⟩, hW, hsame.mono (by decide) (by decide)⟩
            · show Steps p.tables e below (T79.setTop (mkF m 201 #[.val (.int p1), .val (.int p2), .val (.int p3), .val (.int p4), .val (.int p5), .val (.int (4 : Int32)), .val (.ref b1), .val (.ref b58), .val (.int (0 : Int32))] [(.int (1 : Int32))])) _
              exact retN X79 hx (t := .boolean) Bd.returns (by simp) (hb hby at_201) hrr
            · show Qrm0 Z p1 p2 p3 p4 p5 at_ h0 n0 _ T79.heap _
              rw [e79]
              exact ⟨rfl, N79⟩
          · skip
            refine own_go (A := T77.setTop (mkF m 179 #[.val (.int p1), .val (.int p2), .val (.int p3), .val (.int p4), .val (.int p5), .val (.int (4 : Int32)), .val (.ref b1), .val (.ref b58), .val (.int (0 : Int32))] [])) (fun _ kz => ?_) ?_
            · show Steps p.tables e below (T77.setTop (mkF m 176 #[.val (.int p1), .val (.int p2), .val (.int p3), .val (.int p4), .val (.int p5), .val (.int (4 : Int32)), .val (.ref b1), .val (.ref b58), .val (.int (0 : Int32))] [(.int (own_tv ((p5.toInt8.toInt32) &&& (255 : Int32))))])) _
              refine XS.ifNo X77.here hx rfl (hb hby at_176) rfl ((if0 _ _).trans (feq hs78).1) ?_
              exact kz
            refine own_go (A := T77.setTop (mkF m 188 #[.val (.int p1), .val (.int p2), .val (.int p3), .val (.int p4), .val (.int p5), .val (.int (4 : Int32)), .val (.ref b1), .val (.ref b58), .val (.int (1 : Int32))] [(.ref b58)])) (fun _ kz => ?_) ?_
            · show Steps p.tables e below (T77.setTop (mkF m 179 #[.val (.int p1), .val (.int p2), .val (.int p3), .val (.int p4), .val (.int p5), .val (.int (4 : Int32)), .val (.ref b1), .val (.ref b58), .val (.int (0 : Int32))] [])) _
              refine XS.iconst X77.here hx rfl (hb hby at_179) ?_
              show Steps p.tables e below (T77.setTop (mkF m 180 #[.val (.int p1), .val (.int p2), .val (.int p3), .val (.int p4), .val (.int p5), .val (.int (4 : Int32)), .val (.ref b1), .val (.ref b58), .val (.int (0 : Int32))] [(.int (1 : Int32))])) _
              refine XS.goto X77.here hx rfl (pc0 := 180) (pc' := 184) rfl (hb hby at_180) (by decide) (by decide) ?_
              show Steps p.tables e below (T77.setTop (mkF m 184 #[.val (.int p1), .val (.int p2), .val (.int p3), .val (.int p4), .val (.int p5), .val (.int (4 : Int32)), .val (.ref b1), .val (.ref b58), .val (.int (0 : Int32))] [(.int (1 : Int32))])) _
              refine XS.istore X77.here hx rfl (hb hby at_184) rfl (l' := #[.val (.int p1), .val (.int p2), .val (.int p3), .val (.int p4), .val (.int p5), .val (.int (4 : Int32)), .val (.ref b1), .val (.ref b58), .val (.int (1 : Int32))]) rfl ?_
              show Steps p.tables e below (T77.setTop (mkF m 186 #[.val (.int p1), .val (.int p2), .val (.int p3), .val (.int p4), .val (.int p5), .val (.int (4 : Int32)), .val (.ref b1), .val (.ref b58), .val (.int (1 : Int32))] [])) _
              refine XS.aload X77.here hx rfl (hb hby at_186) rfl rfl ?_
              exact kz
            obtain ⟨_, _, ⟨T80, L80, k80, n80⟩, -, X80, ⟨Lc80, hQ80, l80, y80, z80⟩, st80⟩ := Jvm.LawKit.callS X77 hx (y := (⟨"com/example/sharp_nose/sharpnose/BinaryData", "foundIn", "([B)Z"⟩ : MethodName)) hown (mvT hZ (hw _ (List.mem_of_getElem? (i := 2) rfl))) (mvT hZ (hw _ (List.mem_of_getElem? (i := 3) rfl))) (mvT hZ (hw _ (List.mem_of_getElem? (i := 4) rfl))) (mvT hZ (hw _ (List.mem_of_getElem? (i := 5) rfl))) (by decide) (backOf (W := 0) (rmF4 l Z a0 hw [] b58 at_ k58 (p2.toInt8.toInt32) (p3.toInt8.toInt32) (p4.toInt8.toInt32) (p5.toInt8.toInt32) (1 : Int32) h75 n0 Z75 Av_b58 S_t Tb (by simp [hs63, hs68, hs73, hs78])) hZ (hw _ (List.mem_of_getElem? (i := 5) rfl)) (hw _ (List.mem_of_getElem? (i := 4) rfl)) (by decide) (by decide)) (g := (mkF m 188 #[.val (.int p1), .val (.int p2), .val (.int p3), .val (.int p4), .val (.int p5), .val (.int (4 : Int32)), .val (.ref b1), .val (.ref b58), .val (.int (1 : Int32))] [(.ref b58)])) rfl (by rw [hml]; rfl) (argsL := [(.ref b58)]) (rest := []) (lenOf own_pd0 rfl) rfl (by show 2 * 0 + _ ≤ _; exact Nat.le_of_eq rfl) (hb hby at_188) (fun _ _ => ⟨rfl, e77, (by decide : 2 + 0 ≤ _), (by decide : 8 + 0 ≤ _)⟩)
            dsimp only [Pt.U, Pt.locs, Pt.cells, Pt.slots] at X80 l80 y80 z80 st80 hQ80
            subst l80 y80 z80
            obtain ⟨rfl, N80q, e80⟩ := hQ80
            have N80 := Fr.app N77 N80q
            refine own_go (A := T80.setTop (mkF m 191 #[.val (.int p1), .val (.int p2), .val (.int p3), .val (.int p4), .val (.int p5), .val (.int (4 : Int32)), .val (.ref b1), .val (.ref b58), .val (.int (1 : Int32))] [(.int (1 : Int32))])) (fun _ kz => st80 _ kz) ?_
            refine own_go (A := T80.setTop (mkF m 201 #[.val (.int p1), .val (.int p2), .val (.int p3), .val (.int p4), .val (.int p5), .val (.int (4 : Int32)), .val (.ref b1), .val (.ref b58), .val (.int (1 : Int32))] [(.int (1 : Int32))])) (fun _ kz => ?_) ?_
            · show Steps p.tables e below (T80.setTop (mkF m 191 #[.val (.int p1), .val (.int p2), .val (.int p3), .val (.int p4), .val (.int p5), .val (.int (4 : Int32)), .val (.ref b1), .val (.ref b58), .val (.int (1 : Int32))] [(.int (1 : Int32))])) _
              refine XS.iload X80.here hx rfl (hb hby at_191) rfl ?_
              show Steps p.tables e below (T80.setTop (mkF m 193 #[.val (.int p1), .val (.int p2), .val (.int p3), .val (.int p4), .val (.int p5), .val (.int (4 : Int32)), .val (.ref b1), .val (.ref b58), .val (.int (1 : Int32))] [(.int (1 : Int32)), (.int (1 : Int32))])) _
              refine XS.icmpNo X80.here hx rfl (hb hby at_193) rfl (teq (by decide : ((1 : Int32) = (1 : Int32)))).2 ?_
              show Steps p.tables e below (T80.setTop (mkF m 196 #[.val (.int p1), .val (.int p2), .val (.int p3), .val (.int p4), .val (.int p5), .val (.int (4 : Int32)), .val (.ref b1), .val (.ref b58), .val (.int (1 : Int32))] [])) _
              refine XS.iconst X80.here hx rfl (hb hby at_196) ?_
              show Steps p.tables e below (T80.setTop (mkF m 197 #[.val (.int p1), .val (.int p2), .val (.int p3), .val (.int p4), .val (.int p5), .val (.int (4 : Int32)), .val (.ref b1), .val (.ref b58), .val (.int (1 : Int32))] [(.int (1 : Int32))])) _
              refine XS.goto X80.here hx rfl (pc0 := 197) (pc' := 201) rfl (hb hby at_197) (by decide) (by decide) ?_
              exact kz
            obtain ⟨fs, hrr, hrun, hended, hW, hsame⟩ := X80.leave (v := some (.int (1 : Int32))) (fun h => by rw [Bd.returns] at h; cases h)
            refine ⟨_, _, ?_, hrun, hended, _, _, rfl, ?_, ⟨_, rfl⟩, hW, hsame.mono (by decide) (by decide)⟩
            · show Steps p.tables e below (T80.setTop (mkF m 201 #[.val (.int p1), .val (.int p2), .val (.int p3), .val (.int p4), .val (.int p5), .val (.int (4 : Int32)), .val (.ref b1), .val (.ref b58), .val (.int (1 : Int32))] [(.int (1 : Int32))])) _
              exact retN X80 hx (t := .boolean) Bd.returns (by simp) (hb hby at_201) hrr
            · show Qrm0 Z p1 p2 p3 p4 p5 at_ h0 n0 _ T80.heap _
              rw [e80]
              exact ⟨rfl, N80⟩
        · skip
          refine own_go (A := T72.setTop (mkF m 143 #[.val (.int p1), .val (.int p2), .val (.int p3), .val (.int p4), .val (.int p5), .val (.int (4 : Int32)), .val (.ref b1), .val (.ref b58), .val (.int (0 : Int32))] [])) (fun _ kz => ?_) ?_
          · show Steps p.tables e below (T72.setTop (mkF m 140 #[.val (.int p1), .val (.int p2), .val (.int p3), .val (.int p4), .val (.int p5), .val (.int (4 : Int32)), .val (.ref b1), .val (.ref b58), .val (.int (0 : Int32))] [(.int (own_tv ((p4.toInt8.toInt32) &&& (255 : Int32))))])) _
            refine XS.ifNo X72.here hx rfl (hb hby at_140) rfl ((if0 _ _).trans (feq hs73).1) ?_
            exact kz
          refine own_go (A := T72.setTop (mkF m 162 #[.val (.int p1), .val (.int p2), .val (.int p3), .val (.int p4), .val (.int p5), .val (.int (4 : Int32)), .val (.ref b1), .val (.ref b58), .val (.int (1 : Int32))] [(.int (3 : Int32)), (.ref b1), (.int (3 : Int32)), (.ref b58)])) (fun _ kz => ?_) ?_
          · show Steps p.tables e below (T72.setTop (mkF m 143 #[.val (.int p1), .val (.int p2), .val (.int p3), .val (.int p4), .val (.int p5), .val (.int (4 : Int32)), .val (.ref b1), .val (.ref b58), .val (.int (0 : Int32))] [])) _
            refine XS.iconst X72.here hx rfl (hb hby at_143) ?_
            show Steps p.tables e below (T72.setTop (mkF m 144 #[.val (.int p1), .val (.int p2), .val (.int p3), .val (.int p4), .val (.int p5), .val (.int (4 : Int32)), .val (.ref b1), .val (.ref b58), .val (.int (0 : Int32))] [(.int (1 : Int32))])) _
            refine XS.goto X72.here hx rfl (pc0 := 144) (pc' := 148) rfl (hb hby at_144) (by decide) (by decide) ?_
            show Steps p.tables e below (T72.setTop (mkF m 148 #[.val (.int p1), .val (.int p2), .val (.int p3), .val (.int p4), .val (.int p5), .val (.int (4 : Int32)), .val (.ref b1), .val (.ref b58), .val (.int (0 : Int32))] [(.int (1 : Int32))])) _
            refine XS.istore X72.here hx rfl (hb hby at_148) rfl (l' := #[.val (.int p1), .val (.int p2), .val (.int p3), .val (.int p4), .val (.int p5), .val (.int (4 : Int32)), .val (.ref b1), .val (.ref b58), .val (.int (1 : Int32))]) rfl ?_
            show Steps p.tables e below (T72.setTop (mkF m 150 #[.val (.int p1), .val (.int p2), .val (.int p3), .val (.int p4), .val (.int p5), .val (.int (4 : Int32)), .val (.ref b1), .val (.ref b58), .val (.int (1 : Int32))] [])) _
            refine XS.iload X72.here hx rfl (hb hby at_150) rfl ?_
            show Steps p.tables e below (T72.setTop (mkF m 152 #[.val (.int p1), .val (.int p2), .val (.int p3), .val (.int p4), .val (.int p5), .val (.int (4 : Int32)), .val (.ref b1), .val (.ref b58), .val (.int (1 : Int32))] [(.int (4 : Int32))])) _
            refine XS.iconst X72.here hx rfl (hb hby at_152) ?_
            show Steps p.tables e below (T72.setTop (mkF m 153 #[.val (.int p1), .val (.int p2), .val (.int p3), .val (.int p4), .val (.int p5), .val (.int (4 : Int32)), .val (.ref b1), .val (.ref b58), .val (.int (1 : Int32))] [(.int (3 : Int32)), (.int (4 : Int32))])) _
            refine XS.icmpNo X72.here hx rfl (hb hby at_153) rfl (tlt (by decide : ((3 : Int32) < (4 : Int32)))).2.2.2 ?_
            show Steps p.tables e below (T72.setTop (mkF m 156 #[.val (.int p1), .val (.int p2), .val (.int p3), .val (.int p4), .val (.int p5), .val (.int (4 : Int32)), .val (.ref b1), .val (.ref b58), .val (.int (1 : Int32))] [])) _
            refine XS.aload X72.here hx rfl (hb hby at_156) rfl rfl ?_
            show Steps p.tables e below (T72.setTop (mkF m 158 #[.val (.int p1), .val (.int p2), .val (.int p3), .val (.int p4), .val (.int p5), .val (.int (4 : Int32)), .val (.ref b1), .val (.ref b58), .val (.int (1 : Int32))] [(.ref b58)])) _
            refine XS.iconst X72.here hx rfl (hb hby at_158) ?_
            show Steps p.tables e below (T72.setTop (mkF m 159 #[.val (.int p1), .val (.int p2), .val (.int p3), .val (.int p4), .val (.int p5), .val (.int (4 : Int32)), .val (.ref b1), .val (.ref b58), .val (.int (1 : Int32))] [(.int (3 : Int32)), (.ref b58)])) _
            refine XS.aload X72.here hx rfl (hb hby at_159) rfl rfl ?_
            show Steps p.tables e below (T72.setTop (mkF m 161 #[.val (.int p1), .val (.int p2), .val (.int p3), .val (.int p4), .val (.int p5), .val (.int (4 : Int32)), .val (.ref b1), .val (.ref b58), .val (.int (1 : Int32))] [(.ref b1), (.int (3 : Int32)), (.ref b58)])) _
            refine XS.iconst X72.here hx rfl (hb hby at_161) ?_
            exact kz
          obtain ⟨cl81, Ar81, -, S81, M81, H81, -⟩ := id Av_b1
          have hin81 : ¬ ((3 : Int32) < 0 ∨ cl81.slots.size ≤ ((3 : Int32)).toNatClampNeg) := inb_of S81 ⟨by decide, by decide⟩
          have hat81 : cl81.slots[((3 : Int32)).toNatClampNeg]? = some (.int (p5.toInt8.toInt32)) := H81.at hin81 rfl
          refine own_go (A := T72.setTop (mkF m 163 #[.val (.int p1), .val (.int p2), .val (.int p3), .val (.int p4), .val (.int p5), .val (.int (4 : Int32)), .val (.ref b1), .val (.ref b58), .val (.int (1 : Int32))] [(.int (p5.toInt8.toInt32)), (.int (3 : Int32)), (.ref b58)])) (fun _ kz => ?_) ?_
          · refine X72.baloadBytes hx (j := (3 : Int32)) (v := (.int (p5.toInt8.toInt32))) (by rw [e72]; exact Ar81.1) (State.isArrayOf_alike hZ.alike Ar81.2.1) Ar81.2.2 hin81 hat81 (g := (mkF m 162 #[.val (.int p1), .val (.int p2), .val (.int p3), .val (.int p4), .val (.int p5), .val (.int (4 : Int32)), .val (.ref b1), .val (.ref b58), .val (.int (1 : Int32))] [(.int (3 : Int32)), (.ref b1), (.int (3 : Int32)), (.ref b58)])) rfl rfl (hb hby at_162) _ ?_
            exact kz
          obtain ⟨cl82, Ar82, q82, S82, M82, H82, G82⟩ := id Av_b58
          have hin82 : ¬ ((3 : Int32) < 0 ∨ cl82.slots.size ≤ ((3 : Int32)).toNatClampNeg) := inb_of S82 ⟨by decide, by decide⟩
          obtain ⟨T82, h82, X82, e82, W82, st82⟩ := stB X72 hx hZ e72 Ar82 (j := (3 : Int32)) hin82 (g := (mkF m 163 #[.val (.int p1), .val (.int p2), .val (.int p3), .val (.int p4), .val (.int p5), .val (.int (4 : Int32)), .val (.ref b1), .val (.ref b58), .val (.int (1 : Int32))] [(.int (p5.toInt8.toInt32)), (.int (3 : Int32)), (.ref b58)])) rfl rfl (hb hby at_163)
          rw [own_nbn] at W82
          have Aw82 := Arv.set Ar82 q82 S82 M82 H82 G82 (fits_nar_byte _) W82 3 rfl (Nat.le_of_ble_eq_true rfl)
          replace S_t := S_t.wr W82
          replace Tb := Tb.other W82 ne_at__b58
          replace Av_b1 := Av_b1.other W82 ne_b1_b58
          have Z82 : n0 ≤ h82.size := Nat.le_trans Z70 (Keep.of_wr W82).1
          have Av_b58 : Arv Z h82 b58 k58 .byte (4 : Int32) [(.int (p2.toInt8.toInt32)), (.int (p3.toInt8.toInt32)), (.int (p4.toInt8.toInt32)), (.int (p5.toInt8.toInt32))] (.int (0 : Int32)) := Aw82
          have N82 := Fr.snoc X82 N72 g_b58
          refine own_go (A := T82.setTop (mkF m 164 #[.val (.int p1), .val (.int p2), .val (.int p3), .val (.int p4), .val (.int p5), .val (.int (4 : Int32)), .val (.ref b1), .val (.ref b58), .val (.int (1 : Int32))] [])) (fun _ kz => st82 _ kz) ?_
          refine own_go (A := T82.setTop (mkF m 188 #[.val (.int p1), .val (.int p2), .val (.int p3), .val (.int p4), .val (.int p5), .val (.int (4 : Int32)), .val (.ref b1), .val (.ref b58), .val (.int (1 : Int32))] [(.ref b58)])) (fun _ kz => ?_) ?_
          · show Steps p.tables e below (T82.setTop (mkF m 164 #[.val (.int p1), .val (.int p2), .val (.int p3), .val (.int p4), .val (.int p5), .val (.int (4 : Int32)), .val (.ref b1), .val (.ref b58), .val (.int (1 : Int32))] [])) _
            refine XS.iload X82.here hx rfl (hb hby at_164) rfl ?_
            show Steps p.tables e below (T82.setTop (mkF m 166 #[.val (.int p1), .val (.int p2), .val (.int p3), .val (.int p4), .val (.int p5), .val (.int (4 : Int32)), .val (.ref b1), .val (.ref b58), .val (.int (1 : Int32))] [(.int (1 : Int32))])) _
            refine XS.ifYes X82.here hx rfl (pc0 := 166) (pc' := 179) rfl (hb hby at_166) rfl ((if0 _ _).trans (feq (by decide : ¬ ((1 : Int32) = (0 : Int32)))).2) (by decide) (by decide) ?_
            show Steps p.tables e below (T82.setTop (mkF m 179 #[.val (.int p1), .val (.int p2), .val (.int p3), .val (.int p4), .val (.int p5), .val (.int (4 : Int32)), .val (.ref b1), .val (.ref b58), .val (.int (1 : Int32))] [])) _
            refine XS.iconst X82.here hx rfl (hb hby at_179) ?_
            show Steps p.tables e below (T82.setTop (mkF m 180 #[.val (.int p1), .val (.int p2), .val (.int p3), .val (.int p4), .val (.int p5), .val (.int (4 : Int32)), .val (.ref b1), .val (.ref b58), .val (.int (1 : Int32))] [(.int (1 : Int32))])) _
            refine XS.goto X82.here hx rfl (pc0 := 180) (pc' := 184) rfl (hb hby at_180) (by decide) (by decide) ?_
            show Steps p.tables e below (T82.setTop (mkF m 184 #[.val (.int p1), .val (.int p2), .val (.int p3), .val (.int p4), .val (.int p5), .val (.int (4 : Int32)), .val (.ref b1), .val (.ref b58), .val (.int (1 : Int32))] [(.int (1 : Int32))])) _
            refine XS.istore X82.here hx rfl (hb hby at_184) rfl (l' := #[.val (.int p1), .val (.int p2), .val (.int p3), .val (.int p4), .val (.int p5), .val (.int (4 : Int32)), .val (.ref b1), .val (.ref b58), .val (.int (1 : Int32))]) rfl ?_
            show Steps p.tables e below (T82.setTop (mkF m 186 #[.val (.int p1), .val (.int p2), .val (.int p3), .val (.int p4), .val (.int p5), .val (.int (4 : Int32)), .val (.ref b1), .val (.ref b58), .val (.int (1 : Int32))] [])) _
            refine XS.aload X82.here hx rfl (hb hby at_186) rfl rfl ?_
            exact kz
          obtain ⟨_, _, ⟨T83, L83, k83, n83⟩, -, X83, ⟨Lc83, hQ83, l83, y83, z83⟩, st83⟩ := Jvm.LawKit.callS X82 hx (y := (⟨"com/example/sharp_nose/sharpnose/BinaryData", "foundIn", "([B)Z"⟩ : MethodName)) hown (mvT hZ (hw _ (List.mem_of_getElem? (i := 2) rfl))) (mvT hZ (hw _ (List.mem_of_getElem? (i := 3) rfl))) (mvT hZ (hw _ (List.mem_of_getElem? (i := 4) rfl))) (mvT hZ (hw _ (List.mem_of_getElem? (i := 5) rfl))) (by decide) (backOf (W := 0) (rmF4 l Z a0 hw [] b58 at_ k58 (p2.toInt8.toInt32) (p3.toInt8.toInt32) (p4.toInt8.toInt32) (p5.toInt8.toInt32) (1 : Int32) h82 n0 Z82 Av_b58 S_t Tb (by simp [hs63, hs68, hs73])) hZ (hw _ (List.mem_of_getElem? (i := 5) rfl)) (hw _ (List.mem_of_getElem? (i := 4) rfl)) (by decide) (by decide)) (g := (mkF m 188 #[.val (.int p1), .val (.int p2), .val (.int p3), .val (.int p4), .val (.int p5), .val (.int (4 : Int32)), .val (.ref b1), .val (.ref b58), .val (.int (1 : Int32))] [(.ref b58)])) rfl (by rw [hml]; rfl) (argsL := [(.ref b58)]) (rest := []) (lenOf own_pd0 rfl) rfl (by show 2 * 0 + _ ≤ _; exact Nat.le_of_eq rfl) (hb hby at_188) (fun _ _ => ⟨rfl, e82, (by decide : 2 + 0 ≤ _), (by decide : 8 + 0 ≤ _)⟩)
          dsimp only [Pt.U, Pt.locs, Pt.cells, Pt.slots] at X83 l83 y83 z83 st83 hQ83
          subst l83 y83 z83
          obtain ⟨rfl, N83q, e83⟩ := hQ83
          have N83 := Fr.app N82 N83q
          refine own_go (A := T83.setTop (mkF m 191 #[.val (.int p1), .val (.int p2), .val (.int p3), .val (.int p4), .val (.int p5), .val (.int (4 : Int32)), .val (.ref b1), .val (.ref b58), .val (.int (1 : Int32))] [(.int (1 : Int32))])) (fun _ kz => st83 _ kz) ?_
          refine own_go (A := T83.setTop (mkF m 201 #[.val (.int p1), .val (.int p2), .val (.int p3), .val (.int p4), .val (.int p5), .val (.int (4 : Int32)), .val (.ref b1), .val (.ref b58), .val (.int (1 : Int32))] [(.int (1 : Int32))])) (fun _ kz => ?_) ?_
          · show Steps p.tables e below (T83.setTop (mkF m 191 #[.val (.int p1), .val (.int p2), .val (.int p3), .val (.int p4), .val (.int p5), .val (.int (4 : Int32)), .val (.ref b1), .val (.ref b58), .val (.int (1 : Int32))] [(.int (1 : Int32))])) _
            refine XS.iload X83.here hx rfl (hb hby at_191) rfl ?_
            show Steps p.tables e below (T83.setTop (mkF m 193 #[.val (.int p1), .val (.int p2), .val (.int p3), .val (.int p4), .val (.int p5), .val (.int (4 : Int32)), .val (.ref b1), .val (.ref b58), .val (.int (1 : Int32))] [(.int (1 : Int32)), (.int (1 : Int32))])) _
            refine XS.icmpNo X83.here hx rfl (hb hby at_193) rfl (teq (by decide : ((1 : Int32) = (1 : Int32)))).2 ?_
            show Steps p.tables e below (T83.setTop (mkF m 196 #[.val (.int p1), .val (.int p2), .val (.int p3), .val (.int p4), .val (.int p5), .val (.int (4 : Int32)), .val (.ref b1), .val (.ref b58), .val (.int (1 : Int32))] [])) _
            refine XS.iconst X83.here hx rfl (hb hby at_196) ?_
            show Steps p.tables e below (T83.setTop (mkF m 197 #[.val (.int p1), .val (.int p2), .val (.int p3), .val (.int p4), .val (.int p5), .val (.int (4 : Int32)), .val (.ref b1), .val (.ref b58), .val (.int (1 : Int32))] [(.int (1 : Int32))])) _
            refine XS.goto X83.here hx rfl (pc0 := 197) (pc' := 201) rfl (hb hby at_197) (by decide) (by decide) ?_
            exact kz
          obtain ⟨fs, hrr, hrun, hended, hW, hsame⟩ := X83.leave (v := some (.int (1 : Int32))) (fun h => by rw [Bd.returns] at h; cases h)
          refine ⟨_, _, ?_, hrun, hended, _, _, rfl, ?_, ⟨_, rfl⟩, hW, hsame.mono (by decide) (by decide)⟩
          · show Steps p.tables e below (T83.setTop (mkF m 201 #[.val (.int p1), .val (.int p2), .val (.int p3), .val (.int p4), .val (.int p5), .val (.int (4 : Int32)), .val (.ref b1), .val (.ref b58), .val (.int (1 : Int32))] [(.int (1 : Int32))])) _
            exact retN X83 hx (t := .boolean) Bd.returns (by simp) (hb hby at_201) hrr
          · show Qrm0 Z p1 p2 p3 p4 p5 at_ h0 n0 _ T83.heap _
            rw [e83]
            exact ⟨rfl, N83⟩
      · skip
        refine own_go (A := T67.setTop (mkF m 107 #[.val (.int p1), .val (.int p2), .val (.int p3), .val (.int p4), .val (.int p5), .val (.int (4 : Int32)), .val (.ref b1), .val (.ref b58), .val (.int (0 : Int32))] [])) (fun _ kz => ?_) ?_
        · show Steps p.tables e below (T67.setTop (mkF m 104 #[.val (.int p1), .val (.int p2), .val (.int p3), .val (.int p4), .val (.int p5), .val (.int (4 : Int32)), .val (.ref b1), .val (.ref b58), .val (.int (0 : Int32))] [(.int (own_tv ((p3.toInt8.toInt32) &&& (255 : Int32))))])) _
          refine XS.ifNo X67.here hx rfl (hb hby at_104) rfl ((if0 _ _).trans (feq hs68).1) ?_
          exact kz
        refine own_go (A := T67.setTop (mkF m 126 #[.val (.int p1), .val (.int p2), .val (.int p3), .val (.int p4), .val (.int p5), .val (.int (4 : Int32)), .val (.ref b1), .val (.ref b58), .val (.int (1 : Int32))] [(.int (2 : Int32)), (.ref b1), (.int (2 : Int32)), (.ref b58)])) (fun _ kz => ?_) ?_
        · show Steps p.tables e below (T67.setTop (mkF m 107 #[.val (.int p1), .val (.int p2), .val (.int p3), .val (.int p4), .val (.int p5), .val (.int (4 : Int32)), .val (.ref b1), .val (.ref b58), .val (.int (0 : Int32))] [])) _
          refine XS.iconst X67.here hx rfl (hb hby at_107) ?_
          show Steps p.tables e below (T67.setTop (mkF m 108 #[.val (.int p1), .val (.int p2), .val (.int p3), .val (.int p4), .val (.int p5), .val (.int (4 : Int32)), .val (.ref b1), .val (.ref b58), .val (.int (0 : Int32))] [(.int (1 : Int32))])) _
          refine XS.goto X67.here hx rfl (pc0 := 108) (pc' := 112) rfl (hb hby at_108) (by decide) (by decide) ?_
          show Steps p.tables e below (T67.setTop (mkF m 112 #[.val (.int p1), .val (.int p2), .val (.int p3), .val (.int p4), .val (.int p5), .val (.int (4 : Int32)), .val (.ref b1), .val (.ref b58), .val (.int (0 : Int32))] [(.int (1 : Int32))])) _
          refine XS.istore X67.here hx rfl (hb hby at_112) rfl (l' := #[.val (.int p1), .val (.int p2), .val (.int p3), .val (.int p4), .val (.int p5), .val (.int (4 : Int32)), .val (.ref b1), .val (.ref b58), .val (.int (1 : Int32))]) rfl ?_
          show Steps p.tables e below (T67.setTop (mkF m 114 #[.val (.int p1), .val (.int p2), .val (.int p3), .val (.int p4), .val (.int p5), .val (.int (4 : Int32)), .val (.ref b1), .val (.ref b58), .val (.int (1 : Int32))] [])) _
          refine XS.iload X67.here hx rfl (hb hby at_114) rfl ?_
          show Steps p.tables e below (T67.setTop (mkF m 116 #[.val (.int p1), .val (.int p2), .val (.int p3), .val (.int p4), .val (.int p5), .val (.int (4 : Int32)), .val (.ref b1), .val (.ref b58), .val (.int (1 : Int32))] [(.int (4 : Int32))])) _
          refine XS.iconst X67.here hx rfl (hb hby at_116) ?_
          show Steps p.tables e below (T67.setTop (mkF m 117 #[.val (.int p1), .val (.int p2), .val (.int p3), .val (.int p4), .val (.int p5), .val (.int (4 : Int32)), .val (.ref b1), .val (.ref b58), .val (.int (1 : Int32))] [(.int (2 : Int32)), (.int (4 : Int32))])) _
          refine XS.icmpNo X67.here hx rfl (hb hby at_117) rfl (tlt (by decide : ((2 : Int32) < (4 : Int32)))).2.2.2 ?_
          show Steps p.tables e below (T67.setTop (mkF m 120 #[.val (.int p1), .val (.int p2), .val (.int p3), .val (.int p4), .val (.int p5), .val (.int (4 : Int32)), .val (.ref b1), .val (.ref b58), .val (.int (1 : Int32))] [])) _
          refine XS.aload X67.here hx rfl (hb hby at_120) rfl rfl ?_
          show Steps p.tables e below (T67.setTop (mkF m 122 #[.val (.int p1), .val (.int p2), .val (.int p3), .val (.int p4), .val (.int p5), .val (.int (4 : Int32)), .val (.ref b1), .val (.ref b58), .val (.int (1 : Int32))] [(.ref b58)])) _
          refine XS.iconst X67.here hx rfl (hb hby at_122) ?_
          show Steps p.tables e below (T67.setTop (mkF m 123 #[.val (.int p1), .val (.int p2), .val (.int p3), .val (.int p4), .val (.int p5), .val (.int (4 : Int32)), .val (.ref b1), .val (.ref b58), .val (.int (1 : Int32))] [(.int (2 : Int32)), (.ref b58)])) _
          refine XS.aload X67.here hx rfl (hb hby at_123) rfl rfl ?_
          show Steps p.tables e below (T67.setTop (mkF m 125 #[.val (.int p1), .val (.int p2), .val (.int p3), .val (.int p4), .val (.int p5), .val (.int (4 : Int32)), .val (.ref b1), .val (.ref b58), .val (.int (1 : Int32))] [(.ref b1), (.int (2 : Int32)), (.ref b58)])) _
          refine XS.iconst X67.here hx rfl (hb hby at_125) ?_
          exact kz
        obtain ⟨cl84, Ar84, -, S84, M84, H84, -⟩ := id Av_b1
        have hin84 : ¬ ((2 : Int32) < 0 ∨ cl84.slots.size ≤ ((2 : Int32)).toNatClampNeg) := inb_of S84 ⟨by decide, by decide⟩
        have hat84 : cl84.slots[((2 : Int32)).toNatClampNeg]? = some (.int (p4.toInt8.toInt32)) := H84.at hin84 rfl
        refine own_go (A := T67.setTop (mkF m 127 #[.val (.int p1), .val (.int p2), .val (.int p3), .val (.int p4), .val (.int p5), .val (.int (4 : Int32)), .val (.ref b1), .val (.ref b58), .val (.int (1 : Int32))] [(.int (p4.toInt8.toInt32)), (.int (2 : Int32)), (.ref b58)])) (fun _ kz => ?_) ?_
        · refine X67.baloadBytes hx (j := (2 : Int32)) (v := (.int (p4.toInt8.toInt32))) (by rw [e67]; exact Ar84.1) (State.isArrayOf_alike hZ.alike Ar84.2.1) Ar84.2.2 hin84 hat84 (g := (mkF m 126 #[.val (.int p1), .val (.int p2), .val (.int p3), .val (.int p4), .val (.int p5), .val (.int (4 : Int32)), .val (.ref b1), .val (.ref b58), .val (.int (1 : Int32))] [(.int (2 : Int32)), (.ref b1), (.int (2 : Int32)), (.ref b58)])) rfl rfl (hb hby at_126) _ ?_
          exact kz
        obtain ⟨cl85, Ar85, q85, S85, M85, H85, G85⟩ := id Av_b58
        have hin85 : ¬ ((2 : Int32) < 0 ∨ cl85.slots.size ≤ ((2 : Int32)).toNatClampNeg) := inb_of S85 ⟨by decide, by decide⟩
        obtain ⟨T85, h85, X85, e85, W85, st85⟩ := stB X67 hx hZ e67 Ar85 (j := (2 : Int32)) hin85 (g := (mkF m 127 #[.val (.int p1), .val (.int p2), .val (.int p3), .val (.int p4), .val (.int p5), .val (.int (4 : Int32)), .val (.ref b1), .val (.ref b58), .val (.int (1 : Int32))] [(.int (p4.toInt8.toInt32)), (.int (2 : Int32)), (.ref b58)])) rfl rfl (hb hby at_127)
        rw [own_nbn] at W85
        have Aw85 := Arv.set Ar85 q85 S85 M85 H85 G85 (fits_nar_byte _) W85 2 rfl (Nat.le_of_ble_eq_true rfl)
        replace S_t := S_t.wr W85
        replace Tb := Tb.other W85 ne_at__b58
        replace Av_b1 := Av_b1.other W85 ne_b1_b58
        have Z85 : n0 ≤ h85.size := Nat.le_trans Z65 (Keep.of_wr W85).1
        have Av_b58 : Arv Z h85 b58 k58 .byte (4 : Int32) [(.int (p2.toInt8.toInt32)), (.int (p3.toInt8.toInt32)), (.int (p4.toInt8.toInt32)), (.int (0 : Int32))] (.int (0 : Int32)) := Aw85
        have N85 := Fr.snoc X85 N67 g_b58
        refine own_go (A := T85.setTop (mkF m 128 #[.val (.int p1), .val (.int p2), .val (.int p3), .val (.int p4), .val (.int p5), .val (.int (4 : Int32)), .val (.ref b1), .val (.ref b58), .val (.int (1 : Int32))] [])) (fun _ kz => st85 _ kz) ?_
        refine own_go (A := T85.setTop (mkF m 162 #[.val (.int p1), .val (.int p2), .val (.int p3), .val (.int p4), .val (.int p5), .val (.int (4 : Int32)), .val (.ref b1), .val (.ref b58), .val (.int (1 : Int32))] [(.int (3 : Int32)), (.ref b1), (.int (3 : Int32)), (.ref b58)])) (fun _ kz => ?_) ?_
        · show Steps p.tables e below (T85.setTop (mkF m 128 #[.val (.int p1), .val (.int p2), .val (.int p3), .val (.int p4), .val (.int p5), .val (.int (4 : Int32)), .val (.ref b1), .val (.ref b58), .val (.int (1 : Int32))] [])) _
          refine XS.iload X85.here hx rfl (hb hby at_128) rfl ?_
          show Steps p.tables e below (T85.setTop (mkF m 130 #[.val (.int p1), .val (.int p2), .val (.int p3), .val (.int p4), .val (.int p5), .val (.int (4 : Int32)), .val (.ref b1), .val (.ref b58), .val (.int (1 : Int32))] [(.int (1 : Int32))])) _
          refine XS.ifYes X85.here hx rfl (pc0 := 130) (pc' := 143) rfl (hb hby at_130) rfl ((if0 _ _).trans (feq (by decide : ¬ ((1 : Int32) = (0 : Int32)))).2) (by decide) (by decide) ?_
          show Steps p.tables e below (T85.setTop (mkF m 143 #[.val (.int p1), .val (.int p2), .val (.int p3), .val (.int p4), .val (.int p5), .val (.int (4 : Int32)), .val (.ref b1), .val (.ref b58), .val (.int (1 : Int32))] [])) _
          refine XS.iconst X85.here hx rfl (hb hby at_143) ?_
          show Steps p.tables e below (T85.setTop (mkF m 144 #[.val (.int p1), .val (.int p2), .val (.int p3), .val (.int p4), .val (.int p5), .val (.int (4 : Int32)), .val (.ref b1), .val (.ref b58), .val (.int (1 : Int32))] [(.int (1 : Int32))])) _
          refine XS.goto X85.here hx rfl (pc0 := 144) (pc' := 148) rfl (hb hby at_144) (by decide) (by decide) ?_
          show Steps p.tables e below (T85.setTop (mkF m 148 #[.val (.int p1), .val (.int p2), .val (.int p3), .val (.int p4), .val (.int p5), .val (.int (4 : Int32)), .val (.ref b1), .val (.ref b58), .val (.int (1 : Int32))] [(.int (1 : Int32))])) _
          refine XS.istore X85.here hx rfl (hb hby at_148) rfl (l' := #[.val (.int p1), .val (.int p2), .val (.int p3), .val (.int p4), .val (.int p5), .val (.int (4 : Int32)), .val (.ref b1), .val (.ref b58), .val (.int (1 : Int32))]) rfl ?_
          show Steps p.tables e below (T85.setTop (mkF m 150 #[.val (.int p1), .val (.int p2), .val (.int p3), .val (.int p4), .val (.int p5), .val (.int (4 : Int32)), .val (.ref b1), .val (.ref b58), .val (.int (1 : Int32))] [])) _
          refine XS.iload X85.here hx rfl (hb hby at_150) rfl ?_
          show Steps p.tables e below (T85.setTop (mkF m 152 #[.val (.int p1), .val (.int p2), .val (.int p3), .val (.int p4), .val (.int p5), .val (.int (4 : Int32)), .val (.ref b1), .val (.ref b58), .val (.int (1 : Int32))] [(.int (4 : Int32))])) _
          refine XS.iconst X85.here hx rfl (hb hby at_152) ?_
          show Steps p.tables e below (T85.setTop (mkF m 153 #[.val (.int p1), .val (.int p2), .val (.int p3), .val (.int p4), .val (.int p5), .val (.int (4 : Int32)), .val (.ref b1), .val (.ref b58), .val (.int (1 : Int32))] [(.int (3 : Int32)), (.int (4 : Int32))])) _
          refine XS.icmpNo X85.here hx rfl (hb hby at_153) rfl (tlt (by decide : ((3 : Int32) < (4 : Int32)))).2.2.2 ?_
          show Steps p.tables e below (T85.setTop (mkF m 156 #[.val (.int p1), .val (.int p2), .val (.int p3), .val (.int p4), .val (.int p5), .val (.int (4 : Int32)), .val (.ref b1), .val (.ref b58), .val (.int (1 : Int32))] [])) _
          refine XS.aload X85.here hx rfl (hb hby at_156) rfl rfl ?_
          show Steps p.tables e below (T85.setTop (mkF m 158 #[.val (.int p1), .val (.int p2), .val (.int p3), .val (.int p4), .val (.int p5), .val (.int (4 : Int32)), .val (.ref b1), .val (.ref b58), .val (.int (1 : Int32))] [(.ref b58)])) _
          refine XS.iconst X85.here hx rfl (hb hby at_158) ?_
          show Steps p.tables e below (T85.setTop (mkF m 159 #[.val (.int p1), .val (.int p2), .val (.int p3), .val (.int p4), .val (.int p5), .val (.int (4 : Int32)), .val (.ref b1), .val (.ref b58), .val (.int (1 : Int32))] [(.int (3 : Int32)), (.ref b58)])) _
          refine XS.aload X85.here hx rfl (hb hby at_159) rfl rfl ?_
          show Steps p.tables e below (T85.setTop (mkF m 161 #[.val (.int p1), .val (.int p2), .val (.int p3), .val (.int p4), .val (.int p5), .val (.int (4 : Int32)), .val (.ref b1), .val (.ref b58), .val (.int (1 : Int32))] [(.ref b1), (.int (3 : Int32)), (.ref b58)])) _
          refine XS.iconst X85.here hx rfl (hb hby at_161) ?_
          exact kz
        obtain ⟨cl86, Ar86, -, S86, M86, H86, -⟩ := id Av_b1
        have hin86 : ¬ ((3 : Int32) < 0 ∨ cl86.slots.size ≤ ((3 : Int32)).toNatClampNeg) := inb_of S86 ⟨by decide, by decide⟩
        have hat86 : cl86.slots[((3 : Int32)).toNatClampNeg]? = some (.int (p5.toInt8.toInt32)) := H86.at hin86 rfl
        refine own_go (A := T85.setTop (mkF m 163 #[.val (.int p1), .val (.int p2), .val (.int p3), .val (.int p4), .val (.int p5), .val (.int (4 : Int32)), .val (.ref b1), .val (.ref b58), .val (.int (1 : Int32))] [(.int (p5.toInt8.toInt32)), (.int (3 : Int32)), (.ref b58)])) (fun _ kz => ?_) ?_
        · refine X85.baloadBytes hx (j := (3 : Int32)) (v := (.int (p5.toInt8.toInt32))) (by rw [e85]; exact Ar86.1) (State.isArrayOf_alike hZ.alike Ar86.2.1) Ar86.2.2 hin86 hat86 (g := (mkF m 162 #[.val (.int p1), .val (.int p2), .val (.int p3), .val (.int p4), .val (.int p5), .val (.int (4 : Int32)), .val (.ref b1), .val (.ref b58), .val (.int (1 : Int32))] [(.int (3 : Int32)), (.ref b1), (.int (3 : Int32)), (.ref b58)])) rfl rfl (hb hby at_162) _ ?_
          exact kz
        obtain ⟨cl87, Ar87, q87, S87, M87, H87, G87⟩ := id Av_b58
        have hin87 : ¬ ((3 : Int32) < 0 ∨ cl87.slots.size ≤ ((3 : Int32)).toNatClampNeg) := inb_of S87 ⟨by decide, by decide⟩
        obtain ⟨T87, h87, X87, e87, W87, st87⟩ := stB X85 hx hZ e85 Ar87 (j := (3 : Int32)) hin87 (g := (mkF m 163 #[.val (.int p1), .val (.int p2), .val (.int p3), .val (.int p4), .val (.int p5), .val (.int (4 : Int32)), .val (.ref b1), .val (.ref b58), .val (.int (1 : Int32))] [(.int (p5.toInt8.toInt32)), (.int (3 : Int32)), (.ref b58)])) rfl rfl (hb hby at_163)
        rw [own_nbn] at W87
        have Aw87 := Arv.set Ar87 q87 S87 M87 H87 G87 (fits_nar_byte _) W87 3 rfl (Nat.le_of_ble_eq_true rfl)
        replace S_t := S_t.wr W87
        replace Tb := Tb.other W87 ne_at__b58
        replace Av_b1 := Av_b1.other W87 ne_b1_b58
        have Z87 : n0 ≤ h87.size := Nat.le_trans Z85 (Keep.of_wr W87).1
        have Av_b58 : Arv Z h87 b58 k58 .byte (4 : Int32) [(.int (p2.toInt8.toInt32)), (.int (p3.toInt8.toInt32)), (.int (p4.toInt8.toInt32)), (.int (p5.toInt8.toInt32))] (.int (0 : Int32)) := Aw87
        have N87 := Fr.snoc X87 N85 g_b58
        refine own_go (A := T87.setTop (mkF m 164 #[.val (.int p1), .val (.int p2), .val (.int p3), .val (.int p4), .val (.int p5), .val (.int (4 : Int32)), .val (.ref b1), .val (.ref b58), .val (.int (1 : Int32))] [])) (fun _ kz => st87 _ kz) ?_
        refine own_go (A := T87.setTop (mkF m 188 #[.val (.int p1), .val (.int p2), .val (.int p3), .val (.int p4), .val (.int p5), .val (.int (4 : Int32)), .val (.ref b1), .val (.ref b58), .val (.int (1 : Int32))] [(.ref b58)])) (fun _ kz => ?_) ?_
        · show Steps p.tables e below (T87.setTop (mkF m 164 #[.val (.int p1), .val (.int p2), .val (.int p3), .val (.int p4), .val (.int p5), .val (.int (4 : Int32)), .val (.ref b1), .val (.ref b58), .val (.int (1 : Int32))] [])) _
          refine XS.iload X87.here hx rfl (hb hby at_164) rfl ?_
          show Steps p.tables e below (T87.setTop (mkF m 166 #[.val (.int p1), .val (.int p2), .val (.int p3), .val (.int p4), .val (.int p5), .val (.int (4 : Int32)), .val (.ref b1), .val (.ref b58), .val (.int (1 : Int32))] [(.int (1 : Int32))])) _
          refine XS.ifYes X87.here hx rfl (pc0 := 166) (pc' := 179) rfl (hb hby at_166) rfl ((if0 _ _).trans (feq (by decide : ¬ ((1 : Int32) = (0 : Int32)))).2) (by decide) (by decide) ?_
          show Steps p.tables e below (T87.setTop (mkF m 179 #[.val (.int p1), .val (.int p2), .val (.int p3), .val (.int p4), .val (.int p5), .val (.int (4 : Int32)), .val (.ref b1), .val (.ref b58), .val (.int (1 : Int32))] [])) _
          refine XS.iconst X87.here hx rfl (hb hby at_179) ?_
          show Steps p.tables e below (T87.setTop (mkF m 180 #[.val (.int p1), .val (.int p2), .val (.int p3), .val (.int p4), .val (.int p5), .val (.int (4 : Int32)), .val (.ref b1), .val (.ref b58), .val (.int (1 : Int32))] [(.int (1 : Int32))])) _
          refine XS.goto X87.here hx rfl (pc0 := 180) (pc' := 184) rfl (hb hby at_180) (by decide) (by decide) ?_
          show Steps p.tables e below (T87.setTop (mkF m 184 #[.val (.int p1), .val (.int p2), .val (.int p3), .val (.int p4), .val (.int p5), .val (.int (4 : Int32)), .val (.ref b1), .val (.ref b58), .val (.int (1 : Int32))] [(.int (1 : Int32))])) _
          refine XS.istore X87.here hx rfl (hb hby at_184) rfl (l' := #[.val (.int p1), .val (.int p2), .val (.int p3), .val (.int p4), .val (.int p5), .val (.int (4 : Int32)), .val (.ref b1), .val (.ref b58), .val (.int (1 : Int32))]) rfl ?_
          show Steps p.tables e below (T87.setTop (mkF m 186 #[.val (.int p1), .val (.int p2), .val (.int p3), .val (.int p4), .val (.int p5), .val (.int (4 : Int32)), .val (.ref b1), .val (.ref b58), .val (.int (1 : Int32))] [])) _
          refine XS.aload X87.here hx rfl (hb hby at_186) rfl rfl ?_
          exact kz
        obtain ⟨_, _, ⟨T88, L88, k88, n88⟩, -, X88, ⟨Lc88, hQ88, l88, y88, z88⟩, st88⟩ := Jvm.LawKit.callS X87 hx (y := (⟨"com/example/sharp_nose/sharpnose/BinaryData", "foundIn", "([B)Z"⟩ : MethodName)) hown (mvT hZ (hw _ (List.mem_of_getElem? (i := 2) rfl))) (mvT hZ (hw _ (List.mem_of_getElem? (i := 3) rfl))) (mvT hZ (hw _ (List.mem_of_getElem? (i := 4) rfl))) (mvT hZ (hw _ (List.mem_of_getElem? (i := 5) rfl))) (by decide) (backOf (W := 0) (rmF4 l Z a0 hw [] b58 at_ k58 (p2.toInt8.toInt32) (p3.toInt8.toInt32) (p4.toInt8.toInt32) (p5.toInt8.toInt32) (1 : Int32) h87 n0 Z87 Av_b58 S_t Tb (by simp [hs63, hs68])) hZ (hw _ (List.mem_of_getElem? (i := 5) rfl)) (hw _ (List.mem_of_getElem? (i := 4) rfl)) (by decide) (by decide)) (g := (mkF m 188 #[.val (.int p1), .val (.int p2), .val (.int p3), .val (.int p4), .val (.int p5), .val (.int (4 : Int32)), .val (.ref b1), .val (.ref b58), .val (.int (1 : Int32))] [(.ref b58)])) rfl (by rw [hml]; rfl) (argsL := [(.ref b58)]) (rest := []) (lenOf own_pd0 rfl) rfl (by show 2 * 0 + _ ≤ _; exact Nat.le_of_eq rfl) (hb hby at_188) (fun _ _ => ⟨rfl, e87, (by decide : 2 + 0 ≤ _), (by decide : 8 + 0 ≤ _)⟩)
        dsimp only [Pt.U, Pt.locs, Pt.cells, Pt.slots] at X88 l88 y88 z88 st88 hQ88
        subst l88 y88 z88
        obtain ⟨rfl, N88q, e88⟩ := hQ88
        have N88 := Fr.app N87 N88q
        refine own_go (A := T88.setTop (mkF m 191 #[.val (.int p1), .val (.int p2), .val (.int p3), .val (.int p4), .val (.int p5), .val (.int (4 : Int32)), .val (.ref b1), .val (.ref b58), .val (.int (1 : Int32))] [(.int (1 : Int32))])) (fun _ kz => st88 _ kz) ?_
        refine own_go (A := T88.setTop (mkF m 201 #[.val (.int p1), .val (.int p2), .val (.int p3), .val (.int p4), .val (.int p5), .val (.int (4 : Int32)), .val (.ref b1), .val (.ref b58), .val (.int (1 : Int32))] [(.int (1 : Int32))])) (fun _ kz => ?_) ?_
        · show Steps p.tables e below (T88.setTop (mkF m 191 #[.val (.int p1), .val (.int p2), .val (.int p3), .val (.int p4), .val (.int p5), .val (.int (4 : Int32)), .val (.ref b1), .val (.ref b58), .val (.int (1 : Int32))] [(.int (1 : Int32))])) _
          refine XS.iload X88.here hx rfl (hb hby at_191) rfl ?_
          show Steps p.tables e below (T88.setTop (mkF m 193 #[.val (.int p1), .val (.int p2), .val (.int p3), .val (.int p4), .val (.int p5), .val (.int (4 : Int32)), .val (.ref b1), .val (.ref b58), .val (.int (1 : Int32))] [(.int (1 : Int32)), (.int (1 : Int32))])) _
          refine XS.icmpNo X88.here hx rfl (hb hby at_193) rfl (teq (by decide : ((1 : Int32) = (1 : Int32)))).2 ?_
          show Steps p.tables e below (T88.setTop (mkF m 196 #[.val (.int p1), .val (.int p2), .val (.int p3), .val (.int p4), .val (.int p5), .val (.int (4 : Int32)), .val (.ref b1), .val (.ref b58), .val (.int (1 : Int32))] [])) _
          refine XS.iconst X88.here hx rfl (hb hby at_196) ?_
          show Steps p.tables e below (T88.setTop (mkF m 197 #[.val (.int p1), .val (.int p2), .val (.int p3), .val (.int p4), .val (.int p5), .val (.int (4 : Int32)), .val (.ref b1), .val (.ref b58), .val (.int (1 : Int32))] [(.int (1 : Int32))])) _
          refine XS.goto X88.here hx rfl (pc0 := 197) (pc' := 201) rfl (hb hby at_197) (by decide) (by decide) ?_
          exact kz
        obtain ⟨fs, hrr, hrun, hended, hW, hsame⟩ := X88.leave (v := some (.int (1 : Int32))) (fun h => by rw [Bd.returns] at h; cases h)
        refine ⟨_, _, ?_, hrun, hended, _, _, rfl, ?_, ⟨_, rfl⟩, hW, hsame.mono (by decide) (by decide)⟩
        · show Steps p.tables e below (T88.setTop (mkF m 201 #[.val (.int p1), .val (.int p2), .val (.int p3), .val (.int p4), .val (.int p5), .val (.int (4 : Int32)), .val (.ref b1), .val (.ref b58), .val (.int (1 : Int32))] [(.int (1 : Int32))])) _
          exact retN X88 hx (t := .boolean) Bd.returns (by simp) (hb hby at_201) hrr
        · show Qrm0 Z p1 p2 p3 p4 p5 at_ h0 n0 _ T88.heap _
          rw [e88]
          exact ⟨rfl, N88⟩
    · skip
      refine own_go (A := T62.setTop (mkF m 71 #[.val (.int p1), .val (.int p2), .val (.int p3), .val (.int p4), .val (.int p5), .val (.int (4 : Int32)), .val (.ref b1), .val (.ref b58), .val (.int (0 : Int32))] [])) (fun _ kz => ?_) ?_
      · show Steps p.tables e below (T62.setTop (mkF m 68 #[.val (.int p1), .val (.int p2), .val (.int p3), .val (.int p4), .val (.int p5), .val (.int (4 : Int32)), .val (.ref b1), .val (.ref b58), .val (.int (0 : Int32))] [(.int (own_tv ((p2.toInt8.toInt32) &&& (255 : Int32))))])) _
        refine XS.ifNo X62.here hx rfl (hb hby at_68) rfl ((if0 _ _).trans (feq hs63).1) ?_
        exact kz
      refine own_go (A := T62.setTop (mkF m 90 #[.val (.int p1), .val (.int p2), .val (.int p3), .val (.int p4), .val (.int p5), .val (.int (4 : Int32)), .val (.ref b1), .val (.ref b58), .val (.int (1 : Int32))] [(.int (1 : Int32)), (.ref b1), (.int (1 : Int32)), (.ref b58)])) (fun _ kz => ?_) ?_
      · show Steps p.tables e below (T62.setTop (mkF m 71 #[.val (.int p1), .val (.int p2), .val (.int p3), .val (.int p4), .val (.int p5), .val (.int (4 : Int32)), .val (.ref b1), .val (.ref b58), .val (.int (0 : Int32))] [])) _
        refine XS.iconst X62.here hx rfl (hb hby at_71) ?_
        show Steps p.tables e below (T62.setTop (mkF m 72 #[.val (.int p1), .val (.int p2), .val (.int p3), .val (.int p4), .val (.int p5), .val (.int (4 : Int32)), .val (.ref b1), .val (.ref b58), .val (.int (0 : Int32))] [(.int (1 : Int32))])) _
        refine XS.goto X62.here hx rfl (pc0 := 72) (pc' := 76) rfl (hb hby at_72) (by decide) (by decide) ?_
        show Steps p.tables e below (T62.setTop (mkF m 76 #[.val (.int p1), .val (.int p2), .val (.int p3), .val (.int p4), .val (.int p5), .val (.int (4 : Int32)), .val (.ref b1), .val (.ref b58), .val (.int (0 : Int32))] [(.int (1 : Int32))])) _
        refine XS.istore X62.here hx rfl (hb hby at_76) rfl (l' := #[.val (.int p1), .val (.int p2), .val (.int p3), .val (.int p4), .val (.int p5), .val (.int (4 : Int32)), .val (.ref b1), .val (.ref b58), .val (.int (1 : Int32))]) rfl ?_
        show Steps p.tables e below (T62.setTop (mkF m 78 #[.val (.int p1), .val (.int p2), .val (.int p3), .val (.int p4), .val (.int p5), .val (.int (4 : Int32)), .val (.ref b1), .val (.ref b58), .val (.int (1 : Int32))] [])) _
        refine XS.iload X62.here hx rfl (hb hby at_78) rfl ?_
        show Steps p.tables e below (T62.setTop (mkF m 80 #[.val (.int p1), .val (.int p2), .val (.int p3), .val (.int p4), .val (.int p5), .val (.int (4 : Int32)), .val (.ref b1), .val (.ref b58), .val (.int (1 : Int32))] [(.int (4 : Int32))])) _
        refine XS.iconst X62.here hx rfl (hb hby at_80) ?_
        show Steps p.tables e below (T62.setTop (mkF m 81 #[.val (.int p1), .val (.int p2), .val (.int p3), .val (.int p4), .val (.int p5), .val (.int (4 : Int32)), .val (.ref b1), .val (.ref b58), .val (.int (1 : Int32))] [(.int (1 : Int32)), (.int (4 : Int32))])) _
        refine XS.icmpNo X62.here hx rfl (hb hby at_81) rfl (tlt (by decide : ((1 : Int32) < (4 : Int32)))).2.2.2 ?_
        show Steps p.tables e below (T62.setTop (mkF m 84 #[.val (.int p1), .val (.int p2), .val (.int p3), .val (.int p4), .val (.int p5), .val (.int (4 : Int32)), .val (.ref b1), .val (.ref b58), .val (.int (1 : Int32))] [])) _
        refine XS.aload X62.here hx rfl (hb hby at_84) rfl rfl ?_
        show Steps p.tables e below (T62.setTop (mkF m 86 #[.val (.int p1), .val (.int p2), .val (.int p3), .val (.int p4), .val (.int p5), .val (.int (4 : Int32)), .val (.ref b1), .val (.ref b58), .val (.int (1 : Int32))] [(.ref b58)])) _
        refine XS.iconst X62.here hx rfl (hb hby at_86) ?_
        show Steps p.tables e below (T62.setTop (mkF m 87 #[.val (.int p1), .val (.int p2), .val (.int p3), .val (.int p4), .val (.int p5), .val (.int (4 : Int32)), .val (.ref b1), .val (.ref b58), .val (.int (1 : Int32))] [(.int (1 : Int32)), (.ref b58)])) _
        refine XS.aload X62.here hx rfl (hb hby at_87) rfl rfl ?_
        show Steps p.tables e below (T62.setTop (mkF m 89 #[.val (.int p1), .val (.int p2), .val (.int p3), .val (.int p4), .val (.int p5), .val (.int (4 : Int32)), .val (.ref b1), .val (.ref b58), .val (.int (1 : Int32))] [(.ref b1), (.int (1 : Int32)), (.ref b58)])) _
        refine XS.iconst X62.here hx rfl (hb hby at_89) ?_
        exact kz
      obtain ⟨cl89, Ar89, -, S89, M89, H89, -⟩ := id Av_b1
      have hin89 : ¬ ((1 : Int32) < 0 ∨ cl89.slots.size ≤ ((1 : Int32)).toNatClampNeg) := inb_of S89 ⟨by decide, by decide⟩
      have hat89 : cl89.slots[((1 : Int32)).toNatClampNeg]? = some (.int (p3.toInt8.toInt32)) := H89.at hin89 rfl
      refine own_go (A := T62.setTop (mkF m 91 #[.val (.int p1), .val (.int p2), .val (.int p3), .val (.int p4), .val (.int p5), .val (.int (4 : Int32)), .val (.ref b1), .val (.ref b58), .val (.int (1 : Int32))] [(.int (p3.toInt8.toInt32)), (.int (1 : Int32)), (.ref b58)])) (fun _ kz => ?_) ?_
      · refine X62.baloadBytes hx (j := (1 : Int32)) (v := (.int (p3.toInt8.toInt32))) (by rw [e62]; exact Ar89.1) (State.isArrayOf_alike hZ.alike Ar89.2.1) Ar89.2.2 hin89 hat89 (g := (mkF m 90 #[.val (.int p1), .val (.int p2), .val (.int p3), .val (.int p4), .val (.int p5), .val (.int (4 : Int32)), .val (.ref b1), .val (.ref b58), .val (.int (1 : Int32))] [(.int (1 : Int32)), (.ref b1), (.int (1 : Int32)), (.ref b58)])) rfl rfl (hb hby at_90) _ ?_
        exact kz
      obtain ⟨cl90, Ar90, q90, S90, M90, H90, G90⟩ := id Av_b58
      have hin90 : ¬ ((1 : Int32) < 0 ∨ cl90.slots.size ≤ ((1 : Int32)).toNatClampNeg) := inb_of S90 ⟨by decide, by decide⟩
      obtain ⟨T90, h90, X90, e90, W90, st90⟩ := stB X62 hx hZ e62 Ar90 (j := (1 : Int32)) hin90 (g := (mkF m 91 #[.val (.int p1), .val (.int p2), .val (.int p3), .val (.int p4), .val (.int p5), .val (.int (4 : Int32)), .val (.ref b1), .val (.ref b58), .val (.int (1 : Int32))] [(.int (p3.toInt8.toInt32)), (.int (1 : Int32)), (.ref b58)])) rfl rfl (hb hby at_91)
      rw [own_nbn] at W90
      have Aw90 := Arv.set Ar90 q90 S90 M90 H90 G90 (fits_nar_byte _) W90 1 rfl (Nat.le_of_ble_eq_true rfl)
      replace S_t := S_t.wr W90
      replace Tb := Tb.other W90 ne_at__b58
      replace Av_b1 := Av_b1.other W90 ne_b1_b58
      have Z90 : n0 ≤ h90.size := Nat.le_trans Z60 (Keep.of_wr W90).1
      have Av_b58 : Arv Z h90 b58 k58 .byte (4 : Int32) [(.int (p2.toInt8.toInt32)), (.int (p3.toInt8.toInt32)), (.int (0 : Int32)), (.int (0 : Int32))] (.int (0 : Int32)) := Aw90
      have N90 := Fr.snoc X90 N62 g_b58
      refine own_go (A := T90.setTop (mkF m 92 #[.val (.int p1), .val (.int p2), .val (.int p3), .val (.int p4), .val (.int p5), .val (.int (4 : Int32)), .val (.ref b1), .val (.ref b58), .val (.int (1 : Int32))] [])) (fun _ kz => st90 _ kz) ?_
      refine own_go (A := T90.setTop (mkF m 126 #[.val (.int p1), .val (.int p2), .val (.int p3), .val (.int p4), .val (.int p5), .val (.int (4 : Int32)), .val (.ref b1), .val (.ref b58), .val (.int (1 : Int32))] [(.int (2 : Int32)), (.ref b1), (.int (2 : Int32)), (.ref b58)])) (fun _ kz => ?_) ?_
      · show Steps p.tables e below (T90.setTop (mkF m 92 #[.val (.int p1), .val (.int p2), .val (.int p3), .val (.int p4), .val (.int p5), .val (.int (4 : Int32)), .val (.ref b1), .val (.ref b58), .val (.int (1 : Int32))] [])) _
        refine XS.iload X90.here hx rfl (hb hby at_92) rfl ?_
        show Steps p.tables e below (T90.setTop (mkF m 94 #[.val (.int p1), .val (.int p2), .val (.int p3), .val (.int p4), .val (.int p5), .val (.int (4 : Int32)), .val (.ref b1), .val (.ref b58), .val (.int (1 : Int32))] [(.int (1 : Int32))])) _
        refine XS.ifYes X90.here hx rfl (pc0 := 94) (pc' := 107) rfl (hb hby at_94) rfl ((if0 _ _).trans (feq (by decide : ¬ ((1 : Int32) = (0 : Int32)))).2) (by decide) (by decide) ?_
        show Steps p.tables e below (T90.setTop (mkF m 107 #[.val (.int p1), .val (.int p2), .val (.int p3), .val (.int p4), .val (.int p5), .val (.int (4 : Int32)), .val (.ref b1), .val (.ref b58), .val (.int (1 : Int32))] [])) _
        refine XS.iconst X90.here hx rfl (hb hby at_107) ?_
        show Steps p.tables e below (T90.setTop (mkF m 108 #[.val (.int p1), .val (.int p2), .val (.int p3), .val (.int p4), .val (.int p5), .val (.int (4 : Int32)), .val (.ref b1), .val (.ref b58), .val (.int (1 : Int32))] [(.int (1 : Int32))])) _
        refine XS.goto X90.here hx rfl (pc0 := 108) (pc' := 112) rfl (hb hby at_108) (by decide) (by decide) ?_
        show Steps p.tables e below (T90.setTop (mkF m 112 #[.val (.int p1), .val (.int p2), .val (.int p3), .val (.int p4), .val (.int p5), .val (.int (4 : Int32)), .val (.ref b1), .val (.ref b58), .val (.int (1 : Int32))] [(.int (1 : Int32))])) _
        refine XS.istore X90.here hx rfl (hb hby at_112) rfl (l' := #[.val (.int p1), .val (.int p2), .val (.int p3), .val (.int p4), .val (.int p5), .val (.int (4 : Int32)), .val (.ref b1), .val (.ref b58), .val (.int (1 : Int32))]) rfl ?_
        show Steps p.tables e below (T90.setTop (mkF m 114 #[.val (.int p1), .val (.int p2), .val (.int p3), .val (.int p4), .val (.int p5), .val (.int (4 : Int32)), .val (.ref b1), .val (.ref b58), .val (.int (1 : Int32))] [])) _
        refine XS.iload X90.here hx rfl (hb hby at_114) rfl ?_
        show Steps p.tables e below (T90.setTop (mkF m 116 #[.val (.int p1), .val (.int p2), .val (.int p3), .val (.int p4), .val (.int p5), .val (.int (4 : Int32)), .val (.ref b1), .val (.ref b58), .val (.int (1 : Int32))] [(.int (4 : Int32))])) _
        refine XS.iconst X90.here hx rfl (hb hby at_116) ?_
        show Steps p.tables e below (T90.setTop (mkF m 117 #[.val (.int p1), .val (.int p2), .val (.int p3), .val (.int p4), .val (.int p5), .val (.int (4 : Int32)), .val (.ref b1), .val (.ref b58), .val (.int (1 : Int32))] [(.int (2 : Int32)), (.int (4 : Int32))])) _
        refine XS.icmpNo X90.here hx rfl (hb hby at_117) rfl (tlt (by decide : ((2 : Int32) < (4 : Int32)))).2.2.2 ?_
        show Steps p.tables e below (T90.setTop (mkF m 120 #[.val (.int p1), .val (.int p2), .val (.int p3), .val (.int p4), .val (.int p5), .val (.int (4 : Int32)), .val (.ref b1), .val (.ref b58), .val (.int (1 : Int32))] [])) _
        refine XS.aload X90.here hx rfl (hb hby at_120) rfl rfl ?_
        show Steps p.tables e below (T90.setTop (mkF m 122 #[.val (.int p1), .val (.int p2), .val (.int p3), .val (.int p4), .val (.int p5), .val (.int (4 : Int32)), .val (.ref b1), .val (.ref b58), .val (.int (1 : Int32))] [(.ref b58)])) _
        refine XS.iconst X90.here hx rfl (hb hby at_122) ?_
        show Steps p.tables e below (T90.setTop (mkF m 123 #[.val (.int p1), .val (.int p2), .val (.int p3), .val (.int p4), .val (.int p5), .val (.int (4 : Int32)), .val (.ref b1), .val (.ref b58), .val (.int (1 : Int32))] [(.int (2 : Int32)), (.ref b58)])) _
        refine XS.aload X90.here hx rfl (hb hby at_123) rfl rfl ?_
        show Steps p.tables e below (T90.setTop (mkF m 125 #[.val (.int p1), .val (.int p2), .val (.int p3), .val (.int p4), .val (.int p5), .val (.int (4 : Int32)), .val (.ref b1), .val (.ref b58), .val (.int (1 : Int32))] [(.ref b1), (.int (2 : Int32)), (.ref b58)])) _
        refine XS.iconst X90.here hx rfl (hb hby at_125) ?_
        exact kz
      obtain ⟨cl91, Ar91, -, S91, M91, H91, -⟩ := id Av_b1
      have hin91 : ¬ ((2 : Int32) < 0 ∨ cl91.slots.size ≤ ((2 : Int32)).toNatClampNeg) := inb_of S91 ⟨by decide, by decide⟩
      have hat91 : cl91.slots[((2 : Int32)).toNatClampNeg]? = some (.int (p4.toInt8.toInt32)) := H91.at hin91 rfl
      refine own_go (A := T90.setTop (mkF m 127 #[.val (.int p1), .val (.int p2), .val (.int p3), .val (.int p4), .val (.int p5), .val (.int (4 : Int32)), .val (.ref b1), .val (.ref b58), .val (.int (1 : Int32))] [(.int (p4.toInt8.toInt32)), (.int (2 : Int32)), (.ref b58)])) (fun _ kz => ?_) ?_
      · refine X90.baloadBytes hx (j := (2 : Int32)) (v := (.int (p4.toInt8.toInt32))) (by rw [e90]; exact Ar91.1) (State.isArrayOf_alike hZ.alike Ar91.2.1) Ar91.2.2 hin91 hat91 (g := (mkF m 126 #[.val (.int p1), .val (.int p2), .val (.int p3), .val (.int p4), .val (.int p5), .val (.int (4 : Int32)), .val (.ref b1), .val (.ref b58), .val (.int (1 : Int32))] [(.int (2 : Int32)), (.ref b1), (.int (2 : Int32)), (.ref b58)])) rfl rfl (hb hby at_126) _ ?_
        exact kz
      obtain ⟨cl92, Ar92, q92, S92, M92, H92, G92⟩ := id Av_b58
      have hin92 : ¬ ((2 : Int32) < 0 ∨ cl92.slots.size ≤ ((2 : Int32)).toNatClampNeg) := inb_of S92 ⟨by decide, by decide⟩
      obtain ⟨T92, h92, X92, e92, W92, st92⟩ := stB X90 hx hZ e90 Ar92 (j := (2 : Int32)) hin92 (g := (mkF m 127 #[.val (.int p1), .val (.int p2), .val (.int p3), .val (.int p4), .val (.int p5), .val (.int (4 : Int32)), .val (.ref b1), .val (.ref b58), .val (.int (1 : Int32))] [(.int (p4.toInt8.toInt32)), (.int (2 : Int32)), (.ref b58)])) rfl rfl (hb hby at_127)
      rw [own_nbn] at W92
      have Aw92 := Arv.set Ar92 q92 S92 M92 H92 G92 (fits_nar_byte _) W92 2 rfl (Nat.le_of_ble_eq_true rfl)
      replace S_t := S_t.wr W92
      replace Tb := Tb.other W92 ne_at__b58
      replace Av_b1 := Av_b1.other W92 ne_b1_b58
      have Z92 : n0 ≤ h92.size := Nat.le_trans Z90 (Keep.of_wr W92).1
      have Av_b58 : Arv Z h92 b58 k58 .byte (4 : Int32) [(.int (p2.toInt8.toInt32)), (.int (p3.toInt8.toInt32)), (.int (p4.toInt8.toInt32)), (.int (0 : Int32))] (.int (0 : Int32)) := Aw92
      have N92 := Fr.snoc X92 N90 g_b58
      refine own_go (A := T92.setTop (mkF m 128 #[.val (.int p1), .val (.int p2), .val (.int p3), .val (.int p4), .val (.int p5), .val (.int (4 : Int32)), .val (.ref b1), .val (.ref b58), .val (.int (1 : Int32))] [])) (fun _ kz => st92 _ kz) ?_
      refine own_go (A := T92.setTop (mkF m 162 #[.val (.int p1), .val (.int p2), .val (.int p3), .val (.int p4), .val (.int p5), .val (.int (4 : Int32)), .val (.ref b1), .val (.ref b58), .val (.int (1 : Int32))] [(.int (3 : Int32)), (.ref b1), (.int (3 : Int32)), (.ref b58)])) (fun _ kz => ?_) ?_
      · show Steps p.tables e below (T92.setTop (mkF m 128 #[.val (.int p1), .val (.int p2), .val (.int p3), .val (.int p4), .val (.int p5), .val (.int (4 : Int32)), .val (.ref b1), .val (.ref b58), .val (.int (1 : Int32))] [])) _
        refine XS.iload X92.here hx rfl (hb hby at_128) rfl ?_
        show Steps p.tables e below (T92.setTop (mkF m 130 #[.val (.int p1), .val (.int p2), .val (.int p3), .val (.int p4), .val (.int p5), .val (.int (4 : Int32)), .val (.ref b1), .val (.ref b58), .val (.int (1 : Int32))] [(.int (1 : Int32))])) _
        refine XS.ifYes X92.here hx rfl (pc0 := 130) (pc' := 143) rfl (hb hby at_130) rfl ((if0 _ _).trans (feq (by decide : ¬ ((1 : Int32) = (0 : Int32)))).2) (by decide) (by decide) ?_
        show Steps p.tables e below (T92.setTop (mkF m 143 #[.val (.int p1), .val (.int p2), .val (.int p3), .val (.int p4), .val (.int p5), .val (.int (4 : Int32)), .val (.ref b1), .val (.ref b58), .val (.int (1 : Int32))] [])) _
        refine XS.iconst X92.here hx rfl (hb hby at_143) ?_
        show Steps p.tables e below (T92.setTop (mkF m 144 #[.val (.int p1), .val (.int p2), .val (.int p3), .val (.int p4), .val (.int p5), .val (.int (4 : Int32)), .val (.ref b1), .val (.ref b58), .val (.int (1 : Int32))] [(.int (1 : Int32))])) _
        refine XS.goto X92.here hx rfl (pc0 := 144) (pc' := 148) rfl (hb hby at_144) (by decide) (by decide) ?_
        show Steps p.tables e below (T92.setTop (mkF m 148 #[.val (.int p1), .val (.int p2), .val (.int p3), .val (.int p4), .val (.int p5), .val (.int (4 : Int32)), .val (.ref b1), .val (.ref b58), .val (.int (1 : Int32))] [(.int (1 : Int32))])) _
        refine XS.istore X92.here hx rfl (hb hby at_148) rfl (l' := #[.val (.int p1), .val (.int p2), .val (.int p3), .val (.int p4), .val (.int p5), .val (.int (4 : Int32)), .val (.ref b1), .val (.ref b58), .val (.int (1 : Int32))]) rfl ?_
        show Steps p.tables e below (T92.setTop (mkF m 150 #[.val (.int p1), .val (.int p2), .val (.int p3), .val (.int p4), .val (.int p5), .val (.int (4 : Int32)), .val (.ref b1), .val (.ref b58), .val (.int (1 : Int32))] [])) _
        refine XS.iload X92.here hx rfl (hb hby at_150) rfl ?_
        show Steps p.tables e below (T92.setTop (mkF m 152 #[.val (.int p1), .val (.int p2), .val (.int p3), .val (.int p4), .val (.int p5), .val (.int (4 : Int32)), .val (.ref b1), .val (.ref b58), .val (.int (1 : Int32))] [(.int (4 : Int32))])) _
        refine XS.iconst X92.here hx rfl (hb hby at_152) ?_
        show Steps p.tables e below (T92.setTop (mkF m 153 #[.val (.int p1), .val (.int p2), .val (.int p3), .val (.int p4), .val (.int p5), .val (.int (4 : Int32)), .val (.ref b1), .val (.ref b58), .val (.int (1 : Int32))] [(.int (3 : Int32)), (.int (4 : Int32))])) _
        refine XS.icmpNo X92.here hx rfl (hb hby at_153) rfl (tlt (by decide : ((3 : Int32) < (4 : Int32)))).2.2.2 ?_
        show Steps p.tables e below (T92.setTop (mkF m 156 #[.val (.int p1), .val (.int p2), .val (.int p3), .val (.int p4), .val (.int p5), .val (.int (4 : Int32)), .val (.ref b1), .val (.ref b58), .val (.int (1 : Int32))] [])) _
        refine XS.aload X92.here hx rfl (hb hby at_156) rfl rfl ?_
        show Steps p.tables e below (T92.setTop (mkF m 158 #[.val (.int p1), .val (.int p2), .val (.int p3), .val (.int p4), .val (.int p5), .val (.int (4 : Int32)), .val (.ref b1), .val (.ref b58), .val (.int (1 : Int32))] [(.ref b58)])) _
        refine XS.iconst X92.here hx rfl (hb hby at_158) ?_
        show Steps p.tables e below (T92.setTop (mkF m 159 #[.val (.int p1), .val (.int p2), .val (.int p3), .val (.int p4), .val (.int p5), .val (.int (4 : Int32)), .val (.ref b1), .val (.ref b58), .val (.int (1 : Int32))] [(.int (3 : Int32)), (.ref b58)])) _
        refine XS.aload X92.here hx rfl (hb hby at_159) rfl rfl ?_
        show Steps p.tables e below (T92.setTop (mkF m 161 #[.val (.int p1), .val (.int p2), .val (.int p3), .val (.int p4), .val (.int p5), .val (.int (4 : Int32)), .val (.ref b1), .val (.ref b58), .val (.int (1 : Int32))] [(.ref b1), (.int (3 : Int32)), (.ref b58)])) _
        refine XS.iconst X92.here hx rfl (hb hby at_161) ?_
        exact kz
      obtain ⟨cl93, Ar93, -, S93, M93, H93, -⟩ := id Av_b1
      have hin93 : ¬ ((3 : Int32) < 0 ∨ cl93.slots.size ≤ ((3 : Int32)).toNatClampNeg) := inb_of S93 ⟨by decide, by decide⟩
      have hat93 : cl93.slots[((3 : Int32)).toNatClampNeg]? = some (.int (p5.toInt8.toInt32)) := H93.at hin93 rfl
      refine own_go (A := T92.setTop (mkF m 163 #[.val (.int p1), .val (.int p2), .val (.int p3), .val (.int p4), .val (.int p5), .val (.int (4 : Int32)), .val (.ref b1), .val (.ref b58), .val (.int (1 : Int32))] [(.int (p5.toInt8.toInt32)), (.int (3 : Int32)), (.ref b58)])) (fun _ kz => ?_) ?_
      · refine X92.baloadBytes hx (j := (3 : Int32)) (v := (.int (p5.toInt8.toInt32))) (by rw [e92]; exact Ar93.1) (State.isArrayOf_alike hZ.alike Ar93.2.1) Ar93.2.2 hin93 hat93 (g := (mkF m 162 #[.val (.int p1), .val (.int p2), .val (.int p3), .val (.int p4), .val (.int p5), .val (.int (4 : Int32)), .val (.ref b1), .val (.ref b58), .val (.int (1 : Int32))] [(.int (3 : Int32)), (.ref b1), (.int (3 : Int32)), (.ref b58)])) rfl rfl (hb hby at_162) _ ?_
        exact kz
      obtain ⟨cl94, Ar94, q94, S94, M94, H94, G94⟩ := id Av_b58
      have hin94 : ¬ ((3 : Int32) < 0 ∨ cl94.slots.size ≤ ((3 : Int32)).toNatClampNeg) := inb_of S94 ⟨by decide, by decide⟩
      obtain ⟨T94, h94, X94, e94, W94, st94⟩ := stB X92 hx hZ e92 Ar94 (j := (3 : Int32)) hin94 (g := (mkF m 163 #[.val (.int p1), .val (.int p2), .val (.int p3), .val (.int p4), .val (.int p5), .val (.int (4 : Int32)), .val (.ref b1), .val (.ref b58), .val (.int (1 : Int32))] [(.int (p5.toInt8.toInt32)), (.int (3 : Int32)), (.ref b58)])) rfl rfl (hb hby at_163)
      rw [own_nbn] at W94
      have Aw94 := Arv.set Ar94 q94 S94 M94 H94 G94 (fits_nar_byte _) W94 3 rfl (Nat.le_of_ble_eq_true rfl)
      replace S_t := S_t.wr W94
      replace Tb := Tb.other W94 ne_at__b58
      replace Av_b1 := Av_b1.other W94 ne_b1_b58
      have Z94 : n0 ≤ h94.size := Nat.le_trans Z92 (Keep.of_wr W94).1
      have Av_b58 : Arv Z h94 b58 k58 .byte (4 : Int32) [(.int (p2.toInt8.toInt32)), (.int (p3.toInt8.toInt32)), (.int (p4.toInt8.toInt32)), (.int (p5.toInt8.toInt32))] (.int (0 : Int32)) := Aw94
      have N94 := Fr.snoc X94 N92 g_b58
      refine own_go (A := T94.setTop (mkF m 164 #[.val (.int p1), .val (.int p2), .val (.int p3), .val (.int p4), .val (.int p5), .val (.int (4 : Int32)), .val (.ref b1), .val (.ref b58), .val (.int (1 : Int32))] [])) (fun _ kz => st94 _ kz) ?_
      refine own_go (A := T94.setTop (mkF m 188 #[.val (.int p1), .val (.int p2), .val (.int p3), .val (.int p4), .val (.int p5), .val (.int (4 : Int32)), .val (.ref b1), .val (.ref b58), .val (.int (1 : Int32))] [(.ref b58)])) (fun _ kz => ?_) ?_
      · show Steps p.tables e below (T94.setTop (mkF m 164 #[.val (.int p1), .val (.int p2), .val (.int p3), .val (.int p4), .val (.int p5), .val (.int (4 : Int32)), .val (.ref b1), .val (.ref b58), .val (.int (1 : Int32))] [])) _
        refine XS.iload X94.here hx rfl (hb hby at_164) rfl ?_
        show Steps p.tables e below (T94.setTop (mkF m 166 #[.val (.int p1), .val (.int p2), .val (.int p3), .val (.int p4), .val (.int p5), .val (.int (4 : Int32)), .val (.ref b1), .val (.ref b58), .val (.int (1 : Int32))] [(.int (1 : Int32))])) _
        refine XS.ifYes X94.here hx rfl (pc0 := 166) (pc' := 179) rfl (hb hby at_166) rfl ((if0 _ _).trans (feq (by decide : ¬ ((1 : Int32) = (0 : Int32)))).2) (by decide) (by decide) ?_
        show Steps p.tables e below (T94.setTop (mkF m 179 #[.val (.int p1), .val (.int p2), .val (.int p3), .val (.int p4), .val (.int p5), .val (.int (4 : Int32)), .val (.ref b1), .val (.ref b58), .val (.int (1 : Int32))] [])) _
        refine XS.iconst X94.here hx rfl (hb hby at_179) ?_
        show Steps p.tables e below (T94.setTop (mkF m 180 #[.val (.int p1), .val (.int p2), .val (.int p3), .val (.int p4), .val (.int p5), .val (.int (4 : Int32)), .val (.ref b1), .val (.ref b58), .val (.int (1 : Int32))] [(.int (1 : Int32))])) _
        refine XS.goto X94.here hx rfl (pc0 := 180) (pc' := 184) rfl (hb hby at_180) (by decide) (by decide) ?_
        show Steps p.tables e below (T94.setTop (mkF m 184 #[.val (.int p1), .val (.int p2), .val (.int p3), .val (.int p4), .val (.int p5), .val (.int (4 : Int32)), .val (.ref b1), .val (.ref b58), .val (.int (1 : Int32))] [(.int (1 : Int32))])) _
        refine XS.istore X94.here hx rfl (hb hby at_184) rfl (l' := #[.val (.int p1), .val (.int p2), .val (.int p3), .val (.int p4), .val (.int p5), .val (.int (4 : Int32)), .val (.ref b1), .val (.ref b58), .val (.int (1 : Int32))]) rfl ?_
        show Steps p.tables e below (T94.setTop (mkF m 186 #[.val (.int p1), .val (.int p2), .val (.int p3), .val (.int p4), .val (.int p5), .val (.int (4 : Int32)), .val (.ref b1), .val (.ref b58), .val (.int (1 : Int32))] [])) _
        refine XS.aload X94.here hx rfl (hb hby at_186) rfl rfl ?_
        exact kz
      obtain ⟨_, _, ⟨T95, L95, k95, n95⟩, -, X95, ⟨Lc95, hQ95, l95, y95, z95⟩, st95⟩ := Jvm.LawKit.callS X94 hx (y := (⟨"com/example/sharp_nose/sharpnose/BinaryData", "foundIn", "([B)Z"⟩ : MethodName)) hown (mvT hZ (hw _ (List.mem_of_getElem? (i := 2) rfl))) (mvT hZ (hw _ (List.mem_of_getElem? (i := 3) rfl))) (mvT hZ (hw _ (List.mem_of_getElem? (i := 4) rfl))) (mvT hZ (hw _ (List.mem_of_getElem? (i := 5) rfl))) (by decide) (backOf (W := 0) (rmF4 l Z a0 hw [] b58 at_ k58 (p2.toInt8.toInt32) (p3.toInt8.toInt32) (p4.toInt8.toInt32) (p5.toInt8.toInt32) (1 : Int32) h94 n0 Z94 Av_b58 S_t Tb (by simp [hs63])) hZ (hw _ (List.mem_of_getElem? (i := 5) rfl)) (hw _ (List.mem_of_getElem? (i := 4) rfl)) (by decide) (by decide)) (g := (mkF m 188 #[.val (.int p1), .val (.int p2), .val (.int p3), .val (.int p4), .val (.int p5), .val (.int (4 : Int32)), .val (.ref b1), .val (.ref b58), .val (.int (1 : Int32))] [(.ref b58)])) rfl (by rw [hml]; rfl) (argsL := [(.ref b58)]) (rest := []) (lenOf own_pd0 rfl) rfl (by show 2 * 0 + _ ≤ _; exact Nat.le_of_eq rfl) (hb hby at_188) (fun _ _ => ⟨rfl, e94, (by decide : 2 + 0 ≤ _), (by decide : 8 + 0 ≤ _)⟩)
      dsimp only [Pt.U, Pt.locs, Pt.cells, Pt.slots] at X95 l95 y95 z95 st95 hQ95
      subst l95 y95 z95
      obtain ⟨rfl, N95q, e95⟩ := hQ95
      have N95 := Fr.app N94 N95q
      refine own_go (A := T95.setTop (mkF m 191 #[.val (.int p1), .val (.int p2), .val (.int p3), .val (.int p4), .val (.int p5), .val (.int (4 : Int32)), .val (.ref b1), .val (.ref b58), .val (.int (1 : Int32))] [(.int (1 : Int32))])) (fun _ kz => st95 _ kz) ?_
      refine own_go (A := T95.setTop (mkF m 201 #[.val (.int p1), .val (.int p2), .val (.int p3), .val (.int p4), .val (.int p5), .val (.int (4 : Int32)), .val (.ref b1), .val (.ref b58), .val (.int (1 : Int32))] [(.int (1 : Int32))])) (fun _ kz => ?_) ?_
      · show Steps p.tables e below (T95.setTop (mkF m 191 #[.val (.int p1), .val (.int p2), .val (.int p3), .val (.int p4), .val (.int p5), .val (.int (4 : Int32)), .val (.ref b1), .val (.ref b58), .val (.int (1 : Int32))] [(.int (1 : Int32))])) _
        refine XS.iload X95.here hx rfl (hb hby at_191) rfl ?_
        show Steps p.tables e below (T95.setTop (mkF m 193 #[.val (.int p1), .val (.int p2), .val (.int p3), .val (.int p4), .val (.int p5), .val (.int (4 : Int32)), .val (.ref b1), .val (.ref b58), .val (.int (1 : Int32))] [(.int (1 : Int32)), (.int (1 : Int32))])) _
        refine XS.icmpNo X95.here hx rfl (hb hby at_193) rfl (teq (by decide : ((1 : Int32) = (1 : Int32)))).2 ?_
        show Steps p.tables e below (T95.setTop (mkF m 196 #[.val (.int p1), .val (.int p2), .val (.int p3), .val (.int p4), .val (.int p5), .val (.int (4 : Int32)), .val (.ref b1), .val (.ref b58), .val (.int (1 : Int32))] [])) _
        refine XS.iconst X95.here hx rfl (hb hby at_196) ?_
        show Steps p.tables e below (T95.setTop (mkF m 197 #[.val (.int p1), .val (.int p2), .val (.int p3), .val (.int p4), .val (.int p5), .val (.int (4 : Int32)), .val (.ref b1), .val (.ref b58), .val (.int (1 : Int32))] [(.int (1 : Int32))])) _
        refine XS.goto X95.here hx rfl (pc0 := 197) (pc' := 201) rfl (hb hby at_197) (by decide) (by decide) ?_
        exact kz
      obtain ⟨fs, hrr, hrun, hended, hW, hsame⟩ := X95.leave (v := some (.int (1 : Int32))) (fun h => by rw [Bd.returns] at h; cases h)
      refine ⟨_, _, ?_, hrun, hended, _, _, rfl, ?_, ⟨_, rfl⟩, hW, hsame.mono (by decide) (by decide)⟩
      · show Steps p.tables e below (T95.setTop (mkF m 201 #[.val (.int p1), .val (.int p2), .val (.int p3), .val (.int p4), .val (.int p5), .val (.int (4 : Int32)), .val (.ref b1), .val (.ref b58), .val (.int (1 : Int32))] [(.int (1 : Int32))])) _
        exact retN X95 hx (t := .boolean) Bd.returns (by simp) (hb hby at_201) hrr
      · show Qrm0 Z p1 p2 p3 p4 p5 at_ h0 n0 _ T95.heap _
        rw [e95]
        exact ⟨rfl, N95⟩
set_option maxRecDepth 65536 in
set_option maxHeartbeats 40000000 in
theorem comes_1 {Post : Tables → Env → Array Value → State → Outcome → State → Prop} (hpost : ∀ tb e args s v u, (limb_1_1.after args s (.returned v) u = true ∧ limb_1_2.after args s (.returned v) u = true ∧ True) → FrameEnd s (.returned v) u (Jvm.fieldLocs frame_1_writes args s ++ Jvm.arrayLocs frame_1_arrays args s ++ Jvm.staticLocs frame_1_statics s) 16 128 → Post tb e args s (.returned v) u) :
    ArmFor flags0 classFile x code maxLocals ret World_1 tables_1 room_1 Calls_1 rest_1 Pre_1 Post := by
  intro l hfl _ _ p e ha hc hk s m args below hf hA hF happ hP
  obtain ⟨hcalls, hrest, hpre⟩ := hP
  obtain ⟨-, -, -, hnamed, -, -, -, hat⟩ := (Spec.applies_iff hf).mp happ
  obtain ⟨hg, hn⟩ := and_e (Cond.before_iff.mp (show (Jvm.Cond.and given_1 narrow_1).before args s = true from hpre))
  obtain ⟨hcnt, hg1⟩ := and_e hg
  obtain ⟨ha0, hg2⟩ := and_e hg1
  obtain ⟨ha1, hg3⟩ := and_e hg2
  obtain ⟨ha2, hg4⟩ := and_e hg3
  obtain ⟨ha3, hg5⟩ := and_e hg4
  obtain ⟨w0, w1, w2, w3, w4, rfl⟩ : ∃ w0 w1 w2 w3 w4 : Value, args = #[w0, w1, w2, w3, w4] := by
    have hs : args.size = 5 := by simpa [Cond.value, given_1] using hcnt
    obtain ⟨L⟩ := args
    match L, hs with
    | [w0, w1, w2, w3, w4], _ => exact ⟨w0, w1, w2, w3, w4, rfl⟩
  have hw := fun d (hd : d ∈ tables_1) => atoms_spec (ws := Jvm.Cond.code x code maxLocals ret :: tables_1) hat d (List.mem_cons_of_mem _ hd)
  have hfit : Fit s := fun {y c} hc i hi => by
    obtain ⟨ha, rfl⟩ := Array.getElem?_eq_some_iff.mp hc
    have q := List.all_eq_true.mp ((Array.all_eq_true_iff_forall_mem.mp hF) _ (Array.getElem_mem ha)) i (List.mem_range.mpr hi)
    simpa [Array.getElem?_eq_getElem hi] using q
  obtain ⟨i0, ei0⟩ := is_v ha0
  obtain rfl : w0 = (.int i0) := Option.some.inj ei0
  obtain ⟨i1, ei1⟩ := is_v ha1
  obtain rfl : w1 = (.int i1) := Option.some.inj ei1
  obtain ⟨i2, ei2⟩ := is_v ha2
  obtain rfl : w2 = (.int i2) := Option.some.inj ei2
  obtain ⟨i3, ei3⟩ := is_v ha3
  obtain rfl : w3 = (.int i3) := Option.some.inj ei3
  obtain ⟨i4, ei4⟩ := is_v hg5
  obtain rfl : w4 = (.int i4) := Option.some.inj ei4
  obtain ⟨nw0, nw_0⟩ := and_e hn
  obtain ⟨nw1, nw_1⟩ := and_e nw_0
  obtain ⟨nw2, nw_2⟩ := and_e nw_1
  obtain ⟨nw3, nw_3⟩ := and_e nw_2
  obtain ⟨nw4, nw_4⟩ := and_e nw_3
  obtain ⟨nw5, nw_5⟩ := and_e nw_4
  obtain ⟨nw6, nw_6⟩ := and_e nw_5
  obtain ⟨nw7, nw_7⟩ := and_e nw_6
  obtain ⟨nw8, nw_8⟩ := and_e nw_7
  obtain ⟨nw9, nw_9⟩ := and_e nw_8
  obtain ⟨nw10, nw_10⟩ := and_e nw_9
  have nw11 := nw_10
  obtain ⟨at_, S_t, Tb⟩ := own_tabStart hfit nw0 nw1 nw2 nw3 nw4 nw5 nw6 nw7 nw8 nw9 nw10 nw11 (hw _ (List.mem_of_getElem? (i := 4) rfl)) (hw _ (List.mem_of_getElem? (i := 11) rfl))
  obtain ⟨n, o, h1, h2, h3, _, L, rfl, ⟨rfl, N⟩, hq⟩ := rm0 l s _ hw tables_1 i0 i1 i2 i3 i4 at_ s.heap s.heap.size (Nat.le_refl _) S_t Tb p e ha hc hk s m _ below hf ((Spec.applies_iff_loose hf).mp happ).1 ⟨rfl, State.Warmed39.refl s, rfl⟩ trivial
  refine ⟨n, _, h1, h2, h3, hpost _ _ _ _ _ _ ⟨Cond.after_iff.mpr rfl, Cond.after_iff.mpr (eq_i res_at (Term.int_eval (1)) rfl), trivial⟩ ⟨hq.1, hq.2.1, (hq.2.2.sift fun y hy => Or.inr (N y hy)).mono (by decide) (by decide)⟩⟩
theorem main_1_1 : Claimed_1_1 := comes_1 fun _ _ _ _ _ _ h hF => ⟨h.1, hF⟩
theorem main_1_2 : Claimed_1_2 := comes_1 fun _ _ _ _ _ _ h hF => ⟨h.2.1, hF⟩
end Jvm.Pilot.@@N@@
namespace Jvm.Pilot.@@N@@
open Jvm Jvm.ClassFile Sem Op Lib Jvm.Free Jvm.Stand Jvm.Pilot.@@N@@.Jvm.D
/-! MADE BY PROGRAM (witnessworld.py) out of the Statement's table words and the real class files: 11 classes; the members and pool entries that the words name. The judged class is class 1, her method 2. -/
namespace start1
open Jvm.ClassFile
def u (s : String) : CpInfo := .utf8 (stringToUtf16 s)
/-- a pool by its gaps: so many unusable entries, then the entry; so many at the end -/
def gap : Nat → List CpInfo → List CpInfo
  | 0, r => r
  | n + 1, r => .unusable :: gap n r
def poolList (es : List (Nat × CpInfo)) (last : Nat) : List CpInfo := es.foldr (fun e r => gap e.1 (e.2 :: r)) (gap last [])
def pool (es : List (Nat × CpInfo)) (last : Nat) : Array CpInfo := ⟨poolList es last⟩
def fileOf (pool : Array CpInfo) (this : Nat) (attrs : Array Attribute := #[]) (ms : Array MethodInfo := #[]) (fl : Nat := 33) (sup : Nat := 0) (ifs : Array Nat := #[]) (fds : Array FieldInfo := #[]) : ClassFile where
  minorVersion := 0
  majorVersion := 65
  constantPool := pool
  accessFlags := fl
  thisClass := this
  superClass := sup
  interfaces := ifs
  fields := fds
  methods := ms
  attributes := attrs
def plain (name : String) (sup : Option ClassId) : Class where
  name := name
  kind := .ordinary
  loader := none
  accessFlags := 33
  super := sup
  interfaces := #[]
  cf := none
  fields := #[]
  methods := #[]
  instanceTypes := #[]
  staticTypes := #[]
  resolved := #[]
  callSites := []
  init := .initialized
  statics := none
  mirror := none

def pool0 : Array CpInfo := pool [(5, u "<init>"), (0, u "()V"), (1, .class_ 10), (1, u "java/lang/Object")] 113

def k0m0 : Method := { name := "<init>", desc := "()V", sig := { parameters := [], returnType := none }, accessFlags := 1, code := none }
/-- java/lang/Object -/
def k0 : Class := { plain "java/lang/Object" none with
  accessFlags := 33
  interfaces := #[]
  cf := some (fileOf pool0 8 #[] #[{ accessFlags := 1, nameIndex := 5, descriptorIndex := 6, attributes := #[] }] 33 0 #[] #[])
  fields := #[]
  methods := #[k0m0]
  instanceTypes := #[]
  staticTypes := #[]
  resolved := Array.replicate 124 none
  statics := none }

def pool1 : Array CpInfo := pool [(2, .class_ 4), (1, u "java/lang/Object"), (0, u "<init>"), (0, u "()V"), (0, .integer 2147483647), (0, .methodref 9 10), (0, .class_ 11), (0, .nameAndType 12 13), (0, u "com/example/sharp_nose/sharpnose/BinaryDataFoundInPinLaw"), (0, u "bin"), (0, u "(B)Z"), (0, .methodref 15 16), (0, .class_ 17), (0, .nameAndType 18 19), (0, u "com/example/sharp_nose/sharpnose/BinaryData"), (0, u "foundIn"), (0, u "([B)Z"), (3, u "law"), (0, u "(IIIII)Z")] 4

def k1m0 : Method := { name := "<init>", desc := "()V", sig := { parameters := [], returnType := none }, accessFlags := 2, code := none }
def k1c1 : Code := { maxStack := 2, maxLocals := 2, code := method_2_code, exceptionTable := #[], attributes := #[] }
def k1m1 : Method := { name := "bin", desc := "(B)Z", sig := { parameters := [.byte], returnType := some .boolean }, accessFlags := 10, code := some k1c1 }
def k1c2 : Code := { maxStack := 4, maxLocals := 9, code := code, exceptionTable := #[], attributes := #[] }
def k1m2 : Method := { name := "law", desc := "(IIIII)Z", sig := { parameters := [.int, .int, .int, .int, .int], returnType := some .boolean }, accessFlags := 9, code := some k1c2 }
/-- com/example/sharp_nose/sharpnose/BinaryDataFoundInPinLaw -/
def k1 : Class := { plain "com/example/sharp_nose/sharpnose/BinaryDataFoundInPinLaw" (some 0) with
  accessFlags := 49
  interfaces := #[]
  cf := some (fileOf pool1 9 #[] #[{ accessFlags := 2, nameIndex := 5, descriptorIndex := 6, attributes := #[] }, { accessFlags := 10, nameIndex := 12, descriptorIndex := 13, attributes := #[] }, { accessFlags := 9, nameIndex := 23, descriptorIndex := 24, attributes := #[] }] 49 2 #[] #[])
  fields := #[]
  methods := #[k1m0, k1m1, k1m2]
  instanceTypes := #[]
  staticTypes := #[]
  resolved := Array.replicate 29 none
  statics := none }

def pool2 : Array CpInfo := pool [(2, .class_ 4), (1, u "java/lang/Object"), (0, u "<init>"), (0, u "()V"), (0, .fieldref 8 9), (0, .class_ 10), (0, .nameAndType 11 12), (0, u "com/example/sharp_nose/sharpnose/BinaryData"), (0, u "BINARY_DATA_BYTES"), (0, u "[Z"), (6, u "foundIn"), (0, u "([B)Z")] 7

def k2m0 : Method := { name := "<init>", desc := "()V", sig := { parameters := [], returnType := none }, accessFlags := 2, code := none }
def k2c1 : Code := { maxStack := 3, maxLocals := 5, code := prog_1_method_2_code, exceptionTable := #[], attributes := #[] }
def k2m1 : Method := { name := "foundIn", desc := "([B)Z", sig := { parameters := [(.array .byte)], returnType := some .boolean }, accessFlags := 9, code := some k2c1 }
/-- com/example/sharp_nose/sharpnose/BinaryData -/
def k2 : Class := { plain "com/example/sharp_nose/sharpnose/BinaryData" (some 0) with
  accessFlags := 49
  interfaces := #[]
  cf := some (fileOf pool2 8 #[] #[{ accessFlags := 2, nameIndex := 5, descriptorIndex := 6, attributes := #[] }, { accessFlags := 9, nameIndex := 19, descriptorIndex := 20, attributes := #[] }] 49 2 #[] #[{ accessFlags := 26, nameIndex := 11, descriptorIndex := 12, attributes := #[] }])
  fields := #[{ name := "BINARY_DATA_BYTES", type := (.array .boolean), accessFlags := 26, slot := 0, constantValue := 0 }]
  methods := #[k2m0, k2m1]
  instanceTypes := #[]
  staticTypes := #[(.array .boolean)]
  resolved := Array.replicate 28 none
  statics := some 0 }

def pool3 : Array CpInfo := pool [(1, u "java/lang/Cloneable"), (0, .class_ 1), (0, u "java/lang/Object"), (0, .class_ 3)] 3

/-- java/lang/Cloneable -/
def k3 : Class := { plain "java/lang/Cloneable" (some 0) with
  accessFlags := 1537
  interfaces := #[]
  cf := some (fileOf pool3 2 #[] #[] 1537 4 #[] #[])
  fields := #[]
  methods := #[]
  instanceTypes := #[]
  staticTypes := #[]
  resolved := Array.replicate 8 none
  statics := none }

def pool4 : Array CpInfo := pool [(1, u "java/io/Serializable"), (0, .class_ 1), (0, u "java/lang/Object"), (0, .class_ 3)] 3

/-- java/io/Serializable -/
def k4 : Class := { plain "java/io/Serializable" (some 0) with
  accessFlags := 1537
  interfaces := #[]
  cf := some (fileOf pool4 2 #[] #[] 1537 4 #[] #[])
  fields := #[]
  methods := #[]
  instanceTypes := #[]
  staticTypes := #[]
  resolved := Array.replicate 8 none
  statics := none }

/-- the primitive boolean -/
def k5 : Class := { plain "boolean" none with kind := .primitive 'Z', accessFlags := 0x411 }
/-- [Z -/
def k6 : Class := { plain "[Z" (some 0) with kind := .array 5 .boolean, interfaces := #[3, 4], accessFlags := 1041 }

/-- the primitive byte -/
def k7 : Class := { plain "byte" none with kind := .primitive 'B', accessFlags := 0x411 }
/-- [B -/
def k8 : Class := { plain "[B" (some 0) with kind := .array 7 .byte, interfaces := #[3, 4], accessFlags := 1041 }

/-- the primitive int -/
def k9 : Class := { plain "int" none with kind := .primitive 'I', accessFlags := 0x411 }
/-- [I -/
def k10 : Class := { plain "[I" (some 0) with kind := .array 9 .int, interfaces := #[3, 4], accessFlags := 1041 }

def heap : Heap := #[{ cls := 2, slots := #[.ref 1], vm := .statics 2 },
  { cls := 6, slots := #[.int 1, .int 1, .int 1, .int 1, .int 1, .int 1, .int 1, .int 1, .int 1, .int 0, .int 0, .int 1, .int 0, .int 0, .int 1, .int 1, .int 1, .int 1, .int 1, .int 1, .int 1, .int 1, .int 1, .int 1, .int 1, .int 1, .int 1, .int 0, .int 1, .int 1, .int 1, .int 1, .int 0, .int 0, .int 0, .int 0, .int 0, .int 0, .int 0, .int 0, .int 0, .int 0, .int 0, .int 0, .int 0, .int 0, .int 0, .int 0, .int 0, .int 0, .int 0, .int 0, .int 0, .int 0, .int 0, .int 0, .int 0, .int 0, .int 0, .int 0, .int 0, .int 0, .int 0, .int 0, .int 0, .int 0, .int 0, .int 0, .int 0, .int 0, .int 0, .int 0, .int 0, .int 0, .int 0, .int 0, .int 0, .int 0, .int 0, .int 0, .int 0, .int 0, .int 0, .int 0, .int 0, .int 0, .int 0, .int 0, .int 0, .int 0, .int 0, .int 0, .int 0, .int 0, .int 0, .int 0, .int 0, .int 0, .int 0, .int 0, .int 0, .int 0, .int 0, .int 0, .int 0, .int 0, .int 0, .int 0, .int 0, .int 0, .int 0, .int 0, .int 0, .int 0, .int 0, .int 0, .int 0, .int 0, .int 0, .int 0, .int 0, .int 0, .int 0, .int 0, .int 0, .int 0, .int 0, .int 0, .int 0, .int 0, .int 0, .int 0, .int 0, .int 0, .int 0, .int 0, .int 0, .int 0, .int 0, .int 0, .int 0, .int 0, .int 0, .int 0, .int 0, .int 0, .int 0, .int 0, .int 0, .int 0, .int 0, .int 0, .int 0, .int 0, .int 0, .int 0, .int 0, .int 0, .int 0, .int 0, .int 0, .int 0, .int 0, .int 0, .int 0, .int 0, .int 0, .int 0, .int 0, .int 0, .int 0, .int 0, .int 0, .int 0, .int 0, .int 0, .int 0, .int 0, .int 0, .int 0, .int 0, .int 0, .int 0, .int 0, .int 0, .int 0, .int 0, .int 0, .int 0, .int 0, .int 0, .int 0, .int 0, .int 0, .int 0, .int 0, .int 0, .int 0, .int 0, .int 0, .int 0, .int 0, .int 0, .int 0, .int 0, .int 0, .int 0, .int 0, .int 0, .int 0, .int 0, .int 0, .int 0, .int 0, .int 0, .int 0, .int 0, .int 0, .int 0, .int 0, .int 0, .int 0, .int 0, .int 0, .int 0, .int 0, .int 0, .int 0, .int 0, .int 0, .int 0, .int 0, .int 0, .int 0, .int 0, .int 0, .int 0, .int 0, .int 0, .int 0, .int 0, .int 0, .int 0, .int 0, .int 0, .int 0, .int 0, .int 0, .int 0, .int 0, .int 0, .int 0, .int 0, .int 0, .int 0, .int 0], vm := .none }]
def classes : Array Class := #[k0, k1, k2, k3, k4, k5, k6, k7, k8, k9, k10]
def interned : List (Array UInt16 × Addr) := []
def slotsUsed : Nat := 257
def theMethod : MethodId := ⟨1, 2⟩
def args0 : Array Value := #[.int 5, .int 5, .int 5, .int 5, .int 5]
def aboutOver (below : List Frame) : State where
  vm := { classes := classes, interned := interned.toArray }
  heap := heap
  slotsUsed := slotsUsed
  threads := #[{ frames := .invoking theMethod args0 :: below }]
def below0 : List Frame := [.native { method := ⟨0, 0⟩, args := #[] }]
def about1 : State := aboutOver below0
def p0 : Program := .bare "" "" ""
def e0 : Env := launch0.env 0 0 0
theorem w_frames : about1.frames = Frame.invoking theMethod args0 :: below0 := rfl
set_option maxRecDepth 65536 in
theorem w_args : argsFit about1.vm theMethod args0 = true := by decide +kernel
set_option maxRecDepth 65536 in
theorem w_heap : heapFits about1 = true := by decide +kernel
set_option maxRecDepth 65536 in
theorem w_runnable : about1.curStatus? = some .runnable := by decide +kernel
set_option maxRecDepth 65536 in
theorem w_alone : about1.alone = true := by decide +kernel
set_option maxRecDepth 65536 in
theorem w_named : about1.methodNamed? x = some theMethod := by decide +kernel
set_option maxRecDepth 65536 in
theorem w_hears : about1.hears theMethod below0 = true := by decide +kernel
set_option maxRecDepth 65536 in
theorem w_ripe : about1.ripe theMethod args0 below0 = true := by decide +kernel
theorem w_running : about1.status = .running := rfl
set_option maxRecDepth 65536 in
theorem w_room : about1.hasRoom e0.platform room_1 = true :=
  launch0.hasRoom_least _ room_1 (by decide +kernel) (by decide +kernel) (by decide +kernel) (by decide +kernel) (by decide +kernel) (by decide +kernel)
theorem allAtoms_all (ts : List Jvm.Cond) (a : Array Jvm.Value) (st : Jvm.State) : (allAtoms ts).before a st = ts.all (fun c => c.before a st) := by
  induction ts with
  | nil => rfl
  | cons c t ih =>
    show (Jvm.Cond.and c (allAtoms t)).before a st = _
    rw [Jvm.Cond.before_and, ih, List.all_cons]
def words1 : List Jvm.Cond := Jvm.Cond.code x code maxLocals ret :: tables_1
/-- a 'code' word, met by the world's own term for the bytes: nothing is compared byte by byte -/
theorem code_word {y : MethodName} {bytes : ByteArray} {mx : Nat} {rt : Option FieldType} {a : Array Value} {s : State} {m : MethodId} {meth : Method} {c : Code} (h1 : s.methodNamed? y = some m) (h2 : s.vm.method? m = some meth) (h3 : meth.code = some c) (h4 : c.code = bytes)
    (h5 : (c.maxLocals == mx && c.exceptionTable.isEmpty && decide (c.maxStack ≤ mostOperands) && decide (meth.sig.returnType = rt) && !meth.locks && decide (parseMethodDescriptor y.desc = some meth.sig)) = true) : (Jvm.Cond.code y bytes mx rt).before a s = true := by
  simp only [Bool.and_eq_true, beq_iff_eq, Bool.not_eq_true', decide_eq_true_eq] at h5
  obtain ⟨⟨⟨⟨⟨g1, g2⟩, g3⟩, g4⟩, g5⟩, g6⟩ := h5
  simp [Cond.before, Cond.holds, Cond.value, h1, h2, h3, h4, g1, g2, g3, g4, g5, g6]
def isCode : Jvm.Cond → Bool
  | .code _ _ _ _ => true
  | _ => false
theorem all_split {L : List Jvm.Cond} {P : Jvm.Cond → Bool} (h1 : L.all (fun c => isCode c || P c) = true) (h2 : ∀ c ∈ L.filter isCode, P c = true) : L.all P = true := by
  refine List.all_eq_true.mpr fun c hc => ?_
  have h := List.all_eq_true.mp h1 c hc
  rcases Bool.eq_false_or_eq_true (isCode c) with hi | hi
  · exact h2 c (List.mem_filter.mpr ⟨hc, hi⟩)
  · simpa [hi] using h
set_option maxRecDepth 65536 in
theorem w_c0 : (Jvm.Cond.code x code maxLocals ret).before args0 about1 = true := code_word (m := ⟨1, 2⟩) (meth := k1m2) (c := k1c2) (by decide +kernel) rfl rfl rfl (by decide +kernel)
set_option maxRecDepth 65536 in
theorem w_c1 : (Jvm.Cond.code ({ cls := "com/example/sharp_nose/sharpnose/BinaryData", name := "foundIn", desc := "([B)Z" } : Jvm.MethodName) prog_1_method_2_code (5 : Nat) (Option.some Jvm.ClassFile.FieldType.boolean)).before args0 about1 = true := code_word (m := ⟨2, 1⟩) (meth := k2m1) (c := k2c1) (by decide +kernel) rfl rfl rfl (by decide +kernel)
set_option maxRecDepth 65536 in
theorem w_c2 : (Jvm.Cond.code ({ cls := "com/example/sharp_nose/sharpnose/BinaryDataFoundInPinLaw", name := "bin", desc := "(B)Z" } : Jvm.MethodName) method_2_code (2 : Nat) (Option.some Jvm.ClassFile.FieldType.boolean)).before args0 about1 = true := code_word (m := ⟨1, 1⟩) (meth := k1m1) (c := k1c1) (by decide +kernel) rfl rfl rfl (by decide +kernel)
def codes1 : List Jvm.Cond := [Jvm.Cond.code x code maxLocals ret, Jvm.Cond.code ({ cls := "com/example/sharp_nose/sharpnose/BinaryData", name := "foundIn", desc := "([B)Z" } : Jvm.MethodName) prog_1_method_2_code (5 : Nat) (Option.some Jvm.ClassFile.FieldType.boolean), Jvm.Cond.code ({ cls := "com/example/sharp_nose/sharpnose/BinaryDataFoundInPinLaw", name := "bin", desc := "(B)Z" } : Jvm.MethodName) method_2_code (2 : Nat) (Option.some Jvm.ClassFile.FieldType.boolean)]
set_option maxRecDepth 65536 in
theorem codes_eq : words1.filter isCode = codes1 := rfl
theorem w_codes : ∀ c ∈ words1.filter isCode, c.before args0 about1 = true := by
  rw [codes_eq]
  intro c hc
  simp only [codes1, List.mem_cons, List.not_mem_nil, or_false] at hc
  rcases hc with rfl | rfl | rfl
  · exact w_c0
  · exact w_c1
  · exact w_c2
set_option maxRecDepth 65536 in
theorem w_t1 : words1.all (fun c => isCode c || c.before args0 about1) = true := by decide +kernel
theorem w_tables : (allAtoms (Jvm.Cond.code x code maxLocals ret :: tables_1)).before args0 about1 = true := by
  rw [allAtoms_all]
  show words1.all (fun c => c.before args0 about1) = true
  refine all_split ?_ w_codes
  rw [w_t1]
set_option maxRecDepth 65536 in
theorem w_case : (Jvm.Cond.and given_1 narrow_1).before args0 about1 = true := by decide +kernel
theorem w_applies : (headSpec (Jvm.Cond.code x code maxLocals ret :: tables_1) room_1).applies x e0.platform about1 = true :=
  (Spec.applies_iff w_frames).mpr ⟨w_running, w_runnable, w_alone, w_named, w_hears, w_ripe, w_room, w_tables⟩
theorem atStart : AtStart classFile x code maxLocals ret World_1 tables_1 room_1 Calls_1 rest_1 Pre_1 launch0 p0 e0 about1 theMethod args0 below0 :=
  ⟨lists_1, trivial, launch0.admits_env _ _ _, launch0.least_env, fairChoices_fair.cas, fairChoices_fair.clock, w_frames, w_args, w_heap, w_applies, trivial, trivial, w_case⟩
end start1
theorem witness_1 : WitnessClaimed_1 := ⟨start1.p0, start1.e0, start1.about1, start1.theMethod, start1.args0, start1.below0, start1.atStart⟩
end Jvm.Pilot.@@N@@
