import JvmDerived
import JvmDerived.Pilot.@@N@@Statement
import JvmDerived.Pilot.@@N@@Code
set_option linter.unusedVariables false
set_option linter.unusedSimpArgs false
namespace Jvm.RoadKit
open Sem ClassFile Op Lib Jvm.Stand Jvm.Free Jvm.LawKit
section New
variable {p : Program} {l : Launch} {e : Env} {R : Room} {s : State} {m : MethodId} {args : Array Value} {below : List Frame} {meth : Method} {c : Code} {T : State} {locs : List Loc} {cells slots : Nat}
theorem retI (X : Stand p l e R s m args below meth c T locs cells slots) (hx : p.tables.exec = Jvm.exec) {pc : Nat} {Ls : Array Slot} {z : Int32} {rest : List Value} (hret : meth.sig.returnType = some .int) (hd : decode c.code pc = .ok (.ireturn, 1)) {fs : List Frame}
    (hl : ∀ (f : JFrame) (acts : List Action), f.method = m → f.locked = none → f.entered = [] → (doReturn e (T.setTop f) acts (some (.int z))).1 = T.setFrames fs) : Steps p.tables e below (T.setTop (mkF m pc Ls (.int z :: rest))) (T.setFrames fs) := by
  have hm' : T.vm.method? m = some meth := X.method'
  have hn : narrow .int (.int z) = .int z := rfl
  show Steps p.tables e below (T.setTop { method := m, pc := pc, locals := Ls, stack := _ :: rest, locked := none }) _
  jvm_step X.here [X.here.top, hx, hd, hm', hret, hn]
  first | (intro acts; rw [hl _ acts rfl rfl rfl]) | rw [hl _ _ rfl rfl rfl]
  exact Steps.refl _
end New
end Jvm.RoadKit
namespace Jvm.Pilot.@@N@@
open Jvm Jvm.ClassFile Sem Op Lib Jvm.Free Jvm.Stand Jvm.LawKit Jvm.RoadKit Bundle Jvm.Free.Fl Jvm.Pilot.@@N@@.Jvm.D
/-- the same for a part of a walk that comes to the frame F -/
theorem own_via {α : Type} {tb : Tables} {e : Env} {below : List Frame} {A B : State} {P : State → α → Prop} {F : α → JFrame} (h : ∀ t, Steps tb e below A t → Steps tb e below B t) (k : ∃ (T : State) (x : α), P T x ∧ ∀ t, Steps tb e below (T.setTop (F x)) t → Steps tb e below A t) : ∃ (T : State) (x : α), P T x ∧ ∀ t, Steps tb e below (T.setTop (F x)) t → Steps tb e below B t := by
  obtain ⟨T, x, k1, k2⟩ := k
  exact ⟨T, x, k1, fun t q => h t (k2 t q)⟩
theorem own_ns {Z : State} {h : Heap} {a : Addr} {C : String} (F : Exa Z h a C) : ∀ c : Cell, h[a]? = some c → c.vm.isStatics = false := fun c hc => by
  obtain ⟨c1, k, h1, -, -, h4, -⟩ := F
  cases hc.symm.trans h1
  exact h4
theorem own_nsA {Z : State} {h : Heap} {a : Addr} {k : ClassId} {ty : FieldType} {z : Int32} {vs : List Value} {dv : Value} (F : Arv Z h a k ty z vs dv) : ∀ c : Cell, h[a]? = some c → c.vm.isStatics = false := fun c hc => by
  obtain ⟨c1, A, -⟩ := F
  cases hc.symm.trans A.1
  exact A.plain
theorem own_nsF {Z : State} {h : Heap} {a : Addr} {C n d : String} {v : Value} (F : Fld Z h a C n d v) : ∀ c : Cell, h[a]? = some c → c.vm.isStatics = false := fun c hc => by
  obtain ⟨c1, _, _, _, _, h1, _, _, _, h5, _⟩ := F
  cases hc.symm.trans h1
  exact h5
theorem own_neA {Z : State} {a0 : Array Value} {h : Heap} {a b : Addr} {C : String} {n : Nat} {k : ClassId} {ty : FieldType} {z : Int32} {vs : List Value} {dv : Value} (F : Exa Z h a C) (wi : (Cond.instantiable C n).before a0 Z = true) (G : Arv Z h b k ty z vs dv) : a ≠ b := by
  obtain ⟨c1, A, -⟩ := G
  exact ne_arr F wi A
theorem own_staKeep {Z : State} {h h' : Heap} {C n d : String} {v : Value} {ws : List Addr} (F : Sta Z h C n d v) (K : Keep h h' ws) (q : ∀ x ∈ ws, ∀ c : Cell, h[x]? = some c → c.vm.isStatics = false) : Sta Z h' C n d v := by
  obtain ⟨cf, i, k, f, st, cell, h1, h2, h3, h4, h5, h6, h7⟩ := F
  exact ⟨cf, i, k, f, st, cell, h1, h2, h3, h4, K.2.1 st cell h5 (fun hm => by rw [q st hm cell h5] at h6; cases h6), h6, h7⟩
/-- a byte made a byte again -/
theorem own_nb (y : Int32) : y.toInt8.toInt32.toInt8.toInt32 = y.toInt8.toInt32 := by 
  have h1 := c_i2b y
  have h2 := c_i2b (y.toInt8.toInt32)
  apply Int32.toInt_inj.mp
  omega
theorem own_nbn (y : Int32) : nar .byte (y.toInt8.toInt32) = y.toInt8.toInt32 := own_nb y
/-- the walk goes on from A where it comes from B to A -/
theorem own_go {tb : Tables} {e : Env} {below : List Frame} {A B : State} {P : State → Outcome → Prop} (h : ∀ t, Steps tb e below A t → Steps tb e below B t) (k : ∃ t o, Steps tb e below A t ∧ P t o) : ∃ t o, Steps tb e below B t ∧ P t o := by
  obtain ⟨t, o, k1, k2⟩ := k
  exact ⟨t, o, h t k1, k2⟩
theorem own_pd0 : parseMethodDescriptor "(II)I" = some ⟨[.int, .int], some .int⟩ := by decide +kernel
theorem own_pd1 : parseMethodDescriptor "([JI)[J" = some ⟨[(.array .long), .int], some (.array .long)⟩ := by decide +kernel
theorem own_pd2 : parseMethodDescriptor "(I)V" = some ⟨[.int], none⟩ := by decide +kernel
theorem own_pd3 : parseMethodDescriptor "(I)I" = some ⟨[.int], some .int⟩ := by decide +kernel
theorem own_pd4 : parseMethodDescriptor "()V" = some ⟨[], none⟩ := by decide +kernel
theorem own_pd5 : parseMethodDescriptor "(J)I" = some ⟨[.long], some .int⟩ := by decide +kernel
theorem own_pd6 : parseMethodDescriptor "(II)V" = some ⟨[.int, .int], none⟩ := by decide +kernel
theorem own_pd7 : parseMethodDescriptor "(ID)V" = some ⟨[.int, .double], none⟩ := by decide +kernel
theorem own_pd8 : parseMethodDescriptor "()Ljava/util/BitSet;" = some ⟨[], some (.object "java/util/BitSet")⟩ := by decide +kernel
theorem own_pd9 : parseMethodDescriptor "(I)Z" = some ⟨[.int], some .boolean⟩ := by decide +kernel
theorem own_pd10 : parseMethodDescriptor "()I" = some ⟨[], some .int⟩ := by decide +kernel
theorem own_pd11 : parseMethodDescriptor "()D" = some ⟨[], some .double⟩ := by decide +kernel
theorem own_eqInt {s : State} {args : Array Value} {t : Term} {k : Int32} (h : (Cond.eq t (.int k)).value args s none s [] = some true) : t.eval args s none [] s = some (.int k) := by
  cases he : t.eval args s none [] s with
  | none => simp [Cond.value, he] at h
  | some v => cases v <;> simp_all [Cond.value, Term.eval]
/-- a constant of an enum as the case's words pin it: the static, the object's class, its ordinal -/
theorem own_enum {s : State} {args : Array Value} {C n d : String} {k : Int32} (hx : (Cond.exactly (.static C n d) C).value args s none s [] = some true) (ho : (Cond.eq (.field (.static C n d) "java/lang/Enum" "ordinal" "I") (.int k)).value args s none s [] = some true) (hi : (Cond.initialized C).before args s = true) (hl : (Cond.laysStatic C n d).before args s = true) :
    ∃ a, Sta s s.heap C n d (.ref a) ∧ Exa s s.heap a C ∧ Fld s s.heap a "java/lang/Enum" "ordinal" "I" (.int k) := by
  obtain ⟨a, ea⟩ := exa_v hx
  refine ⟨a, Sta.start ea (Or.inr ⟨hi, hl⟩), Exa.start ea hx, Fld.start ?_⟩
  have h := own_eqInt ho
  rwa [fld_at ea] at h
def own_wi (x : Int32) : Int32 := x >>> ((6 : Int32) &&& 31)
def own_c1 (q : Int64) : Int64 := q - (((q.toUInt64 >>> ((1 : Int32) &&& 0x3f).toInt64.toUInt64).toInt64) &&& (6148914691236517205 : Int64))
def own_c2 (q : Int64) : Int64 := (q &&& (3689348814741910323 : Int64)) + (((q.toUInt64 >>> ((2 : Int32) &&& 0x3f).toInt64.toUInt64).toInt64) &&& (3689348814741910323 : Int64))
def own_c3 (q : Int64) : Int64 := (q + ((q.toUInt64 >>> ((4 : Int32) &&& 0x3f).toInt64.toUInt64).toInt64)) &&& (1085102592571150095 : Int64)
def own_c4 (q : Int64) : Int64 := q + ((q.toUInt64 >>> ((8 : Int32) &&& 0x3f).toInt64.toUInt64).toInt64)
def own_c5 (q : Int64) : Int64 := q + ((q.toUInt64 >>> ((16 : Int32) &&& 0x3f).toInt64.toUInt64).toInt64)
def own_c6 (q : Int64) : Int64 := q + ((q.toUInt64 >>> ((32 : Int32) &&& 0x3f).toInt64.toUInt64).toInt64)
def own_bc (q : Int64) : Int32 := (own_c6 (own_c5 (own_c4 (own_c3 (own_c2 (own_c1 q)))))).toInt32 &&& (127 : Int32)
def own_vals (n : Int32) (f : Nat → Int64) : List Value := if n = (1 : Int32) then [.long (f 0)] else if n = (2 : Int32) then [.long (f 0), .long (f 1)] else if n = (3 : Int32) then [.long (f 0), .long (f 1), .long (f 2)] else if n = (4 : Int32) then [.long (f 0), .long (f 1), .long (f 2), .long (f 3)] else [.long (f 0), .long (f 1), .long (f 2), .long (f 3), .long (f 4), .long (f 5)]
def own_el (len req : Int32) : Int32 := if len < req then (if (2 : Int32) * len < req then req else (2 : Int32) * len) else len
def own_nu (u wi : Int32) : Int32 := if u < wi + 1 then wi + 1 else u
def own_nl (len u wi : Int32) : Int32 := if u < wi + 1 then own_el len (wi + 1) else len
def own_set (f : Nat → Int64) (wi i : Int32) : Nat → Int64 := fun k => if k = (wi).toNatClampNeg then f k ||| ((1 : Int64) <<< (i &&& 0x3f).toInt64) else f k
def own_f0 : Nat → Int64 := fun _ => 0
def own_card (u : Int32) (f : Nat → Int64) : Int32 := if u = (1 : Int32) then ((0 : Int32) + own_bc (f 0)) else if u = (2 : Int32) then (((0 : Int32) + own_bc (f 0)) + own_bc (f 1)) else if u = (3 : Int32) then ((((0 : Int32) + own_bc (f 0)) + own_bc (f 1)) + own_bc (f 2)) else (((((0 : Int32) + own_bc (f 0)) + own_bc (f 1)) + own_bc (f 2)) + own_bc (f 3))
theorem own_nl5 {len u wi : Int32} (hsh : (len = (1 : Int32) ∧ u = (0 : Int32)) ∨ (len = (1 : Int32) ∧ u = (1 : Int32)) ∨ (len = (2 : Int32) ∧ u = (2 : Int32)) ∨ (len = (3 : Int32) ∧ u = (3 : Int32)) ∨ (len = (4 : Int32) ∧ u = (4 : Int32))) (hw4 : wi = (0 : Int32) ∨ wi = (1 : Int32) ∨ wi = (2 : Int32) ∨ wi = (3 : Int32)) : own_nl len u wi = (1 : Int32) ∨ own_nl len u wi = (2 : Int32) ∨ own_nl len u wi = (3 : Int32) ∨ own_nl len u wi = (4 : Int32) ∨ own_nl len u wi = (6 : Int32) := by
  rcases hsh with ⟨rfl, rfl⟩ | ⟨rfl, rfl⟩ | ⟨rfl, rfl⟩ | ⟨rfl, rfl⟩ | ⟨rfl, rfl⟩ <;> rcases hw4 with rfl | rfl | rfl | rfl <;> decide
theorem own_in {len u wi : Int32} (hsh : (len = (1 : Int32) ∧ u = (0 : Int32)) ∨ (len = (1 : Int32) ∧ u = (1 : Int32)) ∨ (len = (2 : Int32) ∧ u = (2 : Int32)) ∨ (len = (3 : Int32) ∧ u = (3 : Int32)) ∨ (len = (4 : Int32) ∧ u = (4 : Int32))) (hw4 : wi = (0 : Int32) ∨ wi = (1 : Int32) ∨ wi = (2 : Int32) ∨ wi = (3 : Int32)) : ¬ wi < 0 ∧ wi < own_nl len u wi := by
  rcases hsh with ⟨rfl, rfl⟩ | ⟨rfl, rfl⟩ | ⟨rfl, rfl⟩ | ⟨rfl, rfl⟩ | ⟨rfl, rfl⟩ <;> rcases hw4 with rfl | rfl | rfl | rfl <;> decide
theorem own_m {n wi : Int32} (h6 : n = (1 : Int32) ∨ n = (2 : Int32) ∨ n = (3 : Int32) ∨ n = (4 : Int32) ∨ n = (6 : Int32)) (hin : ¬ wi < 0 ∧ wi < n) : (n = 1 ∧ wi.toNatClampNeg < 1) ∨ (n = 2 ∧ wi.toNatClampNeg < 2) ∨ (n = 3 ∧ wi.toNatClampNeg < 3) ∨ (n = 4 ∧ wi.toNatClampNeg < 4) ∨ (n = 6 ∧ wi.toNatClampNeg < 6) := by
  have h2 := hin.2
  rw [Int32.lt_iff_toInt_lt] at h2
  have e1 : (1 : Int32).toInt = 1 := by decide
  have e2 : (2 : Int32).toInt = 2 := by decide
  have e3 : (3 : Int32).toInt = 3 := by decide
  have e4 : (4 : Int32).toInt = 4 := by decide
  have e6 : (6 : Int32).toInt = 6 := by decide
  rcases h6 with rfl | rfl | rfl | rfl | rfl
  · exact Or.inl ⟨rfl, by simp only [Int32.toNatClampNeg]; omega⟩
  · exact Or.inr (Or.inl ⟨rfl, by simp only [Int32.toNatClampNeg]; omega⟩)
  · exact Or.inr (Or.inr (Or.inl ⟨rfl, by simp only [Int32.toNatClampNeg]; omega⟩))
  · exact Or.inr (Or.inr (Or.inr (Or.inl ⟨rfl, by simp only [Int32.toNatClampNeg]; omega⟩)))
  · exact Or.inr (Or.inr (Or.inr (Or.inr ⟨rfl, by simp only [Int32.toNatClampNeg]; omega⟩)))
theorem own_at {n wi : Int32} {f : Nat → Int64} {d : Value} (h6 : n = (1 : Int32) ∨ n = (2 : Int32) ∨ n = (3 : Int32) ∨ n = (4 : Int32) ∨ n = (6 : Int32)) (hin : ¬ wi < 0 ∧ wi < n) : (own_vals n f).getD (wi).toNatClampNeg d = (.long (f (wi).toNatClampNeg)) := by
  have h := own_m h6 hin
  generalize (wi).toNatClampNeg = m at *
  rcases h with ⟨rfl, h⟩ | ⟨rfl, h⟩ | ⟨rfl, h⟩ | ⟨rfl, h⟩ | ⟨rfl, h⟩
  · rcases (by omega : m = 0) with rfl <;> rfl
  · rcases (by omega : m = 0 ∨ m = 1) with rfl | rfl <;> rfl
  · rcases (by omega : m = 0 ∨ m = 1 ∨ m = 2) with rfl | rfl | rfl <;> rfl
  · rcases (by omega : m = 0 ∨ m = 1 ∨ m = 2 ∨ m = 3) with rfl | rfl | rfl | rfl <;> rfl
  · rcases (by omega : m = 0 ∨ m = 1 ∨ m = 2 ∨ m = 3 ∨ m = 4 ∨ m = 5) with rfl | rfl | rfl | rfl | rfl | rfl <;> rfl
theorem own_lt {n wi : Int32} {f : Nat → Int64} (h6 : n = (1 : Int32) ∨ n = (2 : Int32) ∨ n = (3 : Int32) ∨ n = (4 : Int32) ∨ n = (6 : Int32)) (hin : ¬ wi < 0 ∧ wi < n) : (wi).toNatClampNeg < (own_vals n f).length := by
  have h := own_m h6 hin
  generalize (wi).toNatClampNeg = m at *
  rcases h with ⟨rfl, h⟩ | ⟨rfl, h⟩ | ⟨rfl, h⟩ | ⟨rfl, h⟩ | ⟨rfl, h⟩ <;> exact h
theorem own_setv {n wi i : Int32} {f : Nat → Int64} (h6 : n = (1 : Int32) ∨ n = (2 : Int32) ∨ n = (3 : Int32) ∨ n = (4 : Int32) ∨ n = (6 : Int32)) (hin : ¬ wi < 0 ∧ wi < n) : (own_vals n f).set (wi).toNatClampNeg (.long (f (wi).toNatClampNeg ||| ((1 : Int64) <<< (i &&& 0x3f).toInt64))) = own_vals n (own_set f wi i) := by
  have h := own_m h6 hin
  unfold own_set
  generalize (wi).toNatClampNeg = m at *
  rcases h with ⟨rfl, h⟩ | ⟨rfl, h⟩ | ⟨rfl, h⟩ | ⟨rfl, h⟩ | ⟨rfl, h⟩
  · rcases (by omega : m = 0) with rfl <;> rfl
  · rcases (by omega : m = 0 ∨ m = 1) with rfl | rfl <;> rfl
  · rcases (by omega : m = 0 ∨ m = 1 ∨ m = 2) with rfl | rfl | rfl <;> rfl
  · rcases (by omega : m = 0 ∨ m = 1 ∨ m = 2 ∨ m = 3) with rfl | rfl | rfl | rfl <;> rfl
  · rcases (by omega : m = 0 ∨ m = 1 ∨ m = 2 ∨ m = 3 ∨ m = 4 ∨ m = 5) with rfl | rfl | rfl | rfl | rfl | rfl <;> rfl
theorem own_b53 (p : Int32) : B53 (p.toInt64) := by
  have h1 := c_i2l p
  have h2 := rng32 p
  unfold B53
  omega
theorem own_b53z : B53 (0 : Int64) := by unfold B53; decide
theorem own_b53a (p : Int32) : B53 ((0 : Int64) + (p.toInt64)) := by rw [Int64.zero_add]; exact own_b53 p
theorem own_sc1 (p : Int32) : FP.l2d ((0 : Int64) + (p.toInt64)) = FP.i2d p := by rw [i2d_w, Int64.zero_add]
theorem own_sc2 (a b : Int32) : FP.l2d (((0 : Int64) + (a.toInt64)) + (b.toInt64)) = FP.l2d ((a.toInt64) + (b.toInt64)) := by rw [Int64.zero_add]
theorem own_nn {p : Int32} (i : Int32) (h : i = p &&& (255 : Int32)) : ¬ i < (0 : Int32) := by
  have h1 := c_mask p (255 : Int32) 8 (by decide) (by decide)
  have e0 : (0 : Int32).toInt = 0 := by decide
  rw [h, Int32.lt_iff_toInt_lt, e0]; omega
theorem own_wi4 {p : Int32} (i : Int32) (h : i = p &&& (255 : Int32)) {wi : Int32} (hw : own_wi i = wi) : wi = (0 : Int32) ∨ wi = (1 : Int32) ∨ wi = (2 : Int32) ∨ wi = (3 : Int32) := by
  have h1 := c_mask p (255 : Int32) 8 (by decide) (by decide)
  have h2 := c_ishr i (6 : Int32) 6 (by decide)
  unfold own_wi at hw
  rw [hw] at h2
  rw [← h] at h1
  have e0 : (0 : Int32).toInt = 0 := by decide
  have e1 : (1 : Int32).toInt = 1 := by decide
  have e2 : (2 : Int32).toInt = 2 := by decide
  have e3 : (3 : Int32).toInt = 3 := by decide
  simp only [← Int32.toInt_inj, e0, e1, e2, e3]
  omega
theorem own_w0 {wi : Int32} (h : wi = (0 : Int32) ∨ wi = (1 : Int32) ∨ wi = (2 : Int32) ∨ wi = (3 : Int32)) : ¬ wi < (0 : Int32) := by
  rcases h with rfl | rfl | rfl | rfl <;> decide
theorem own_sh1 {wi : Int32} (h : wi = (0 : Int32) ∨ wi = (1 : Int32) ∨ wi = (2 : Int32) ∨ wi = (3 : Int32)) : (own_nl (1 : Int32) (0 : Int32) wi = (1 : Int32) ∧ own_nu (0 : Int32) wi = (0 : Int32)) ∨ (own_nl (1 : Int32) (0 : Int32) wi = (1 : Int32) ∧ own_nu (0 : Int32) wi = (1 : Int32)) ∨ (own_nl (1 : Int32) (0 : Int32) wi = (2 : Int32) ∧ own_nu (0 : Int32) wi = (2 : Int32)) ∨ (own_nl (1 : Int32) (0 : Int32) wi = (3 : Int32) ∧ own_nu (0 : Int32) wi = (3 : Int32)) ∨ (own_nl (1 : Int32) (0 : Int32) wi = (4 : Int32) ∧ own_nu (0 : Int32) wi = (4 : Int32)) := by
  rcases h with rfl | rfl | rfl | rfl <;> decide
theorem own_g1u {wi : Int32} (h : wi = (0 : Int32) ∨ wi = (1 : Int32) ∨ wi = (2 : Int32) ∨ wi = (3 : Int32)) : wi < own_nu (0 : Int32) wi := by
  rcases h with rfl | rfl | rfl | rfl <;> decide
theorem own_g1l {wi : Int32} (h : wi = (0 : Int32) ∨ wi = (1 : Int32) ∨ wi = (2 : Int32) ∨ wi = (3 : Int32)) : wi < own_nl (1 : Int32) (0 : Int32) wi := by
  rcases h with rfl | rfl | rfl | rfl <;> decide
theorem own_l16 {wi : Int32} (h : wi = (0 : Int32) ∨ wi = (1 : Int32) ∨ wi = (2 : Int32) ∨ wi = (3 : Int32)) : own_nl (1 : Int32) (0 : Int32) wi = (1 : Int32) ∨ own_nl (1 : Int32) (0 : Int32) wi = (2 : Int32) ∨ own_nl (1 : Int32) (0 : Int32) wi = (3 : Int32) ∨ own_nl (1 : Int32) (0 : Int32) wi = (4 : Int32) ∨ own_nl (1 : Int32) (0 : Int32) wi = (6 : Int32) := by
  rcases h with rfl | rfl | rfl | rfl <;> decide
theorem own_s6a {wi : Int32} (h : wi = (0 : Int32) ∨ wi = (1 : Int32) ∨ wi = (2 : Int32) ∨ wi = (3 : Int32)) : (own_nl (1 : Int32) (0 : Int32) wi = (1 : Int32) ∧ own_nu (0 : Int32) wi = (1 : Int32)) ∨ (own_nl (1 : Int32) (0 : Int32) wi = (2 : Int32) ∧ own_nu (0 : Int32) wi = (2 : Int32)) ∨ (own_nl (1 : Int32) (0 : Int32) wi = (3 : Int32) ∧ own_nu (0 : Int32) wi = (3 : Int32)) ∨ (own_nl (1 : Int32) (0 : Int32) wi = (4 : Int32) ∧ own_nu (0 : Int32) wi = (4 : Int32)) ∨ (own_nl (1 : Int32) (0 : Int32) wi = (4 : Int32) ∧ own_nu (0 : Int32) wi = (3 : Int32)) ∨ (own_nl (1 : Int32) (0 : Int32) wi = (6 : Int32) ∧ own_nu (0 : Int32) wi = (4 : Int32)) := by
  rcases h with rfl | rfl | rfl | rfl <;> decide
theorem own_g2iu {wi wj : Int32} (h : wi = (0 : Int32) ∨ wi = (1 : Int32) ∨ wi = (2 : Int32) ∨ wi = (3 : Int32)) (g : wj = (0 : Int32) ∨ wj = (1 : Int32) ∨ wj = (2 : Int32) ∨ wj = (3 : Int32)) : wi < own_nu (own_nu (0 : Int32) wi) wj := by
  rcases h with rfl | rfl | rfl | rfl <;> rcases g with rfl | rfl | rfl | rfl <;> decide
theorem own_g2il {wi wj : Int32} (h : wi = (0 : Int32) ∨ wi = (1 : Int32) ∨ wi = (2 : Int32) ∨ wi = (3 : Int32)) (g : wj = (0 : Int32) ∨ wj = (1 : Int32) ∨ wj = (2 : Int32) ∨ wj = (3 : Int32)) : wi < own_nl (own_nl (1 : Int32) (0 : Int32) wi) (own_nu (0 : Int32) wi) wj := by
  rcases h with rfl | rfl | rfl | rfl <;> rcases g with rfl | rfl | rfl | rfl <;> decide
theorem own_g2ju {wi wj : Int32} (h : wi = (0 : Int32) ∨ wi = (1 : Int32) ∨ wi = (2 : Int32) ∨ wi = (3 : Int32)) (g : wj = (0 : Int32) ∨ wj = (1 : Int32) ∨ wj = (2 : Int32) ∨ wj = (3 : Int32)) : wj < own_nu (own_nu (0 : Int32) wi) wj := by
  rcases h with rfl | rfl | rfl | rfl <;> rcases g with rfl | rfl | rfl | rfl <;> decide
theorem own_g2jl {wi wj : Int32} (h : wi = (0 : Int32) ∨ wi = (1 : Int32) ∨ wi = (2 : Int32) ∨ wi = (3 : Int32)) (g : wj = (0 : Int32) ∨ wj = (1 : Int32) ∨ wj = (2 : Int32) ∨ wj = (3 : Int32)) : wj < own_nl (own_nl (1 : Int32) (0 : Int32) wi) (own_nu (0 : Int32) wi) wj := by
  rcases h with rfl | rfl | rfl | rfl <;> rcases g with rfl | rfl | rfl | rfl <;> decide
theorem own_l26 {wi wj : Int32} (h : wi = (0 : Int32) ∨ wi = (1 : Int32) ∨ wi = (2 : Int32) ∨ wi = (3 : Int32)) (g : wj = (0 : Int32) ∨ wj = (1 : Int32) ∨ wj = (2 : Int32) ∨ wj = (3 : Int32)) : own_nl (own_nl (1 : Int32) (0 : Int32) wi) (own_nu (0 : Int32) wi) wj = (1 : Int32) ∨ own_nl (own_nl (1 : Int32) (0 : Int32) wi) (own_nu (0 : Int32) wi) wj = (2 : Int32) ∨ own_nl (own_nl (1 : Int32) (0 : Int32) wi) (own_nu (0 : Int32) wi) wj = (3 : Int32) ∨ own_nl (own_nl (1 : Int32) (0 : Int32) wi) (own_nu (0 : Int32) wi) wj = (4 : Int32) ∨ own_nl (own_nl (1 : Int32) (0 : Int32) wi) (own_nu (0 : Int32) wi) wj = (6 : Int32) := by
  rcases h with rfl | rfl | rfl | rfl <;> rcases g with rfl | rfl | rfl | rfl <;> decide
theorem own_s6b {wi wj : Int32} (h : wi = (0 : Int32) ∨ wi = (1 : Int32) ∨ wi = (2 : Int32) ∨ wi = (3 : Int32)) (g : wj = (0 : Int32) ∨ wj = (1 : Int32) ∨ wj = (2 : Int32) ∨ wj = (3 : Int32)) : (own_nl (own_nl (1 : Int32) (0 : Int32) wi) (own_nu (0 : Int32) wi) wj = (1 : Int32) ∧ own_nu (own_nu (0 : Int32) wi) wj = (1 : Int32)) ∨ (own_nl (own_nl (1 : Int32) (0 : Int32) wi) (own_nu (0 : Int32) wi) wj = (2 : Int32) ∧ own_nu (own_nu (0 : Int32) wi) wj = (2 : Int32)) ∨ (own_nl (own_nl (1 : Int32) (0 : Int32) wi) (own_nu (0 : Int32) wi) wj = (3 : Int32) ∧ own_nu (own_nu (0 : Int32) wi) wj = (3 : Int32)) ∨ (own_nl (own_nl (1 : Int32) (0 : Int32) wi) (own_nu (0 : Int32) wi) wj = (4 : Int32) ∧ own_nu (own_nu (0 : Int32) wi) wj = (4 : Int32)) ∨ (own_nl (own_nl (1 : Int32) (0 : Int32) wi) (own_nu (0 : Int32) wi) wj = (4 : Int32) ∧ own_nu (own_nu (0 : Int32) wi) wj = (3 : Int32)) ∨ (own_nl (own_nl (1 : Int32) (0 : Int32) wi) (own_nu (0 : Int32) wi) wj = (6 : Int32) ∧ own_nu (own_nu (0 : Int32) wi) wj = (4 : Int32)) := by
  rcases h with rfl | rfl | rfl | rfl <;> rcases g with rfl | rfl | rfl | rfl <;> decide
theorem own_hz1 {wi i : Int32} (h : wi = (0 : Int32) ∨ wi = (1 : Int32) ∨ wi = (2 : Int32) ∨ wi = (3 : Int32)) : ∀ k : Nat, (own_nu (0 : Int32) wi).toNatClampNeg ≤ k → (own_set own_f0 wi i) k = (0 : Int64) := by
  intro k hk
  have : k ≠ wi.toNatClampNeg := by
    intro e
    rw [e] at hk
    revert hk
    rcases h with rfl | rfl | rfl | rfl <;> decide
  unfold own_set own_f0
  rw [if_neg this]
theorem own_k (i : Int32) : ∃ k : Fin 64, i &&& 0x3f = Int32.ofNat k.val ∧ (k.val : Int) = i.toInt % 64 := by
  have h := c_mask i (0x3f : Int32) 6 (by decide) (by decide)
  refine ⟨⟨(i.toInt % 64).toNat, by omega⟩, ?_, by simp only; omega⟩
  apply Int32.toInt_inj.mp
  rw [Int32.toInt_ofNat_of_lt (by omega)]
  simp only
  omega
theorem own_bits1 : ∀ k : Fin 64, ((1 : Int64) <<< (Int32.ofNat k.val).toInt64) ≠ 0 ∧ own_bc ((1 : Int64) <<< (Int32.ofNat k.val).toInt64) = 1 := by decide +kernel
theorem own_bits2 : ∀ k m : Fin 64, own_bc (((1 : Int64) <<< (Int32.ofNat k.val).toInt64) ||| ((1 : Int64) <<< (Int32.ofNat m.val).toInt64)) = if k = m then 1 else 2 := by decide +kernel
theorem own_bc0 : own_bc 0 = 0 := by decide +kernel
theorem own_orand (x b : Int64) : (x ||| b) &&& b = b := by
  apply Int64.toBitVec_inj.mp
  apply BitVec.eq_of_getLsbD_eq
  intro k hk
  simp
  intro hb
  exact Or.inr hb
theorem own_oror (x b c : Int64) : ((x ||| b) ||| c) &&& b = b := by
  apply Int64.toBitVec_inj.mp
  apply BitVec.eq_of_getLsbD_eq
  intro k hk
  simp
  intro hb
  exact Or.inl (Or.inr hb)
theorem own_ne (i : Int32) {x : Int64} (h : x &&& ((1 : Int64) <<< (i &&& 0x3f).toInt64) = ((1 : Int64) <<< (i &&& 0x3f).toInt64)) : (if lcmpW (x &&& ((1 : Int64) <<< (i &&& 0x3f).toInt64)) (0 : Int64) = (0 : Int32) then (0 : Int32) else (1 : Int32)) = (1 : Int32) := by
  rw [h]
  refine if_neg fun q => ?_
  obtain ⟨k, hk, -⟩ := own_k i
  rw [lw_eq, hk] at q
  exact (own_bits1 k).1 q
theorem own_g1r {wi i : Int32} (h : wi = (0 : Int32) ∨ wi = (1 : Int32) ∨ wi = (2 : Int32) ∨ wi = (3 : Int32)) : (if lcmpW ((own_set own_f0 wi i) (wi).toNatClampNeg &&& ((1 : Int64) <<< (i &&& 0x3f).toInt64)) (0 : Int64) = (0 : Int32) then (0 : Int32) else (1 : Int32)) = (1 : Int32) := by
  apply own_ne
  unfold own_set
  rw [if_pos rfl]
  exact own_orand _ _
theorem own_g2jr {wi wj i j : Int32} (h : wi = (0 : Int32) ∨ wi = (1 : Int32) ∨ wi = (2 : Int32) ∨ wi = (3 : Int32)) (g : wj = (0 : Int32) ∨ wj = (1 : Int32) ∨ wj = (2 : Int32) ∨ wj = (3 : Int32)) : (if lcmpW ((own_set (own_set own_f0 wi i) wj j) (wj).toNatClampNeg &&& ((1 : Int64) <<< (j &&& 0x3f).toInt64)) (0 : Int64) = (0 : Int32) then (0 : Int32) else (1 : Int32)) = (1 : Int32) := by
  apply own_ne
  unfold own_set
  rw [if_pos rfl]
  exact own_orand _ _
theorem own_g2ir {wi wj i j : Int32} (h : wi = (0 : Int32) ∨ wi = (1 : Int32) ∨ wi = (2 : Int32) ∨ wi = (3 : Int32)) (g : wj = (0 : Int32) ∨ wj = (1 : Int32) ∨ wj = (2 : Int32) ∨ wj = (3 : Int32)) : (if lcmpW ((own_set (own_set own_f0 wi i) wj j) (wi).toNatClampNeg &&& ((1 : Int64) <<< (i &&& 0x3f).toInt64)) (0 : Int64) = (0 : Int32) then (0 : Int32) else (1 : Int32)) = (1 : Int32) := by
  apply own_ne
  unfold own_set
  by_cases e : wi.toNatClampNeg = wj.toNatClampNeg
  · rw [if_pos e, if_pos rfl]
    exact own_oror _ _ _
  · rw [if_neg e, if_pos rfl]
    exact own_orand _ _
theorem own_cd1 {wi i : Int32} (h : wi = (0 : Int32) ∨ wi = (1 : Int32) ∨ wi = (2 : Int32) ∨ wi = (3 : Int32)) : own_card (own_nu (0 : Int32) wi) (own_set own_f0 wi i) = (1 : Int32) := by
  obtain ⟨k, hk, -⟩ := own_k i
  have h1 := (own_bits1 k).2
  have h0 := own_bc0
  rw [← hk] at h1
  have hz : (0 : Int64) ||| ((1 : Int64) <<< (i &&& 0x3f).toInt64) = ((1 : Int64) <<< (i &&& 0x3f).toInt64) := Int64.zero_or
  rcases h with rfl | rfl | rfl | rfl
  · show ((0 : Int32) + own_bc ((0 : Int64) ||| ((1 : Int64) <<< (i &&& 0x3f).toInt64))) = 1
    rw [hz, h1]; decide
  · show (((0 : Int32) + own_bc 0) + own_bc ((0 : Int64) ||| ((1 : Int64) <<< (i &&& 0x3f).toInt64))) = 1
    rw [hz, h1, h0]; decide
  · show ((((0 : Int32) + own_bc 0) + own_bc 0) + own_bc ((0 : Int64) ||| ((1 : Int64) <<< (i &&& 0x3f).toInt64))) = 1
    rw [hz, h1, h0]; decide
  · show (((((0 : Int32) + own_bc 0) + own_bc 0) + own_bc 0) + own_bc ((0 : Int64) ||| ((1 : Int64) <<< (i &&& 0x3f).toInt64))) = 1
    rw [hz, h1, h0]; decide
theorem own_iff {P Q : Prop} [Decidable P] [Decidable Q] (h : P ↔ Q) : (if P then (1 : Int32) else (2 : Int32)) = if Q then 1 else 2 := by
  by_cases q : Q
  · rw [if_pos q, if_pos (h.mpr q)]
  · rw [if_neg q, if_neg (fun e => q (h.mp e))]
theorem own_cd2 {wi wj i j ec : Int32} (hi : ¬ i < (0 : Int32)) (hj : ¬ j < (0 : Int32)) (hwe : own_wi i = wi) (hwj : own_wi j = wj) (h : wi = (0 : Int32) ∨ wi = (1 : Int32) ∨ wi = (2 : Int32) ∨ wi = (3 : Int32)) (g : wj = (0 : Int32) ∨ wj = (1 : Int32) ∨ wj = (2 : Int32) ∨ wj = (3 : Int32)) (hec : ec = if i = j then (1 : Int32) else (2 : Int32)) : own_card (own_nu (own_nu (0 : Int32) wi) wj) (own_set (own_set own_f0 wi i) wj j) = ec := by
  obtain ⟨k, hk, hk'⟩ := own_k i
  obtain ⟨m, hm, hm'⟩ := own_k j
  have h1 := (own_bits1 k).2
  have h2 := (own_bits1 m).2
  have h12 := own_bits2 k m
  have h0 := own_bc0
  rw [← hk] at h1 h12
  rw [← hm] at h2 h12
  have hzi : (0 : Int64) ||| ((1 : Int64) <<< (i &&& 0x3f).toInt64) = ((1 : Int64) <<< (i &&& 0x3f).toInt64) := Int64.zero_or
  have hzj : (0 : Int64) ||| ((1 : Int64) <<< (j &&& 0x3f).toInt64) = ((1 : Int64) <<< (j &&& 0x3f).toInt64) := Int64.zero_or
  have hwij : i = j → wi = wj := fun e => by rw [← hwe, ← hwj, e]
  have hij : wi = wj → (i = j ↔ k = m) := fun e => by
    have a1 := c_ishr i (6 : Int32) 6 (by decide)
    have a2 := c_ishr j (6 : Int32) 6 (by decide)
    unfold own_wi at hwe hwj
    rw [hwe] at a1
    rw [hwj, ← e] at a2
    constructor
    · intro q
      apply Fin.ext
      rw [q] at hk'
      omega
    · intro q
      rw [q] at hk'
      apply Int32.toInt_inj.mp
      omega
  rw [hec]
  rcases h with rfl | rfl | rfl | rfl <;> rcases g with rfl | rfl | rfl | rfl
  · show ((0 : Int32) + own_bc (((0 : Int64) ||| ((1 : Int64) <<< (i &&& 0x3f).toInt64)) ||| ((1 : Int64) <<< (j &&& 0x3f).toInt64))) = _
    rw [hzi, h12, own_iff (hij rfl)]
    by_cases e : k = m
    · rw [if_pos e]; decide
    · rw [if_neg e]; decide
  · show (((0 : Int32) + own_bc ((0 : Int64) ||| ((1 : Int64) <<< (i &&& 0x3f).toInt64))) + own_bc ((0 : Int64) ||| ((1 : Int64) <<< (j &&& 0x3f).toInt64))) = _
    rw [hzi, hzj, h1, h2, if_neg (fun e => absurd (hwij e) (by decide))]; decide
  · show ((((0 : Int32) + own_bc ((0 : Int64) ||| ((1 : Int64) <<< (i &&& 0x3f).toInt64))) + own_bc ((0 : Int64))) + own_bc ((0 : Int64) ||| ((1 : Int64) <<< (j &&& 0x3f).toInt64))) = _
    rw [hzi, hzj, h1, h2, h0, if_neg (fun e => absurd (hwij e) (by decide))]; decide
  · show (((((0 : Int32) + own_bc ((0 : Int64) ||| ((1 : Int64) <<< (i &&& 0x3f).toInt64))) + own_bc ((0 : Int64))) + own_bc ((0 : Int64))) + own_bc ((0 : Int64) ||| ((1 : Int64) <<< (j &&& 0x3f).toInt64))) = _
    rw [hzi, hzj, h1, h2, h0, if_neg (fun e => absurd (hwij e) (by decide))]; decide
  · show (((0 : Int32) + own_bc ((0 : Int64) ||| ((1 : Int64) <<< (j &&& 0x3f).toInt64))) + own_bc ((0 : Int64) ||| ((1 : Int64) <<< (i &&& 0x3f).toInt64))) = _
    rw [hzi, hzj, h1, h2, if_neg (fun e => absurd (hwij e) (by decide))]; decide
  · show (((0 : Int32) + own_bc ((0 : Int64))) + own_bc (((0 : Int64) ||| ((1 : Int64) <<< (i &&& 0x3f).toInt64)) ||| ((1 : Int64) <<< (j &&& 0x3f).toInt64))) = _
    rw [hzi, h12, h0, own_iff (hij rfl)]
    by_cases e : k = m
    · rw [if_pos e]; decide
    · rw [if_neg e]; decide
  · show ((((0 : Int32) + own_bc ((0 : Int64))) + own_bc ((0 : Int64) ||| ((1 : Int64) <<< (i &&& 0x3f).toInt64))) + own_bc ((0 : Int64) ||| ((1 : Int64) <<< (j &&& 0x3f).toInt64))) = _
    rw [hzi, hzj, h1, h2, h0, if_neg (fun e => absurd (hwij e) (by decide))]; decide
  · show (((((0 : Int32) + own_bc ((0 : Int64))) + own_bc ((0 : Int64) ||| ((1 : Int64) <<< (i &&& 0x3f).toInt64))) + own_bc ((0 : Int64))) + own_bc ((0 : Int64) ||| ((1 : Int64) <<< (j &&& 0x3f).toInt64))) = _
    rw [hzi, hzj, h1, h2, h0, if_neg (fun e => absurd (hwij e) (by decide))]; decide
  · show ((((0 : Int32) + own_bc ((0 : Int64) ||| ((1 : Int64) <<< (j &&& 0x3f).toInt64))) + own_bc ((0 : Int64))) + own_bc ((0 : Int64) ||| ((1 : Int64) <<< (i &&& 0x3f).toInt64))) = _
    rw [hzi, hzj, h1, h2, h0, if_neg (fun e => absurd (hwij e) (by decide))]; decide
  · show ((((0 : Int32) + own_bc ((0 : Int64))) + own_bc ((0 : Int64) ||| ((1 : Int64) <<< (j &&& 0x3f).toInt64))) + own_bc ((0 : Int64) ||| ((1 : Int64) <<< (i &&& 0x3f).toInt64))) = _
    rw [hzi, hzj, h1, h2, h0, if_neg (fun e => absurd (hwij e) (by decide))]; decide
  · show ((((0 : Int32) + own_bc ((0 : Int64))) + own_bc ((0 : Int64))) + own_bc (((0 : Int64) ||| ((1 : Int64) <<< (i &&& 0x3f).toInt64)) ||| ((1 : Int64) <<< (j &&& 0x3f).toInt64))) = _
    rw [hzi, h12, h0, own_iff (hij rfl)]
    by_cases e : k = m
    · rw [if_pos e]; decide
    · rw [if_neg e]; decide
  · show (((((0 : Int32) + own_bc ((0 : Int64))) + own_bc ((0 : Int64))) + own_bc ((0 : Int64) ||| ((1 : Int64) <<< (i &&& 0x3f).toInt64))) + own_bc ((0 : Int64) ||| ((1 : Int64) <<< (j &&& 0x3f).toInt64))) = _
    rw [hzi, hzj, h1, h2, h0, if_neg (fun e => absurd (hwij e) (by decide))]; decide
  · show (((((0 : Int32) + own_bc ((0 : Int64) ||| ((1 : Int64) <<< (j &&& 0x3f).toInt64))) + own_bc ((0 : Int64))) + own_bc ((0 : Int64))) + own_bc ((0 : Int64) ||| ((1 : Int64) <<< (i &&& 0x3f).toInt64))) = _
    rw [hzi, hzj, h1, h2, h0, if_neg (fun e => absurd (hwij e) (by decide))]; decide
  · show (((((0 : Int32) + own_bc ((0 : Int64))) + own_bc ((0 : Int64) ||| ((1 : Int64) <<< (j &&& 0x3f).toInt64))) + own_bc ((0 : Int64))) + own_bc ((0 : Int64) ||| ((1 : Int64) <<< (i &&& 0x3f).toInt64))) = _
    rw [hzi, hzj, h1, h2, h0, if_neg (fun e => absurd (hwij e) (by decide))]; decide
  · show (((((0 : Int32) + own_bc ((0 : Int64))) + own_bc ((0 : Int64))) + own_bc ((0 : Int64) ||| ((1 : Int64) <<< (j &&& 0x3f).toInt64))) + own_bc ((0 : Int64) ||| ((1 : Int64) <<< (i &&& 0x3f).toInt64))) = _
    rw [hzi, hzj, h1, h2, h0, if_neg (fun e => absurd (hwij e) (by decide))]; decide
  · show (((((0 : Int32) + own_bc ((0 : Int64))) + own_bc ((0 : Int64))) + own_bc ((0 : Int64))) + own_bc (((0 : Int64) ||| ((1 : Int64) <<< (i &&& 0x3f).toInt64)) ||| ((1 : Int64) <<< (j &&& 0x3f).toInt64))) = _
    rw [hzi, h12, h0, own_iff (hij rfl)]
    by_cases e : k = m
    · rw [if_pos e]; decide
    · rw [if_neg e]; decide
theorem d5_0 : decode jdk_92_method_1_code 0 = .ok (.iload_n 0, 1) := by decide +kernel
theorem d5_1 : decode jdk_92_method_1_code 1 = .ok (.bipush 6, 2) := by decide +kernel
theorem d5_3 : decode jdk_92_method_1_code 3 = .ok (.ishr, 1) := by decide +kernel
theorem d5_4 : decode jdk_92_method_1_code 4 = .ok (.ireturn, 1) := by decide +kernel
theorem own_pn5 : plainName "java/util/BitSet" = true := by first | (simp [plainName, overriddenIn]; done) | decide +kernel
theorem own_ef5 (m : MethodId) (x0 : Int32) : entryFrame m #[(.int x0)] 1 = mkF m 0 #[.val (.int x0)] [] := by first | (simp [entryFrame, mkF, argsToLocals, Value.category]; done) | rfl
def QrmWI (Z : State) (x r : Int32) (h0 : Heap) (n0 : Nat) (v : Option Value) (h : Heap) (L : List Loc) : Prop := v = some (.int r) ∧ Fr n0 L ∧ h = h0
set_option maxRecDepth 65536 in
set_option maxHeartbeats 40000000 in
theorem rmWI (l : Launch) (Z : State) (a0 : Array Value) (hw : ∀ d ∈ tables_1, d.before a0 Z = true) (ws : List Jvm.Cond) (x r : Int32) (h0 : Heap) (n0 : Nat) (Z0 : n0 ≤ h0.size) (hr : own_wi x = r) :
    MetFree l (⟨"java/util/BitSet", "wordIndex", "(I)I"⟩ : MethodName) (head1 (Jvm.Cond.code (⟨"java/util/BitSet", "wordIndex", "(I)I"⟩ : MethodName) jdk_92_method_1_code 1 (some .int) :: ws) ({ frames := 0, cells := 0, slots := 0, locals := 0 } : Room)) (fun ar_ U_ => ar_ = #[(.int x)] ∧ Z.Warmed39 U_.vm ∧ U_.heap = h0) (fun _ _ _ _ _ => True) (fun _ U_ ou_ V_ => ∃ v_ L_, ou_ = .returned v_ ∧ QrmWI Z x r h0 n0 v_ V_.heap L_ ∧ FrameEnd U_ ou_ V_ L_ ({ frames := 0, cells := 0, slots := 0, locals := 0 } : Room).cells ({ frames := 0, cells := 0, slots := 0, locals := 0 } : Room).slots) := by
  refine MetFree.of_bodySF (plainFor_of_name own_pn5) hisR ?_
  intro p e s m args below meth c s₁ Bd hml0 hP hK
  obtain ⟨rfl, hZ, hh⟩ := hP
  have hx := Bd.exec
  have hby := Bd.bytes
  have hml : c.maxLocals = 1 := hml0
  have hown : s.vm.findClass "java/util/BitSet" = some m.cls := findClass_of_methodNamed Bd.named
  have hnm := (name_of_methodNamed Bd.named Bd.method).1
  have X0 : Stand p l e ({ frames := 0, cells := 0, slots := 0, locals := 0 } : Room) s m #[(.int x)] below meth c s₁ [] 0 0 := Stand.of_body Bd
  have e0 : s₁.heap = h0 := by rw [← hh, Bd.state]; rfl
  have N0 := Fr.nil n0
  refine own_go (A := s₁.setTop (mkF m 0 #[.val (.int x)] [])) (fun t kz => castTop (own_ef5 m x) kz) ?_
  refine own_go (A := s₁.setTop (mkF m 4 #[.val (.int x)] [(.int (x >>> ((6 : Int32) &&& 31)))])) (fun _ kz => ?_) ?_
  · show Steps p.tables e below (s₁.setTop (mkF m 0 #[.val (.int x)] [])) _
    refine XS.iloadN X0.here hx rfl (hb hby d5_0) rfl ?_
    show Steps p.tables e below (s₁.setTop (mkF m 1 #[.val (.int x)] [(.int x)])) _
    refine XS.bipush X0.here hx rfl (hb hby d5_1) ?_
    show Steps p.tables e below (s₁.setTop (mkF m 3 #[.val (.int x)] [(.int (6 : Int32)), (.int x)])) _
    refine XS.ishr X0.here hx rfl (hb hby d5_3) rfl ?_
    exact kz
  obtain ⟨fs, hrr, hrun, hended, hW, hsame⟩ := X0.leave (v := some (.int (x >>> ((6 : Int32) &&& 31)))) (fun h => by rw [Bd.returns] at h; cases h)
  refine ⟨_, _, ?_, hrun, hended, _, _, rfl, ?_, ⟨_, rfl⟩, hW, hsame.mono (by decide) (by decide)⟩
  · show Steps p.tables e below (s₁.setTop (mkF m 4 #[.val (.int x)] [(.int (x >>> ((6 : Int32) &&& 31)))])) _
    exact retI X0 hx Bd.returns (hb hby d5_4) hrr
  · show QrmWI Z x r h0 n0 _ s₁.heap _
    rw [e0]
    exact ⟨congrArg (fun z => some (Value.int z)) hr, N0, rfl⟩
theorem d10_0 : decode jdk_92_method_2_code 0 = .ok (.getstatic 3, 3) := by decide +kernel
theorem d10_3 : decode jdk_92_method_2_code 3 = .ok (.ifCond .ne 34, 3) := by decide +kernel
theorem d10_37 : decode jdk_92_method_2_code 37 = .ok (.getstatic 3, 3) := by decide +kernel
theorem d10_40 : decode jdk_92_method_2_code 40 = .ok (.ifCond .ne 30, 3) := by decide +kernel
theorem d10_70 : decode jdk_92_method_2_code 70 = .ok (.getstatic 3, 3) := by decide +kernel
theorem d10_73 : decode jdk_92_method_2_code 73 = .ok (.ifCond .ne 37, 3) := by decide +kernel
theorem d10_110 : decode jdk_92_method_2_code 110 = .ok (.return_, 1) := by decide +kernel
theorem own_pn10 : plainName "java/util/BitSet" = true := by first | (simp [plainName, overriddenIn]; done) | decide +kernel
theorem own_ef10 (m : MethodId) (x0 : Addr) : entryFrame m #[(.ref x0)] 1 = mkF m 0 #[.val (.ref x0)] [] := by first | (simp [entryFrame, mkF, argsToLocals, Value.category]; done) | rfl
def QrmCI (Z : State) (a : Addr) (h0 : Heap) (n0 : Nat) (v : Option Value) (h : Heap) (L : List Loc) : Prop := v = none ∧ Fr n0 L ∧ h = h0
set_option maxRecDepth 65536 in
set_option maxHeartbeats 40000000 in
theorem rmCI (l : Launch) (Z : State) (a0 : Array Value) (hw : ∀ d ∈ tables_1, d.before a0 Z = true) (ws : List Jvm.Cond) (a : Addr) (h0 : Heap) (n0 : Nat) (Z0 : n0 ≤ h0.size) (S_ad : Sta Z h0 "java/util/BitSet" "$assertionsDisabled" "Z" (.int (1 : Int32))) :
    MetFree l (⟨"java/util/BitSet", "checkInvariants", "()V"⟩ : MethodName) (head1 (Jvm.Cond.code (⟨"java/util/BitSet", "checkInvariants", "()V"⟩ : MethodName) jdk_92_method_2_code 1 none :: ws) ({ frames := 0, cells := 0, slots := 0, locals := 0 } : Room)) (fun ar_ U_ => ar_ = #[(.ref a)] ∧ Z.Warmed39 U_.vm ∧ U_.heap = h0) (fun _ _ _ _ _ => True) (fun _ U_ ou_ V_ => ∃ v_ L_, ou_ = .returned v_ ∧ QrmCI Z a h0 n0 v_ V_.heap L_ ∧ FrameEnd U_ ou_ V_ L_ ({ frames := 0, cells := 0, slots := 0, locals := 0 } : Room).cells ({ frames := 0, cells := 0, slots := 0, locals := 0 } : Room).slots) := by
  refine MetFree.of_bodySF (plainFor_of_name own_pn10) hisR ?_
  intro p e s m args below meth c s₁ Bd hml0 hP hK
  obtain ⟨rfl, hZ, hh⟩ := hP
  have hx := Bd.exec
  have hby := Bd.bytes
  have hml : c.maxLocals = 1 := hml0
  have hown : s.vm.findClass "java/util/BitSet" = some m.cls := findClass_of_methodNamed Bd.named
  have hnm := (name_of_methodNamed Bd.named Bd.method).1
  have X0 : Stand p l e ({ frames := 0, cells := 0, slots := 0, locals := 0 } : Room) s m #[(.ref a)] below meth c s₁ [] 0 0 := Stand.of_body Bd
  have e0 : s₁.heap = h0 := by rw [← hh, Bd.state]; rfl
  have N0 := Fr.nil n0
  refine own_go (A := s₁.setTop (mkF m 0 #[.val (.ref a)] [])) (fun t kz => castTop (own_ef10 m a) kz) ?_
  obtain ⟨T1, X1, e1, st1⟩ := getS2 X0 hx hZ hown (host := "") (Or.inl (hw _ (List.mem_of_getElem? (i := 62) rfl))) Via.refl e0 S_ad (g := (mkF m 0 #[.val (.ref a)] [])) rfl (hb hby d10_0)
  refine own_go (A := T1.setTop (mkF m 3 #[.val (.ref a)] [(.int (1 : Int32))])) (fun _ kz => st1 _ kz) ?_
  refine own_go (A := T1.setTop (mkF m 37 #[.val (.ref a)] [])) (fun _ kz => ?_) ?_
  · show Steps p.tables e below (T1.setTop (mkF m 3 #[.val (.ref a)] [(.int (1 : Int32))])) _
    refine XS.ifYes X1.here hx rfl (pc0 := 3) (pc' := 37) rfl (hb hby d10_3) rfl ((if0 _ _).trans (feq (by decide : ¬ ((1 : Int32) = (0 : Int32)))).2) (by decide) (by decide) ?_
    exact kz
  obtain ⟨T2, X2, e2, st2⟩ := getS2 X1 hx hZ hown (host := "") (Or.inl (hw _ (List.mem_of_getElem? (i := 62) rfl))) Via.refl e1 S_ad (g := (mkF m 37 #[.val (.ref a)] [])) rfl (hb hby d10_37)
  refine own_go (A := T2.setTop (mkF m 40 #[.val (.ref a)] [(.int (1 : Int32))])) (fun _ kz => st2 _ kz) ?_
  refine own_go (A := T2.setTop (mkF m 70 #[.val (.ref a)] [])) (fun _ kz => ?_) ?_
  · show Steps p.tables e below (T2.setTop (mkF m 40 #[.val (.ref a)] [(.int (1 : Int32))])) _
    refine XS.ifYes X2.here hx rfl (pc0 := 40) (pc' := 70) rfl (hb hby d10_40) rfl ((if0 _ _).trans (feq (by decide : ¬ ((1 : Int32) = (0 : Int32)))).2) (by decide) (by decide) ?_
    exact kz
  obtain ⟨T3, X3, e3, st3⟩ := getS2 X2 hx hZ hown (host := "") (Or.inl (hw _ (List.mem_of_getElem? (i := 62) rfl))) Via.refl e2 S_ad (g := (mkF m 70 #[.val (.ref a)] [])) rfl (hb hby d10_70)
  refine own_go (A := T3.setTop (mkF m 73 #[.val (.ref a)] [(.int (1 : Int32))])) (fun _ kz => st3 _ kz) ?_
  refine own_go (A := T3.setTop (mkF m 110 #[.val (.ref a)] [])) (fun _ kz => ?_) ?_
  · show Steps p.tables e below (T3.setTop (mkF m 73 #[.val (.ref a)] [(.int (1 : Int32))])) _
    refine XS.ifYes X3.here hx rfl (pc0 := 73) (pc' := 110) rfl (hb hby d10_73) rfl ((if0 _ _).trans (feq (by decide : ¬ ((1 : Int32) = (0 : Int32)))).2) (by decide) (by decide) ?_
    exact kz
  obtain ⟨fs, hrr, hrun, hended, hW, hsame⟩ := X3.leave (v := none) (fun _ => rfl)
  refine ⟨_, _, ?_, hrun, hended, _, _, rfl, ?_, ⟨_, rfl⟩, hW, hsame.mono (by decide) (by decide)⟩
  · show Steps p.tables e below (T3.setTop (mkF m 110 #[.val (.ref a)] [])) _
    exact X3.returnOut hx Bd.returns (hb hby d10_110) hrr
  · show QrmCI Z a h0 n0 _ T3.heap _
    rw [e3]
    exact ⟨rfl, N0, rfl⟩
theorem d18_0 : decode jdk_29_method_65_code 0 = .ok (.iload_n 0, 1) := by decide +kernel
theorem d18_1 : decode jdk_29_method_65_code 1 = .ok (.iload_n 1, 1) := by decide +kernel
theorem d18_2 : decode jdk_29_method_65_code 2 = .ok (.if_icmp .lt 7, 3) := by decide +kernel
theorem d18_5 : decode jdk_29_method_65_code 5 = .ok (.iload_n 0, 1) := by decide +kernel
theorem d18_6 : decode jdk_29_method_65_code 6 = .ok (.goto 4, 3) := by decide +kernel
theorem d18_9 : decode jdk_29_method_65_code 9 = .ok (.iload_n 1, 1) := by decide +kernel
theorem d18_10 : decode jdk_29_method_65_code 10 = .ok (.ireturn, 1) := by decide +kernel
theorem own_ef18 (m : MethodId) (x0 : Int32) (x1 : Int32) : entryFrame m #[(.int x0), (.int x1)] 2 = mkF m 0 #[.val (.int x0), .val (.int x1)] [] := by first | (simp [entryFrame, mkF, argsToLocals, Value.category]; done) | rfl
def Qrmmax (Z : State) (x y r : Int32) (h0 : Heap) (n0 : Nat) (v : Option Value) (h : Heap) (L : List Loc) : Prop := v = some (.int r) ∧ Fr n0 L ∧ h = h0
set_option maxRecDepth 65536 in
set_option maxHeartbeats 40000000 in
theorem rmmax (l : Launch) (Z : State) (a0 : Array Value) (hw : ∀ d ∈ tables_1, d.before a0 Z = true) (ws : List Jvm.Cond) (x y r : Int32) (h0 : Heap) (n0 : Nat) (Z0 : n0 ≤ h0.size) (hr : (if x < y then y else x) = r) :
    MetFree l (⟨"java/lang/Math", "max", "(II)I"⟩ : MethodName) (head1 (Jvm.Cond.code (⟨"java/lang/Math", "max", "(II)I"⟩ : MethodName) jdk_29_method_65_code 2 (some .int) :: ws) ({ frames := 0, cells := 0, slots := 0, locals := 0 } : Room)) (fun ar_ U_ => ar_ = #[(.int x), (.int y)] ∧ Z.Warmed39 U_.vm ∧ U_.heap = h0) (fun _ _ _ _ _ => True) (fun _ U_ ou_ V_ => ∃ v_ L_, ou_ = .returned v_ ∧ Qrmmax Z x y r h0 n0 v_ V_.heap L_ ∧ FrameEnd U_ ou_ V_ L_ ({ frames := 0, cells := 0, slots := 0, locals := 0 } : Room).cells ({ frames := 0, cells := 0, slots := 0, locals := 0 } : Room).slots) := by
  refine MetFree.of_bodySF (Jvm.Free.JP.mathPlain rfl (by decide +kernel)) hisR ?_
  intro p e s m args below meth c s₁ Bd hml0 hP hK
  obtain ⟨rfl, hZ, hh⟩ := hP
  have hx := Bd.exec
  have hby := Bd.bytes
  have hml : c.maxLocals = 2 := hml0
  have hown : s.vm.findClass "java/lang/Math" = some m.cls := findClass_of_methodNamed Bd.named
  have hnm := (name_of_methodNamed Bd.named Bd.method).1
  have X0 : Stand p l e ({ frames := 0, cells := 0, slots := 0, locals := 0 } : Room) s m #[(.int x), (.int y)] below meth c s₁ [] 0 0 := Stand.of_body Bd
  have e0 : s₁.heap = h0 := by rw [← hh, Bd.state]; rfl
  have N0 := Fr.nil n0
  refine own_go (A := s₁.setTop (mkF m 0 #[.val (.int x), .val (.int y)] [])) (fun t kz => castTop (own_ef18 m x y) kz) ?_
  refine own_go (A := s₁.setTop (mkF m 2 #[.val (.int x), .val (.int y)] [(.int y), (.int x)])) (fun _ kz => ?_) ?_
  · show Steps p.tables e below (s₁.setTop (mkF m 0 #[.val (.int x), .val (.int y)] [])) _
    refine XS.iloadN X0.here hx rfl (hb hby d18_0) rfl ?_
    show Steps p.tables e below (s₁.setTop (mkF m 1 #[.val (.int x), .val (.int y)] [(.int x)])) _
    refine XS.iloadN X0.here hx rfl (hb hby d18_1) rfl ?_
    exact kz
  by_cases hs1 : x < y
  · skip
    refine own_go (A := s₁.setTop (mkF m 9 #[.val (.int x), .val (.int y)] [])) (fun _ kz => ?_) ?_
    · show Steps p.tables e below (s₁.setTop (mkF m 2 #[.val (.int x), .val (.int y)] [(.int y), (.int x)])) _
      refine XS.icmpYes X0.here hx rfl (pc0 := 2) (pc' := 9) rfl (hb hby d18_2) rfl (tlt hs1).1 (by decide) (by decide) ?_
      exact kz
    refine own_go (A := s₁.setTop (mkF m 10 #[.val (.int x), .val (.int y)] [(.int y)])) (fun _ kz => ?_) ?_
    · show Steps p.tables e below (s₁.setTop (mkF m 9 #[.val (.int x), .val (.int y)] [])) _
      refine XS.iloadN X0.here hx rfl (hb hby d18_9) rfl ?_
      exact kz
    obtain ⟨fs, hrr, hrun, hended, hW, hsame⟩ := X0.leave (v := some (.int y)) (fun h => by rw [Bd.returns] at h; cases h)
    refine ⟨_, _, ?_, hrun, hended, _, _, rfl, ?_, ⟨_, rfl⟩, hW, hsame.mono (by decide) (by decide)⟩
    · show Steps p.tables e below (s₁.setTop (mkF m 10 #[.val (.int x), .val (.int y)] [(.int y)])) _
      exact retI X0 hx Bd.returns (hb hby d18_10) hrr
    · show Qrmmax Z x y r h0 n0 _ s₁.heap _
      rw [e0]
      exact ⟨by rw [← hr, if_pos hs1], N0, rfl⟩
  · skip
    refine own_go (A := s₁.setTop (mkF m 5 #[.val (.int x), .val (.int y)] [])) (fun _ kz => ?_) ?_
    · show Steps p.tables e below (s₁.setTop (mkF m 2 #[.val (.int x), .val (.int y)] [(.int y), (.int x)])) _
      refine XS.icmpNo X0.here hx rfl (hb hby d18_2) rfl (flt hs1).1 ?_
      exact kz
    refine own_go (A := s₁.setTop (mkF m 10 #[.val (.int x), .val (.int y)] [(.int x)])) (fun _ kz => ?_) ?_
    · show Steps p.tables e below (s₁.setTop (mkF m 5 #[.val (.int x), .val (.int y)] [])) _
      refine XS.iloadN X0.here hx rfl (hb hby d18_5) rfl ?_
      show Steps p.tables e below (s₁.setTop (mkF m 6 #[.val (.int x), .val (.int y)] [(.int x)])) _
      refine XS.goto X0.here hx rfl (pc0 := 6) (pc' := 10) rfl (hb hby d18_6) (by decide) (by decide) ?_
      exact kz
    obtain ⟨fs, hrr, hrun, hended, hW, hsame⟩ := X0.leave (v := some (.int x)) (fun h => by rw [Bd.returns] at h; cases h)
    refine ⟨_, _, ?_, hrun, hended, _, _, rfl, ?_, ⟨_, rfl⟩, hW, hsame.mono (by decide) (by decide)⟩
    · show Steps p.tables e below (s₁.setTop (mkF m 10 #[.val (.int x), .val (.int y)] [(.int x)])) _
      exact retI X0 hx Bd.returns (hb hby d18_10) hrr
    · show Qrmmax Z x y r h0 n0 _ s₁.heap _
      rw [e0]
      exact ⟨by rw [← hr, if_neg hs1], N0, rfl⟩
theorem d20_0 : decode jdk_29_method_69_code 0 = .ok (.iload_n 0, 1) := by decide +kernel
theorem d20_1 : decode jdk_29_method_69_code 1 = .ok (.iload_n 1, 1) := by decide +kernel
theorem d20_2 : decode jdk_29_method_69_code 2 = .ok (.if_icmp .gt 7, 3) := by decide +kernel
theorem d20_5 : decode jdk_29_method_69_code 5 = .ok (.iload_n 0, 1) := by decide +kernel
theorem d20_6 : decode jdk_29_method_69_code 6 = .ok (.goto 4, 3) := by decide +kernel
theorem d20_9 : decode jdk_29_method_69_code 9 = .ok (.iload_n 1, 1) := by decide +kernel
theorem d20_10 : decode jdk_29_method_69_code 10 = .ok (.ireturn, 1) := by decide +kernel
theorem own_ef20 (m : MethodId) (x0 : Int32) (x1 : Int32) : entryFrame m #[(.int x0), (.int x1)] 2 = mkF m 0 #[.val (.int x0), .val (.int x1)] [] := by first | (simp [entryFrame, mkF, argsToLocals, Value.category]; done) | rfl
def Qrmmin (Z : State) (x y r : Int32) (h0 : Heap) (n0 : Nat) (v : Option Value) (h : Heap) (L : List Loc) : Prop := v = some (.int r) ∧ Fr n0 L ∧ h = h0
set_option maxRecDepth 65536 in
set_option maxHeartbeats 40000000 in
theorem rmmin (l : Launch) (Z : State) (a0 : Array Value) (hw : ∀ d ∈ tables_1, d.before a0 Z = true) (ws : List Jvm.Cond) (x y r : Int32) (h0 : Heap) (n0 : Nat) (Z0 : n0 ≤ h0.size) (hr : (if y < x then y else x) = r) :
    MetFree l (⟨"java/lang/Math", "min", "(II)I"⟩ : MethodName) (head1 (Jvm.Cond.code (⟨"java/lang/Math", "min", "(II)I"⟩ : MethodName) jdk_29_method_69_code 2 (some .int) :: ws) ({ frames := 0, cells := 0, slots := 0, locals := 0 } : Room)) (fun ar_ U_ => ar_ = #[(.int x), (.int y)] ∧ Z.Warmed39 U_.vm ∧ U_.heap = h0) (fun _ _ _ _ _ => True) (fun _ U_ ou_ V_ => ∃ v_ L_, ou_ = .returned v_ ∧ Qrmmin Z x y r h0 n0 v_ V_.heap L_ ∧ FrameEnd U_ ou_ V_ L_ ({ frames := 0, cells := 0, slots := 0, locals := 0 } : Room).cells ({ frames := 0, cells := 0, slots := 0, locals := 0 } : Room).slots) := by
  refine MetFree.of_bodySF (Jvm.Free.JP.mathPlain rfl (by decide +kernel)) hisR ?_
  intro p e s m args below meth c s₁ Bd hml0 hP hK
  obtain ⟨rfl, hZ, hh⟩ := hP
  have hx := Bd.exec
  have hby := Bd.bytes
  have hml : c.maxLocals = 2 := hml0
  have hown : s.vm.findClass "java/lang/Math" = some m.cls := findClass_of_methodNamed Bd.named
  have hnm := (name_of_methodNamed Bd.named Bd.method).1
  have X0 : Stand p l e ({ frames := 0, cells := 0, slots := 0, locals := 0 } : Room) s m #[(.int x), (.int y)] below meth c s₁ [] 0 0 := Stand.of_body Bd
  have e0 : s₁.heap = h0 := by rw [← hh, Bd.state]; rfl
  have N0 := Fr.nil n0
  refine own_go (A := s₁.setTop (mkF m 0 #[.val (.int x), .val (.int y)] [])) (fun t kz => castTop (own_ef20 m x y) kz) ?_
  refine own_go (A := s₁.setTop (mkF m 2 #[.val (.int x), .val (.int y)] [(.int y), (.int x)])) (fun _ kz => ?_) ?_
  · show Steps p.tables e below (s₁.setTop (mkF m 0 #[.val (.int x), .val (.int y)] [])) _
    refine XS.iloadN X0.here hx rfl (hb hby d20_0) rfl ?_
    show Steps p.tables e below (s₁.setTop (mkF m 1 #[.val (.int x), .val (.int y)] [(.int x)])) _
    refine XS.iloadN X0.here hx rfl (hb hby d20_1) rfl ?_
    exact kz
  by_cases hs1 : y < x
  · skip
    refine own_go (A := s₁.setTop (mkF m 9 #[.val (.int x), .val (.int y)] [])) (fun _ kz => ?_) ?_
    · show Steps p.tables e below (s₁.setTop (mkF m 2 #[.val (.int x), .val (.int y)] [(.int y), (.int x)])) _
      refine XS.icmpYes X0.here hx rfl (pc0 := 2) (pc' := 9) rfl (hb hby d20_2) rfl (tlt hs1).2.2.1 (by decide) (by decide) ?_
      exact kz
    refine own_go (A := s₁.setTop (mkF m 10 #[.val (.int x), .val (.int y)] [(.int y)])) (fun _ kz => ?_) ?_
    · show Steps p.tables e below (s₁.setTop (mkF m 9 #[.val (.int x), .val (.int y)] [])) _
      refine XS.iloadN X0.here hx rfl (hb hby d20_9) rfl ?_
      exact kz
    obtain ⟨fs, hrr, hrun, hended, hW, hsame⟩ := X0.leave (v := some (.int y)) (fun h => by rw [Bd.returns] at h; cases h)
    refine ⟨_, _, ?_, hrun, hended, _, _, rfl, ?_, ⟨_, rfl⟩, hW, hsame.mono (by decide) (by decide)⟩
    · show Steps p.tables e below (s₁.setTop (mkF m 10 #[.val (.int x), .val (.int y)] [(.int y)])) _
      exact retI X0 hx Bd.returns (hb hby d20_10) hrr
    · show Qrmmin Z x y r h0 n0 _ s₁.heap _
      rw [e0]
      exact ⟨by rw [← hr, if_pos hs1], N0, rfl⟩
  · skip
    refine own_go (A := s₁.setTop (mkF m 5 #[.val (.int x), .val (.int y)] [])) (fun _ kz => ?_) ?_
    · show Steps p.tables e below (s₁.setTop (mkF m 2 #[.val (.int x), .val (.int y)] [(.int y), (.int x)])) _
      refine XS.icmpNo X0.here hx rfl (hb hby d20_2) rfl (flt hs1).2.2.1 ?_
      exact kz
    refine own_go (A := s₁.setTop (mkF m 10 #[.val (.int x), .val (.int y)] [(.int x)])) (fun _ kz => ?_) ?_
    · show Steps p.tables e below (s₁.setTop (mkF m 5 #[.val (.int x), .val (.int y)] [])) _
      refine XS.iloadN X0.here hx rfl (hb hby d20_5) rfl ?_
      show Steps p.tables e below (s₁.setTop (mkF m 6 #[.val (.int x), .val (.int y)] [(.int x)])) _
      refine XS.goto X0.here hx rfl (pc0 := 6) (pc' := 10) rfl (hb hby d20_6) (by decide) (by decide) ?_
      exact kz
    obtain ⟨fs, hrr, hrun, hended, hW, hsame⟩ := X0.leave (v := some (.int x)) (fun h => by rw [Bd.returns] at h; cases h)
    refine ⟨_, _, ?_, hrun, hended, _, _, rfl, ?_, ⟨_, rfl⟩, hW, hsame.mono (by decide) (by decide)⟩
    · show Steps p.tables e below (s₁.setTop (mkF m 10 #[.val (.int x), .val (.int y)] [(.int x)])) _
      exact retI X0 hx Bd.returns (hb hby d20_10) hrr
    · show Qrmmin Z x y r h0 n0 _ s₁.heap _
      rw [e0]
      exact ⟨by rw [← hr, if_neg hs1], N0, rfl⟩
theorem d14_0 : decode jdk_35_method_50_code 0 = .ok (.lload_n 0, 1) := by decide +kernel
theorem d14_1 : decode jdk_35_method_50_code 1 = .ok (.lload_n 0, 1) := by decide +kernel
theorem d14_2 : decode jdk_35_method_50_code 2 = .ok (.iconst 1, 1) := by decide +kernel
theorem d14_3 : decode jdk_35_method_50_code 3 = .ok (.lushr, 1) := by decide +kernel
theorem d14_4 : decode jdk_35_method_50_code 4 = .ok (.ldc2_w 314, 3) := by decide +kernel
theorem d14_7 : decode jdk_35_method_50_code 7 = .ok (.land, 1) := by decide +kernel
theorem d14_8 : decode jdk_35_method_50_code 8 = .ok (.lsub, 1) := by decide +kernel
theorem d14_9 : decode jdk_35_method_50_code 9 = .ok (.lstore_n 0, 1) := by decide +kernel
theorem d14_10 : decode jdk_35_method_50_code 10 = .ok (.lload_n 0, 1) := by decide +kernel
theorem d14_11 : decode jdk_35_method_50_code 11 = .ok (.ldc2_w 316, 3) := by decide +kernel
theorem d14_14 : decode jdk_35_method_50_code 14 = .ok (.land, 1) := by decide +kernel
theorem d14_15 : decode jdk_35_method_50_code 15 = .ok (.lload_n 0, 1) := by decide +kernel
theorem d14_16 : decode jdk_35_method_50_code 16 = .ok (.iconst 2, 1) := by decide +kernel
theorem d14_17 : decode jdk_35_method_50_code 17 = .ok (.lushr, 1) := by decide +kernel
theorem d14_18 : decode jdk_35_method_50_code 18 = .ok (.ldc2_w 316, 3) := by decide +kernel
theorem d14_21 : decode jdk_35_method_50_code 21 = .ok (.land, 1) := by decide +kernel
theorem d14_22 : decode jdk_35_method_50_code 22 = .ok (.ladd, 1) := by decide +kernel
theorem d14_23 : decode jdk_35_method_50_code 23 = .ok (.lstore_n 0, 1) := by decide +kernel
theorem d14_24 : decode jdk_35_method_50_code 24 = .ok (.lload_n 0, 1) := by decide +kernel
theorem d14_25 : decode jdk_35_method_50_code 25 = .ok (.lload_n 0, 1) := by decide +kernel
theorem d14_26 : decode jdk_35_method_50_code 26 = .ok (.iconst 4, 1) := by decide +kernel
theorem d14_27 : decode jdk_35_method_50_code 27 = .ok (.lushr, 1) := by decide +kernel
theorem d14_28 : decode jdk_35_method_50_code 28 = .ok (.ladd, 1) := by decide +kernel
theorem d14_29 : decode jdk_35_method_50_code 29 = .ok (.ldc2_w 318, 3) := by decide +kernel
theorem d14_32 : decode jdk_35_method_50_code 32 = .ok (.land, 1) := by decide +kernel
theorem d14_33 : decode jdk_35_method_50_code 33 = .ok (.lstore_n 0, 1) := by decide +kernel
theorem d14_34 : decode jdk_35_method_50_code 34 = .ok (.lload_n 0, 1) := by decide +kernel
theorem d14_35 : decode jdk_35_method_50_code 35 = .ok (.lload_n 0, 1) := by decide +kernel
theorem d14_36 : decode jdk_35_method_50_code 36 = .ok (.bipush 8, 2) := by decide +kernel
theorem d14_38 : decode jdk_35_method_50_code 38 = .ok (.lushr, 1) := by decide +kernel
theorem d14_39 : decode jdk_35_method_50_code 39 = .ok (.ladd, 1) := by decide +kernel
theorem d14_40 : decode jdk_35_method_50_code 40 = .ok (.lstore_n 0, 1) := by decide +kernel
theorem d14_41 : decode jdk_35_method_50_code 41 = .ok (.lload_n 0, 1) := by decide +kernel
theorem d14_42 : decode jdk_35_method_50_code 42 = .ok (.lload_n 0, 1) := by decide +kernel
theorem d14_43 : decode jdk_35_method_50_code 43 = .ok (.bipush 16, 2) := by decide +kernel
theorem d14_45 : decode jdk_35_method_50_code 45 = .ok (.lushr, 1) := by decide +kernel
theorem d14_46 : decode jdk_35_method_50_code 46 = .ok (.ladd, 1) := by decide +kernel
theorem d14_47 : decode jdk_35_method_50_code 47 = .ok (.lstore_n 0, 1) := by decide +kernel
theorem d14_48 : decode jdk_35_method_50_code 48 = .ok (.lload_n 0, 1) := by decide +kernel
theorem d14_49 : decode jdk_35_method_50_code 49 = .ok (.lload_n 0, 1) := by decide +kernel
theorem d14_50 : decode jdk_35_method_50_code 50 = .ok (.bipush 32, 2) := by decide +kernel
theorem d14_52 : decode jdk_35_method_50_code 52 = .ok (.lushr, 1) := by decide +kernel
theorem d14_53 : decode jdk_35_method_50_code 53 = .ok (.ladd, 1) := by decide +kernel
theorem d14_54 : decode jdk_35_method_50_code 54 = .ok (.lstore_n 0, 1) := by decide +kernel
theorem d14_55 : decode jdk_35_method_50_code 55 = .ok (.lload_n 0, 1) := by decide +kernel
theorem d14_56 : decode jdk_35_method_50_code 56 = .ok (.l2i, 1) := by decide +kernel
theorem d14_57 : decode jdk_35_method_50_code 57 = .ok (.bipush 127, 2) := by decide +kernel
theorem d14_59 : decode jdk_35_method_50_code 59 = .ok (.iand, 1) := by decide +kernel
theorem d14_60 : decode jdk_35_method_50_code 60 = .ok (.ireturn, 1) := by decide +kernel
theorem own_pn14 : plainName "java/lang/Long" = true := by first | (simp [plainName, overriddenIn]; done) | decide +kernel
theorem own_ef14 (m : MethodId) (x0 : Int64) : entryFrame m #[(.long x0)] 2 = mkF m 0 #[.val (.long x0), .second] [] := by first | (simp [entryFrame, mkF, argsToLocals, Value.category]; done) | rfl
def QrmBC (Z : State) (q1 : Int64) (h0 : Heap) (n0 : Nat) (v : Option Value) (h : Heap) (L : List Loc) : Prop := v = some (.int (own_bc q1)) ∧ Fr n0 L ∧ h = h0
set_option maxRecDepth 65536 in
set_option maxHeartbeats 40000000 in
theorem rmBC (l : Launch) (Z : State) (a0 : Array Value) (hw : ∀ d ∈ tables_1, d.before a0 Z = true) (ws : List Jvm.Cond) (q1 : Int64) (h0 : Heap) (n0 : Nat) (Z0 : n0 ≤ h0.size)  :
    MetFree l (⟨"java/lang/Long", "bitCount", "(J)I"⟩ : MethodName) (head1 (Jvm.Cond.code (⟨"java/lang/Long", "bitCount", "(J)I"⟩ : MethodName) jdk_35_method_50_code 2 (some .int) :: ws) ({ frames := 0, cells := 0, slots := 0, locals := 0 } : Room)) (fun ar_ U_ => ar_ = #[(.long q1)] ∧ Z.Warmed39 U_.vm ∧ U_.heap = h0) (fun _ _ _ _ _ => True) (fun _ U_ ou_ V_ => ∃ v_ L_, ou_ = .returned v_ ∧ QrmBC Z q1 h0 n0 v_ V_.heap L_ ∧ FrameEnd U_ ou_ V_ L_ ({ frames := 0, cells := 0, slots := 0, locals := 0 } : Room).cells ({ frames := 0, cells := 0, slots := 0, locals := 0 } : Room).slots) := by
  refine MetFree.of_bodySF (plainFor_of_name own_pn14) hisR ?_
  intro p e s m args below meth c s₁ Bd hml0 hP hK
  obtain ⟨rfl, hZ, hh⟩ := hP
  have hx := Bd.exec
  have hby := Bd.bytes
  have hml : c.maxLocals = 2 := hml0
  have hown : s.vm.findClass "java/lang/Long" = some m.cls := findClass_of_methodNamed Bd.named
  have hnm := (name_of_methodNamed Bd.named Bd.method).1
  have X0 : Stand p l e ({ frames := 0, cells := 0, slots := 0, locals := 0 } : Room) s m #[(.long q1)] below meth c s₁ [] 0 0 := Stand.of_body Bd
  have e0 : s₁.heap = h0 := by rw [← hh, Bd.state]; rfl
  have N0 := Fr.nil n0
  refine own_go (A := s₁.setTop (mkF m 0 #[.val (.long q1), .second] [])) (fun t kz => castTop (own_ef14 m q1) kz) ?_
  refine own_go (A := s₁.setTop (mkF m 10 #[.val (.long (q1 - (((q1.toUInt64 >>> ((1 : Int32) &&& 0x3f).toInt64.toUInt64).toInt64) &&& (6148914691236517205 : Int64)))), .second] [])) (fun _ kz => ?_) ?_
  · show Steps p.tables e below (s₁.setTop (mkF m 0 #[.val (.long q1), .second] [])) _
    refine XS.lloadN X0.here hx rfl (hb hby d14_0) rfl ?_
    show Steps p.tables e below (s₁.setTop (mkF m 1 #[.val (.long q1), .second] [(.long q1)])) _
    refine XS.lloadN X0.here hx rfl (hb hby d14_1) rfl ?_
    show Steps p.tables e below (s₁.setTop (mkF m 2 #[.val (.long q1), .second] [(.long q1), (.long q1)])) _
    refine XS.iconst X0.here hx rfl (hb hby d14_2) ?_
    show Steps p.tables e below (s₁.setTop (mkF m 3 #[.val (.long q1), .second] [(.int (1 : Int32)), (.long q1), (.long q1)])) _
    refine XS.lushr X0.here hx rfl (hb hby d14_3) rfl ?_
    show Steps p.tables e below (s₁.setTop (mkF m 4 #[.val (.long q1), .second] [(.long ((q1.toUInt64 >>> ((1 : Int32) &&& 0x3f).toInt64.toUInt64).toInt64)), (.long q1)])) _
    refine X0.ldc2Long hx hown (mvT hZ (hw _ (List.mem_of_getElem? (i := 84) rfl))) (g := (mkF m 4 #[.val (.long q1), .second] [(.long ((q1.toUInt64 >>> ((1 : Int32) &&& 0x3f).toInt64.toUInt64).toInt64)), (.long q1)])) rfl (hb hby d14_4) _ ?_
    show Steps p.tables e below (s₁.setTop (mkF m 7 #[.val (.long q1), .second] [(.long (6148914691236517205 : Int64)), (.long ((q1.toUInt64 >>> ((1 : Int32) &&& 0x3f).toInt64.toUInt64).toInt64)), (.long q1)])) _
    refine XS.land X0.here hx rfl (hb hby d14_7) rfl ?_
    show Steps p.tables e below (s₁.setTop (mkF m 8 #[.val (.long q1), .second] [(.long (((q1.toUInt64 >>> ((1 : Int32) &&& 0x3f).toInt64.toUInt64).toInt64) &&& (6148914691236517205 : Int64))), (.long q1)])) _
    refine XS.lsub X0.here hx rfl (hb hby d14_8) rfl ?_
    show Steps p.tables e below (s₁.setTop (mkF m 9 #[.val (.long q1), .second] [(.long (q1 - (((q1.toUInt64 >>> ((1 : Int32) &&& 0x3f).toInt64.toUInt64).toInt64) &&& (6148914691236517205 : Int64))))])) _
    refine XS.lstoreN X0.here hx rfl (hb hby d14_9) rfl (l' := #[.val (.long (q1 - (((q1.toUInt64 >>> ((1 : Int32) &&& 0x3f).toInt64.toUInt64).toInt64) &&& (6148914691236517205 : Int64)))), .second]) rfl ?_
    exact kz
  refine own_go (A := s₁.setTop (mkF m 10 #[.val (.long (own_c1 q1)), .second] [])) (fun _ kz => kz) ?_
  refine own_go (A := s₁.setTop (mkF m 24 #[.val (.long (((own_c1 q1) &&& (3689348814741910323 : Int64)) + ((((own_c1 q1).toUInt64 >>> ((2 : Int32) &&& 0x3f).toInt64.toUInt64).toInt64) &&& (3689348814741910323 : Int64)))), .second] [])) (fun _ kz => ?_) ?_
  · show Steps p.tables e below (s₁.setTop (mkF m 10 #[.val (.long (own_c1 q1)), .second] [])) _
    refine XS.lloadN X0.here hx rfl (hb hby d14_10) rfl ?_
    show Steps p.tables e below (s₁.setTop (mkF m 11 #[.val (.long (own_c1 q1)), .second] [(.long (own_c1 q1))])) _
    refine X0.ldc2Long hx hown (mvT hZ (hw _ (List.mem_of_getElem? (i := 85) rfl))) (g := (mkF m 11 #[.val (.long (own_c1 q1)), .second] [(.long (own_c1 q1))])) rfl (hb hby d14_11) _ ?_
    show Steps p.tables e below (s₁.setTop (mkF m 14 #[.val (.long (own_c1 q1)), .second] [(.long (3689348814741910323 : Int64)), (.long (own_c1 q1))])) _
    refine XS.land X0.here hx rfl (hb hby d14_14) rfl ?_
    show Steps p.tables e below (s₁.setTop (mkF m 15 #[.val (.long (own_c1 q1)), .second] [(.long ((own_c1 q1) &&& (3689348814741910323 : Int64)))])) _
    refine XS.lloadN X0.here hx rfl (hb hby d14_15) rfl ?_
    show Steps p.tables e below (s₁.setTop (mkF m 16 #[.val (.long (own_c1 q1)), .second] [(.long (own_c1 q1)), (.long ((own_c1 q1) &&& (3689348814741910323 : Int64)))])) _
    refine XS.iconst X0.here hx rfl (hb hby d14_16) ?_
    show Steps p.tables e below (s₁.setTop (mkF m 17 #[.val (.long (own_c1 q1)), .second] [(.int (2 : Int32)), (.long (own_c1 q1)), (.long ((own_c1 q1) &&& (3689348814741910323 : Int64)))])) _
    refine XS.lushr X0.here hx rfl (hb hby d14_17) rfl ?_
    show Steps p.tables e below (s₁.setTop (mkF m 18 #[.val (.long (own_c1 q1)), .second] [(.long (((own_c1 q1).toUInt64 >>> ((2 : Int32) &&& 0x3f).toInt64.toUInt64).toInt64)), (.long ((own_c1 q1) &&& (3689348814741910323 : Int64)))])) _
    refine X0.ldc2Long hx hown (mvT hZ (hw _ (List.mem_of_getElem? (i := 85) rfl))) (g := (mkF m 18 #[.val (.long (own_c1 q1)), .second] [(.long (((own_c1 q1).toUInt64 >>> ((2 : Int32) &&& 0x3f).toInt64.toUInt64).toInt64)), (.long ((own_c1 q1) &&& (3689348814741910323 : Int64)))])) rfl (hb hby d14_18) _ ?_
    show Steps p.tables e below (s₁.setTop (mkF m 21 #[.val (.long (own_c1 q1)), .second] [(.long (3689348814741910323 : Int64)), (.long (((own_c1 q1).toUInt64 >>> ((2 : Int32) &&& 0x3f).toInt64.toUInt64).toInt64)), (.long ((own_c1 q1) &&& (3689348814741910323 : Int64)))])) _
    refine XS.land X0.here hx rfl (hb hby d14_21) rfl ?_
    show Steps p.tables e below (s₁.setTop (mkF m 22 #[.val (.long (own_c1 q1)), .second] [(.long ((((own_c1 q1).toUInt64 >>> ((2 : Int32) &&& 0x3f).toInt64.toUInt64).toInt64) &&& (3689348814741910323 : Int64))), (.long ((own_c1 q1) &&& (3689348814741910323 : Int64)))])) _
    refine XS.ladd X0.here hx rfl (hb hby d14_22) rfl ?_
    show Steps p.tables e below (s₁.setTop (mkF m 23 #[.val (.long (own_c1 q1)), .second] [(.long (((own_c1 q1) &&& (3689348814741910323 : Int64)) + ((((own_c1 q1).toUInt64 >>> ((2 : Int32) &&& 0x3f).toInt64.toUInt64).toInt64) &&& (3689348814741910323 : Int64))))])) _
    refine XS.lstoreN X0.here hx rfl (hb hby d14_23) rfl (l' := #[.val (.long (((own_c1 q1) &&& (3689348814741910323 : Int64)) + ((((own_c1 q1).toUInt64 >>> ((2 : Int32) &&& 0x3f).toInt64.toUInt64).toInt64) &&& (3689348814741910323 : Int64)))), .second]) rfl ?_
    exact kz
  refine own_go (A := s₁.setTop (mkF m 24 #[.val (.long (own_c2 (own_c1 q1))), .second] [])) (fun _ kz => kz) ?_
  refine own_go (A := s₁.setTop (mkF m 34 #[.val (.long (((own_c2 (own_c1 q1)) + (((own_c2 (own_c1 q1)).toUInt64 >>> ((4 : Int32) &&& 0x3f).toInt64.toUInt64).toInt64)) &&& (1085102592571150095 : Int64))), .second] [])) (fun _ kz => ?_) ?_
  · show Steps p.tables e below (s₁.setTop (mkF m 24 #[.val (.long (own_c2 (own_c1 q1))), .second] [])) _
    refine XS.lloadN X0.here hx rfl (hb hby d14_24) rfl ?_
    show Steps p.tables e below (s₁.setTop (mkF m 25 #[.val (.long (own_c2 (own_c1 q1))), .second] [(.long (own_c2 (own_c1 q1)))])) _
    refine XS.lloadN X0.here hx rfl (hb hby d14_25) rfl ?_
    show Steps p.tables e below (s₁.setTop (mkF m 26 #[.val (.long (own_c2 (own_c1 q1))), .second] [(.long (own_c2 (own_c1 q1))), (.long (own_c2 (own_c1 q1)))])) _
    refine XS.iconst X0.here hx rfl (hb hby d14_26) ?_
    show Steps p.tables e below (s₁.setTop (mkF m 27 #[.val (.long (own_c2 (own_c1 q1))), .second] [(.int (4 : Int32)), (.long (own_c2 (own_c1 q1))), (.long (own_c2 (own_c1 q1)))])) _
    refine XS.lushr X0.here hx rfl (hb hby d14_27) rfl ?_
    show Steps p.tables e below (s₁.setTop (mkF m 28 #[.val (.long (own_c2 (own_c1 q1))), .second] [(.long (((own_c2 (own_c1 q1)).toUInt64 >>> ((4 : Int32) &&& 0x3f).toInt64.toUInt64).toInt64)), (.long (own_c2 (own_c1 q1)))])) _
    refine XS.ladd X0.here hx rfl (hb hby d14_28) rfl ?_
    show Steps p.tables e below (s₁.setTop (mkF m 29 #[.val (.long (own_c2 (own_c1 q1))), .second] [(.long ((own_c2 (own_c1 q1)) + (((own_c2 (own_c1 q1)).toUInt64 >>> ((4 : Int32) &&& 0x3f).toInt64.toUInt64).toInt64)))])) _
    refine X0.ldc2Long hx hown (mvT hZ (hw _ (List.mem_of_getElem? (i := 86) rfl))) (g := (mkF m 29 #[.val (.long (own_c2 (own_c1 q1))), .second] [(.long ((own_c2 (own_c1 q1)) + (((own_c2 (own_c1 q1)).toUInt64 >>> ((4 : Int32) &&& 0x3f).toInt64.toUInt64).toInt64)))])) rfl (hb hby d14_29) _ ?_
    show Steps p.tables e below (s₁.setTop (mkF m 32 #[.val (.long (own_c2 (own_c1 q1))), .second] [(.long (1085102592571150095 : Int64)), (.long ((own_c2 (own_c1 q1)) + (((own_c2 (own_c1 q1)).toUInt64 >>> ((4 : Int32) &&& 0x3f).toInt64.toUInt64).toInt64)))])) _
    refine XS.land X0.here hx rfl (hb hby d14_32) rfl ?_
    show Steps p.tables e below (s₁.setTop (mkF m 33 #[.val (.long (own_c2 (own_c1 q1))), .second] [(.long (((own_c2 (own_c1 q1)) + (((own_c2 (own_c1 q1)).toUInt64 >>> ((4 : Int32) &&& 0x3f).toInt64.toUInt64).toInt64)) &&& (1085102592571150095 : Int64)))])) _
    refine XS.lstoreN X0.here hx rfl (hb hby d14_33) rfl (l' := #[.val (.long (((own_c2 (own_c1 q1)) + (((own_c2 (own_c1 q1)).toUInt64 >>> ((4 : Int32) &&& 0x3f).toInt64.toUInt64).toInt64)) &&& (1085102592571150095 : Int64))), .second]) rfl ?_
    exact kz
  refine own_go (A := s₁.setTop (mkF m 34 #[.val (.long (own_c3 (own_c2 (own_c1 q1)))), .second] [])) (fun _ kz => kz) ?_
  refine own_go (A := s₁.setTop (mkF m 41 #[.val (.long ((own_c3 (own_c2 (own_c1 q1))) + (((own_c3 (own_c2 (own_c1 q1))).toUInt64 >>> ((8 : Int32) &&& 0x3f).toInt64.toUInt64).toInt64))), .second] [])) (fun _ kz => ?_) ?_
  · show Steps p.tables e below (s₁.setTop (mkF m 34 #[.val (.long (own_c3 (own_c2 (own_c1 q1)))), .second] [])) _
    refine XS.lloadN X0.here hx rfl (hb hby d14_34) rfl ?_
    show Steps p.tables e below (s₁.setTop (mkF m 35 #[.val (.long (own_c3 (own_c2 (own_c1 q1)))), .second] [(.long (own_c3 (own_c2 (own_c1 q1))))])) _
    refine XS.lloadN X0.here hx rfl (hb hby d14_35) rfl ?_
    show Steps p.tables e below (s₁.setTop (mkF m 36 #[.val (.long (own_c3 (own_c2 (own_c1 q1)))), .second] [(.long (own_c3 (own_c2 (own_c1 q1)))), (.long (own_c3 (own_c2 (own_c1 q1))))])) _
    refine XS.bipush X0.here hx rfl (hb hby d14_36) ?_
    show Steps p.tables e below (s₁.setTop (mkF m 38 #[.val (.long (own_c3 (own_c2 (own_c1 q1)))), .second] [(.int (8 : Int32)), (.long (own_c3 (own_c2 (own_c1 q1)))), (.long (own_c3 (own_c2 (own_c1 q1))))])) _
    refine XS.lushr X0.here hx rfl (hb hby d14_38) rfl ?_
    show Steps p.tables e below (s₁.setTop (mkF m 39 #[.val (.long (own_c3 (own_c2 (own_c1 q1)))), .second] [(.long (((own_c3 (own_c2 (own_c1 q1))).toUInt64 >>> ((8 : Int32) &&& 0x3f).toInt64.toUInt64).toInt64)), (.long (own_c3 (own_c2 (own_c1 q1))))])) _
    refine XS.ladd X0.here hx rfl (hb hby d14_39) rfl ?_
    show Steps p.tables e below (s₁.setTop (mkF m 40 #[.val (.long (own_c3 (own_c2 (own_c1 q1)))), .second] [(.long ((own_c3 (own_c2 (own_c1 q1))) + (((own_c3 (own_c2 (own_c1 q1))).toUInt64 >>> ((8 : Int32) &&& 0x3f).toInt64.toUInt64).toInt64)))])) _
    refine XS.lstoreN X0.here hx rfl (hb hby d14_40) rfl (l' := #[.val (.long ((own_c3 (own_c2 (own_c1 q1))) + (((own_c3 (own_c2 (own_c1 q1))).toUInt64 >>> ((8 : Int32) &&& 0x3f).toInt64.toUInt64).toInt64))), .second]) rfl ?_
    exact kz
  refine own_go (A := s₁.setTop (mkF m 41 #[.val (.long (own_c4 (own_c3 (own_c2 (own_c1 q1))))), .second] [])) (fun _ kz => kz) ?_
  refine own_go (A := s₁.setTop (mkF m 48 #[.val (.long ((own_c4 (own_c3 (own_c2 (own_c1 q1)))) + (((own_c4 (own_c3 (own_c2 (own_c1 q1)))).toUInt64 >>> ((16 : Int32) &&& 0x3f).toInt64.toUInt64).toInt64))), .second] [])) (fun _ kz => ?_) ?_
  · show Steps p.tables e below (s₁.setTop (mkF m 41 #[.val (.long (own_c4 (own_c3 (own_c2 (own_c1 q1))))), .second] [])) _
    refine XS.lloadN X0.here hx rfl (hb hby d14_41) rfl ?_
    show Steps p.tables e below (s₁.setTop (mkF m 42 #[.val (.long (own_c4 (own_c3 (own_c2 (own_c1 q1))))), .second] [(.long (own_c4 (own_c3 (own_c2 (own_c1 q1)))))])) _
    refine XS.lloadN X0.here hx rfl (hb hby d14_42) rfl ?_
    show Steps p.tables e below (s₁.setTop (mkF m 43 #[.val (.long (own_c4 (own_c3 (own_c2 (own_c1 q1))))), .second] [(.long (own_c4 (own_c3 (own_c2 (own_c1 q1))))), (.long (own_c4 (own_c3 (own_c2 (own_c1 q1)))))])) _
    refine XS.bipush X0.here hx rfl (hb hby d14_43) ?_
    show Steps p.tables e below (s₁.setTop (mkF m 45 #[.val (.long (own_c4 (own_c3 (own_c2 (own_c1 q1))))), .second] [(.int (16 : Int32)), (.long (own_c4 (own_c3 (own_c2 (own_c1 q1))))), (.long (own_c4 (own_c3 (own_c2 (own_c1 q1)))))])) _
    refine XS.lushr X0.here hx rfl (hb hby d14_45) rfl ?_
    show Steps p.tables e below (s₁.setTop (mkF m 46 #[.val (.long (own_c4 (own_c3 (own_c2 (own_c1 q1))))), .second] [(.long (((own_c4 (own_c3 (own_c2 (own_c1 q1)))).toUInt64 >>> ((16 : Int32) &&& 0x3f).toInt64.toUInt64).toInt64)), (.long (own_c4 (own_c3 (own_c2 (own_c1 q1)))))])) _
    refine XS.ladd X0.here hx rfl (hb hby d14_46) rfl ?_
    show Steps p.tables e below (s₁.setTop (mkF m 47 #[.val (.long (own_c4 (own_c3 (own_c2 (own_c1 q1))))), .second] [(.long ((own_c4 (own_c3 (own_c2 (own_c1 q1)))) + (((own_c4 (own_c3 (own_c2 (own_c1 q1)))).toUInt64 >>> ((16 : Int32) &&& 0x3f).toInt64.toUInt64).toInt64)))])) _
    refine XS.lstoreN X0.here hx rfl (hb hby d14_47) rfl (l' := #[.val (.long ((own_c4 (own_c3 (own_c2 (own_c1 q1)))) + (((own_c4 (own_c3 (own_c2 (own_c1 q1)))).toUInt64 >>> ((16 : Int32) &&& 0x3f).toInt64.toUInt64).toInt64))), .second]) rfl ?_
    exact kz
  refine own_go (A := s₁.setTop (mkF m 48 #[.val (.long (own_c5 (own_c4 (own_c3 (own_c2 (own_c1 q1)))))), .second] [])) (fun _ kz => kz) ?_
  refine own_go (A := s₁.setTop (mkF m 55 #[.val (.long ((own_c5 (own_c4 (own_c3 (own_c2 (own_c1 q1))))) + (((own_c5 (own_c4 (own_c3 (own_c2 (own_c1 q1))))).toUInt64 >>> ((32 : Int32) &&& 0x3f).toInt64.toUInt64).toInt64))), .second] [])) (fun _ kz => ?_) ?_
  · show Steps p.tables e below (s₁.setTop (mkF m 48 #[.val (.long (own_c5 (own_c4 (own_c3 (own_c2 (own_c1 q1)))))), .second] [])) _
    refine XS.lloadN X0.here hx rfl (hb hby d14_48) rfl ?_
    show Steps p.tables e below (s₁.setTop (mkF m 49 #[.val (.long (own_c5 (own_c4 (own_c3 (own_c2 (own_c1 q1)))))), .second] [(.long (own_c5 (own_c4 (own_c3 (own_c2 (own_c1 q1))))))])) _
    refine XS.lloadN X0.here hx rfl (hb hby d14_49) rfl ?_
    show Steps p.tables e below (s₁.setTop (mkF m 50 #[.val (.long (own_c5 (own_c4 (own_c3 (own_c2 (own_c1 q1)))))), .second] [(.long (own_c5 (own_c4 (own_c3 (own_c2 (own_c1 q1)))))), (.long (own_c5 (own_c4 (own_c3 (own_c2 (own_c1 q1))))))])) _
    refine XS.bipush X0.here hx rfl (hb hby d14_50) ?_
    show Steps p.tables e below (s₁.setTop (mkF m 52 #[.val (.long (own_c5 (own_c4 (own_c3 (own_c2 (own_c1 q1)))))), .second] [(.int (32 : Int32)), (.long (own_c5 (own_c4 (own_c3 (own_c2 (own_c1 q1)))))), (.long (own_c5 (own_c4 (own_c3 (own_c2 (own_c1 q1))))))])) _
    refine XS.lushr X0.here hx rfl (hb hby d14_52) rfl ?_
    show Steps p.tables e below (s₁.setTop (mkF m 53 #[.val (.long (own_c5 (own_c4 (own_c3 (own_c2 (own_c1 q1)))))), .second] [(.long (((own_c5 (own_c4 (own_c3 (own_c2 (own_c1 q1))))).toUInt64 >>> ((32 : Int32) &&& 0x3f).toInt64.toUInt64).toInt64)), (.long (own_c5 (own_c4 (own_c3 (own_c2 (own_c1 q1))))))])) _
    refine XS.ladd X0.here hx rfl (hb hby d14_53) rfl ?_
    show Steps p.tables e below (s₁.setTop (mkF m 54 #[.val (.long (own_c5 (own_c4 (own_c3 (own_c2 (own_c1 q1)))))), .second] [(.long ((own_c5 (own_c4 (own_c3 (own_c2 (own_c1 q1))))) + (((own_c5 (own_c4 (own_c3 (own_c2 (own_c1 q1))))).toUInt64 >>> ((32 : Int32) &&& 0x3f).toInt64.toUInt64).toInt64)))])) _
    refine XS.lstoreN X0.here hx rfl (hb hby d14_54) rfl (l' := #[.val (.long ((own_c5 (own_c4 (own_c3 (own_c2 (own_c1 q1))))) + (((own_c5 (own_c4 (own_c3 (own_c2 (own_c1 q1))))).toUInt64 >>> ((32 : Int32) &&& 0x3f).toInt64.toUInt64).toInt64))), .second]) rfl ?_
    exact kz
  refine own_go (A := s₁.setTop (mkF m 55 #[.val (.long (own_c6 (own_c5 (own_c4 (own_c3 (own_c2 (own_c1 q1))))))), .second] [])) (fun _ kz => kz) ?_
  refine own_go (A := s₁.setTop (mkF m 60 #[.val (.long (own_c6 (own_c5 (own_c4 (own_c3 (own_c2 (own_c1 q1))))))), .second] [(.int (((own_c6 (own_c5 (own_c4 (own_c3 (own_c2 (own_c1 q1)))))).toInt32) &&& (127 : Int32)))])) (fun _ kz => ?_) ?_
  · show Steps p.tables e below (s₁.setTop (mkF m 55 #[.val (.long (own_c6 (own_c5 (own_c4 (own_c3 (own_c2 (own_c1 q1))))))), .second] [])) _
    refine XS.lloadN X0.here hx rfl (hb hby d14_55) rfl ?_
    show Steps p.tables e below (s₁.setTop (mkF m 56 #[.val (.long (own_c6 (own_c5 (own_c4 (own_c3 (own_c2 (own_c1 q1))))))), .second] [(.long (own_c6 (own_c5 (own_c4 (own_c3 (own_c2 (own_c1 q1)))))))])) _
    refine XS.l2i X0.here hx rfl (hb hby d14_56) rfl ?_
    show Steps p.tables e below (s₁.setTop (mkF m 57 #[.val (.long (own_c6 (own_c5 (own_c4 (own_c3 (own_c2 (own_c1 q1))))))), .second] [(.int ((own_c6 (own_c5 (own_c4 (own_c3 (own_c2 (own_c1 q1)))))).toInt32))])) _
    refine XS.bipush X0.here hx rfl (hb hby d14_57) ?_
    show Steps p.tables e below (s₁.setTop (mkF m 59 #[.val (.long (own_c6 (own_c5 (own_c4 (own_c3 (own_c2 (own_c1 q1))))))), .second] [(.int (127 : Int32)), (.int ((own_c6 (own_c5 (own_c4 (own_c3 (own_c2 (own_c1 q1)))))).toInt32))])) _
    refine XS.iand X0.here hx rfl (hb hby d14_59) rfl ?_
    exact kz
  refine own_go (A := s₁.setTop (mkF m 60 #[.val (.long (own_c6 (own_c5 (own_c4 (own_c3 (own_c2 (own_c1 q1))))))), .second] [(.int (own_bc q1))])) (fun _ kz => kz) ?_
  obtain ⟨fs, hrr, hrun, hended, hW, hsame⟩ := X0.leave (v := some (.int (own_bc q1))) (fun h => by rw [Bd.returns] at h; cases h)
  refine ⟨_, _, ?_, hrun, hended, _, _, rfl, ?_, ⟨_, rfl⟩, hW, hsame.mono (by decide) (by decide)⟩
  · show Steps p.tables e below (s₁.setTop (mkF m 60 #[.val (.long (own_c6 (own_c5 (own_c4 (own_c3 (own_c2 (own_c1 q1))))))), .second] [(.int (own_bc q1))])) _
    exact retI X0 hx Bd.returns (hb hby d14_60) hrr
  · show QrmBC Z q1 h0 n0 _ s₁.heap _
    rw [e0]
    exact ⟨rfl, N0, rfl⟩
theorem d19_0 : decode jdk_65_method_124_code 0 = .ok (.iload_n 1, 1) := by decide +kernel
theorem d19_1 : decode jdk_65_method_124_code 1 = .ok (.aload_n 0, 1) := by decide +kernel
theorem d19_2 : decode jdk_65_method_124_code 2 = .ok (.arraylength, 1) := by decide +kernel
theorem d19_3 : decode jdk_65_method_124_code 3 = .ok (.if_icmp .ne 11, 3) := by decide +kernel
theorem d19_14 : decode jdk_65_method_124_code 14 = .ok (.iload_n 1, 1) := by decide +kernel
theorem d19_15 : decode jdk_65_method_124_code 15 = .ok (.newarray .long, 2) := by decide +kernel
theorem d19_17 : decode jdk_65_method_124_code 17 = .ok (.astore_n 2, 1) := by decide +kernel
theorem d19_18 : decode jdk_65_method_124_code 18 = .ok (.aload_n 0, 1) := by decide +kernel
theorem d19_19 : decode jdk_65_method_124_code 19 = .ok (.iconst 0, 1) := by decide +kernel
theorem d19_20 : decode jdk_65_method_124_code 20 = .ok (.aload_n 2, 1) := by decide +kernel
theorem d19_21 : decode jdk_65_method_124_code 21 = .ok (.iconst 0, 1) := by decide +kernel
theorem d19_22 : decode jdk_65_method_124_code 22 = .ok (.aload_n 0, 1) := by decide +kernel
theorem d19_23 : decode jdk_65_method_124_code 23 = .ok (.arraylength, 1) := by decide +kernel
theorem d19_24 : decode jdk_65_method_124_code 24 = .ok (.iload_n 1, 1) := by decide +kernel
theorem d19_25 : decode jdk_65_method_124_code 25 = .ok (.invokestatic 304, 3) := by decide +kernel
theorem d19_28 : decode jdk_65_method_124_code 28 = .ok (.invokestatic 150, 3) := by decide +kernel
theorem d19_31 : decode jdk_65_method_124_code 31 = .ok (.aload_n 2, 1) := by decide +kernel
theorem d19_32 : decode jdk_65_method_124_code 32 = .ok (.areturn, 1) := by decide +kernel
theorem own_pn19 : plainName "java/util/Arrays" = true := by first | (simp [plainName, overriddenIn]; done) | decide +kernel
theorem own_ef19 (m : MethodId) (x0 : Addr) (x1 : Int32) : entryFrame m #[(.ref x0), (.int x1)] 3 = mkF m 0 #[.val (.ref x0), .val (.int x1), .unset] [] := by first | (simp [entryFrame, mkF, argsToLocals, Value.category]; done) | rfl
def QrmCopy (Z : State) (nl : Int32) (f : Nat → Int64) (h0 : Heap) (n0 : Nat) (v : Option Value) (h : Heap) (L : List Loc) : Prop := ∃ (b : Addr) (kd : ClassId), v = some (.ref b) ∧ Fr n0 L ∧ h0.size ≤ b ∧ Keep h0 h [] ∧ Arv Z h b kd .long nl (own_vals nl f) (.long (0 : Int64))
set_option maxRecDepth 65536 in
set_option maxHeartbeats 40000000 in
theorem rmCopy (l : Launch) (Z : State) (a0 : Array Value) (hw : ∀ d ∈ tables_1, d.before a0 Z = true) (ws : List Jvm.Cond) (a : Addr) (nl : Int32) (kc : ClassId) (len : Int32) (f : Nat → Int64) (h0 : Heap) (n0 : Nat) (Z0 : n0 ≤ h0.size) (hcp : (len = (1 : Int32) ∧ nl = (2 : Int32)) ∨ (len = (1 : Int32) ∧ nl = (3 : Int32)) ∨ (len = (1 : Int32) ∧ nl = (4 : Int32)) ∨ (len = (2 : Int32) ∧ nl = (4 : Int32)) ∨ (len = (3 : Int32) ∧ nl = (6 : Int32))) (hz : ∀ k : Nat, (len).toNatClampNeg ≤ k → f k = (0 : Int64)) (Av : Arv Z h0 a kc .long len (own_vals len f) (.long (0 : Int64))) :
    MetFree l (⟨"java/util/Arrays", "copyOf", "([JI)[J"⟩ : MethodName) (head1 (Jvm.Cond.code (⟨"java/util/Arrays", "copyOf", "([JI)[J"⟩ : MethodName) jdk_65_method_124_code 3 (some (.array .long)) :: ws) ({ frames := 1, cells := 1, slots := 6, locals := 40 } : Room)) (fun ar_ U_ => ar_ = #[(.ref a), (.int nl)] ∧ Z.Warmed39 U_.vm ∧ U_.heap = h0) (fun _ _ _ _ _ => True) (fun _ U_ ou_ V_ => ∃ v_ L_, ou_ = .returned v_ ∧ QrmCopy Z nl f h0 n0 v_ V_.heap L_ ∧ FrameEnd U_ ou_ V_ L_ ({ frames := 1, cells := 1, slots := 6, locals := 40 } : Room).cells ({ frames := 1, cells := 1, slots := 6, locals := 40 } : Room).slots) := by
  refine MetFree.of_bodySF (plainFor_of_name own_pn19) hisR ?_
  intro p e s m args below meth c s₁ Bd hml0 hP hK
  obtain ⟨rfl, hZ, hh⟩ := hP
  have hx := Bd.exec
  have hby := Bd.bytes
  have hml : c.maxLocals = 3 := hml0
  have hown : s.vm.findClass "java/util/Arrays" = some m.cls := findClass_of_methodNamed Bd.named
  have hnm := (name_of_methodNamed Bd.named Bd.method).1
  have X0 : Stand p l e ({ frames := 1, cells := 1, slots := 6, locals := 40 } : Room) s m #[(.ref a), (.int nl)] below meth c s₁ [] 0 0 := Stand.of_body Bd
  have e0 : s₁.heap = h0 := by rw [← hh, Bd.state]; rfl
  have N0 := Fr.nil n0
  have Kp0 : Keep h0 h0 [] := Keep.refl h0 _
  refine own_go (A := s₁.setTop (mkF m 0 #[.val (.ref a), .val (.int nl), .unset] [])) (fun t kz => castTop (own_ef19 m a nl) kz) ?_
  rcases hcp with ⟨rfl, rfl⟩ | ⟨rfl, rfl⟩ | ⟨rfl, rfl⟩ | ⟨rfl, rfl⟩ | ⟨rfl, rfl⟩
  · skip
    replace Av : Arv Z h0 a kc .long (1 : Int32) [(.long (f 0))] (.long (0 : Int64)) := Av
    refine own_go (A := s₁.setTop (mkF m 2 #[.val (.ref a), .val (.int (2 : Int32)), .unset] [(.ref a), (.int (2 : Int32))])) (fun _ kz => ?_) ?_
    · show Steps p.tables e below (s₁.setTop (mkF m 0 #[.val (.ref a), .val (.int (2 : Int32)), .unset] [])) _
      refine XS.iloadN X0.here hx rfl (hb hby d19_0) rfl ?_
      show Steps p.tables e below (s₁.setTop (mkF m 1 #[.val (.ref a), .val (.int (2 : Int32)), .unset] [(.int (2 : Int32))])) _
      refine XS.aloadN X0.here hx rfl (hb hby d19_1) rfl rfl ?_
      exact kz
    obtain ⟨cl1, Ar1, -, S1, M1, -, -⟩ := id Av
    refine own_go (A := s₁.setTop (mkF m 3 #[.val (.ref a), .val (.int (2 : Int32)), .unset] [(.int (1 : Int32)), (.int (2 : Int32))])) (fun _ kz => ?_) ?_
    · refine X0.arraylength hx (by rw [e0]; exact Ar1.1) (State.isArrayOf_alike hZ.alike Ar1.2.1) (g := (mkF m 2 #[.val (.ref a), .val (.int (2 : Int32)), .unset] [(.ref a), (.int (2 : Int32))])) rfl rfl (hb hby d19_2) _ ?_
      rw [len_of S1 M1]
      exact kz
    refine own_go (A := s₁.setTop (mkF m 15 #[.val (.ref a), .val (.int (2 : Int32)), .unset] [(.int (2 : Int32))])) (fun _ kz => ?_) ?_
    · show Steps p.tables e below (s₁.setTop (mkF m 3 #[.val (.ref a), .val (.int (2 : Int32)), .unset] [(.int (1 : Int32)), (.int (2 : Int32))])) _
      refine XS.icmpYes X0.here hx rfl (pc0 := 3) (pc' := 14) rfl (hb hby d19_3) rfl (feq (by decide : ¬ ((2 : Int32) = (1 : Int32)))).2 (by decide) (by decide) ?_
      show Steps p.tables e below (s₁.setTop (mkF m 14 #[.val (.ref a), .val (.int (2 : Int32)), .unset] [])) _
      refine XS.iloadN X0.here hx rfl (hb hby d19_14) rfl ?_
      exact kz
    obtain ⟨T2, h2, k2, X2, e2, E2, A2, st2⟩ := newP X0 hx hZ (hw _ (List.mem_of_getElem? (i := 28) rfl)) e0 (g := (mkF m 15 #[.val (.ref a), .val (.int (2 : Int32)), .unset] [(.int (2 : Int32))])) rfl (hb hby d19_15) rfl (by decide) (cap := 2) (by decide) (by decide) (by decide) (by decide)
    obtain ⟨b2, gq2⟩ : ∃ z, z = h0.size := ⟨_, rfl⟩
    rw [← gq2] at A2 st2
    have g_b2 : n0 ≤ b2 := Nat.le_trans Z0 (Nat.le_of_eq gq2.symm)
    have ne_a_b2 : a ≠ b2 := Nat.ne_of_lt (Nat.lt_of_lt_of_le Av.lt (Nat.le_of_eq gq2.symm))
    have szk_b2 : h0.size ≤ b2 := Nat.le_trans Kp0.1 (Nat.le_of_eq gq2.symm)
    replace Av := Av.ext E2
    have Z2 : n0 ≤ h2.size := Nat.le_trans Z0 E2.1
    have Kp2 : Keep h0 h2 [] := Kp0.ext E2
    have Av_b2 : Arv Z h2 b2 k2 .long (2 : Int32) [(.long (0 : Int64)), (.long (0 : Int64))] (.long (0 : Int64)) := (Arv.new A2 (by decide)).pad (pad_rep [] (.long (0 : Int64)) 2)
    refine own_go (A := T2.setTop (mkF m 17 #[.val (.ref a), .val (.int (2 : Int32)), .unset] [(.ref b2)])) (fun _ kz => st2 _ kz) ?_
    refine own_go (A := T2.setTop (mkF m 23 #[.val (.ref a), .val (.int (2 : Int32)), .val (.ref b2)] [(.ref a), (.int (0 : Int32)), (.ref b2), (.int (0 : Int32)), (.ref a)])) (fun _ kz => ?_) ?_
    · show Steps p.tables e below (T2.setTop (mkF m 17 #[.val (.ref a), .val (.int (2 : Int32)), .unset] [(.ref b2)])) _
      refine XS.astoreN X2.here hx rfl (hb hby d19_17) rfl rfl (l' := #[.val (.ref a), .val (.int (2 : Int32)), .val (.ref b2)]) rfl ?_
      show Steps p.tables e below (T2.setTop (mkF m 18 #[.val (.ref a), .val (.int (2 : Int32)), .val (.ref b2)] [])) _
      refine XS.aloadN X2.here hx rfl (hb hby d19_18) rfl rfl ?_
      show Steps p.tables e below (T2.setTop (mkF m 19 #[.val (.ref a), .val (.int (2 : Int32)), .val (.ref b2)] [(.ref a)])) _
      refine XS.iconst X2.here hx rfl (hb hby d19_19) ?_
      show Steps p.tables e below (T2.setTop (mkF m 20 #[.val (.ref a), .val (.int (2 : Int32)), .val (.ref b2)] [(.int (0 : Int32)), (.ref a)])) _
      refine XS.aloadN X2.here hx rfl (hb hby d19_20) rfl rfl ?_
      show Steps p.tables e below (T2.setTop (mkF m 21 #[.val (.ref a), .val (.int (2 : Int32)), .val (.ref b2)] [(.ref b2), (.int (0 : Int32)), (.ref a)])) _
      refine XS.iconst X2.here hx rfl (hb hby d19_21) ?_
      show Steps p.tables e below (T2.setTop (mkF m 22 #[.val (.ref a), .val (.int (2 : Int32)), .val (.ref b2)] [(.int (0 : Int32)), (.ref b2), (.int (0 : Int32)), (.ref a)])) _
      refine XS.aloadN X2.here hx rfl (hb hby d19_22) rfl rfl ?_
      exact kz
    obtain ⟨cl3, Ar3, -, S3, M3, -, -⟩ := id Av
    refine own_go (A := T2.setTop (mkF m 24 #[.val (.ref a), .val (.int (2 : Int32)), .val (.ref b2)] [(.int (1 : Int32)), (.int (0 : Int32)), (.ref b2), (.int (0 : Int32)), (.ref a)])) (fun _ kz => ?_) ?_
    · refine X2.arraylength hx (by rw [e2]; exact Ar3.1) (State.isArrayOf_alike hZ.alike Ar3.2.1) (g := (mkF m 23 #[.val (.ref a), .val (.int (2 : Int32)), .val (.ref b2)] [(.ref a), (.int (0 : Int32)), (.ref b2), (.int (0 : Int32)), (.ref a)])) rfl rfl (hb hby d19_23) _ ?_
      rw [len_of S3 M3]
      exact kz
    refine own_go (A := T2.setTop (mkF m 25 #[.val (.ref a), .val (.int (2 : Int32)), .val (.ref b2)] [(.int (2 : Int32)), (.int (1 : Int32)), (.int (0 : Int32)), (.ref b2), (.int (0 : Int32)), (.ref a)])) (fun _ kz => ?_) ?_
    · show Steps p.tables e below (T2.setTop (mkF m 24 #[.val (.ref a), .val (.int (2 : Int32)), .val (.ref b2)] [(.int (1 : Int32)), (.int (0 : Int32)), (.ref b2), (.int (0 : Int32)), (.ref a)])) _
      refine XS.iloadN X2.here hx rfl (hb hby d19_24) rfl ?_
      exact kz
    obtain ⟨_, _, ⟨T4, L4, k4, n4⟩, -, X4, ⟨Lc4, hQ4, l4, y4, z4⟩, st4⟩ := Jvm.LawKit.callS X2 hx (y := (⟨"java/lang/Math", "min", "(II)I"⟩ : MethodName)) hown (mvT hZ (hw _ (List.mem_of_getElem? (i := 110) rfl))) (mvT hZ (hw _ (List.mem_of_getElem? (i := 111) rfl))) (mvT hZ (hw _ (List.mem_of_getElem? (i := 104) rfl))) (mvT hZ (hw _ (List.mem_of_getElem? (i := 112) rfl))) (by decide) (backOf (W := 4) (rmmin l Z a0 hw [] (1 : Int32) (2 : Int32) (1 : Int32) h2 n0 Z2 (by decide)) hZ (hw _ (List.mem_of_getElem? (i := 112) rfl)) (hw _ (List.mem_of_getElem? (i := 104) rfl)) (by decide) (by decide)) (g := (mkF m 25 #[.val (.ref a), .val (.int (2 : Int32)), .val (.ref b2)] [(.int (2 : Int32)), (.int (1 : Int32)), (.int (0 : Int32)), (.ref b2), (.int (0 : Int32)), (.ref a)])) rfl (by rw [hml]; rfl) (argsL := [(.int (1 : Int32)), (.int (2 : Int32))]) (rest := [(.int (0 : Int32)), (.ref b2), (.int (0 : Int32)), (.ref a)]) (lenOf own_pd0 rfl) rfl (by show 2 * 0 + _ ≤ _; exact Nat.le_of_eq rfl) (hb hby d19_25) (fun _ _ => ⟨rfl, e2, (by decide : 1 + 0 ≤ _), (by decide : 2 + 0 ≤ _)⟩)
    dsimp only [Pt.U, Pt.locs, Pt.cells, Pt.slots] at X4 l4 y4 z4 st4 hQ4
    subst l4 y4 z4
    obtain ⟨rfl, N4q, e4⟩ := hQ4
    have N4 := Fr.app N0 N4q
    refine own_go (A := T4.setTop (mkF m 28 #[.val (.ref a), .val (.int (2 : Int32)), .val (.ref b2)] [(.int (1 : Int32)), (.int (0 : Int32)), (.ref b2), (.int (0 : Int32)), (.ref a)])) (fun _ kz => st4 _ kz) ?_
    obtain ⟨T5, h5, L5, X5, e5, N5, K5, Aw5, st5⟩ := cpA X4 hx hZ hown (hw _ (List.mem_of_getElem? (i := 113) rfl)) (hw _ (List.mem_of_getElem? (i := 116) rfl)) (hw _ (List.mem_of_getElem? (i := 114) rfl)) (hw _ (List.mem_of_getElem? (i := 115) rfl)) e4 Av Av_b2 (Or.inl ⟨rfl, rfl⟩) (sp := (0 : Int32)) (dp := (0 : Int32)) (nn := (1 : Int32)) (by decide) (by decide) (by decide) (by decide) (by decide) (us := [(.long (f 0))]) rfl (Nat.le_of_ble_eq_true rfl) N4 g_b2 (g := (mkF m 28 #[.val (.ref a), .val (.int (2 : Int32)), .val (.ref b2)] [(.int (1 : Int32)), (.int (0 : Int32)), (.ref b2), (.int (0 : Int32)), (.ref a)])) rfl (by rw [hml]; rfl) rfl (hb hby d19_28) (by decide) (W := 0) (by show 2 * 0 + _ ≤ _; exact Nat.le_of_eq rfl) (by decide)
    have Ax5 : Arv Z h5 b2 k2 .long (2 : Int32) [(.long (f 0)), (.long (0 : Int64))] (.long (0 : Int64)) := Aw5
    subst e5
    replace Av := Av.keep K5 (ninS ne_a_b2 nin0)
    have Z5 : n0 ≤ T5.heap.size := Nat.le_trans Z2 K5.1
    have Kp5 : Keep h0 T5.heap [] := Kp2.trans K5 (allS (Or.inr szk_b2) (all0))
    refine own_go (A := T5.setTop (mkF m 31 #[.val (.ref a), .val (.int (2 : Int32)), .val (.ref b2)] [])) (fun _ kz => st5 _ kz) ?_
    refine own_go (A := T5.setTop (mkF m 32 #[.val (.ref a), .val (.int (2 : Int32)), .val (.ref b2)] [(.ref b2)])) (fun _ kz => ?_) ?_
    · show Steps p.tables e below (T5.setTop (mkF m 31 #[.val (.ref a), .val (.int (2 : Int32)), .val (.ref b2)] [])) _
      refine XS.aloadN X5.here hx rfl (hb hby d19_31) rfl rfl ?_
      exact kz
    obtain ⟨fs, hrr, hrun, hended, hW, hsame⟩ := X5.leave (v := some (.ref b2)) (fun h => by rw [Bd.returns] at h; cases h)
    refine ⟨_, _, ?_, hrun, hended, _, _, rfl, ?_, ⟨_, rfl⟩, hW, hsame.mono (by decide) (by decide)⟩
    · show Steps p.tables e below (T5.setTop (mkF m 32 #[.val (.ref a), .val (.int (2 : Int32)), .val (.ref b2)] [(.ref b2)])) _
      exact retOut X5 hx (t := (.array .long)) Bd.returns rfl (Or.inr (Or.inr (Or.inr (Or.inr ⟨rfl, rfl, rfl⟩)))) (hb hby d19_32) hrr
    · show QrmCopy Z (2 : Int32) f h0 n0 _ T5.heap _
      refine ⟨b2, k2, rfl, N5, szk_b2, Kp5, ?_⟩
      show Arv Z T5.heap b2 k2 .long (2 : Int32) [(.long (f 0)), (.long (f 1))] (.long (0 : Int64))
      rw [hz 1 (by decide)]
      exact Ax5
  · skip
    replace Av : Arv Z h0 a kc .long (1 : Int32) [(.long (f 0))] (.long (0 : Int64)) := Av
    refine own_go (A := s₁.setTop (mkF m 2 #[.val (.ref a), .val (.int (3 : Int32)), .unset] [(.ref a), (.int (3 : Int32))])) (fun _ kz => ?_) ?_
    · show Steps p.tables e below (s₁.setTop (mkF m 0 #[.val (.ref a), .val (.int (3 : Int32)), .unset] [])) _
      refine XS.iloadN X0.here hx rfl (hb hby d19_0) rfl ?_
      show Steps p.tables e below (s₁.setTop (mkF m 1 #[.val (.ref a), .val (.int (3 : Int32)), .unset] [(.int (3 : Int32))])) _
      refine XS.aloadN X0.here hx rfl (hb hby d19_1) rfl rfl ?_
      exact kz
    obtain ⟨cl6, Ar6, -, S6, M6, -, -⟩ := id Av
    refine own_go (A := s₁.setTop (mkF m 3 #[.val (.ref a), .val (.int (3 : Int32)), .unset] [(.int (1 : Int32)), (.int (3 : Int32))])) (fun _ kz => ?_) ?_
    · refine X0.arraylength hx (by rw [e0]; exact Ar6.1) (State.isArrayOf_alike hZ.alike Ar6.2.1) (g := (mkF m 2 #[.val (.ref a), .val (.int (3 : Int32)), .unset] [(.ref a), (.int (3 : Int32))])) rfl rfl (hb hby d19_2) _ ?_
      rw [len_of S6 M6]
      exact kz
    refine own_go (A := s₁.setTop (mkF m 15 #[.val (.ref a), .val (.int (3 : Int32)), .unset] [(.int (3 : Int32))])) (fun _ kz => ?_) ?_
    · show Steps p.tables e below (s₁.setTop (mkF m 3 #[.val (.ref a), .val (.int (3 : Int32)), .unset] [(.int (1 : Int32)), (.int (3 : Int32))])) _
      refine XS.icmpYes X0.here hx rfl (pc0 := 3) (pc' := 14) rfl (hb hby d19_3) rfl (feq (by decide : ¬ ((3 : Int32) = (1 : Int32)))).2 (by decide) (by decide) ?_
      show Steps p.tables e below (s₁.setTop (mkF m 14 #[.val (.ref a), .val (.int (3 : Int32)), .unset] [])) _
      refine XS.iloadN X0.here hx rfl (hb hby d19_14) rfl ?_
      exact kz
    obtain ⟨T7, h7, k7, X7, e7, E7, A7, st7⟩ := newP X0 hx hZ (hw _ (List.mem_of_getElem? (i := 28) rfl)) e0 (g := (mkF m 15 #[.val (.ref a), .val (.int (3 : Int32)), .unset] [(.int (3 : Int32))])) rfl (hb hby d19_15) rfl (by decide) (cap := 3) (by decide) (by decide) (by decide) (by decide)
    obtain ⟨b7, gq7⟩ : ∃ z, z = h0.size := ⟨_, rfl⟩
    rw [← gq7] at A7 st7
    have g_b7 : n0 ≤ b7 := Nat.le_trans Z0 (Nat.le_of_eq gq7.symm)
    have ne_a_b7 : a ≠ b7 := Nat.ne_of_lt (Nat.lt_of_lt_of_le Av.lt (Nat.le_of_eq gq7.symm))
    have szk_b7 : h0.size ≤ b7 := Nat.le_trans Kp0.1 (Nat.le_of_eq gq7.symm)
    replace Av := Av.ext E7
    have Z7 : n0 ≤ h7.size := Nat.le_trans Z0 E7.1
    have Kp7 : Keep h0 h7 [] := Kp0.ext E7
    have Av_b7 : Arv Z h7 b7 k7 .long (3 : Int32) [(.long (0 : Int64)), (.long (0 : Int64)), (.long (0 : Int64))] (.long (0 : Int64)) := (Arv.new A7 (by decide)).pad (pad_rep [] (.long (0 : Int64)) 3)
    refine own_go (A := T7.setTop (mkF m 17 #[.val (.ref a), .val (.int (3 : Int32)), .unset] [(.ref b7)])) (fun _ kz => st7 _ kz) ?_
    refine own_go (A := T7.setTop (mkF m 23 #[.val (.ref a), .val (.int (3 : Int32)), .val (.ref b7)] [(.ref a), (.int (0 : Int32)), (.ref b7), (.int (0 : Int32)), (.ref a)])) (fun _ kz => ?_) ?_
    · show Steps p.tables e below (T7.setTop (mkF m 17 #[.val (.ref a), .val (.int (3 : Int32)), .unset] [(.ref b7)])) _
      refine XS.astoreN X7.here hx rfl (hb hby d19_17) rfl rfl (l' := #[.val (.ref a), .val (.int (3 : Int32)), .val (.ref b7)]) rfl ?_
      show Steps p.tables e below (T7.setTop (mkF m 18 #[.val (.ref a), .val (.int (3 : Int32)), .val (.ref b7)] [])) _
      refine XS.aloadN X7.here hx rfl (hb hby d19_18) rfl rfl ?_
      show Steps p.tables e below (T7.setTop (mkF m 19 #[.val (.ref a), .val (.int (3 : Int32)), .val (.ref b7)] [(.ref a)])) _
      refine XS.iconst X7.here hx rfl (hb hby d19_19) ?_
      show Steps p.tables e below (T7.setTop (mkF m 20 #[.val (.ref a), .val (.int (3 : Int32)), .val (.ref b7)] [(.int (0 : Int32)), (.ref a)])) _
      refine XS.aloadN X7.here hx rfl (hb hby d19_20) rfl rfl ?_
      show Steps p.tables e below (T7.setTop (mkF m 21 #[.val (.ref a), .val (.int (3 : Int32)), .val (.ref b7)] [(.ref b7), (.int (0 : Int32)), (.ref a)])) _
      refine XS.iconst X7.here hx rfl (hb hby d19_21) ?_
      show Steps p.tables e below (T7.setTop (mkF m 22 #[.val (.ref a), .val (.int (3 : Int32)), .val (.ref b7)] [(.int (0 : Int32)), (.ref b7), (.int (0 : Int32)), (.ref a)])) _
      refine XS.aloadN X7.here hx rfl (hb hby d19_22) rfl rfl ?_
      exact kz
    obtain ⟨cl8, Ar8, -, S8, M8, -, -⟩ := id Av
    refine own_go (A := T7.setTop (mkF m 24 #[.val (.ref a), .val (.int (3 : Int32)), .val (.ref b7)] [(.int (1 : Int32)), (.int (0 : Int32)), (.ref b7), (.int (0 : Int32)), (.ref a)])) (fun _ kz => ?_) ?_
    · refine X7.arraylength hx (by rw [e7]; exact Ar8.1) (State.isArrayOf_alike hZ.alike Ar8.2.1) (g := (mkF m 23 #[.val (.ref a), .val (.int (3 : Int32)), .val (.ref b7)] [(.ref a), (.int (0 : Int32)), (.ref b7), (.int (0 : Int32)), (.ref a)])) rfl rfl (hb hby d19_23) _ ?_
      rw [len_of S8 M8]
      exact kz
    refine own_go (A := T7.setTop (mkF m 25 #[.val (.ref a), .val (.int (3 : Int32)), .val (.ref b7)] [(.int (3 : Int32)), (.int (1 : Int32)), (.int (0 : Int32)), (.ref b7), (.int (0 : Int32)), (.ref a)])) (fun _ kz => ?_) ?_
    · show Steps p.tables e below (T7.setTop (mkF m 24 #[.val (.ref a), .val (.int (3 : Int32)), .val (.ref b7)] [(.int (1 : Int32)), (.int (0 : Int32)), (.ref b7), (.int (0 : Int32)), (.ref a)])) _
      refine XS.iloadN X7.here hx rfl (hb hby d19_24) rfl ?_
      exact kz
    obtain ⟨_, _, ⟨T9, L9, k9, n9⟩, -, X9, ⟨Lc9, hQ9, l9, y9, z9⟩, st9⟩ := Jvm.LawKit.callS X7 hx (y := (⟨"java/lang/Math", "min", "(II)I"⟩ : MethodName)) hown (mvT hZ (hw _ (List.mem_of_getElem? (i := 110) rfl))) (mvT hZ (hw _ (List.mem_of_getElem? (i := 111) rfl))) (mvT hZ (hw _ (List.mem_of_getElem? (i := 104) rfl))) (mvT hZ (hw _ (List.mem_of_getElem? (i := 112) rfl))) (by decide) (backOf (W := 4) (rmmin l Z a0 hw [] (1 : Int32) (3 : Int32) (1 : Int32) h7 n0 Z7 (by decide)) hZ (hw _ (List.mem_of_getElem? (i := 112) rfl)) (hw _ (List.mem_of_getElem? (i := 104) rfl)) (by decide) (by decide)) (g := (mkF m 25 #[.val (.ref a), .val (.int (3 : Int32)), .val (.ref b7)] [(.int (3 : Int32)), (.int (1 : Int32)), (.int (0 : Int32)), (.ref b7), (.int (0 : Int32)), (.ref a)])) rfl (by rw [hml]; rfl) (argsL := [(.int (1 : Int32)), (.int (3 : Int32))]) (rest := [(.int (0 : Int32)), (.ref b7), (.int (0 : Int32)), (.ref a)]) (lenOf own_pd0 rfl) rfl (by show 2 * 0 + _ ≤ _; exact Nat.le_of_eq rfl) (hb hby d19_25) (fun _ _ => ⟨rfl, e7, (by decide : 1 + 0 ≤ _), (by decide : 3 + 0 ≤ _)⟩)
    dsimp only [Pt.U, Pt.locs, Pt.cells, Pt.slots] at X9 l9 y9 z9 st9 hQ9
    subst l9 y9 z9
    obtain ⟨rfl, N9q, e9⟩ := hQ9
    have N9 := Fr.app N0 N9q
    refine own_go (A := T9.setTop (mkF m 28 #[.val (.ref a), .val (.int (3 : Int32)), .val (.ref b7)] [(.int (1 : Int32)), (.int (0 : Int32)), (.ref b7), (.int (0 : Int32)), (.ref a)])) (fun _ kz => st9 _ kz) ?_
    obtain ⟨T10, h10, L10, X10, e10, N10, K10, Aw10, st10⟩ := cpA X9 hx hZ hown (hw _ (List.mem_of_getElem? (i := 113) rfl)) (hw _ (List.mem_of_getElem? (i := 116) rfl)) (hw _ (List.mem_of_getElem? (i := 114) rfl)) (hw _ (List.mem_of_getElem? (i := 115) rfl)) e9 Av Av_b7 (Or.inl ⟨rfl, rfl⟩) (sp := (0 : Int32)) (dp := (0 : Int32)) (nn := (1 : Int32)) (by decide) (by decide) (by decide) (by decide) (by decide) (us := [(.long (f 0))]) rfl (Nat.le_of_ble_eq_true rfl) N9 g_b7 (g := (mkF m 28 #[.val (.ref a), .val (.int (3 : Int32)), .val (.ref b7)] [(.int (1 : Int32)), (.int (0 : Int32)), (.ref b7), (.int (0 : Int32)), (.ref a)])) rfl (by rw [hml]; rfl) rfl (hb hby d19_28) (by decide) (W := 0) (by show 2 * 0 + _ ≤ _; exact Nat.le_of_eq rfl) (by decide)
    have Ax10 : Arv Z h10 b7 k7 .long (3 : Int32) [(.long (f 0)), (.long (0 : Int64)), (.long (0 : Int64))] (.long (0 : Int64)) := Aw10
    subst e10
    replace Av := Av.keep K10 (ninS ne_a_b7 nin0)
    have Z10 : n0 ≤ T10.heap.size := Nat.le_trans Z7 K10.1
    have Kp10 : Keep h0 T10.heap [] := Kp7.trans K10 (allS (Or.inr szk_b7) (all0))
    refine own_go (A := T10.setTop (mkF m 31 #[.val (.ref a), .val (.int (3 : Int32)), .val (.ref b7)] [])) (fun _ kz => st10 _ kz) ?_
    refine own_go (A := T10.setTop (mkF m 32 #[.val (.ref a), .val (.int (3 : Int32)), .val (.ref b7)] [(.ref b7)])) (fun _ kz => ?_) ?_
    · show Steps p.tables e below (T10.setTop (mkF m 31 #[.val (.ref a), .val (.int (3 : Int32)), .val (.ref b7)] [])) _
      refine XS.aloadN X10.here hx rfl (hb hby d19_31) rfl rfl ?_
      exact kz
    obtain ⟨fs, hrr, hrun, hended, hW, hsame⟩ := X10.leave (v := some (.ref b7)) (fun h => by rw [Bd.returns] at h; cases h)
    refine ⟨_, _, ?_, hrun, hended, _, _, rfl, ?_, ⟨_, rfl⟩, hW, hsame.mono (by decide) (by decide)⟩
    · show Steps p.tables e below (T10.setTop (mkF m 32 #[.val (.ref a), .val (.int (3 : Int32)), .val (.ref b7)] [(.ref b7)])) _
      exact retOut X10 hx (t := (.array .long)) Bd.returns rfl (Or.inr (Or.inr (Or.inr (Or.inr ⟨rfl, rfl, rfl⟩)))) (hb hby d19_32) hrr
    · show QrmCopy Z (3 : Int32) f h0 n0 _ T10.heap _
      refine ⟨b7, k7, rfl, N10, szk_b7, Kp10, ?_⟩
      show Arv Z T10.heap b7 k7 .long (3 : Int32) [(.long (f 0)), (.long (f 1)), (.long (f 2))] (.long (0 : Int64))
      rw [hz 1 (by decide), hz 2 (by decide)]
      exact Ax10
  · skip
    replace Av : Arv Z h0 a kc .long (1 : Int32) [(.long (f 0))] (.long (0 : Int64)) := Av
    refine own_go (A := s₁.setTop (mkF m 2 #[.val (.ref a), .val (.int (4 : Int32)), .unset] [(.ref a), (.int (4 : Int32))])) (fun _ kz => ?_) ?_
    · show Steps p.tables e below (s₁.setTop (mkF m 0 #[.val (.ref a), .val (.int (4 : Int32)), .unset] [])) _
      refine XS.iloadN X0.here hx rfl (hb hby d19_0) rfl ?_
      show Steps p.tables e below (s₁.setTop (mkF m 1 #[.val (.ref a), .val (.int (4 : Int32)), .unset] [(.int (4 : Int32))])) _
      refine XS.aloadN X0.here hx rfl (hb hby d19_1) rfl rfl ?_
      exact kz
    obtain ⟨cl11, Ar11, -, S11, M11, -, -⟩ := id Av
    refine own_go (A := s₁.setTop (mkF m 3 #[.val (.ref a), .val (.int (4 : Int32)), .unset] [(.int (1 : Int32)), (.int (4 : Int32))])) (fun _ kz => ?_) ?_
    · refine X0.arraylength hx (by rw [e0]; exact Ar11.1) (State.isArrayOf_alike hZ.alike Ar11.2.1) (g := (mkF m 2 #[.val (.ref a), .val (.int (4 : Int32)), .unset] [(.ref a), (.int (4 : Int32))])) rfl rfl (hb hby d19_2) _ ?_
      rw [len_of S11 M11]
      exact kz
    refine own_go (A := s₁.setTop (mkF m 15 #[.val (.ref a), .val (.int (4 : Int32)), .unset] [(.int (4 : Int32))])) (fun _ kz => ?_) ?_
    · show Steps p.tables e below (s₁.setTop (mkF m 3 #[.val (.ref a), .val (.int (4 : Int32)), .unset] [(.int (1 : Int32)), (.int (4 : Int32))])) _
      refine XS.icmpYes X0.here hx rfl (pc0 := 3) (pc' := 14) rfl (hb hby d19_3) rfl (feq (by decide : ¬ ((4 : Int32) = (1 : Int32)))).2 (by decide) (by decide) ?_
      show Steps p.tables e below (s₁.setTop (mkF m 14 #[.val (.ref a), .val (.int (4 : Int32)), .unset] [])) _
      refine XS.iloadN X0.here hx rfl (hb hby d19_14) rfl ?_
      exact kz
    obtain ⟨T12, h12, k12, X12, e12, E12, A12, st12⟩ := newP X0 hx hZ (hw _ (List.mem_of_getElem? (i := 28) rfl)) e0 (g := (mkF m 15 #[.val (.ref a), .val (.int (4 : Int32)), .unset] [(.int (4 : Int32))])) rfl (hb hby d19_15) rfl (by decide) (cap := 4) (by decide) (by decide) (by decide) (by decide)
    obtain ⟨b12, gq12⟩ : ∃ z, z = h0.size := ⟨_, rfl⟩
    rw [← gq12] at A12 st12
    have g_b12 : n0 ≤ b12 := Nat.le_trans Z0 (Nat.le_of_eq gq12.symm)
    have ne_a_b12 : a ≠ b12 := Nat.ne_of_lt (Nat.lt_of_lt_of_le Av.lt (Nat.le_of_eq gq12.symm))
    have szk_b12 : h0.size ≤ b12 := Nat.le_trans Kp0.1 (Nat.le_of_eq gq12.symm)
    replace Av := Av.ext E12
    have Z12 : n0 ≤ h12.size := Nat.le_trans Z0 E12.1
    have Kp12 : Keep h0 h12 [] := Kp0.ext E12
    have Av_b12 : Arv Z h12 b12 k12 .long (4 : Int32) [(.long (0 : Int64)), (.long (0 : Int64)), (.long (0 : Int64)), (.long (0 : Int64))] (.long (0 : Int64)) := (Arv.new A12 (by decide)).pad (pad_rep [] (.long (0 : Int64)) 4)
    refine own_go (A := T12.setTop (mkF m 17 #[.val (.ref a), .val (.int (4 : Int32)), .unset] [(.ref b12)])) (fun _ kz => st12 _ kz) ?_
    refine own_go (A := T12.setTop (mkF m 23 #[.val (.ref a), .val (.int (4 : Int32)), .val (.ref b12)] [(.ref a), (.int (0 : Int32)), (.ref b12), (.int (0 : Int32)), (.ref a)])) (fun _ kz => ?_) ?_
    · show Steps p.tables e below (T12.setTop (mkF m 17 #[.val (.ref a), .val (.int (4 : Int32)), .unset] [(.ref b12)])) _
      refine XS.astoreN X12.here hx rfl (hb hby d19_17) rfl rfl (l' := #[.val (.ref a), .val (.int (4 : Int32)), .val (.ref b12)]) rfl ?_
      show Steps p.tables e below (T12.setTop (mkF m 18 #[.val (.ref a), .val (.int (4 : Int32)), .val (.ref b12)] [])) _
      refine XS.aloadN X12.here hx rfl (hb hby d19_18) rfl rfl ?_
      show Steps p.tables e below (T12.setTop (mkF m 19 #[.val (.ref a), .val (.int (4 : Int32)), .val (.ref b12)] [(.ref a)])) _
      refine XS.iconst X12.here hx rfl (hb hby d19_19) ?_
      show Steps p.tables e below (T12.setTop (mkF m 20 #[.val (.ref a), .val (.int (4 : Int32)), .val (.ref b12)] [(.int (0 : Int32)), (.ref a)])) _
      refine XS.aloadN X12.here hx rfl (hb hby d19_20) rfl rfl ?_
      show Steps p.tables e below (T12.setTop (mkF m 21 #[.val (.ref a), .val (.int (4 : Int32)), .val (.ref b12)] [(.ref b12), (.int (0 : Int32)), (.ref a)])) _
      refine XS.iconst X12.here hx rfl (hb hby d19_21) ?_
      show Steps p.tables e below (T12.setTop (mkF m 22 #[.val (.ref a), .val (.int (4 : Int32)), .val (.ref b12)] [(.int (0 : Int32)), (.ref b12), (.int (0 : Int32)), (.ref a)])) _
      refine XS.aloadN X12.here hx rfl (hb hby d19_22) rfl rfl ?_
      exact kz
    obtain ⟨cl13, Ar13, -, S13, M13, -, -⟩ := id Av
    refine own_go (A := T12.setTop (mkF m 24 #[.val (.ref a), .val (.int (4 : Int32)), .val (.ref b12)] [(.int (1 : Int32)), (.int (0 : Int32)), (.ref b12), (.int (0 : Int32)), (.ref a)])) (fun _ kz => ?_) ?_
    · refine X12.arraylength hx (by rw [e12]; exact Ar13.1) (State.isArrayOf_alike hZ.alike Ar13.2.1) (g := (mkF m 23 #[.val (.ref a), .val (.int (4 : Int32)), .val (.ref b12)] [(.ref a), (.int (0 : Int32)), (.ref b12), (.int (0 : Int32)), (.ref a)])) rfl rfl (hb hby d19_23) _ ?_
      rw [len_of S13 M13]
      exact kz
    refine own_go (A := T12.setTop (mkF m 25 #[.val (.ref a), .val (.int (4 : Int32)), .val (.ref b12)] [(.int (4 : Int32)), (.int (1 : Int32)), (.int (0 : Int32)), (.ref b12), (.int (0 : Int32)), (.ref a)])) (fun _ kz => ?_) ?_
    · show Steps p.tables e below (T12.setTop (mkF m 24 #[.val (.ref a), .val (.int (4 : Int32)), .val (.ref b12)] [(.int (1 : Int32)), (.int (0 : Int32)), (.ref b12), (.int (0 : Int32)), (.ref a)])) _
      refine XS.iloadN X12.here hx rfl (hb hby d19_24) rfl ?_
      exact kz
    obtain ⟨_, _, ⟨T14, L14, k14, n14⟩, -, X14, ⟨Lc14, hQ14, l14, y14, z14⟩, st14⟩ := Jvm.LawKit.callS X12 hx (y := (⟨"java/lang/Math", "min", "(II)I"⟩ : MethodName)) hown (mvT hZ (hw _ (List.mem_of_getElem? (i := 110) rfl))) (mvT hZ (hw _ (List.mem_of_getElem? (i := 111) rfl))) (mvT hZ (hw _ (List.mem_of_getElem? (i := 104) rfl))) (mvT hZ (hw _ (List.mem_of_getElem? (i := 112) rfl))) (by decide) (backOf (W := 4) (rmmin l Z a0 hw [] (1 : Int32) (4 : Int32) (1 : Int32) h12 n0 Z12 (by decide)) hZ (hw _ (List.mem_of_getElem? (i := 112) rfl)) (hw _ (List.mem_of_getElem? (i := 104) rfl)) (by decide) (by decide)) (g := (mkF m 25 #[.val (.ref a), .val (.int (4 : Int32)), .val (.ref b12)] [(.int (4 : Int32)), (.int (1 : Int32)), (.int (0 : Int32)), (.ref b12), (.int (0 : Int32)), (.ref a)])) rfl (by rw [hml]; rfl) (argsL := [(.int (1 : Int32)), (.int (4 : Int32))]) (rest := [(.int (0 : Int32)), (.ref b12), (.int (0 : Int32)), (.ref a)]) (lenOf own_pd0 rfl) rfl (by show 2 * 0 + _ ≤ _; exact Nat.le_of_eq rfl) (hb hby d19_25) (fun _ _ => ⟨rfl, e12, (by decide : 1 + 0 ≤ _), (by decide : 4 + 0 ≤ _)⟩)
    dsimp only [Pt.U, Pt.locs, Pt.cells, Pt.slots] at X14 l14 y14 z14 st14 hQ14
    subst l14 y14 z14
    obtain ⟨rfl, N14q, e14⟩ := hQ14
    have N14 := Fr.app N0 N14q
    refine own_go (A := T14.setTop (mkF m 28 #[.val (.ref a), .val (.int (4 : Int32)), .val (.ref b12)] [(.int (1 : Int32)), (.int (0 : Int32)), (.ref b12), (.int (0 : Int32)), (.ref a)])) (fun _ kz => st14 _ kz) ?_
    obtain ⟨T15, h15, L15, X15, e15, N15, K15, Aw15, st15⟩ := cpA X14 hx hZ hown (hw _ (List.mem_of_getElem? (i := 113) rfl)) (hw _ (List.mem_of_getElem? (i := 116) rfl)) (hw _ (List.mem_of_getElem? (i := 114) rfl)) (hw _ (List.mem_of_getElem? (i := 115) rfl)) e14 Av Av_b12 (Or.inl ⟨rfl, rfl⟩) (sp := (0 : Int32)) (dp := (0 : Int32)) (nn := (1 : Int32)) (by decide) (by decide) (by decide) (by decide) (by decide) (us := [(.long (f 0))]) rfl (Nat.le_of_ble_eq_true rfl) N14 g_b12 (g := (mkF m 28 #[.val (.ref a), .val (.int (4 : Int32)), .val (.ref b12)] [(.int (1 : Int32)), (.int (0 : Int32)), (.ref b12), (.int (0 : Int32)), (.ref a)])) rfl (by rw [hml]; rfl) rfl (hb hby d19_28) (by decide) (W := 0) (by show 2 * 0 + _ ≤ _; exact Nat.le_of_eq rfl) (by decide)
    have Ax15 : Arv Z h15 b12 k12 .long (4 : Int32) [(.long (f 0)), (.long (0 : Int64)), (.long (0 : Int64)), (.long (0 : Int64))] (.long (0 : Int64)) := Aw15
    subst e15
    replace Av := Av.keep K15 (ninS ne_a_b12 nin0)
    have Z15 : n0 ≤ T15.heap.size := Nat.le_trans Z12 K15.1
    have Kp15 : Keep h0 T15.heap [] := Kp12.trans K15 (allS (Or.inr szk_b12) (all0))
    refine own_go (A := T15.setTop (mkF m 31 #[.val (.ref a), .val (.int (4 : Int32)), .val (.ref b12)] [])) (fun _ kz => st15 _ kz) ?_
    refine own_go (A := T15.setTop (mkF m 32 #[.val (.ref a), .val (.int (4 : Int32)), .val (.ref b12)] [(.ref b12)])) (fun _ kz => ?_) ?_
    · show Steps p.tables e below (T15.setTop (mkF m 31 #[.val (.ref a), .val (.int (4 : Int32)), .val (.ref b12)] [])) _
      refine XS.aloadN X15.here hx rfl (hb hby d19_31) rfl rfl ?_
      exact kz
    obtain ⟨fs, hrr, hrun, hended, hW, hsame⟩ := X15.leave (v := some (.ref b12)) (fun h => by rw [Bd.returns] at h; cases h)
    refine ⟨_, _, ?_, hrun, hended, _, _, rfl, ?_, ⟨_, rfl⟩, hW, hsame.mono (by decide) (by decide)⟩
    · show Steps p.tables e below (T15.setTop (mkF m 32 #[.val (.ref a), .val (.int (4 : Int32)), .val (.ref b12)] [(.ref b12)])) _
      exact retOut X15 hx (t := (.array .long)) Bd.returns rfl (Or.inr (Or.inr (Or.inr (Or.inr ⟨rfl, rfl, rfl⟩)))) (hb hby d19_32) hrr
    · show QrmCopy Z (4 : Int32) f h0 n0 _ T15.heap _
      refine ⟨b12, k12, rfl, N15, szk_b12, Kp15, ?_⟩
      show Arv Z T15.heap b12 k12 .long (4 : Int32) [(.long (f 0)), (.long (f 1)), (.long (f 2)), (.long (f 3))] (.long (0 : Int64))
      rw [hz 1 (by decide), hz 2 (by decide), hz 3 (by decide)]
      exact Ax15
  · skip
    replace Av : Arv Z h0 a kc .long (2 : Int32) [(.long (f 0)), (.long (f 1))] (.long (0 : Int64)) := Av
    refine own_go (A := s₁.setTop (mkF m 2 #[.val (.ref a), .val (.int (4 : Int32)), .unset] [(.ref a), (.int (4 : Int32))])) (fun _ kz => ?_) ?_
    · show Steps p.tables e below (s₁.setTop (mkF m 0 #[.val (.ref a), .val (.int (4 : Int32)), .unset] [])) _
      refine XS.iloadN X0.here hx rfl (hb hby d19_0) rfl ?_
      show Steps p.tables e below (s₁.setTop (mkF m 1 #[.val (.ref a), .val (.int (4 : Int32)), .unset] [(.int (4 : Int32))])) _
      refine XS.aloadN X0.here hx rfl (hb hby d19_1) rfl rfl ?_
      exact kz
    obtain ⟨cl16, Ar16, -, S16, M16, -, -⟩ := id Av
    refine own_go (A := s₁.setTop (mkF m 3 #[.val (.ref a), .val (.int (4 : Int32)), .unset] [(.int (2 : Int32)), (.int (4 : Int32))])) (fun _ kz => ?_) ?_
    · refine X0.arraylength hx (by rw [e0]; exact Ar16.1) (State.isArrayOf_alike hZ.alike Ar16.2.1) (g := (mkF m 2 #[.val (.ref a), .val (.int (4 : Int32)), .unset] [(.ref a), (.int (4 : Int32))])) rfl rfl (hb hby d19_2) _ ?_
      rw [len_of S16 M16]
      exact kz
    refine own_go (A := s₁.setTop (mkF m 15 #[.val (.ref a), .val (.int (4 : Int32)), .unset] [(.int (4 : Int32))])) (fun _ kz => ?_) ?_
    · show Steps p.tables e below (s₁.setTop (mkF m 3 #[.val (.ref a), .val (.int (4 : Int32)), .unset] [(.int (2 : Int32)), (.int (4 : Int32))])) _
      refine XS.icmpYes X0.here hx rfl (pc0 := 3) (pc' := 14) rfl (hb hby d19_3) rfl (feq (by decide : ¬ ((4 : Int32) = (2 : Int32)))).2 (by decide) (by decide) ?_
      show Steps p.tables e below (s₁.setTop (mkF m 14 #[.val (.ref a), .val (.int (4 : Int32)), .unset] [])) _
      refine XS.iloadN X0.here hx rfl (hb hby d19_14) rfl ?_
      exact kz
    obtain ⟨T17, h17, k17, X17, e17, E17, A17, st17⟩ := newP X0 hx hZ (hw _ (List.mem_of_getElem? (i := 28) rfl)) e0 (g := (mkF m 15 #[.val (.ref a), .val (.int (4 : Int32)), .unset] [(.int (4 : Int32))])) rfl (hb hby d19_15) rfl (by decide) (cap := 4) (by decide) (by decide) (by decide) (by decide)
    obtain ⟨b17, gq17⟩ : ∃ z, z = h0.size := ⟨_, rfl⟩
    rw [← gq17] at A17 st17
    have g_b17 : n0 ≤ b17 := Nat.le_trans Z0 (Nat.le_of_eq gq17.symm)
    have ne_a_b17 : a ≠ b17 := Nat.ne_of_lt (Nat.lt_of_lt_of_le Av.lt (Nat.le_of_eq gq17.symm))
    have szk_b17 : h0.size ≤ b17 := Nat.le_trans Kp0.1 (Nat.le_of_eq gq17.symm)
    replace Av := Av.ext E17
    have Z17 : n0 ≤ h17.size := Nat.le_trans Z0 E17.1
    have Kp17 : Keep h0 h17 [] := Kp0.ext E17
    have Av_b17 : Arv Z h17 b17 k17 .long (4 : Int32) [(.long (0 : Int64)), (.long (0 : Int64)), (.long (0 : Int64)), (.long (0 : Int64))] (.long (0 : Int64)) := (Arv.new A17 (by decide)).pad (pad_rep [] (.long (0 : Int64)) 4)
    refine own_go (A := T17.setTop (mkF m 17 #[.val (.ref a), .val (.int (4 : Int32)), .unset] [(.ref b17)])) (fun _ kz => st17 _ kz) ?_
    refine own_go (A := T17.setTop (mkF m 23 #[.val (.ref a), .val (.int (4 : Int32)), .val (.ref b17)] [(.ref a), (.int (0 : Int32)), (.ref b17), (.int (0 : Int32)), (.ref a)])) (fun _ kz => ?_) ?_
    · show Steps p.tables e below (T17.setTop (mkF m 17 #[.val (.ref a), .val (.int (4 : Int32)), .unset] [(.ref b17)])) _
      refine XS.astoreN X17.here hx rfl (hb hby d19_17) rfl rfl (l' := #[.val (.ref a), .val (.int (4 : Int32)), .val (.ref b17)]) rfl ?_
      show Steps p.tables e below (T17.setTop (mkF m 18 #[.val (.ref a), .val (.int (4 : Int32)), .val (.ref b17)] [])) _
      refine XS.aloadN X17.here hx rfl (hb hby d19_18) rfl rfl ?_
      show Steps p.tables e below (T17.setTop (mkF m 19 #[.val (.ref a), .val (.int (4 : Int32)), .val (.ref b17)] [(.ref a)])) _
      refine XS.iconst X17.here hx rfl (hb hby d19_19) ?_
      show Steps p.tables e below (T17.setTop (mkF m 20 #[.val (.ref a), .val (.int (4 : Int32)), .val (.ref b17)] [(.int (0 : Int32)), (.ref a)])) _
      refine XS.aloadN X17.here hx rfl (hb hby d19_20) rfl rfl ?_
      show Steps p.tables e below (T17.setTop (mkF m 21 #[.val (.ref a), .val (.int (4 : Int32)), .val (.ref b17)] [(.ref b17), (.int (0 : Int32)), (.ref a)])) _
      refine XS.iconst X17.here hx rfl (hb hby d19_21) ?_
      show Steps p.tables e below (T17.setTop (mkF m 22 #[.val (.ref a), .val (.int (4 : Int32)), .val (.ref b17)] [(.int (0 : Int32)), (.ref b17), (.int (0 : Int32)), (.ref a)])) _
      refine XS.aloadN X17.here hx rfl (hb hby d19_22) rfl rfl ?_
      exact kz
    obtain ⟨cl18, Ar18, -, S18, M18, -, -⟩ := id Av
    refine own_go (A := T17.setTop (mkF m 24 #[.val (.ref a), .val (.int (4 : Int32)), .val (.ref b17)] [(.int (2 : Int32)), (.int (0 : Int32)), (.ref b17), (.int (0 : Int32)), (.ref a)])) (fun _ kz => ?_) ?_
    · refine X17.arraylength hx (by rw [e17]; exact Ar18.1) (State.isArrayOf_alike hZ.alike Ar18.2.1) (g := (mkF m 23 #[.val (.ref a), .val (.int (4 : Int32)), .val (.ref b17)] [(.ref a), (.int (0 : Int32)), (.ref b17), (.int (0 : Int32)), (.ref a)])) rfl rfl (hb hby d19_23) _ ?_
      rw [len_of S18 M18]
      exact kz
    refine own_go (A := T17.setTop (mkF m 25 #[.val (.ref a), .val (.int (4 : Int32)), .val (.ref b17)] [(.int (4 : Int32)), (.int (2 : Int32)), (.int (0 : Int32)), (.ref b17), (.int (0 : Int32)), (.ref a)])) (fun _ kz => ?_) ?_
    · show Steps p.tables e below (T17.setTop (mkF m 24 #[.val (.ref a), .val (.int (4 : Int32)), .val (.ref b17)] [(.int (2 : Int32)), (.int (0 : Int32)), (.ref b17), (.int (0 : Int32)), (.ref a)])) _
      refine XS.iloadN X17.here hx rfl (hb hby d19_24) rfl ?_
      exact kz
    obtain ⟨_, _, ⟨T19, L19, k19, n19⟩, -, X19, ⟨Lc19, hQ19, l19, y19, z19⟩, st19⟩ := Jvm.LawKit.callS X17 hx (y := (⟨"java/lang/Math", "min", "(II)I"⟩ : MethodName)) hown (mvT hZ (hw _ (List.mem_of_getElem? (i := 110) rfl))) (mvT hZ (hw _ (List.mem_of_getElem? (i := 111) rfl))) (mvT hZ (hw _ (List.mem_of_getElem? (i := 104) rfl))) (mvT hZ (hw _ (List.mem_of_getElem? (i := 112) rfl))) (by decide) (backOf (W := 4) (rmmin l Z a0 hw [] (2 : Int32) (4 : Int32) (2 : Int32) h17 n0 Z17 (by decide)) hZ (hw _ (List.mem_of_getElem? (i := 112) rfl)) (hw _ (List.mem_of_getElem? (i := 104) rfl)) (by decide) (by decide)) (g := (mkF m 25 #[.val (.ref a), .val (.int (4 : Int32)), .val (.ref b17)] [(.int (4 : Int32)), (.int (2 : Int32)), (.int (0 : Int32)), (.ref b17), (.int (0 : Int32)), (.ref a)])) rfl (by rw [hml]; rfl) (argsL := [(.int (2 : Int32)), (.int (4 : Int32))]) (rest := [(.int (0 : Int32)), (.ref b17), (.int (0 : Int32)), (.ref a)]) (lenOf own_pd0 rfl) rfl (by show 2 * 0 + _ ≤ _; exact Nat.le_of_eq rfl) (hb hby d19_25) (fun _ _ => ⟨rfl, e17, (by decide : 1 + 0 ≤ _), (by decide : 4 + 0 ≤ _)⟩)
    dsimp only [Pt.U, Pt.locs, Pt.cells, Pt.slots] at X19 l19 y19 z19 st19 hQ19
    subst l19 y19 z19
    obtain ⟨rfl, N19q, e19⟩ := hQ19
    have N19 := Fr.app N0 N19q
    refine own_go (A := T19.setTop (mkF m 28 #[.val (.ref a), .val (.int (4 : Int32)), .val (.ref b17)] [(.int (2 : Int32)), (.int (0 : Int32)), (.ref b17), (.int (0 : Int32)), (.ref a)])) (fun _ kz => st19 _ kz) ?_
    obtain ⟨T20, h20, L20, X20, e20, N20, K20, Aw20, st20⟩ := cpA X19 hx hZ hown (hw _ (List.mem_of_getElem? (i := 113) rfl)) (hw _ (List.mem_of_getElem? (i := 116) rfl)) (hw _ (List.mem_of_getElem? (i := 114) rfl)) (hw _ (List.mem_of_getElem? (i := 115) rfl)) e19 Av Av_b17 (Or.inl ⟨rfl, rfl⟩) (sp := (0 : Int32)) (dp := (0 : Int32)) (nn := (2 : Int32)) (by decide) (by decide) (by decide) (by decide) (by decide) (us := [(.long (f 0)), (.long (f 1))]) rfl (Nat.le_of_ble_eq_true rfl) N19 g_b17 (g := (mkF m 28 #[.val (.ref a), .val (.int (4 : Int32)), .val (.ref b17)] [(.int (2 : Int32)), (.int (0 : Int32)), (.ref b17), (.int (0 : Int32)), (.ref a)])) rfl (by rw [hml]; rfl) rfl (hb hby d19_28) (by decide) (W := 0) (by show 2 * 0 + _ ≤ _; exact Nat.le_of_eq rfl) (by decide)
    have Ax20 : Arv Z h20 b17 k17 .long (4 : Int32) [(.long (f 0)), (.long (f 1)), (.long (0 : Int64)), (.long (0 : Int64))] (.long (0 : Int64)) := Aw20
    subst e20
    replace Av := Av.keep K20 (ninS ne_a_b17 nin0)
    have Z20 : n0 ≤ T20.heap.size := Nat.le_trans Z17 K20.1
    have Kp20 : Keep h0 T20.heap [] := Kp17.trans K20 (allS (Or.inr szk_b17) (all0))
    refine own_go (A := T20.setTop (mkF m 31 #[.val (.ref a), .val (.int (4 : Int32)), .val (.ref b17)] [])) (fun _ kz => st20 _ kz) ?_
    refine own_go (A := T20.setTop (mkF m 32 #[.val (.ref a), .val (.int (4 : Int32)), .val (.ref b17)] [(.ref b17)])) (fun _ kz => ?_) ?_
    · show Steps p.tables e below (T20.setTop (mkF m 31 #[.val (.ref a), .val (.int (4 : Int32)), .val (.ref b17)] [])) _
      refine XS.aloadN X20.here hx rfl (hb hby d19_31) rfl rfl ?_
      exact kz
    obtain ⟨fs, hrr, hrun, hended, hW, hsame⟩ := X20.leave (v := some (.ref b17)) (fun h => by rw [Bd.returns] at h; cases h)
    refine ⟨_, _, ?_, hrun, hended, _, _, rfl, ?_, ⟨_, rfl⟩, hW, hsame.mono (by decide) (by decide)⟩
    · show Steps p.tables e below (T20.setTop (mkF m 32 #[.val (.ref a), .val (.int (4 : Int32)), .val (.ref b17)] [(.ref b17)])) _
      exact retOut X20 hx (t := (.array .long)) Bd.returns rfl (Or.inr (Or.inr (Or.inr (Or.inr ⟨rfl, rfl, rfl⟩)))) (hb hby d19_32) hrr
    · show QrmCopy Z (4 : Int32) f h0 n0 _ T20.heap _
      refine ⟨b17, k17, rfl, N20, szk_b17, Kp20, ?_⟩
      show Arv Z T20.heap b17 k17 .long (4 : Int32) [(.long (f 0)), (.long (f 1)), (.long (f 2)), (.long (f 3))] (.long (0 : Int64))
      rw [hz 2 (by decide), hz 3 (by decide)]
      exact Ax20
  · skip
    replace Av : Arv Z h0 a kc .long (3 : Int32) [(.long (f 0)), (.long (f 1)), (.long (f 2))] (.long (0 : Int64)) := Av
    refine own_go (A := s₁.setTop (mkF m 2 #[.val (.ref a), .val (.int (6 : Int32)), .unset] [(.ref a), (.int (6 : Int32))])) (fun _ kz => ?_) ?_
    · show Steps p.tables e below (s₁.setTop (mkF m 0 #[.val (.ref a), .val (.int (6 : Int32)), .unset] [])) _
      refine XS.iloadN X0.here hx rfl (hb hby d19_0) rfl ?_
      show Steps p.tables e below (s₁.setTop (mkF m 1 #[.val (.ref a), .val (.int (6 : Int32)), .unset] [(.int (6 : Int32))])) _
      refine XS.aloadN X0.here hx rfl (hb hby d19_1) rfl rfl ?_
      exact kz
    obtain ⟨cl21, Ar21, -, S21, M21, -, -⟩ := id Av
    refine own_go (A := s₁.setTop (mkF m 3 #[.val (.ref a), .val (.int (6 : Int32)), .unset] [(.int (3 : Int32)), (.int (6 : Int32))])) (fun _ kz => ?_) ?_
    · refine X0.arraylength hx (by rw [e0]; exact Ar21.1) (State.isArrayOf_alike hZ.alike Ar21.2.1) (g := (mkF m 2 #[.val (.ref a), .val (.int (6 : Int32)), .unset] [(.ref a), (.int (6 : Int32))])) rfl rfl (hb hby d19_2) _ ?_
      rw [len_of S21 M21]
      exact kz
    refine own_go (A := s₁.setTop (mkF m 15 #[.val (.ref a), .val (.int (6 : Int32)), .unset] [(.int (6 : Int32))])) (fun _ kz => ?_) ?_
    · show Steps p.tables e below (s₁.setTop (mkF m 3 #[.val (.ref a), .val (.int (6 : Int32)), .unset] [(.int (3 : Int32)), (.int (6 : Int32))])) _
      refine XS.icmpYes X0.here hx rfl (pc0 := 3) (pc' := 14) rfl (hb hby d19_3) rfl (feq (by decide : ¬ ((6 : Int32) = (3 : Int32)))).2 (by decide) (by decide) ?_
      show Steps p.tables e below (s₁.setTop (mkF m 14 #[.val (.ref a), .val (.int (6 : Int32)), .unset] [])) _
      refine XS.iloadN X0.here hx rfl (hb hby d19_14) rfl ?_
      exact kz
    obtain ⟨T22, h22, k22, X22, e22, E22, A22, st22⟩ := newP X0 hx hZ (hw _ (List.mem_of_getElem? (i := 28) rfl)) e0 (g := (mkF m 15 #[.val (.ref a), .val (.int (6 : Int32)), .unset] [(.int (6 : Int32))])) rfl (hb hby d19_15) rfl (by decide) (cap := 6) (by decide) (by decide) (by decide) (by decide)
    obtain ⟨b22, gq22⟩ : ∃ z, z = h0.size := ⟨_, rfl⟩
    rw [← gq22] at A22 st22
    have g_b22 : n0 ≤ b22 := Nat.le_trans Z0 (Nat.le_of_eq gq22.symm)
    have ne_a_b22 : a ≠ b22 := Nat.ne_of_lt (Nat.lt_of_lt_of_le Av.lt (Nat.le_of_eq gq22.symm))
    have szk_b22 : h0.size ≤ b22 := Nat.le_trans Kp0.1 (Nat.le_of_eq gq22.symm)
    replace Av := Av.ext E22
    have Z22 : n0 ≤ h22.size := Nat.le_trans Z0 E22.1
    have Kp22 : Keep h0 h22 [] := Kp0.ext E22
    have Av_b22 : Arv Z h22 b22 k22 .long (6 : Int32) [(.long (0 : Int64)), (.long (0 : Int64)), (.long (0 : Int64)), (.long (0 : Int64)), (.long (0 : Int64)), (.long (0 : Int64))] (.long (0 : Int64)) := (Arv.new A22 (by decide)).pad (pad_rep [] (.long (0 : Int64)) 6)
    refine own_go (A := T22.setTop (mkF m 17 #[.val (.ref a), .val (.int (6 : Int32)), .unset] [(.ref b22)])) (fun _ kz => st22 _ kz) ?_
    refine own_go (A := T22.setTop (mkF m 23 #[.val (.ref a), .val (.int (6 : Int32)), .val (.ref b22)] [(.ref a), (.int (0 : Int32)), (.ref b22), (.int (0 : Int32)), (.ref a)])) (fun _ kz => ?_) ?_
    · show Steps p.tables e below (T22.setTop (mkF m 17 #[.val (.ref a), .val (.int (6 : Int32)), .unset] [(.ref b22)])) _
      refine XS.astoreN X22.here hx rfl (hb hby d19_17) rfl rfl (l' := #[.val (.ref a), .val (.int (6 : Int32)), .val (.ref b22)]) rfl ?_
      show Steps p.tables e below (T22.setTop (mkF m 18 #[.val (.ref a), .val (.int (6 : Int32)), .val (.ref b22)] [])) _
      refine XS.aloadN X22.here hx rfl (hb hby d19_18) rfl rfl ?_
      show Steps p.tables e below (T22.setTop (mkF m 19 #[.val (.ref a), .val (.int (6 : Int32)), .val (.ref b22)] [(.ref a)])) _
      refine XS.iconst X22.here hx rfl (hb hby d19_19) ?_
      show Steps p.tables e below (T22.setTop (mkF m 20 #[.val (.ref a), .val (.int (6 : Int32)), .val (.ref b22)] [(.int (0 : Int32)), (.ref a)])) _
      refine XS.aloadN X22.here hx rfl (hb hby d19_20) rfl rfl ?_
      show Steps p.tables e below (T22.setTop (mkF m 21 #[.val (.ref a), .val (.int (6 : Int32)), .val (.ref b22)] [(.ref b22), (.int (0 : Int32)), (.ref a)])) _
      refine XS.iconst X22.here hx rfl (hb hby d19_21) ?_
      show Steps p.tables e below (T22.setTop (mkF m 22 #[.val (.ref a), .val (.int (6 : Int32)), .val (.ref b22)] [(.int (0 : Int32)), (.ref b22), (.int (0 : Int32)), (.ref a)])) _
      refine XS.aloadN X22.here hx rfl (hb hby d19_22) rfl rfl ?_
      exact kz
    obtain ⟨cl23, Ar23, -, S23, M23, -, -⟩ := id Av
    refine own_go (A := T22.setTop (mkF m 24 #[.val (.ref a), .val (.int (6 : Int32)), .val (.ref b22)] [(.int (3 : Int32)), (.int (0 : Int32)), (.ref b22), (.int (0 : Int32)), (.ref a)])) (fun _ kz => ?_) ?_
    · refine X22.arraylength hx (by rw [e22]; exact Ar23.1) (State.isArrayOf_alike hZ.alike Ar23.2.1) (g := (mkF m 23 #[.val (.ref a), .val (.int (6 : Int32)), .val (.ref b22)] [(.ref a), (.int (0 : Int32)), (.ref b22), (.int (0 : Int32)), (.ref a)])) rfl rfl (hb hby d19_23) _ ?_
      rw [len_of S23 M23]
      exact kz
    refine own_go (A := T22.setTop (mkF m 25 #[.val (.ref a), .val (.int (6 : Int32)), .val (.ref b22)] [(.int (6 : Int32)), (.int (3 : Int32)), (.int (0 : Int32)), (.ref b22), (.int (0 : Int32)), (.ref a)])) (fun _ kz => ?_) ?_
    · show Steps p.tables e below (T22.setTop (mkF m 24 #[.val (.ref a), .val (.int (6 : Int32)), .val (.ref b22)] [(.int (3 : Int32)), (.int (0 : Int32)), (.ref b22), (.int (0 : Int32)), (.ref a)])) _
      refine XS.iloadN X22.here hx rfl (hb hby d19_24) rfl ?_
      exact kz
    obtain ⟨_, _, ⟨T24, L24, k24, n24⟩, -, X24, ⟨Lc24, hQ24, l24, y24, z24⟩, st24⟩ := Jvm.LawKit.callS X22 hx (y := (⟨"java/lang/Math", "min", "(II)I"⟩ : MethodName)) hown (mvT hZ (hw _ (List.mem_of_getElem? (i := 110) rfl))) (mvT hZ (hw _ (List.mem_of_getElem? (i := 111) rfl))) (mvT hZ (hw _ (List.mem_of_getElem? (i := 104) rfl))) (mvT hZ (hw _ (List.mem_of_getElem? (i := 112) rfl))) (by decide) (backOf (W := 4) (rmmin l Z a0 hw [] (3 : Int32) (6 : Int32) (3 : Int32) h22 n0 Z22 (by decide)) hZ (hw _ (List.mem_of_getElem? (i := 112) rfl)) (hw _ (List.mem_of_getElem? (i := 104) rfl)) (by decide) (by decide)) (g := (mkF m 25 #[.val (.ref a), .val (.int (6 : Int32)), .val (.ref b22)] [(.int (6 : Int32)), (.int (3 : Int32)), (.int (0 : Int32)), (.ref b22), (.int (0 : Int32)), (.ref a)])) rfl (by rw [hml]; rfl) (argsL := [(.int (3 : Int32)), (.int (6 : Int32))]) (rest := [(.int (0 : Int32)), (.ref b22), (.int (0 : Int32)), (.ref a)]) (lenOf own_pd0 rfl) rfl (by show 2 * 0 + _ ≤ _; exact Nat.le_of_eq rfl) (hb hby d19_25) (fun _ _ => ⟨rfl, e22, (by decide : 1 + 0 ≤ _), (by decide : 6 + 0 ≤ _)⟩)
    dsimp only [Pt.U, Pt.locs, Pt.cells, Pt.slots] at X24 l24 y24 z24 st24 hQ24
    subst l24 y24 z24
    obtain ⟨rfl, N24q, e24⟩ := hQ24
    have N24 := Fr.app N0 N24q
    refine own_go (A := T24.setTop (mkF m 28 #[.val (.ref a), .val (.int (6 : Int32)), .val (.ref b22)] [(.int (3 : Int32)), (.int (0 : Int32)), (.ref b22), (.int (0 : Int32)), (.ref a)])) (fun _ kz => st24 _ kz) ?_
    obtain ⟨T25, h25, L25, X25, e25, N25, K25, Aw25, st25⟩ := cpA X24 hx hZ hown (hw _ (List.mem_of_getElem? (i := 113) rfl)) (hw _ (List.mem_of_getElem? (i := 116) rfl)) (hw _ (List.mem_of_getElem? (i := 114) rfl)) (hw _ (List.mem_of_getElem? (i := 115) rfl)) e24 Av Av_b22 (Or.inl ⟨rfl, rfl⟩) (sp := (0 : Int32)) (dp := (0 : Int32)) (nn := (3 : Int32)) (by decide) (by decide) (by decide) (by decide) (by decide) (us := [(.long (f 0)), (.long (f 1)), (.long (f 2))]) rfl (Nat.le_of_ble_eq_true rfl) N24 g_b22 (g := (mkF m 28 #[.val (.ref a), .val (.int (6 : Int32)), .val (.ref b22)] [(.int (3 : Int32)), (.int (0 : Int32)), (.ref b22), (.int (0 : Int32)), (.ref a)])) rfl (by rw [hml]; rfl) rfl (hb hby d19_28) (by decide) (W := 0) (by show 2 * 0 + _ ≤ _; exact Nat.le_of_eq rfl) (by decide)
    have Ax25 : Arv Z h25 b22 k22 .long (6 : Int32) [(.long (f 0)), (.long (f 1)), (.long (f 2)), (.long (0 : Int64)), (.long (0 : Int64)), (.long (0 : Int64))] (.long (0 : Int64)) := Aw25
    subst e25
    replace Av := Av.keep K25 (ninS ne_a_b22 nin0)
    have Z25 : n0 ≤ T25.heap.size := Nat.le_trans Z22 K25.1
    have Kp25 : Keep h0 T25.heap [] := Kp22.trans K25 (allS (Or.inr szk_b22) (all0))
    refine own_go (A := T25.setTop (mkF m 31 #[.val (.ref a), .val (.int (6 : Int32)), .val (.ref b22)] [])) (fun _ kz => st25 _ kz) ?_
    refine own_go (A := T25.setTop (mkF m 32 #[.val (.ref a), .val (.int (6 : Int32)), .val (.ref b22)] [(.ref b22)])) (fun _ kz => ?_) ?_
    · show Steps p.tables e below (T25.setTop (mkF m 31 #[.val (.ref a), .val (.int (6 : Int32)), .val (.ref b22)] [])) _
      refine XS.aloadN X25.here hx rfl (hb hby d19_31) rfl rfl ?_
      exact kz
    obtain ⟨fs, hrr, hrun, hended, hW, hsame⟩ := X25.leave (v := some (.ref b22)) (fun h => by rw [Bd.returns] at h; cases h)
    refine ⟨_, _, ?_, hrun, hended, _, _, rfl, ?_, ⟨_, rfl⟩, hW, hsame.mono (by decide) (by decide)⟩
    · show Steps p.tables e below (T25.setTop (mkF m 32 #[.val (.ref a), .val (.int (6 : Int32)), .val (.ref b22)] [(.ref b22)])) _
      exact retOut X25 hx (t := (.array .long)) Bd.returns rfl (Or.inr (Or.inr (Or.inr (Or.inr ⟨rfl, rfl, rfl⟩)))) (hb hby d19_32) hrr
    · show QrmCopy Z (6 : Int32) f h0 n0 _ T25.heap _
      refine ⟨b22, k22, rfl, N25, szk_b22, Kp25, ?_⟩
      show Arv Z T25.heap b22 k22 .long (6 : Int32) [(.long (f 0)), (.long (f 1)), (.long (f 2)), (.long (f 3)), (.long (f 4)), (.long (f 5))] (.long (0 : Int64))
      rw [hz 3 (by decide), hz 4 (by decide), hz 5 (by decide)]
      exact Ax25
theorem d9_0 : decode jdk_92_method_14_code 0 = .ok (.aload_n 0, 1) := by decide +kernel
theorem d9_1 : decode jdk_92_method_14_code 1 = .ok (.getfield 11, 3) := by decide +kernel
theorem d9_4 : decode jdk_92_method_14_code 4 = .ok (.arraylength, 1) := by decide +kernel
theorem d9_5 : decode jdk_92_method_14_code 5 = .ok (.iload_n 1, 1) := by decide +kernel
theorem d9_6 : decode jdk_92_method_14_code 6 = .ok (.if_icmp .ge 32, 3) := by decide +kernel
theorem d9_9 : decode jdk_92_method_14_code 9 = .ok (.iconst 2, 1) := by decide +kernel
theorem d9_10 : decode jdk_92_method_14_code 10 = .ok (.aload_n 0, 1) := by decide +kernel
theorem d9_11 : decode jdk_92_method_14_code 11 = .ok (.getfield 11, 3) := by decide +kernel
theorem d9_14 : decode jdk_92_method_14_code 14 = .ok (.arraylength, 1) := by decide +kernel
theorem d9_15 : decode jdk_92_method_14_code 15 = .ok (.imul, 1) := by decide +kernel
theorem d9_16 : decode jdk_92_method_14_code 16 = .ok (.iload_n 1, 1) := by decide +kernel
theorem d9_17 : decode jdk_92_method_14_code 17 = .ok (.invokestatic 133, 3) := by decide +kernel
theorem d9_20 : decode jdk_92_method_14_code 20 = .ok (.istore_n 2, 1) := by decide +kernel
theorem d9_21 : decode jdk_92_method_14_code 21 = .ok (.aload_n 0, 1) := by decide +kernel
theorem d9_22 : decode jdk_92_method_14_code 22 = .ok (.aload_n 0, 1) := by decide +kernel
theorem d9_23 : decode jdk_92_method_14_code 23 = .ok (.getfield 11, 3) := by decide +kernel
theorem d9_26 : decode jdk_92_method_14_code 26 = .ok (.iload_n 2, 1) := by decide +kernel
theorem d9_27 : decode jdk_92_method_14_code 27 = .ok (.invokestatic 59, 3) := by decide +kernel
theorem d9_30 : decode jdk_92_method_14_code 30 = .ok (.putfield 11, 3) := by decide +kernel
theorem d9_33 : decode jdk_92_method_14_code 33 = .ok (.aload_n 0, 1) := by decide +kernel
theorem d9_34 : decode jdk_92_method_14_code 34 = .ok (.iconst 0, 1) := by decide +kernel
theorem d9_35 : decode jdk_92_method_14_code 35 = .ok (.putfield 24, 3) := by decide +kernel
theorem d9_38 : decode jdk_92_method_14_code 38 = .ok (.return_, 1) := by decide +kernel
theorem own_pn9 : plainName "java/util/BitSet" = true := by first | (simp [plainName, overriddenIn]; done) | decide +kernel
theorem own_ef9 (m : MethodId) (x0 : Addr) (x1 : Int32) : entryFrame m #[(.ref x0), (.int x1)] 3 = mkF m 0 #[.val (.ref x0), .val (.int x1), .unset] [] := by first | (simp [entryFrame, mkF, argsToLocals, Value.category]; done) | rfl
def QrmEC (Z : State) (a : Addr) (req : Int32) (w : Addr) (len : Int32) (u : Int32) (f : Nat → Int64) (h0 : Heap) (n0 : Nat) (v : Option Value) (h : Heap) (L : List Loc) : Prop := ∃ (w' : Addr) (kd : ClassId) (s' : Int32), v = none ∧ Fr n0 L ∧ n0 ≤ w' ∧ (w' = w ∨ h0.size ≤ w') ∧ Keep h0 h [a] ∧ Exa Z h a "java/util/BitSet" ∧ Fld Z h a "java/util/BitSet" "words" "[J" (.ref w') ∧ Fld Z h a "java/util/BitSet" "wordsInUse" "I" (.int u) ∧ Fld Z h a "java/util/BitSet" "sizeIsSticky" "Z" (.int s') ∧ Arv Z h w' kd .long (own_el len req) (own_vals (own_el len req) f) (.long (0 : Int64))
set_option maxRecDepth 65536 in
set_option maxHeartbeats 40000000 in
theorem rmEC (l : Launch) (Z : State) (a0 : Array Value) (hw : ∀ d ∈ tables_1, d.before a0 Z = true) (ws : List Jvm.Cond) (a : Addr) (req : Int32) (w : Addr) (kc : ClassId) (len u s_ : Int32) (f : Nat → Int64) (h0 : Heap) (n0 : Nat) (Z0 : n0 ≤ h0.size) (hlr : (len = (1 : Int32) ∧ req = (1 : Int32)) ∨ (len = (1 : Int32) ∧ req = (2 : Int32)) ∨ (len = (1 : Int32) ∧ req = (3 : Int32)) ∨ (len = (1 : Int32) ∧ req = (4 : Int32)) ∨ (len = (2 : Int32) ∧ req = (1 : Int32)) ∨ (len = (2 : Int32) ∧ req = (2 : Int32)) ∨ (len = (2 : Int32) ∧ req = (3 : Int32)) ∨ (len = (2 : Int32) ∧ req = (4 : Int32)) ∨ (len = (3 : Int32) ∧ req = (1 : Int32)) ∨ (len = (3 : Int32) ∧ req = (2 : Int32)) ∨ (len = (3 : Int32) ∧ req = (3 : Int32)) ∨ (len = (3 : Int32) ∧ req = (4 : Int32)) ∨ (len = (4 : Int32) ∧ req = (1 : Int32)) ∨ (len = (4 : Int32) ∧ req = (2 : Int32)) ∨ (len = (4 : Int32) ∧ req = (3 : Int32)) ∨ (len = (4 : Int32) ∧ req = (4 : Int32))) (hz : ∀ k : Nat, (len).toNatClampNeg ≤ k → f k = (0 : Int64)) (Ex : Exa Z h0 a "java/util/BitSet") (Fw : Fld Z h0 a "java/util/BitSet" "words" "[J" (.ref w)) (Fu : Fld Z h0 a "java/util/BitSet" "wordsInUse" "I" (.int u)) (Fs : Fld Z h0 a "java/util/BitSet" "sizeIsSticky" "Z" (.int s_)) (Av : Arv Z h0 w kc .long len (own_vals len f) (.long (0 : Int64))) (g_a : n0 ≤ a) (ne_w_a : w ≠ a) (g_w : n0 ≤ w) :
    MetFree l (⟨"java/util/BitSet", "ensureCapacity", "(I)V"⟩ : MethodName) (head1 (Jvm.Cond.code (⟨"java/util/BitSet", "ensureCapacity", "(I)V"⟩ : MethodName) jdk_92_method_14_code 3 none :: ws) ({ frames := 2, cells := 1, slots := 6, locals := 55 } : Room)) (fun ar_ U_ => ar_ = #[(.ref a), (.int req)] ∧ Z.Warmed39 U_.vm ∧ U_.heap = h0) (fun _ _ _ _ _ => True) (fun _ U_ ou_ V_ => ∃ v_ L_, ou_ = .returned v_ ∧ QrmEC Z a req w len u f h0 n0 v_ V_.heap L_ ∧ FrameEnd U_ ou_ V_ L_ ({ frames := 2, cells := 1, slots := 6, locals := 55 } : Room).cells ({ frames := 2, cells := 1, slots := 6, locals := 55 } : Room).slots) := by
  refine MetFree.of_bodySF (plainFor_of_name own_pn9) hisR ?_
  intro p e s m args below meth c s₁ Bd hml0 hP hK
  obtain ⟨rfl, hZ, hh⟩ := hP
  have hx := Bd.exec
  have hby := Bd.bytes
  have hml : c.maxLocals = 3 := hml0
  have hown : s.vm.findClass "java/util/BitSet" = some m.cls := findClass_of_methodNamed Bd.named
  have hnm := (name_of_methodNamed Bd.named Bd.method).1
  have X0 : Stand p l e ({ frames := 2, cells := 1, slots := 6, locals := 55 } : Room) s m #[(.ref a), (.int req)] below meth c s₁ [] 0 0 := Stand.of_body Bd
  have e0 : s₁.heap = h0 := by rw [← hh, Bd.state]; rfl
  have N0 := Fr.nil n0
  have Kp0 : Keep h0 h0 [a] := Keep.refl h0 _
  refine own_go (A := s₁.setTop (mkF m 0 #[.val (.ref a), .val (.int req), .unset] [])) (fun t kz => castTop (own_ef9 m a req) kz) ?_
  rcases hlr with ⟨rfl, rfl⟩ | ⟨rfl, rfl⟩ | ⟨rfl, rfl⟩ | ⟨rfl, rfl⟩ | ⟨rfl, rfl⟩ | ⟨rfl, rfl⟩ | ⟨rfl, rfl⟩ | ⟨rfl, rfl⟩ | ⟨rfl, rfl⟩ | ⟨rfl, rfl⟩ | ⟨rfl, rfl⟩ | ⟨rfl, rfl⟩ | ⟨rfl, rfl⟩ | ⟨rfl, rfl⟩ | ⟨rfl, rfl⟩ | ⟨rfl, rfl⟩
  · skip
    refine own_go (A := s₁.setTop (mkF m 1 #[.val (.ref a), .val (.int (1 : Int32)), .unset] [(.ref a)])) (fun _ kz => ?_) ?_
    · show Steps p.tables e below (s₁.setTop (mkF m 0 #[.val (.ref a), .val (.int (1 : Int32)), .unset] [])) _
      refine XS.aloadN X0.here hx rfl (hb hby d9_0) rfl rfl ?_
      exact kz
    obtain ⟨T1, X1, e1, st1⟩ := getF X0 hx hZ hown (host := "") (Or.inl (hw _ (List.mem_of_getElem? (i := 29) rfl))) Via.refl e0 Fw (g := (mkF m 1 #[.val (.ref a), .val (.int (1 : Int32)), .unset] [(.ref a)])) rfl rfl (hb hby d9_1)
    refine own_go (A := T1.setTop (mkF m 4 #[.val (.ref a), .val (.int (1 : Int32)), .unset] [(.ref w)])) (fun _ kz => st1 _ kz) ?_
    obtain ⟨cl2, Ar2, -, S2, M2, -, -⟩ := id Av
    refine own_go (A := T1.setTop (mkF m 5 #[.val (.ref a), .val (.int (1 : Int32)), .unset] [(.int (1 : Int32))])) (fun _ kz => ?_) ?_
    · refine X1.arraylength hx (by rw [e1]; exact Ar2.1) (State.isArrayOf_alike hZ.alike Ar2.2.1) (g := (mkF m 4 #[.val (.ref a), .val (.int (1 : Int32)), .unset] [(.ref w)])) rfl rfl (hb hby d9_4) _ ?_
      rw [len_of S2 M2]
      exact kz
    refine own_go (A := T1.setTop (mkF m 38 #[.val (.ref a), .val (.int (1 : Int32)), .unset] [])) (fun _ kz => ?_) ?_
    · show Steps p.tables e below (T1.setTop (mkF m 5 #[.val (.ref a), .val (.int (1 : Int32)), .unset] [(.int (1 : Int32))])) _
      refine XS.iloadN X1.here hx rfl (hb hby d9_5) rfl ?_
      show Steps p.tables e below (T1.setTop (mkF m 6 #[.val (.ref a), .val (.int (1 : Int32)), .unset] [(.int (1 : Int32)), (.int (1 : Int32))])) _
      refine XS.icmpYes X1.here hx rfl (pc0 := 6) (pc' := 38) rfl (hb hby d9_6) rfl (flt (by decide : ¬ ((1 : Int32) < (1 : Int32)))).2.1 (by decide) (by decide) ?_
      exact kz
    obtain ⟨fs, hrr, hrun, hended, hW, hsame⟩ := X1.leave (v := none) (fun _ => rfl)
    refine ⟨_, _, ?_, hrun, hended, _, _, rfl, ?_, ⟨_, rfl⟩, hW, hsame.mono (by decide) (by decide)⟩
    · show Steps p.tables e below (T1.setTop (mkF m 38 #[.val (.ref a), .val (.int (1 : Int32)), .unset] [])) _
      exact X1.returnOut hx Bd.returns (hb hby d9_38) hrr
    · show QrmEC Z a (1 : Int32) w (1 : Int32) u f h0 n0 _ T1.heap _
      rw [e1]
      exact ⟨w, kc, s_, rfl, N0, g_w, Or.inl rfl, Kp0, Ex, Fw, Fu, Fs, Av⟩
  · skip
    refine own_go (A := s₁.setTop (mkF m 1 #[.val (.ref a), .val (.int (2 : Int32)), .unset] [(.ref a)])) (fun _ kz => ?_) ?_
    · show Steps p.tables e below (s₁.setTop (mkF m 0 #[.val (.ref a), .val (.int (2 : Int32)), .unset] [])) _
      refine XS.aloadN X0.here hx rfl (hb hby d9_0) rfl rfl ?_
      exact kz
    obtain ⟨T3, X3, e3, st3⟩ := getF X0 hx hZ hown (host := "") (Or.inl (hw _ (List.mem_of_getElem? (i := 29) rfl))) Via.refl e0 Fw (g := (mkF m 1 #[.val (.ref a), .val (.int (2 : Int32)), .unset] [(.ref a)])) rfl rfl (hb hby d9_1)
    refine own_go (A := T3.setTop (mkF m 4 #[.val (.ref a), .val (.int (2 : Int32)), .unset] [(.ref w)])) (fun _ kz => st3 _ kz) ?_
    obtain ⟨cl4, Ar4, -, S4, M4, -, -⟩ := id Av
    refine own_go (A := T3.setTop (mkF m 5 #[.val (.ref a), .val (.int (2 : Int32)), .unset] [(.int (1 : Int32))])) (fun _ kz => ?_) ?_
    · refine X3.arraylength hx (by rw [e3]; exact Ar4.1) (State.isArrayOf_alike hZ.alike Ar4.2.1) (g := (mkF m 4 #[.val (.ref a), .val (.int (2 : Int32)), .unset] [(.ref w)])) rfl rfl (hb hby d9_4) _ ?_
      rw [len_of S4 M4]
      exact kz
    refine own_go (A := T3.setTop (mkF m 11 #[.val (.ref a), .val (.int (2 : Int32)), .unset] [(.ref a), (.int (2 : Int32))])) (fun _ kz => ?_) ?_
    · show Steps p.tables e below (T3.setTop (mkF m 5 #[.val (.ref a), .val (.int (2 : Int32)), .unset] [(.int (1 : Int32))])) _
      refine XS.iloadN X3.here hx rfl (hb hby d9_5) rfl ?_
      show Steps p.tables e below (T3.setTop (mkF m 6 #[.val (.ref a), .val (.int (2 : Int32)), .unset] [(.int (2 : Int32)), (.int (1 : Int32))])) _
      refine XS.icmpNo X3.here hx rfl (hb hby d9_6) rfl (tlt (by decide : ((1 : Int32) < (2 : Int32)))).2.1 ?_
      show Steps p.tables e below (T3.setTop (mkF m 9 #[.val (.ref a), .val (.int (2 : Int32)), .unset] [])) _
      refine XS.iconst X3.here hx rfl (hb hby d9_9) ?_
      show Steps p.tables e below (T3.setTop (mkF m 10 #[.val (.ref a), .val (.int (2 : Int32)), .unset] [(.int (2 : Int32))])) _
      refine XS.aloadN X3.here hx rfl (hb hby d9_10) rfl rfl ?_
      exact kz
    obtain ⟨T5, X5, e5, st5⟩ := getF X3 hx hZ hown (host := "") (Or.inl (hw _ (List.mem_of_getElem? (i := 29) rfl))) Via.refl e3 Fw (g := (mkF m 11 #[.val (.ref a), .val (.int (2 : Int32)), .unset] [(.ref a), (.int (2 : Int32))])) rfl rfl (hb hby d9_11)
    refine own_go (A := T5.setTop (mkF m 14 #[.val (.ref a), .val (.int (2 : Int32)), .unset] [(.ref w), (.int (2 : Int32))])) (fun _ kz => st5 _ kz) ?_
    obtain ⟨cl6, Ar6, -, S6, M6, -, -⟩ := id Av
    refine own_go (A := T5.setTop (mkF m 15 #[.val (.ref a), .val (.int (2 : Int32)), .unset] [(.int (1 : Int32)), (.int (2 : Int32))])) (fun _ kz => ?_) ?_
    · refine X5.arraylength hx (by rw [e5]; exact Ar6.1) (State.isArrayOf_alike hZ.alike Ar6.2.1) (g := (mkF m 14 #[.val (.ref a), .val (.int (2 : Int32)), .unset] [(.ref w), (.int (2 : Int32))])) rfl rfl (hb hby d9_14) _ ?_
      rw [len_of S6 M6]
      exact kz
    refine own_go (A := T5.setTop (mkF m 17 #[.val (.ref a), .val (.int (2 : Int32)), .unset] [(.int (2 : Int32)), (.int (2 : Int32))])) (fun _ kz => ?_) ?_
    · show Steps p.tables e below (T5.setTop (mkF m 15 #[.val (.ref a), .val (.int (2 : Int32)), .unset] [(.int (1 : Int32)), (.int (2 : Int32))])) _
      refine XS.imul X5.here hx rfl (hb hby d9_15) rfl ?_
      show Steps p.tables e below (T5.setTop (mkF m 16 #[.val (.ref a), .val (.int (2 : Int32)), .unset] [(.int (2 : Int32))])) _
      refine XS.iloadN X5.here hx rfl (hb hby d9_16) rfl ?_
      exact kz
    obtain ⟨_, _, ⟨T7, L7, k7, n7⟩, -, X7, ⟨Lc7, hQ7, l7, y7, z7⟩, st7⟩ := Jvm.LawKit.callS X5 hx (y := (⟨"java/lang/Math", "max", "(II)I"⟩ : MethodName)) hown (mvT hZ (hw _ (List.mem_of_getElem? (i := 102) rfl))) (mvT hZ (hw _ (List.mem_of_getElem? (i := 103) rfl))) (mvT hZ (hw _ (List.mem_of_getElem? (i := 104) rfl))) (mvT hZ (hw _ (List.mem_of_getElem? (i := 105) rfl))) (by decide) (backOf (W := 0) (rmmax l Z a0 hw [] (2 : Int32) (2 : Int32) (2 : Int32) h0 n0 Z0 (by decide)) hZ (hw _ (List.mem_of_getElem? (i := 105) rfl)) (hw _ (List.mem_of_getElem? (i := 104) rfl)) (by decide) (by decide)) (g := (mkF m 17 #[.val (.ref a), .val (.int (2 : Int32)), .unset] [(.int (2 : Int32)), (.int (2 : Int32))])) rfl (by rw [hml]; rfl) (argsL := [(.int (2 : Int32)), (.int (2 : Int32))]) (rest := []) (lenOf own_pd0 rfl) rfl (by show 2 * 0 + _ ≤ _; exact Nat.le_of_eq rfl) (hb hby d9_17) (fun _ _ => ⟨rfl, e5, (by decide : 0 + 0 ≤ _), (by decide : 0 + 0 ≤ _)⟩)
    dsimp only [Pt.U, Pt.locs, Pt.cells, Pt.slots] at X7 l7 y7 z7 st7 hQ7
    subst l7 y7 z7
    obtain ⟨rfl, N7q, e7⟩ := hQ7
    have N7 := Fr.app N0 N7q
    refine own_go (A := T7.setTop (mkF m 20 #[.val (.ref a), .val (.int (2 : Int32)), .unset] [(.int (2 : Int32))])) (fun _ kz => st7 _ kz) ?_
    refine own_go (A := T7.setTop (mkF m 23 #[.val (.ref a), .val (.int (2 : Int32)), .val (.int (2 : Int32))] [(.ref a), (.ref a)])) (fun _ kz => ?_) ?_
    · show Steps p.tables e below (T7.setTop (mkF m 20 #[.val (.ref a), .val (.int (2 : Int32)), .unset] [(.int (2 : Int32))])) _
      refine XS.istoreN X7.here hx rfl (hb hby d9_20) rfl (l' := #[.val (.ref a), .val (.int (2 : Int32)), .val (.int (2 : Int32))]) rfl ?_
      show Steps p.tables e below (T7.setTop (mkF m 21 #[.val (.ref a), .val (.int (2 : Int32)), .val (.int (2 : Int32))] [])) _
      refine XS.aloadN X7.here hx rfl (hb hby d9_21) rfl rfl ?_
      show Steps p.tables e below (T7.setTop (mkF m 22 #[.val (.ref a), .val (.int (2 : Int32)), .val (.int (2 : Int32))] [(.ref a)])) _
      refine XS.aloadN X7.here hx rfl (hb hby d9_22) rfl rfl ?_
      exact kz
    obtain ⟨T8, X8, e8, st8⟩ := getF X7 hx hZ hown (host := "") (Or.inl (hw _ (List.mem_of_getElem? (i := 29) rfl))) Via.refl e7 Fw (g := (mkF m 23 #[.val (.ref a), .val (.int (2 : Int32)), .val (.int (2 : Int32))] [(.ref a), (.ref a)])) rfl rfl (hb hby d9_23)
    refine own_go (A := T8.setTop (mkF m 26 #[.val (.ref a), .val (.int (2 : Int32)), .val (.int (2 : Int32))] [(.ref w), (.ref a)])) (fun _ kz => st8 _ kz) ?_
    refine own_go (A := T8.setTop (mkF m 27 #[.val (.ref a), .val (.int (2 : Int32)), .val (.int (2 : Int32))] [(.int (2 : Int32)), (.ref w), (.ref a)])) (fun _ kz => ?_) ?_
    · show Steps p.tables e below (T8.setTop (mkF m 26 #[.val (.ref a), .val (.int (2 : Int32)), .val (.int (2 : Int32))] [(.ref w), (.ref a)])) _
      refine XS.iloadN X8.here hx rfl (hb hby d9_26) rfl ?_
      exact kz
    obtain ⟨_, _, ⟨T9, L9, k9, n9⟩, -, X9, ⟨Lc9, hQ9, l9, y9, z9⟩, st9⟩ := Jvm.LawKit.callS X8 hx (y := (⟨"java/util/Arrays", "copyOf", "([JI)[J"⟩ : MethodName)) hown (mvT hZ (hw _ (List.mem_of_getElem? (i := 106) rfl))) (mvT hZ (hw _ (List.mem_of_getElem? (i := 107) rfl))) (mvT hZ (hw _ (List.mem_of_getElem? (i := 108) rfl))) (mvT hZ (hw _ (List.mem_of_getElem? (i := 109) rfl))) (by decide) (backOf (W := 1) (rmCopy l Z a0 hw [] w (2 : Int32) kc (1 : Int32) f h0 n0 Z0 (by decide) hz Av) hZ (hw _ (List.mem_of_getElem? (i := 109) rfl)) (hw _ (List.mem_of_getElem? (i := 108) rfl)) (by decide) (by decide)) (g := (mkF m 27 #[.val (.ref a), .val (.int (2 : Int32)), .val (.int (2 : Int32))] [(.int (2 : Int32)), (.ref w), (.ref a)])) rfl (by rw [hml]; rfl) (argsL := [(.ref w), (.int (2 : Int32))]) (rest := [(.ref a)]) (lenOf own_pd1 rfl) rfl (by show 2 * 0 + _ ≤ _; exact Nat.le_of_eq rfl) (hb hby d9_27) (fun _ _ => ⟨rfl, e8, (by decide : 0 + 1 ≤ _), (by decide : 0 + 6 ≤ _)⟩)
    dsimp only [Pt.U, Pt.locs, Pt.cells, Pt.slots] at X9 l9 y9 z9 st9 hQ9
    subst l9 y9 z9
    obtain ⟨c9, kd9, rfl, N9q, zc9, K9q, Aq9⟩ := hQ9
    have N9 := Fr.app N7 N9q
    have ne_a_c9 : a ≠ c9 := Nat.ne_of_lt (Nat.lt_of_lt_of_le Ex.lt zc9)
    have ne_w_c9 : w ≠ c9 := Nat.ne_of_lt (Nat.lt_of_lt_of_le Av.lt zc9)
    have g_c9 : n0 ≤ c9 := Nat.le_trans Z0 zc9
    have szk_c9 : h0.size ≤ c9 := Nat.le_trans Kp0.1 zc9
    replace Ex := Ex.keep K9q
    replace Fw := Fw.keep K9q nin0
    replace Fu := Fu.keep K9q nin0
    replace Fs := Fs.keep K9q nin0
    replace Av := Av.keep K9q nin0
    have Z9 : n0 ≤ T9.heap.size := Nat.le_trans Z0 K9q.1
    have Kp9 : Keep h0 T9.heap [a] := Kp0.trans K9q (all0)
    refine own_go (A := T9.setTop (mkF m 30 #[.val (.ref a), .val (.int (2 : Int32)), .val (.int (2 : Int32))] [(.ref c9), (.ref a)])) (fun _ kz => st9 _ kz) ?_
    obtain ⟨T10, h10, X10, e10, W10, st10⟩ := putF X9 hx hZ hown (host := "") (Or.inl (hw _ (List.mem_of_getElem? (i := 29) rfl))) Via.refl rfl Fw Ex (Or.inl (hw _ (List.mem_of_getElem? (i := 30) rfl))) (hw _ (List.mem_of_getElem? (i := 10) rfl)) (ty := (.array .long)) (by decide) rfl rfl (g := (mkF m 30 #[.val (.ref a), .val (.int (2 : Int32)), .val (.int (2 : Int32))] [(.ref c9), (.ref a)])) rfl rfl (hb hby d9_30)
    have Fw10 := Fw.same W10
    replace Ex := Ex.wr W10
    replace Fu := Fu.other W10 (Or.inr (slot_ne (Or.inl (hw _ (List.mem_of_getElem? (i := 17) rfl))) (Or.inl (hw _ (List.mem_of_getElem? (i := 30) rfl))) (by decide) (t := .int) (t' := (.array .long)) (by decide) (by decide)))
    replace Fs := Fs.other W10 (Or.inr (slot_ne (Or.inl (hw _ (List.mem_of_getElem? (i := 19) rfl))) (Or.inl (hw _ (List.mem_of_getElem? (i := 30) rfl))) (by decide) (t := .boolean) (t' := (.array .long)) (by decide) (by decide)))
    replace Av := Av.other W10 ne_w_a
    replace Aq9 := Aq9.other W10 (Ne.symm ne_a_c9)
    have Z10 : n0 ≤ h10.size := Nat.le_trans Z9 (Keep.of_wr W10).1
    have Kp10 : Keep h0 h10 [a] := Kp9.wr W10 (Or.inl (List.mem_of_getElem? (i := 0) rfl))
    have F_words_a := Fw10
    have N10 := Fr.snoc X10 N9 g_a
    refine own_go (A := T10.setTop (mkF m 33 #[.val (.ref a), .val (.int (2 : Int32)), .val (.int (2 : Int32))] [])) (fun _ kz => st10 _ kz) ?_
    refine own_go (A := T10.setTop (mkF m 35 #[.val (.ref a), .val (.int (2 : Int32)), .val (.int (2 : Int32))] [(.int (0 : Int32)), (.ref a)])) (fun _ kz => ?_) ?_
    · show Steps p.tables e below (T10.setTop (mkF m 33 #[.val (.ref a), .val (.int (2 : Int32)), .val (.int (2 : Int32))] [])) _
      refine XS.aloadN X10.here hx rfl (hb hby d9_33) rfl rfl ?_
      show Steps p.tables e below (T10.setTop (mkF m 34 #[.val (.ref a), .val (.int (2 : Int32)), .val (.int (2 : Int32))] [(.ref a)])) _
      refine XS.iconst X10.here hx rfl (hb hby d9_34) ?_
      exact kz
    obtain ⟨T11, h11, X11, e11, W11, st11⟩ := putFN X10 hx hZ hown (hw _ (List.mem_of_getElem? (i := 18) rfl)) Via.refl e10 Fs Ex (Or.inl (hw _ (List.mem_of_getElem? (i := 19) rfl))) (hw _ (List.mem_of_getElem? (i := 10) rfl)) (ty := .boolean) (v' := (.int (0 : Int32))) (by decide) rfl (by first | exact fits_nar_bool _ | decide) (g := (mkF m 35 #[.val (.ref a), .val (.int (2 : Int32)), .val (.int (2 : Int32))] [(.int (0 : Int32)), (.ref a)])) rfl rfl (hb hby d9_35)
    have Fw11 := Fs.same W11
    replace Ex := Ex.wr W11
    replace F_words_a := F_words_a.other W11 (Or.inr (slot_ne (Or.inl (hw _ (List.mem_of_getElem? (i := 30) rfl))) (Or.inl (hw _ (List.mem_of_getElem? (i := 19) rfl))) (by decide) (t := (.array .long)) (t' := .boolean) (by decide) (by decide)))
    replace Fu := Fu.other W11 (Or.inr (slot_ne (Or.inl (hw _ (List.mem_of_getElem? (i := 17) rfl))) (Or.inl (hw _ (List.mem_of_getElem? (i := 19) rfl))) (by decide) (t := .int) (t' := .boolean) (by decide) (by decide)))
    replace Av := Av.other W11 ne_w_a
    replace Aq9 := Aq9.other W11 (Ne.symm ne_a_c9)
    have Z11 : n0 ≤ h11.size := Nat.le_trans Z10 (Keep.of_wr W11).1
    have Kp11 : Keep h0 h11 [a] := Kp10.wr W11 (Or.inl (List.mem_of_getElem? (i := 0) rfl))
    have F_sizeIsSticky_a := Fw11
    have N11 := Fr.snoc X11 N10 g_a
    refine own_go (A := T11.setTop (mkF m 38 #[.val (.ref a), .val (.int (2 : Int32)), .val (.int (2 : Int32))] [])) (fun _ kz => st11 _ kz) ?_
    obtain ⟨fs, hrr, hrun, hended, hW, hsame⟩ := X11.leave (v := none) (fun _ => rfl)
    refine ⟨_, _, ?_, hrun, hended, _, _, rfl, ?_, ⟨_, rfl⟩, hW, hsame.mono (by decide) (by decide)⟩
    · show Steps p.tables e below (T11.setTop (mkF m 38 #[.val (.ref a), .val (.int (2 : Int32)), .val (.int (2 : Int32))] [])) _
      exact X11.returnOut hx Bd.returns (hb hby d9_38) hrr
    · show QrmEC Z a (2 : Int32) w (1 : Int32) u f h0 n0 _ T11.heap _
      rw [e11]
      exact ⟨c9, kd9, (0 : Int32), rfl, N11, g_c9, Or.inr szk_c9, Kp11, Ex, F_words_a, Fu, F_sizeIsSticky_a, Aq9⟩
  · skip
    refine own_go (A := s₁.setTop (mkF m 1 #[.val (.ref a), .val (.int (3 : Int32)), .unset] [(.ref a)])) (fun _ kz => ?_) ?_
    · show Steps p.tables e below (s₁.setTop (mkF m 0 #[.val (.ref a), .val (.int (3 : Int32)), .unset] [])) _
      refine XS.aloadN X0.here hx rfl (hb hby d9_0) rfl rfl ?_
      exact kz
    obtain ⟨T12, X12, e12, st12⟩ := getF X0 hx hZ hown (host := "") (Or.inl (hw _ (List.mem_of_getElem? (i := 29) rfl))) Via.refl e0 Fw (g := (mkF m 1 #[.val (.ref a), .val (.int (3 : Int32)), .unset] [(.ref a)])) rfl rfl (hb hby d9_1)
    refine own_go (A := T12.setTop (mkF m 4 #[.val (.ref a), .val (.int (3 : Int32)), .unset] [(.ref w)])) (fun _ kz => st12 _ kz) ?_
    obtain ⟨cl13, Ar13, -, S13, M13, -, -⟩ := id Av
    refine own_go (A := T12.setTop (mkF m 5 #[.val (.ref a), .val (.int (3 : Int32)), .unset] [(.int (1 : Int32))])) (fun _ kz => ?_) ?_
    · refine X12.arraylength hx (by rw [e12]; exact Ar13.1) (State.isArrayOf_alike hZ.alike Ar13.2.1) (g := (mkF m 4 #[.val (.ref a), .val (.int (3 : Int32)), .unset] [(.ref w)])) rfl rfl (hb hby d9_4) _ ?_
      rw [len_of S13 M13]
      exact kz
    refine own_go (A := T12.setTop (mkF m 11 #[.val (.ref a), .val (.int (3 : Int32)), .unset] [(.ref a), (.int (2 : Int32))])) (fun _ kz => ?_) ?_
    · show Steps p.tables e below (T12.setTop (mkF m 5 #[.val (.ref a), .val (.int (3 : Int32)), .unset] [(.int (1 : Int32))])) _
      refine XS.iloadN X12.here hx rfl (hb hby d9_5) rfl ?_
      show Steps p.tables e below (T12.setTop (mkF m 6 #[.val (.ref a), .val (.int (3 : Int32)), .unset] [(.int (3 : Int32)), (.int (1 : Int32))])) _
      refine XS.icmpNo X12.here hx rfl (hb hby d9_6) rfl (tlt (by decide : ((1 : Int32) < (3 : Int32)))).2.1 ?_
      show Steps p.tables e below (T12.setTop (mkF m 9 #[.val (.ref a), .val (.int (3 : Int32)), .unset] [])) _
      refine XS.iconst X12.here hx rfl (hb hby d9_9) ?_
      show Steps p.tables e below (T12.setTop (mkF m 10 #[.val (.ref a), .val (.int (3 : Int32)), .unset] [(.int (2 : Int32))])) _
      refine XS.aloadN X12.here hx rfl (hb hby d9_10) rfl rfl ?_
      exact kz
    obtain ⟨T14, X14, e14, st14⟩ := getF X12 hx hZ hown (host := "") (Or.inl (hw _ (List.mem_of_getElem? (i := 29) rfl))) Via.refl e12 Fw (g := (mkF m 11 #[.val (.ref a), .val (.int (3 : Int32)), .unset] [(.ref a), (.int (2 : Int32))])) rfl rfl (hb hby d9_11)
    refine own_go (A := T14.setTop (mkF m 14 #[.val (.ref a), .val (.int (3 : Int32)), .unset] [(.ref w), (.int (2 : Int32))])) (fun _ kz => st14 _ kz) ?_
    obtain ⟨cl15, Ar15, -, S15, M15, -, -⟩ := id Av
    refine own_go (A := T14.setTop (mkF m 15 #[.val (.ref a), .val (.int (3 : Int32)), .unset] [(.int (1 : Int32)), (.int (2 : Int32))])) (fun _ kz => ?_) ?_
    · refine X14.arraylength hx (by rw [e14]; exact Ar15.1) (State.isArrayOf_alike hZ.alike Ar15.2.1) (g := (mkF m 14 #[.val (.ref a), .val (.int (3 : Int32)), .unset] [(.ref w), (.int (2 : Int32))])) rfl rfl (hb hby d9_14) _ ?_
      rw [len_of S15 M15]
      exact kz
    refine own_go (A := T14.setTop (mkF m 17 #[.val (.ref a), .val (.int (3 : Int32)), .unset] [(.int (3 : Int32)), (.int (2 : Int32))])) (fun _ kz => ?_) ?_
    · show Steps p.tables e below (T14.setTop (mkF m 15 #[.val (.ref a), .val (.int (3 : Int32)), .unset] [(.int (1 : Int32)), (.int (2 : Int32))])) _
      refine XS.imul X14.here hx rfl (hb hby d9_15) rfl ?_
      show Steps p.tables e below (T14.setTop (mkF m 16 #[.val (.ref a), .val (.int (3 : Int32)), .unset] [(.int (2 : Int32))])) _
      refine XS.iloadN X14.here hx rfl (hb hby d9_16) rfl ?_
      exact kz
    obtain ⟨_, _, ⟨T16, L16, k16, n16⟩, -, X16, ⟨Lc16, hQ16, l16, y16, z16⟩, st16⟩ := Jvm.LawKit.callS X14 hx (y := (⟨"java/lang/Math", "max", "(II)I"⟩ : MethodName)) hown (mvT hZ (hw _ (List.mem_of_getElem? (i := 102) rfl))) (mvT hZ (hw _ (List.mem_of_getElem? (i := 103) rfl))) (mvT hZ (hw _ (List.mem_of_getElem? (i := 104) rfl))) (mvT hZ (hw _ (List.mem_of_getElem? (i := 105) rfl))) (by decide) (backOf (W := 0) (rmmax l Z a0 hw [] (2 : Int32) (3 : Int32) (3 : Int32) h0 n0 Z0 (by decide)) hZ (hw _ (List.mem_of_getElem? (i := 105) rfl)) (hw _ (List.mem_of_getElem? (i := 104) rfl)) (by decide) (by decide)) (g := (mkF m 17 #[.val (.ref a), .val (.int (3 : Int32)), .unset] [(.int (3 : Int32)), (.int (2 : Int32))])) rfl (by rw [hml]; rfl) (argsL := [(.int (2 : Int32)), (.int (3 : Int32))]) (rest := []) (lenOf own_pd0 rfl) rfl (by show 2 * 0 + _ ≤ _; exact Nat.le_of_eq rfl) (hb hby d9_17) (fun _ _ => ⟨rfl, e14, (by decide : 0 + 0 ≤ _), (by decide : 0 + 0 ≤ _)⟩)
    dsimp only [Pt.U, Pt.locs, Pt.cells, Pt.slots] at X16 l16 y16 z16 st16 hQ16
    subst l16 y16 z16
    obtain ⟨rfl, N16q, e16⟩ := hQ16
    have N16 := Fr.app N0 N16q
    refine own_go (A := T16.setTop (mkF m 20 #[.val (.ref a), .val (.int (3 : Int32)), .unset] [(.int (3 : Int32))])) (fun _ kz => st16 _ kz) ?_
    refine own_go (A := T16.setTop (mkF m 23 #[.val (.ref a), .val (.int (3 : Int32)), .val (.int (3 : Int32))] [(.ref a), (.ref a)])) (fun _ kz => ?_) ?_
    · show Steps p.tables e below (T16.setTop (mkF m 20 #[.val (.ref a), .val (.int (3 : Int32)), .unset] [(.int (3 : Int32))])) _
      refine XS.istoreN X16.here hx rfl (hb hby d9_20) rfl (l' := #[.val (.ref a), .val (.int (3 : Int32)), .val (.int (3 : Int32))]) rfl ?_
      show Steps p.tables e below (T16.setTop (mkF m 21 #[.val (.ref a), .val (.int (3 : Int32)), .val (.int (3 : Int32))] [])) _
      refine XS.aloadN X16.here hx rfl (hb hby d9_21) rfl rfl ?_
      show Steps p.tables e below (T16.setTop (mkF m 22 #[.val (.ref a), .val (.int (3 : Int32)), .val (.int (3 : Int32))] [(.ref a)])) _
      refine XS.aloadN X16.here hx rfl (hb hby d9_22) rfl rfl ?_
      exact kz
    obtain ⟨T17, X17, e17, st17⟩ := getF X16 hx hZ hown (host := "") (Or.inl (hw _ (List.mem_of_getElem? (i := 29) rfl))) Via.refl e16 Fw (g := (mkF m 23 #[.val (.ref a), .val (.int (3 : Int32)), .val (.int (3 : Int32))] [(.ref a), (.ref a)])) rfl rfl (hb hby d9_23)
    refine own_go (A := T17.setTop (mkF m 26 #[.val (.ref a), .val (.int (3 : Int32)), .val (.int (3 : Int32))] [(.ref w), (.ref a)])) (fun _ kz => st17 _ kz) ?_
    refine own_go (A := T17.setTop (mkF m 27 #[.val (.ref a), .val (.int (3 : Int32)), .val (.int (3 : Int32))] [(.int (3 : Int32)), (.ref w), (.ref a)])) (fun _ kz => ?_) ?_
    · show Steps p.tables e below (T17.setTop (mkF m 26 #[.val (.ref a), .val (.int (3 : Int32)), .val (.int (3 : Int32))] [(.ref w), (.ref a)])) _
      refine XS.iloadN X17.here hx rfl (hb hby d9_26) rfl ?_
      exact kz
    obtain ⟨_, _, ⟨T18, L18, k18, n18⟩, -, X18, ⟨Lc18, hQ18, l18, y18, z18⟩, st18⟩ := Jvm.LawKit.callS X17 hx (y := (⟨"java/util/Arrays", "copyOf", "([JI)[J"⟩ : MethodName)) hown (mvT hZ (hw _ (List.mem_of_getElem? (i := 106) rfl))) (mvT hZ (hw _ (List.mem_of_getElem? (i := 107) rfl))) (mvT hZ (hw _ (List.mem_of_getElem? (i := 108) rfl))) (mvT hZ (hw _ (List.mem_of_getElem? (i := 109) rfl))) (by decide) (backOf (W := 1) (rmCopy l Z a0 hw [] w (3 : Int32) kc (1 : Int32) f h0 n0 Z0 (by decide) hz Av) hZ (hw _ (List.mem_of_getElem? (i := 109) rfl)) (hw _ (List.mem_of_getElem? (i := 108) rfl)) (by decide) (by decide)) (g := (mkF m 27 #[.val (.ref a), .val (.int (3 : Int32)), .val (.int (3 : Int32))] [(.int (3 : Int32)), (.ref w), (.ref a)])) rfl (by rw [hml]; rfl) (argsL := [(.ref w), (.int (3 : Int32))]) (rest := [(.ref a)]) (lenOf own_pd1 rfl) rfl (by show 2 * 0 + _ ≤ _; exact Nat.le_of_eq rfl) (hb hby d9_27) (fun _ _ => ⟨rfl, e17, (by decide : 0 + 1 ≤ _), (by decide : 0 + 6 ≤ _)⟩)
    dsimp only [Pt.U, Pt.locs, Pt.cells, Pt.slots] at X18 l18 y18 z18 st18 hQ18
    subst l18 y18 z18
    obtain ⟨c18, kd18, rfl, N18q, zc18, K18q, Aq18⟩ := hQ18
    have N18 := Fr.app N16 N18q
    have ne_a_c18 : a ≠ c18 := Nat.ne_of_lt (Nat.lt_of_lt_of_le Ex.lt zc18)
    have ne_w_c18 : w ≠ c18 := Nat.ne_of_lt (Nat.lt_of_lt_of_le Av.lt zc18)
    have g_c18 : n0 ≤ c18 := Nat.le_trans Z0 zc18
    have szk_c18 : h0.size ≤ c18 := Nat.le_trans Kp0.1 zc18
    replace Ex := Ex.keep K18q
    replace Fw := Fw.keep K18q nin0
    replace Fu := Fu.keep K18q nin0
    replace Fs := Fs.keep K18q nin0
    replace Av := Av.keep K18q nin0
    have Z18 : n0 ≤ T18.heap.size := Nat.le_trans Z0 K18q.1
    have Kp18 : Keep h0 T18.heap [a] := Kp0.trans K18q (all0)
    refine own_go (A := T18.setTop (mkF m 30 #[.val (.ref a), .val (.int (3 : Int32)), .val (.int (3 : Int32))] [(.ref c18), (.ref a)])) (fun _ kz => st18 _ kz) ?_
    obtain ⟨T19, h19, X19, e19, W19, st19⟩ := putF X18 hx hZ hown (host := "") (Or.inl (hw _ (List.mem_of_getElem? (i := 29) rfl))) Via.refl rfl Fw Ex (Or.inl (hw _ (List.mem_of_getElem? (i := 30) rfl))) (hw _ (List.mem_of_getElem? (i := 10) rfl)) (ty := (.array .long)) (by decide) rfl rfl (g := (mkF m 30 #[.val (.ref a), .val (.int (3 : Int32)), .val (.int (3 : Int32))] [(.ref c18), (.ref a)])) rfl rfl (hb hby d9_30)
    have Fw19 := Fw.same W19
    replace Ex := Ex.wr W19
    replace Fu := Fu.other W19 (Or.inr (slot_ne (Or.inl (hw _ (List.mem_of_getElem? (i := 17) rfl))) (Or.inl (hw _ (List.mem_of_getElem? (i := 30) rfl))) (by decide) (t := .int) (t' := (.array .long)) (by decide) (by decide)))
    replace Fs := Fs.other W19 (Or.inr (slot_ne (Or.inl (hw _ (List.mem_of_getElem? (i := 19) rfl))) (Or.inl (hw _ (List.mem_of_getElem? (i := 30) rfl))) (by decide) (t := .boolean) (t' := (.array .long)) (by decide) (by decide)))
    replace Av := Av.other W19 ne_w_a
    replace Aq18 := Aq18.other W19 (Ne.symm ne_a_c18)
    have Z19 : n0 ≤ h19.size := Nat.le_trans Z18 (Keep.of_wr W19).1
    have Kp19 : Keep h0 h19 [a] := Kp18.wr W19 (Or.inl (List.mem_of_getElem? (i := 0) rfl))
    have F_words_a := Fw19
    have N19 := Fr.snoc X19 N18 g_a
    refine own_go (A := T19.setTop (mkF m 33 #[.val (.ref a), .val (.int (3 : Int32)), .val (.int (3 : Int32))] [])) (fun _ kz => st19 _ kz) ?_
    refine own_go (A := T19.setTop (mkF m 35 #[.val (.ref a), .val (.int (3 : Int32)), .val (.int (3 : Int32))] [(.int (0 : Int32)), (.ref a)])) (fun _ kz => ?_) ?_
    · show Steps p.tables e below (T19.setTop (mkF m 33 #[.val (.ref a), .val (.int (3 : Int32)), .val (.int (3 : Int32))] [])) _
      refine XS.aloadN X19.here hx rfl (hb hby d9_33) rfl rfl ?_
      show Steps p.tables e below (T19.setTop (mkF m 34 #[.val (.ref a), .val (.int (3 : Int32)), .val (.int (3 : Int32))] [(.ref a)])) _
      refine XS.iconst X19.here hx rfl (hb hby d9_34) ?_
      exact kz
    obtain ⟨T20, h20, X20, e20, W20, st20⟩ := putFN X19 hx hZ hown (hw _ (List.mem_of_getElem? (i := 18) rfl)) Via.refl e19 Fs Ex (Or.inl (hw _ (List.mem_of_getElem? (i := 19) rfl))) (hw _ (List.mem_of_getElem? (i := 10) rfl)) (ty := .boolean) (v' := (.int (0 : Int32))) (by decide) rfl (by first | exact fits_nar_bool _ | decide) (g := (mkF m 35 #[.val (.ref a), .val (.int (3 : Int32)), .val (.int (3 : Int32))] [(.int (0 : Int32)), (.ref a)])) rfl rfl (hb hby d9_35)
    have Fw20 := Fs.same W20
    replace Ex := Ex.wr W20
    replace F_words_a := F_words_a.other W20 (Or.inr (slot_ne (Or.inl (hw _ (List.mem_of_getElem? (i := 30) rfl))) (Or.inl (hw _ (List.mem_of_getElem? (i := 19) rfl))) (by decide) (t := (.array .long)) (t' := .boolean) (by decide) (by decide)))
    replace Fu := Fu.other W20 (Or.inr (slot_ne (Or.inl (hw _ (List.mem_of_getElem? (i := 17) rfl))) (Or.inl (hw _ (List.mem_of_getElem? (i := 19) rfl))) (by decide) (t := .int) (t' := .boolean) (by decide) (by decide)))
    replace Av := Av.other W20 ne_w_a
    replace Aq18 := Aq18.other W20 (Ne.symm ne_a_c18)
    have Z20 : n0 ≤ h20.size := Nat.le_trans Z19 (Keep.of_wr W20).1
    have Kp20 : Keep h0 h20 [a] := Kp19.wr W20 (Or.inl (List.mem_of_getElem? (i := 0) rfl))
    have F_sizeIsSticky_a := Fw20
    have N20 := Fr.snoc X20 N19 g_a
    refine own_go (A := T20.setTop (mkF m 38 #[.val (.ref a), .val (.int (3 : Int32)), .val (.int (3 : Int32))] [])) (fun _ kz => st20 _ kz) ?_
    obtain ⟨fs, hrr, hrun, hended, hW, hsame⟩ := X20.leave (v := none) (fun _ => rfl)
    refine ⟨_, _, ?_, hrun, hended, _, _, rfl, ?_, ⟨_, rfl⟩, hW, hsame.mono (by decide) (by decide)⟩
    · show Steps p.tables e below (T20.setTop (mkF m 38 #[.val (.ref a), .val (.int (3 : Int32)), .val (.int (3 : Int32))] [])) _
      exact X20.returnOut hx Bd.returns (hb hby d9_38) hrr
    · show QrmEC Z a (3 : Int32) w (1 : Int32) u f h0 n0 _ T20.heap _
      rw [e20]
      exact ⟨c18, kd18, (0 : Int32), rfl, N20, g_c18, Or.inr szk_c18, Kp20, Ex, F_words_a, Fu, F_sizeIsSticky_a, Aq18⟩
  · skip
    refine own_go (A := s₁.setTop (mkF m 1 #[.val (.ref a), .val (.int (4 : Int32)), .unset] [(.ref a)])) (fun _ kz => ?_) ?_
    · show Steps p.tables e below (s₁.setTop (mkF m 0 #[.val (.ref a), .val (.int (4 : Int32)), .unset] [])) _
      refine XS.aloadN X0.here hx rfl (hb hby d9_0) rfl rfl ?_
      exact kz
    obtain ⟨T21, X21, e21, st21⟩ := getF X0 hx hZ hown (host := "") (Or.inl (hw _ (List.mem_of_getElem? (i := 29) rfl))) Via.refl e0 Fw (g := (mkF m 1 #[.val (.ref a), .val (.int (4 : Int32)), .unset] [(.ref a)])) rfl rfl (hb hby d9_1)
    refine own_go (A := T21.setTop (mkF m 4 #[.val (.ref a), .val (.int (4 : Int32)), .unset] [(.ref w)])) (fun _ kz => st21 _ kz) ?_
    obtain ⟨cl22, Ar22, -, S22, M22, -, -⟩ := id Av
    refine own_go (A := T21.setTop (mkF m 5 #[.val (.ref a), .val (.int (4 : Int32)), .unset] [(.int (1 : Int32))])) (fun _ kz => ?_) ?_
    · refine X21.arraylength hx (by rw [e21]; exact Ar22.1) (State.isArrayOf_alike hZ.alike Ar22.2.1) (g := (mkF m 4 #[.val (.ref a), .val (.int (4 : Int32)), .unset] [(.ref w)])) rfl rfl (hb hby d9_4) _ ?_
      rw [len_of S22 M22]
      exact kz
    refine own_go (A := T21.setTop (mkF m 11 #[.val (.ref a), .val (.int (4 : Int32)), .unset] [(.ref a), (.int (2 : Int32))])) (fun _ kz => ?_) ?_
    · show Steps p.tables e below (T21.setTop (mkF m 5 #[.val (.ref a), .val (.int (4 : Int32)), .unset] [(.int (1 : Int32))])) _
      refine XS.iloadN X21.here hx rfl (hb hby d9_5) rfl ?_
      show Steps p.tables e below (T21.setTop (mkF m 6 #[.val (.ref a), .val (.int (4 : Int32)), .unset] [(.int (4 : Int32)), (.int (1 : Int32))])) _
      refine XS.icmpNo X21.here hx rfl (hb hby d9_6) rfl (tlt (by decide : ((1 : Int32) < (4 : Int32)))).2.1 ?_
      show Steps p.tables e below (T21.setTop (mkF m 9 #[.val (.ref a), .val (.int (4 : Int32)), .unset] [])) _
      refine XS.iconst X21.here hx rfl (hb hby d9_9) ?_
      show Steps p.tables e below (T21.setTop (mkF m 10 #[.val (.ref a), .val (.int (4 : Int32)), .unset] [(.int (2 : Int32))])) _
      refine XS.aloadN X21.here hx rfl (hb hby d9_10) rfl rfl ?_
      exact kz
    obtain ⟨T23, X23, e23, st23⟩ := getF X21 hx hZ hown (host := "") (Or.inl (hw _ (List.mem_of_getElem? (i := 29) rfl))) Via.refl e21 Fw (g := (mkF m 11 #[.val (.ref a), .val (.int (4 : Int32)), .unset] [(.ref a), (.int (2 : Int32))])) rfl rfl (hb hby d9_11)
    refine own_go (A := T23.setTop (mkF m 14 #[.val (.ref a), .val (.int (4 : Int32)), .unset] [(.ref w), (.int (2 : Int32))])) (fun _ kz => st23 _ kz) ?_
    obtain ⟨cl24, Ar24, -, S24, M24, -, -⟩ := id Av
    refine own_go (A := T23.setTop (mkF m 15 #[.val (.ref a), .val (.int (4 : Int32)), .unset] [(.int (1 : Int32)), (.int (2 : Int32))])) (fun _ kz => ?_) ?_
    · refine X23.arraylength hx (by rw [e23]; exact Ar24.1) (State.isArrayOf_alike hZ.alike Ar24.2.1) (g := (mkF m 14 #[.val (.ref a), .val (.int (4 : Int32)), .unset] [(.ref w), (.int (2 : Int32))])) rfl rfl (hb hby d9_14) _ ?_
      rw [len_of S24 M24]
      exact kz
    refine own_go (A := T23.setTop (mkF m 17 #[.val (.ref a), .val (.int (4 : Int32)), .unset] [(.int (4 : Int32)), (.int (2 : Int32))])) (fun _ kz => ?_) ?_
    · show Steps p.tables e below (T23.setTop (mkF m 15 #[.val (.ref a), .val (.int (4 : Int32)), .unset] [(.int (1 : Int32)), (.int (2 : Int32))])) _
      refine XS.imul X23.here hx rfl (hb hby d9_15) rfl ?_
      show Steps p.tables e below (T23.setTop (mkF m 16 #[.val (.ref a), .val (.int (4 : Int32)), .unset] [(.int (2 : Int32))])) _
      refine XS.iloadN X23.here hx rfl (hb hby d9_16) rfl ?_
      exact kz
    obtain ⟨_, _, ⟨T25, L25, k25, n25⟩, -, X25, ⟨Lc25, hQ25, l25, y25, z25⟩, st25⟩ := Jvm.LawKit.callS X23 hx (y := (⟨"java/lang/Math", "max", "(II)I"⟩ : MethodName)) hown (mvT hZ (hw _ (List.mem_of_getElem? (i := 102) rfl))) (mvT hZ (hw _ (List.mem_of_getElem? (i := 103) rfl))) (mvT hZ (hw _ (List.mem_of_getElem? (i := 104) rfl))) (mvT hZ (hw _ (List.mem_of_getElem? (i := 105) rfl))) (by decide) (backOf (W := 0) (rmmax l Z a0 hw [] (2 : Int32) (4 : Int32) (4 : Int32) h0 n0 Z0 (by decide)) hZ (hw _ (List.mem_of_getElem? (i := 105) rfl)) (hw _ (List.mem_of_getElem? (i := 104) rfl)) (by decide) (by decide)) (g := (mkF m 17 #[.val (.ref a), .val (.int (4 : Int32)), .unset] [(.int (4 : Int32)), (.int (2 : Int32))])) rfl (by rw [hml]; rfl) (argsL := [(.int (2 : Int32)), (.int (4 : Int32))]) (rest := []) (lenOf own_pd0 rfl) rfl (by show 2 * 0 + _ ≤ _; exact Nat.le_of_eq rfl) (hb hby d9_17) (fun _ _ => ⟨rfl, e23, (by decide : 0 + 0 ≤ _), (by decide : 0 + 0 ≤ _)⟩)
    dsimp only [Pt.U, Pt.locs, Pt.cells, Pt.slots] at X25 l25 y25 z25 st25 hQ25
    subst l25 y25 z25
    obtain ⟨rfl, N25q, e25⟩ := hQ25
    have N25 := Fr.app N0 N25q
    refine own_go (A := T25.setTop (mkF m 20 #[.val (.ref a), .val (.int (4 : Int32)), .unset] [(.int (4 : Int32))])) (fun _ kz => st25 _ kz) ?_
    refine own_go (A := T25.setTop (mkF m 23 #[.val (.ref a), .val (.int (4 : Int32)), .val (.int (4 : Int32))] [(.ref a), (.ref a)])) (fun _ kz => ?_) ?_
    · show Steps p.tables e below (T25.setTop (mkF m 20 #[.val (.ref a), .val (.int (4 : Int32)), .unset] [(.int (4 : Int32))])) _
      refine XS.istoreN X25.here hx rfl (hb hby d9_20) rfl (l' := #[.val (.ref a), .val (.int (4 : Int32)), .val (.int (4 : Int32))]) rfl ?_
      show Steps p.tables e below (T25.setTop (mkF m 21 #[.val (.ref a), .val (.int (4 : Int32)), .val (.int (4 : Int32))] [])) _
      refine XS.aloadN X25.here hx rfl (hb hby d9_21) rfl rfl ?_
      show Steps p.tables e below (T25.setTop (mkF m 22 #[.val (.ref a), .val (.int (4 : Int32)), .val (.int (4 : Int32))] [(.ref a)])) _
      refine XS.aloadN X25.here hx rfl (hb hby d9_22) rfl rfl ?_
      exact kz
    obtain ⟨T26, X26, e26, st26⟩ := getF X25 hx hZ hown (host := "") (Or.inl (hw _ (List.mem_of_getElem? (i := 29) rfl))) Via.refl e25 Fw (g := (mkF m 23 #[.val (.ref a), .val (.int (4 : Int32)), .val (.int (4 : Int32))] [(.ref a), (.ref a)])) rfl rfl (hb hby d9_23)
    refine own_go (A := T26.setTop (mkF m 26 #[.val (.ref a), .val (.int (4 : Int32)), .val (.int (4 : Int32))] [(.ref w), (.ref a)])) (fun _ kz => st26 _ kz) ?_
    refine own_go (A := T26.setTop (mkF m 27 #[.val (.ref a), .val (.int (4 : Int32)), .val (.int (4 : Int32))] [(.int (4 : Int32)), (.ref w), (.ref a)])) (fun _ kz => ?_) ?_
    · show Steps p.tables e below (T26.setTop (mkF m 26 #[.val (.ref a), .val (.int (4 : Int32)), .val (.int (4 : Int32))] [(.ref w), (.ref a)])) _
      refine XS.iloadN X26.here hx rfl (hb hby d9_26) rfl ?_
      exact kz
    obtain ⟨_, _, ⟨T27, L27, k27, n27⟩, -, X27, ⟨Lc27, hQ27, l27, y27, z27⟩, st27⟩ := Jvm.LawKit.callS X26 hx (y := (⟨"java/util/Arrays", "copyOf", "([JI)[J"⟩ : MethodName)) hown (mvT hZ (hw _ (List.mem_of_getElem? (i := 106) rfl))) (mvT hZ (hw _ (List.mem_of_getElem? (i := 107) rfl))) (mvT hZ (hw _ (List.mem_of_getElem? (i := 108) rfl))) (mvT hZ (hw _ (List.mem_of_getElem? (i := 109) rfl))) (by decide) (backOf (W := 1) (rmCopy l Z a0 hw [] w (4 : Int32) kc (1 : Int32) f h0 n0 Z0 (by decide) hz Av) hZ (hw _ (List.mem_of_getElem? (i := 109) rfl)) (hw _ (List.mem_of_getElem? (i := 108) rfl)) (by decide) (by decide)) (g := (mkF m 27 #[.val (.ref a), .val (.int (4 : Int32)), .val (.int (4 : Int32))] [(.int (4 : Int32)), (.ref w), (.ref a)])) rfl (by rw [hml]; rfl) (argsL := [(.ref w), (.int (4 : Int32))]) (rest := [(.ref a)]) (lenOf own_pd1 rfl) rfl (by show 2 * 0 + _ ≤ _; exact Nat.le_of_eq rfl) (hb hby d9_27) (fun _ _ => ⟨rfl, e26, (by decide : 0 + 1 ≤ _), (by decide : 0 + 6 ≤ _)⟩)
    dsimp only [Pt.U, Pt.locs, Pt.cells, Pt.slots] at X27 l27 y27 z27 st27 hQ27
    subst l27 y27 z27
    obtain ⟨c27, kd27, rfl, N27q, zc27, K27q, Aq27⟩ := hQ27
    have N27 := Fr.app N25 N27q
    have ne_a_c27 : a ≠ c27 := Nat.ne_of_lt (Nat.lt_of_lt_of_le Ex.lt zc27)
    have ne_w_c27 : w ≠ c27 := Nat.ne_of_lt (Nat.lt_of_lt_of_le Av.lt zc27)
    have g_c27 : n0 ≤ c27 := Nat.le_trans Z0 zc27
    have szk_c27 : h0.size ≤ c27 := Nat.le_trans Kp0.1 zc27
    replace Ex := Ex.keep K27q
    replace Fw := Fw.keep K27q nin0
    replace Fu := Fu.keep K27q nin0
    replace Fs := Fs.keep K27q nin0
    replace Av := Av.keep K27q nin0
    have Z27 : n0 ≤ T27.heap.size := Nat.le_trans Z0 K27q.1
    have Kp27 : Keep h0 T27.heap [a] := Kp0.trans K27q (all0)
    refine own_go (A := T27.setTop (mkF m 30 #[.val (.ref a), .val (.int (4 : Int32)), .val (.int (4 : Int32))] [(.ref c27), (.ref a)])) (fun _ kz => st27 _ kz) ?_
    obtain ⟨T28, h28, X28, e28, W28, st28⟩ := putF X27 hx hZ hown (host := "") (Or.inl (hw _ (List.mem_of_getElem? (i := 29) rfl))) Via.refl rfl Fw Ex (Or.inl (hw _ (List.mem_of_getElem? (i := 30) rfl))) (hw _ (List.mem_of_getElem? (i := 10) rfl)) (ty := (.array .long)) (by decide) rfl rfl (g := (mkF m 30 #[.val (.ref a), .val (.int (4 : Int32)), .val (.int (4 : Int32))] [(.ref c27), (.ref a)])) rfl rfl (hb hby d9_30)
    have Fw28 := Fw.same W28
    replace Ex := Ex.wr W28
    replace Fu := Fu.other W28 (Or.inr (slot_ne (Or.inl (hw _ (List.mem_of_getElem? (i := 17) rfl))) (Or.inl (hw _ (List.mem_of_getElem? (i := 30) rfl))) (by decide) (t := .int) (t' := (.array .long)) (by decide) (by decide)))
    replace Fs := Fs.other W28 (Or.inr (slot_ne (Or.inl (hw _ (List.mem_of_getElem? (i := 19) rfl))) (Or.inl (hw _ (List.mem_of_getElem? (i := 30) rfl))) (by decide) (t := .boolean) (t' := (.array .long)) (by decide) (by decide)))
    replace Av := Av.other W28 ne_w_a
    replace Aq27 := Aq27.other W28 (Ne.symm ne_a_c27)
    have Z28 : n0 ≤ h28.size := Nat.le_trans Z27 (Keep.of_wr W28).1
    have Kp28 : Keep h0 h28 [a] := Kp27.wr W28 (Or.inl (List.mem_of_getElem? (i := 0) rfl))
    have F_words_a := Fw28
    have N28 := Fr.snoc X28 N27 g_a
    refine own_go (A := T28.setTop (mkF m 33 #[.val (.ref a), .val (.int (4 : Int32)), .val (.int (4 : Int32))] [])) (fun _ kz => st28 _ kz) ?_
    refine own_go (A := T28.setTop (mkF m 35 #[.val (.ref a), .val (.int (4 : Int32)), .val (.int (4 : Int32))] [(.int (0 : Int32)), (.ref a)])) (fun _ kz => ?_) ?_
    · show Steps p.tables e below (T28.setTop (mkF m 33 #[.val (.ref a), .val (.int (4 : Int32)), .val (.int (4 : Int32))] [])) _
      refine XS.aloadN X28.here hx rfl (hb hby d9_33) rfl rfl ?_
      show Steps p.tables e below (T28.setTop (mkF m 34 #[.val (.ref a), .val (.int (4 : Int32)), .val (.int (4 : Int32))] [(.ref a)])) _
      refine XS.iconst X28.here hx rfl (hb hby d9_34) ?_
      exact kz
    obtain ⟨T29, h29, X29, e29, W29, st29⟩ := putFN X28 hx hZ hown (hw _ (List.mem_of_getElem? (i := 18) rfl)) Via.refl e28 Fs Ex (Or.inl (hw _ (List.mem_of_getElem? (i := 19) rfl))) (hw _ (List.mem_of_getElem? (i := 10) rfl)) (ty := .boolean) (v' := (.int (0 : Int32))) (by decide) rfl (by first | exact fits_nar_bool _ | decide) (g := (mkF m 35 #[.val (.ref a), .val (.int (4 : Int32)), .val (.int (4 : Int32))] [(.int (0 : Int32)), (.ref a)])) rfl rfl (hb hby d9_35)
    have Fw29 := Fs.same W29
    replace Ex := Ex.wr W29
    replace F_words_a := F_words_a.other W29 (Or.inr (slot_ne (Or.inl (hw _ (List.mem_of_getElem? (i := 30) rfl))) (Or.inl (hw _ (List.mem_of_getElem? (i := 19) rfl))) (by decide) (t := (.array .long)) (t' := .boolean) (by decide) (by decide)))
    replace Fu := Fu.other W29 (Or.inr (slot_ne (Or.inl (hw _ (List.mem_of_getElem? (i := 17) rfl))) (Or.inl (hw _ (List.mem_of_getElem? (i := 19) rfl))) (by decide) (t := .int) (t' := .boolean) (by decide) (by decide)))
    replace Av := Av.other W29 ne_w_a
    replace Aq27 := Aq27.other W29 (Ne.symm ne_a_c27)
    have Z29 : n0 ≤ h29.size := Nat.le_trans Z28 (Keep.of_wr W29).1
    have Kp29 : Keep h0 h29 [a] := Kp28.wr W29 (Or.inl (List.mem_of_getElem? (i := 0) rfl))
    have F_sizeIsSticky_a := Fw29
    have N29 := Fr.snoc X29 N28 g_a
    refine own_go (A := T29.setTop (mkF m 38 #[.val (.ref a), .val (.int (4 : Int32)), .val (.int (4 : Int32))] [])) (fun _ kz => st29 _ kz) ?_
    obtain ⟨fs, hrr, hrun, hended, hW, hsame⟩ := X29.leave (v := none) (fun _ => rfl)
    refine ⟨_, _, ?_, hrun, hended, _, _, rfl, ?_, ⟨_, rfl⟩, hW, hsame.mono (by decide) (by decide)⟩
    · show Steps p.tables e below (T29.setTop (mkF m 38 #[.val (.ref a), .val (.int (4 : Int32)), .val (.int (4 : Int32))] [])) _
      exact X29.returnOut hx Bd.returns (hb hby d9_38) hrr
    · show QrmEC Z a (4 : Int32) w (1 : Int32) u f h0 n0 _ T29.heap _
      rw [e29]
      exact ⟨c27, kd27, (0 : Int32), rfl, N29, g_c27, Or.inr szk_c27, Kp29, Ex, F_words_a, Fu, F_sizeIsSticky_a, Aq27⟩
  · skip
    refine own_go (A := s₁.setTop (mkF m 1 #[.val (.ref a), .val (.int (1 : Int32)), .unset] [(.ref a)])) (fun _ kz => ?_) ?_
    · show Steps p.tables e below (s₁.setTop (mkF m 0 #[.val (.ref a), .val (.int (1 : Int32)), .unset] [])) _
      refine XS.aloadN X0.here hx rfl (hb hby d9_0) rfl rfl ?_
      exact kz
    obtain ⟨T30, X30, e30, st30⟩ := getF X0 hx hZ hown (host := "") (Or.inl (hw _ (List.mem_of_getElem? (i := 29) rfl))) Via.refl e0 Fw (g := (mkF m 1 #[.val (.ref a), .val (.int (1 : Int32)), .unset] [(.ref a)])) rfl rfl (hb hby d9_1)
    refine own_go (A := T30.setTop (mkF m 4 #[.val (.ref a), .val (.int (1 : Int32)), .unset] [(.ref w)])) (fun _ kz => st30 _ kz) ?_
    obtain ⟨cl31, Ar31, -, S31, M31, -, -⟩ := id Av
    refine own_go (A := T30.setTop (mkF m 5 #[.val (.ref a), .val (.int (1 : Int32)), .unset] [(.int (2 : Int32))])) (fun _ kz => ?_) ?_
    · refine X30.arraylength hx (by rw [e30]; exact Ar31.1) (State.isArrayOf_alike hZ.alike Ar31.2.1) (g := (mkF m 4 #[.val (.ref a), .val (.int (1 : Int32)), .unset] [(.ref w)])) rfl rfl (hb hby d9_4) _ ?_
      rw [len_of S31 M31]
      exact kz
    refine own_go (A := T30.setTop (mkF m 38 #[.val (.ref a), .val (.int (1 : Int32)), .unset] [])) (fun _ kz => ?_) ?_
    · show Steps p.tables e below (T30.setTop (mkF m 5 #[.val (.ref a), .val (.int (1 : Int32)), .unset] [(.int (2 : Int32))])) _
      refine XS.iloadN X30.here hx rfl (hb hby d9_5) rfl ?_
      show Steps p.tables e below (T30.setTop (mkF m 6 #[.val (.ref a), .val (.int (1 : Int32)), .unset] [(.int (1 : Int32)), (.int (2 : Int32))])) _
      refine XS.icmpYes X30.here hx rfl (pc0 := 6) (pc' := 38) rfl (hb hby d9_6) rfl (flt (by decide : ¬ ((2 : Int32) < (1 : Int32)))).2.1 (by decide) (by decide) ?_
      exact kz
    obtain ⟨fs, hrr, hrun, hended, hW, hsame⟩ := X30.leave (v := none) (fun _ => rfl)
    refine ⟨_, _, ?_, hrun, hended, _, _, rfl, ?_, ⟨_, rfl⟩, hW, hsame.mono (by decide) (by decide)⟩
    · show Steps p.tables e below (T30.setTop (mkF m 38 #[.val (.ref a), .val (.int (1 : Int32)), .unset] [])) _
      exact X30.returnOut hx Bd.returns (hb hby d9_38) hrr
    · show QrmEC Z a (1 : Int32) w (2 : Int32) u f h0 n0 _ T30.heap _
      rw [e30]
      exact ⟨w, kc, s_, rfl, N0, g_w, Or.inl rfl, Kp0, Ex, Fw, Fu, Fs, Av⟩
  · skip
    refine own_go (A := s₁.setTop (mkF m 1 #[.val (.ref a), .val (.int (2 : Int32)), .unset] [(.ref a)])) (fun _ kz => ?_) ?_
    · show Steps p.tables e below (s₁.setTop (mkF m 0 #[.val (.ref a), .val (.int (2 : Int32)), .unset] [])) _
      refine XS.aloadN X0.here hx rfl (hb hby d9_0) rfl rfl ?_
      exact kz
    obtain ⟨T32, X32, e32, st32⟩ := getF X0 hx hZ hown (host := "") (Or.inl (hw _ (List.mem_of_getElem? (i := 29) rfl))) Via.refl e0 Fw (g := (mkF m 1 #[.val (.ref a), .val (.int (2 : Int32)), .unset] [(.ref a)])) rfl rfl (hb hby d9_1)
    refine own_go (A := T32.setTop (mkF m 4 #[.val (.ref a), .val (.int (2 : Int32)), .unset] [(.ref w)])) (fun _ kz => st32 _ kz) ?_
    obtain ⟨cl33, Ar33, -, S33, M33, -, -⟩ := id Av
    refine own_go (A := T32.setTop (mkF m 5 #[.val (.ref a), .val (.int (2 : Int32)), .unset] [(.int (2 : Int32))])) (fun _ kz => ?_) ?_
    · refine X32.arraylength hx (by rw [e32]; exact Ar33.1) (State.isArrayOf_alike hZ.alike Ar33.2.1) (g := (mkF m 4 #[.val (.ref a), .val (.int (2 : Int32)), .unset] [(.ref w)])) rfl rfl (hb hby d9_4) _ ?_
      rw [len_of S33 M33]
      exact kz
    refine own_go (A := T32.setTop (mkF m 38 #[.val (.ref a), .val (.int (2 : Int32)), .unset] [])) (fun _ kz => ?_) ?_
    · show Steps p.tables e below (T32.setTop (mkF m 5 #[.val (.ref a), .val (.int (2 : Int32)), .unset] [(.int (2 : Int32))])) _
      refine XS.iloadN X32.here hx rfl (hb hby d9_5) rfl ?_
      show Steps p.tables e below (T32.setTop (mkF m 6 #[.val (.ref a), .val (.int (2 : Int32)), .unset] [(.int (2 : Int32)), (.int (2 : Int32))])) _
      refine XS.icmpYes X32.here hx rfl (pc0 := 6) (pc' := 38) rfl (hb hby d9_6) rfl (flt (by decide : ¬ ((2 : Int32) < (2 : Int32)))).2.1 (by decide) (by decide) ?_
      exact kz
    obtain ⟨fs, hrr, hrun, hended, hW, hsame⟩ := X32.leave (v := none) (fun _ => rfl)
    refine ⟨_, _, ?_, hrun, hended, _, _, rfl, ?_, ⟨_, rfl⟩, hW, hsame.mono (by decide) (by decide)⟩
    · show Steps p.tables e below (T32.setTop (mkF m 38 #[.val (.ref a), .val (.int (2 : Int32)), .unset] [])) _
      exact X32.returnOut hx Bd.returns (hb hby d9_38) hrr
    · show QrmEC Z a (2 : Int32) w (2 : Int32) u f h0 n0 _ T32.heap _
      rw [e32]
      exact ⟨w, kc, s_, rfl, N0, g_w, Or.inl rfl, Kp0, Ex, Fw, Fu, Fs, Av⟩
  · skip
    refine own_go (A := s₁.setTop (mkF m 1 #[.val (.ref a), .val (.int (3 : Int32)), .unset] [(.ref a)])) (fun _ kz => ?_) ?_
    · show Steps p.tables e below (s₁.setTop (mkF m 0 #[.val (.ref a), .val (.int (3 : Int32)), .unset] [])) _
      refine XS.aloadN X0.here hx rfl (hb hby d9_0) rfl rfl ?_
      exact kz
    obtain ⟨T34, X34, e34, st34⟩ := getF X0 hx hZ hown (host := "") (Or.inl (hw _ (List.mem_of_getElem? (i := 29) rfl))) Via.refl e0 Fw (g := (mkF m 1 #[.val (.ref a), .val (.int (3 : Int32)), .unset] [(.ref a)])) rfl rfl (hb hby d9_1)
    refine own_go (A := T34.setTop (mkF m 4 #[.val (.ref a), .val (.int (3 : Int32)), .unset] [(.ref w)])) (fun _ kz => st34 _ kz) ?_
    obtain ⟨cl35, Ar35, -, S35, M35, -, -⟩ := id Av
    refine own_go (A := T34.setTop (mkF m 5 #[.val (.ref a), .val (.int (3 : Int32)), .unset] [(.int (2 : Int32))])) (fun _ kz => ?_) ?_
    · refine X34.arraylength hx (by rw [e34]; exact Ar35.1) (State.isArrayOf_alike hZ.alike Ar35.2.1) (g := (mkF m 4 #[.val (.ref a), .val (.int (3 : Int32)), .unset] [(.ref w)])) rfl rfl (hb hby d9_4) _ ?_
      rw [len_of S35 M35]
      exact kz
    refine own_go (A := T34.setTop (mkF m 11 #[.val (.ref a), .val (.int (3 : Int32)), .unset] [(.ref a), (.int (2 : Int32))])) (fun _ kz => ?_) ?_
    · show Steps p.tables e below (T34.setTop (mkF m 5 #[.val (.ref a), .val (.int (3 : Int32)), .unset] [(.int (2 : Int32))])) _
      refine XS.iloadN X34.here hx rfl (hb hby d9_5) rfl ?_
      show Steps p.tables e below (T34.setTop (mkF m 6 #[.val (.ref a), .val (.int (3 : Int32)), .unset] [(.int (3 : Int32)), (.int (2 : Int32))])) _
      refine XS.icmpNo X34.here hx rfl (hb hby d9_6) rfl (tlt (by decide : ((2 : Int32) < (3 : Int32)))).2.1 ?_
      show Steps p.tables e below (T34.setTop (mkF m 9 #[.val (.ref a), .val (.int (3 : Int32)), .unset] [])) _
      refine XS.iconst X34.here hx rfl (hb hby d9_9) ?_
      show Steps p.tables e below (T34.setTop (mkF m 10 #[.val (.ref a), .val (.int (3 : Int32)), .unset] [(.int (2 : Int32))])) _
      refine XS.aloadN X34.here hx rfl (hb hby d9_10) rfl rfl ?_
      exact kz
    obtain ⟨T36, X36, e36, st36⟩ := getF X34 hx hZ hown (host := "") (Or.inl (hw _ (List.mem_of_getElem? (i := 29) rfl))) Via.refl e34 Fw (g := (mkF m 11 #[.val (.ref a), .val (.int (3 : Int32)), .unset] [(.ref a), (.int (2 : Int32))])) rfl rfl (hb hby d9_11)
    refine own_go (A := T36.setTop (mkF m 14 #[.val (.ref a), .val (.int (3 : Int32)), .unset] [(.ref w), (.int (2 : Int32))])) (fun _ kz => st36 _ kz) ?_
    obtain ⟨cl37, Ar37, -, S37, M37, -, -⟩ := id Av
    refine own_go (A := T36.setTop (mkF m 15 #[.val (.ref a), .val (.int (3 : Int32)), .unset] [(.int (2 : Int32)), (.int (2 : Int32))])) (fun _ kz => ?_) ?_
    · refine X36.arraylength hx (by rw [e36]; exact Ar37.1) (State.isArrayOf_alike hZ.alike Ar37.2.1) (g := (mkF m 14 #[.val (.ref a), .val (.int (3 : Int32)), .unset] [(.ref w), (.int (2 : Int32))])) rfl rfl (hb hby d9_14) _ ?_
      rw [len_of S37 M37]
      exact kz
    refine own_go (A := T36.setTop (mkF m 17 #[.val (.ref a), .val (.int (3 : Int32)), .unset] [(.int (3 : Int32)), (.int (4 : Int32))])) (fun _ kz => ?_) ?_
    · show Steps p.tables e below (T36.setTop (mkF m 15 #[.val (.ref a), .val (.int (3 : Int32)), .unset] [(.int (2 : Int32)), (.int (2 : Int32))])) _
      refine XS.imul X36.here hx rfl (hb hby d9_15) rfl ?_
      show Steps p.tables e below (T36.setTop (mkF m 16 #[.val (.ref a), .val (.int (3 : Int32)), .unset] [(.int (4 : Int32))])) _
      refine XS.iloadN X36.here hx rfl (hb hby d9_16) rfl ?_
      exact kz
    obtain ⟨_, _, ⟨T38, L38, k38, n38⟩, -, X38, ⟨Lc38, hQ38, l38, y38, z38⟩, st38⟩ := Jvm.LawKit.callS X36 hx (y := (⟨"java/lang/Math", "max", "(II)I"⟩ : MethodName)) hown (mvT hZ (hw _ (List.mem_of_getElem? (i := 102) rfl))) (mvT hZ (hw _ (List.mem_of_getElem? (i := 103) rfl))) (mvT hZ (hw _ (List.mem_of_getElem? (i := 104) rfl))) (mvT hZ (hw _ (List.mem_of_getElem? (i := 105) rfl))) (by decide) (backOf (W := 0) (rmmax l Z a0 hw [] (4 : Int32) (3 : Int32) (4 : Int32) h0 n0 Z0 (by decide)) hZ (hw _ (List.mem_of_getElem? (i := 105) rfl)) (hw _ (List.mem_of_getElem? (i := 104) rfl)) (by decide) (by decide)) (g := (mkF m 17 #[.val (.ref a), .val (.int (3 : Int32)), .unset] [(.int (3 : Int32)), (.int (4 : Int32))])) rfl (by rw [hml]; rfl) (argsL := [(.int (4 : Int32)), (.int (3 : Int32))]) (rest := []) (lenOf own_pd0 rfl) rfl (by show 2 * 0 + _ ≤ _; exact Nat.le_of_eq rfl) (hb hby d9_17) (fun _ _ => ⟨rfl, e36, (by decide : 0 + 0 ≤ _), (by decide : 0 + 0 ≤ _)⟩)
    dsimp only [Pt.U, Pt.locs, Pt.cells, Pt.slots] at X38 l38 y38 z38 st38 hQ38
    subst l38 y38 z38
    obtain ⟨rfl, N38q, e38⟩ := hQ38
    have N38 := Fr.app N0 N38q
    refine own_go (A := T38.setTop (mkF m 20 #[.val (.ref a), .val (.int (3 : Int32)), .unset] [(.int (4 : Int32))])) (fun _ kz => st38 _ kz) ?_
    refine own_go (A := T38.setTop (mkF m 23 #[.val (.ref a), .val (.int (3 : Int32)), .val (.int (4 : Int32))] [(.ref a), (.ref a)])) (fun _ kz => ?_) ?_
    · show Steps p.tables e below (T38.setTop (mkF m 20 #[.val (.ref a), .val (.int (3 : Int32)), .unset] [(.int (4 : Int32))])) _
      refine XS.istoreN X38.here hx rfl (hb hby d9_20) rfl (l' := #[.val (.ref a), .val (.int (3 : Int32)), .val (.int (4 : Int32))]) rfl ?_
      show Steps p.tables e below (T38.setTop (mkF m 21 #[.val (.ref a), .val (.int (3 : Int32)), .val (.int (4 : Int32))] [])) _
      refine XS.aloadN X38.here hx rfl (hb hby d9_21) rfl rfl ?_
      show Steps p.tables e below (T38.setTop (mkF m 22 #[.val (.ref a), .val (.int (3 : Int32)), .val (.int (4 : Int32))] [(.ref a)])) _
      refine XS.aloadN X38.here hx rfl (hb hby d9_22) rfl rfl ?_
      exact kz
    obtain ⟨T39, X39, e39, st39⟩ := getF X38 hx hZ hown (host := "") (Or.inl (hw _ (List.mem_of_getElem? (i := 29) rfl))) Via.refl e38 Fw (g := (mkF m 23 #[.val (.ref a), .val (.int (3 : Int32)), .val (.int (4 : Int32))] [(.ref a), (.ref a)])) rfl rfl (hb hby d9_23)
    refine own_go (A := T39.setTop (mkF m 26 #[.val (.ref a), .val (.int (3 : Int32)), .val (.int (4 : Int32))] [(.ref w), (.ref a)])) (fun _ kz => st39 _ kz) ?_
    refine own_go (A := T39.setTop (mkF m 27 #[.val (.ref a), .val (.int (3 : Int32)), .val (.int (4 : Int32))] [(.int (4 : Int32)), (.ref w), (.ref a)])) (fun _ kz => ?_) ?_
    · show Steps p.tables e below (T39.setTop (mkF m 26 #[.val (.ref a), .val (.int (3 : Int32)), .val (.int (4 : Int32))] [(.ref w), (.ref a)])) _
      refine XS.iloadN X39.here hx rfl (hb hby d9_26) rfl ?_
      exact kz
    obtain ⟨_, _, ⟨T40, L40, k40, n40⟩, -, X40, ⟨Lc40, hQ40, l40, y40, z40⟩, st40⟩ := Jvm.LawKit.callS X39 hx (y := (⟨"java/util/Arrays", "copyOf", "([JI)[J"⟩ : MethodName)) hown (mvT hZ (hw _ (List.mem_of_getElem? (i := 106) rfl))) (mvT hZ (hw _ (List.mem_of_getElem? (i := 107) rfl))) (mvT hZ (hw _ (List.mem_of_getElem? (i := 108) rfl))) (mvT hZ (hw _ (List.mem_of_getElem? (i := 109) rfl))) (by decide) (backOf (W := 1) (rmCopy l Z a0 hw [] w (4 : Int32) kc (2 : Int32) f h0 n0 Z0 (by decide) hz Av) hZ (hw _ (List.mem_of_getElem? (i := 109) rfl)) (hw _ (List.mem_of_getElem? (i := 108) rfl)) (by decide) (by decide)) (g := (mkF m 27 #[.val (.ref a), .val (.int (3 : Int32)), .val (.int (4 : Int32))] [(.int (4 : Int32)), (.ref w), (.ref a)])) rfl (by rw [hml]; rfl) (argsL := [(.ref w), (.int (4 : Int32))]) (rest := [(.ref a)]) (lenOf own_pd1 rfl) rfl (by show 2 * 0 + _ ≤ _; exact Nat.le_of_eq rfl) (hb hby d9_27) (fun _ _ => ⟨rfl, e39, (by decide : 0 + 1 ≤ _), (by decide : 0 + 6 ≤ _)⟩)
    dsimp only [Pt.U, Pt.locs, Pt.cells, Pt.slots] at X40 l40 y40 z40 st40 hQ40
    subst l40 y40 z40
    obtain ⟨c40, kd40, rfl, N40q, zc40, K40q, Aq40⟩ := hQ40
    have N40 := Fr.app N38 N40q
    have ne_a_c40 : a ≠ c40 := Nat.ne_of_lt (Nat.lt_of_lt_of_le Ex.lt zc40)
    have ne_w_c40 : w ≠ c40 := Nat.ne_of_lt (Nat.lt_of_lt_of_le Av.lt zc40)
    have g_c40 : n0 ≤ c40 := Nat.le_trans Z0 zc40
    have szk_c40 : h0.size ≤ c40 := Nat.le_trans Kp0.1 zc40
    replace Ex := Ex.keep K40q
    replace Fw := Fw.keep K40q nin0
    replace Fu := Fu.keep K40q nin0
    replace Fs := Fs.keep K40q nin0
    replace Av := Av.keep K40q nin0
    have Z40 : n0 ≤ T40.heap.size := Nat.le_trans Z0 K40q.1
    have Kp40 : Keep h0 T40.heap [a] := Kp0.trans K40q (all0)
    refine own_go (A := T40.setTop (mkF m 30 #[.val (.ref a), .val (.int (3 : Int32)), .val (.int (4 : Int32))] [(.ref c40), (.ref a)])) (fun _ kz => st40 _ kz) ?_
    obtain ⟨T41, h41, X41, e41, W41, st41⟩ := putF X40 hx hZ hown (host := "") (Or.inl (hw _ (List.mem_of_getElem? (i := 29) rfl))) Via.refl rfl Fw Ex (Or.inl (hw _ (List.mem_of_getElem? (i := 30) rfl))) (hw _ (List.mem_of_getElem? (i := 10) rfl)) (ty := (.array .long)) (by decide) rfl rfl (g := (mkF m 30 #[.val (.ref a), .val (.int (3 : Int32)), .val (.int (4 : Int32))] [(.ref c40), (.ref a)])) rfl rfl (hb hby d9_30)
    have Fw41 := Fw.same W41
    replace Ex := Ex.wr W41
    replace Fu := Fu.other W41 (Or.inr (slot_ne (Or.inl (hw _ (List.mem_of_getElem? (i := 17) rfl))) (Or.inl (hw _ (List.mem_of_getElem? (i := 30) rfl))) (by decide) (t := .int) (t' := (.array .long)) (by decide) (by decide)))
    replace Fs := Fs.other W41 (Or.inr (slot_ne (Or.inl (hw _ (List.mem_of_getElem? (i := 19) rfl))) (Or.inl (hw _ (List.mem_of_getElem? (i := 30) rfl))) (by decide) (t := .boolean) (t' := (.array .long)) (by decide) (by decide)))
    replace Av := Av.other W41 ne_w_a
    replace Aq40 := Aq40.other W41 (Ne.symm ne_a_c40)
    have Z41 : n0 ≤ h41.size := Nat.le_trans Z40 (Keep.of_wr W41).1
    have Kp41 : Keep h0 h41 [a] := Kp40.wr W41 (Or.inl (List.mem_of_getElem? (i := 0) rfl))
    have F_words_a := Fw41
    have N41 := Fr.snoc X41 N40 g_a
    refine own_go (A := T41.setTop (mkF m 33 #[.val (.ref a), .val (.int (3 : Int32)), .val (.int (4 : Int32))] [])) (fun _ kz => st41 _ kz) ?_
    refine own_go (A := T41.setTop (mkF m 35 #[.val (.ref a), .val (.int (3 : Int32)), .val (.int (4 : Int32))] [(.int (0 : Int32)), (.ref a)])) (fun _ kz => ?_) ?_
    · show Steps p.tables e below (T41.setTop (mkF m 33 #[.val (.ref a), .val (.int (3 : Int32)), .val (.int (4 : Int32))] [])) _
      refine XS.aloadN X41.here hx rfl (hb hby d9_33) rfl rfl ?_
      show Steps p.tables e below (T41.setTop (mkF m 34 #[.val (.ref a), .val (.int (3 : Int32)), .val (.int (4 : Int32))] [(.ref a)])) _
      refine XS.iconst X41.here hx rfl (hb hby d9_34) ?_
      exact kz
    obtain ⟨T42, h42, X42, e42, W42, st42⟩ := putFN X41 hx hZ hown (hw _ (List.mem_of_getElem? (i := 18) rfl)) Via.refl e41 Fs Ex (Or.inl (hw _ (List.mem_of_getElem? (i := 19) rfl))) (hw _ (List.mem_of_getElem? (i := 10) rfl)) (ty := .boolean) (v' := (.int (0 : Int32))) (by decide) rfl (by first | exact fits_nar_bool _ | decide) (g := (mkF m 35 #[.val (.ref a), .val (.int (3 : Int32)), .val (.int (4 : Int32))] [(.int (0 : Int32)), (.ref a)])) rfl rfl (hb hby d9_35)
    have Fw42 := Fs.same W42
    replace Ex := Ex.wr W42
    replace F_words_a := F_words_a.other W42 (Or.inr (slot_ne (Or.inl (hw _ (List.mem_of_getElem? (i := 30) rfl))) (Or.inl (hw _ (List.mem_of_getElem? (i := 19) rfl))) (by decide) (t := (.array .long)) (t' := .boolean) (by decide) (by decide)))
    replace Fu := Fu.other W42 (Or.inr (slot_ne (Or.inl (hw _ (List.mem_of_getElem? (i := 17) rfl))) (Or.inl (hw _ (List.mem_of_getElem? (i := 19) rfl))) (by decide) (t := .int) (t' := .boolean) (by decide) (by decide)))
    replace Av := Av.other W42 ne_w_a
    replace Aq40 := Aq40.other W42 (Ne.symm ne_a_c40)
    have Z42 : n0 ≤ h42.size := Nat.le_trans Z41 (Keep.of_wr W42).1
    have Kp42 : Keep h0 h42 [a] := Kp41.wr W42 (Or.inl (List.mem_of_getElem? (i := 0) rfl))
    have F_sizeIsSticky_a := Fw42
    have N42 := Fr.snoc X42 N41 g_a
    refine own_go (A := T42.setTop (mkF m 38 #[.val (.ref a), .val (.int (3 : Int32)), .val (.int (4 : Int32))] [])) (fun _ kz => st42 _ kz) ?_
    obtain ⟨fs, hrr, hrun, hended, hW, hsame⟩ := X42.leave (v := none) (fun _ => rfl)
    refine ⟨_, _, ?_, hrun, hended, _, _, rfl, ?_, ⟨_, rfl⟩, hW, hsame.mono (by decide) (by decide)⟩
    · show Steps p.tables e below (T42.setTop (mkF m 38 #[.val (.ref a), .val (.int (3 : Int32)), .val (.int (4 : Int32))] [])) _
      exact X42.returnOut hx Bd.returns (hb hby d9_38) hrr
    · show QrmEC Z a (3 : Int32) w (2 : Int32) u f h0 n0 _ T42.heap _
      rw [e42]
      exact ⟨c40, kd40, (0 : Int32), rfl, N42, g_c40, Or.inr szk_c40, Kp42, Ex, F_words_a, Fu, F_sizeIsSticky_a, Aq40⟩
  · skip
    refine own_go (A := s₁.setTop (mkF m 1 #[.val (.ref a), .val (.int (4 : Int32)), .unset] [(.ref a)])) (fun _ kz => ?_) ?_
    · show Steps p.tables e below (s₁.setTop (mkF m 0 #[.val (.ref a), .val (.int (4 : Int32)), .unset] [])) _
      refine XS.aloadN X0.here hx rfl (hb hby d9_0) rfl rfl ?_
      exact kz
    obtain ⟨T43, X43, e43, st43⟩ := getF X0 hx hZ hown (host := "") (Or.inl (hw _ (List.mem_of_getElem? (i := 29) rfl))) Via.refl e0 Fw (g := (mkF m 1 #[.val (.ref a), .val (.int (4 : Int32)), .unset] [(.ref a)])) rfl rfl (hb hby d9_1)
    refine own_go (A := T43.setTop (mkF m 4 #[.val (.ref a), .val (.int (4 : Int32)), .unset] [(.ref w)])) (fun _ kz => st43 _ kz) ?_
    obtain ⟨cl44, Ar44, -, S44, M44, -, -⟩ := id Av
    refine own_go (A := T43.setTop (mkF m 5 #[.val (.ref a), .val (.int (4 : Int32)), .unset] [(.int (2 : Int32))])) (fun _ kz => ?_) ?_
    · refine X43.arraylength hx (by rw [e43]; exact Ar44.1) (State.isArrayOf_alike hZ.alike Ar44.2.1) (g := (mkF m 4 #[.val (.ref a), .val (.int (4 : Int32)), .unset] [(.ref w)])) rfl rfl (hb hby d9_4) _ ?_
      rw [len_of S44 M44]
      exact kz
    refine own_go (A := T43.setTop (mkF m 11 #[.val (.ref a), .val (.int (4 : Int32)), .unset] [(.ref a), (.int (2 : Int32))])) (fun _ kz => ?_) ?_
    · show Steps p.tables e below (T43.setTop (mkF m 5 #[.val (.ref a), .val (.int (4 : Int32)), .unset] [(.int (2 : Int32))])) _
      refine XS.iloadN X43.here hx rfl (hb hby d9_5) rfl ?_
      show Steps p.tables e below (T43.setTop (mkF m 6 #[.val (.ref a), .val (.int (4 : Int32)), .unset] [(.int (4 : Int32)), (.int (2 : Int32))])) _
      refine XS.icmpNo X43.here hx rfl (hb hby d9_6) rfl (tlt (by decide : ((2 : Int32) < (4 : Int32)))).2.1 ?_
      show Steps p.tables e below (T43.setTop (mkF m 9 #[.val (.ref a), .val (.int (4 : Int32)), .unset] [])) _
      refine XS.iconst X43.here hx rfl (hb hby d9_9) ?_
      show Steps p.tables e below (T43.setTop (mkF m 10 #[.val (.ref a), .val (.int (4 : Int32)), .unset] [(.int (2 : Int32))])) _
      refine XS.aloadN X43.here hx rfl (hb hby d9_10) rfl rfl ?_
      exact kz
    obtain ⟨T45, X45, e45, st45⟩ := getF X43 hx hZ hown (host := "") (Or.inl (hw _ (List.mem_of_getElem? (i := 29) rfl))) Via.refl e43 Fw (g := (mkF m 11 #[.val (.ref a), .val (.int (4 : Int32)), .unset] [(.ref a), (.int (2 : Int32))])) rfl rfl (hb hby d9_11)
    refine own_go (A := T45.setTop (mkF m 14 #[.val (.ref a), .val (.int (4 : Int32)), .unset] [(.ref w), (.int (2 : Int32))])) (fun _ kz => st45 _ kz) ?_
    obtain ⟨cl46, Ar46, -, S46, M46, -, -⟩ := id Av
    refine own_go (A := T45.setTop (mkF m 15 #[.val (.ref a), .val (.int (4 : Int32)), .unset] [(.int (2 : Int32)), (.int (2 : Int32))])) (fun _ kz => ?_) ?_
    · refine X45.arraylength hx (by rw [e45]; exact Ar46.1) (State.isArrayOf_alike hZ.alike Ar46.2.1) (g := (mkF m 14 #[.val (.ref a), .val (.int (4 : Int32)), .unset] [(.ref w), (.int (2 : Int32))])) rfl rfl (hb hby d9_14) _ ?_
      rw [len_of S46 M46]
      exact kz
    refine own_go (A := T45.setTop (mkF m 17 #[.val (.ref a), .val (.int (4 : Int32)), .unset] [(.int (4 : Int32)), (.int (4 : Int32))])) (fun _ kz => ?_) ?_
    · show Steps p.tables e below (T45.setTop (mkF m 15 #[.val (.ref a), .val (.int (4 : Int32)), .unset] [(.int (2 : Int32)), (.int (2 : Int32))])) _
      refine XS.imul X45.here hx rfl (hb hby d9_15) rfl ?_
      show Steps p.tables e below (T45.setTop (mkF m 16 #[.val (.ref a), .val (.int (4 : Int32)), .unset] [(.int (4 : Int32))])) _
      refine XS.iloadN X45.here hx rfl (hb hby d9_16) rfl ?_
      exact kz
    obtain ⟨_, _, ⟨T47, L47, k47, n47⟩, -, X47, ⟨Lc47, hQ47, l47, y47, z47⟩, st47⟩ := Jvm.LawKit.callS X45 hx (y := (⟨"java/lang/Math", "max", "(II)I"⟩ : MethodName)) hown (mvT hZ (hw _ (List.mem_of_getElem? (i := 102) rfl))) (mvT hZ (hw _ (List.mem_of_getElem? (i := 103) rfl))) (mvT hZ (hw _ (List.mem_of_getElem? (i := 104) rfl))) (mvT hZ (hw _ (List.mem_of_getElem? (i := 105) rfl))) (by decide) (backOf (W := 0) (rmmax l Z a0 hw [] (4 : Int32) (4 : Int32) (4 : Int32) h0 n0 Z0 (by decide)) hZ (hw _ (List.mem_of_getElem? (i := 105) rfl)) (hw _ (List.mem_of_getElem? (i := 104) rfl)) (by decide) (by decide)) (g := (mkF m 17 #[.val (.ref a), .val (.int (4 : Int32)), .unset] [(.int (4 : Int32)), (.int (4 : Int32))])) rfl (by rw [hml]; rfl) (argsL := [(.int (4 : Int32)), (.int (4 : Int32))]) (rest := []) (lenOf own_pd0 rfl) rfl (by show 2 * 0 + _ ≤ _; exact Nat.le_of_eq rfl) (hb hby d9_17) (fun _ _ => ⟨rfl, e45, (by decide : 0 + 0 ≤ _), (by decide : 0 + 0 ≤ _)⟩)
    dsimp only [Pt.U, Pt.locs, Pt.cells, Pt.slots] at X47 l47 y47 z47 st47 hQ47
    subst l47 y47 z47
    obtain ⟨rfl, N47q, e47⟩ := hQ47
    have N47 := Fr.app N0 N47q
    refine own_go (A := T47.setTop (mkF m 20 #[.val (.ref a), .val (.int (4 : Int32)), .unset] [(.int (4 : Int32))])) (fun _ kz => st47 _ kz) ?_
    refine own_go (A := T47.setTop (mkF m 23 #[.val (.ref a), .val (.int (4 : Int32)), .val (.int (4 : Int32))] [(.ref a), (.ref a)])) (fun _ kz => ?_) ?_
    · show Steps p.tables e below (T47.setTop (mkF m 20 #[.val (.ref a), .val (.int (4 : Int32)), .unset] [(.int (4 : Int32))])) _
      refine XS.istoreN X47.here hx rfl (hb hby d9_20) rfl (l' := #[.val (.ref a), .val (.int (4 : Int32)), .val (.int (4 : Int32))]) rfl ?_
      show Steps p.tables e below (T47.setTop (mkF m 21 #[.val (.ref a), .val (.int (4 : Int32)), .val (.int (4 : Int32))] [])) _
      refine XS.aloadN X47.here hx rfl (hb hby d9_21) rfl rfl ?_
      show Steps p.tables e below (T47.setTop (mkF m 22 #[.val (.ref a), .val (.int (4 : Int32)), .val (.int (4 : Int32))] [(.ref a)])) _
      refine XS.aloadN X47.here hx rfl (hb hby d9_22) rfl rfl ?_
      exact kz
    obtain ⟨T48, X48, e48, st48⟩ := getF X47 hx hZ hown (host := "") (Or.inl (hw _ (List.mem_of_getElem? (i := 29) rfl))) Via.refl e47 Fw (g := (mkF m 23 #[.val (.ref a), .val (.int (4 : Int32)), .val (.int (4 : Int32))] [(.ref a), (.ref a)])) rfl rfl (hb hby d9_23)
    refine own_go (A := T48.setTop (mkF m 26 #[.val (.ref a), .val (.int (4 : Int32)), .val (.int (4 : Int32))] [(.ref w), (.ref a)])) (fun _ kz => st48 _ kz) ?_
    refine own_go (A := T48.setTop (mkF m 27 #[.val (.ref a), .val (.int (4 : Int32)), .val (.int (4 : Int32))] [(.int (4 : Int32)), (.ref w), (.ref a)])) (fun _ kz => ?_) ?_
    · show Steps p.tables e below (T48.setTop (mkF m 26 #[.val (.ref a), .val (.int (4 : Int32)), .val (.int (4 : Int32))] [(.ref w), (.ref a)])) _
      refine XS.iloadN X48.here hx rfl (hb hby d9_26) rfl ?_
      exact kz
    obtain ⟨_, _, ⟨T49, L49, k49, n49⟩, -, X49, ⟨Lc49, hQ49, l49, y49, z49⟩, st49⟩ := Jvm.LawKit.callS X48 hx (y := (⟨"java/util/Arrays", "copyOf", "([JI)[J"⟩ : MethodName)) hown (mvT hZ (hw _ (List.mem_of_getElem? (i := 106) rfl))) (mvT hZ (hw _ (List.mem_of_getElem? (i := 107) rfl))) (mvT hZ (hw _ (List.mem_of_getElem? (i := 108) rfl))) (mvT hZ (hw _ (List.mem_of_getElem? (i := 109) rfl))) (by decide) (backOf (W := 1) (rmCopy l Z a0 hw [] w (4 : Int32) kc (2 : Int32) f h0 n0 Z0 (by decide) hz Av) hZ (hw _ (List.mem_of_getElem? (i := 109) rfl)) (hw _ (List.mem_of_getElem? (i := 108) rfl)) (by decide) (by decide)) (g := (mkF m 27 #[.val (.ref a), .val (.int (4 : Int32)), .val (.int (4 : Int32))] [(.int (4 : Int32)), (.ref w), (.ref a)])) rfl (by rw [hml]; rfl) (argsL := [(.ref w), (.int (4 : Int32))]) (rest := [(.ref a)]) (lenOf own_pd1 rfl) rfl (by show 2 * 0 + _ ≤ _; exact Nat.le_of_eq rfl) (hb hby d9_27) (fun _ _ => ⟨rfl, e48, (by decide : 0 + 1 ≤ _), (by decide : 0 + 6 ≤ _)⟩)
    dsimp only [Pt.U, Pt.locs, Pt.cells, Pt.slots] at X49 l49 y49 z49 st49 hQ49
    subst l49 y49 z49
    obtain ⟨c49, kd49, rfl, N49q, zc49, K49q, Aq49⟩ := hQ49
    have N49 := Fr.app N47 N49q
    have ne_a_c49 : a ≠ c49 := Nat.ne_of_lt (Nat.lt_of_lt_of_le Ex.lt zc49)
    have ne_w_c49 : w ≠ c49 := Nat.ne_of_lt (Nat.lt_of_lt_of_le Av.lt zc49)
    have g_c49 : n0 ≤ c49 := Nat.le_trans Z0 zc49
    have szk_c49 : h0.size ≤ c49 := Nat.le_trans Kp0.1 zc49
    replace Ex := Ex.keep K49q
    replace Fw := Fw.keep K49q nin0
    replace Fu := Fu.keep K49q nin0
    replace Fs := Fs.keep K49q nin0
    replace Av := Av.keep K49q nin0
    have Z49 : n0 ≤ T49.heap.size := Nat.le_trans Z0 K49q.1
    have Kp49 : Keep h0 T49.heap [a] := Kp0.trans K49q (all0)
    refine own_go (A := T49.setTop (mkF m 30 #[.val (.ref a), .val (.int (4 : Int32)), .val (.int (4 : Int32))] [(.ref c49), (.ref a)])) (fun _ kz => st49 _ kz) ?_
    obtain ⟨T50, h50, X50, e50, W50, st50⟩ := putF X49 hx hZ hown (host := "") (Or.inl (hw _ (List.mem_of_getElem? (i := 29) rfl))) Via.refl rfl Fw Ex (Or.inl (hw _ (List.mem_of_getElem? (i := 30) rfl))) (hw _ (List.mem_of_getElem? (i := 10) rfl)) (ty := (.array .long)) (by decide) rfl rfl (g := (mkF m 30 #[.val (.ref a), .val (.int (4 : Int32)), .val (.int (4 : Int32))] [(.ref c49), (.ref a)])) rfl rfl (hb hby d9_30)
    have Fw50 := Fw.same W50
    replace Ex := Ex.wr W50
    replace Fu := Fu.other W50 (Or.inr (slot_ne (Or.inl (hw _ (List.mem_of_getElem? (i := 17) rfl))) (Or.inl (hw _ (List.mem_of_getElem? (i := 30) rfl))) (by decide) (t := .int) (t' := (.array .long)) (by decide) (by decide)))
    replace Fs := Fs.other W50 (Or.inr (slot_ne (Or.inl (hw _ (List.mem_of_getElem? (i := 19) rfl))) (Or.inl (hw _ (List.mem_of_getElem? (i := 30) rfl))) (by decide) (t := .boolean) (t' := (.array .long)) (by decide) (by decide)))
    replace Av := Av.other W50 ne_w_a
    replace Aq49 := Aq49.other W50 (Ne.symm ne_a_c49)
    have Z50 : n0 ≤ h50.size := Nat.le_trans Z49 (Keep.of_wr W50).1
    have Kp50 : Keep h0 h50 [a] := Kp49.wr W50 (Or.inl (List.mem_of_getElem? (i := 0) rfl))
    have F_words_a := Fw50
    have N50 := Fr.snoc X50 N49 g_a
    refine own_go (A := T50.setTop (mkF m 33 #[.val (.ref a), .val (.int (4 : Int32)), .val (.int (4 : Int32))] [])) (fun _ kz => st50 _ kz) ?_
    refine own_go (A := T50.setTop (mkF m 35 #[.val (.ref a), .val (.int (4 : Int32)), .val (.int (4 : Int32))] [(.int (0 : Int32)), (.ref a)])) (fun _ kz => ?_) ?_
    · show Steps p.tables e below (T50.setTop (mkF m 33 #[.val (.ref a), .val (.int (4 : Int32)), .val (.int (4 : Int32))] [])) _
      refine XS.aloadN X50.here hx rfl (hb hby d9_33) rfl rfl ?_
      show Steps p.tables e below (T50.setTop (mkF m 34 #[.val (.ref a), .val (.int (4 : Int32)), .val (.int (4 : Int32))] [(.ref a)])) _
      refine XS.iconst X50.here hx rfl (hb hby d9_34) ?_
      exact kz
    obtain ⟨T51, h51, X51, e51, W51, st51⟩ := putFN X50 hx hZ hown (hw _ (List.mem_of_getElem? (i := 18) rfl)) Via.refl e50 Fs Ex (Or.inl (hw _ (List.mem_of_getElem? (i := 19) rfl))) (hw _ (List.mem_of_getElem? (i := 10) rfl)) (ty := .boolean) (v' := (.int (0 : Int32))) (by decide) rfl (by first | exact fits_nar_bool _ | decide) (g := (mkF m 35 #[.val (.ref a), .val (.int (4 : Int32)), .val (.int (4 : Int32))] [(.int (0 : Int32)), (.ref a)])) rfl rfl (hb hby d9_35)
    have Fw51 := Fs.same W51
    replace Ex := Ex.wr W51
    replace F_words_a := F_words_a.other W51 (Or.inr (slot_ne (Or.inl (hw _ (List.mem_of_getElem? (i := 30) rfl))) (Or.inl (hw _ (List.mem_of_getElem? (i := 19) rfl))) (by decide) (t := (.array .long)) (t' := .boolean) (by decide) (by decide)))
    replace Fu := Fu.other W51 (Or.inr (slot_ne (Or.inl (hw _ (List.mem_of_getElem? (i := 17) rfl))) (Or.inl (hw _ (List.mem_of_getElem? (i := 19) rfl))) (by decide) (t := .int) (t' := .boolean) (by decide) (by decide)))
    replace Av := Av.other W51 ne_w_a
    replace Aq49 := Aq49.other W51 (Ne.symm ne_a_c49)
    have Z51 : n0 ≤ h51.size := Nat.le_trans Z50 (Keep.of_wr W51).1
    have Kp51 : Keep h0 h51 [a] := Kp50.wr W51 (Or.inl (List.mem_of_getElem? (i := 0) rfl))
    have F_sizeIsSticky_a := Fw51
    have N51 := Fr.snoc X51 N50 g_a
    refine own_go (A := T51.setTop (mkF m 38 #[.val (.ref a), .val (.int (4 : Int32)), .val (.int (4 : Int32))] [])) (fun _ kz => st51 _ kz) ?_
    obtain ⟨fs, hrr, hrun, hended, hW, hsame⟩ := X51.leave (v := none) (fun _ => rfl)
    refine ⟨_, _, ?_, hrun, hended, _, _, rfl, ?_, ⟨_, rfl⟩, hW, hsame.mono (by decide) (by decide)⟩
    · show Steps p.tables e below (T51.setTop (mkF m 38 #[.val (.ref a), .val (.int (4 : Int32)), .val (.int (4 : Int32))] [])) _
      exact X51.returnOut hx Bd.returns (hb hby d9_38) hrr
    · show QrmEC Z a (4 : Int32) w (2 : Int32) u f h0 n0 _ T51.heap _
      rw [e51]
      exact ⟨c49, kd49, (0 : Int32), rfl, N51, g_c49, Or.inr szk_c49, Kp51, Ex, F_words_a, Fu, F_sizeIsSticky_a, Aq49⟩
  · skip
    refine own_go (A := s₁.setTop (mkF m 1 #[.val (.ref a), .val (.int (1 : Int32)), .unset] [(.ref a)])) (fun _ kz => ?_) ?_
    · show Steps p.tables e below (s₁.setTop (mkF m 0 #[.val (.ref a), .val (.int (1 : Int32)), .unset] [])) _
      refine XS.aloadN X0.here hx rfl (hb hby d9_0) rfl rfl ?_
      exact kz
    obtain ⟨T52, X52, e52, st52⟩ := getF X0 hx hZ hown (host := "") (Or.inl (hw _ (List.mem_of_getElem? (i := 29) rfl))) Via.refl e0 Fw (g := (mkF m 1 #[.val (.ref a), .val (.int (1 : Int32)), .unset] [(.ref a)])) rfl rfl (hb hby d9_1)
    refine own_go (A := T52.setTop (mkF m 4 #[.val (.ref a), .val (.int (1 : Int32)), .unset] [(.ref w)])) (fun _ kz => st52 _ kz) ?_
    obtain ⟨cl53, Ar53, -, S53, M53, -, -⟩ := id Av
    refine own_go (A := T52.setTop (mkF m 5 #[.val (.ref a), .val (.int (1 : Int32)), .unset] [(.int (3 : Int32))])) (fun _ kz => ?_) ?_
    · refine X52.arraylength hx (by rw [e52]; exact Ar53.1) (State.isArrayOf_alike hZ.alike Ar53.2.1) (g := (mkF m 4 #[.val (.ref a), .val (.int (1 : Int32)), .unset] [(.ref w)])) rfl rfl (hb hby d9_4) _ ?_
      rw [len_of S53 M53]
      exact kz
    refine own_go (A := T52.setTop (mkF m 38 #[.val (.ref a), .val (.int (1 : Int32)), .unset] [])) (fun _ kz => ?_) ?_
    · show Steps p.tables e below (T52.setTop (mkF m 5 #[.val (.ref a), .val (.int (1 : Int32)), .unset] [(.int (3 : Int32))])) _
      refine XS.iloadN X52.here hx rfl (hb hby d9_5) rfl ?_
      show Steps p.tables e below (T52.setTop (mkF m 6 #[.val (.ref a), .val (.int (1 : Int32)), .unset] [(.int (1 : Int32)), (.int (3 : Int32))])) _
      refine XS.icmpYes X52.here hx rfl (pc0 := 6) (pc' := 38) rfl (hb hby d9_6) rfl (flt (by decide : ¬ ((3 : Int32) < (1 : Int32)))).2.1 (by decide) (by decide) ?_
      exact kz
    obtain ⟨fs, hrr, hrun, hended, hW, hsame⟩ := X52.leave (v := none) (fun _ => rfl)
    refine ⟨_, _, ?_, hrun, hended, _, _, rfl, ?_, ⟨_, rfl⟩, hW, hsame.mono (by decide) (by decide)⟩
    · show Steps p.tables e below (T52.setTop (mkF m 38 #[.val (.ref a), .val (.int (1 : Int32)), .unset] [])) _
      exact X52.returnOut hx Bd.returns (hb hby d9_38) hrr
    · show QrmEC Z a (1 : Int32) w (3 : Int32) u f h0 n0 _ T52.heap _
      rw [e52]
      exact ⟨w, kc, s_, rfl, N0, g_w, Or.inl rfl, Kp0, Ex, Fw, Fu, Fs, Av⟩
  · skip
    refine own_go (A := s₁.setTop (mkF m 1 #[.val (.ref a), .val (.int (2 : Int32)), .unset] [(.ref a)])) (fun _ kz => ?_) ?_
    · show Steps p.tables e below (s₁.setTop (mkF m 0 #[.val (.ref a), .val (.int (2 : Int32)), .unset] [])) _
      refine XS.aloadN X0.here hx rfl (hb hby d9_0) rfl rfl ?_
      exact kz
    obtain ⟨T54, X54, e54, st54⟩ := getF X0 hx hZ hown (host := "") (Or.inl (hw _ (List.mem_of_getElem? (i := 29) rfl))) Via.refl e0 Fw (g := (mkF m 1 #[.val (.ref a), .val (.int (2 : Int32)), .unset] [(.ref a)])) rfl rfl (hb hby d9_1)
    refine own_go (A := T54.setTop (mkF m 4 #[.val (.ref a), .val (.int (2 : Int32)), .unset] [(.ref w)])) (fun _ kz => st54 _ kz) ?_
    obtain ⟨cl55, Ar55, -, S55, M55, -, -⟩ := id Av
    refine own_go (A := T54.setTop (mkF m 5 #[.val (.ref a), .val (.int (2 : Int32)), .unset] [(.int (3 : Int32))])) (fun _ kz => ?_) ?_
    · refine X54.arraylength hx (by rw [e54]; exact Ar55.1) (State.isArrayOf_alike hZ.alike Ar55.2.1) (g := (mkF m 4 #[.val (.ref a), .val (.int (2 : Int32)), .unset] [(.ref w)])) rfl rfl (hb hby d9_4) _ ?_
      rw [len_of S55 M55]
      exact kz
    refine own_go (A := T54.setTop (mkF m 38 #[.val (.ref a), .val (.int (2 : Int32)), .unset] [])) (fun _ kz => ?_) ?_
    · show Steps p.tables e below (T54.setTop (mkF m 5 #[.val (.ref a), .val (.int (2 : Int32)), .unset] [(.int (3 : Int32))])) _
      refine XS.iloadN X54.here hx rfl (hb hby d9_5) rfl ?_
      show Steps p.tables e below (T54.setTop (mkF m 6 #[.val (.ref a), .val (.int (2 : Int32)), .unset] [(.int (2 : Int32)), (.int (3 : Int32))])) _
      refine XS.icmpYes X54.here hx rfl (pc0 := 6) (pc' := 38) rfl (hb hby d9_6) rfl (flt (by decide : ¬ ((3 : Int32) < (2 : Int32)))).2.1 (by decide) (by decide) ?_
      exact kz
    obtain ⟨fs, hrr, hrun, hended, hW, hsame⟩ := X54.leave (v := none) (fun _ => rfl)
    refine ⟨_, _, ?_, hrun, hended, _, _, rfl, ?_, ⟨_, rfl⟩, hW, hsame.mono (by decide) (by decide)⟩
    · show Steps p.tables e below (T54.setTop (mkF m 38 #[.val (.ref a), .val (.int (2 : Int32)), .unset] [])) _
      exact X54.returnOut hx Bd.returns (hb hby d9_38) hrr
    · show QrmEC Z a (2 : Int32) w (3 : Int32) u f h0 n0 _ T54.heap _
      rw [e54]
      exact ⟨w, kc, s_, rfl, N0, g_w, Or.inl rfl, Kp0, Ex, Fw, Fu, Fs, Av⟩
  · skip
    refine own_go (A := s₁.setTop (mkF m 1 #[.val (.ref a), .val (.int (3 : Int32)), .unset] [(.ref a)])) (fun _ kz => ?_) ?_
    · show Steps p.tables e below (s₁.setTop (mkF m 0 #[.val (.ref a), .val (.int (3 : Int32)), .unset] [])) _
      refine XS.aloadN X0.here hx rfl (hb hby d9_0) rfl rfl ?_
      exact kz
    obtain ⟨T56, X56, e56, st56⟩ := getF X0 hx hZ hown (host := "") (Or.inl (hw _ (List.mem_of_getElem? (i := 29) rfl))) Via.refl e0 Fw (g := (mkF m 1 #[.val (.ref a), .val (.int (3 : Int32)), .unset] [(.ref a)])) rfl rfl (hb hby d9_1)
    refine own_go (A := T56.setTop (mkF m 4 #[.val (.ref a), .val (.int (3 : Int32)), .unset] [(.ref w)])) (fun _ kz => st56 _ kz) ?_
    obtain ⟨cl57, Ar57, -, S57, M57, -, -⟩ := id Av
    refine own_go (A := T56.setTop (mkF m 5 #[.val (.ref a), .val (.int (3 : Int32)), .unset] [(.int (3 : Int32))])) (fun _ kz => ?_) ?_
    · refine X56.arraylength hx (by rw [e56]; exact Ar57.1) (State.isArrayOf_alike hZ.alike Ar57.2.1) (g := (mkF m 4 #[.val (.ref a), .val (.int (3 : Int32)), .unset] [(.ref w)])) rfl rfl (hb hby d9_4) _ ?_
      rw [len_of S57 M57]
      exact kz
    refine own_go (A := T56.setTop (mkF m 38 #[.val (.ref a), .val (.int (3 : Int32)), .unset] [])) (fun _ kz => ?_) ?_
    · show Steps p.tables e below (T56.setTop (mkF m 5 #[.val (.ref a), .val (.int (3 : Int32)), .unset] [(.int (3 : Int32))])) _
      refine XS.iloadN X56.here hx rfl (hb hby d9_5) rfl ?_
      show Steps p.tables e below (T56.setTop (mkF m 6 #[.val (.ref a), .val (.int (3 : Int32)), .unset] [(.int (3 : Int32)), (.int (3 : Int32))])) _
      refine XS.icmpYes X56.here hx rfl (pc0 := 6) (pc' := 38) rfl (hb hby d9_6) rfl (flt (by decide : ¬ ((3 : Int32) < (3 : Int32)))).2.1 (by decide) (by decide) ?_
      exact kz
    obtain ⟨fs, hrr, hrun, hended, hW, hsame⟩ := X56.leave (v := none) (fun _ => rfl)
    refine ⟨_, _, ?_, hrun, hended, _, _, rfl, ?_, ⟨_, rfl⟩, hW, hsame.mono (by decide) (by decide)⟩
    · show Steps p.tables e below (T56.setTop (mkF m 38 #[.val (.ref a), .val (.int (3 : Int32)), .unset] [])) _
      exact X56.returnOut hx Bd.returns (hb hby d9_38) hrr
    · show QrmEC Z a (3 : Int32) w (3 : Int32) u f h0 n0 _ T56.heap _
      rw [e56]
      exact ⟨w, kc, s_, rfl, N0, g_w, Or.inl rfl, Kp0, Ex, Fw, Fu, Fs, Av⟩
  · skip
    refine own_go (A := s₁.setTop (mkF m 1 #[.val (.ref a), .val (.int (4 : Int32)), .unset] [(.ref a)])) (fun _ kz => ?_) ?_
    · show Steps p.tables e below (s₁.setTop (mkF m 0 #[.val (.ref a), .val (.int (4 : Int32)), .unset] [])) _
      refine XS.aloadN X0.here hx rfl (hb hby d9_0) rfl rfl ?_
      exact kz
    obtain ⟨T58, X58, e58, st58⟩ := getF X0 hx hZ hown (host := "") (Or.inl (hw _ (List.mem_of_getElem? (i := 29) rfl))) Via.refl e0 Fw (g := (mkF m 1 #[.val (.ref a), .val (.int (4 : Int32)), .unset] [(.ref a)])) rfl rfl (hb hby d9_1)
    refine own_go (A := T58.setTop (mkF m 4 #[.val (.ref a), .val (.int (4 : Int32)), .unset] [(.ref w)])) (fun _ kz => st58 _ kz) ?_
    obtain ⟨cl59, Ar59, -, S59, M59, -, -⟩ := id Av
    refine own_go (A := T58.setTop (mkF m 5 #[.val (.ref a), .val (.int (4 : Int32)), .unset] [(.int (3 : Int32))])) (fun _ kz => ?_) ?_
    · refine X58.arraylength hx (by rw [e58]; exact Ar59.1) (State.isArrayOf_alike hZ.alike Ar59.2.1) (g := (mkF m 4 #[.val (.ref a), .val (.int (4 : Int32)), .unset] [(.ref w)])) rfl rfl (hb hby d9_4) _ ?_
      rw [len_of S59 M59]
      exact kz
    refine own_go (A := T58.setTop (mkF m 11 #[.val (.ref a), .val (.int (4 : Int32)), .unset] [(.ref a), (.int (2 : Int32))])) (fun _ kz => ?_) ?_
    · show Steps p.tables e below (T58.setTop (mkF m 5 #[.val (.ref a), .val (.int (4 : Int32)), .unset] [(.int (3 : Int32))])) _
      refine XS.iloadN X58.here hx rfl (hb hby d9_5) rfl ?_
      show Steps p.tables e below (T58.setTop (mkF m 6 #[.val (.ref a), .val (.int (4 : Int32)), .unset] [(.int (4 : Int32)), (.int (3 : Int32))])) _
      refine XS.icmpNo X58.here hx rfl (hb hby d9_6) rfl (tlt (by decide : ((3 : Int32) < (4 : Int32)))).2.1 ?_
      show Steps p.tables e below (T58.setTop (mkF m 9 #[.val (.ref a), .val (.int (4 : Int32)), .unset] [])) _
      refine XS.iconst X58.here hx rfl (hb hby d9_9) ?_
      show Steps p.tables e below (T58.setTop (mkF m 10 #[.val (.ref a), .val (.int (4 : Int32)), .unset] [(.int (2 : Int32))])) _
      refine XS.aloadN X58.here hx rfl (hb hby d9_10) rfl rfl ?_
      exact kz
    obtain ⟨T60, X60, e60, st60⟩ := getF X58 hx hZ hown (host := "") (Or.inl (hw _ (List.mem_of_getElem? (i := 29) rfl))) Via.refl e58 Fw (g := (mkF m 11 #[.val (.ref a), .val (.int (4 : Int32)), .unset] [(.ref a), (.int (2 : Int32))])) rfl rfl (hb hby d9_11)
    refine own_go (A := T60.setTop (mkF m 14 #[.val (.ref a), .val (.int (4 : Int32)), .unset] [(.ref w), (.int (2 : Int32))])) (fun _ kz => st60 _ kz) ?_
    obtain ⟨cl61, Ar61, -, S61, M61, -, -⟩ := id Av
    refine own_go (A := T60.setTop (mkF m 15 #[.val (.ref a), .val (.int (4 : Int32)), .unset] [(.int (3 : Int32)), (.int (2 : Int32))])) (fun _ kz => ?_) ?_
    · refine X60.arraylength hx (by rw [e60]; exact Ar61.1) (State.isArrayOf_alike hZ.alike Ar61.2.1) (g := (mkF m 14 #[.val (.ref a), .val (.int (4 : Int32)), .unset] [(.ref w), (.int (2 : Int32))])) rfl rfl (hb hby d9_14) _ ?_
      rw [len_of S61 M61]
      exact kz
    refine own_go (A := T60.setTop (mkF m 17 #[.val (.ref a), .val (.int (4 : Int32)), .unset] [(.int (4 : Int32)), (.int (6 : Int32))])) (fun _ kz => ?_) ?_
    · show Steps p.tables e below (T60.setTop (mkF m 15 #[.val (.ref a), .val (.int (4 : Int32)), .unset] [(.int (3 : Int32)), (.int (2 : Int32))])) _
      refine XS.imul X60.here hx rfl (hb hby d9_15) rfl ?_
      show Steps p.tables e below (T60.setTop (mkF m 16 #[.val (.ref a), .val (.int (4 : Int32)), .unset] [(.int (6 : Int32))])) _
      refine XS.iloadN X60.here hx rfl (hb hby d9_16) rfl ?_
      exact kz
    obtain ⟨_, _, ⟨T62, L62, k62, n62⟩, -, X62, ⟨Lc62, hQ62, l62, y62, z62⟩, st62⟩ := Jvm.LawKit.callS X60 hx (y := (⟨"java/lang/Math", "max", "(II)I"⟩ : MethodName)) hown (mvT hZ (hw _ (List.mem_of_getElem? (i := 102) rfl))) (mvT hZ (hw _ (List.mem_of_getElem? (i := 103) rfl))) (mvT hZ (hw _ (List.mem_of_getElem? (i := 104) rfl))) (mvT hZ (hw _ (List.mem_of_getElem? (i := 105) rfl))) (by decide) (backOf (W := 0) (rmmax l Z a0 hw [] (6 : Int32) (4 : Int32) (6 : Int32) h0 n0 Z0 (by decide)) hZ (hw _ (List.mem_of_getElem? (i := 105) rfl)) (hw _ (List.mem_of_getElem? (i := 104) rfl)) (by decide) (by decide)) (g := (mkF m 17 #[.val (.ref a), .val (.int (4 : Int32)), .unset] [(.int (4 : Int32)), (.int (6 : Int32))])) rfl (by rw [hml]; rfl) (argsL := [(.int (6 : Int32)), (.int (4 : Int32))]) (rest := []) (lenOf own_pd0 rfl) rfl (by show 2 * 0 + _ ≤ _; exact Nat.le_of_eq rfl) (hb hby d9_17) (fun _ _ => ⟨rfl, e60, (by decide : 0 + 0 ≤ _), (by decide : 0 + 0 ≤ _)⟩)
    dsimp only [Pt.U, Pt.locs, Pt.cells, Pt.slots] at X62 l62 y62 z62 st62 hQ62
    subst l62 y62 z62
    obtain ⟨rfl, N62q, e62⟩ := hQ62
    have N62 := Fr.app N0 N62q
    refine own_go (A := T62.setTop (mkF m 20 #[.val (.ref a), .val (.int (4 : Int32)), .unset] [(.int (6 : Int32))])) (fun _ kz => st62 _ kz) ?_
    refine own_go (A := T62.setTop (mkF m 23 #[.val (.ref a), .val (.int (4 : Int32)), .val (.int (6 : Int32))] [(.ref a), (.ref a)])) (fun _ kz => ?_) ?_
    · show Steps p.tables e below (T62.setTop (mkF m 20 #[.val (.ref a), .val (.int (4 : Int32)), .unset] [(.int (6 : Int32))])) _
      refine XS.istoreN X62.here hx rfl (hb hby d9_20) rfl (l' := #[.val (.ref a), .val (.int (4 : Int32)), .val (.int (6 : Int32))]) rfl ?_
      show Steps p.tables e below (T62.setTop (mkF m 21 #[.val (.ref a), .val (.int (4 : Int32)), .val (.int (6 : Int32))] [])) _
      refine XS.aloadN X62.here hx rfl (hb hby d9_21) rfl rfl ?_
      show Steps p.tables e below (T62.setTop (mkF m 22 #[.val (.ref a), .val (.int (4 : Int32)), .val (.int (6 : Int32))] [(.ref a)])) _
      refine XS.aloadN X62.here hx rfl (hb hby d9_22) rfl rfl ?_
      exact kz
    obtain ⟨T63, X63, e63, st63⟩ := getF X62 hx hZ hown (host := "") (Or.inl (hw _ (List.mem_of_getElem? (i := 29) rfl))) Via.refl e62 Fw (g := (mkF m 23 #[.val (.ref a), .val (.int (4 : Int32)), .val (.int (6 : Int32))] [(.ref a), (.ref a)])) rfl rfl (hb hby d9_23)
    refine own_go (A := T63.setTop (mkF m 26 #[.val (.ref a), .val (.int (4 : Int32)), .val (.int (6 : Int32))] [(.ref w), (.ref a)])) (fun _ kz => st63 _ kz) ?_
    refine own_go (A := T63.setTop (mkF m 27 #[.val (.ref a), .val (.int (4 : Int32)), .val (.int (6 : Int32))] [(.int (6 : Int32)), (.ref w), (.ref a)])) (fun _ kz => ?_) ?_
    · show Steps p.tables e below (T63.setTop (mkF m 26 #[.val (.ref a), .val (.int (4 : Int32)), .val (.int (6 : Int32))] [(.ref w), (.ref a)])) _
      refine XS.iloadN X63.here hx rfl (hb hby d9_26) rfl ?_
      exact kz
    obtain ⟨_, _, ⟨T64, L64, k64, n64⟩, -, X64, ⟨Lc64, hQ64, l64, y64, z64⟩, st64⟩ := Jvm.LawKit.callS X63 hx (y := (⟨"java/util/Arrays", "copyOf", "([JI)[J"⟩ : MethodName)) hown (mvT hZ (hw _ (List.mem_of_getElem? (i := 106) rfl))) (mvT hZ (hw _ (List.mem_of_getElem? (i := 107) rfl))) (mvT hZ (hw _ (List.mem_of_getElem? (i := 108) rfl))) (mvT hZ (hw _ (List.mem_of_getElem? (i := 109) rfl))) (by decide) (backOf (W := 1) (rmCopy l Z a0 hw [] w (6 : Int32) kc (3 : Int32) f h0 n0 Z0 (by decide) hz Av) hZ (hw _ (List.mem_of_getElem? (i := 109) rfl)) (hw _ (List.mem_of_getElem? (i := 108) rfl)) (by decide) (by decide)) (g := (mkF m 27 #[.val (.ref a), .val (.int (4 : Int32)), .val (.int (6 : Int32))] [(.int (6 : Int32)), (.ref w), (.ref a)])) rfl (by rw [hml]; rfl) (argsL := [(.ref w), (.int (6 : Int32))]) (rest := [(.ref a)]) (lenOf own_pd1 rfl) rfl (by show 2 * 0 + _ ≤ _; exact Nat.le_of_eq rfl) (hb hby d9_27) (fun _ _ => ⟨rfl, e63, (by decide : 0 + 1 ≤ _), (by decide : 0 + 6 ≤ _)⟩)
    dsimp only [Pt.U, Pt.locs, Pt.cells, Pt.slots] at X64 l64 y64 z64 st64 hQ64
    subst l64 y64 z64
    obtain ⟨c64, kd64, rfl, N64q, zc64, K64q, Aq64⟩ := hQ64
    have N64 := Fr.app N62 N64q
    have ne_a_c64 : a ≠ c64 := Nat.ne_of_lt (Nat.lt_of_lt_of_le Ex.lt zc64)
    have ne_w_c64 : w ≠ c64 := Nat.ne_of_lt (Nat.lt_of_lt_of_le Av.lt zc64)
    have g_c64 : n0 ≤ c64 := Nat.le_trans Z0 zc64
    have szk_c64 : h0.size ≤ c64 := Nat.le_trans Kp0.1 zc64
    replace Ex := Ex.keep K64q
    replace Fw := Fw.keep K64q nin0
    replace Fu := Fu.keep K64q nin0
    replace Fs := Fs.keep K64q nin0
    replace Av := Av.keep K64q nin0
    have Z64 : n0 ≤ T64.heap.size := Nat.le_trans Z0 K64q.1
    have Kp64 : Keep h0 T64.heap [a] := Kp0.trans K64q (all0)
    refine own_go (A := T64.setTop (mkF m 30 #[.val (.ref a), .val (.int (4 : Int32)), .val (.int (6 : Int32))] [(.ref c64), (.ref a)])) (fun _ kz => st64 _ kz) ?_
    obtain ⟨T65, h65, X65, e65, W65, st65⟩ := putF X64 hx hZ hown (host := "") (Or.inl (hw _ (List.mem_of_getElem? (i := 29) rfl))) Via.refl rfl Fw Ex (Or.inl (hw _ (List.mem_of_getElem? (i := 30) rfl))) (hw _ (List.mem_of_getElem? (i := 10) rfl)) (ty := (.array .long)) (by decide) rfl rfl (g := (mkF m 30 #[.val (.ref a), .val (.int (4 : Int32)), .val (.int (6 : Int32))] [(.ref c64), (.ref a)])) rfl rfl (hb hby d9_30)
    have Fw65 := Fw.same W65
    replace Ex := Ex.wr W65
    replace Fu := Fu.other W65 (Or.inr (slot_ne (Or.inl (hw _ (List.mem_of_getElem? (i := 17) rfl))) (Or.inl (hw _ (List.mem_of_getElem? (i := 30) rfl))) (by decide) (t := .int) (t' := (.array .long)) (by decide) (by decide)))
    replace Fs := Fs.other W65 (Or.inr (slot_ne (Or.inl (hw _ (List.mem_of_getElem? (i := 19) rfl))) (Or.inl (hw _ (List.mem_of_getElem? (i := 30) rfl))) (by decide) (t := .boolean) (t' := (.array .long)) (by decide) (by decide)))
    replace Av := Av.other W65 ne_w_a
    replace Aq64 := Aq64.other W65 (Ne.symm ne_a_c64)
    have Z65 : n0 ≤ h65.size := Nat.le_trans Z64 (Keep.of_wr W65).1
    have Kp65 : Keep h0 h65 [a] := Kp64.wr W65 (Or.inl (List.mem_of_getElem? (i := 0) rfl))
    have F_words_a := Fw65
    have N65 := Fr.snoc X65 N64 g_a
    refine own_go (A := T65.setTop (mkF m 33 #[.val (.ref a), .val (.int (4 : Int32)), .val (.int (6 : Int32))] [])) (fun _ kz => st65 _ kz) ?_
    refine own_go (A := T65.setTop (mkF m 35 #[.val (.ref a), .val (.int (4 : Int32)), .val (.int (6 : Int32))] [(.int (0 : Int32)), (.ref a)])) (fun _ kz => ?_) ?_
    · show Steps p.tables e below (T65.setTop (mkF m 33 #[.val (.ref a), .val (.int (4 : Int32)), .val (.int (6 : Int32))] [])) _
      refine XS.aloadN X65.here hx rfl (hb hby d9_33) rfl rfl ?_
      show Steps p.tables e below (T65.setTop (mkF m 34 #[.val (.ref a), .val (.int (4 : Int32)), .val (.int (6 : Int32))] [(.ref a)])) _
      refine XS.iconst X65.here hx rfl (hb hby d9_34) ?_
      exact kz
    obtain ⟨T66, h66, X66, e66, W66, st66⟩ := putFN X65 hx hZ hown (hw _ (List.mem_of_getElem? (i := 18) rfl)) Via.refl e65 Fs Ex (Or.inl (hw _ (List.mem_of_getElem? (i := 19) rfl))) (hw _ (List.mem_of_getElem? (i := 10) rfl)) (ty := .boolean) (v' := (.int (0 : Int32))) (by decide) rfl (by first | exact fits_nar_bool _ | decide) (g := (mkF m 35 #[.val (.ref a), .val (.int (4 : Int32)), .val (.int (6 : Int32))] [(.int (0 : Int32)), (.ref a)])) rfl rfl (hb hby d9_35)
    have Fw66 := Fs.same W66
    replace Ex := Ex.wr W66
    replace F_words_a := F_words_a.other W66 (Or.inr (slot_ne (Or.inl (hw _ (List.mem_of_getElem? (i := 30) rfl))) (Or.inl (hw _ (List.mem_of_getElem? (i := 19) rfl))) (by decide) (t := (.array .long)) (t' := .boolean) (by decide) (by decide)))
    replace Fu := Fu.other W66 (Or.inr (slot_ne (Or.inl (hw _ (List.mem_of_getElem? (i := 17) rfl))) (Or.inl (hw _ (List.mem_of_getElem? (i := 19) rfl))) (by decide) (t := .int) (t' := .boolean) (by decide) (by decide)))
    replace Av := Av.other W66 ne_w_a
    replace Aq64 := Aq64.other W66 (Ne.symm ne_a_c64)
    have Z66 : n0 ≤ h66.size := Nat.le_trans Z65 (Keep.of_wr W66).1
    have Kp66 : Keep h0 h66 [a] := Kp65.wr W66 (Or.inl (List.mem_of_getElem? (i := 0) rfl))
    have F_sizeIsSticky_a := Fw66
    have N66 := Fr.snoc X66 N65 g_a
    refine own_go (A := T66.setTop (mkF m 38 #[.val (.ref a), .val (.int (4 : Int32)), .val (.int (6 : Int32))] [])) (fun _ kz => st66 _ kz) ?_
    obtain ⟨fs, hrr, hrun, hended, hW, hsame⟩ := X66.leave (v := none) (fun _ => rfl)
    refine ⟨_, _, ?_, hrun, hended, _, _, rfl, ?_, ⟨_, rfl⟩, hW, hsame.mono (by decide) (by decide)⟩
    · show Steps p.tables e below (T66.setTop (mkF m 38 #[.val (.ref a), .val (.int (4 : Int32)), .val (.int (6 : Int32))] [])) _
      exact X66.returnOut hx Bd.returns (hb hby d9_38) hrr
    · show QrmEC Z a (4 : Int32) w (3 : Int32) u f h0 n0 _ T66.heap _
      rw [e66]
      exact ⟨c64, kd64, (0 : Int32), rfl, N66, g_c64, Or.inr szk_c64, Kp66, Ex, F_words_a, Fu, F_sizeIsSticky_a, Aq64⟩
  · skip
    refine own_go (A := s₁.setTop (mkF m 1 #[.val (.ref a), .val (.int (1 : Int32)), .unset] [(.ref a)])) (fun _ kz => ?_) ?_
    · show Steps p.tables e below (s₁.setTop (mkF m 0 #[.val (.ref a), .val (.int (1 : Int32)), .unset] [])) _
      refine XS.aloadN X0.here hx rfl (hb hby d9_0) rfl rfl ?_
      exact kz
    obtain ⟨T67, X67, e67, st67⟩ := getF X0 hx hZ hown (host := "") (Or.inl (hw _ (List.mem_of_getElem? (i := 29) rfl))) Via.refl e0 Fw (g := (mkF m 1 #[.val (.ref a), .val (.int (1 : Int32)), .unset] [(.ref a)])) rfl rfl (hb hby d9_1)
    refine own_go (A := T67.setTop (mkF m 4 #[.val (.ref a), .val (.int (1 : Int32)), .unset] [(.ref w)])) (fun _ kz => st67 _ kz) ?_
    obtain ⟨cl68, Ar68, -, S68, M68, -, -⟩ := id Av
    refine own_go (A := T67.setTop (mkF m 5 #[.val (.ref a), .val (.int (1 : Int32)), .unset] [(.int (4 : Int32))])) (fun _ kz => ?_) ?_
    · refine X67.arraylength hx (by rw [e67]; exact Ar68.1) (State.isArrayOf_alike hZ.alike Ar68.2.1) (g := (mkF m 4 #[.val (.ref a), .val (.int (1 : Int32)), .unset] [(.ref w)])) rfl rfl (hb hby d9_4) _ ?_
      rw [len_of S68 M68]
      exact kz
    refine own_go (A := T67.setTop (mkF m 38 #[.val (.ref a), .val (.int (1 : Int32)), .unset] [])) (fun _ kz => ?_) ?_
    · show Steps p.tables e below (T67.setTop (mkF m 5 #[.val (.ref a), .val (.int (1 : Int32)), .unset] [(.int (4 : Int32))])) _
      refine XS.iloadN X67.here hx rfl (hb hby d9_5) rfl ?_
      show Steps p.tables e below (T67.setTop (mkF m 6 #[.val (.ref a), .val (.int (1 : Int32)), .unset] [(.int (1 : Int32)), (.int (4 : Int32))])) _
      refine XS.icmpYes X67.here hx rfl (pc0 := 6) (pc' := 38) rfl (hb hby d9_6) rfl (flt (by decide : ¬ ((4 : Int32) < (1 : Int32)))).2.1 (by decide) (by decide) ?_
      exact kz
    obtain ⟨fs, hrr, hrun, hended, hW, hsame⟩ := X67.leave (v := none) (fun _ => rfl)
    refine ⟨_, _, ?_, hrun, hended, _, _, rfl, ?_, ⟨_, rfl⟩, hW, hsame.mono (by decide) (by decide)⟩
    · show Steps p.tables e below (T67.setTop (mkF m 38 #[.val (.ref a), .val (.int (1 : Int32)), .unset] [])) _
      exact X67.returnOut hx Bd.returns (hb hby d9_38) hrr
    · show QrmEC Z a (1 : Int32) w (4 : Int32) u f h0 n0 _ T67.heap _
      rw [e67]
      exact ⟨w, kc, s_, rfl, N0, g_w, Or.inl rfl, Kp0, Ex, Fw, Fu, Fs, Av⟩
  · skip
    refine own_go (A := s₁.setTop (mkF m 1 #[.val (.ref a), .val (.int (2 : Int32)), .unset] [(.ref a)])) (fun _ kz => ?_) ?_
    · show Steps p.tables e below (s₁.setTop (mkF m 0 #[.val (.ref a), .val (.int (2 : Int32)), .unset] [])) _
      refine XS.aloadN X0.here hx rfl (hb hby d9_0) rfl rfl ?_
      exact kz
    obtain ⟨T69, X69, e69, st69⟩ := getF X0 hx hZ hown (host := "") (Or.inl (hw _ (List.mem_of_getElem? (i := 29) rfl))) Via.refl e0 Fw (g := (mkF m 1 #[.val (.ref a), .val (.int (2 : Int32)), .unset] [(.ref a)])) rfl rfl (hb hby d9_1)
    refine own_go (A := T69.setTop (mkF m 4 #[.val (.ref a), .val (.int (2 : Int32)), .unset] [(.ref w)])) (fun _ kz => st69 _ kz) ?_
    obtain ⟨cl70, Ar70, -, S70, M70, -, -⟩ := id Av
    refine own_go (A := T69.setTop (mkF m 5 #[.val (.ref a), .val (.int (2 : Int32)), .unset] [(.int (4 : Int32))])) (fun _ kz => ?_) ?_
    · refine X69.arraylength hx (by rw [e69]; exact Ar70.1) (State.isArrayOf_alike hZ.alike Ar70.2.1) (g := (mkF m 4 #[.val (.ref a), .val (.int (2 : Int32)), .unset] [(.ref w)])) rfl rfl (hb hby d9_4) _ ?_
      rw [len_of S70 M70]
      exact kz
    refine own_go (A := T69.setTop (mkF m 38 #[.val (.ref a), .val (.int (2 : Int32)), .unset] [])) (fun _ kz => ?_) ?_
    · show Steps p.tables e below (T69.setTop (mkF m 5 #[.val (.ref a), .val (.int (2 : Int32)), .unset] [(.int (4 : Int32))])) _
      refine XS.iloadN X69.here hx rfl (hb hby d9_5) rfl ?_
      show Steps p.tables e below (T69.setTop (mkF m 6 #[.val (.ref a), .val (.int (2 : Int32)), .unset] [(.int (2 : Int32)), (.int (4 : Int32))])) _
      refine XS.icmpYes X69.here hx rfl (pc0 := 6) (pc' := 38) rfl (hb hby d9_6) rfl (flt (by decide : ¬ ((4 : Int32) < (2 : Int32)))).2.1 (by decide) (by decide) ?_
      exact kz
    obtain ⟨fs, hrr, hrun, hended, hW, hsame⟩ := X69.leave (v := none) (fun _ => rfl)
    refine ⟨_, _, ?_, hrun, hended, _, _, rfl, ?_, ⟨_, rfl⟩, hW, hsame.mono (by decide) (by decide)⟩
    · show Steps p.tables e below (T69.setTop (mkF m 38 #[.val (.ref a), .val (.int (2 : Int32)), .unset] [])) _
      exact X69.returnOut hx Bd.returns (hb hby d9_38) hrr
    · show QrmEC Z a (2 : Int32) w (4 : Int32) u f h0 n0 _ T69.heap _
      rw [e69]
      exact ⟨w, kc, s_, rfl, N0, g_w, Or.inl rfl, Kp0, Ex, Fw, Fu, Fs, Av⟩
  · skip
    refine own_go (A := s₁.setTop (mkF m 1 #[.val (.ref a), .val (.int (3 : Int32)), .unset] [(.ref a)])) (fun _ kz => ?_) ?_
    · show Steps p.tables e below (s₁.setTop (mkF m 0 #[.val (.ref a), .val (.int (3 : Int32)), .unset] [])) _
      refine XS.aloadN X0.here hx rfl (hb hby d9_0) rfl rfl ?_
      exact kz
    obtain ⟨T71, X71, e71, st71⟩ := getF X0 hx hZ hown (host := "") (Or.inl (hw _ (List.mem_of_getElem? (i := 29) rfl))) Via.refl e0 Fw (g := (mkF m 1 #[.val (.ref a), .val (.int (3 : Int32)), .unset] [(.ref a)])) rfl rfl (hb hby d9_1)
    refine own_go (A := T71.setTop (mkF m 4 #[.val (.ref a), .val (.int (3 : Int32)), .unset] [(.ref w)])) (fun _ kz => st71 _ kz) ?_
    obtain ⟨cl72, Ar72, -, S72, M72, -, -⟩ := id Av
    refine own_go (A := T71.setTop (mkF m 5 #[.val (.ref a), .val (.int (3 : Int32)), .unset] [(.int (4 : Int32))])) (fun _ kz => ?_) ?_
    · refine X71.arraylength hx (by rw [e71]; exact Ar72.1) (State.isArrayOf_alike hZ.alike Ar72.2.1) (g := (mkF m 4 #[.val (.ref a), .val (.int (3 : Int32)), .unset] [(.ref w)])) rfl rfl (hb hby d9_4) _ ?_
      rw [len_of S72 M72]
      exact kz
    refine own_go (A := T71.setTop (mkF m 38 #[.val (.ref a), .val (.int (3 : Int32)), .unset] [])) (fun _ kz => ?_) ?_
    · show Steps p.tables e below (T71.setTop (mkF m 5 #[.val (.ref a), .val (.int (3 : Int32)), .unset] [(.int (4 : Int32))])) _
      refine XS.iloadN X71.here hx rfl (hb hby d9_5) rfl ?_
      show Steps p.tables e below (T71.setTop (mkF m 6 #[.val (.ref a), .val (.int (3 : Int32)), .unset] [(.int (3 : Int32)), (.int (4 : Int32))])) _
      refine XS.icmpYes X71.here hx rfl (pc0 := 6) (pc' := 38) rfl (hb hby d9_6) rfl (flt (by decide : ¬ ((4 : Int32) < (3 : Int32)))).2.1 (by decide) (by decide) ?_
      exact kz
    obtain ⟨fs, hrr, hrun, hended, hW, hsame⟩ := X71.leave (v := none) (fun _ => rfl)
    refine ⟨_, _, ?_, hrun, hended, _, _, rfl, ?_, ⟨_, rfl⟩, hW, hsame.mono (by decide) (by decide)⟩
    · show Steps p.tables e below (T71.setTop (mkF m 38 #[.val (.ref a), .val (.int (3 : Int32)), .unset] [])) _
      exact X71.returnOut hx Bd.returns (hb hby d9_38) hrr
    · show QrmEC Z a (3 : Int32) w (4 : Int32) u f h0 n0 _ T71.heap _
      rw [e71]
      exact ⟨w, kc, s_, rfl, N0, g_w, Or.inl rfl, Kp0, Ex, Fw, Fu, Fs, Av⟩
  · skip
    refine own_go (A := s₁.setTop (mkF m 1 #[.val (.ref a), .val (.int (4 : Int32)), .unset] [(.ref a)])) (fun _ kz => ?_) ?_
    · show Steps p.tables e below (s₁.setTop (mkF m 0 #[.val (.ref a), .val (.int (4 : Int32)), .unset] [])) _
      refine XS.aloadN X0.here hx rfl (hb hby d9_0) rfl rfl ?_
      exact kz
    obtain ⟨T73, X73, e73, st73⟩ := getF X0 hx hZ hown (host := "") (Or.inl (hw _ (List.mem_of_getElem? (i := 29) rfl))) Via.refl e0 Fw (g := (mkF m 1 #[.val (.ref a), .val (.int (4 : Int32)), .unset] [(.ref a)])) rfl rfl (hb hby d9_1)
    refine own_go (A := T73.setTop (mkF m 4 #[.val (.ref a), .val (.int (4 : Int32)), .unset] [(.ref w)])) (fun _ kz => st73 _ kz) ?_
    obtain ⟨cl74, Ar74, -, S74, M74, -, -⟩ := id Av
    refine own_go (A := T73.setTop (mkF m 5 #[.val (.ref a), .val (.int (4 : Int32)), .unset] [(.int (4 : Int32))])) (fun _ kz => ?_) ?_
    · refine X73.arraylength hx (by rw [e73]; exact Ar74.1) (State.isArrayOf_alike hZ.alike Ar74.2.1) (g := (mkF m 4 #[.val (.ref a), .val (.int (4 : Int32)), .unset] [(.ref w)])) rfl rfl (hb hby d9_4) _ ?_
      rw [len_of S74 M74]
      exact kz
    refine own_go (A := T73.setTop (mkF m 38 #[.val (.ref a), .val (.int (4 : Int32)), .unset] [])) (fun _ kz => ?_) ?_
    · show Steps p.tables e below (T73.setTop (mkF m 5 #[.val (.ref a), .val (.int (4 : Int32)), .unset] [(.int (4 : Int32))])) _
      refine XS.iloadN X73.here hx rfl (hb hby d9_5) rfl ?_
      show Steps p.tables e below (T73.setTop (mkF m 6 #[.val (.ref a), .val (.int (4 : Int32)), .unset] [(.int (4 : Int32)), (.int (4 : Int32))])) _
      refine XS.icmpYes X73.here hx rfl (pc0 := 6) (pc' := 38) rfl (hb hby d9_6) rfl (flt (by decide : ¬ ((4 : Int32) < (4 : Int32)))).2.1 (by decide) (by decide) ?_
      exact kz
    obtain ⟨fs, hrr, hrun, hended, hW, hsame⟩ := X73.leave (v := none) (fun _ => rfl)
    refine ⟨_, _, ?_, hrun, hended, _, _, rfl, ?_, ⟨_, rfl⟩, hW, hsame.mono (by decide) (by decide)⟩
    · show Steps p.tables e below (T73.setTop (mkF m 38 #[.val (.ref a), .val (.int (4 : Int32)), .unset] [])) _
      exact X73.returnOut hx Bd.returns (hb hby d9_38) hrr
    · show QrmEC Z a (4 : Int32) w (4 : Int32) u f h0 n0 _ T73.heap _
      rw [e73]
      exact ⟨w, kc, s_, rfl, N0, g_w, Or.inl rfl, Kp0, Ex, Fw, Fu, Fs, Av⟩
theorem d8_0 : decode jdk_92_method_15_code 0 = .ok (.iload_n 1, 1) := by decide +kernel
theorem d8_1 : decode jdk_92_method_15_code 1 = .ok (.iconst 1, 1) := by decide +kernel
theorem d8_2 : decode jdk_92_method_15_code 2 = .ok (.iadd, 1) := by decide +kernel
theorem d8_3 : decode jdk_92_method_15_code 3 = .ok (.istore_n 2, 1) := by decide +kernel
theorem d8_4 : decode jdk_92_method_15_code 4 = .ok (.aload_n 0, 1) := by decide +kernel
theorem d8_5 : decode jdk_92_method_15_code 5 = .ok (.getfield 7, 3) := by decide +kernel
theorem d8_8 : decode jdk_92_method_15_code 8 = .ok (.iload_n 2, 1) := by decide +kernel
theorem d8_9 : decode jdk_92_method_15_code 9 = .ok (.if_icmp .ge 13, 3) := by decide +kernel
theorem d8_12 : decode jdk_92_method_15_code 12 = .ok (.aload_n 0, 1) := by decide +kernel
theorem d8_13 : decode jdk_92_method_15_code 13 = .ok (.iload_n 2, 1) := by decide +kernel
theorem d8_14 : decode jdk_92_method_15_code 14 = .ok (.invokevirtual 139, 3) := by decide +kernel
theorem d8_17 : decode jdk_92_method_15_code 17 = .ok (.aload_n 0, 1) := by decide +kernel
theorem d8_18 : decode jdk_92_method_15_code 18 = .ok (.iload_n 2, 1) := by decide +kernel
theorem d8_19 : decode jdk_92_method_15_code 19 = .ok (.putfield 7, 3) := by decide +kernel
theorem d8_22 : decode jdk_92_method_15_code 22 = .ok (.return_, 1) := by decide +kernel
theorem own_pn8 : plainName "java/util/BitSet" = true := by first | (simp [plainName, overriddenIn]; done) | decide +kernel
theorem own_ef8 (m : MethodId) (x0 : Addr) (x1 : Int32) : entryFrame m #[(.ref x0), (.int x1)] 3 = mkF m 0 #[.val (.ref x0), .val (.int x1), .unset] [] := by first | (simp [entryFrame, mkF, argsToLocals, Value.category]; done) | rfl
def QrmEx (Z : State) (a : Addr) (wi : Int32) (w : Addr) (len : Int32) (u : Int32) (f : Nat → Int64) (h0 : Heap) (n0 : Nat) (v : Option Value) (h : Heap) (L : List Loc) : Prop := ∃ (w' : Addr) (kd : ClassId) (s' : Int32), v = none ∧ Fr n0 L ∧ n0 ≤ w' ∧ (w' = w ∨ h0.size ≤ w') ∧ Keep h0 h [a] ∧ Exa Z h a "java/util/BitSet" ∧ Fld Z h a "java/util/BitSet" "words" "[J" (.ref w') ∧ Fld Z h a "java/util/BitSet" "wordsInUse" "I" (.int (own_nu u wi)) ∧ Fld Z h a "java/util/BitSet" "sizeIsSticky" "Z" (.int s') ∧ Arv Z h w' kd .long (own_nl len u wi) (own_vals (own_nl len u wi) f) (.long (0 : Int64))
set_option maxRecDepth 65536 in
set_option maxHeartbeats 40000000 in
theorem rmEx (l : Launch) (Z : State) (a0 : Array Value) (hw : ∀ d ∈ tables_1, d.before a0 Z = true) (ws : List Jvm.Cond) (a : Addr) (wi : Int32) (w : Addr) (kc : ClassId) (len u s_ : Int32) (f : Nat → Int64) (h0 : Heap) (n0 : Nat) (Z0 : n0 ≤ h0.size) (hsh : (len = (1 : Int32) ∧ u = (0 : Int32)) ∨ (len = (1 : Int32) ∧ u = (1 : Int32)) ∨ (len = (2 : Int32) ∧ u = (2 : Int32)) ∨ (len = (3 : Int32) ∧ u = (3 : Int32)) ∨ (len = (4 : Int32) ∧ u = (4 : Int32))) (hw4 : wi = (0 : Int32) ∨ wi = (1 : Int32) ∨ wi = (2 : Int32) ∨ wi = (3 : Int32)) (hz : ∀ k : Nat, (u).toNatClampNeg ≤ k → f k = (0 : Int64)) (Ex : Exa Z h0 a "java/util/BitSet") (Fw : Fld Z h0 a "java/util/BitSet" "words" "[J" (.ref w)) (Fu : Fld Z h0 a "java/util/BitSet" "wordsInUse" "I" (.int u)) (Fs : Fld Z h0 a "java/util/BitSet" "sizeIsSticky" "Z" (.int s_)) (Av : Arv Z h0 w kc .long len (own_vals len f) (.long (0 : Int64))) (g_a : n0 ≤ a) (ne_w_a : w ≠ a) (g_w : n0 ≤ w) :
    MetFree l (⟨"java/util/BitSet", "expandTo", "(I)V"⟩ : MethodName) (head1 (Jvm.Cond.code (⟨"java/util/BitSet", "expandTo", "(I)V"⟩ : MethodName) jdk_92_method_15_code 3 none :: ws) ({ frames := 3, cells := 1, slots := 6, locals := 69 } : Room)) (fun ar_ U_ => ar_ = #[(.ref a), (.int wi)] ∧ Z.Warmed39 U_.vm ∧ U_.heap = h0) (fun _ _ _ _ _ => True) (fun _ U_ ou_ V_ => ∃ v_ L_, ou_ = .returned v_ ∧ QrmEx Z a wi w len u f h0 n0 v_ V_.heap L_ ∧ FrameEnd U_ ou_ V_ L_ ({ frames := 3, cells := 1, slots := 6, locals := 69 } : Room).cells ({ frames := 3, cells := 1, slots := 6, locals := 69 } : Room).slots) := by
  refine MetFree.of_bodySF (plainFor_of_name own_pn8) hisR ?_
  intro p e s m args below meth c s₁ Bd hml0 hP hK
  obtain ⟨rfl, hZ, hh⟩ := hP
  have hx := Bd.exec
  have hby := Bd.bytes
  have hml : c.maxLocals = 3 := hml0
  have hown : s.vm.findClass "java/util/BitSet" = some m.cls := findClass_of_methodNamed Bd.named
  have hnm := (name_of_methodNamed Bd.named Bd.method).1
  have X0 : Stand p l e ({ frames := 3, cells := 1, slots := 6, locals := 69 } : Room) s m #[(.ref a), (.int wi)] below meth c s₁ [] 0 0 := Stand.of_body Bd
  have e0 : s₁.heap = h0 := by rw [← hh, Bd.state]; rfl
  have N0 := Fr.nil n0
  have Kp0 : Keep h0 h0 [a] := Keep.refl h0 _
  refine own_go (A := s₁.setTop (mkF m 0 #[.val (.ref a), .val (.int wi), .unset] [])) (fun t kz => castTop (own_ef8 m a wi) kz) ?_
  rcases hsh with ⟨rfl, rfl⟩ | ⟨rfl, rfl⟩ | ⟨rfl, rfl⟩ | ⟨rfl, rfl⟩ | ⟨rfl, rfl⟩
  · skip
    rcases hw4 with rfl | rfl | rfl | rfl
    · skip
      refine own_go (A := s₁.setTop (mkF m 5 #[.val (.ref a), .val (.int (0 : Int32)), .val (.int (1 : Int32))] [(.ref a)])) (fun _ kz => ?_) ?_
      · show Steps p.tables e below (s₁.setTop (mkF m 0 #[.val (.ref a), .val (.int (0 : Int32)), .unset] [])) _
        refine XS.iloadN X0.here hx rfl (hb hby d8_0) rfl ?_
        show Steps p.tables e below (s₁.setTop (mkF m 1 #[.val (.ref a), .val (.int (0 : Int32)), .unset] [(.int (0 : Int32))])) _
        refine XS.iconst X0.here hx rfl (hb hby d8_1) ?_
        show Steps p.tables e below (s₁.setTop (mkF m 2 #[.val (.ref a), .val (.int (0 : Int32)), .unset] [(.int (1 : Int32)), (.int (0 : Int32))])) _
        refine XS.iadd X0.here hx rfl (hb hby d8_2) rfl ?_
        show Steps p.tables e below (s₁.setTop (mkF m 3 #[.val (.ref a), .val (.int (0 : Int32)), .unset] [(.int (1 : Int32))])) _
        refine XS.istoreN X0.here hx rfl (hb hby d8_3) rfl (l' := #[.val (.ref a), .val (.int (0 : Int32)), .val (.int (1 : Int32))]) rfl ?_
        show Steps p.tables e below (s₁.setTop (mkF m 4 #[.val (.ref a), .val (.int (0 : Int32)), .val (.int (1 : Int32))] [])) _
        refine XS.aloadN X0.here hx rfl (hb hby d8_4) rfl rfl ?_
        exact kz
      obtain ⟨T1, X1, e1, st1⟩ := getF X0 hx hZ hown (host := "") (Or.inl (hw _ (List.mem_of_getElem? (i := 16) rfl))) Via.refl e0 Fu (g := (mkF m 5 #[.val (.ref a), .val (.int (0 : Int32)), .val (.int (1 : Int32))] [(.ref a)])) rfl rfl (hb hby d8_5)
      refine own_go (A := T1.setTop (mkF m 8 #[.val (.ref a), .val (.int (0 : Int32)), .val (.int (1 : Int32))] [(.int (0 : Int32))])) (fun _ kz => st1 _ kz) ?_
      refine own_go (A := T1.setTop (mkF m 14 #[.val (.ref a), .val (.int (0 : Int32)), .val (.int (1 : Int32))] [(.int (1 : Int32)), (.ref a)])) (fun _ kz => ?_) ?_
      · show Steps p.tables e below (T1.setTop (mkF m 8 #[.val (.ref a), .val (.int (0 : Int32)), .val (.int (1 : Int32))] [(.int (0 : Int32))])) _
        refine XS.iloadN X1.here hx rfl (hb hby d8_8) rfl ?_
        show Steps p.tables e below (T1.setTop (mkF m 9 #[.val (.ref a), .val (.int (0 : Int32)), .val (.int (1 : Int32))] [(.int (1 : Int32)), (.int (0 : Int32))])) _
        refine XS.icmpNo X1.here hx rfl (hb hby d8_9) rfl (tlt (by decide : ((0 : Int32) < (1 : Int32)))).2.1 ?_
        show Steps p.tables e below (T1.setTop (mkF m 12 #[.val (.ref a), .val (.int (0 : Int32)), .val (.int (1 : Int32))] [])) _
        refine XS.aloadN X1.here hx rfl (hb hby d8_12) rfl rfl ?_
        show Steps p.tables e below (T1.setTop (mkF m 13 #[.val (.ref a), .val (.int (0 : Int32)), .val (.int (1 : Int32))] [(.ref a)])) _
        refine XS.iloadN X1.here hx rfl (hb hby d8_13) rfl ?_
        exact kz
      obtain ⟨cq2, q2, q2'⟩ := Ex.cell
      obtain ⟨_, _, ⟨T2, L2, k2, n2⟩, -, X2, ⟨Lc2, hQ2, l2, y2, z2⟩, st2⟩ := X1.privateBack hx (y := (⟨"java/util/BitSet", "ensureCapacity", "(I)V"⟩ : MethodName)) hown (mvT hZ (hw _ (List.mem_of_getElem? (i := 52) rfl))) (mvT hZ (hw _ (List.mem_of_getElem? (i := 53) rfl))) (mvT hZ (hw _ (List.mem_of_getElem? (i := 55) rfl))) (Cond.privateMethod_at (mvP hZ (hw _ (List.mem_of_getElem? (i := 54) rfl)) (args := #[]))) (mvT hZ (hw _ (List.mem_of_getElem? (i := 56) rfl))) (by decide) (backOf (W := 0) (rmEC l Z a0 hw [] a (1 : Int32) w kc (1 : Int32) (0 : Int32) s_ f h0 n0 Z0 (by decide) (fun k hk => hz k (Nat.le_trans (by decide) hk)) Ex Fw Fu Fs Av g_a ne_w_a g_w) hZ (hw _ (List.mem_of_getElem? (i := 56) rfl)) (hw _ (List.mem_of_getElem? (i := 11) rfl)) (by decide) (by decide)) (g := (mkF m 14 #[.val (.ref a), .val (.int (0 : Int32)), .val (.int (1 : Int32))] [(.int (1 : Int32)), (.ref a)])) rfl (by rw [hml]; rfl) (Steps.refl _) (a := a) (by rw [e1]; exact q2) q2' (argsL := [(.int (1 : Int32))]) (rest := []) (lenOf own_pd2 rfl) rfl (by show 2 * 0 + _ ≤ _; exact Nat.le_of_eq rfl) (hb hby d8_14) (fun _ _ => ⟨rfl, e1, (by decide : 0 + 1 ≤ _), (by decide : 0 + 6 ≤ _)⟩)
      dsimp only [Pt.U, Pt.locs, Pt.cells, Pt.slots] at X2 l2 y2 z2 st2 hQ2
      subst l2 y2 z2
      obtain ⟨c2, kd2, s2, rfl, N2q, g_c2, hcw2, K2q, _, Fw2, Fu2, Fs2, Aq2⟩ := hQ2
      have N2 := Fr.app N0 N2q
      replace Ex := Ex.keep K2q
      replace Av := Av.keep K2q (ninS ne_w_a nin0)
      have Z2 : n0 ≤ T2.heap.size := Nat.le_trans Z0 K2q.1
      have Kp2 : Keep h0 T2.heap [a] := Kp0.trans K2q (allS (Or.inl (List.mem_of_getElem? (i := 0) rfl)) (all0))
      have ne_c2_a : c2 ≠ a := Ne.symm (own_neA Ex (hw _ (List.mem_of_getElem? (i := 10) rfl)) Aq2)
      refine own_go (A := T2.setTop (mkF m 17 #[.val (.ref a), .val (.int (0 : Int32)), .val (.int (1 : Int32))] [])) (fun _ kz => st2.trans kz) ?_
      refine own_go (A := T2.setTop (mkF m 19 #[.val (.ref a), .val (.int (0 : Int32)), .val (.int (1 : Int32))] [(.int (1 : Int32)), (.ref a)])) (fun _ kz => ?_) ?_
      · show Steps p.tables e below (T2.setTop (mkF m 17 #[.val (.ref a), .val (.int (0 : Int32)), .val (.int (1 : Int32))] [])) _
        refine XS.aloadN X2.here hx rfl (hb hby d8_17) rfl rfl ?_
        show Steps p.tables e below (T2.setTop (mkF m 18 #[.val (.ref a), .val (.int (0 : Int32)), .val (.int (1 : Int32))] [(.ref a)])) _
        refine XS.iloadN X2.here hx rfl (hb hby d8_18) rfl ?_
        exact kz
      obtain ⟨T3, h3, X3, e3, W3, st3⟩ := putF X2 hx hZ hown (host := "") (Or.inl (hw _ (List.mem_of_getElem? (i := 16) rfl))) Via.refl rfl Fu2 Ex (Or.inl (hw _ (List.mem_of_getElem? (i := 17) rfl))) (hw _ (List.mem_of_getElem? (i := 10) rfl)) (ty := .int) (by decide) rfl rfl (g := (mkF m 19 #[.val (.ref a), .val (.int (0 : Int32)), .val (.int (1 : Int32))] [(.int (1 : Int32)), (.ref a)])) rfl rfl (hb hby d8_19)
      have Fw3 := Fu2.same W3
      replace Ex := Ex.wr W3
      replace Av := Av.other W3 ne_w_a
      replace Aq2 := Aq2.other W3 ne_c2_a
      replace Fw2 := Fw2.other W3 (Or.inr (slot_ne (Or.inl (hw _ (List.mem_of_getElem? (i := 30) rfl))) (Or.inl (hw _ (List.mem_of_getElem? (i := 17) rfl))) (by decide) (t := (.array .long)) (t' := .int) (by decide) (by decide)))
      replace Fs2 := Fs2.other W3 (Or.inr (slot_ne (Or.inl (hw _ (List.mem_of_getElem? (i := 19) rfl))) (Or.inl (hw _ (List.mem_of_getElem? (i := 17) rfl))) (by decide) (t := .boolean) (t' := .int) (by decide) (by decide)))
      have Z3 : n0 ≤ h3.size := Nat.le_trans Z2 (Keep.of_wr W3).1
      have Kp3 : Keep h0 h3 [a] := Kp2.wr W3 (Or.inl (List.mem_of_getElem? (i := 0) rfl))
      have F_wordsInUse_a := Fw3
      have N3 := Fr.snoc X3 N2 g_a
      refine own_go (A := T3.setTop (mkF m 22 #[.val (.ref a), .val (.int (0 : Int32)), .val (.int (1 : Int32))] [])) (fun _ kz => st3 _ kz) ?_
      obtain ⟨fs, hrr, hrun, hended, hW, hsame⟩ := X3.leave (v := none) (fun _ => rfl)
      refine ⟨_, _, ?_, hrun, hended, _, _, rfl, ?_, ⟨_, rfl⟩, hW, hsame.mono (by decide) (by decide)⟩
      · show Steps p.tables e below (T3.setTop (mkF m 22 #[.val (.ref a), .val (.int (0 : Int32)), .val (.int (1 : Int32))] [])) _
        exact X3.returnOut hx Bd.returns (hb hby d8_22) hrr
      · show QrmEx Z a (0 : Int32) w (1 : Int32) (0 : Int32) f h0 n0 _ T3.heap _
        rw [e3]
        exact ⟨c2, kd2, s2, rfl, N3, g_c2, hcw2, Kp3, Ex, Fw2, F_wordsInUse_a, Fs2, Aq2⟩
    · skip
      refine own_go (A := s₁.setTop (mkF m 5 #[.val (.ref a), .val (.int (1 : Int32)), .val (.int (2 : Int32))] [(.ref a)])) (fun _ kz => ?_) ?_
      · show Steps p.tables e below (s₁.setTop (mkF m 0 #[.val (.ref a), .val (.int (1 : Int32)), .unset] [])) _
        refine XS.iloadN X0.here hx rfl (hb hby d8_0) rfl ?_
        show Steps p.tables e below (s₁.setTop (mkF m 1 #[.val (.ref a), .val (.int (1 : Int32)), .unset] [(.int (1 : Int32))])) _
        refine XS.iconst X0.here hx rfl (hb hby d8_1) ?_
        show Steps p.tables e below (s₁.setTop (mkF m 2 #[.val (.ref a), .val (.int (1 : Int32)), .unset] [(.int (1 : Int32)), (.int (1 : Int32))])) _
        refine XS.iadd X0.here hx rfl (hb hby d8_2) rfl ?_
        show Steps p.tables e below (s₁.setTop (mkF m 3 #[.val (.ref a), .val (.int (1 : Int32)), .unset] [(.int (2 : Int32))])) _
        refine XS.istoreN X0.here hx rfl (hb hby d8_3) rfl (l' := #[.val (.ref a), .val (.int (1 : Int32)), .val (.int (2 : Int32))]) rfl ?_
        show Steps p.tables e below (s₁.setTop (mkF m 4 #[.val (.ref a), .val (.int (1 : Int32)), .val (.int (2 : Int32))] [])) _
        refine XS.aloadN X0.here hx rfl (hb hby d8_4) rfl rfl ?_
        exact kz
      obtain ⟨T4, X4, e4, st4⟩ := getF X0 hx hZ hown (host := "") (Or.inl (hw _ (List.mem_of_getElem? (i := 16) rfl))) Via.refl e0 Fu (g := (mkF m 5 #[.val (.ref a), .val (.int (1 : Int32)), .val (.int (2 : Int32))] [(.ref a)])) rfl rfl (hb hby d8_5)
      refine own_go (A := T4.setTop (mkF m 8 #[.val (.ref a), .val (.int (1 : Int32)), .val (.int (2 : Int32))] [(.int (0 : Int32))])) (fun _ kz => st4 _ kz) ?_
      refine own_go (A := T4.setTop (mkF m 14 #[.val (.ref a), .val (.int (1 : Int32)), .val (.int (2 : Int32))] [(.int (2 : Int32)), (.ref a)])) (fun _ kz => ?_) ?_
      · show Steps p.tables e below (T4.setTop (mkF m 8 #[.val (.ref a), .val (.int (1 : Int32)), .val (.int (2 : Int32))] [(.int (0 : Int32))])) _
        refine XS.iloadN X4.here hx rfl (hb hby d8_8) rfl ?_
        show Steps p.tables e below (T4.setTop (mkF m 9 #[.val (.ref a), .val (.int (1 : Int32)), .val (.int (2 : Int32))] [(.int (2 : Int32)), (.int (0 : Int32))])) _
        refine XS.icmpNo X4.here hx rfl (hb hby d8_9) rfl (tlt (by decide : ((0 : Int32) < (2 : Int32)))).2.1 ?_
        show Steps p.tables e below (T4.setTop (mkF m 12 #[.val (.ref a), .val (.int (1 : Int32)), .val (.int (2 : Int32))] [])) _
        refine XS.aloadN X4.here hx rfl (hb hby d8_12) rfl rfl ?_
        show Steps p.tables e below (T4.setTop (mkF m 13 #[.val (.ref a), .val (.int (1 : Int32)), .val (.int (2 : Int32))] [(.ref a)])) _
        refine XS.iloadN X4.here hx rfl (hb hby d8_13) rfl ?_
        exact kz
      obtain ⟨cq5, q5, q5'⟩ := Ex.cell
      obtain ⟨_, _, ⟨T5, L5, k5, n5⟩, -, X5, ⟨Lc5, hQ5, l5, y5, z5⟩, st5⟩ := X4.privateBack hx (y := (⟨"java/util/BitSet", "ensureCapacity", "(I)V"⟩ : MethodName)) hown (mvT hZ (hw _ (List.mem_of_getElem? (i := 52) rfl))) (mvT hZ (hw _ (List.mem_of_getElem? (i := 53) rfl))) (mvT hZ (hw _ (List.mem_of_getElem? (i := 55) rfl))) (Cond.privateMethod_at (mvP hZ (hw _ (List.mem_of_getElem? (i := 54) rfl)) (args := #[]))) (mvT hZ (hw _ (List.mem_of_getElem? (i := 56) rfl))) (by decide) (backOf (W := 0) (rmEC l Z a0 hw [] a (2 : Int32) w kc (1 : Int32) (0 : Int32) s_ f h0 n0 Z0 (by decide) (fun k hk => hz k (Nat.le_trans (by decide) hk)) Ex Fw Fu Fs Av g_a ne_w_a g_w) hZ (hw _ (List.mem_of_getElem? (i := 56) rfl)) (hw _ (List.mem_of_getElem? (i := 11) rfl)) (by decide) (by decide)) (g := (mkF m 14 #[.val (.ref a), .val (.int (1 : Int32)), .val (.int (2 : Int32))] [(.int (2 : Int32)), (.ref a)])) rfl (by rw [hml]; rfl) (Steps.refl _) (a := a) (by rw [e4]; exact q5) q5' (argsL := [(.int (2 : Int32))]) (rest := []) (lenOf own_pd2 rfl) rfl (by show 2 * 0 + _ ≤ _; exact Nat.le_of_eq rfl) (hb hby d8_14) (fun _ _ => ⟨rfl, e4, (by decide : 0 + 1 ≤ _), (by decide : 0 + 6 ≤ _)⟩)
      dsimp only [Pt.U, Pt.locs, Pt.cells, Pt.slots] at X5 l5 y5 z5 st5 hQ5
      subst l5 y5 z5
      obtain ⟨c5, kd5, s5, rfl, N5q, g_c5, hcw5, K5q, _, Fw5, Fu5, Fs5, Aq5⟩ := hQ5
      have N5 := Fr.app N0 N5q
      replace Ex := Ex.keep K5q
      replace Av := Av.keep K5q (ninS ne_w_a nin0)
      have Z5 : n0 ≤ T5.heap.size := Nat.le_trans Z0 K5q.1
      have Kp5 : Keep h0 T5.heap [a] := Kp0.trans K5q (allS (Or.inl (List.mem_of_getElem? (i := 0) rfl)) (all0))
      have ne_c5_a : c5 ≠ a := Ne.symm (own_neA Ex (hw _ (List.mem_of_getElem? (i := 10) rfl)) Aq5)
      refine own_go (A := T5.setTop (mkF m 17 #[.val (.ref a), .val (.int (1 : Int32)), .val (.int (2 : Int32))] [])) (fun _ kz => st5.trans kz) ?_
      refine own_go (A := T5.setTop (mkF m 19 #[.val (.ref a), .val (.int (1 : Int32)), .val (.int (2 : Int32))] [(.int (2 : Int32)), (.ref a)])) (fun _ kz => ?_) ?_
      · show Steps p.tables e below (T5.setTop (mkF m 17 #[.val (.ref a), .val (.int (1 : Int32)), .val (.int (2 : Int32))] [])) _
        refine XS.aloadN X5.here hx rfl (hb hby d8_17) rfl rfl ?_
        show Steps p.tables e below (T5.setTop (mkF m 18 #[.val (.ref a), .val (.int (1 : Int32)), .val (.int (2 : Int32))] [(.ref a)])) _
        refine XS.iloadN X5.here hx rfl (hb hby d8_18) rfl ?_
        exact kz
      obtain ⟨T6, h6, X6, e6, W6, st6⟩ := putF X5 hx hZ hown (host := "") (Or.inl (hw _ (List.mem_of_getElem? (i := 16) rfl))) Via.refl rfl Fu5 Ex (Or.inl (hw _ (List.mem_of_getElem? (i := 17) rfl))) (hw _ (List.mem_of_getElem? (i := 10) rfl)) (ty := .int) (by decide) rfl rfl (g := (mkF m 19 #[.val (.ref a), .val (.int (1 : Int32)), .val (.int (2 : Int32))] [(.int (2 : Int32)), (.ref a)])) rfl rfl (hb hby d8_19)
      have Fw6 := Fu5.same W6
      replace Ex := Ex.wr W6
      replace Av := Av.other W6 ne_w_a
      replace Aq5 := Aq5.other W6 ne_c5_a
      replace Fw5 := Fw5.other W6 (Or.inr (slot_ne (Or.inl (hw _ (List.mem_of_getElem? (i := 30) rfl))) (Or.inl (hw _ (List.mem_of_getElem? (i := 17) rfl))) (by decide) (t := (.array .long)) (t' := .int) (by decide) (by decide)))
      replace Fs5 := Fs5.other W6 (Or.inr (slot_ne (Or.inl (hw _ (List.mem_of_getElem? (i := 19) rfl))) (Or.inl (hw _ (List.mem_of_getElem? (i := 17) rfl))) (by decide) (t := .boolean) (t' := .int) (by decide) (by decide)))
      have Z6 : n0 ≤ h6.size := Nat.le_trans Z5 (Keep.of_wr W6).1
      have Kp6 : Keep h0 h6 [a] := Kp5.wr W6 (Or.inl (List.mem_of_getElem? (i := 0) rfl))
      have F_wordsInUse_a := Fw6
      have N6 := Fr.snoc X6 N5 g_a
      refine own_go (A := T6.setTop (mkF m 22 #[.val (.ref a), .val (.int (1 : Int32)), .val (.int (2 : Int32))] [])) (fun _ kz => st6 _ kz) ?_
      obtain ⟨fs, hrr, hrun, hended, hW, hsame⟩ := X6.leave (v := none) (fun _ => rfl)
      refine ⟨_, _, ?_, hrun, hended, _, _, rfl, ?_, ⟨_, rfl⟩, hW, hsame.mono (by decide) (by decide)⟩
      · show Steps p.tables e below (T6.setTop (mkF m 22 #[.val (.ref a), .val (.int (1 : Int32)), .val (.int (2 : Int32))] [])) _
        exact X6.returnOut hx Bd.returns (hb hby d8_22) hrr
      · show QrmEx Z a (1 : Int32) w (1 : Int32) (0 : Int32) f h0 n0 _ T6.heap _
        rw [e6]
        exact ⟨c5, kd5, s5, rfl, N6, g_c5, hcw5, Kp6, Ex, Fw5, F_wordsInUse_a, Fs5, Aq5⟩
    · skip
      refine own_go (A := s₁.setTop (mkF m 5 #[.val (.ref a), .val (.int (2 : Int32)), .val (.int (3 : Int32))] [(.ref a)])) (fun _ kz => ?_) ?_
      · show Steps p.tables e below (s₁.setTop (mkF m 0 #[.val (.ref a), .val (.int (2 : Int32)), .unset] [])) _
        refine XS.iloadN X0.here hx rfl (hb hby d8_0) rfl ?_
        show Steps p.tables e below (s₁.setTop (mkF m 1 #[.val (.ref a), .val (.int (2 : Int32)), .unset] [(.int (2 : Int32))])) _
        refine XS.iconst X0.here hx rfl (hb hby d8_1) ?_
        show Steps p.tables e below (s₁.setTop (mkF m 2 #[.val (.ref a), .val (.int (2 : Int32)), .unset] [(.int (1 : Int32)), (.int (2 : Int32))])) _
        refine XS.iadd X0.here hx rfl (hb hby d8_2) rfl ?_
        show Steps p.tables e below (s₁.setTop (mkF m 3 #[.val (.ref a), .val (.int (2 : Int32)), .unset] [(.int (3 : Int32))])) _
        refine XS.istoreN X0.here hx rfl (hb hby d8_3) rfl (l' := #[.val (.ref a), .val (.int (2 : Int32)), .val (.int (3 : Int32))]) rfl ?_
        show Steps p.tables e below (s₁.setTop (mkF m 4 #[.val (.ref a), .val (.int (2 : Int32)), .val (.int (3 : Int32))] [])) _
        refine XS.aloadN X0.here hx rfl (hb hby d8_4) rfl rfl ?_
        exact kz
      obtain ⟨T7, X7, e7, st7⟩ := getF X0 hx hZ hown (host := "") (Or.inl (hw _ (List.mem_of_getElem? (i := 16) rfl))) Via.refl e0 Fu (g := (mkF m 5 #[.val (.ref a), .val (.int (2 : Int32)), .val (.int (3 : Int32))] [(.ref a)])) rfl rfl (hb hby d8_5)
      refine own_go (A := T7.setTop (mkF m 8 #[.val (.ref a), .val (.int (2 : Int32)), .val (.int (3 : Int32))] [(.int (0 : Int32))])) (fun _ kz => st7 _ kz) ?_
      refine own_go (A := T7.setTop (mkF m 14 #[.val (.ref a), .val (.int (2 : Int32)), .val (.int (3 : Int32))] [(.int (3 : Int32)), (.ref a)])) (fun _ kz => ?_) ?_
      · show Steps p.tables e below (T7.setTop (mkF m 8 #[.val (.ref a), .val (.int (2 : Int32)), .val (.int (3 : Int32))] [(.int (0 : Int32))])) _
        refine XS.iloadN X7.here hx rfl (hb hby d8_8) rfl ?_
        show Steps p.tables e below (T7.setTop (mkF m 9 #[.val (.ref a), .val (.int (2 : Int32)), .val (.int (3 : Int32))] [(.int (3 : Int32)), (.int (0 : Int32))])) _
        refine XS.icmpNo X7.here hx rfl (hb hby d8_9) rfl (tlt (by decide : ((0 : Int32) < (3 : Int32)))).2.1 ?_
        show Steps p.tables e below (T7.setTop (mkF m 12 #[.val (.ref a), .val (.int (2 : Int32)), .val (.int (3 : Int32))] [])) _
        refine XS.aloadN X7.here hx rfl (hb hby d8_12) rfl rfl ?_
        show Steps p.tables e below (T7.setTop (mkF m 13 #[.val (.ref a), .val (.int (2 : Int32)), .val (.int (3 : Int32))] [(.ref a)])) _
        refine XS.iloadN X7.here hx rfl (hb hby d8_13) rfl ?_
        exact kz
      obtain ⟨cq8, q8, q8'⟩ := Ex.cell
      obtain ⟨_, _, ⟨T8, L8, k8, n8⟩, -, X8, ⟨Lc8, hQ8, l8, y8, z8⟩, st8⟩ := X7.privateBack hx (y := (⟨"java/util/BitSet", "ensureCapacity", "(I)V"⟩ : MethodName)) hown (mvT hZ (hw _ (List.mem_of_getElem? (i := 52) rfl))) (mvT hZ (hw _ (List.mem_of_getElem? (i := 53) rfl))) (mvT hZ (hw _ (List.mem_of_getElem? (i := 55) rfl))) (Cond.privateMethod_at (mvP hZ (hw _ (List.mem_of_getElem? (i := 54) rfl)) (args := #[]))) (mvT hZ (hw _ (List.mem_of_getElem? (i := 56) rfl))) (by decide) (backOf (W := 0) (rmEC l Z a0 hw [] a (3 : Int32) w kc (1 : Int32) (0 : Int32) s_ f h0 n0 Z0 (by decide) (fun k hk => hz k (Nat.le_trans (by decide) hk)) Ex Fw Fu Fs Av g_a ne_w_a g_w) hZ (hw _ (List.mem_of_getElem? (i := 56) rfl)) (hw _ (List.mem_of_getElem? (i := 11) rfl)) (by decide) (by decide)) (g := (mkF m 14 #[.val (.ref a), .val (.int (2 : Int32)), .val (.int (3 : Int32))] [(.int (3 : Int32)), (.ref a)])) rfl (by rw [hml]; rfl) (Steps.refl _) (a := a) (by rw [e7]; exact q8) q8' (argsL := [(.int (3 : Int32))]) (rest := []) (lenOf own_pd2 rfl) rfl (by show 2 * 0 + _ ≤ _; exact Nat.le_of_eq rfl) (hb hby d8_14) (fun _ _ => ⟨rfl, e7, (by decide : 0 + 1 ≤ _), (by decide : 0 + 6 ≤ _)⟩)
      dsimp only [Pt.U, Pt.locs, Pt.cells, Pt.slots] at X8 l8 y8 z8 st8 hQ8
      subst l8 y8 z8
      obtain ⟨c8, kd8, s8, rfl, N8q, g_c8, hcw8, K8q, _, Fw8, Fu8, Fs8, Aq8⟩ := hQ8
      have N8 := Fr.app N0 N8q
      replace Ex := Ex.keep K8q
      replace Av := Av.keep K8q (ninS ne_w_a nin0)
      have Z8 : n0 ≤ T8.heap.size := Nat.le_trans Z0 K8q.1
      have Kp8 : Keep h0 T8.heap [a] := Kp0.trans K8q (allS (Or.inl (List.mem_of_getElem? (i := 0) rfl)) (all0))
      have ne_c8_a : c8 ≠ a := Ne.symm (own_neA Ex (hw _ (List.mem_of_getElem? (i := 10) rfl)) Aq8)
      refine own_go (A := T8.setTop (mkF m 17 #[.val (.ref a), .val (.int (2 : Int32)), .val (.int (3 : Int32))] [])) (fun _ kz => st8.trans kz) ?_
      refine own_go (A := T8.setTop (mkF m 19 #[.val (.ref a), .val (.int (2 : Int32)), .val (.int (3 : Int32))] [(.int (3 : Int32)), (.ref a)])) (fun _ kz => ?_) ?_
      · show Steps p.tables e below (T8.setTop (mkF m 17 #[.val (.ref a), .val (.int (2 : Int32)), .val (.int (3 : Int32))] [])) _
        refine XS.aloadN X8.here hx rfl (hb hby d8_17) rfl rfl ?_
        show Steps p.tables e below (T8.setTop (mkF m 18 #[.val (.ref a), .val (.int (2 : Int32)), .val (.int (3 : Int32))] [(.ref a)])) _
        refine XS.iloadN X8.here hx rfl (hb hby d8_18) rfl ?_
        exact kz
      obtain ⟨T9, h9, X9, e9, W9, st9⟩ := putF X8 hx hZ hown (host := "") (Or.inl (hw _ (List.mem_of_getElem? (i := 16) rfl))) Via.refl rfl Fu8 Ex (Or.inl (hw _ (List.mem_of_getElem? (i := 17) rfl))) (hw _ (List.mem_of_getElem? (i := 10) rfl)) (ty := .int) (by decide) rfl rfl (g := (mkF m 19 #[.val (.ref a), .val (.int (2 : Int32)), .val (.int (3 : Int32))] [(.int (3 : Int32)), (.ref a)])) rfl rfl (hb hby d8_19)
      have Fw9 := Fu8.same W9
      replace Ex := Ex.wr W9
      replace Av := Av.other W9 ne_w_a
      replace Aq8 := Aq8.other W9 ne_c8_a
      replace Fw8 := Fw8.other W9 (Or.inr (slot_ne (Or.inl (hw _ (List.mem_of_getElem? (i := 30) rfl))) (Or.inl (hw _ (List.mem_of_getElem? (i := 17) rfl))) (by decide) (t := (.array .long)) (t' := .int) (by decide) (by decide)))
      replace Fs8 := Fs8.other W9 (Or.inr (slot_ne (Or.inl (hw _ (List.mem_of_getElem? (i := 19) rfl))) (Or.inl (hw _ (List.mem_of_getElem? (i := 17) rfl))) (by decide) (t := .boolean) (t' := .int) (by decide) (by decide)))
      have Z9 : n0 ≤ h9.size := Nat.le_trans Z8 (Keep.of_wr W9).1
      have Kp9 : Keep h0 h9 [a] := Kp8.wr W9 (Or.inl (List.mem_of_getElem? (i := 0) rfl))
      have F_wordsInUse_a := Fw9
      have N9 := Fr.snoc X9 N8 g_a
      refine own_go (A := T9.setTop (mkF m 22 #[.val (.ref a), .val (.int (2 : Int32)), .val (.int (3 : Int32))] [])) (fun _ kz => st9 _ kz) ?_
      obtain ⟨fs, hrr, hrun, hended, hW, hsame⟩ := X9.leave (v := none) (fun _ => rfl)
      refine ⟨_, _, ?_, hrun, hended, _, _, rfl, ?_, ⟨_, rfl⟩, hW, hsame.mono (by decide) (by decide)⟩
      · show Steps p.tables e below (T9.setTop (mkF m 22 #[.val (.ref a), .val (.int (2 : Int32)), .val (.int (3 : Int32))] [])) _
        exact X9.returnOut hx Bd.returns (hb hby d8_22) hrr
      · show QrmEx Z a (2 : Int32) w (1 : Int32) (0 : Int32) f h0 n0 _ T9.heap _
        rw [e9]
        exact ⟨c8, kd8, s8, rfl, N9, g_c8, hcw8, Kp9, Ex, Fw8, F_wordsInUse_a, Fs8, Aq8⟩
    · skip
      refine own_go (A := s₁.setTop (mkF m 5 #[.val (.ref a), .val (.int (3 : Int32)), .val (.int (4 : Int32))] [(.ref a)])) (fun _ kz => ?_) ?_
      · show Steps p.tables e below (s₁.setTop (mkF m 0 #[.val (.ref a), .val (.int (3 : Int32)), .unset] [])) _
        refine XS.iloadN X0.here hx rfl (hb hby d8_0) rfl ?_
        show Steps p.tables e below (s₁.setTop (mkF m 1 #[.val (.ref a), .val (.int (3 : Int32)), .unset] [(.int (3 : Int32))])) _
        refine XS.iconst X0.here hx rfl (hb hby d8_1) ?_
        show Steps p.tables e below (s₁.setTop (mkF m 2 #[.val (.ref a), .val (.int (3 : Int32)), .unset] [(.int (1 : Int32)), (.int (3 : Int32))])) _
        refine XS.iadd X0.here hx rfl (hb hby d8_2) rfl ?_
        show Steps p.tables e below (s₁.setTop (mkF m 3 #[.val (.ref a), .val (.int (3 : Int32)), .unset] [(.int (4 : Int32))])) _
        refine XS.istoreN X0.here hx rfl (hb hby d8_3) rfl (l' := #[.val (.ref a), .val (.int (3 : Int32)), .val (.int (4 : Int32))]) rfl ?_
        show Steps p.tables e below (s₁.setTop (mkF m 4 #[.val (.ref a), .val (.int (3 : Int32)), .val (.int (4 : Int32))] [])) _
        refine XS.aloadN X0.here hx rfl (hb hby d8_4) rfl rfl ?_
        exact kz
      obtain ⟨T10, X10, e10, st10⟩ := getF X0 hx hZ hown (host := "") (Or.inl (hw _ (List.mem_of_getElem? (i := 16) rfl))) Via.refl e0 Fu (g := (mkF m 5 #[.val (.ref a), .val (.int (3 : Int32)), .val (.int (4 : Int32))] [(.ref a)])) rfl rfl (hb hby d8_5)
      refine own_go (A := T10.setTop (mkF m 8 #[.val (.ref a), .val (.int (3 : Int32)), .val (.int (4 : Int32))] [(.int (0 : Int32))])) (fun _ kz => st10 _ kz) ?_
      refine own_go (A := T10.setTop (mkF m 14 #[.val (.ref a), .val (.int (3 : Int32)), .val (.int (4 : Int32))] [(.int (4 : Int32)), (.ref a)])) (fun _ kz => ?_) ?_
      · show Steps p.tables e below (T10.setTop (mkF m 8 #[.val (.ref a), .val (.int (3 : Int32)), .val (.int (4 : Int32))] [(.int (0 : Int32))])) _
        refine XS.iloadN X10.here hx rfl (hb hby d8_8) rfl ?_
        show Steps p.tables e below (T10.setTop (mkF m 9 #[.val (.ref a), .val (.int (3 : Int32)), .val (.int (4 : Int32))] [(.int (4 : Int32)), (.int (0 : Int32))])) _
        refine XS.icmpNo X10.here hx rfl (hb hby d8_9) rfl (tlt (by decide : ((0 : Int32) < (4 : Int32)))).2.1 ?_
        show Steps p.tables e below (T10.setTop (mkF m 12 #[.val (.ref a), .val (.int (3 : Int32)), .val (.int (4 : Int32))] [])) _
        refine XS.aloadN X10.here hx rfl (hb hby d8_12) rfl rfl ?_
        show Steps p.tables e below (T10.setTop (mkF m 13 #[.val (.ref a), .val (.int (3 : Int32)), .val (.int (4 : Int32))] [(.ref a)])) _
        refine XS.iloadN X10.here hx rfl (hb hby d8_13) rfl ?_
        exact kz
      obtain ⟨cq11, q11, q11'⟩ := Ex.cell
      obtain ⟨_, _, ⟨T11, L11, k11, n11⟩, -, X11, ⟨Lc11, hQ11, l11, y11, z11⟩, st11⟩ := X10.privateBack hx (y := (⟨"java/util/BitSet", "ensureCapacity", "(I)V"⟩ : MethodName)) hown (mvT hZ (hw _ (List.mem_of_getElem? (i := 52) rfl))) (mvT hZ (hw _ (List.mem_of_getElem? (i := 53) rfl))) (mvT hZ (hw _ (List.mem_of_getElem? (i := 55) rfl))) (Cond.privateMethod_at (mvP hZ (hw _ (List.mem_of_getElem? (i := 54) rfl)) (args := #[]))) (mvT hZ (hw _ (List.mem_of_getElem? (i := 56) rfl))) (by decide) (backOf (W := 0) (rmEC l Z a0 hw [] a (4 : Int32) w kc (1 : Int32) (0 : Int32) s_ f h0 n0 Z0 (by decide) (fun k hk => hz k (Nat.le_trans (by decide) hk)) Ex Fw Fu Fs Av g_a ne_w_a g_w) hZ (hw _ (List.mem_of_getElem? (i := 56) rfl)) (hw _ (List.mem_of_getElem? (i := 11) rfl)) (by decide) (by decide)) (g := (mkF m 14 #[.val (.ref a), .val (.int (3 : Int32)), .val (.int (4 : Int32))] [(.int (4 : Int32)), (.ref a)])) rfl (by rw [hml]; rfl) (Steps.refl _) (a := a) (by rw [e10]; exact q11) q11' (argsL := [(.int (4 : Int32))]) (rest := []) (lenOf own_pd2 rfl) rfl (by show 2 * 0 + _ ≤ _; exact Nat.le_of_eq rfl) (hb hby d8_14) (fun _ _ => ⟨rfl, e10, (by decide : 0 + 1 ≤ _), (by decide : 0 + 6 ≤ _)⟩)
      dsimp only [Pt.U, Pt.locs, Pt.cells, Pt.slots] at X11 l11 y11 z11 st11 hQ11
      subst l11 y11 z11
      obtain ⟨c11, kd11, s11, rfl, N11q, g_c11, hcw11, K11q, _, Fw11, Fu11, Fs11, Aq11⟩ := hQ11
      have N11 := Fr.app N0 N11q
      replace Ex := Ex.keep K11q
      replace Av := Av.keep K11q (ninS ne_w_a nin0)
      have Z11 : n0 ≤ T11.heap.size := Nat.le_trans Z0 K11q.1
      have Kp11 : Keep h0 T11.heap [a] := Kp0.trans K11q (allS (Or.inl (List.mem_of_getElem? (i := 0) rfl)) (all0))
      have ne_c11_a : c11 ≠ a := Ne.symm (own_neA Ex (hw _ (List.mem_of_getElem? (i := 10) rfl)) Aq11)
      refine own_go (A := T11.setTop (mkF m 17 #[.val (.ref a), .val (.int (3 : Int32)), .val (.int (4 : Int32))] [])) (fun _ kz => st11.trans kz) ?_
      refine own_go (A := T11.setTop (mkF m 19 #[.val (.ref a), .val (.int (3 : Int32)), .val (.int (4 : Int32))] [(.int (4 : Int32)), (.ref a)])) (fun _ kz => ?_) ?_
      · show Steps p.tables e below (T11.setTop (mkF m 17 #[.val (.ref a), .val (.int (3 : Int32)), .val (.int (4 : Int32))] [])) _
        refine XS.aloadN X11.here hx rfl (hb hby d8_17) rfl rfl ?_
        show Steps p.tables e below (T11.setTop (mkF m 18 #[.val (.ref a), .val (.int (3 : Int32)), .val (.int (4 : Int32))] [(.ref a)])) _
        refine XS.iloadN X11.here hx rfl (hb hby d8_18) rfl ?_
        exact kz
      obtain ⟨T12, h12, X12, e12, W12, st12⟩ := putF X11 hx hZ hown (host := "") (Or.inl (hw _ (List.mem_of_getElem? (i := 16) rfl))) Via.refl rfl Fu11 Ex (Or.inl (hw _ (List.mem_of_getElem? (i := 17) rfl))) (hw _ (List.mem_of_getElem? (i := 10) rfl)) (ty := .int) (by decide) rfl rfl (g := (mkF m 19 #[.val (.ref a), .val (.int (3 : Int32)), .val (.int (4 : Int32))] [(.int (4 : Int32)), (.ref a)])) rfl rfl (hb hby d8_19)
      have Fw12 := Fu11.same W12
      replace Ex := Ex.wr W12
      replace Av := Av.other W12 ne_w_a
      replace Aq11 := Aq11.other W12 ne_c11_a
      replace Fw11 := Fw11.other W12 (Or.inr (slot_ne (Or.inl (hw _ (List.mem_of_getElem? (i := 30) rfl))) (Or.inl (hw _ (List.mem_of_getElem? (i := 17) rfl))) (by decide) (t := (.array .long)) (t' := .int) (by decide) (by decide)))
      replace Fs11 := Fs11.other W12 (Or.inr (slot_ne (Or.inl (hw _ (List.mem_of_getElem? (i := 19) rfl))) (Or.inl (hw _ (List.mem_of_getElem? (i := 17) rfl))) (by decide) (t := .boolean) (t' := .int) (by decide) (by decide)))
      have Z12 : n0 ≤ h12.size := Nat.le_trans Z11 (Keep.of_wr W12).1
      have Kp12 : Keep h0 h12 [a] := Kp11.wr W12 (Or.inl (List.mem_of_getElem? (i := 0) rfl))
      have F_wordsInUse_a := Fw12
      have N12 := Fr.snoc X12 N11 g_a
      refine own_go (A := T12.setTop (mkF m 22 #[.val (.ref a), .val (.int (3 : Int32)), .val (.int (4 : Int32))] [])) (fun _ kz => st12 _ kz) ?_
      obtain ⟨fs, hrr, hrun, hended, hW, hsame⟩ := X12.leave (v := none) (fun _ => rfl)
      refine ⟨_, _, ?_, hrun, hended, _, _, rfl, ?_, ⟨_, rfl⟩, hW, hsame.mono (by decide) (by decide)⟩
      · show Steps p.tables e below (T12.setTop (mkF m 22 #[.val (.ref a), .val (.int (3 : Int32)), .val (.int (4 : Int32))] [])) _
        exact X12.returnOut hx Bd.returns (hb hby d8_22) hrr
      · show QrmEx Z a (3 : Int32) w (1 : Int32) (0 : Int32) f h0 n0 _ T12.heap _
        rw [e12]
        exact ⟨c11, kd11, s11, rfl, N12, g_c11, hcw11, Kp12, Ex, Fw11, F_wordsInUse_a, Fs11, Aq11⟩
  · skip
    rcases hw4 with rfl | rfl | rfl | rfl
    · skip
      refine own_go (A := s₁.setTop (mkF m 5 #[.val (.ref a), .val (.int (0 : Int32)), .val (.int (1 : Int32))] [(.ref a)])) (fun _ kz => ?_) ?_
      · show Steps p.tables e below (s₁.setTop (mkF m 0 #[.val (.ref a), .val (.int (0 : Int32)), .unset] [])) _
        refine XS.iloadN X0.here hx rfl (hb hby d8_0) rfl ?_
        show Steps p.tables e below (s₁.setTop (mkF m 1 #[.val (.ref a), .val (.int (0 : Int32)), .unset] [(.int (0 : Int32))])) _
        refine XS.iconst X0.here hx rfl (hb hby d8_1) ?_
        show Steps p.tables e below (s₁.setTop (mkF m 2 #[.val (.ref a), .val (.int (0 : Int32)), .unset] [(.int (1 : Int32)), (.int (0 : Int32))])) _
        refine XS.iadd X0.here hx rfl (hb hby d8_2) rfl ?_
        show Steps p.tables e below (s₁.setTop (mkF m 3 #[.val (.ref a), .val (.int (0 : Int32)), .unset] [(.int (1 : Int32))])) _
        refine XS.istoreN X0.here hx rfl (hb hby d8_3) rfl (l' := #[.val (.ref a), .val (.int (0 : Int32)), .val (.int (1 : Int32))]) rfl ?_
        show Steps p.tables e below (s₁.setTop (mkF m 4 #[.val (.ref a), .val (.int (0 : Int32)), .val (.int (1 : Int32))] [])) _
        refine XS.aloadN X0.here hx rfl (hb hby d8_4) rfl rfl ?_
        exact kz
      obtain ⟨T13, X13, e13, st13⟩ := getF X0 hx hZ hown (host := "") (Or.inl (hw _ (List.mem_of_getElem? (i := 16) rfl))) Via.refl e0 Fu (g := (mkF m 5 #[.val (.ref a), .val (.int (0 : Int32)), .val (.int (1 : Int32))] [(.ref a)])) rfl rfl (hb hby d8_5)
      refine own_go (A := T13.setTop (mkF m 8 #[.val (.ref a), .val (.int (0 : Int32)), .val (.int (1 : Int32))] [(.int (1 : Int32))])) (fun _ kz => st13 _ kz) ?_
      refine own_go (A := T13.setTop (mkF m 22 #[.val (.ref a), .val (.int (0 : Int32)), .val (.int (1 : Int32))] [])) (fun _ kz => ?_) ?_
      · show Steps p.tables e below (T13.setTop (mkF m 8 #[.val (.ref a), .val (.int (0 : Int32)), .val (.int (1 : Int32))] [(.int (1 : Int32))])) _
        refine XS.iloadN X13.here hx rfl (hb hby d8_8) rfl ?_
        show Steps p.tables e below (T13.setTop (mkF m 9 #[.val (.ref a), .val (.int (0 : Int32)), .val (.int (1 : Int32))] [(.int (1 : Int32)), (.int (1 : Int32))])) _
        refine XS.icmpYes X13.here hx rfl (pc0 := 9) (pc' := 22) rfl (hb hby d8_9) rfl (flt (by decide : ¬ ((1 : Int32) < (1 : Int32)))).2.1 (by decide) (by decide) ?_
        exact kz
      obtain ⟨fs, hrr, hrun, hended, hW, hsame⟩ := X13.leave (v := none) (fun _ => rfl)
      refine ⟨_, _, ?_, hrun, hended, _, _, rfl, ?_, ⟨_, rfl⟩, hW, hsame.mono (by decide) (by decide)⟩
      · show Steps p.tables e below (T13.setTop (mkF m 22 #[.val (.ref a), .val (.int (0 : Int32)), .val (.int (1 : Int32))] [])) _
        exact X13.returnOut hx Bd.returns (hb hby d8_22) hrr
      · show QrmEx Z a (0 : Int32) w (1 : Int32) (1 : Int32) f h0 n0 _ T13.heap _
        rw [e13]
        exact ⟨w, kc, s_, rfl, N0, g_w, Or.inl rfl, Kp0, Ex, Fw, Fu, Fs, Av⟩
    · skip
      refine own_go (A := s₁.setTop (mkF m 5 #[.val (.ref a), .val (.int (1 : Int32)), .val (.int (2 : Int32))] [(.ref a)])) (fun _ kz => ?_) ?_
      · show Steps p.tables e below (s₁.setTop (mkF m 0 #[.val (.ref a), .val (.int (1 : Int32)), .unset] [])) _
        refine XS.iloadN X0.here hx rfl (hb hby d8_0) rfl ?_
        show Steps p.tables e below (s₁.setTop (mkF m 1 #[.val (.ref a), .val (.int (1 : Int32)), .unset] [(.int (1 : Int32))])) _
        refine XS.iconst X0.here hx rfl (hb hby d8_1) ?_
        show Steps p.tables e below (s₁.setTop (mkF m 2 #[.val (.ref a), .val (.int (1 : Int32)), .unset] [(.int (1 : Int32)), (.int (1 : Int32))])) _
        refine XS.iadd X0.here hx rfl (hb hby d8_2) rfl ?_
        show Steps p.tables e below (s₁.setTop (mkF m 3 #[.val (.ref a), .val (.int (1 : Int32)), .unset] [(.int (2 : Int32))])) _
        refine XS.istoreN X0.here hx rfl (hb hby d8_3) rfl (l' := #[.val (.ref a), .val (.int (1 : Int32)), .val (.int (2 : Int32))]) rfl ?_
        show Steps p.tables e below (s₁.setTop (mkF m 4 #[.val (.ref a), .val (.int (1 : Int32)), .val (.int (2 : Int32))] [])) _
        refine XS.aloadN X0.here hx rfl (hb hby d8_4) rfl rfl ?_
        exact kz
      obtain ⟨T14, X14, e14, st14⟩ := getF X0 hx hZ hown (host := "") (Or.inl (hw _ (List.mem_of_getElem? (i := 16) rfl))) Via.refl e0 Fu (g := (mkF m 5 #[.val (.ref a), .val (.int (1 : Int32)), .val (.int (2 : Int32))] [(.ref a)])) rfl rfl (hb hby d8_5)
      refine own_go (A := T14.setTop (mkF m 8 #[.val (.ref a), .val (.int (1 : Int32)), .val (.int (2 : Int32))] [(.int (1 : Int32))])) (fun _ kz => st14 _ kz) ?_
      refine own_go (A := T14.setTop (mkF m 14 #[.val (.ref a), .val (.int (1 : Int32)), .val (.int (2 : Int32))] [(.int (2 : Int32)), (.ref a)])) (fun _ kz => ?_) ?_
      · show Steps p.tables e below (T14.setTop (mkF m 8 #[.val (.ref a), .val (.int (1 : Int32)), .val (.int (2 : Int32))] [(.int (1 : Int32))])) _
        refine XS.iloadN X14.here hx rfl (hb hby d8_8) rfl ?_
        show Steps p.tables e below (T14.setTop (mkF m 9 #[.val (.ref a), .val (.int (1 : Int32)), .val (.int (2 : Int32))] [(.int (2 : Int32)), (.int (1 : Int32))])) _
        refine XS.icmpNo X14.here hx rfl (hb hby d8_9) rfl (tlt (by decide : ((1 : Int32) < (2 : Int32)))).2.1 ?_
        show Steps p.tables e below (T14.setTop (mkF m 12 #[.val (.ref a), .val (.int (1 : Int32)), .val (.int (2 : Int32))] [])) _
        refine XS.aloadN X14.here hx rfl (hb hby d8_12) rfl rfl ?_
        show Steps p.tables e below (T14.setTop (mkF m 13 #[.val (.ref a), .val (.int (1 : Int32)), .val (.int (2 : Int32))] [(.ref a)])) _
        refine XS.iloadN X14.here hx rfl (hb hby d8_13) rfl ?_
        exact kz
      obtain ⟨cq15, q15, q15'⟩ := Ex.cell
      obtain ⟨_, _, ⟨T15, L15, k15, n15⟩, -, X15, ⟨Lc15, hQ15, l15, y15, z15⟩, st15⟩ := X14.privateBack hx (y := (⟨"java/util/BitSet", "ensureCapacity", "(I)V"⟩ : MethodName)) hown (mvT hZ (hw _ (List.mem_of_getElem? (i := 52) rfl))) (mvT hZ (hw _ (List.mem_of_getElem? (i := 53) rfl))) (mvT hZ (hw _ (List.mem_of_getElem? (i := 55) rfl))) (Cond.privateMethod_at (mvP hZ (hw _ (List.mem_of_getElem? (i := 54) rfl)) (args := #[]))) (mvT hZ (hw _ (List.mem_of_getElem? (i := 56) rfl))) (by decide) (backOf (W := 0) (rmEC l Z a0 hw [] a (2 : Int32) w kc (1 : Int32) (1 : Int32) s_ f h0 n0 Z0 (by decide) (fun k hk => hz k (Nat.le_trans (by decide) hk)) Ex Fw Fu Fs Av g_a ne_w_a g_w) hZ (hw _ (List.mem_of_getElem? (i := 56) rfl)) (hw _ (List.mem_of_getElem? (i := 11) rfl)) (by decide) (by decide)) (g := (mkF m 14 #[.val (.ref a), .val (.int (1 : Int32)), .val (.int (2 : Int32))] [(.int (2 : Int32)), (.ref a)])) rfl (by rw [hml]; rfl) (Steps.refl _) (a := a) (by rw [e14]; exact q15) q15' (argsL := [(.int (2 : Int32))]) (rest := []) (lenOf own_pd2 rfl) rfl (by show 2 * 0 + _ ≤ _; exact Nat.le_of_eq rfl) (hb hby d8_14) (fun _ _ => ⟨rfl, e14, (by decide : 0 + 1 ≤ _), (by decide : 0 + 6 ≤ _)⟩)
      dsimp only [Pt.U, Pt.locs, Pt.cells, Pt.slots] at X15 l15 y15 z15 st15 hQ15
      subst l15 y15 z15
      obtain ⟨c15, kd15, s15, rfl, N15q, g_c15, hcw15, K15q, _, Fw15, Fu15, Fs15, Aq15⟩ := hQ15
      have N15 := Fr.app N0 N15q
      replace Ex := Ex.keep K15q
      replace Av := Av.keep K15q (ninS ne_w_a nin0)
      have Z15 : n0 ≤ T15.heap.size := Nat.le_trans Z0 K15q.1
      have Kp15 : Keep h0 T15.heap [a] := Kp0.trans K15q (allS (Or.inl (List.mem_of_getElem? (i := 0) rfl)) (all0))
      have ne_c15_a : c15 ≠ a := Ne.symm (own_neA Ex (hw _ (List.mem_of_getElem? (i := 10) rfl)) Aq15)
      refine own_go (A := T15.setTop (mkF m 17 #[.val (.ref a), .val (.int (1 : Int32)), .val (.int (2 : Int32))] [])) (fun _ kz => st15.trans kz) ?_
      refine own_go (A := T15.setTop (mkF m 19 #[.val (.ref a), .val (.int (1 : Int32)), .val (.int (2 : Int32))] [(.int (2 : Int32)), (.ref a)])) (fun _ kz => ?_) ?_
      · show Steps p.tables e below (T15.setTop (mkF m 17 #[.val (.ref a), .val (.int (1 : Int32)), .val (.int (2 : Int32))] [])) _
        refine XS.aloadN X15.here hx rfl (hb hby d8_17) rfl rfl ?_
        show Steps p.tables e below (T15.setTop (mkF m 18 #[.val (.ref a), .val (.int (1 : Int32)), .val (.int (2 : Int32))] [(.ref a)])) _
        refine XS.iloadN X15.here hx rfl (hb hby d8_18) rfl ?_
        exact kz
      obtain ⟨T16, h16, X16, e16, W16, st16⟩ := putF X15 hx hZ hown (host := "") (Or.inl (hw _ (List.mem_of_getElem? (i := 16) rfl))) Via.refl rfl Fu15 Ex (Or.inl (hw _ (List.mem_of_getElem? (i := 17) rfl))) (hw _ (List.mem_of_getElem? (i := 10) rfl)) (ty := .int) (by decide) rfl rfl (g := (mkF m 19 #[.val (.ref a), .val (.int (1 : Int32)), .val (.int (2 : Int32))] [(.int (2 : Int32)), (.ref a)])) rfl rfl (hb hby d8_19)
      have Fw16 := Fu15.same W16
      replace Ex := Ex.wr W16
      replace Av := Av.other W16 ne_w_a
      replace Aq15 := Aq15.other W16 ne_c15_a
      replace Fw15 := Fw15.other W16 (Or.inr (slot_ne (Or.inl (hw _ (List.mem_of_getElem? (i := 30) rfl))) (Or.inl (hw _ (List.mem_of_getElem? (i := 17) rfl))) (by decide) (t := (.array .long)) (t' := .int) (by decide) (by decide)))
      replace Fs15 := Fs15.other W16 (Or.inr (slot_ne (Or.inl (hw _ (List.mem_of_getElem? (i := 19) rfl))) (Or.inl (hw _ (List.mem_of_getElem? (i := 17) rfl))) (by decide) (t := .boolean) (t' := .int) (by decide) (by decide)))
      have Z16 : n0 ≤ h16.size := Nat.le_trans Z15 (Keep.of_wr W16).1
      have Kp16 : Keep h0 h16 [a] := Kp15.wr W16 (Or.inl (List.mem_of_getElem? (i := 0) rfl))
      have F_wordsInUse_a := Fw16
      have N16 := Fr.snoc X16 N15 g_a
      refine own_go (A := T16.setTop (mkF m 22 #[.val (.ref a), .val (.int (1 : Int32)), .val (.int (2 : Int32))] [])) (fun _ kz => st16 _ kz) ?_
      obtain ⟨fs, hrr, hrun, hended, hW, hsame⟩ := X16.leave (v := none) (fun _ => rfl)
      refine ⟨_, _, ?_, hrun, hended, _, _, rfl, ?_, ⟨_, rfl⟩, hW, hsame.mono (by decide) (by decide)⟩
      · show Steps p.tables e below (T16.setTop (mkF m 22 #[.val (.ref a), .val (.int (1 : Int32)), .val (.int (2 : Int32))] [])) _
        exact X16.returnOut hx Bd.returns (hb hby d8_22) hrr
      · show QrmEx Z a (1 : Int32) w (1 : Int32) (1 : Int32) f h0 n0 _ T16.heap _
        rw [e16]
        exact ⟨c15, kd15, s15, rfl, N16, g_c15, hcw15, Kp16, Ex, Fw15, F_wordsInUse_a, Fs15, Aq15⟩
    · skip
      refine own_go (A := s₁.setTop (mkF m 5 #[.val (.ref a), .val (.int (2 : Int32)), .val (.int (3 : Int32))] [(.ref a)])) (fun _ kz => ?_) ?_
      · show Steps p.tables e below (s₁.setTop (mkF m 0 #[.val (.ref a), .val (.int (2 : Int32)), .unset] [])) _
        refine XS.iloadN X0.here hx rfl (hb hby d8_0) rfl ?_
        show Steps p.tables e below (s₁.setTop (mkF m 1 #[.val (.ref a), .val (.int (2 : Int32)), .unset] [(.int (2 : Int32))])) _
        refine XS.iconst X0.here hx rfl (hb hby d8_1) ?_
        show Steps p.tables e below (s₁.setTop (mkF m 2 #[.val (.ref a), .val (.int (2 : Int32)), .unset] [(.int (1 : Int32)), (.int (2 : Int32))])) _
        refine XS.iadd X0.here hx rfl (hb hby d8_2) rfl ?_
        show Steps p.tables e below (s₁.setTop (mkF m 3 #[.val (.ref a), .val (.int (2 : Int32)), .unset] [(.int (3 : Int32))])) _
        refine XS.istoreN X0.here hx rfl (hb hby d8_3) rfl (l' := #[.val (.ref a), .val (.int (2 : Int32)), .val (.int (3 : Int32))]) rfl ?_
        show Steps p.tables e below (s₁.setTop (mkF m 4 #[.val (.ref a), .val (.int (2 : Int32)), .val (.int (3 : Int32))] [])) _
        refine XS.aloadN X0.here hx rfl (hb hby d8_4) rfl rfl ?_
        exact kz
      obtain ⟨T17, X17, e17, st17⟩ := getF X0 hx hZ hown (host := "") (Or.inl (hw _ (List.mem_of_getElem? (i := 16) rfl))) Via.refl e0 Fu (g := (mkF m 5 #[.val (.ref a), .val (.int (2 : Int32)), .val (.int (3 : Int32))] [(.ref a)])) rfl rfl (hb hby d8_5)
      refine own_go (A := T17.setTop (mkF m 8 #[.val (.ref a), .val (.int (2 : Int32)), .val (.int (3 : Int32))] [(.int (1 : Int32))])) (fun _ kz => st17 _ kz) ?_
      refine own_go (A := T17.setTop (mkF m 14 #[.val (.ref a), .val (.int (2 : Int32)), .val (.int (3 : Int32))] [(.int (3 : Int32)), (.ref a)])) (fun _ kz => ?_) ?_
      · show Steps p.tables e below (T17.setTop (mkF m 8 #[.val (.ref a), .val (.int (2 : Int32)), .val (.int (3 : Int32))] [(.int (1 : Int32))])) _
        refine XS.iloadN X17.here hx rfl (hb hby d8_8) rfl ?_
        show Steps p.tables e below (T17.setTop (mkF m 9 #[.val (.ref a), .val (.int (2 : Int32)), .val (.int (3 : Int32))] [(.int (3 : Int32)), (.int (1 : Int32))])) _
        refine XS.icmpNo X17.here hx rfl (hb hby d8_9) rfl (tlt (by decide : ((1 : Int32) < (3 : Int32)))).2.1 ?_
        show Steps p.tables e below (T17.setTop (mkF m 12 #[.val (.ref a), .val (.int (2 : Int32)), .val (.int (3 : Int32))] [])) _
        refine XS.aloadN X17.here hx rfl (hb hby d8_12) rfl rfl ?_
        show Steps p.tables e below (T17.setTop (mkF m 13 #[.val (.ref a), .val (.int (2 : Int32)), .val (.int (3 : Int32))] [(.ref a)])) _
        refine XS.iloadN X17.here hx rfl (hb hby d8_13) rfl ?_
        exact kz
      obtain ⟨cq18, q18, q18'⟩ := Ex.cell
      obtain ⟨_, _, ⟨T18, L18, k18, n18⟩, -, X18, ⟨Lc18, hQ18, l18, y18, z18⟩, st18⟩ := X17.privateBack hx (y := (⟨"java/util/BitSet", "ensureCapacity", "(I)V"⟩ : MethodName)) hown (mvT hZ (hw _ (List.mem_of_getElem? (i := 52) rfl))) (mvT hZ (hw _ (List.mem_of_getElem? (i := 53) rfl))) (mvT hZ (hw _ (List.mem_of_getElem? (i := 55) rfl))) (Cond.privateMethod_at (mvP hZ (hw _ (List.mem_of_getElem? (i := 54) rfl)) (args := #[]))) (mvT hZ (hw _ (List.mem_of_getElem? (i := 56) rfl))) (by decide) (backOf (W := 0) (rmEC l Z a0 hw [] a (3 : Int32) w kc (1 : Int32) (1 : Int32) s_ f h0 n0 Z0 (by decide) (fun k hk => hz k (Nat.le_trans (by decide) hk)) Ex Fw Fu Fs Av g_a ne_w_a g_w) hZ (hw _ (List.mem_of_getElem? (i := 56) rfl)) (hw _ (List.mem_of_getElem? (i := 11) rfl)) (by decide) (by decide)) (g := (mkF m 14 #[.val (.ref a), .val (.int (2 : Int32)), .val (.int (3 : Int32))] [(.int (3 : Int32)), (.ref a)])) rfl (by rw [hml]; rfl) (Steps.refl _) (a := a) (by rw [e17]; exact q18) q18' (argsL := [(.int (3 : Int32))]) (rest := []) (lenOf own_pd2 rfl) rfl (by show 2 * 0 + _ ≤ _; exact Nat.le_of_eq rfl) (hb hby d8_14) (fun _ _ => ⟨rfl, e17, (by decide : 0 + 1 ≤ _), (by decide : 0 + 6 ≤ _)⟩)
      dsimp only [Pt.U, Pt.locs, Pt.cells, Pt.slots] at X18 l18 y18 z18 st18 hQ18
      subst l18 y18 z18
      obtain ⟨c18, kd18, s18, rfl, N18q, g_c18, hcw18, K18q, _, Fw18, Fu18, Fs18, Aq18⟩ := hQ18
      have N18 := Fr.app N0 N18q
      replace Ex := Ex.keep K18q
      replace Av := Av.keep K18q (ninS ne_w_a nin0)
      have Z18 : n0 ≤ T18.heap.size := Nat.le_trans Z0 K18q.1
      have Kp18 : Keep h0 T18.heap [a] := Kp0.trans K18q (allS (Or.inl (List.mem_of_getElem? (i := 0) rfl)) (all0))
      have ne_c18_a : c18 ≠ a := Ne.symm (own_neA Ex (hw _ (List.mem_of_getElem? (i := 10) rfl)) Aq18)
      refine own_go (A := T18.setTop (mkF m 17 #[.val (.ref a), .val (.int (2 : Int32)), .val (.int (3 : Int32))] [])) (fun _ kz => st18.trans kz) ?_
      refine own_go (A := T18.setTop (mkF m 19 #[.val (.ref a), .val (.int (2 : Int32)), .val (.int (3 : Int32))] [(.int (3 : Int32)), (.ref a)])) (fun _ kz => ?_) ?_
      · show Steps p.tables e below (T18.setTop (mkF m 17 #[.val (.ref a), .val (.int (2 : Int32)), .val (.int (3 : Int32))] [])) _
        refine XS.aloadN X18.here hx rfl (hb hby d8_17) rfl rfl ?_
        show Steps p.tables e below (T18.setTop (mkF m 18 #[.val (.ref a), .val (.int (2 : Int32)), .val (.int (3 : Int32))] [(.ref a)])) _
        refine XS.iloadN X18.here hx rfl (hb hby d8_18) rfl ?_
        exact kz
      obtain ⟨T19, h19, X19, e19, W19, st19⟩ := putF X18 hx hZ hown (host := "") (Or.inl (hw _ (List.mem_of_getElem? (i := 16) rfl))) Via.refl rfl Fu18 Ex (Or.inl (hw _ (List.mem_of_getElem? (i := 17) rfl))) (hw _ (List.mem_of_getElem? (i := 10) rfl)) (ty := .int) (by decide) rfl rfl (g := (mkF m 19 #[.val (.ref a), .val (.int (2 : Int32)), .val (.int (3 : Int32))] [(.int (3 : Int32)), (.ref a)])) rfl rfl (hb hby d8_19)
      have Fw19 := Fu18.same W19
      replace Ex := Ex.wr W19
      replace Av := Av.other W19 ne_w_a
      replace Aq18 := Aq18.other W19 ne_c18_a
      replace Fw18 := Fw18.other W19 (Or.inr (slot_ne (Or.inl (hw _ (List.mem_of_getElem? (i := 30) rfl))) (Or.inl (hw _ (List.mem_of_getElem? (i := 17) rfl))) (by decide) (t := (.array .long)) (t' := .int) (by decide) (by decide)))
      replace Fs18 := Fs18.other W19 (Or.inr (slot_ne (Or.inl (hw _ (List.mem_of_getElem? (i := 19) rfl))) (Or.inl (hw _ (List.mem_of_getElem? (i := 17) rfl))) (by decide) (t := .boolean) (t' := .int) (by decide) (by decide)))
      have Z19 : n0 ≤ h19.size := Nat.le_trans Z18 (Keep.of_wr W19).1
      have Kp19 : Keep h0 h19 [a] := Kp18.wr W19 (Or.inl (List.mem_of_getElem? (i := 0) rfl))
      have F_wordsInUse_a := Fw19
      have N19 := Fr.snoc X19 N18 g_a
      refine own_go (A := T19.setTop (mkF m 22 #[.val (.ref a), .val (.int (2 : Int32)), .val (.int (3 : Int32))] [])) (fun _ kz => st19 _ kz) ?_
      obtain ⟨fs, hrr, hrun, hended, hW, hsame⟩ := X19.leave (v := none) (fun _ => rfl)
      refine ⟨_, _, ?_, hrun, hended, _, _, rfl, ?_, ⟨_, rfl⟩, hW, hsame.mono (by decide) (by decide)⟩
      · show Steps p.tables e below (T19.setTop (mkF m 22 #[.val (.ref a), .val (.int (2 : Int32)), .val (.int (3 : Int32))] [])) _
        exact X19.returnOut hx Bd.returns (hb hby d8_22) hrr
      · show QrmEx Z a (2 : Int32) w (1 : Int32) (1 : Int32) f h0 n0 _ T19.heap _
        rw [e19]
        exact ⟨c18, kd18, s18, rfl, N19, g_c18, hcw18, Kp19, Ex, Fw18, F_wordsInUse_a, Fs18, Aq18⟩
    · skip
      refine own_go (A := s₁.setTop (mkF m 5 #[.val (.ref a), .val (.int (3 : Int32)), .val (.int (4 : Int32))] [(.ref a)])) (fun _ kz => ?_) ?_
      · show Steps p.tables e below (s₁.setTop (mkF m 0 #[.val (.ref a), .val (.int (3 : Int32)), .unset] [])) _
        refine XS.iloadN X0.here hx rfl (hb hby d8_0) rfl ?_
        show Steps p.tables e below (s₁.setTop (mkF m 1 #[.val (.ref a), .val (.int (3 : Int32)), .unset] [(.int (3 : Int32))])) _
        refine XS.iconst X0.here hx rfl (hb hby d8_1) ?_
        show Steps p.tables e below (s₁.setTop (mkF m 2 #[.val (.ref a), .val (.int (3 : Int32)), .unset] [(.int (1 : Int32)), (.int (3 : Int32))])) _
        refine XS.iadd X0.here hx rfl (hb hby d8_2) rfl ?_
        show Steps p.tables e below (s₁.setTop (mkF m 3 #[.val (.ref a), .val (.int (3 : Int32)), .unset] [(.int (4 : Int32))])) _
        refine XS.istoreN X0.here hx rfl (hb hby d8_3) rfl (l' := #[.val (.ref a), .val (.int (3 : Int32)), .val (.int (4 : Int32))]) rfl ?_
        show Steps p.tables e below (s₁.setTop (mkF m 4 #[.val (.ref a), .val (.int (3 : Int32)), .val (.int (4 : Int32))] [])) _
        refine XS.aloadN X0.here hx rfl (hb hby d8_4) rfl rfl ?_
        exact kz
      obtain ⟨T20, X20, e20, st20⟩ := getF X0 hx hZ hown (host := "") (Or.inl (hw _ (List.mem_of_getElem? (i := 16) rfl))) Via.refl e0 Fu (g := (mkF m 5 #[.val (.ref a), .val (.int (3 : Int32)), .val (.int (4 : Int32))] [(.ref a)])) rfl rfl (hb hby d8_5)
      refine own_go (A := T20.setTop (mkF m 8 #[.val (.ref a), .val (.int (3 : Int32)), .val (.int (4 : Int32))] [(.int (1 : Int32))])) (fun _ kz => st20 _ kz) ?_
      refine own_go (A := T20.setTop (mkF m 14 #[.val (.ref a), .val (.int (3 : Int32)), .val (.int (4 : Int32))] [(.int (4 : Int32)), (.ref a)])) (fun _ kz => ?_) ?_
      · show Steps p.tables e below (T20.setTop (mkF m 8 #[.val (.ref a), .val (.int (3 : Int32)), .val (.int (4 : Int32))] [(.int (1 : Int32))])) _
        refine XS.iloadN X20.here hx rfl (hb hby d8_8) rfl ?_
        show Steps p.tables e below (T20.setTop (mkF m 9 #[.val (.ref a), .val (.int (3 : Int32)), .val (.int (4 : Int32))] [(.int (4 : Int32)), (.int (1 : Int32))])) _
        refine XS.icmpNo X20.here hx rfl (hb hby d8_9) rfl (tlt (by decide : ((1 : Int32) < (4 : Int32)))).2.1 ?_
        show Steps p.tables e below (T20.setTop (mkF m 12 #[.val (.ref a), .val (.int (3 : Int32)), .val (.int (4 : Int32))] [])) _
        refine XS.aloadN X20.here hx rfl (hb hby d8_12) rfl rfl ?_
        show Steps p.tables e below (T20.setTop (mkF m 13 #[.val (.ref a), .val (.int (3 : Int32)), .val (.int (4 : Int32))] [(.ref a)])) _
        refine XS.iloadN X20.here hx rfl (hb hby d8_13) rfl ?_
        exact kz
      obtain ⟨cq21, q21, q21'⟩ := Ex.cell
      obtain ⟨_, _, ⟨T21, L21, k21, n21⟩, -, X21, ⟨Lc21, hQ21, l21, y21, z21⟩, st21⟩ := X20.privateBack hx (y := (⟨"java/util/BitSet", "ensureCapacity", "(I)V"⟩ : MethodName)) hown (mvT hZ (hw _ (List.mem_of_getElem? (i := 52) rfl))) (mvT hZ (hw _ (List.mem_of_getElem? (i := 53) rfl))) (mvT hZ (hw _ (List.mem_of_getElem? (i := 55) rfl))) (Cond.privateMethod_at (mvP hZ (hw _ (List.mem_of_getElem? (i := 54) rfl)) (args := #[]))) (mvT hZ (hw _ (List.mem_of_getElem? (i := 56) rfl))) (by decide) (backOf (W := 0) (rmEC l Z a0 hw [] a (4 : Int32) w kc (1 : Int32) (1 : Int32) s_ f h0 n0 Z0 (by decide) (fun k hk => hz k (Nat.le_trans (by decide) hk)) Ex Fw Fu Fs Av g_a ne_w_a g_w) hZ (hw _ (List.mem_of_getElem? (i := 56) rfl)) (hw _ (List.mem_of_getElem? (i := 11) rfl)) (by decide) (by decide)) (g := (mkF m 14 #[.val (.ref a), .val (.int (3 : Int32)), .val (.int (4 : Int32))] [(.int (4 : Int32)), (.ref a)])) rfl (by rw [hml]; rfl) (Steps.refl _) (a := a) (by rw [e20]; exact q21) q21' (argsL := [(.int (4 : Int32))]) (rest := []) (lenOf own_pd2 rfl) rfl (by show 2 * 0 + _ ≤ _; exact Nat.le_of_eq rfl) (hb hby d8_14) (fun _ _ => ⟨rfl, e20, (by decide : 0 + 1 ≤ _), (by decide : 0 + 6 ≤ _)⟩)
      dsimp only [Pt.U, Pt.locs, Pt.cells, Pt.slots] at X21 l21 y21 z21 st21 hQ21
      subst l21 y21 z21
      obtain ⟨c21, kd21, s21, rfl, N21q, g_c21, hcw21, K21q, _, Fw21, Fu21, Fs21, Aq21⟩ := hQ21
      have N21 := Fr.app N0 N21q
      replace Ex := Ex.keep K21q
      replace Av := Av.keep K21q (ninS ne_w_a nin0)
      have Z21 : n0 ≤ T21.heap.size := Nat.le_trans Z0 K21q.1
      have Kp21 : Keep h0 T21.heap [a] := Kp0.trans K21q (allS (Or.inl (List.mem_of_getElem? (i := 0) rfl)) (all0))
      have ne_c21_a : c21 ≠ a := Ne.symm (own_neA Ex (hw _ (List.mem_of_getElem? (i := 10) rfl)) Aq21)
      refine own_go (A := T21.setTop (mkF m 17 #[.val (.ref a), .val (.int (3 : Int32)), .val (.int (4 : Int32))] [])) (fun _ kz => st21.trans kz) ?_
      refine own_go (A := T21.setTop (mkF m 19 #[.val (.ref a), .val (.int (3 : Int32)), .val (.int (4 : Int32))] [(.int (4 : Int32)), (.ref a)])) (fun _ kz => ?_) ?_
      · show Steps p.tables e below (T21.setTop (mkF m 17 #[.val (.ref a), .val (.int (3 : Int32)), .val (.int (4 : Int32))] [])) _
        refine XS.aloadN X21.here hx rfl (hb hby d8_17) rfl rfl ?_
        show Steps p.tables e below (T21.setTop (mkF m 18 #[.val (.ref a), .val (.int (3 : Int32)), .val (.int (4 : Int32))] [(.ref a)])) _
        refine XS.iloadN X21.here hx rfl (hb hby d8_18) rfl ?_
        exact kz
      obtain ⟨T22, h22, X22, e22, W22, st22⟩ := putF X21 hx hZ hown (host := "") (Or.inl (hw _ (List.mem_of_getElem? (i := 16) rfl))) Via.refl rfl Fu21 Ex (Or.inl (hw _ (List.mem_of_getElem? (i := 17) rfl))) (hw _ (List.mem_of_getElem? (i := 10) rfl)) (ty := .int) (by decide) rfl rfl (g := (mkF m 19 #[.val (.ref a), .val (.int (3 : Int32)), .val (.int (4 : Int32))] [(.int (4 : Int32)), (.ref a)])) rfl rfl (hb hby d8_19)
      have Fw22 := Fu21.same W22
      replace Ex := Ex.wr W22
      replace Av := Av.other W22 ne_w_a
      replace Aq21 := Aq21.other W22 ne_c21_a
      replace Fw21 := Fw21.other W22 (Or.inr (slot_ne (Or.inl (hw _ (List.mem_of_getElem? (i := 30) rfl))) (Or.inl (hw _ (List.mem_of_getElem? (i := 17) rfl))) (by decide) (t := (.array .long)) (t' := .int) (by decide) (by decide)))
      replace Fs21 := Fs21.other W22 (Or.inr (slot_ne (Or.inl (hw _ (List.mem_of_getElem? (i := 19) rfl))) (Or.inl (hw _ (List.mem_of_getElem? (i := 17) rfl))) (by decide) (t := .boolean) (t' := .int) (by decide) (by decide)))
      have Z22 : n0 ≤ h22.size := Nat.le_trans Z21 (Keep.of_wr W22).1
      have Kp22 : Keep h0 h22 [a] := Kp21.wr W22 (Or.inl (List.mem_of_getElem? (i := 0) rfl))
      have F_wordsInUse_a := Fw22
      have N22 := Fr.snoc X22 N21 g_a
      refine own_go (A := T22.setTop (mkF m 22 #[.val (.ref a), .val (.int (3 : Int32)), .val (.int (4 : Int32))] [])) (fun _ kz => st22 _ kz) ?_
      obtain ⟨fs, hrr, hrun, hended, hW, hsame⟩ := X22.leave (v := none) (fun _ => rfl)
      refine ⟨_, _, ?_, hrun, hended, _, _, rfl, ?_, ⟨_, rfl⟩, hW, hsame.mono (by decide) (by decide)⟩
      · show Steps p.tables e below (T22.setTop (mkF m 22 #[.val (.ref a), .val (.int (3 : Int32)), .val (.int (4 : Int32))] [])) _
        exact X22.returnOut hx Bd.returns (hb hby d8_22) hrr
      · show QrmEx Z a (3 : Int32) w (1 : Int32) (1 : Int32) f h0 n0 _ T22.heap _
        rw [e22]
        exact ⟨c21, kd21, s21, rfl, N22, g_c21, hcw21, Kp22, Ex, Fw21, F_wordsInUse_a, Fs21, Aq21⟩
  · skip
    rcases hw4 with rfl | rfl | rfl | rfl
    · skip
      refine own_go (A := s₁.setTop (mkF m 5 #[.val (.ref a), .val (.int (0 : Int32)), .val (.int (1 : Int32))] [(.ref a)])) (fun _ kz => ?_) ?_
      · show Steps p.tables e below (s₁.setTop (mkF m 0 #[.val (.ref a), .val (.int (0 : Int32)), .unset] [])) _
        refine XS.iloadN X0.here hx rfl (hb hby d8_0) rfl ?_
        show Steps p.tables e below (s₁.setTop (mkF m 1 #[.val (.ref a), .val (.int (0 : Int32)), .unset] [(.int (0 : Int32))])) _
        refine XS.iconst X0.here hx rfl (hb hby d8_1) ?_
        show Steps p.tables e below (s₁.setTop (mkF m 2 #[.val (.ref a), .val (.int (0 : Int32)), .unset] [(.int (1 : Int32)), (.int (0 : Int32))])) _
        refine XS.iadd X0.here hx rfl (hb hby d8_2) rfl ?_
        show Steps p.tables e below (s₁.setTop (mkF m 3 #[.val (.ref a), .val (.int (0 : Int32)), .unset] [(.int (1 : Int32))])) _
        refine XS.istoreN X0.here hx rfl (hb hby d8_3) rfl (l' := #[.val (.ref a), .val (.int (0 : Int32)), .val (.int (1 : Int32))]) rfl ?_
        show Steps p.tables e below (s₁.setTop (mkF m 4 #[.val (.ref a), .val (.int (0 : Int32)), .val (.int (1 : Int32))] [])) _
        refine XS.aloadN X0.here hx rfl (hb hby d8_4) rfl rfl ?_
        exact kz
      obtain ⟨T23, X23, e23, st23⟩ := getF X0 hx hZ hown (host := "") (Or.inl (hw _ (List.mem_of_getElem? (i := 16) rfl))) Via.refl e0 Fu (g := (mkF m 5 #[.val (.ref a), .val (.int (0 : Int32)), .val (.int (1 : Int32))] [(.ref a)])) rfl rfl (hb hby d8_5)
      refine own_go (A := T23.setTop (mkF m 8 #[.val (.ref a), .val (.int (0 : Int32)), .val (.int (1 : Int32))] [(.int (2 : Int32))])) (fun _ kz => st23 _ kz) ?_
      refine own_go (A := T23.setTop (mkF m 22 #[.val (.ref a), .val (.int (0 : Int32)), .val (.int (1 : Int32))] [])) (fun _ kz => ?_) ?_
      · show Steps p.tables e below (T23.setTop (mkF m 8 #[.val (.ref a), .val (.int (0 : Int32)), .val (.int (1 : Int32))] [(.int (2 : Int32))])) _
        refine XS.iloadN X23.here hx rfl (hb hby d8_8) rfl ?_
        show Steps p.tables e below (T23.setTop (mkF m 9 #[.val (.ref a), .val (.int (0 : Int32)), .val (.int (1 : Int32))] [(.int (1 : Int32)), (.int (2 : Int32))])) _
        refine XS.icmpYes X23.here hx rfl (pc0 := 9) (pc' := 22) rfl (hb hby d8_9) rfl (flt (by decide : ¬ ((2 : Int32) < (1 : Int32)))).2.1 (by decide) (by decide) ?_
        exact kz
      obtain ⟨fs, hrr, hrun, hended, hW, hsame⟩ := X23.leave (v := none) (fun _ => rfl)
      refine ⟨_, _, ?_, hrun, hended, _, _, rfl, ?_, ⟨_, rfl⟩, hW, hsame.mono (by decide) (by decide)⟩
      · show Steps p.tables e below (T23.setTop (mkF m 22 #[.val (.ref a), .val (.int (0 : Int32)), .val (.int (1 : Int32))] [])) _
        exact X23.returnOut hx Bd.returns (hb hby d8_22) hrr
      · show QrmEx Z a (0 : Int32) w (2 : Int32) (2 : Int32) f h0 n0 _ T23.heap _
        rw [e23]
        exact ⟨w, kc, s_, rfl, N0, g_w, Or.inl rfl, Kp0, Ex, Fw, Fu, Fs, Av⟩
    · skip
      refine own_go (A := s₁.setTop (mkF m 5 #[.val (.ref a), .val (.int (1 : Int32)), .val (.int (2 : Int32))] [(.ref a)])) (fun _ kz => ?_) ?_
      · show Steps p.tables e below (s₁.setTop (mkF m 0 #[.val (.ref a), .val (.int (1 : Int32)), .unset] [])) _
        refine XS.iloadN X0.here hx rfl (hb hby d8_0) rfl ?_
        show Steps p.tables e below (s₁.setTop (mkF m 1 #[.val (.ref a), .val (.int (1 : Int32)), .unset] [(.int (1 : Int32))])) _
        refine XS.iconst X0.here hx rfl (hb hby d8_1) ?_
        show Steps p.tables e below (s₁.setTop (mkF m 2 #[.val (.ref a), .val (.int (1 : Int32)), .unset] [(.int (1 : Int32)), (.int (1 : Int32))])) _
        refine XS.iadd X0.here hx rfl (hb hby d8_2) rfl ?_
        show Steps p.tables e below (s₁.setTop (mkF m 3 #[.val (.ref a), .val (.int (1 : Int32)), .unset] [(.int (2 : Int32))])) _
        refine XS.istoreN X0.here hx rfl (hb hby d8_3) rfl (l' := #[.val (.ref a), .val (.int (1 : Int32)), .val (.int (2 : Int32))]) rfl ?_
        show Steps p.tables e below (s₁.setTop (mkF m 4 #[.val (.ref a), .val (.int (1 : Int32)), .val (.int (2 : Int32))] [])) _
        refine XS.aloadN X0.here hx rfl (hb hby d8_4) rfl rfl ?_
        exact kz
      obtain ⟨T24, X24, e24, st24⟩ := getF X0 hx hZ hown (host := "") (Or.inl (hw _ (List.mem_of_getElem? (i := 16) rfl))) Via.refl e0 Fu (g := (mkF m 5 #[.val (.ref a), .val (.int (1 : Int32)), .val (.int (2 : Int32))] [(.ref a)])) rfl rfl (hb hby d8_5)
      refine own_go (A := T24.setTop (mkF m 8 #[.val (.ref a), .val (.int (1 : Int32)), .val (.int (2 : Int32))] [(.int (2 : Int32))])) (fun _ kz => st24 _ kz) ?_
      refine own_go (A := T24.setTop (mkF m 22 #[.val (.ref a), .val (.int (1 : Int32)), .val (.int (2 : Int32))] [])) (fun _ kz => ?_) ?_
      · show Steps p.tables e below (T24.setTop (mkF m 8 #[.val (.ref a), .val (.int (1 : Int32)), .val (.int (2 : Int32))] [(.int (2 : Int32))])) _
        refine XS.iloadN X24.here hx rfl (hb hby d8_8) rfl ?_
        show Steps p.tables e below (T24.setTop (mkF m 9 #[.val (.ref a), .val (.int (1 : Int32)), .val (.int (2 : Int32))] [(.int (2 : Int32)), (.int (2 : Int32))])) _
        refine XS.icmpYes X24.here hx rfl (pc0 := 9) (pc' := 22) rfl (hb hby d8_9) rfl (flt (by decide : ¬ ((2 : Int32) < (2 : Int32)))).2.1 (by decide) (by decide) ?_
        exact kz
      obtain ⟨fs, hrr, hrun, hended, hW, hsame⟩ := X24.leave (v := none) (fun _ => rfl)
      refine ⟨_, _, ?_, hrun, hended, _, _, rfl, ?_, ⟨_, rfl⟩, hW, hsame.mono (by decide) (by decide)⟩
      · show Steps p.tables e below (T24.setTop (mkF m 22 #[.val (.ref a), .val (.int (1 : Int32)), .val (.int (2 : Int32))] [])) _
        exact X24.returnOut hx Bd.returns (hb hby d8_22) hrr
      · show QrmEx Z a (1 : Int32) w (2 : Int32) (2 : Int32) f h0 n0 _ T24.heap _
        rw [e24]
        exact ⟨w, kc, s_, rfl, N0, g_w, Or.inl rfl, Kp0, Ex, Fw, Fu, Fs, Av⟩
    · skip
      refine own_go (A := s₁.setTop (mkF m 5 #[.val (.ref a), .val (.int (2 : Int32)), .val (.int (3 : Int32))] [(.ref a)])) (fun _ kz => ?_) ?_
      · show Steps p.tables e below (s₁.setTop (mkF m 0 #[.val (.ref a), .val (.int (2 : Int32)), .unset] [])) _
        refine XS.iloadN X0.here hx rfl (hb hby d8_0) rfl ?_
        show Steps p.tables e below (s₁.setTop (mkF m 1 #[.val (.ref a), .val (.int (2 : Int32)), .unset] [(.int (2 : Int32))])) _
        refine XS.iconst X0.here hx rfl (hb hby d8_1) ?_
        show Steps p.tables e below (s₁.setTop (mkF m 2 #[.val (.ref a), .val (.int (2 : Int32)), .unset] [(.int (1 : Int32)), (.int (2 : Int32))])) _
        refine XS.iadd X0.here hx rfl (hb hby d8_2) rfl ?_
        show Steps p.tables e below (s₁.setTop (mkF m 3 #[.val (.ref a), .val (.int (2 : Int32)), .unset] [(.int (3 : Int32))])) _
        refine XS.istoreN X0.here hx rfl (hb hby d8_3) rfl (l' := #[.val (.ref a), .val (.int (2 : Int32)), .val (.int (3 : Int32))]) rfl ?_
        show Steps p.tables e below (s₁.setTop (mkF m 4 #[.val (.ref a), .val (.int (2 : Int32)), .val (.int (3 : Int32))] [])) _
        refine XS.aloadN X0.here hx rfl (hb hby d8_4) rfl rfl ?_
        exact kz
      obtain ⟨T25, X25, e25, st25⟩ := getF X0 hx hZ hown (host := "") (Or.inl (hw _ (List.mem_of_getElem? (i := 16) rfl))) Via.refl e0 Fu (g := (mkF m 5 #[.val (.ref a), .val (.int (2 : Int32)), .val (.int (3 : Int32))] [(.ref a)])) rfl rfl (hb hby d8_5)
      refine own_go (A := T25.setTop (mkF m 8 #[.val (.ref a), .val (.int (2 : Int32)), .val (.int (3 : Int32))] [(.int (2 : Int32))])) (fun _ kz => st25 _ kz) ?_
      refine own_go (A := T25.setTop (mkF m 14 #[.val (.ref a), .val (.int (2 : Int32)), .val (.int (3 : Int32))] [(.int (3 : Int32)), (.ref a)])) (fun _ kz => ?_) ?_
      · show Steps p.tables e below (T25.setTop (mkF m 8 #[.val (.ref a), .val (.int (2 : Int32)), .val (.int (3 : Int32))] [(.int (2 : Int32))])) _
        refine XS.iloadN X25.here hx rfl (hb hby d8_8) rfl ?_
        show Steps p.tables e below (T25.setTop (mkF m 9 #[.val (.ref a), .val (.int (2 : Int32)), .val (.int (3 : Int32))] [(.int (3 : Int32)), (.int (2 : Int32))])) _
        refine XS.icmpNo X25.here hx rfl (hb hby d8_9) rfl (tlt (by decide : ((2 : Int32) < (3 : Int32)))).2.1 ?_
        show Steps p.tables e below (T25.setTop (mkF m 12 #[.val (.ref a), .val (.int (2 : Int32)), .val (.int (3 : Int32))] [])) _
        refine XS.aloadN X25.here hx rfl (hb hby d8_12) rfl rfl ?_
        show Steps p.tables e below (T25.setTop (mkF m 13 #[.val (.ref a), .val (.int (2 : Int32)), .val (.int (3 : Int32))] [(.ref a)])) _
        refine XS.iloadN X25.here hx rfl (hb hby d8_13) rfl ?_
        exact kz
      obtain ⟨cq26, q26, q26'⟩ := Ex.cell
      obtain ⟨_, _, ⟨T26, L26, k26, n26⟩, -, X26, ⟨Lc26, hQ26, l26, y26, z26⟩, st26⟩ := X25.privateBack hx (y := (⟨"java/util/BitSet", "ensureCapacity", "(I)V"⟩ : MethodName)) hown (mvT hZ (hw _ (List.mem_of_getElem? (i := 52) rfl))) (mvT hZ (hw _ (List.mem_of_getElem? (i := 53) rfl))) (mvT hZ (hw _ (List.mem_of_getElem? (i := 55) rfl))) (Cond.privateMethod_at (mvP hZ (hw _ (List.mem_of_getElem? (i := 54) rfl)) (args := #[]))) (mvT hZ (hw _ (List.mem_of_getElem? (i := 56) rfl))) (by decide) (backOf (W := 0) (rmEC l Z a0 hw [] a (3 : Int32) w kc (2 : Int32) (2 : Int32) s_ f h0 n0 Z0 (by decide) (fun k hk => hz k (Nat.le_trans (by decide) hk)) Ex Fw Fu Fs Av g_a ne_w_a g_w) hZ (hw _ (List.mem_of_getElem? (i := 56) rfl)) (hw _ (List.mem_of_getElem? (i := 11) rfl)) (by decide) (by decide)) (g := (mkF m 14 #[.val (.ref a), .val (.int (2 : Int32)), .val (.int (3 : Int32))] [(.int (3 : Int32)), (.ref a)])) rfl (by rw [hml]; rfl) (Steps.refl _) (a := a) (by rw [e25]; exact q26) q26' (argsL := [(.int (3 : Int32))]) (rest := []) (lenOf own_pd2 rfl) rfl (by show 2 * 0 + _ ≤ _; exact Nat.le_of_eq rfl) (hb hby d8_14) (fun _ _ => ⟨rfl, e25, (by decide : 0 + 1 ≤ _), (by decide : 0 + 6 ≤ _)⟩)
      dsimp only [Pt.U, Pt.locs, Pt.cells, Pt.slots] at X26 l26 y26 z26 st26 hQ26
      subst l26 y26 z26
      obtain ⟨c26, kd26, s26, rfl, N26q, g_c26, hcw26, K26q, _, Fw26, Fu26, Fs26, Aq26⟩ := hQ26
      have N26 := Fr.app N0 N26q
      replace Ex := Ex.keep K26q
      replace Av := Av.keep K26q (ninS ne_w_a nin0)
      have Z26 : n0 ≤ T26.heap.size := Nat.le_trans Z0 K26q.1
      have Kp26 : Keep h0 T26.heap [a] := Kp0.trans K26q (allS (Or.inl (List.mem_of_getElem? (i := 0) rfl)) (all0))
      have ne_c26_a : c26 ≠ a := Ne.symm (own_neA Ex (hw _ (List.mem_of_getElem? (i := 10) rfl)) Aq26)
      refine own_go (A := T26.setTop (mkF m 17 #[.val (.ref a), .val (.int (2 : Int32)), .val (.int (3 : Int32))] [])) (fun _ kz => st26.trans kz) ?_
      refine own_go (A := T26.setTop (mkF m 19 #[.val (.ref a), .val (.int (2 : Int32)), .val (.int (3 : Int32))] [(.int (3 : Int32)), (.ref a)])) (fun _ kz => ?_) ?_
      · show Steps p.tables e below (T26.setTop (mkF m 17 #[.val (.ref a), .val (.int (2 : Int32)), .val (.int (3 : Int32))] [])) _
        refine XS.aloadN X26.here hx rfl (hb hby d8_17) rfl rfl ?_
        show Steps p.tables e below (T26.setTop (mkF m 18 #[.val (.ref a), .val (.int (2 : Int32)), .val (.int (3 : Int32))] [(.ref a)])) _
        refine XS.iloadN X26.here hx rfl (hb hby d8_18) rfl ?_
        exact kz
      obtain ⟨T27, h27, X27, e27, W27, st27⟩ := putF X26 hx hZ hown (host := "") (Or.inl (hw _ (List.mem_of_getElem? (i := 16) rfl))) Via.refl rfl Fu26 Ex (Or.inl (hw _ (List.mem_of_getElem? (i := 17) rfl))) (hw _ (List.mem_of_getElem? (i := 10) rfl)) (ty := .int) (by decide) rfl rfl (g := (mkF m 19 #[.val (.ref a), .val (.int (2 : Int32)), .val (.int (3 : Int32))] [(.int (3 : Int32)), (.ref a)])) rfl rfl (hb hby d8_19)
      have Fw27 := Fu26.same W27
      replace Ex := Ex.wr W27
      replace Av := Av.other W27 ne_w_a
      replace Aq26 := Aq26.other W27 ne_c26_a
      replace Fw26 := Fw26.other W27 (Or.inr (slot_ne (Or.inl (hw _ (List.mem_of_getElem? (i := 30) rfl))) (Or.inl (hw _ (List.mem_of_getElem? (i := 17) rfl))) (by decide) (t := (.array .long)) (t' := .int) (by decide) (by decide)))
      replace Fs26 := Fs26.other W27 (Or.inr (slot_ne (Or.inl (hw _ (List.mem_of_getElem? (i := 19) rfl))) (Or.inl (hw _ (List.mem_of_getElem? (i := 17) rfl))) (by decide) (t := .boolean) (t' := .int) (by decide) (by decide)))
      have Z27 : n0 ≤ h27.size := Nat.le_trans Z26 (Keep.of_wr W27).1
      have Kp27 : Keep h0 h27 [a] := Kp26.wr W27 (Or.inl (List.mem_of_getElem? (i := 0) rfl))
      have F_wordsInUse_a := Fw27
      have N27 := Fr.snoc X27 N26 g_a
      refine own_go (A := T27.setTop (mkF m 22 #[.val (.ref a), .val (.int (2 : Int32)), .val (.int (3 : Int32))] [])) (fun _ kz => st27 _ kz) ?_
      obtain ⟨fs, hrr, hrun, hended, hW, hsame⟩ := X27.leave (v := none) (fun _ => rfl)
      refine ⟨_, _, ?_, hrun, hended, _, _, rfl, ?_, ⟨_, rfl⟩, hW, hsame.mono (by decide) (by decide)⟩
      · show Steps p.tables e below (T27.setTop (mkF m 22 #[.val (.ref a), .val (.int (2 : Int32)), .val (.int (3 : Int32))] [])) _
        exact X27.returnOut hx Bd.returns (hb hby d8_22) hrr
      · show QrmEx Z a (2 : Int32) w (2 : Int32) (2 : Int32) f h0 n0 _ T27.heap _
        rw [e27]
        exact ⟨c26, kd26, s26, rfl, N27, g_c26, hcw26, Kp27, Ex, Fw26, F_wordsInUse_a, Fs26, Aq26⟩
    · skip
      refine own_go (A := s₁.setTop (mkF m 5 #[.val (.ref a), .val (.int (3 : Int32)), .val (.int (4 : Int32))] [(.ref a)])) (fun _ kz => ?_) ?_
      · show Steps p.tables e below (s₁.setTop (mkF m 0 #[.val (.ref a), .val (.int (3 : Int32)), .unset] [])) _
        refine XS.iloadN X0.here hx rfl (hb hby d8_0) rfl ?_
        show Steps p.tables e below (s₁.setTop (mkF m 1 #[.val (.ref a), .val (.int (3 : Int32)), .unset] [(.int (3 : Int32))])) _
        refine XS.iconst X0.here hx rfl (hb hby d8_1) ?_
        show Steps p.tables e below (s₁.setTop (mkF m 2 #[.val (.ref a), .val (.int (3 : Int32)), .unset] [(.int (1 : Int32)), (.int (3 : Int32))])) _
        refine XS.iadd X0.here hx rfl (hb hby d8_2) rfl ?_
        show Steps p.tables e below (s₁.setTop (mkF m 3 #[.val (.ref a), .val (.int (3 : Int32)), .unset] [(.int (4 : Int32))])) _
        refine XS.istoreN X0.here hx rfl (hb hby d8_3) rfl (l' := #[.val (.ref a), .val (.int (3 : Int32)), .val (.int (4 : Int32))]) rfl ?_
        show Steps p.tables e below (s₁.setTop (mkF m 4 #[.val (.ref a), .val (.int (3 : Int32)), .val (.int (4 : Int32))] [])) _
        refine XS.aloadN X0.here hx rfl (hb hby d8_4) rfl rfl ?_
        exact kz
      obtain ⟨T28, X28, e28, st28⟩ := getF X0 hx hZ hown (host := "") (Or.inl (hw _ (List.mem_of_getElem? (i := 16) rfl))) Via.refl e0 Fu (g := (mkF m 5 #[.val (.ref a), .val (.int (3 : Int32)), .val (.int (4 : Int32))] [(.ref a)])) rfl rfl (hb hby d8_5)
      refine own_go (A := T28.setTop (mkF m 8 #[.val (.ref a), .val (.int (3 : Int32)), .val (.int (4 : Int32))] [(.int (2 : Int32))])) (fun _ kz => st28 _ kz) ?_
      refine own_go (A := T28.setTop (mkF m 14 #[.val (.ref a), .val (.int (3 : Int32)), .val (.int (4 : Int32))] [(.int (4 : Int32)), (.ref a)])) (fun _ kz => ?_) ?_
      · show Steps p.tables e below (T28.setTop (mkF m 8 #[.val (.ref a), .val (.int (3 : Int32)), .val (.int (4 : Int32))] [(.int (2 : Int32))])) _
        refine XS.iloadN X28.here hx rfl (hb hby d8_8) rfl ?_
        show Steps p.tables e below (T28.setTop (mkF m 9 #[.val (.ref a), .val (.int (3 : Int32)), .val (.int (4 : Int32))] [(.int (4 : Int32)), (.int (2 : Int32))])) _
        refine XS.icmpNo X28.here hx rfl (hb hby d8_9) rfl (tlt (by decide : ((2 : Int32) < (4 : Int32)))).2.1 ?_
        show Steps p.tables e below (T28.setTop (mkF m 12 #[.val (.ref a), .val (.int (3 : Int32)), .val (.int (4 : Int32))] [])) _
        refine XS.aloadN X28.here hx rfl (hb hby d8_12) rfl rfl ?_
        show Steps p.tables e below (T28.setTop (mkF m 13 #[.val (.ref a), .val (.int (3 : Int32)), .val (.int (4 : Int32))] [(.ref a)])) _
        refine XS.iloadN X28.here hx rfl (hb hby d8_13) rfl ?_
        exact kz
      obtain ⟨cq29, q29, q29'⟩ := Ex.cell
      obtain ⟨_, _, ⟨T29, L29, k29, n29⟩, -, X29, ⟨Lc29, hQ29, l29, y29, z29⟩, st29⟩ := X28.privateBack hx (y := (⟨"java/util/BitSet", "ensureCapacity", "(I)V"⟩ : MethodName)) hown (mvT hZ (hw _ (List.mem_of_getElem? (i := 52) rfl))) (mvT hZ (hw _ (List.mem_of_getElem? (i := 53) rfl))) (mvT hZ (hw _ (List.mem_of_getElem? (i := 55) rfl))) (Cond.privateMethod_at (mvP hZ (hw _ (List.mem_of_getElem? (i := 54) rfl)) (args := #[]))) (mvT hZ (hw _ (List.mem_of_getElem? (i := 56) rfl))) (by decide) (backOf (W := 0) (rmEC l Z a0 hw [] a (4 : Int32) w kc (2 : Int32) (2 : Int32) s_ f h0 n0 Z0 (by decide) (fun k hk => hz k (Nat.le_trans (by decide) hk)) Ex Fw Fu Fs Av g_a ne_w_a g_w) hZ (hw _ (List.mem_of_getElem? (i := 56) rfl)) (hw _ (List.mem_of_getElem? (i := 11) rfl)) (by decide) (by decide)) (g := (mkF m 14 #[.val (.ref a), .val (.int (3 : Int32)), .val (.int (4 : Int32))] [(.int (4 : Int32)), (.ref a)])) rfl (by rw [hml]; rfl) (Steps.refl _) (a := a) (by rw [e28]; exact q29) q29' (argsL := [(.int (4 : Int32))]) (rest := []) (lenOf own_pd2 rfl) rfl (by show 2 * 0 + _ ≤ _; exact Nat.le_of_eq rfl) (hb hby d8_14) (fun _ _ => ⟨rfl, e28, (by decide : 0 + 1 ≤ _), (by decide : 0 + 6 ≤ _)⟩)
      dsimp only [Pt.U, Pt.locs, Pt.cells, Pt.slots] at X29 l29 y29 z29 st29 hQ29
      subst l29 y29 z29
      obtain ⟨c29, kd29, s29, rfl, N29q, g_c29, hcw29, K29q, _, Fw29, Fu29, Fs29, Aq29⟩ := hQ29
      have N29 := Fr.app N0 N29q
      replace Ex := Ex.keep K29q
      replace Av := Av.keep K29q (ninS ne_w_a nin0)
      have Z29 : n0 ≤ T29.heap.size := Nat.le_trans Z0 K29q.1
      have Kp29 : Keep h0 T29.heap [a] := Kp0.trans K29q (allS (Or.inl (List.mem_of_getElem? (i := 0) rfl)) (all0))
      have ne_c29_a : c29 ≠ a := Ne.symm (own_neA Ex (hw _ (List.mem_of_getElem? (i := 10) rfl)) Aq29)
      refine own_go (A := T29.setTop (mkF m 17 #[.val (.ref a), .val (.int (3 : Int32)), .val (.int (4 : Int32))] [])) (fun _ kz => st29.trans kz) ?_
      refine own_go (A := T29.setTop (mkF m 19 #[.val (.ref a), .val (.int (3 : Int32)), .val (.int (4 : Int32))] [(.int (4 : Int32)), (.ref a)])) (fun _ kz => ?_) ?_
      · show Steps p.tables e below (T29.setTop (mkF m 17 #[.val (.ref a), .val (.int (3 : Int32)), .val (.int (4 : Int32))] [])) _
        refine XS.aloadN X29.here hx rfl (hb hby d8_17) rfl rfl ?_
        show Steps p.tables e below (T29.setTop (mkF m 18 #[.val (.ref a), .val (.int (3 : Int32)), .val (.int (4 : Int32))] [(.ref a)])) _
        refine XS.iloadN X29.here hx rfl (hb hby d8_18) rfl ?_
        exact kz
      obtain ⟨T30, h30, X30, e30, W30, st30⟩ := putF X29 hx hZ hown (host := "") (Or.inl (hw _ (List.mem_of_getElem? (i := 16) rfl))) Via.refl rfl Fu29 Ex (Or.inl (hw _ (List.mem_of_getElem? (i := 17) rfl))) (hw _ (List.mem_of_getElem? (i := 10) rfl)) (ty := .int) (by decide) rfl rfl (g := (mkF m 19 #[.val (.ref a), .val (.int (3 : Int32)), .val (.int (4 : Int32))] [(.int (4 : Int32)), (.ref a)])) rfl rfl (hb hby d8_19)
      have Fw30 := Fu29.same W30
      replace Ex := Ex.wr W30
      replace Av := Av.other W30 ne_w_a
      replace Aq29 := Aq29.other W30 ne_c29_a
      replace Fw29 := Fw29.other W30 (Or.inr (slot_ne (Or.inl (hw _ (List.mem_of_getElem? (i := 30) rfl))) (Or.inl (hw _ (List.mem_of_getElem? (i := 17) rfl))) (by decide) (t := (.array .long)) (t' := .int) (by decide) (by decide)))
      replace Fs29 := Fs29.other W30 (Or.inr (slot_ne (Or.inl (hw _ (List.mem_of_getElem? (i := 19) rfl))) (Or.inl (hw _ (List.mem_of_getElem? (i := 17) rfl))) (by decide) (t := .boolean) (t' := .int) (by decide) (by decide)))
      have Z30 : n0 ≤ h30.size := Nat.le_trans Z29 (Keep.of_wr W30).1
      have Kp30 : Keep h0 h30 [a] := Kp29.wr W30 (Or.inl (List.mem_of_getElem? (i := 0) rfl))
      have F_wordsInUse_a := Fw30
      have N30 := Fr.snoc X30 N29 g_a
      refine own_go (A := T30.setTop (mkF m 22 #[.val (.ref a), .val (.int (3 : Int32)), .val (.int (4 : Int32))] [])) (fun _ kz => st30 _ kz) ?_
      obtain ⟨fs, hrr, hrun, hended, hW, hsame⟩ := X30.leave (v := none) (fun _ => rfl)
      refine ⟨_, _, ?_, hrun, hended, _, _, rfl, ?_, ⟨_, rfl⟩, hW, hsame.mono (by decide) (by decide)⟩
      · show Steps p.tables e below (T30.setTop (mkF m 22 #[.val (.ref a), .val (.int (3 : Int32)), .val (.int (4 : Int32))] [])) _
        exact X30.returnOut hx Bd.returns (hb hby d8_22) hrr
      · show QrmEx Z a (3 : Int32) w (2 : Int32) (2 : Int32) f h0 n0 _ T30.heap _
        rw [e30]
        exact ⟨c29, kd29, s29, rfl, N30, g_c29, hcw29, Kp30, Ex, Fw29, F_wordsInUse_a, Fs29, Aq29⟩
  · skip
    rcases hw4 with rfl | rfl | rfl | rfl
    · skip
      refine own_go (A := s₁.setTop (mkF m 5 #[.val (.ref a), .val (.int (0 : Int32)), .val (.int (1 : Int32))] [(.ref a)])) (fun _ kz => ?_) ?_
      · show Steps p.tables e below (s₁.setTop (mkF m 0 #[.val (.ref a), .val (.int (0 : Int32)), .unset] [])) _
        refine XS.iloadN X0.here hx rfl (hb hby d8_0) rfl ?_
        show Steps p.tables e below (s₁.setTop (mkF m 1 #[.val (.ref a), .val (.int (0 : Int32)), .unset] [(.int (0 : Int32))])) _
        refine XS.iconst X0.here hx rfl (hb hby d8_1) ?_
        show Steps p.tables e below (s₁.setTop (mkF m 2 #[.val (.ref a), .val (.int (0 : Int32)), .unset] [(.int (1 : Int32)), (.int (0 : Int32))])) _
        refine XS.iadd X0.here hx rfl (hb hby d8_2) rfl ?_
        show Steps p.tables e below (s₁.setTop (mkF m 3 #[.val (.ref a), .val (.int (0 : Int32)), .unset] [(.int (1 : Int32))])) _
        refine XS.istoreN X0.here hx rfl (hb hby d8_3) rfl (l' := #[.val (.ref a), .val (.int (0 : Int32)), .val (.int (1 : Int32))]) rfl ?_
        show Steps p.tables e below (s₁.setTop (mkF m 4 #[.val (.ref a), .val (.int (0 : Int32)), .val (.int (1 : Int32))] [])) _
        refine XS.aloadN X0.here hx rfl (hb hby d8_4) rfl rfl ?_
        exact kz
      obtain ⟨T31, X31, e31, st31⟩ := getF X0 hx hZ hown (host := "") (Or.inl (hw _ (List.mem_of_getElem? (i := 16) rfl))) Via.refl e0 Fu (g := (mkF m 5 #[.val (.ref a), .val (.int (0 : Int32)), .val (.int (1 : Int32))] [(.ref a)])) rfl rfl (hb hby d8_5)
      refine own_go (A := T31.setTop (mkF m 8 #[.val (.ref a), .val (.int (0 : Int32)), .val (.int (1 : Int32))] [(.int (3 : Int32))])) (fun _ kz => st31 _ kz) ?_
      refine own_go (A := T31.setTop (mkF m 22 #[.val (.ref a), .val (.int (0 : Int32)), .val (.int (1 : Int32))] [])) (fun _ kz => ?_) ?_
      · show Steps p.tables e below (T31.setTop (mkF m 8 #[.val (.ref a), .val (.int (0 : Int32)), .val (.int (1 : Int32))] [(.int (3 : Int32))])) _
        refine XS.iloadN X31.here hx rfl (hb hby d8_8) rfl ?_
        show Steps p.tables e below (T31.setTop (mkF m 9 #[.val (.ref a), .val (.int (0 : Int32)), .val (.int (1 : Int32))] [(.int (1 : Int32)), (.int (3 : Int32))])) _
        refine XS.icmpYes X31.here hx rfl (pc0 := 9) (pc' := 22) rfl (hb hby d8_9) rfl (flt (by decide : ¬ ((3 : Int32) < (1 : Int32)))).2.1 (by decide) (by decide) ?_
        exact kz
      obtain ⟨fs, hrr, hrun, hended, hW, hsame⟩ := X31.leave (v := none) (fun _ => rfl)
      refine ⟨_, _, ?_, hrun, hended, _, _, rfl, ?_, ⟨_, rfl⟩, hW, hsame.mono (by decide) (by decide)⟩
      · show Steps p.tables e below (T31.setTop (mkF m 22 #[.val (.ref a), .val (.int (0 : Int32)), .val (.int (1 : Int32))] [])) _
        exact X31.returnOut hx Bd.returns (hb hby d8_22) hrr
      · show QrmEx Z a (0 : Int32) w (3 : Int32) (3 : Int32) f h0 n0 _ T31.heap _
        rw [e31]
        exact ⟨w, kc, s_, rfl, N0, g_w, Or.inl rfl, Kp0, Ex, Fw, Fu, Fs, Av⟩
    · skip
      refine own_go (A := s₁.setTop (mkF m 5 #[.val (.ref a), .val (.int (1 : Int32)), .val (.int (2 : Int32))] [(.ref a)])) (fun _ kz => ?_) ?_
      · show Steps p.tables e below (s₁.setTop (mkF m 0 #[.val (.ref a), .val (.int (1 : Int32)), .unset] [])) _
        refine XS.iloadN X0.here hx rfl (hb hby d8_0) rfl ?_
        show Steps p.tables e below (s₁.setTop (mkF m 1 #[.val (.ref a), .val (.int (1 : Int32)), .unset] [(.int (1 : Int32))])) _
        refine XS.iconst X0.here hx rfl (hb hby d8_1) ?_
        show Steps p.tables e below (s₁.setTop (mkF m 2 #[.val (.ref a), .val (.int (1 : Int32)), .unset] [(.int (1 : Int32)), (.int (1 : Int32))])) _
        refine XS.iadd X0.here hx rfl (hb hby d8_2) rfl ?_
        show Steps p.tables e below (s₁.setTop (mkF m 3 #[.val (.ref a), .val (.int (1 : Int32)), .unset] [(.int (2 : Int32))])) _
        refine XS.istoreN X0.here hx rfl (hb hby d8_3) rfl (l' := #[.val (.ref a), .val (.int (1 : Int32)), .val (.int (2 : Int32))]) rfl ?_
        show Steps p.tables e below (s₁.setTop (mkF m 4 #[.val (.ref a), .val (.int (1 : Int32)), .val (.int (2 : Int32))] [])) _
        refine XS.aloadN X0.here hx rfl (hb hby d8_4) rfl rfl ?_
        exact kz
      obtain ⟨T32, X32, e32, st32⟩ := getF X0 hx hZ hown (host := "") (Or.inl (hw _ (List.mem_of_getElem? (i := 16) rfl))) Via.refl e0 Fu (g := (mkF m 5 #[.val (.ref a), .val (.int (1 : Int32)), .val (.int (2 : Int32))] [(.ref a)])) rfl rfl (hb hby d8_5)
      refine own_go (A := T32.setTop (mkF m 8 #[.val (.ref a), .val (.int (1 : Int32)), .val (.int (2 : Int32))] [(.int (3 : Int32))])) (fun _ kz => st32 _ kz) ?_
      refine own_go (A := T32.setTop (mkF m 22 #[.val (.ref a), .val (.int (1 : Int32)), .val (.int (2 : Int32))] [])) (fun _ kz => ?_) ?_
      · show Steps p.tables e below (T32.setTop (mkF m 8 #[.val (.ref a), .val (.int (1 : Int32)), .val (.int (2 : Int32))] [(.int (3 : Int32))])) _
        refine XS.iloadN X32.here hx rfl (hb hby d8_8) rfl ?_
        show Steps p.tables e below (T32.setTop (mkF m 9 #[.val (.ref a), .val (.int (1 : Int32)), .val (.int (2 : Int32))] [(.int (2 : Int32)), (.int (3 : Int32))])) _
        refine XS.icmpYes X32.here hx rfl (pc0 := 9) (pc' := 22) rfl (hb hby d8_9) rfl (flt (by decide : ¬ ((3 : Int32) < (2 : Int32)))).2.1 (by decide) (by decide) ?_
        exact kz
      obtain ⟨fs, hrr, hrun, hended, hW, hsame⟩ := X32.leave (v := none) (fun _ => rfl)
      refine ⟨_, _, ?_, hrun, hended, _, _, rfl, ?_, ⟨_, rfl⟩, hW, hsame.mono (by decide) (by decide)⟩
      · show Steps p.tables e below (T32.setTop (mkF m 22 #[.val (.ref a), .val (.int (1 : Int32)), .val (.int (2 : Int32))] [])) _
        exact X32.returnOut hx Bd.returns (hb hby d8_22) hrr
      · show QrmEx Z a (1 : Int32) w (3 : Int32) (3 : Int32) f h0 n0 _ T32.heap _
        rw [e32]
        exact ⟨w, kc, s_, rfl, N0, g_w, Or.inl rfl, Kp0, Ex, Fw, Fu, Fs, Av⟩
    · skip
      refine own_go (A := s₁.setTop (mkF m 5 #[.val (.ref a), .val (.int (2 : Int32)), .val (.int (3 : Int32))] [(.ref a)])) (fun _ kz => ?_) ?_
      · show Steps p.tables e below (s₁.setTop (mkF m 0 #[.val (.ref a), .val (.int (2 : Int32)), .unset] [])) _
        refine XS.iloadN X0.here hx rfl (hb hby d8_0) rfl ?_
        show Steps p.tables e below (s₁.setTop (mkF m 1 #[.val (.ref a), .val (.int (2 : Int32)), .unset] [(.int (2 : Int32))])) _
        refine XS.iconst X0.here hx rfl (hb hby d8_1) ?_
        show Steps p.tables e below (s₁.setTop (mkF m 2 #[.val (.ref a), .val (.int (2 : Int32)), .unset] [(.int (1 : Int32)), (.int (2 : Int32))])) _
        refine XS.iadd X0.here hx rfl (hb hby d8_2) rfl ?_
        show Steps p.tables e below (s₁.setTop (mkF m 3 #[.val (.ref a), .val (.int (2 : Int32)), .unset] [(.int (3 : Int32))])) _
        refine XS.istoreN X0.here hx rfl (hb hby d8_3) rfl (l' := #[.val (.ref a), .val (.int (2 : Int32)), .val (.int (3 : Int32))]) rfl ?_
        show Steps p.tables e below (s₁.setTop (mkF m 4 #[.val (.ref a), .val (.int (2 : Int32)), .val (.int (3 : Int32))] [])) _
        refine XS.aloadN X0.here hx rfl (hb hby d8_4) rfl rfl ?_
        exact kz
      obtain ⟨T33, X33, e33, st33⟩ := getF X0 hx hZ hown (host := "") (Or.inl (hw _ (List.mem_of_getElem? (i := 16) rfl))) Via.refl e0 Fu (g := (mkF m 5 #[.val (.ref a), .val (.int (2 : Int32)), .val (.int (3 : Int32))] [(.ref a)])) rfl rfl (hb hby d8_5)
      refine own_go (A := T33.setTop (mkF m 8 #[.val (.ref a), .val (.int (2 : Int32)), .val (.int (3 : Int32))] [(.int (3 : Int32))])) (fun _ kz => st33 _ kz) ?_
      refine own_go (A := T33.setTop (mkF m 22 #[.val (.ref a), .val (.int (2 : Int32)), .val (.int (3 : Int32))] [])) (fun _ kz => ?_) ?_
      · show Steps p.tables e below (T33.setTop (mkF m 8 #[.val (.ref a), .val (.int (2 : Int32)), .val (.int (3 : Int32))] [(.int (3 : Int32))])) _
        refine XS.iloadN X33.here hx rfl (hb hby d8_8) rfl ?_
        show Steps p.tables e below (T33.setTop (mkF m 9 #[.val (.ref a), .val (.int (2 : Int32)), .val (.int (3 : Int32))] [(.int (3 : Int32)), (.int (3 : Int32))])) _
        refine XS.icmpYes X33.here hx rfl (pc0 := 9) (pc' := 22) rfl (hb hby d8_9) rfl (flt (by decide : ¬ ((3 : Int32) < (3 : Int32)))).2.1 (by decide) (by decide) ?_
        exact kz
      obtain ⟨fs, hrr, hrun, hended, hW, hsame⟩ := X33.leave (v := none) (fun _ => rfl)
      refine ⟨_, _, ?_, hrun, hended, _, _, rfl, ?_, ⟨_, rfl⟩, hW, hsame.mono (by decide) (by decide)⟩
      · show Steps p.tables e below (T33.setTop (mkF m 22 #[.val (.ref a), .val (.int (2 : Int32)), .val (.int (3 : Int32))] [])) _
        exact X33.returnOut hx Bd.returns (hb hby d8_22) hrr
      · show QrmEx Z a (2 : Int32) w (3 : Int32) (3 : Int32) f h0 n0 _ T33.heap _
        rw [e33]
        exact ⟨w, kc, s_, rfl, N0, g_w, Or.inl rfl, Kp0, Ex, Fw, Fu, Fs, Av⟩
    · skip
      refine own_go (A := s₁.setTop (mkF m 5 #[.val (.ref a), .val (.int (3 : Int32)), .val (.int (4 : Int32))] [(.ref a)])) (fun _ kz => ?_) ?_
      · show Steps p.tables e below (s₁.setTop (mkF m 0 #[.val (.ref a), .val (.int (3 : Int32)), .unset] [])) _
        refine XS.iloadN X0.here hx rfl (hb hby d8_0) rfl ?_
        show Steps p.tables e below (s₁.setTop (mkF m 1 #[.val (.ref a), .val (.int (3 : Int32)), .unset] [(.int (3 : Int32))])) _
        refine XS.iconst X0.here hx rfl (hb hby d8_1) ?_
        show Steps p.tables e below (s₁.setTop (mkF m 2 #[.val (.ref a), .val (.int (3 : Int32)), .unset] [(.int (1 : Int32)), (.int (3 : Int32))])) _
        refine XS.iadd X0.here hx rfl (hb hby d8_2) rfl ?_
        show Steps p.tables e below (s₁.setTop (mkF m 3 #[.val (.ref a), .val (.int (3 : Int32)), .unset] [(.int (4 : Int32))])) _
        refine XS.istoreN X0.here hx rfl (hb hby d8_3) rfl (l' := #[.val (.ref a), .val (.int (3 : Int32)), .val (.int (4 : Int32))]) rfl ?_
        show Steps p.tables e below (s₁.setTop (mkF m 4 #[.val (.ref a), .val (.int (3 : Int32)), .val (.int (4 : Int32))] [])) _
        refine XS.aloadN X0.here hx rfl (hb hby d8_4) rfl rfl ?_
        exact kz
      obtain ⟨T34, X34, e34, st34⟩ := getF X0 hx hZ hown (host := "") (Or.inl (hw _ (List.mem_of_getElem? (i := 16) rfl))) Via.refl e0 Fu (g := (mkF m 5 #[.val (.ref a), .val (.int (3 : Int32)), .val (.int (4 : Int32))] [(.ref a)])) rfl rfl (hb hby d8_5)
      refine own_go (A := T34.setTop (mkF m 8 #[.val (.ref a), .val (.int (3 : Int32)), .val (.int (4 : Int32))] [(.int (3 : Int32))])) (fun _ kz => st34 _ kz) ?_
      refine own_go (A := T34.setTop (mkF m 14 #[.val (.ref a), .val (.int (3 : Int32)), .val (.int (4 : Int32))] [(.int (4 : Int32)), (.ref a)])) (fun _ kz => ?_) ?_
      · show Steps p.tables e below (T34.setTop (mkF m 8 #[.val (.ref a), .val (.int (3 : Int32)), .val (.int (4 : Int32))] [(.int (3 : Int32))])) _
        refine XS.iloadN X34.here hx rfl (hb hby d8_8) rfl ?_
        show Steps p.tables e below (T34.setTop (mkF m 9 #[.val (.ref a), .val (.int (3 : Int32)), .val (.int (4 : Int32))] [(.int (4 : Int32)), (.int (3 : Int32))])) _
        refine XS.icmpNo X34.here hx rfl (hb hby d8_9) rfl (tlt (by decide : ((3 : Int32) < (4 : Int32)))).2.1 ?_
        show Steps p.tables e below (T34.setTop (mkF m 12 #[.val (.ref a), .val (.int (3 : Int32)), .val (.int (4 : Int32))] [])) _
        refine XS.aloadN X34.here hx rfl (hb hby d8_12) rfl rfl ?_
        show Steps p.tables e below (T34.setTop (mkF m 13 #[.val (.ref a), .val (.int (3 : Int32)), .val (.int (4 : Int32))] [(.ref a)])) _
        refine XS.iloadN X34.here hx rfl (hb hby d8_13) rfl ?_
        exact kz
      obtain ⟨cq35, q35, q35'⟩ := Ex.cell
      obtain ⟨_, _, ⟨T35, L35, k35, n35⟩, -, X35, ⟨Lc35, hQ35, l35, y35, z35⟩, st35⟩ := X34.privateBack hx (y := (⟨"java/util/BitSet", "ensureCapacity", "(I)V"⟩ : MethodName)) hown (mvT hZ (hw _ (List.mem_of_getElem? (i := 52) rfl))) (mvT hZ (hw _ (List.mem_of_getElem? (i := 53) rfl))) (mvT hZ (hw _ (List.mem_of_getElem? (i := 55) rfl))) (Cond.privateMethod_at (mvP hZ (hw _ (List.mem_of_getElem? (i := 54) rfl)) (args := #[]))) (mvT hZ (hw _ (List.mem_of_getElem? (i := 56) rfl))) (by decide) (backOf (W := 0) (rmEC l Z a0 hw [] a (4 : Int32) w kc (3 : Int32) (3 : Int32) s_ f h0 n0 Z0 (by decide) (fun k hk => hz k (Nat.le_trans (by decide) hk)) Ex Fw Fu Fs Av g_a ne_w_a g_w) hZ (hw _ (List.mem_of_getElem? (i := 56) rfl)) (hw _ (List.mem_of_getElem? (i := 11) rfl)) (by decide) (by decide)) (g := (mkF m 14 #[.val (.ref a), .val (.int (3 : Int32)), .val (.int (4 : Int32))] [(.int (4 : Int32)), (.ref a)])) rfl (by rw [hml]; rfl) (Steps.refl _) (a := a) (by rw [e34]; exact q35) q35' (argsL := [(.int (4 : Int32))]) (rest := []) (lenOf own_pd2 rfl) rfl (by show 2 * 0 + _ ≤ _; exact Nat.le_of_eq rfl) (hb hby d8_14) (fun _ _ => ⟨rfl, e34, (by decide : 0 + 1 ≤ _), (by decide : 0 + 6 ≤ _)⟩)
      dsimp only [Pt.U, Pt.locs, Pt.cells, Pt.slots] at X35 l35 y35 z35 st35 hQ35
      subst l35 y35 z35
      obtain ⟨c35, kd35, s35, rfl, N35q, g_c35, hcw35, K35q, _, Fw35, Fu35, Fs35, Aq35⟩ := hQ35
      have N35 := Fr.app N0 N35q
      replace Ex := Ex.keep K35q
      replace Av := Av.keep K35q (ninS ne_w_a nin0)
      have Z35 : n0 ≤ T35.heap.size := Nat.le_trans Z0 K35q.1
      have Kp35 : Keep h0 T35.heap [a] := Kp0.trans K35q (allS (Or.inl (List.mem_of_getElem? (i := 0) rfl)) (all0))
      have ne_c35_a : c35 ≠ a := Ne.symm (own_neA Ex (hw _ (List.mem_of_getElem? (i := 10) rfl)) Aq35)
      refine own_go (A := T35.setTop (mkF m 17 #[.val (.ref a), .val (.int (3 : Int32)), .val (.int (4 : Int32))] [])) (fun _ kz => st35.trans kz) ?_
      refine own_go (A := T35.setTop (mkF m 19 #[.val (.ref a), .val (.int (3 : Int32)), .val (.int (4 : Int32))] [(.int (4 : Int32)), (.ref a)])) (fun _ kz => ?_) ?_
      · show Steps p.tables e below (T35.setTop (mkF m 17 #[.val (.ref a), .val (.int (3 : Int32)), .val (.int (4 : Int32))] [])) _
        refine XS.aloadN X35.here hx rfl (hb hby d8_17) rfl rfl ?_
        show Steps p.tables e below (T35.setTop (mkF m 18 #[.val (.ref a), .val (.int (3 : Int32)), .val (.int (4 : Int32))] [(.ref a)])) _
        refine XS.iloadN X35.here hx rfl (hb hby d8_18) rfl ?_
        exact kz
      obtain ⟨T36, h36, X36, e36, W36, st36⟩ := putF X35 hx hZ hown (host := "") (Or.inl (hw _ (List.mem_of_getElem? (i := 16) rfl))) Via.refl rfl Fu35 Ex (Or.inl (hw _ (List.mem_of_getElem? (i := 17) rfl))) (hw _ (List.mem_of_getElem? (i := 10) rfl)) (ty := .int) (by decide) rfl rfl (g := (mkF m 19 #[.val (.ref a), .val (.int (3 : Int32)), .val (.int (4 : Int32))] [(.int (4 : Int32)), (.ref a)])) rfl rfl (hb hby d8_19)
      have Fw36 := Fu35.same W36
      replace Ex := Ex.wr W36
      replace Av := Av.other W36 ne_w_a
      replace Aq35 := Aq35.other W36 ne_c35_a
      replace Fw35 := Fw35.other W36 (Or.inr (slot_ne (Or.inl (hw _ (List.mem_of_getElem? (i := 30) rfl))) (Or.inl (hw _ (List.mem_of_getElem? (i := 17) rfl))) (by decide) (t := (.array .long)) (t' := .int) (by decide) (by decide)))
      replace Fs35 := Fs35.other W36 (Or.inr (slot_ne (Or.inl (hw _ (List.mem_of_getElem? (i := 19) rfl))) (Or.inl (hw _ (List.mem_of_getElem? (i := 17) rfl))) (by decide) (t := .boolean) (t' := .int) (by decide) (by decide)))
      have Z36 : n0 ≤ h36.size := Nat.le_trans Z35 (Keep.of_wr W36).1
      have Kp36 : Keep h0 h36 [a] := Kp35.wr W36 (Or.inl (List.mem_of_getElem? (i := 0) rfl))
      have F_wordsInUse_a := Fw36
      have N36 := Fr.snoc X36 N35 g_a
      refine own_go (A := T36.setTop (mkF m 22 #[.val (.ref a), .val (.int (3 : Int32)), .val (.int (4 : Int32))] [])) (fun _ kz => st36 _ kz) ?_
      obtain ⟨fs, hrr, hrun, hended, hW, hsame⟩ := X36.leave (v := none) (fun _ => rfl)
      refine ⟨_, _, ?_, hrun, hended, _, _, rfl, ?_, ⟨_, rfl⟩, hW, hsame.mono (by decide) (by decide)⟩
      · show Steps p.tables e below (T36.setTop (mkF m 22 #[.val (.ref a), .val (.int (3 : Int32)), .val (.int (4 : Int32))] [])) _
        exact X36.returnOut hx Bd.returns (hb hby d8_22) hrr
      · show QrmEx Z a (3 : Int32) w (3 : Int32) (3 : Int32) f h0 n0 _ T36.heap _
        rw [e36]
        exact ⟨c35, kd35, s35, rfl, N36, g_c35, hcw35, Kp36, Ex, Fw35, F_wordsInUse_a, Fs35, Aq35⟩
  · skip
    rcases hw4 with rfl | rfl | rfl | rfl
    · skip
      refine own_go (A := s₁.setTop (mkF m 5 #[.val (.ref a), .val (.int (0 : Int32)), .val (.int (1 : Int32))] [(.ref a)])) (fun _ kz => ?_) ?_
      · show Steps p.tables e below (s₁.setTop (mkF m 0 #[.val (.ref a), .val (.int (0 : Int32)), .unset] [])) _
        refine XS.iloadN X0.here hx rfl (hb hby d8_0) rfl ?_
        show Steps p.tables e below (s₁.setTop (mkF m 1 #[.val (.ref a), .val (.int (0 : Int32)), .unset] [(.int (0 : Int32))])) _
        refine XS.iconst X0.here hx rfl (hb hby d8_1) ?_
        show Steps p.tables e below (s₁.setTop (mkF m 2 #[.val (.ref a), .val (.int (0 : Int32)), .unset] [(.int (1 : Int32)), (.int (0 : Int32))])) _
        refine XS.iadd X0.here hx rfl (hb hby d8_2) rfl ?_
        show Steps p.tables e below (s₁.setTop (mkF m 3 #[.val (.ref a), .val (.int (0 : Int32)), .unset] [(.int (1 : Int32))])) _
        refine XS.istoreN X0.here hx rfl (hb hby d8_3) rfl (l' := #[.val (.ref a), .val (.int (0 : Int32)), .val (.int (1 : Int32))]) rfl ?_
        show Steps p.tables e below (s₁.setTop (mkF m 4 #[.val (.ref a), .val (.int (0 : Int32)), .val (.int (1 : Int32))] [])) _
        refine XS.aloadN X0.here hx rfl (hb hby d8_4) rfl rfl ?_
        exact kz
      obtain ⟨T37, X37, e37, st37⟩ := getF X0 hx hZ hown (host := "") (Or.inl (hw _ (List.mem_of_getElem? (i := 16) rfl))) Via.refl e0 Fu (g := (mkF m 5 #[.val (.ref a), .val (.int (0 : Int32)), .val (.int (1 : Int32))] [(.ref a)])) rfl rfl (hb hby d8_5)
      refine own_go (A := T37.setTop (mkF m 8 #[.val (.ref a), .val (.int (0 : Int32)), .val (.int (1 : Int32))] [(.int (4 : Int32))])) (fun _ kz => st37 _ kz) ?_
      refine own_go (A := T37.setTop (mkF m 22 #[.val (.ref a), .val (.int (0 : Int32)), .val (.int (1 : Int32))] [])) (fun _ kz => ?_) ?_
      · show Steps p.tables e below (T37.setTop (mkF m 8 #[.val (.ref a), .val (.int (0 : Int32)), .val (.int (1 : Int32))] [(.int (4 : Int32))])) _
        refine XS.iloadN X37.here hx rfl (hb hby d8_8) rfl ?_
        show Steps p.tables e below (T37.setTop (mkF m 9 #[.val (.ref a), .val (.int (0 : Int32)), .val (.int (1 : Int32))] [(.int (1 : Int32)), (.int (4 : Int32))])) _
        refine XS.icmpYes X37.here hx rfl (pc0 := 9) (pc' := 22) rfl (hb hby d8_9) rfl (flt (by decide : ¬ ((4 : Int32) < (1 : Int32)))).2.1 (by decide) (by decide) ?_
        exact kz
      obtain ⟨fs, hrr, hrun, hended, hW, hsame⟩ := X37.leave (v := none) (fun _ => rfl)
      refine ⟨_, _, ?_, hrun, hended, _, _, rfl, ?_, ⟨_, rfl⟩, hW, hsame.mono (by decide) (by decide)⟩
      · show Steps p.tables e below (T37.setTop (mkF m 22 #[.val (.ref a), .val (.int (0 : Int32)), .val (.int (1 : Int32))] [])) _
        exact X37.returnOut hx Bd.returns (hb hby d8_22) hrr
      · show QrmEx Z a (0 : Int32) w (4 : Int32) (4 : Int32) f h0 n0 _ T37.heap _
        rw [e37]
        exact ⟨w, kc, s_, rfl, N0, g_w, Or.inl rfl, Kp0, Ex, Fw, Fu, Fs, Av⟩
    · skip
      refine own_go (A := s₁.setTop (mkF m 5 #[.val (.ref a), .val (.int (1 : Int32)), .val (.int (2 : Int32))] [(.ref a)])) (fun _ kz => ?_) ?_
      · show Steps p.tables e below (s₁.setTop (mkF m 0 #[.val (.ref a), .val (.int (1 : Int32)), .unset] [])) _
        refine XS.iloadN X0.here hx rfl (hb hby d8_0) rfl ?_
        show Steps p.tables e below (s₁.setTop (mkF m 1 #[.val (.ref a), .val (.int (1 : Int32)), .unset] [(.int (1 : Int32))])) _
        refine XS.iconst X0.here hx rfl (hb hby d8_1) ?_
        show Steps p.tables e below (s₁.setTop (mkF m 2 #[.val (.ref a), .val (.int (1 : Int32)), .unset] [(.int (1 : Int32)), (.int (1 : Int32))])) _
        refine XS.iadd X0.here hx rfl (hb hby d8_2) rfl ?_
        show Steps p.tables e below (s₁.setTop (mkF m 3 #[.val (.ref a), .val (.int (1 : Int32)), .unset] [(.int (2 : Int32))])) _
        refine XS.istoreN X0.here hx rfl (hb hby d8_3) rfl (l' := #[.val (.ref a), .val (.int (1 : Int32)), .val (.int (2 : Int32))]) rfl ?_
        show Steps p.tables e below (s₁.setTop (mkF m 4 #[.val (.ref a), .val (.int (1 : Int32)), .val (.int (2 : Int32))] [])) _
        refine XS.aloadN X0.here hx rfl (hb hby d8_4) rfl rfl ?_
        exact kz
      obtain ⟨T38, X38, e38, st38⟩ := getF X0 hx hZ hown (host := "") (Or.inl (hw _ (List.mem_of_getElem? (i := 16) rfl))) Via.refl e0 Fu (g := (mkF m 5 #[.val (.ref a), .val (.int (1 : Int32)), .val (.int (2 : Int32))] [(.ref a)])) rfl rfl (hb hby d8_5)
      refine own_go (A := T38.setTop (mkF m 8 #[.val (.ref a), .val (.int (1 : Int32)), .val (.int (2 : Int32))] [(.int (4 : Int32))])) (fun _ kz => st38 _ kz) ?_
      refine own_go (A := T38.setTop (mkF m 22 #[.val (.ref a), .val (.int (1 : Int32)), .val (.int (2 : Int32))] [])) (fun _ kz => ?_) ?_
      · show Steps p.tables e below (T38.setTop (mkF m 8 #[.val (.ref a), .val (.int (1 : Int32)), .val (.int (2 : Int32))] [(.int (4 : Int32))])) _
        refine XS.iloadN X38.here hx rfl (hb hby d8_8) rfl ?_
        show Steps p.tables e below (T38.setTop (mkF m 9 #[.val (.ref a), .val (.int (1 : Int32)), .val (.int (2 : Int32))] [(.int (2 : Int32)), (.int (4 : Int32))])) _
        refine XS.icmpYes X38.here hx rfl (pc0 := 9) (pc' := 22) rfl (hb hby d8_9) rfl (flt (by decide : ¬ ((4 : Int32) < (2 : Int32)))).2.1 (by decide) (by decide) ?_
        exact kz
      obtain ⟨fs, hrr, hrun, hended, hW, hsame⟩ := X38.leave (v := none) (fun _ => rfl)
      refine ⟨_, _, ?_, hrun, hended, _, _, rfl, ?_, ⟨_, rfl⟩, hW, hsame.mono (by decide) (by decide)⟩
      · show Steps p.tables e below (T38.setTop (mkF m 22 #[.val (.ref a), .val (.int (1 : Int32)), .val (.int (2 : Int32))] [])) _
        exact X38.returnOut hx Bd.returns (hb hby d8_22) hrr
      · show QrmEx Z a (1 : Int32) w (4 : Int32) (4 : Int32) f h0 n0 _ T38.heap _
        rw [e38]
        exact ⟨w, kc, s_, rfl, N0, g_w, Or.inl rfl, Kp0, Ex, Fw, Fu, Fs, Av⟩
    · skip
      refine own_go (A := s₁.setTop (mkF m 5 #[.val (.ref a), .val (.int (2 : Int32)), .val (.int (3 : Int32))] [(.ref a)])) (fun _ kz => ?_) ?_
      · show Steps p.tables e below (s₁.setTop (mkF m 0 #[.val (.ref a), .val (.int (2 : Int32)), .unset] [])) _
        refine XS.iloadN X0.here hx rfl (hb hby d8_0) rfl ?_
        show Steps p.tables e below (s₁.setTop (mkF m 1 #[.val (.ref a), .val (.int (2 : Int32)), .unset] [(.int (2 : Int32))])) _
        refine XS.iconst X0.here hx rfl (hb hby d8_1) ?_
        show Steps p.tables e below (s₁.setTop (mkF m 2 #[.val (.ref a), .val (.int (2 : Int32)), .unset] [(.int (1 : Int32)), (.int (2 : Int32))])) _
        refine XS.iadd X0.here hx rfl (hb hby d8_2) rfl ?_
        show Steps p.tables e below (s₁.setTop (mkF m 3 #[.val (.ref a), .val (.int (2 : Int32)), .unset] [(.int (3 : Int32))])) _
        refine XS.istoreN X0.here hx rfl (hb hby d8_3) rfl (l' := #[.val (.ref a), .val (.int (2 : Int32)), .val (.int (3 : Int32))]) rfl ?_
        show Steps p.tables e below (s₁.setTop (mkF m 4 #[.val (.ref a), .val (.int (2 : Int32)), .val (.int (3 : Int32))] [])) _
        refine XS.aloadN X0.here hx rfl (hb hby d8_4) rfl rfl ?_
        exact kz
      obtain ⟨T39, X39, e39, st39⟩ := getF X0 hx hZ hown (host := "") (Or.inl (hw _ (List.mem_of_getElem? (i := 16) rfl))) Via.refl e0 Fu (g := (mkF m 5 #[.val (.ref a), .val (.int (2 : Int32)), .val (.int (3 : Int32))] [(.ref a)])) rfl rfl (hb hby d8_5)
      refine own_go (A := T39.setTop (mkF m 8 #[.val (.ref a), .val (.int (2 : Int32)), .val (.int (3 : Int32))] [(.int (4 : Int32))])) (fun _ kz => st39 _ kz) ?_
      refine own_go (A := T39.setTop (mkF m 22 #[.val (.ref a), .val (.int (2 : Int32)), .val (.int (3 : Int32))] [])) (fun _ kz => ?_) ?_
      · show Steps p.tables e below (T39.setTop (mkF m 8 #[.val (.ref a), .val (.int (2 : Int32)), .val (.int (3 : Int32))] [(.int (4 : Int32))])) _
        refine XS.iloadN X39.here hx rfl (hb hby d8_8) rfl ?_
        show Steps p.tables e below (T39.setTop (mkF m 9 #[.val (.ref a), .val (.int (2 : Int32)), .val (.int (3 : Int32))] [(.int (3 : Int32)), (.int (4 : Int32))])) _
        refine XS.icmpYes X39.here hx rfl (pc0 := 9) (pc' := 22) rfl (hb hby d8_9) rfl (flt (by decide : ¬ ((4 : Int32) < (3 : Int32)))).2.1 (by decide) (by decide) ?_
        exact kz
      obtain ⟨fs, hrr, hrun, hended, hW, hsame⟩ := X39.leave (v := none) (fun _ => rfl)
      refine ⟨_, _, ?_, hrun, hended, _, _, rfl, ?_, ⟨_, rfl⟩, hW, hsame.mono (by decide) (by decide)⟩
      · show Steps p.tables e below (T39.setTop (mkF m 22 #[.val (.ref a), .val (.int (2 : Int32)), .val (.int (3 : Int32))] [])) _
        exact X39.returnOut hx Bd.returns (hb hby d8_22) hrr
      · show QrmEx Z a (2 : Int32) w (4 : Int32) (4 : Int32) f h0 n0 _ T39.heap _
        rw [e39]
        exact ⟨w, kc, s_, rfl, N0, g_w, Or.inl rfl, Kp0, Ex, Fw, Fu, Fs, Av⟩
    · skip
      refine own_go (A := s₁.setTop (mkF m 5 #[.val (.ref a), .val (.int (3 : Int32)), .val (.int (4 : Int32))] [(.ref a)])) (fun _ kz => ?_) ?_
      · show Steps p.tables e below (s₁.setTop (mkF m 0 #[.val (.ref a), .val (.int (3 : Int32)), .unset] [])) _
        refine XS.iloadN X0.here hx rfl (hb hby d8_0) rfl ?_
        show Steps p.tables e below (s₁.setTop (mkF m 1 #[.val (.ref a), .val (.int (3 : Int32)), .unset] [(.int (3 : Int32))])) _
        refine XS.iconst X0.here hx rfl (hb hby d8_1) ?_
        show Steps p.tables e below (s₁.setTop (mkF m 2 #[.val (.ref a), .val (.int (3 : Int32)), .unset] [(.int (1 : Int32)), (.int (3 : Int32))])) _
        refine XS.iadd X0.here hx rfl (hb hby d8_2) rfl ?_
        show Steps p.tables e below (s₁.setTop (mkF m 3 #[.val (.ref a), .val (.int (3 : Int32)), .unset] [(.int (4 : Int32))])) _
        refine XS.istoreN X0.here hx rfl (hb hby d8_3) rfl (l' := #[.val (.ref a), .val (.int (3 : Int32)), .val (.int (4 : Int32))]) rfl ?_
        show Steps p.tables e below (s₁.setTop (mkF m 4 #[.val (.ref a), .val (.int (3 : Int32)), .val (.int (4 : Int32))] [])) _
        refine XS.aloadN X0.here hx rfl (hb hby d8_4) rfl rfl ?_
        exact kz
      obtain ⟨T40, X40, e40, st40⟩ := getF X0 hx hZ hown (host := "") (Or.inl (hw _ (List.mem_of_getElem? (i := 16) rfl))) Via.refl e0 Fu (g := (mkF m 5 #[.val (.ref a), .val (.int (3 : Int32)), .val (.int (4 : Int32))] [(.ref a)])) rfl rfl (hb hby d8_5)
      refine own_go (A := T40.setTop (mkF m 8 #[.val (.ref a), .val (.int (3 : Int32)), .val (.int (4 : Int32))] [(.int (4 : Int32))])) (fun _ kz => st40 _ kz) ?_
      refine own_go (A := T40.setTop (mkF m 22 #[.val (.ref a), .val (.int (3 : Int32)), .val (.int (4 : Int32))] [])) (fun _ kz => ?_) ?_
      · show Steps p.tables e below (T40.setTop (mkF m 8 #[.val (.ref a), .val (.int (3 : Int32)), .val (.int (4 : Int32))] [(.int (4 : Int32))])) _
        refine XS.iloadN X40.here hx rfl (hb hby d8_8) rfl ?_
        show Steps p.tables e below (T40.setTop (mkF m 9 #[.val (.ref a), .val (.int (3 : Int32)), .val (.int (4 : Int32))] [(.int (4 : Int32)), (.int (4 : Int32))])) _
        refine XS.icmpYes X40.here hx rfl (pc0 := 9) (pc' := 22) rfl (hb hby d8_9) rfl (flt (by decide : ¬ ((4 : Int32) < (4 : Int32)))).2.1 (by decide) (by decide) ?_
        exact kz
      obtain ⟨fs, hrr, hrun, hended, hW, hsame⟩ := X40.leave (v := none) (fun _ => rfl)
      refine ⟨_, _, ?_, hrun, hended, _, _, rfl, ?_, ⟨_, rfl⟩, hW, hsame.mono (by decide) (by decide)⟩
      · show Steps p.tables e below (T40.setTop (mkF m 22 #[.val (.ref a), .val (.int (3 : Int32)), .val (.int (4 : Int32))] [])) _
        exact X40.returnOut hx Bd.returns (hb hby d8_22) hrr
      · show QrmEx Z a (3 : Int32) w (4 : Int32) (4 : Int32) f h0 n0 _ T40.heap _
        rw [e40]
        exact ⟨w, kc, s_, rfl, N0, g_w, Or.inl rfl, Kp0, Ex, Fw, Fu, Fs, Av⟩
theorem d7_0 : decode jdk_92_method_19_code 0 = .ok (.iload_n 1, 1) := by decide +kernel
theorem d7_1 : decode jdk_92_method_19_code 1 = .ok (.ifCond .ge 30, 3) := by decide +kernel
theorem d7_31 : decode jdk_92_method_19_code 31 = .ok (.iload_n 1, 1) := by decide +kernel
theorem d7_32 : decode jdk_92_method_19_code 32 = .ok (.invokestatic 52, 3) := by decide +kernel
theorem d7_35 : decode jdk_92_method_19_code 35 = .ok (.istore_n 2, 1) := by decide +kernel
theorem d7_36 : decode jdk_92_method_19_code 36 = .ok (.aload_n 0, 1) := by decide +kernel
theorem d7_37 : decode jdk_92_method_19_code 37 = .ok (.iload_n 2, 1) := by decide +kernel
theorem d7_38 : decode jdk_92_method_19_code 38 = .ok (.invokevirtual 155, 3) := by decide +kernel
theorem d7_41 : decode jdk_92_method_19_code 41 = .ok (.aload_n 0, 1) := by decide +kernel
theorem d7_42 : decode jdk_92_method_19_code 42 = .ok (.getfield 11, 3) := by decide +kernel
theorem d7_45 : decode jdk_92_method_19_code 45 = .ok (.iload_n 2, 1) := by decide +kernel
theorem d7_46 : decode jdk_92_method_19_code 46 = .ok (.dup2, 1) := by decide +kernel
theorem d7_47 : decode jdk_92_method_19_code 47 = .ok (.laload, 1) := by decide +kernel
theorem d7_48 : decode jdk_92_method_19_code 48 = .ok (.lconst 1, 1) := by decide +kernel
theorem d7_49 : decode jdk_92_method_19_code 49 = .ok (.iload_n 1, 1) := by decide +kernel
theorem d7_50 : decode jdk_92_method_19_code 50 = .ok (.lshl, 1) := by decide +kernel
theorem d7_51 : decode jdk_92_method_19_code 51 = .ok (.lor, 1) := by decide +kernel
theorem d7_52 : decode jdk_92_method_19_code 52 = .ok (.lastore, 1) := by decide +kernel
theorem d7_53 : decode jdk_92_method_19_code 53 = .ok (.aload_n 0, 1) := by decide +kernel
theorem d7_54 : decode jdk_92_method_19_code 54 = .ok (.invokevirtual 56, 3) := by decide +kernel
theorem d7_57 : decode jdk_92_method_19_code 57 = .ok (.return_, 1) := by decide +kernel
theorem own_pn7 : plainName "java/util/BitSet" = true := by first | (simp [plainName, overriddenIn]; done) | decide +kernel
theorem own_ef7 (m : MethodId) (x0 : Addr) (x1 : Int32) : entryFrame m #[(.ref x0), (.int x1)] 3 = mkF m 0 #[.val (.ref x0), .val (.int x1), .unset] [] := by first | (simp [entryFrame, mkF, argsToLocals, Value.category]; done) | rfl
def QrmSet (Z : State) (a : Addr) (i : Int32) (w : Addr) (len : Int32) (u : Int32) (wi : Int32) (f : Nat → Int64) (h0 : Heap) (n0 : Nat) (v : Option Value) (h : Heap) (L : List Loc) : Prop := ∃ (w' : Addr) (kd : ClassId) (s' : Int32), v = none ∧ Fr n0 L ∧ n0 ≤ w' ∧ Keep h0 h [a, w] ∧ Exa Z h a "java/util/BitSet" ∧ Fld Z h a "java/util/BitSet" "words" "[J" (.ref w') ∧ Fld Z h a "java/util/BitSet" "wordsInUse" "I" (.int (own_nu u wi)) ∧ Fld Z h a "java/util/BitSet" "sizeIsSticky" "Z" (.int s') ∧ Arv Z h w' kd .long (own_nl len u wi) (own_vals (own_nl len u wi) (own_set f wi i)) (.long (0 : Int64))
set_option maxRecDepth 65536 in
set_option maxHeartbeats 40000000 in
theorem rmSet (l : Launch) (Z : State) (a0 : Array Value) (hw : ∀ d ∈ tables_1, d.before a0 Z = true) (ws : List Jvm.Cond) (a : Addr) (i : Int32) (w : Addr) (kc : ClassId) (len u s_ wi : Int32) (f : Nat → Int64) (h0 : Heap) (n0 : Nat) (Z0 : n0 ≤ h0.size) (hi : ¬ i < (0 : Int32)) (hwe : own_wi i = wi) (hsh : (len = (1 : Int32) ∧ u = (0 : Int32)) ∨ (len = (1 : Int32) ∧ u = (1 : Int32)) ∨ (len = (2 : Int32) ∧ u = (2 : Int32)) ∨ (len = (3 : Int32) ∧ u = (3 : Int32)) ∨ (len = (4 : Int32) ∧ u = (4 : Int32))) (hw4 : wi = (0 : Int32) ∨ wi = (1 : Int32) ∨ wi = (2 : Int32) ∨ wi = (3 : Int32)) (hz : ∀ k : Nat, (u).toNatClampNeg ≤ k → f k = (0 : Int64)) (Ex : Exa Z h0 a "java/util/BitSet") (Fw : Fld Z h0 a "java/util/BitSet" "words" "[J" (.ref w)) (Fu : Fld Z h0 a "java/util/BitSet" "wordsInUse" "I" (.int u)) (Fs : Fld Z h0 a "java/util/BitSet" "sizeIsSticky" "Z" (.int s_)) (Av : Arv Z h0 w kc .long len (own_vals len f) (.long (0 : Int64))) (g_a : n0 ≤ a) (ne_w_a : w ≠ a) (g_w : n0 ≤ w) (S_ad : Sta Z h0 "java/util/BitSet" "$assertionsDisabled" "Z" (.int (1 : Int32))) :
    MetFree l (⟨"java/util/BitSet", "set", "(I)V"⟩ : MethodName) (head1 (Jvm.Cond.code (⟨"java/util/BitSet", "set", "(I)V"⟩ : MethodName) jdk_92_method_19_code 3 none :: ws) ({ frames := 4, cells := 1, slots := 6, locals := 83 } : Room)) (fun ar_ U_ => ar_ = #[(.ref a), (.int i)] ∧ Z.Warmed39 U_.vm ∧ U_.heap = h0) (fun _ _ _ _ _ => True) (fun _ U_ ou_ V_ => ∃ v_ L_, ou_ = .returned v_ ∧ QrmSet Z a i w len u wi f h0 n0 v_ V_.heap L_ ∧ FrameEnd U_ ou_ V_ L_ ({ frames := 4, cells := 1, slots := 6, locals := 83 } : Room).cells ({ frames := 4, cells := 1, slots := 6, locals := 83 } : Room).slots) := by
  refine MetFree.of_bodySF (plainFor_of_name own_pn7) hisR ?_
  intro p e s m args below meth c s₁ Bd hml0 hP hK
  obtain ⟨rfl, hZ, hh⟩ := hP
  have hx := Bd.exec
  have hby := Bd.bytes
  have hml : c.maxLocals = 3 := hml0
  have hown : s.vm.findClass "java/util/BitSet" = some m.cls := findClass_of_methodNamed Bd.named
  have hnm := (name_of_methodNamed Bd.named Bd.method).1
  have X0 : Stand p l e ({ frames := 4, cells := 1, slots := 6, locals := 83 } : Room) s m #[(.ref a), (.int i)] below meth c s₁ [] 0 0 := Stand.of_body Bd
  have e0 : s₁.heap = h0 := by rw [← hh, Bd.state]; rfl
  have N0 := Fr.nil n0
  have Kp0 : Keep h0 h0 [a, w] := Keep.refl h0 _
  refine own_go (A := s₁.setTop (mkF m 0 #[.val (.ref a), .val (.int i), .unset] [])) (fun t kz => castTop (own_ef7 m a i) kz) ?_
  refine own_go (A := s₁.setTop (mkF m 32 #[.val (.ref a), .val (.int i), .unset] [(.int i)])) (fun _ kz => ?_) ?_
  · show Steps p.tables e below (s₁.setTop (mkF m 0 #[.val (.ref a), .val (.int i), .unset] [])) _
    refine XS.iloadN X0.here hx rfl (hb hby d7_0) rfl ?_
    show Steps p.tables e below (s₁.setTop (mkF m 1 #[.val (.ref a), .val (.int i), .unset] [(.int i)])) _
    refine XS.ifYes X0.here hx rfl (pc0 := 1) (pc' := 31) rfl (hb hby d7_1) rfl ((if0 _ _).trans (flt hi).2.1) (by decide) (by decide) ?_
    show Steps p.tables e below (s₁.setTop (mkF m 31 #[.val (.ref a), .val (.int i), .unset] [])) _
    refine XS.iloadN X0.here hx rfl (hb hby d7_31) rfl ?_
    exact kz
  obtain ⟨_, _, ⟨T1, L1, k1, n1⟩, -, X1, ⟨Lc1, hQ1, l1, y1, z1⟩, st1⟩ := Jvm.LawKit.callS X0 hx (y := (⟨"java/util/BitSet", "wordIndex", "(I)I"⟩ : MethodName)) hown (mvT hZ (hw _ (List.mem_of_getElem? (i := 25) rfl))) (mvT hZ (hw _ (List.mem_of_getElem? (i := 26) rfl))) (mvT hZ (hw _ (List.mem_of_getElem? (i := 11) rfl))) (mvT hZ (hw _ (List.mem_of_getElem? (i := 27) rfl))) (by decide) (backOf (W := 0) (rmWI l Z a0 hw [] i wi h0 n0 Z0 hwe) hZ (hw _ (List.mem_of_getElem? (i := 27) rfl)) (hw _ (List.mem_of_getElem? (i := 11) rfl)) (by decide) (by decide)) (g := (mkF m 32 #[.val (.ref a), .val (.int i), .unset] [(.int i)])) rfl (by rw [hml]; rfl) (argsL := [(.int i)]) (rest := []) (lenOf own_pd3 rfl) rfl (by show 2 * 0 + _ ≤ _; exact Nat.le_of_eq rfl) (hb hby d7_32) (fun _ _ => ⟨rfl, e0, (by decide : 0 + 0 ≤ _), (by decide : 0 + 0 ≤ _)⟩)
  dsimp only [Pt.U, Pt.locs, Pt.cells, Pt.slots] at X1 l1 y1 z1 st1 hQ1
  subst l1 y1 z1
  obtain ⟨rfl, N1q, e1⟩ := hQ1
  have N1 := Fr.app N0 N1q
  refine own_go (A := T1.setTop (mkF m 35 #[.val (.ref a), .val (.int i), .unset] [(.int wi)])) (fun _ kz => st1 _ kz) ?_
  refine own_go (A := T1.setTop (mkF m 38 #[.val (.ref a), .val (.int i), .val (.int wi)] [(.int wi), (.ref a)])) (fun _ kz => ?_) ?_
  · show Steps p.tables e below (T1.setTop (mkF m 35 #[.val (.ref a), .val (.int i), .unset] [(.int wi)])) _
    refine XS.istoreN X1.here hx rfl (hb hby d7_35) rfl (l' := #[.val (.ref a), .val (.int i), .val (.int wi)]) rfl ?_
    show Steps p.tables e below (T1.setTop (mkF m 36 #[.val (.ref a), .val (.int i), .val (.int wi)] [])) _
    refine XS.aloadN X1.here hx rfl (hb hby d7_36) rfl rfl ?_
    show Steps p.tables e below (T1.setTop (mkF m 37 #[.val (.ref a), .val (.int i), .val (.int wi)] [(.ref a)])) _
    refine XS.iloadN X1.here hx rfl (hb hby d7_37) rfl ?_
    exact kz
  obtain ⟨cq2, q2, q2'⟩ := Ex.cell
  obtain ⟨_, _, ⟨T2, L2, k2, n2⟩, -, X2, ⟨Lc2, hQ2, l2, y2, z2⟩, st2⟩ := X1.privateBack hx (y := (⟨"java/util/BitSet", "expandTo", "(I)V"⟩ : MethodName)) hown (mvT hZ (hw _ (List.mem_of_getElem? (i := 47) rfl))) (mvT hZ (hw _ (List.mem_of_getElem? (i := 48) rfl))) (mvT hZ (hw _ (List.mem_of_getElem? (i := 50) rfl))) (Cond.privateMethod_at (mvP hZ (hw _ (List.mem_of_getElem? (i := 49) rfl)) (args := #[]))) (mvT hZ (hw _ (List.mem_of_getElem? (i := 51) rfl))) (by decide) (backOf (W := 0) (rmEx l Z a0 hw [] a wi w kc len u s_ f h0 n0 Z0 hsh hw4 hz Ex Fw Fu Fs Av g_a ne_w_a g_w) hZ (hw _ (List.mem_of_getElem? (i := 51) rfl)) (hw _ (List.mem_of_getElem? (i := 11) rfl)) (by decide) (by decide)) (g := (mkF m 38 #[.val (.ref a), .val (.int i), .val (.int wi)] [(.int wi), (.ref a)])) rfl (by rw [hml]; rfl) (Steps.refl _) (a := a) (by rw [e1]; exact q2) q2' (argsL := [(.int wi)]) (rest := []) (lenOf own_pd2 rfl) rfl (by show 2 * 0 + _ ≤ _; exact Nat.le_of_eq rfl) (hb hby d7_38) (fun _ _ => ⟨rfl, e1, (by decide : 0 + 1 ≤ _), (by decide : 0 + 6 ≤ _)⟩)
  dsimp only [Pt.U, Pt.locs, Pt.cells, Pt.slots] at X2 l2 y2 z2 st2 hQ2
  subst l2 y2 z2
  obtain ⟨c2, kd2, s2, rfl, N2q, g_c2, hcw2, K2q, _, Fw2, Fu2, Fs2, Aq2⟩ := hQ2
  have N2 := Fr.app N1 N2q
  replace S_ad := own_staKeep S_ad K2q (allS (own_ns Ex) all0)
  replace Ex := Ex.keep K2q
  replace Av := Av.keep K2q (ninS ne_w_a nin0)
  have Z2 : n0 ≤ T2.heap.size := Nat.le_trans Z0 K2q.1
  have Kp2 : Keep h0 T2.heap [a, w] := Kp0.trans K2q (allS (Or.inl (List.mem_of_getElem? (i := 0) rfl)) (all0))
  have ne_c2_a : c2 ≠ a := Ne.symm (own_neA Ex (hw _ (List.mem_of_getElem? (i := 10) rfl)) Aq2)
  refine own_go (A := T2.setTop (mkF m 41 #[.val (.ref a), .val (.int i), .val (.int wi)] [])) (fun _ kz => st2.trans kz) ?_
  refine own_go (A := T2.setTop (mkF m 42 #[.val (.ref a), .val (.int i), .val (.int wi)] [(.ref a)])) (fun _ kz => ?_) ?_
  · show Steps p.tables e below (T2.setTop (mkF m 41 #[.val (.ref a), .val (.int i), .val (.int wi)] [])) _
    refine XS.aloadN X2.here hx rfl (hb hby d7_41) rfl rfl ?_
    exact kz
  obtain ⟨T3, X3, e3, st3⟩ := getF X2 hx hZ hown (host := "") (Or.inl (hw _ (List.mem_of_getElem? (i := 29) rfl))) Via.refl rfl Fw2 (g := (mkF m 42 #[.val (.ref a), .val (.int i), .val (.int wi)] [(.ref a)])) rfl rfl (hb hby d7_42)
  refine own_go (A := T3.setTop (mkF m 45 #[.val (.ref a), .val (.int i), .val (.int wi)] [(.ref c2)])) (fun _ kz => st3 _ kz) ?_
  refine own_go (A := T3.setTop (mkF m 47 #[.val (.ref a), .val (.int i), .val (.int wi)] [(.int wi), (.ref c2), (.int wi), (.ref c2)])) (fun _ kz => ?_) ?_
  · show Steps p.tables e below (T3.setTop (mkF m 45 #[.val (.ref a), .val (.int i), .val (.int wi)] [(.ref c2)])) _
    refine XS.iloadN X3.here hx rfl (hb hby d7_45) rfl ?_
    show Steps p.tables e below (T3.setTop (mkF m 46 #[.val (.ref a), .val (.int i), .val (.int wi)] [(.int wi), (.ref c2)])) _
    refine Jvm.Free.XT.dup2 X3.here hx rfl (hb hby d7_46) rfl rfl rfl ?_
    exact kz
  obtain ⟨cl4, Ar4, -, S4, M4, H4, -⟩ := id Aq2
  have hin4 : ¬ (wi < 0 ∨ cl4.slots.size ≤ (wi).toNatClampNeg) := inb_of S4 (own_in hsh hw4)
  have hat4 : cl4.slots[(wi).toNatClampNeg]? = some (.long (f (wi).toNatClampNeg)) := H4.at hin4 (own_at (own_nl5 hsh hw4) (own_in hsh hw4))
  refine own_go (A := T3.setTop (mkF m 48 #[.val (.ref a), .val (.int i), .val (.int wi)] [(.long (f (wi).toNatClampNeg)), (.int wi), (.ref c2)])) (fun _ kz => ?_) ?_
  · refine X3.laload hx (j := wi) (v := (.long (f (wi).toNatClampNeg))) (by rw [e3]; exact Ar4.1) (State.isArrayOf_alike hZ.alike Ar4.2.1) Ar4.2.2 hin4 hat4 (g := (mkF m 47 #[.val (.ref a), .val (.int i), .val (.int wi)] [(.int wi), (.ref c2), (.int wi), (.ref c2)])) rfl rfl (hb hby d7_47) _ ?_
    exact kz
  refine own_go (A := T3.setTop (mkF m 52 #[.val (.ref a), .val (.int i), .val (.int wi)] [(.long ((f (wi).toNatClampNeg) ||| ((1 : Int64) <<< (i &&& 0x3f).toInt64))), (.int wi), (.ref c2)])) (fun _ kz => ?_) ?_
  · show Steps p.tables e below (T3.setTop (mkF m 48 #[.val (.ref a), .val (.int i), .val (.int wi)] [(.long (f (wi).toNatClampNeg)), (.int wi), (.ref c2)])) _
    refine XS.lconst X3.here hx rfl (hb hby d7_48) ?_
    show Steps p.tables e below (T3.setTop (mkF m 49 #[.val (.ref a), .val (.int i), .val (.int wi)] [(.long (1 : Int64)), (.long (f (wi).toNatClampNeg)), (.int wi), (.ref c2)])) _
    refine XS.iloadN X3.here hx rfl (hb hby d7_49) rfl ?_
    show Steps p.tables e below (T3.setTop (mkF m 50 #[.val (.ref a), .val (.int i), .val (.int wi)] [(.int i), (.long (1 : Int64)), (.long (f (wi).toNatClampNeg)), (.int wi), (.ref c2)])) _
    refine XS.lshl X3.here hx rfl (hb hby d7_50) rfl ?_
    show Steps p.tables e below (T3.setTop (mkF m 51 #[.val (.ref a), .val (.int i), .val (.int wi)] [(.long ((1 : Int64) <<< (i &&& 0x3f).toInt64)), (.long (f (wi).toNatClampNeg)), (.int wi), (.ref c2)])) _
    refine XS.lor X3.here hx rfl (hb hby d7_51) rfl ?_
    exact kz
  obtain ⟨cl6, Ar6, q6, S6, M6, H6, G6⟩ := id Aq2
  have hin6 : ¬ (wi < 0 ∨ cl6.slots.size ≤ (wi).toNatClampNeg) := inb_of S6 (own_in hsh hw4)
  obtain ⟨T6, h6, X6, e6, W6, st6⟩ := stJ X3 hx hZ e3 Ar6 (j := wi) hin6 (g := (mkF m 52 #[.val (.ref a), .val (.int i), .val (.int wi)] [(.long ((f (wi).toNatClampNeg) ||| ((1 : Int64) <<< (i &&& 0x3f).toInt64))), (.int wi), (.ref c2)])) rfl rfl (hb hby d7_52)
  have Aw6 := Arv.set Ar6 q6 S6 M6 H6 G6 rfl W6 (wi).toNatClampNeg rfl (own_lt (own_nl5 hsh hw4) (own_in hsh hw4))
  replace S_ad := S_ad.wr W6
  replace Ex := Ex.wr W6
  replace Fw2 := Fw2.other W6 (Or.inl (Ne.symm ne_c2_a))
  replace Fu2 := Fu2.other W6 (Or.inl (Ne.symm ne_c2_a))
  replace Fs2 := Fs2.other W6 (Or.inl (Ne.symm ne_c2_a))
  have Z6 : n0 ≤ h6.size := Nat.le_trans Z2 (Keep.of_wr W6).1
  have Kp6 : Keep h0 h6 [a, w] := Kp2.wr W6 (hcw2.elim (fun q => Or.inl (by rw [q]; exact List.mem_of_getElem? (i := 1) rfl)) Or.inr)
  have Ay6 : Arv Z h6 c2 kd2 .long (own_nl len u wi) (own_vals (own_nl len u wi) (own_set f wi i)) (.long (0 : Int64)) := by rw [← own_setv (own_nl5 hsh hw4) (own_in hsh hw4)]; exact Aw6
  have N6 := Fr.snoc X6 N2 g_c2
  refine own_go (A := T6.setTop (mkF m 53 #[.val (.ref a), .val (.int i), .val (.int wi)] [])) (fun _ kz => st6 _ kz) ?_
  refine own_go (A := T6.setTop (mkF m 54 #[.val (.ref a), .val (.int i), .val (.int wi)] [(.ref a)])) (fun _ kz => ?_) ?_
  · show Steps p.tables e below (T6.setTop (mkF m 53 #[.val (.ref a), .val (.int i), .val (.int wi)] [])) _
    refine XS.aloadN X6.here hx rfl (hb hby d7_53) rfl rfl ?_
    exact kz
  obtain ⟨cq7, q7, q7'⟩ := Ex.cell
  obtain ⟨_, _, ⟨T7, L7, k7, n7⟩, -, X7, ⟨Lc7, hQ7, l7, y7, z7⟩, st7⟩ := X6.privateBack hx (y := (⟨"java/util/BitSet", "checkInvariants", "()V"⟩ : MethodName)) hown (mvT hZ (hw _ (List.mem_of_getElem? (i := 57) rfl))) (mvT hZ (hw _ (List.mem_of_getElem? (i := 58) rfl))) (mvT hZ (hw _ (List.mem_of_getElem? (i := 60) rfl))) (Cond.privateMethod_at (mvP hZ (hw _ (List.mem_of_getElem? (i := 59) rfl)) (args := #[]))) (mvT hZ (hw _ (List.mem_of_getElem? (i := 61) rfl))) (by decide) (backOf (W := 0) (rmCI l Z a0 hw [] a h6 n0 Z6 S_ad) hZ (hw _ (List.mem_of_getElem? (i := 61) rfl)) (hw _ (List.mem_of_getElem? (i := 11) rfl)) (by decide) (by decide)) (g := (mkF m 54 #[.val (.ref a), .val (.int i), .val (.int wi)] [(.ref a)])) rfl (by rw [hml]; rfl) (Steps.refl _) (a := a) (by rw [e6]; exact q7) q7' (argsL := []) (rest := []) (lenOf own_pd4 rfl) rfl (by show 2 * 0 + _ ≤ _; exact Nat.le_of_eq rfl) (hb hby d7_54) (fun _ _ => ⟨rfl, e6, (by decide : 1 + 0 ≤ _), (by decide : 6 + 0 ≤ _)⟩)
  dsimp only [Pt.U, Pt.locs, Pt.cells, Pt.slots] at X7 l7 y7 z7 st7 hQ7
  subst l7 y7 z7
  obtain ⟨rfl, N7q, e7⟩ := hQ7
  have N7 := Fr.app N6 N7q
  refine own_go (A := T7.setTop (mkF m 57 #[.val (.ref a), .val (.int i), .val (.int wi)] [])) (fun _ kz => st7.trans kz) ?_
  obtain ⟨fs, hrr, hrun, hended, hW, hsame⟩ := X7.leave (v := none) (fun _ => rfl)
  refine ⟨_, _, ?_, hrun, hended, _, _, rfl, ?_, ⟨_, rfl⟩, hW, hsame.mono (by decide) (by decide)⟩
  · show Steps p.tables e below (T7.setTop (mkF m 57 #[.val (.ref a), .val (.int i), .val (.int wi)] [])) _
    exact X7.returnOut hx Bd.returns (hb hby d7_57) hrr
  · show QrmSet Z a i w len u wi f h0 n0 _ T7.heap _
    rw [e7]
    exact ⟨c2, kd2, s2, rfl, N7, g_c2, Kp6, Ex, Fw2, Fu2, Fs2, Ay6⟩
theorem d12_0 : decode jdk_92_method_26_code 0 = .ok (.iload_n 1, 1) := by decide +kernel
theorem d12_1 : decode jdk_92_method_26_code 1 = .ok (.ifCond .ge 30, 3) := by decide +kernel
theorem d12_31 : decode jdk_92_method_26_code 31 = .ok (.aload_n 0, 1) := by decide +kernel
theorem d12_32 : decode jdk_92_method_26_code 32 = .ok (.invokevirtual 56, 3) := by decide +kernel
theorem d12_35 : decode jdk_92_method_26_code 35 = .ok (.iload_n 1, 1) := by decide +kernel
theorem d12_36 : decode jdk_92_method_26_code 36 = .ok (.invokestatic 52, 3) := by decide +kernel
theorem d12_39 : decode jdk_92_method_26_code 39 = .ok (.istore_n 2, 1) := by decide +kernel
theorem d12_40 : decode jdk_92_method_26_code 40 = .ok (.iload_n 2, 1) := by decide +kernel
theorem d12_41 : decode jdk_92_method_26_code 41 = .ok (.aload_n 0, 1) := by decide +kernel
theorem d12_42 : decode jdk_92_method_26_code 42 = .ok (.getfield 7, 3) := by decide +kernel
theorem d12_45 : decode jdk_92_method_26_code 45 = .ok (.if_icmp .ge 22, 3) := by decide +kernel
theorem d12_48 : decode jdk_92_method_26_code 48 = .ok (.aload_n 0, 1) := by decide +kernel
theorem d12_49 : decode jdk_92_method_26_code 49 = .ok (.getfield 11, 3) := by decide +kernel
theorem d12_52 : decode jdk_92_method_26_code 52 = .ok (.iload_n 2, 1) := by decide +kernel
theorem d12_53 : decode jdk_92_method_26_code 53 = .ok (.laload, 1) := by decide +kernel
theorem d12_54 : decode jdk_92_method_26_code 54 = .ok (.lconst 1, 1) := by decide +kernel
theorem d12_55 : decode jdk_92_method_26_code 55 = .ok (.iload_n 1, 1) := by decide +kernel
theorem d12_56 : decode jdk_92_method_26_code 56 = .ok (.lshl, 1) := by decide +kernel
theorem d12_57 : decode jdk_92_method_26_code 57 = .ok (.land, 1) := by decide +kernel
theorem d12_58 : decode jdk_92_method_26_code 58 = .ok (.lconst 0, 1) := by decide +kernel
theorem d12_59 : decode jdk_92_method_26_code 59 = .ok (.lcmp, 1) := by decide +kernel
theorem d12_60 : decode jdk_92_method_26_code 60 = .ok (.ifCond .eq 7, 3) := by decide +kernel
theorem d12_63 : decode jdk_92_method_26_code 63 = .ok (.iconst 1, 1) := by decide +kernel
theorem d12_64 : decode jdk_92_method_26_code 64 = .ok (.goto 4, 3) := by decide +kernel
theorem d12_67 : decode jdk_92_method_26_code 67 = .ok (.iconst 0, 1) := by decide +kernel
theorem d12_68 : decode jdk_92_method_26_code 68 = .ok (.ireturn, 1) := by decide +kernel
theorem own_pn12 : plainName "java/util/BitSet" = true := by first | (simp [plainName, overriddenIn]; done) | decide +kernel
theorem own_ef12 (m : MethodId) (x0 : Addr) (x1 : Int32) : entryFrame m #[(.ref x0), (.int x1)] 3 = mkF m 0 #[.val (.ref x0), .val (.int x1), .unset] [] := by first | (simp [entryFrame, mkF, argsToLocals, Value.category]; done) | rfl
def QrmGet (Z : State) (r : Int32) (h0 : Heap) (n0 : Nat) (v : Option Value) (h : Heap) (L : List Loc) : Prop := v = some (.int r) ∧ Fr n0 L ∧ h = h0
set_option maxRecDepth 65536 in
set_option maxHeartbeats 40000000 in
theorem rmGet (l : Launch) (Z : State) (a0 : Array Value) (hw : ∀ d ∈ tables_1, d.before a0 Z = true) (ws : List Jvm.Cond) (a : Addr) (i : Int32) (w : Addr) (kc : ClassId) (len u s_ wi r : Int32) (f : Nat → Int64) (h0 : Heap) (n0 : Nat) (Z0 : n0 ≤ h0.size) (hi : ¬ i < (0 : Int32)) (hwe : own_wi i = wi) (hw0 : ¬ wi < (0 : Int32)) (hwu : wi < u) (hwl : wi < len) (hl6 : len = (1 : Int32) ∨ len = (2 : Int32) ∨ len = (3 : Int32) ∨ len = (4 : Int32) ∨ len = (6 : Int32)) (Ex : Exa Z h0 a "java/util/BitSet") (Fw : Fld Z h0 a "java/util/BitSet" "words" "[J" (.ref w)) (Fu : Fld Z h0 a "java/util/BitSet" "wordsInUse" "I" (.int u)) (Av : Arv Z h0 w kc .long len (own_vals len f) (.long (0 : Int64))) (S_ad : Sta Z h0 "java/util/BitSet" "$assertionsDisabled" "Z" (.int (1 : Int32))) (hr : (if lcmpW (f (wi).toNatClampNeg &&& ((1 : Int64) <<< (i &&& 0x3f).toInt64)) (0 : Int64) = (0 : Int32) then (0 : Int32) else (1 : Int32)) = r) :
    MetFree l (⟨"java/util/BitSet", "get", "(I)Z"⟩ : MethodName) (head1 (Jvm.Cond.code (⟨"java/util/BitSet", "get", "(I)Z"⟩ : MethodName) jdk_92_method_26_code 3 (some .boolean) :: ws) ({ frames := 1, cells := 0, slots := 0, locals := 12 } : Room)) (fun ar_ U_ => ar_ = #[(.ref a), (.int i)] ∧ Z.Warmed39 U_.vm ∧ U_.heap = h0) (fun _ _ _ _ _ => True) (fun _ U_ ou_ V_ => ∃ v_ L_, ou_ = .returned v_ ∧ QrmGet Z r h0 n0 v_ V_.heap L_ ∧ FrameEnd U_ ou_ V_ L_ ({ frames := 1, cells := 0, slots := 0, locals := 12 } : Room).cells ({ frames := 1, cells := 0, slots := 0, locals := 12 } : Room).slots) := by
  refine MetFree.of_bodySF (plainFor_of_name own_pn12) hisR ?_
  intro p e s m args below meth c s₁ Bd hml0 hP hK
  obtain ⟨rfl, hZ, hh⟩ := hP
  have hx := Bd.exec
  have hby := Bd.bytes
  have hml : c.maxLocals = 3 := hml0
  have hown : s.vm.findClass "java/util/BitSet" = some m.cls := findClass_of_methodNamed Bd.named
  have hnm := (name_of_methodNamed Bd.named Bd.method).1
  have X0 : Stand p l e ({ frames := 1, cells := 0, slots := 0, locals := 12 } : Room) s m #[(.ref a), (.int i)] below meth c s₁ [] 0 0 := Stand.of_body Bd
  have e0 : s₁.heap = h0 := by rw [← hh, Bd.state]; rfl
  have N0 := Fr.nil n0
  refine own_go (A := s₁.setTop (mkF m 0 #[.val (.ref a), .val (.int i), .unset] [])) (fun t kz => castTop (own_ef12 m a i) kz) ?_
  refine own_go (A := s₁.setTop (mkF m 32 #[.val (.ref a), .val (.int i), .unset] [(.ref a)])) (fun _ kz => ?_) ?_
  · show Steps p.tables e below (s₁.setTop (mkF m 0 #[.val (.ref a), .val (.int i), .unset] [])) _
    refine XS.iloadN X0.here hx rfl (hb hby d12_0) rfl ?_
    show Steps p.tables e below (s₁.setTop (mkF m 1 #[.val (.ref a), .val (.int i), .unset] [(.int i)])) _
    refine XS.ifYes X0.here hx rfl (pc0 := 1) (pc' := 31) rfl (hb hby d12_1) rfl ((if0 _ _).trans (flt hi).2.1) (by decide) (by decide) ?_
    show Steps p.tables e below (s₁.setTop (mkF m 31 #[.val (.ref a), .val (.int i), .unset] [])) _
    refine XS.aloadN X0.here hx rfl (hb hby d12_31) rfl rfl ?_
    exact kz
  obtain ⟨cq1, q1, q1'⟩ := Ex.cell
  obtain ⟨_, _, ⟨T1, L1, k1, n1⟩, -, X1, ⟨Lc1, hQ1, l1, y1, z1⟩, st1⟩ := X0.privateBack hx (y := (⟨"java/util/BitSet", "checkInvariants", "()V"⟩ : MethodName)) hown (mvT hZ (hw _ (List.mem_of_getElem? (i := 57) rfl))) (mvT hZ (hw _ (List.mem_of_getElem? (i := 58) rfl))) (mvT hZ (hw _ (List.mem_of_getElem? (i := 60) rfl))) (Cond.privateMethod_at (mvP hZ (hw _ (List.mem_of_getElem? (i := 59) rfl)) (args := #[]))) (mvT hZ (hw _ (List.mem_of_getElem? (i := 61) rfl))) (by decide) (backOf (W := 0) (rmCI l Z a0 hw [] a h0 n0 Z0 S_ad) hZ (hw _ (List.mem_of_getElem? (i := 61) rfl)) (hw _ (List.mem_of_getElem? (i := 11) rfl)) (by decide) (by decide)) (g := (mkF m 32 #[.val (.ref a), .val (.int i), .unset] [(.ref a)])) rfl (by rw [hml]; rfl) (Steps.refl _) (a := a) (by rw [e0]; exact q1) q1' (argsL := []) (rest := []) (lenOf own_pd4 rfl) rfl (by show 2 * 0 + _ ≤ _; exact Nat.le_of_eq rfl) (hb hby d12_32) (fun _ _ => ⟨rfl, e0, (by decide : 0 + 0 ≤ _), (by decide : 0 + 0 ≤ _)⟩)
  dsimp only [Pt.U, Pt.locs, Pt.cells, Pt.slots] at X1 l1 y1 z1 st1 hQ1
  subst l1 y1 z1
  obtain ⟨rfl, N1q, e1⟩ := hQ1
  have N1 := Fr.app N0 N1q
  refine own_go (A := T1.setTop (mkF m 35 #[.val (.ref a), .val (.int i), .unset] [])) (fun _ kz => st1.trans kz) ?_
  refine own_go (A := T1.setTop (mkF m 36 #[.val (.ref a), .val (.int i), .unset] [(.int i)])) (fun _ kz => ?_) ?_
  · show Steps p.tables e below (T1.setTop (mkF m 35 #[.val (.ref a), .val (.int i), .unset] [])) _
    refine XS.iloadN X1.here hx rfl (hb hby d12_35) rfl ?_
    exact kz
  obtain ⟨_, _, ⟨T2, L2, k2, n2⟩, -, X2, ⟨Lc2, hQ2, l2, y2, z2⟩, st2⟩ := Jvm.LawKit.callS X1 hx (y := (⟨"java/util/BitSet", "wordIndex", "(I)I"⟩ : MethodName)) hown (mvT hZ (hw _ (List.mem_of_getElem? (i := 25) rfl))) (mvT hZ (hw _ (List.mem_of_getElem? (i := 26) rfl))) (mvT hZ (hw _ (List.mem_of_getElem? (i := 11) rfl))) (mvT hZ (hw _ (List.mem_of_getElem? (i := 27) rfl))) (by decide) (backOf (W := 0) (rmWI l Z a0 hw [] i wi h0 n0 Z0 hwe) hZ (hw _ (List.mem_of_getElem? (i := 27) rfl)) (hw _ (List.mem_of_getElem? (i := 11) rfl)) (by decide) (by decide)) (g := (mkF m 36 #[.val (.ref a), .val (.int i), .unset] [(.int i)])) rfl (by rw [hml]; rfl) (argsL := [(.int i)]) (rest := []) (lenOf own_pd3 rfl) rfl (by show 2 * 0 + _ ≤ _; exact Nat.le_of_eq rfl) (hb hby d12_36) (fun _ _ => ⟨rfl, e1, (by decide : 0 + 0 ≤ _), (by decide : 0 + 0 ≤ _)⟩)
  dsimp only [Pt.U, Pt.locs, Pt.cells, Pt.slots] at X2 l2 y2 z2 st2 hQ2
  subst l2 y2 z2
  obtain ⟨rfl, N2q, e2⟩ := hQ2
  have N2 := Fr.app N1 N2q
  refine own_go (A := T2.setTop (mkF m 39 #[.val (.ref a), .val (.int i), .unset] [(.int wi)])) (fun _ kz => st2 _ kz) ?_
  refine own_go (A := T2.setTop (mkF m 42 #[.val (.ref a), .val (.int i), .val (.int wi)] [(.ref a), (.int wi)])) (fun _ kz => ?_) ?_
  · show Steps p.tables e below (T2.setTop (mkF m 39 #[.val (.ref a), .val (.int i), .unset] [(.int wi)])) _
    refine XS.istoreN X2.here hx rfl (hb hby d12_39) rfl (l' := #[.val (.ref a), .val (.int i), .val (.int wi)]) rfl ?_
    show Steps p.tables e below (T2.setTop (mkF m 40 #[.val (.ref a), .val (.int i), .val (.int wi)] [])) _
    refine XS.iloadN X2.here hx rfl (hb hby d12_40) rfl ?_
    show Steps p.tables e below (T2.setTop (mkF m 41 #[.val (.ref a), .val (.int i), .val (.int wi)] [(.int wi)])) _
    refine XS.aloadN X2.here hx rfl (hb hby d12_41) rfl rfl ?_
    exact kz
  obtain ⟨T3, X3, e3, st3⟩ := getF X2 hx hZ hown (host := "") (Or.inl (hw _ (List.mem_of_getElem? (i := 16) rfl))) Via.refl e2 Fu (g := (mkF m 42 #[.val (.ref a), .val (.int i), .val (.int wi)] [(.ref a), (.int wi)])) rfl rfl (hb hby d12_42)
  refine own_go (A := T3.setTop (mkF m 45 #[.val (.ref a), .val (.int i), .val (.int wi)] [(.int u), (.int wi)])) (fun _ kz => st3 _ kz) ?_
  refine own_go (A := T3.setTop (mkF m 49 #[.val (.ref a), .val (.int i), .val (.int wi)] [(.ref a)])) (fun _ kz => ?_) ?_
  · show Steps p.tables e below (T3.setTop (mkF m 45 #[.val (.ref a), .val (.int i), .val (.int wi)] [(.int u), (.int wi)])) _
    refine XS.icmpNo X3.here hx rfl (hb hby d12_45) rfl (tlt hwu).2.1 ?_
    show Steps p.tables e below (T3.setTop (mkF m 48 #[.val (.ref a), .val (.int i), .val (.int wi)] [])) _
    refine XS.aloadN X3.here hx rfl (hb hby d12_48) rfl rfl ?_
    exact kz
  obtain ⟨T4, X4, e4, st4⟩ := getF X3 hx hZ hown (host := "") (Or.inl (hw _ (List.mem_of_getElem? (i := 29) rfl))) Via.refl e3 Fw (g := (mkF m 49 #[.val (.ref a), .val (.int i), .val (.int wi)] [(.ref a)])) rfl rfl (hb hby d12_49)
  refine own_go (A := T4.setTop (mkF m 52 #[.val (.ref a), .val (.int i), .val (.int wi)] [(.ref w)])) (fun _ kz => st4 _ kz) ?_
  refine own_go (A := T4.setTop (mkF m 53 #[.val (.ref a), .val (.int i), .val (.int wi)] [(.int wi), (.ref w)])) (fun _ kz => ?_) ?_
  · show Steps p.tables e below (T4.setTop (mkF m 52 #[.val (.ref a), .val (.int i), .val (.int wi)] [(.ref w)])) _
    refine XS.iloadN X4.here hx rfl (hb hby d12_52) rfl ?_
    exact kz
  obtain ⟨cl5, Ar5, -, S5, M5, H5, -⟩ := id Av
  have hin5 : ¬ (wi < 0 ∨ cl5.slots.size ≤ (wi).toNatClampNeg) := inb_of S5 ⟨hw0, hwl⟩
  have hat5 : cl5.slots[(wi).toNatClampNeg]? = some (.long (f (wi).toNatClampNeg)) := H5.at hin5 (own_at hl6 ⟨hw0, hwl⟩)
  refine own_go (A := T4.setTop (mkF m 54 #[.val (.ref a), .val (.int i), .val (.int wi)] [(.long (f (wi).toNatClampNeg))])) (fun _ kz => ?_) ?_
  · refine X4.laload hx (j := wi) (v := (.long (f (wi).toNatClampNeg))) (by rw [e4]; exact Ar5.1) (State.isArrayOf_alike hZ.alike Ar5.2.1) Ar5.2.2 hin5 hat5 (g := (mkF m 53 #[.val (.ref a), .val (.int i), .val (.int wi)] [(.int wi), (.ref w)])) rfl rfl (hb hby d12_53) _ ?_
    exact kz
  refine own_go (A := T4.setTop (mkF m 60 #[.val (.ref a), .val (.int i), .val (.int wi)] [(.int (lcmpW ((f (wi).toNatClampNeg) &&& ((1 : Int64) <<< (i &&& 0x3f).toInt64)) (0 : Int64)))])) (fun _ kz => ?_) ?_
  · show Steps p.tables e below (T4.setTop (mkF m 54 #[.val (.ref a), .val (.int i), .val (.int wi)] [(.long (f (wi).toNatClampNeg))])) _
    refine XS.lconst X4.here hx rfl (hb hby d12_54) ?_
    show Steps p.tables e below (T4.setTop (mkF m 55 #[.val (.ref a), .val (.int i), .val (.int wi)] [(.long (1 : Int64)), (.long (f (wi).toNatClampNeg))])) _
    refine XS.iloadN X4.here hx rfl (hb hby d12_55) rfl ?_
    show Steps p.tables e below (T4.setTop (mkF m 56 #[.val (.ref a), .val (.int i), .val (.int wi)] [(.int i), (.long (1 : Int64)), (.long (f (wi).toNatClampNeg))])) _
    refine XS.lshl X4.here hx rfl (hb hby d12_56) rfl ?_
    show Steps p.tables e below (T4.setTop (mkF m 57 #[.val (.ref a), .val (.int i), .val (.int wi)] [(.long ((1 : Int64) <<< (i &&& 0x3f).toInt64)), (.long (f (wi).toNatClampNeg))])) _
    refine XS.land X4.here hx rfl (hb hby d12_57) rfl ?_
    show Steps p.tables e below (T4.setTop (mkF m 58 #[.val (.ref a), .val (.int i), .val (.int wi)] [(.long ((f (wi).toNatClampNeg) &&& ((1 : Int64) <<< (i &&& 0x3f).toInt64)))])) _
    refine XS.lconst X4.here hx rfl (hb hby d12_58) ?_
    show Steps p.tables e below (T4.setTop (mkF m 59 #[.val (.ref a), .val (.int i), .val (.int wi)] [(.long (0 : Int64)), (.long ((f (wi).toNatClampNeg) &&& ((1 : Int64) <<< (i &&& 0x3f).toInt64)))])) _
    refine XS.lcmp X4.here hx rfl (hb hby d12_59) rfl ?_
    exact kz
  by_cases hs6 : (lcmpW ((f (wi).toNatClampNeg) &&& ((1 : Int64) <<< (i &&& 0x3f).toInt64)) (0 : Int64)) = (0 : Int32)
  · skip
    refine own_go (A := T4.setTop (mkF m 67 #[.val (.ref a), .val (.int i), .val (.int wi)] [])) (fun _ kz => ?_) ?_
    · show Steps p.tables e below (T4.setTop (mkF m 60 #[.val (.ref a), .val (.int i), .val (.int wi)] [(.int (lcmpW ((f (wi).toNatClampNeg) &&& ((1 : Int64) <<< (i &&& 0x3f).toInt64)) (0 : Int64)))])) _
      refine XS.ifYes X4.here hx rfl (pc0 := 60) (pc' := 67) rfl (hb hby d12_60) rfl ((if0 _ _).trans (teq hs6).1) (by decide) (by decide) ?_
      exact kz
    refine own_go (A := T4.setTop (mkF m 68 #[.val (.ref a), .val (.int i), .val (.int wi)] [(.int (0 : Int32))])) (fun _ kz => ?_) ?_
    · show Steps p.tables e below (T4.setTop (mkF m 67 #[.val (.ref a), .val (.int i), .val (.int wi)] [])) _
      refine XS.iconst X4.here hx rfl (hb hby d12_67) ?_
      exact kz
    obtain ⟨fs, hrr, hrun, hended, hW, hsame⟩ := X4.leave (v := some (.int (0 : Int32))) (fun h => by rw [Bd.returns] at h; cases h)
    refine ⟨_, _, ?_, hrun, hended, _, _, rfl, ?_, ⟨_, rfl⟩, hW, hsame.mono (by decide) (by decide)⟩
    · show Steps p.tables e below (T4.setTop (mkF m 68 #[.val (.ref a), .val (.int i), .val (.int wi)] [(.int (0 : Int32))])) _
      exact retN X4 hx (t := .boolean) Bd.returns (by simp) (hb hby d12_68) hrr
    · show QrmGet Z r h0 n0 _ T4.heap _
      rw [e4]
      exact ⟨by rw [← hr, if_pos hs6], N2, rfl⟩
  · skip
    refine own_go (A := T4.setTop (mkF m 63 #[.val (.ref a), .val (.int i), .val (.int wi)] [])) (fun _ kz => ?_) ?_
    · show Steps p.tables e below (T4.setTop (mkF m 60 #[.val (.ref a), .val (.int i), .val (.int wi)] [(.int (lcmpW ((f (wi).toNatClampNeg) &&& ((1 : Int64) <<< (i &&& 0x3f).toInt64)) (0 : Int64)))])) _
      refine XS.ifNo X4.here hx rfl (hb hby d12_60) rfl ((if0 _ _).trans (feq hs6).1) ?_
      exact kz
    refine own_go (A := T4.setTop (mkF m 68 #[.val (.ref a), .val (.int i), .val (.int wi)] [(.int (1 : Int32))])) (fun _ kz => ?_) ?_
    · show Steps p.tables e below (T4.setTop (mkF m 63 #[.val (.ref a), .val (.int i), .val (.int wi)] [])) _
      refine XS.iconst X4.here hx rfl (hb hby d12_63) ?_
      show Steps p.tables e below (T4.setTop (mkF m 64 #[.val (.ref a), .val (.int i), .val (.int wi)] [(.int (1 : Int32))])) _
      refine XS.goto X4.here hx rfl (pc0 := 64) (pc' := 68) rfl (hb hby d12_64) (by decide) (by decide) ?_
      exact kz
    obtain ⟨fs, hrr, hrun, hended, hW, hsame⟩ := X4.leave (v := some (.int (1 : Int32))) (fun h => by rw [Bd.returns] at h; cases h)
    refine ⟨_, _, ?_, hrun, hended, _, _, rfl, ?_, ⟨_, rfl⟩, hW, hsame.mono (by decide) (by decide)⟩
    · show Steps p.tables e below (T4.setTop (mkF m 68 #[.val (.ref a), .val (.int i), .val (.int wi)] [(.int (1 : Int32))])) _
      exact retN X4 hx (t := .boolean) Bd.returns (by simp) (hb hby d12_68) hrr
    · show QrmGet Z r h0 n0 _ T4.heap _
      rw [e4]
      exact ⟨by rw [← hr, if_neg hs6], N2, rfl⟩
theorem d13_0 : decode jdk_92_method_35_code 0 = .ok (.iconst 0, 1) := by decide +kernel
theorem d13_1 : decode jdk_92_method_35_code 1 = .ok (.istore_n 1, 1) := by decide +kernel
theorem d13_2 : decode jdk_92_method_35_code 2 = .ok (.iconst 0, 1) := by decide +kernel
theorem d13_3 : decode jdk_92_method_35_code 3 = .ok (.istore_n 2, 1) := by decide +kernel
theorem d13_4 : decode jdk_92_method_35_code 4 = .ok (.iload_n 2, 1) := by decide +kernel
theorem d13_5 : decode jdk_92_method_35_code 5 = .ok (.aload_n 0, 1) := by decide +kernel
theorem d13_6 : decode jdk_92_method_35_code 6 = .ok (.getfield 7, 3) := by decide +kernel
theorem d13_9 : decode jdk_92_method_35_code 9 = .ok (.if_icmp .ge 21, 3) := by decide +kernel
theorem d13_12 : decode jdk_92_method_35_code 12 = .ok (.iload_n 1, 1) := by decide +kernel
theorem d13_13 : decode jdk_92_method_35_code 13 = .ok (.aload_n 0, 1) := by decide +kernel
theorem d13_14 : decode jdk_92_method_35_code 14 = .ok (.getfield 11, 3) := by decide +kernel
theorem d13_17 : decode jdk_92_method_35_code 17 = .ok (.iload_n 2, 1) := by decide +kernel
theorem d13_18 : decode jdk_92_method_35_code 18 = .ok (.laload, 1) := by decide +kernel
theorem d13_19 : decode jdk_92_method_35_code 19 = .ok (.invokestatic 196, 3) := by decide +kernel
theorem d13_22 : decode jdk_92_method_35_code 22 = .ok (.iadd, 1) := by decide +kernel
theorem d13_23 : decode jdk_92_method_35_code 23 = .ok (.istore_n 1, 1) := by decide +kernel
theorem d13_24 : decode jdk_92_method_35_code 24 = .ok (.iinc 2 1, 3) := by decide +kernel
theorem d13_27 : decode jdk_92_method_35_code 27 = .ok (.goto (-23), 3) := by decide +kernel
theorem d13_30 : decode jdk_92_method_35_code 30 = .ok (.iload_n 1, 1) := by decide +kernel
theorem d13_31 : decode jdk_92_method_35_code 31 = .ok (.ireturn, 1) := by decide +kernel
theorem own_pn13 : plainName "java/util/BitSet" = true := by first | (simp [plainName, overriddenIn]; done) | decide +kernel
theorem own_ef13 (m : MethodId) (x0 : Addr) : entryFrame m #[(.ref x0)] 3 = mkF m 0 #[.val (.ref x0), .unset, .unset] [] := by first | (simp [entryFrame, mkF, argsToLocals, Value.category]; done) | rfl
def QrmCard (Z : State) (r : Int32) (h0 : Heap) (n0 : Nat) (v : Option Value) (h : Heap) (L : List Loc) : Prop := v = some (.int r) ∧ Fr n0 L ∧ h = h0
set_option maxRecDepth 65536 in
set_option maxHeartbeats 40000000 in
theorem rmCard (l : Launch) (Z : State) (a0 : Array Value) (hw : ∀ d ∈ tables_1, d.before a0 Z = true) (ws : List Jvm.Cond) (a w : Addr) (kc : ClassId) (len u r : Int32) (f : Nat → Int64) (h0 : Heap) (n0 : Nat) (Z0 : n0 ≤ h0.size) (h6 : (len = (1 : Int32) ∧ u = (1 : Int32)) ∨ (len = (2 : Int32) ∧ u = (2 : Int32)) ∨ (len = (3 : Int32) ∧ u = (3 : Int32)) ∨ (len = (4 : Int32) ∧ u = (4 : Int32)) ∨ (len = (4 : Int32) ∧ u = (3 : Int32)) ∨ (len = (6 : Int32) ∧ u = (4 : Int32))) (Fw : Fld Z h0 a "java/util/BitSet" "words" "[J" (.ref w)) (Fu : Fld Z h0 a "java/util/BitSet" "wordsInUse" "I" (.int u)) (Av : Arv Z h0 w kc .long len (own_vals len f) (.long (0 : Int64))) (hr : own_card u f = r) :
    MetFree l (⟨"java/util/BitSet", "cardinality", "()I"⟩ : MethodName) (head1 (Jvm.Cond.code (⟨"java/util/BitSet", "cardinality", "()I"⟩ : MethodName) jdk_92_method_35_code 3 (some .int) :: ws) ({ frames := 1, cells := 0, slots := 0, locals := 14 } : Room)) (fun ar_ U_ => ar_ = #[(.ref a)] ∧ Z.Warmed39 U_.vm ∧ U_.heap = h0) (fun _ _ _ _ _ => True) (fun _ U_ ou_ V_ => ∃ v_ L_, ou_ = .returned v_ ∧ QrmCard Z r h0 n0 v_ V_.heap L_ ∧ FrameEnd U_ ou_ V_ L_ ({ frames := 1, cells := 0, slots := 0, locals := 14 } : Room).cells ({ frames := 1, cells := 0, slots := 0, locals := 14 } : Room).slots) := by
  refine MetFree.of_bodySF (plainFor_of_name own_pn13) hisR ?_
  intro p e s m args below meth c s₁ Bd hml0 hP hK
  obtain ⟨rfl, hZ, hh⟩ := hP
  have hx := Bd.exec
  have hby := Bd.bytes
  have hml : c.maxLocals = 3 := hml0
  have hown : s.vm.findClass "java/util/BitSet" = some m.cls := findClass_of_methodNamed Bd.named
  have hnm := (name_of_methodNamed Bd.named Bd.method).1
  have X0 : Stand p l e ({ frames := 1, cells := 0, slots := 0, locals := 14 } : Room) s m #[(.ref a)] below meth c s₁ [] 0 0 := Stand.of_body Bd
  have e0 : s₁.heap = h0 := by rw [← hh, Bd.state]; rfl
  have N0 := Fr.nil n0
  refine own_go (A := s₁.setTop (mkF m 0 #[.val (.ref a), .unset, .unset] [])) (fun t kz => castTop (own_ef13 m a) kz) ?_
  rcases h6 with ⟨rfl, rfl⟩ | ⟨rfl, rfl⟩ | ⟨rfl, rfl⟩ | ⟨rfl, rfl⟩ | ⟨rfl, rfl⟩ | ⟨rfl, rfl⟩
  · skip
    replace Av : Arv Z h0 w kc .long (1 : Int32) [(.long (f 0))] (.long (0 : Int64)) := Av
    refine own_go (A := s₁.setTop (mkF m 6 #[.val (.ref a), .val (.int (0 : Int32)), .val (.int (0 : Int32))] [(.ref a), (.int (0 : Int32))])) (fun _ kz => ?_) ?_
    · show Steps p.tables e below (s₁.setTop (mkF m 0 #[.val (.ref a), .unset, .unset] [])) _
      refine XS.iconst X0.here hx rfl (hb hby d13_0) ?_
      show Steps p.tables e below (s₁.setTop (mkF m 1 #[.val (.ref a), .unset, .unset] [(.int (0 : Int32))])) _
      refine XS.istoreN X0.here hx rfl (hb hby d13_1) rfl (l' := #[.val (.ref a), .val (.int (0 : Int32)), .unset]) rfl ?_
      show Steps p.tables e below (s₁.setTop (mkF m 2 #[.val (.ref a), .val (.int (0 : Int32)), .unset] [])) _
      refine XS.iconst X0.here hx rfl (hb hby d13_2) ?_
      show Steps p.tables e below (s₁.setTop (mkF m 3 #[.val (.ref a), .val (.int (0 : Int32)), .unset] [(.int (0 : Int32))])) _
      refine XS.istoreN X0.here hx rfl (hb hby d13_3) rfl (l' := #[.val (.ref a), .val (.int (0 : Int32)), .val (.int (0 : Int32))]) rfl ?_
      show Steps p.tables e below (s₁.setTop (mkF m 4 #[.val (.ref a), .val (.int (0 : Int32)), .val (.int (0 : Int32))] [])) _
      refine XS.iloadN X0.here hx rfl (hb hby d13_4) rfl ?_
      show Steps p.tables e below (s₁.setTop (mkF m 5 #[.val (.ref a), .val (.int (0 : Int32)), .val (.int (0 : Int32))] [(.int (0 : Int32))])) _
      refine XS.aloadN X0.here hx rfl (hb hby d13_5) rfl rfl ?_
      exact kz
    obtain ⟨T1, X1, e1, st1⟩ := getF X0 hx hZ hown (host := "") (Or.inl (hw _ (List.mem_of_getElem? (i := 16) rfl))) Via.refl e0 Fu (g := (mkF m 6 #[.val (.ref a), .val (.int (0 : Int32)), .val (.int (0 : Int32))] [(.ref a), (.int (0 : Int32))])) rfl rfl (hb hby d13_6)
    refine own_go (A := T1.setTop (mkF m 9 #[.val (.ref a), .val (.int (0 : Int32)), .val (.int (0 : Int32))] [(.int (1 : Int32)), (.int (0 : Int32))])) (fun _ kz => st1 _ kz) ?_
    refine own_go (A := T1.setTop (mkF m 14 #[.val (.ref a), .val (.int (0 : Int32)), .val (.int (0 : Int32))] [(.ref a), (.int (0 : Int32))])) (fun _ kz => ?_) ?_
    · show Steps p.tables e below (T1.setTop (mkF m 9 #[.val (.ref a), .val (.int (0 : Int32)), .val (.int (0 : Int32))] [(.int (1 : Int32)), (.int (0 : Int32))])) _
      refine XS.icmpNo X1.here hx rfl (hb hby d13_9) rfl (tlt (by decide : ((0 : Int32) < (1 : Int32)))).2.1 ?_
      show Steps p.tables e below (T1.setTop (mkF m 12 #[.val (.ref a), .val (.int (0 : Int32)), .val (.int (0 : Int32))] [])) _
      refine XS.iloadN X1.here hx rfl (hb hby d13_12) rfl ?_
      show Steps p.tables e below (T1.setTop (mkF m 13 #[.val (.ref a), .val (.int (0 : Int32)), .val (.int (0 : Int32))] [(.int (0 : Int32))])) _
      refine XS.aloadN X1.here hx rfl (hb hby d13_13) rfl rfl ?_
      exact kz
    obtain ⟨T2, X2, e2, st2⟩ := getF X1 hx hZ hown (host := "") (Or.inl (hw _ (List.mem_of_getElem? (i := 29) rfl))) Via.refl e1 Fw (g := (mkF m 14 #[.val (.ref a), .val (.int (0 : Int32)), .val (.int (0 : Int32))] [(.ref a), (.int (0 : Int32))])) rfl rfl (hb hby d13_14)
    refine own_go (A := T2.setTop (mkF m 17 #[.val (.ref a), .val (.int (0 : Int32)), .val (.int (0 : Int32))] [(.ref w), (.int (0 : Int32))])) (fun _ kz => st2 _ kz) ?_
    refine own_go (A := T2.setTop (mkF m 18 #[.val (.ref a), .val (.int (0 : Int32)), .val (.int (0 : Int32))] [(.int (0 : Int32)), (.ref w), (.int (0 : Int32))])) (fun _ kz => ?_) ?_
    · show Steps p.tables e below (T2.setTop (mkF m 17 #[.val (.ref a), .val (.int (0 : Int32)), .val (.int (0 : Int32))] [(.ref w), (.int (0 : Int32))])) _
      refine XS.iloadN X2.here hx rfl (hb hby d13_17) rfl ?_
      exact kz
    obtain ⟨cl3, Ar3, -, S3, M3, H3, -⟩ := id Av
    have hin3 : ¬ ((0 : Int32) < 0 ∨ cl3.slots.size ≤ ((0 : Int32)).toNatClampNeg) := inb_of S3 ⟨by decide, by decide⟩
    have hat3 : cl3.slots[((0 : Int32)).toNatClampNeg]? = some (.long (f 0)) := H3.at hin3 rfl
    refine own_go (A := T2.setTop (mkF m 19 #[.val (.ref a), .val (.int (0 : Int32)), .val (.int (0 : Int32))] [(.long (f 0)), (.int (0 : Int32))])) (fun _ kz => ?_) ?_
    · refine X2.laload hx (j := (0 : Int32)) (v := (.long (f 0))) (by rw [e2]; exact Ar3.1) (State.isArrayOf_alike hZ.alike Ar3.2.1) Ar3.2.2 hin3 hat3 (g := (mkF m 18 #[.val (.ref a), .val (.int (0 : Int32)), .val (.int (0 : Int32))] [(.int (0 : Int32)), (.ref w), (.int (0 : Int32))])) rfl rfl (hb hby d13_18) _ ?_
      exact kz
    obtain ⟨_, _, ⟨T4, L4, k4, n4⟩, -, X4, ⟨Lc4, hQ4, l4, y4, z4⟩, st4⟩ := Jvm.LawKit.callS X2 hx (y := (⟨"java/lang/Long", "bitCount", "(J)I"⟩ : MethodName)) hown (mvT hZ (hw _ (List.mem_of_getElem? (i := 80) rfl))) (mvT hZ (hw _ (List.mem_of_getElem? (i := 81) rfl))) (mvT hZ (hw _ (List.mem_of_getElem? (i := 82) rfl))) (mvT hZ (hw _ (List.mem_of_getElem? (i := 83) rfl))) (by decide) (backOf (W := 1) (rmBC l Z a0 hw [] (f 0) h0 n0 Z0) hZ (hw _ (List.mem_of_getElem? (i := 83) rfl)) (hw _ (List.mem_of_getElem? (i := 82) rfl)) (by decide) (by decide)) (g := (mkF m 19 #[.val (.ref a), .val (.int (0 : Int32)), .val (.int (0 : Int32))] [(.long (f 0)), (.int (0 : Int32))])) rfl (by rw [hml]; rfl) (argsL := [(.long (f 0))]) (rest := [(.int (0 : Int32))]) (lenOf own_pd5 rfl) rfl (by show 2 * 0 + _ ≤ _; exact Nat.le_of_eq rfl) (hb hby d13_19) (fun _ _ => ⟨rfl, e2, (by decide : 0 + 0 ≤ _), (by decide : 0 + 0 ≤ _)⟩)
    dsimp only [Pt.U, Pt.locs, Pt.cells, Pt.slots] at X4 l4 y4 z4 st4 hQ4
    subst l4 y4 z4
    obtain ⟨rfl, N4q, e4⟩ := hQ4
    have N4 := Fr.app N0 N4q
    refine own_go (A := T4.setTop (mkF m 22 #[.val (.ref a), .val (.int (0 : Int32)), .val (.int (0 : Int32))] [(.int (own_bc (f 0))), (.int (0 : Int32))])) (fun _ kz => st4 _ kz) ?_
    refine own_go (A := T4.setTop (mkF m 6 #[.val (.ref a), .val (.int ((0 : Int32) + (own_bc (f 0)))), .val (.int (1 : Int32))] [(.ref a), (.int (1 : Int32))])) (fun _ kz => ?_) ?_
    · show Steps p.tables e below (T4.setTop (mkF m 22 #[.val (.ref a), .val (.int (0 : Int32)), .val (.int (0 : Int32))] [(.int (own_bc (f 0))), (.int (0 : Int32))])) _
      refine XS.iadd X4.here hx rfl (hb hby d13_22) rfl ?_
      show Steps p.tables e below (T4.setTop (mkF m 23 #[.val (.ref a), .val (.int (0 : Int32)), .val (.int (0 : Int32))] [(.int ((0 : Int32) + (own_bc (f 0))))])) _
      refine XS.istoreN X4.here hx rfl (hb hby d13_23) rfl (l' := #[.val (.ref a), .val (.int ((0 : Int32) + (own_bc (f 0)))), .val (.int (0 : Int32))]) rfl ?_
      show Steps p.tables e below (T4.setTop (mkF m 24 #[.val (.ref a), .val (.int ((0 : Int32) + (own_bc (f 0)))), .val (.int (0 : Int32))] [])) _
      refine XS.iinc X4.here hx rfl (hb hby d13_24) rfl (l' := #[.val (.ref a), .val (.int ((0 : Int32) + (own_bc (f 0)))), .val (.int (1 : Int32))]) rfl ?_
      show Steps p.tables e below (T4.setTop (mkF m 27 #[.val (.ref a), .val (.int ((0 : Int32) + (own_bc (f 0)))), .val (.int (1 : Int32))] [])) _
      refine XS.goto X4.here hx rfl (pc0 := 27) (pc' := 4) rfl (hb hby d13_27) (by decide) (by decide) ?_
      show Steps p.tables e below (T4.setTop (mkF m 4 #[.val (.ref a), .val (.int ((0 : Int32) + (own_bc (f 0)))), .val (.int (1 : Int32))] [])) _
      refine XS.iloadN X4.here hx rfl (hb hby d13_4) rfl ?_
      show Steps p.tables e below (T4.setTop (mkF m 5 #[.val (.ref a), .val (.int ((0 : Int32) + (own_bc (f 0)))), .val (.int (1 : Int32))] [(.int (1 : Int32))])) _
      refine XS.aloadN X4.here hx rfl (hb hby d13_5) rfl rfl ?_
      exact kz
    obtain ⟨T5, X5, e5, st5⟩ := getF X4 hx hZ hown (host := "") (Or.inl (hw _ (List.mem_of_getElem? (i := 16) rfl))) Via.refl e4 Fu (g := (mkF m 6 #[.val (.ref a), .val (.int ((0 : Int32) + (own_bc (f 0)))), .val (.int (1 : Int32))] [(.ref a), (.int (1 : Int32))])) rfl rfl (hb hby d13_6)
    refine own_go (A := T5.setTop (mkF m 9 #[.val (.ref a), .val (.int ((0 : Int32) + (own_bc (f 0)))), .val (.int (1 : Int32))] [(.int (1 : Int32)), (.int (1 : Int32))])) (fun _ kz => st5 _ kz) ?_
    refine own_go (A := T5.setTop (mkF m 31 #[.val (.ref a), .val (.int ((0 : Int32) + (own_bc (f 0)))), .val (.int (1 : Int32))] [(.int ((0 : Int32) + (own_bc (f 0))))])) (fun _ kz => ?_) ?_
    · show Steps p.tables e below (T5.setTop (mkF m 9 #[.val (.ref a), .val (.int ((0 : Int32) + (own_bc (f 0)))), .val (.int (1 : Int32))] [(.int (1 : Int32)), (.int (1 : Int32))])) _
      refine XS.icmpYes X5.here hx rfl (pc0 := 9) (pc' := 30) rfl (hb hby d13_9) rfl (flt (by decide : ¬ ((1 : Int32) < (1 : Int32)))).2.1 (by decide) (by decide) ?_
      show Steps p.tables e below (T5.setTop (mkF m 30 #[.val (.ref a), .val (.int ((0 : Int32) + (own_bc (f 0)))), .val (.int (1 : Int32))] [])) _
      refine XS.iloadN X5.here hx rfl (hb hby d13_30) rfl ?_
      exact kz
    obtain ⟨fs, hrr, hrun, hended, hW, hsame⟩ := X5.leave (v := some (.int ((0 : Int32) + (own_bc (f 0))))) (fun h => by rw [Bd.returns] at h; cases h)
    refine ⟨_, _, ?_, hrun, hended, _, _, rfl, ?_, ⟨_, rfl⟩, hW, hsame.mono (by decide) (by decide)⟩
    · show Steps p.tables e below (T5.setTop (mkF m 31 #[.val (.ref a), .val (.int ((0 : Int32) + (own_bc (f 0)))), .val (.int (1 : Int32))] [(.int ((0 : Int32) + (own_bc (f 0))))])) _
      exact retI X5 hx Bd.returns (hb hby d13_31) hrr
    · show QrmCard Z r h0 n0 _ T5.heap _
      rw [e5]
      exact ⟨congrArg (fun z => some (Value.int z)) hr, N4, rfl⟩
  · skip
    replace Av : Arv Z h0 w kc .long (2 : Int32) [(.long (f 0)), (.long (f 1))] (.long (0 : Int64)) := Av
    refine own_go (A := s₁.setTop (mkF m 6 #[.val (.ref a), .val (.int (0 : Int32)), .val (.int (0 : Int32))] [(.ref a), (.int (0 : Int32))])) (fun _ kz => ?_) ?_
    · show Steps p.tables e below (s₁.setTop (mkF m 0 #[.val (.ref a), .unset, .unset] [])) _
      refine XS.iconst X0.here hx rfl (hb hby d13_0) ?_
      show Steps p.tables e below (s₁.setTop (mkF m 1 #[.val (.ref a), .unset, .unset] [(.int (0 : Int32))])) _
      refine XS.istoreN X0.here hx rfl (hb hby d13_1) rfl (l' := #[.val (.ref a), .val (.int (0 : Int32)), .unset]) rfl ?_
      show Steps p.tables e below (s₁.setTop (mkF m 2 #[.val (.ref a), .val (.int (0 : Int32)), .unset] [])) _
      refine XS.iconst X0.here hx rfl (hb hby d13_2) ?_
      show Steps p.tables e below (s₁.setTop (mkF m 3 #[.val (.ref a), .val (.int (0 : Int32)), .unset] [(.int (0 : Int32))])) _
      refine XS.istoreN X0.here hx rfl (hb hby d13_3) rfl (l' := #[.val (.ref a), .val (.int (0 : Int32)), .val (.int (0 : Int32))]) rfl ?_
      show Steps p.tables e below (s₁.setTop (mkF m 4 #[.val (.ref a), .val (.int (0 : Int32)), .val (.int (0 : Int32))] [])) _
      refine XS.iloadN X0.here hx rfl (hb hby d13_4) rfl ?_
      show Steps p.tables e below (s₁.setTop (mkF m 5 #[.val (.ref a), .val (.int (0 : Int32)), .val (.int (0 : Int32))] [(.int (0 : Int32))])) _
      refine XS.aloadN X0.here hx rfl (hb hby d13_5) rfl rfl ?_
      exact kz
    obtain ⟨T6, X6, e6, st6⟩ := getF X0 hx hZ hown (host := "") (Or.inl (hw _ (List.mem_of_getElem? (i := 16) rfl))) Via.refl e0 Fu (g := (mkF m 6 #[.val (.ref a), .val (.int (0 : Int32)), .val (.int (0 : Int32))] [(.ref a), (.int (0 : Int32))])) rfl rfl (hb hby d13_6)
    refine own_go (A := T6.setTop (mkF m 9 #[.val (.ref a), .val (.int (0 : Int32)), .val (.int (0 : Int32))] [(.int (2 : Int32)), (.int (0 : Int32))])) (fun _ kz => st6 _ kz) ?_
    refine own_go (A := T6.setTop (mkF m 14 #[.val (.ref a), .val (.int (0 : Int32)), .val (.int (0 : Int32))] [(.ref a), (.int (0 : Int32))])) (fun _ kz => ?_) ?_
    · show Steps p.tables e below (T6.setTop (mkF m 9 #[.val (.ref a), .val (.int (0 : Int32)), .val (.int (0 : Int32))] [(.int (2 : Int32)), (.int (0 : Int32))])) _
      refine XS.icmpNo X6.here hx rfl (hb hby d13_9) rfl (tlt (by decide : ((0 : Int32) < (2 : Int32)))).2.1 ?_
      show Steps p.tables e below (T6.setTop (mkF m 12 #[.val (.ref a), .val (.int (0 : Int32)), .val (.int (0 : Int32))] [])) _
      refine XS.iloadN X6.here hx rfl (hb hby d13_12) rfl ?_
      show Steps p.tables e below (T6.setTop (mkF m 13 #[.val (.ref a), .val (.int (0 : Int32)), .val (.int (0 : Int32))] [(.int (0 : Int32))])) _
      refine XS.aloadN X6.here hx rfl (hb hby d13_13) rfl rfl ?_
      exact kz
    obtain ⟨T7, X7, e7, st7⟩ := getF X6 hx hZ hown (host := "") (Or.inl (hw _ (List.mem_of_getElem? (i := 29) rfl))) Via.refl e6 Fw (g := (mkF m 14 #[.val (.ref a), .val (.int (0 : Int32)), .val (.int (0 : Int32))] [(.ref a), (.int (0 : Int32))])) rfl rfl (hb hby d13_14)
    refine own_go (A := T7.setTop (mkF m 17 #[.val (.ref a), .val (.int (0 : Int32)), .val (.int (0 : Int32))] [(.ref w), (.int (0 : Int32))])) (fun _ kz => st7 _ kz) ?_
    refine own_go (A := T7.setTop (mkF m 18 #[.val (.ref a), .val (.int (0 : Int32)), .val (.int (0 : Int32))] [(.int (0 : Int32)), (.ref w), (.int (0 : Int32))])) (fun _ kz => ?_) ?_
    · show Steps p.tables e below (T7.setTop (mkF m 17 #[.val (.ref a), .val (.int (0 : Int32)), .val (.int (0 : Int32))] [(.ref w), (.int (0 : Int32))])) _
      refine XS.iloadN X7.here hx rfl (hb hby d13_17) rfl ?_
      exact kz
    obtain ⟨cl8, Ar8, -, S8, M8, H8, -⟩ := id Av
    have hin8 : ¬ ((0 : Int32) < 0 ∨ cl8.slots.size ≤ ((0 : Int32)).toNatClampNeg) := inb_of S8 ⟨by decide, by decide⟩
    have hat8 : cl8.slots[((0 : Int32)).toNatClampNeg]? = some (.long (f 0)) := H8.at hin8 rfl
    refine own_go (A := T7.setTop (mkF m 19 #[.val (.ref a), .val (.int (0 : Int32)), .val (.int (0 : Int32))] [(.long (f 0)), (.int (0 : Int32))])) (fun _ kz => ?_) ?_
    · refine X7.laload hx (j := (0 : Int32)) (v := (.long (f 0))) (by rw [e7]; exact Ar8.1) (State.isArrayOf_alike hZ.alike Ar8.2.1) Ar8.2.2 hin8 hat8 (g := (mkF m 18 #[.val (.ref a), .val (.int (0 : Int32)), .val (.int (0 : Int32))] [(.int (0 : Int32)), (.ref w), (.int (0 : Int32))])) rfl rfl (hb hby d13_18) _ ?_
      exact kz
    obtain ⟨_, _, ⟨T9, L9, k9, n9⟩, -, X9, ⟨Lc9, hQ9, l9, y9, z9⟩, st9⟩ := Jvm.LawKit.callS X7 hx (y := (⟨"java/lang/Long", "bitCount", "(J)I"⟩ : MethodName)) hown (mvT hZ (hw _ (List.mem_of_getElem? (i := 80) rfl))) (mvT hZ (hw _ (List.mem_of_getElem? (i := 81) rfl))) (mvT hZ (hw _ (List.mem_of_getElem? (i := 82) rfl))) (mvT hZ (hw _ (List.mem_of_getElem? (i := 83) rfl))) (by decide) (backOf (W := 1) (rmBC l Z a0 hw [] (f 0) h0 n0 Z0) hZ (hw _ (List.mem_of_getElem? (i := 83) rfl)) (hw _ (List.mem_of_getElem? (i := 82) rfl)) (by decide) (by decide)) (g := (mkF m 19 #[.val (.ref a), .val (.int (0 : Int32)), .val (.int (0 : Int32))] [(.long (f 0)), (.int (0 : Int32))])) rfl (by rw [hml]; rfl) (argsL := [(.long (f 0))]) (rest := [(.int (0 : Int32))]) (lenOf own_pd5 rfl) rfl (by show 2 * 0 + _ ≤ _; exact Nat.le_of_eq rfl) (hb hby d13_19) (fun _ _ => ⟨rfl, e7, (by decide : 0 + 0 ≤ _), (by decide : 0 + 0 ≤ _)⟩)
    dsimp only [Pt.U, Pt.locs, Pt.cells, Pt.slots] at X9 l9 y9 z9 st9 hQ9
    subst l9 y9 z9
    obtain ⟨rfl, N9q, e9⟩ := hQ9
    have N9 := Fr.app N0 N9q
    refine own_go (A := T9.setTop (mkF m 22 #[.val (.ref a), .val (.int (0 : Int32)), .val (.int (0 : Int32))] [(.int (own_bc (f 0))), (.int (0 : Int32))])) (fun _ kz => st9 _ kz) ?_
    refine own_go (A := T9.setTop (mkF m 6 #[.val (.ref a), .val (.int ((0 : Int32) + (own_bc (f 0)))), .val (.int (1 : Int32))] [(.ref a), (.int (1 : Int32))])) (fun _ kz => ?_) ?_
    · show Steps p.tables e below (T9.setTop (mkF m 22 #[.val (.ref a), .val (.int (0 : Int32)), .val (.int (0 : Int32))] [(.int (own_bc (f 0))), (.int (0 : Int32))])) _
      refine XS.iadd X9.here hx rfl (hb hby d13_22) rfl ?_
      show Steps p.tables e below (T9.setTop (mkF m 23 #[.val (.ref a), .val (.int (0 : Int32)), .val (.int (0 : Int32))] [(.int ((0 : Int32) + (own_bc (f 0))))])) _
      refine XS.istoreN X9.here hx rfl (hb hby d13_23) rfl (l' := #[.val (.ref a), .val (.int ((0 : Int32) + (own_bc (f 0)))), .val (.int (0 : Int32))]) rfl ?_
      show Steps p.tables e below (T9.setTop (mkF m 24 #[.val (.ref a), .val (.int ((0 : Int32) + (own_bc (f 0)))), .val (.int (0 : Int32))] [])) _
      refine XS.iinc X9.here hx rfl (hb hby d13_24) rfl (l' := #[.val (.ref a), .val (.int ((0 : Int32) + (own_bc (f 0)))), .val (.int (1 : Int32))]) rfl ?_
      show Steps p.tables e below (T9.setTop (mkF m 27 #[.val (.ref a), .val (.int ((0 : Int32) + (own_bc (f 0)))), .val (.int (1 : Int32))] [])) _
      refine XS.goto X9.here hx rfl (pc0 := 27) (pc' := 4) rfl (hb hby d13_27) (by decide) (by decide) ?_
      show Steps p.tables e below (T9.setTop (mkF m 4 #[.val (.ref a), .val (.int ((0 : Int32) + (own_bc (f 0)))), .val (.int (1 : Int32))] [])) _
      refine XS.iloadN X9.here hx rfl (hb hby d13_4) rfl ?_
      show Steps p.tables e below (T9.setTop (mkF m 5 #[.val (.ref a), .val (.int ((0 : Int32) + (own_bc (f 0)))), .val (.int (1 : Int32))] [(.int (1 : Int32))])) _
      refine XS.aloadN X9.here hx rfl (hb hby d13_5) rfl rfl ?_
      exact kz
    obtain ⟨T10, X10, e10, st10⟩ := getF X9 hx hZ hown (host := "") (Or.inl (hw _ (List.mem_of_getElem? (i := 16) rfl))) Via.refl e9 Fu (g := (mkF m 6 #[.val (.ref a), .val (.int ((0 : Int32) + (own_bc (f 0)))), .val (.int (1 : Int32))] [(.ref a), (.int (1 : Int32))])) rfl rfl (hb hby d13_6)
    refine own_go (A := T10.setTop (mkF m 9 #[.val (.ref a), .val (.int ((0 : Int32) + (own_bc (f 0)))), .val (.int (1 : Int32))] [(.int (2 : Int32)), (.int (1 : Int32))])) (fun _ kz => st10 _ kz) ?_
    refine own_go (A := T10.setTop (mkF m 14 #[.val (.ref a), .val (.int ((0 : Int32) + (own_bc (f 0)))), .val (.int (1 : Int32))] [(.ref a), (.int ((0 : Int32) + (own_bc (f 0))))])) (fun _ kz => ?_) ?_
    · show Steps p.tables e below (T10.setTop (mkF m 9 #[.val (.ref a), .val (.int ((0 : Int32) + (own_bc (f 0)))), .val (.int (1 : Int32))] [(.int (2 : Int32)), (.int (1 : Int32))])) _
      refine XS.icmpNo X10.here hx rfl (hb hby d13_9) rfl (tlt (by decide : ((1 : Int32) < (2 : Int32)))).2.1 ?_
      show Steps p.tables e below (T10.setTop (mkF m 12 #[.val (.ref a), .val (.int ((0 : Int32) + (own_bc (f 0)))), .val (.int (1 : Int32))] [])) _
      refine XS.iloadN X10.here hx rfl (hb hby d13_12) rfl ?_
      show Steps p.tables e below (T10.setTop (mkF m 13 #[.val (.ref a), .val (.int ((0 : Int32) + (own_bc (f 0)))), .val (.int (1 : Int32))] [(.int ((0 : Int32) + (own_bc (f 0))))])) _
      refine XS.aloadN X10.here hx rfl (hb hby d13_13) rfl rfl ?_
      exact kz
    obtain ⟨T11, X11, e11, st11⟩ := getF X10 hx hZ hown (host := "") (Or.inl (hw _ (List.mem_of_getElem? (i := 29) rfl))) Via.refl e10 Fw (g := (mkF m 14 #[.val (.ref a), .val (.int ((0 : Int32) + (own_bc (f 0)))), .val (.int (1 : Int32))] [(.ref a), (.int ((0 : Int32) + (own_bc (f 0))))])) rfl rfl (hb hby d13_14)
    refine own_go (A := T11.setTop (mkF m 17 #[.val (.ref a), .val (.int ((0 : Int32) + (own_bc (f 0)))), .val (.int (1 : Int32))] [(.ref w), (.int ((0 : Int32) + (own_bc (f 0))))])) (fun _ kz => st11 _ kz) ?_
    refine own_go (A := T11.setTop (mkF m 18 #[.val (.ref a), .val (.int ((0 : Int32) + (own_bc (f 0)))), .val (.int (1 : Int32))] [(.int (1 : Int32)), (.ref w), (.int ((0 : Int32) + (own_bc (f 0))))])) (fun _ kz => ?_) ?_
    · show Steps p.tables e below (T11.setTop (mkF m 17 #[.val (.ref a), .val (.int ((0 : Int32) + (own_bc (f 0)))), .val (.int (1 : Int32))] [(.ref w), (.int ((0 : Int32) + (own_bc (f 0))))])) _
      refine XS.iloadN X11.here hx rfl (hb hby d13_17) rfl ?_
      exact kz
    obtain ⟨cl12, Ar12, -, S12, M12, H12, -⟩ := id Av
    have hin12 : ¬ ((1 : Int32) < 0 ∨ cl12.slots.size ≤ ((1 : Int32)).toNatClampNeg) := inb_of S12 ⟨by decide, by decide⟩
    have hat12 : cl12.slots[((1 : Int32)).toNatClampNeg]? = some (.long (f 1)) := H12.at hin12 rfl
    refine own_go (A := T11.setTop (mkF m 19 #[.val (.ref a), .val (.int ((0 : Int32) + (own_bc (f 0)))), .val (.int (1 : Int32))] [(.long (f 1)), (.int ((0 : Int32) + (own_bc (f 0))))])) (fun _ kz => ?_) ?_
    · refine X11.laload hx (j := (1 : Int32)) (v := (.long (f 1))) (by rw [e11]; exact Ar12.1) (State.isArrayOf_alike hZ.alike Ar12.2.1) Ar12.2.2 hin12 hat12 (g := (mkF m 18 #[.val (.ref a), .val (.int ((0 : Int32) + (own_bc (f 0)))), .val (.int (1 : Int32))] [(.int (1 : Int32)), (.ref w), (.int ((0 : Int32) + (own_bc (f 0))))])) rfl rfl (hb hby d13_18) _ ?_
      exact kz
    obtain ⟨_, _, ⟨T13, L13, k13, n13⟩, -, X13, ⟨Lc13, hQ13, l13, y13, z13⟩, st13⟩ := Jvm.LawKit.callS X11 hx (y := (⟨"java/lang/Long", "bitCount", "(J)I"⟩ : MethodName)) hown (mvT hZ (hw _ (List.mem_of_getElem? (i := 80) rfl))) (mvT hZ (hw _ (List.mem_of_getElem? (i := 81) rfl))) (mvT hZ (hw _ (List.mem_of_getElem? (i := 82) rfl))) (mvT hZ (hw _ (List.mem_of_getElem? (i := 83) rfl))) (by decide) (backOf (W := 1) (rmBC l Z a0 hw [] (f 1) h0 n0 Z0) hZ (hw _ (List.mem_of_getElem? (i := 83) rfl)) (hw _ (List.mem_of_getElem? (i := 82) rfl)) (by decide) (by decide)) (g := (mkF m 19 #[.val (.ref a), .val (.int ((0 : Int32) + (own_bc (f 0)))), .val (.int (1 : Int32))] [(.long (f 1)), (.int ((0 : Int32) + (own_bc (f 0))))])) rfl (by rw [hml]; rfl) (argsL := [(.long (f 1))]) (rest := [(.int ((0 : Int32) + (own_bc (f 0))))]) (lenOf own_pd5 rfl) rfl (by show 2 * 0 + _ ≤ _; exact Nat.le_of_eq rfl) (hb hby d13_19) (fun _ _ => ⟨rfl, e11, (by decide : 0 + 0 ≤ _), (by decide : 0 + 0 ≤ _)⟩)
    dsimp only [Pt.U, Pt.locs, Pt.cells, Pt.slots] at X13 l13 y13 z13 st13 hQ13
    subst l13 y13 z13
    obtain ⟨rfl, N13q, e13⟩ := hQ13
    have N13 := Fr.app N9 N13q
    refine own_go (A := T13.setTop (mkF m 22 #[.val (.ref a), .val (.int ((0 : Int32) + (own_bc (f 0)))), .val (.int (1 : Int32))] [(.int (own_bc (f 1))), (.int ((0 : Int32) + (own_bc (f 0))))])) (fun _ kz => st13 _ kz) ?_
    refine own_go (A := T13.setTop (mkF m 6 #[.val (.ref a), .val (.int (((0 : Int32) + (own_bc (f 0))) + (own_bc (f 1)))), .val (.int (2 : Int32))] [(.ref a), (.int (2 : Int32))])) (fun _ kz => ?_) ?_
    · show Steps p.tables e below (T13.setTop (mkF m 22 #[.val (.ref a), .val (.int ((0 : Int32) + (own_bc (f 0)))), .val (.int (1 : Int32))] [(.int (own_bc (f 1))), (.int ((0 : Int32) + (own_bc (f 0))))])) _
      refine XS.iadd X13.here hx rfl (hb hby d13_22) rfl ?_
      show Steps p.tables e below (T13.setTop (mkF m 23 #[.val (.ref a), .val (.int ((0 : Int32) + (own_bc (f 0)))), .val (.int (1 : Int32))] [(.int (((0 : Int32) + (own_bc (f 0))) + (own_bc (f 1))))])) _
      refine XS.istoreN X13.here hx rfl (hb hby d13_23) rfl (l' := #[.val (.ref a), .val (.int (((0 : Int32) + (own_bc (f 0))) + (own_bc (f 1)))), .val (.int (1 : Int32))]) rfl ?_
      show Steps p.tables e below (T13.setTop (mkF m 24 #[.val (.ref a), .val (.int (((0 : Int32) + (own_bc (f 0))) + (own_bc (f 1)))), .val (.int (1 : Int32))] [])) _
      refine XS.iinc X13.here hx rfl (hb hby d13_24) rfl (l' := #[.val (.ref a), .val (.int (((0 : Int32) + (own_bc (f 0))) + (own_bc (f 1)))), .val (.int (2 : Int32))]) rfl ?_
      show Steps p.tables e below (T13.setTop (mkF m 27 #[.val (.ref a), .val (.int (((0 : Int32) + (own_bc (f 0))) + (own_bc (f 1)))), .val (.int (2 : Int32))] [])) _
      refine XS.goto X13.here hx rfl (pc0 := 27) (pc' := 4) rfl (hb hby d13_27) (by decide) (by decide) ?_
      show Steps p.tables e below (T13.setTop (mkF m 4 #[.val (.ref a), .val (.int (((0 : Int32) + (own_bc (f 0))) + (own_bc (f 1)))), .val (.int (2 : Int32))] [])) _
      refine XS.iloadN X13.here hx rfl (hb hby d13_4) rfl ?_
      show Steps p.tables e below (T13.setTop (mkF m 5 #[.val (.ref a), .val (.int (((0 : Int32) + (own_bc (f 0))) + (own_bc (f 1)))), .val (.int (2 : Int32))] [(.int (2 : Int32))])) _
      refine XS.aloadN X13.here hx rfl (hb hby d13_5) rfl rfl ?_
      exact kz
    obtain ⟨T14, X14, e14, st14⟩ := getF X13 hx hZ hown (host := "") (Or.inl (hw _ (List.mem_of_getElem? (i := 16) rfl))) Via.refl e13 Fu (g := (mkF m 6 #[.val (.ref a), .val (.int (((0 : Int32) + (own_bc (f 0))) + (own_bc (f 1)))), .val (.int (2 : Int32))] [(.ref a), (.int (2 : Int32))])) rfl rfl (hb hby d13_6)
    refine own_go (A := T14.setTop (mkF m 9 #[.val (.ref a), .val (.int (((0 : Int32) + (own_bc (f 0))) + (own_bc (f 1)))), .val (.int (2 : Int32))] [(.int (2 : Int32)), (.int (2 : Int32))])) (fun _ kz => st14 _ kz) ?_
    refine own_go (A := T14.setTop (mkF m 31 #[.val (.ref a), .val (.int (((0 : Int32) + (own_bc (f 0))) + (own_bc (f 1)))), .val (.int (2 : Int32))] [(.int (((0 : Int32) + (own_bc (f 0))) + (own_bc (f 1))))])) (fun _ kz => ?_) ?_
    · show Steps p.tables e below (T14.setTop (mkF m 9 #[.val (.ref a), .val (.int (((0 : Int32) + (own_bc (f 0))) + (own_bc (f 1)))), .val (.int (2 : Int32))] [(.int (2 : Int32)), (.int (2 : Int32))])) _
      refine XS.icmpYes X14.here hx rfl (pc0 := 9) (pc' := 30) rfl (hb hby d13_9) rfl (flt (by decide : ¬ ((2 : Int32) < (2 : Int32)))).2.1 (by decide) (by decide) ?_
      show Steps p.tables e below (T14.setTop (mkF m 30 #[.val (.ref a), .val (.int (((0 : Int32) + (own_bc (f 0))) + (own_bc (f 1)))), .val (.int (2 : Int32))] [])) _
      refine XS.iloadN X14.here hx rfl (hb hby d13_30) rfl ?_
      exact kz
    obtain ⟨fs, hrr, hrun, hended, hW, hsame⟩ := X14.leave (v := some (.int (((0 : Int32) + (own_bc (f 0))) + (own_bc (f 1))))) (fun h => by rw [Bd.returns] at h; cases h)
    refine ⟨_, _, ?_, hrun, hended, _, _, rfl, ?_, ⟨_, rfl⟩, hW, hsame.mono (by decide) (by decide)⟩
    · show Steps p.tables e below (T14.setTop (mkF m 31 #[.val (.ref a), .val (.int (((0 : Int32) + (own_bc (f 0))) + (own_bc (f 1)))), .val (.int (2 : Int32))] [(.int (((0 : Int32) + (own_bc (f 0))) + (own_bc (f 1))))])) _
      exact retI X14 hx Bd.returns (hb hby d13_31) hrr
    · show QrmCard Z r h0 n0 _ T14.heap _
      rw [e14]
      exact ⟨congrArg (fun z => some (Value.int z)) hr, N13, rfl⟩
  · skip
    replace Av : Arv Z h0 w kc .long (3 : Int32) [(.long (f 0)), (.long (f 1)), (.long (f 2))] (.long (0 : Int64)) := Av
    refine own_go (A := s₁.setTop (mkF m 6 #[.val (.ref a), .val (.int (0 : Int32)), .val (.int (0 : Int32))] [(.ref a), (.int (0 : Int32))])) (fun _ kz => ?_) ?_
    · show Steps p.tables e below (s₁.setTop (mkF m 0 #[.val (.ref a), .unset, .unset] [])) _
      refine XS.iconst X0.here hx rfl (hb hby d13_0) ?_
      show Steps p.tables e below (s₁.setTop (mkF m 1 #[.val (.ref a), .unset, .unset] [(.int (0 : Int32))])) _
      refine XS.istoreN X0.here hx rfl (hb hby d13_1) rfl (l' := #[.val (.ref a), .val (.int (0 : Int32)), .unset]) rfl ?_
      show Steps p.tables e below (s₁.setTop (mkF m 2 #[.val (.ref a), .val (.int (0 : Int32)), .unset] [])) _
      refine XS.iconst X0.here hx rfl (hb hby d13_2) ?_
      show Steps p.tables e below (s₁.setTop (mkF m 3 #[.val (.ref a), .val (.int (0 : Int32)), .unset] [(.int (0 : Int32))])) _
      refine XS.istoreN X0.here hx rfl (hb hby d13_3) rfl (l' := #[.val (.ref a), .val (.int (0 : Int32)), .val (.int (0 : Int32))]) rfl ?_
      show Steps p.tables e below (s₁.setTop (mkF m 4 #[.val (.ref a), .val (.int (0 : Int32)), .val (.int (0 : Int32))] [])) _
      refine XS.iloadN X0.here hx rfl (hb hby d13_4) rfl ?_
      show Steps p.tables e below (s₁.setTop (mkF m 5 #[.val (.ref a), .val (.int (0 : Int32)), .val (.int (0 : Int32))] [(.int (0 : Int32))])) _
      refine XS.aloadN X0.here hx rfl (hb hby d13_5) rfl rfl ?_
      exact kz
    obtain ⟨T15, X15, e15, st15⟩ := getF X0 hx hZ hown (host := "") (Or.inl (hw _ (List.mem_of_getElem? (i := 16) rfl))) Via.refl e0 Fu (g := (mkF m 6 #[.val (.ref a), .val (.int (0 : Int32)), .val (.int (0 : Int32))] [(.ref a), (.int (0 : Int32))])) rfl rfl (hb hby d13_6)
    refine own_go (A := T15.setTop (mkF m 9 #[.val (.ref a), .val (.int (0 : Int32)), .val (.int (0 : Int32))] [(.int (3 : Int32)), (.int (0 : Int32))])) (fun _ kz => st15 _ kz) ?_
    refine own_go (A := T15.setTop (mkF m 14 #[.val (.ref a), .val (.int (0 : Int32)), .val (.int (0 : Int32))] [(.ref a), (.int (0 : Int32))])) (fun _ kz => ?_) ?_
    · show Steps p.tables e below (T15.setTop (mkF m 9 #[.val (.ref a), .val (.int (0 : Int32)), .val (.int (0 : Int32))] [(.int (3 : Int32)), (.int (0 : Int32))])) _
      refine XS.icmpNo X15.here hx rfl (hb hby d13_9) rfl (tlt (by decide : ((0 : Int32) < (3 : Int32)))).2.1 ?_
      show Steps p.tables e below (T15.setTop (mkF m 12 #[.val (.ref a), .val (.int (0 : Int32)), .val (.int (0 : Int32))] [])) _
      refine XS.iloadN X15.here hx rfl (hb hby d13_12) rfl ?_
      show Steps p.tables e below (T15.setTop (mkF m 13 #[.val (.ref a), .val (.int (0 : Int32)), .val (.int (0 : Int32))] [(.int (0 : Int32))])) _
      refine XS.aloadN X15.here hx rfl (hb hby d13_13) rfl rfl ?_
      exact kz
    obtain ⟨T16, X16, e16, st16⟩ := getF X15 hx hZ hown (host := "") (Or.inl (hw _ (List.mem_of_getElem? (i := 29) rfl))) Via.refl e15 Fw (g := (mkF m 14 #[.val (.ref a), .val (.int (0 : Int32)), .val (.int (0 : Int32))] [(.ref a), (.int (0 : Int32))])) rfl rfl (hb hby d13_14)
    refine own_go (A := T16.setTop (mkF m 17 #[.val (.ref a), .val (.int (0 : Int32)), .val (.int (0 : Int32))] [(.ref w), (.int (0 : Int32))])) (fun _ kz => st16 _ kz) ?_
    refine own_go (A := T16.setTop (mkF m 18 #[.val (.ref a), .val (.int (0 : Int32)), .val (.int (0 : Int32))] [(.int (0 : Int32)), (.ref w), (.int (0 : Int32))])) (fun _ kz => ?_) ?_
    · show Steps p.tables e below (T16.setTop (mkF m 17 #[.val (.ref a), .val (.int (0 : Int32)), .val (.int (0 : Int32))] [(.ref w), (.int (0 : Int32))])) _
      refine XS.iloadN X16.here hx rfl (hb hby d13_17) rfl ?_
      exact kz
    obtain ⟨cl17, Ar17, -, S17, M17, H17, -⟩ := id Av
    have hin17 : ¬ ((0 : Int32) < 0 ∨ cl17.slots.size ≤ ((0 : Int32)).toNatClampNeg) := inb_of S17 ⟨by decide, by decide⟩
    have hat17 : cl17.slots[((0 : Int32)).toNatClampNeg]? = some (.long (f 0)) := H17.at hin17 rfl
    refine own_go (A := T16.setTop (mkF m 19 #[.val (.ref a), .val (.int (0 : Int32)), .val (.int (0 : Int32))] [(.long (f 0)), (.int (0 : Int32))])) (fun _ kz => ?_) ?_
    · refine X16.laload hx (j := (0 : Int32)) (v := (.long (f 0))) (by rw [e16]; exact Ar17.1) (State.isArrayOf_alike hZ.alike Ar17.2.1) Ar17.2.2 hin17 hat17 (g := (mkF m 18 #[.val (.ref a), .val (.int (0 : Int32)), .val (.int (0 : Int32))] [(.int (0 : Int32)), (.ref w), (.int (0 : Int32))])) rfl rfl (hb hby d13_18) _ ?_
      exact kz
    obtain ⟨_, _, ⟨T18, L18, k18, n18⟩, -, X18, ⟨Lc18, hQ18, l18, y18, z18⟩, st18⟩ := Jvm.LawKit.callS X16 hx (y := (⟨"java/lang/Long", "bitCount", "(J)I"⟩ : MethodName)) hown (mvT hZ (hw _ (List.mem_of_getElem? (i := 80) rfl))) (mvT hZ (hw _ (List.mem_of_getElem? (i := 81) rfl))) (mvT hZ (hw _ (List.mem_of_getElem? (i := 82) rfl))) (mvT hZ (hw _ (List.mem_of_getElem? (i := 83) rfl))) (by decide) (backOf (W := 1) (rmBC l Z a0 hw [] (f 0) h0 n0 Z0) hZ (hw _ (List.mem_of_getElem? (i := 83) rfl)) (hw _ (List.mem_of_getElem? (i := 82) rfl)) (by decide) (by decide)) (g := (mkF m 19 #[.val (.ref a), .val (.int (0 : Int32)), .val (.int (0 : Int32))] [(.long (f 0)), (.int (0 : Int32))])) rfl (by rw [hml]; rfl) (argsL := [(.long (f 0))]) (rest := [(.int (0 : Int32))]) (lenOf own_pd5 rfl) rfl (by show 2 * 0 + _ ≤ _; exact Nat.le_of_eq rfl) (hb hby d13_19) (fun _ _ => ⟨rfl, e16, (by decide : 0 + 0 ≤ _), (by decide : 0 + 0 ≤ _)⟩)
    dsimp only [Pt.U, Pt.locs, Pt.cells, Pt.slots] at X18 l18 y18 z18 st18 hQ18
    subst l18 y18 z18
    obtain ⟨rfl, N18q, e18⟩ := hQ18
    have N18 := Fr.app N0 N18q
    refine own_go (A := T18.setTop (mkF m 22 #[.val (.ref a), .val (.int (0 : Int32)), .val (.int (0 : Int32))] [(.int (own_bc (f 0))), (.int (0 : Int32))])) (fun _ kz => st18 _ kz) ?_
    refine own_go (A := T18.setTop (mkF m 6 #[.val (.ref a), .val (.int ((0 : Int32) + (own_bc (f 0)))), .val (.int (1 : Int32))] [(.ref a), (.int (1 : Int32))])) (fun _ kz => ?_) ?_
    · show Steps p.tables e below (T18.setTop (mkF m 22 #[.val (.ref a), .val (.int (0 : Int32)), .val (.int (0 : Int32))] [(.int (own_bc (f 0))), (.int (0 : Int32))])) _
      refine XS.iadd X18.here hx rfl (hb hby d13_22) rfl ?_
      show Steps p.tables e below (T18.setTop (mkF m 23 #[.val (.ref a), .val (.int (0 : Int32)), .val (.int (0 : Int32))] [(.int ((0 : Int32) + (own_bc (f 0))))])) _
      refine XS.istoreN X18.here hx rfl (hb hby d13_23) rfl (l' := #[.val (.ref a), .val (.int ((0 : Int32) + (own_bc (f 0)))), .val (.int (0 : Int32))]) rfl ?_
      show Steps p.tables e below (T18.setTop (mkF m 24 #[.val (.ref a), .val (.int ((0 : Int32) + (own_bc (f 0)))), .val (.int (0 : Int32))] [])) _
      refine XS.iinc X18.here hx rfl (hb hby d13_24) rfl (l' := #[.val (.ref a), .val (.int ((0 : Int32) + (own_bc (f 0)))), .val (.int (1 : Int32))]) rfl ?_
      show Steps p.tables e below (T18.setTop (mkF m 27 #[.val (.ref a), .val (.int ((0 : Int32) + (own_bc (f 0)))), .val (.int (1 : Int32))] [])) _
      refine XS.goto X18.here hx rfl (pc0 := 27) (pc' := 4) rfl (hb hby d13_27) (by decide) (by decide) ?_
      show Steps p.tables e below (T18.setTop (mkF m 4 #[.val (.ref a), .val (.int ((0 : Int32) + (own_bc (f 0)))), .val (.int (1 : Int32))] [])) _
      refine XS.iloadN X18.here hx rfl (hb hby d13_4) rfl ?_
      show Steps p.tables e below (T18.setTop (mkF m 5 #[.val (.ref a), .val (.int ((0 : Int32) + (own_bc (f 0)))), .val (.int (1 : Int32))] [(.int (1 : Int32))])) _
      refine XS.aloadN X18.here hx rfl (hb hby d13_5) rfl rfl ?_
      exact kz
    obtain ⟨T19, X19, e19, st19⟩ := getF X18 hx hZ hown (host := "") (Or.inl (hw _ (List.mem_of_getElem? (i := 16) rfl))) Via.refl e18 Fu (g := (mkF m 6 #[.val (.ref a), .val (.int ((0 : Int32) + (own_bc (f 0)))), .val (.int (1 : Int32))] [(.ref a), (.int (1 : Int32))])) rfl rfl (hb hby d13_6)
    refine own_go (A := T19.setTop (mkF m 9 #[.val (.ref a), .val (.int ((0 : Int32) + (own_bc (f 0)))), .val (.int (1 : Int32))] [(.int (3 : Int32)), (.int (1 : Int32))])) (fun _ kz => st19 _ kz) ?_
    refine own_go (A := T19.setTop (mkF m 14 #[.val (.ref a), .val (.int ((0 : Int32) + (own_bc (f 0)))), .val (.int (1 : Int32))] [(.ref a), (.int ((0 : Int32) + (own_bc (f 0))))])) (fun _ kz => ?_) ?_
    · show Steps p.tables e below (T19.setTop (mkF m 9 #[.val (.ref a), .val (.int ((0 : Int32) + (own_bc (f 0)))), .val (.int (1 : Int32))] [(.int (3 : Int32)), (.int (1 : Int32))])) _
      refine XS.icmpNo X19.here hx rfl (hb hby d13_9) rfl (tlt (by decide : ((1 : Int32) < (3 : Int32)))).2.1 ?_
      show Steps p.tables e below (T19.setTop (mkF m 12 #[.val (.ref a), .val (.int ((0 : Int32) + (own_bc (f 0)))), .val (.int (1 : Int32))] [])) _
      refine XS.iloadN X19.here hx rfl (hb hby d13_12) rfl ?_
      show Steps p.tables e below (T19.setTop (mkF m 13 #[.val (.ref a), .val (.int ((0 : Int32) + (own_bc (f 0)))), .val (.int (1 : Int32))] [(.int ((0 : Int32) + (own_bc (f 0))))])) _
      refine XS.aloadN X19.here hx rfl (hb hby d13_13) rfl rfl ?_
      exact kz
    obtain ⟨T20, X20, e20, st20⟩ := getF X19 hx hZ hown (host := "") (Or.inl (hw _ (List.mem_of_getElem? (i := 29) rfl))) Via.refl e19 Fw (g := (mkF m 14 #[.val (.ref a), .val (.int ((0 : Int32) + (own_bc (f 0)))), .val (.int (1 : Int32))] [(.ref a), (.int ((0 : Int32) + (own_bc (f 0))))])) rfl rfl (hb hby d13_14)
    refine own_go (A := T20.setTop (mkF m 17 #[.val (.ref a), .val (.int ((0 : Int32) + (own_bc (f 0)))), .val (.int (1 : Int32))] [(.ref w), (.int ((0 : Int32) + (own_bc (f 0))))])) (fun _ kz => st20 _ kz) ?_
    refine own_go (A := T20.setTop (mkF m 18 #[.val (.ref a), .val (.int ((0 : Int32) + (own_bc (f 0)))), .val (.int (1 : Int32))] [(.int (1 : Int32)), (.ref w), (.int ((0 : Int32) + (own_bc (f 0))))])) (fun _ kz => ?_) ?_
    · show Steps p.tables e below (T20.setTop (mkF m 17 #[.val (.ref a), .val (.int ((0 : Int32) + (own_bc (f 0)))), .val (.int (1 : Int32))] [(.ref w), (.int ((0 : Int32) + (own_bc (f 0))))])) _
      refine XS.iloadN X20.here hx rfl (hb hby d13_17) rfl ?_
      exact kz
    obtain ⟨cl21, Ar21, -, S21, M21, H21, -⟩ := id Av
    have hin21 : ¬ ((1 : Int32) < 0 ∨ cl21.slots.size ≤ ((1 : Int32)).toNatClampNeg) := inb_of S21 ⟨by decide, by decide⟩
    have hat21 : cl21.slots[((1 : Int32)).toNatClampNeg]? = some (.long (f 1)) := H21.at hin21 rfl
    refine own_go (A := T20.setTop (mkF m 19 #[.val (.ref a), .val (.int ((0 : Int32) + (own_bc (f 0)))), .val (.int (1 : Int32))] [(.long (f 1)), (.int ((0 : Int32) + (own_bc (f 0))))])) (fun _ kz => ?_) ?_
    · refine X20.laload hx (j := (1 : Int32)) (v := (.long (f 1))) (by rw [e20]; exact Ar21.1) (State.isArrayOf_alike hZ.alike Ar21.2.1) Ar21.2.2 hin21 hat21 (g := (mkF m 18 #[.val (.ref a), .val (.int ((0 : Int32) + (own_bc (f 0)))), .val (.int (1 : Int32))] [(.int (1 : Int32)), (.ref w), (.int ((0 : Int32) + (own_bc (f 0))))])) rfl rfl (hb hby d13_18) _ ?_
      exact kz
    obtain ⟨_, _, ⟨T22, L22, k22, n22⟩, -, X22, ⟨Lc22, hQ22, l22, y22, z22⟩, st22⟩ := Jvm.LawKit.callS X20 hx (y := (⟨"java/lang/Long", "bitCount", "(J)I"⟩ : MethodName)) hown (mvT hZ (hw _ (List.mem_of_getElem? (i := 80) rfl))) (mvT hZ (hw _ (List.mem_of_getElem? (i := 81) rfl))) (mvT hZ (hw _ (List.mem_of_getElem? (i := 82) rfl))) (mvT hZ (hw _ (List.mem_of_getElem? (i := 83) rfl))) (by decide) (backOf (W := 1) (rmBC l Z a0 hw [] (f 1) h0 n0 Z0) hZ (hw _ (List.mem_of_getElem? (i := 83) rfl)) (hw _ (List.mem_of_getElem? (i := 82) rfl)) (by decide) (by decide)) (g := (mkF m 19 #[.val (.ref a), .val (.int ((0 : Int32) + (own_bc (f 0)))), .val (.int (1 : Int32))] [(.long (f 1)), (.int ((0 : Int32) + (own_bc (f 0))))])) rfl (by rw [hml]; rfl) (argsL := [(.long (f 1))]) (rest := [(.int ((0 : Int32) + (own_bc (f 0))))]) (lenOf own_pd5 rfl) rfl (by show 2 * 0 + _ ≤ _; exact Nat.le_of_eq rfl) (hb hby d13_19) (fun _ _ => ⟨rfl, e20, (by decide : 0 + 0 ≤ _), (by decide : 0 + 0 ≤ _)⟩)
    dsimp only [Pt.U, Pt.locs, Pt.cells, Pt.slots] at X22 l22 y22 z22 st22 hQ22
    subst l22 y22 z22
    obtain ⟨rfl, N22q, e22⟩ := hQ22
    have N22 := Fr.app N18 N22q
    refine own_go (A := T22.setTop (mkF m 22 #[.val (.ref a), .val (.int ((0 : Int32) + (own_bc (f 0)))), .val (.int (1 : Int32))] [(.int (own_bc (f 1))), (.int ((0 : Int32) + (own_bc (f 0))))])) (fun _ kz => st22 _ kz) ?_
    refine own_go (A := T22.setTop (mkF m 6 #[.val (.ref a), .val (.int (((0 : Int32) + (own_bc (f 0))) + (own_bc (f 1)))), .val (.int (2 : Int32))] [(.ref a), (.int (2 : Int32))])) (fun _ kz => ?_) ?_
    · show Steps p.tables e below (T22.setTop (mkF m 22 #[.val (.ref a), .val (.int ((0 : Int32) + (own_bc (f 0)))), .val (.int (1 : Int32))] [(.int (own_bc (f 1))), (.int ((0 : Int32) + (own_bc (f 0))))])) _
      refine XS.iadd X22.here hx rfl (hb hby d13_22) rfl ?_
      show Steps p.tables e below (T22.setTop (mkF m 23 #[.val (.ref a), .val (.int ((0 : Int32) + (own_bc (f 0)))), .val (.int (1 : Int32))] [(.int (((0 : Int32) + (own_bc (f 0))) + (own_bc (f 1))))])) _
      refine XS.istoreN X22.here hx rfl (hb hby d13_23) rfl (l' := #[.val (.ref a), .val (.int (((0 : Int32) + (own_bc (f 0))) + (own_bc (f 1)))), .val (.int (1 : Int32))]) rfl ?_
      show Steps p.tables e below (T22.setTop (mkF m 24 #[.val (.ref a), .val (.int (((0 : Int32) + (own_bc (f 0))) + (own_bc (f 1)))), .val (.int (1 : Int32))] [])) _
      refine XS.iinc X22.here hx rfl (hb hby d13_24) rfl (l' := #[.val (.ref a), .val (.int (((0 : Int32) + (own_bc (f 0))) + (own_bc (f 1)))), .val (.int (2 : Int32))]) rfl ?_
      show Steps p.tables e below (T22.setTop (mkF m 27 #[.val (.ref a), .val (.int (((0 : Int32) + (own_bc (f 0))) + (own_bc (f 1)))), .val (.int (2 : Int32))] [])) _
      refine XS.goto X22.here hx rfl (pc0 := 27) (pc' := 4) rfl (hb hby d13_27) (by decide) (by decide) ?_
      show Steps p.tables e below (T22.setTop (mkF m 4 #[.val (.ref a), .val (.int (((0 : Int32) + (own_bc (f 0))) + (own_bc (f 1)))), .val (.int (2 : Int32))] [])) _
      refine XS.iloadN X22.here hx rfl (hb hby d13_4) rfl ?_
      show Steps p.tables e below (T22.setTop (mkF m 5 #[.val (.ref a), .val (.int (((0 : Int32) + (own_bc (f 0))) + (own_bc (f 1)))), .val (.int (2 : Int32))] [(.int (2 : Int32))])) _
      refine XS.aloadN X22.here hx rfl (hb hby d13_5) rfl rfl ?_
      exact kz
    obtain ⟨T23, X23, e23, st23⟩ := getF X22 hx hZ hown (host := "") (Or.inl (hw _ (List.mem_of_getElem? (i := 16) rfl))) Via.refl e22 Fu (g := (mkF m 6 #[.val (.ref a), .val (.int (((0 : Int32) + (own_bc (f 0))) + (own_bc (f 1)))), .val (.int (2 : Int32))] [(.ref a), (.int (2 : Int32))])) rfl rfl (hb hby d13_6)
    refine own_go (A := T23.setTop (mkF m 9 #[.val (.ref a), .val (.int (((0 : Int32) + (own_bc (f 0))) + (own_bc (f 1)))), .val (.int (2 : Int32))] [(.int (3 : Int32)), (.int (2 : Int32))])) (fun _ kz => st23 _ kz) ?_
    refine own_go (A := T23.setTop (mkF m 14 #[.val (.ref a), .val (.int (((0 : Int32) + (own_bc (f 0))) + (own_bc (f 1)))), .val (.int (2 : Int32))] [(.ref a), (.int (((0 : Int32) + (own_bc (f 0))) + (own_bc (f 1))))])) (fun _ kz => ?_) ?_
    · show Steps p.tables e below (T23.setTop (mkF m 9 #[.val (.ref a), .val (.int (((0 : Int32) + (own_bc (f 0))) + (own_bc (f 1)))), .val (.int (2 : Int32))] [(.int (3 : Int32)), (.int (2 : Int32))])) _
      refine XS.icmpNo X23.here hx rfl (hb hby d13_9) rfl (tlt (by decide : ((2 : Int32) < (3 : Int32)))).2.1 ?_
      show Steps p.tables e below (T23.setTop (mkF m 12 #[.val (.ref a), .val (.int (((0 : Int32) + (own_bc (f 0))) + (own_bc (f 1)))), .val (.int (2 : Int32))] [])) _
      refine XS.iloadN X23.here hx rfl (hb hby d13_12) rfl ?_
      show Steps p.tables e below (T23.setTop (mkF m 13 #[.val (.ref a), .val (.int (((0 : Int32) + (own_bc (f 0))) + (own_bc (f 1)))), .val (.int (2 : Int32))] [(.int (((0 : Int32) + (own_bc (f 0))) + (own_bc (f 1))))])) _
      refine XS.aloadN X23.here hx rfl (hb hby d13_13) rfl rfl ?_
      exact kz
    obtain ⟨T24, X24, e24, st24⟩ := getF X23 hx hZ hown (host := "") (Or.inl (hw _ (List.mem_of_getElem? (i := 29) rfl))) Via.refl e23 Fw (g := (mkF m 14 #[.val (.ref a), .val (.int (((0 : Int32) + (own_bc (f 0))) + (own_bc (f 1)))), .val (.int (2 : Int32))] [(.ref a), (.int (((0 : Int32) + (own_bc (f 0))) + (own_bc (f 1))))])) rfl rfl (hb hby d13_14)
    refine own_go (A := T24.setTop (mkF m 17 #[.val (.ref a), .val (.int (((0 : Int32) + (own_bc (f 0))) + (own_bc (f 1)))), .val (.int (2 : Int32))] [(.ref w), (.int (((0 : Int32) + (own_bc (f 0))) + (own_bc (f 1))))])) (fun _ kz => st24 _ kz) ?_
    refine own_go (A := T24.setTop (mkF m 18 #[.val (.ref a), .val (.int (((0 : Int32) + (own_bc (f 0))) + (own_bc (f 1)))), .val (.int (2 : Int32))] [(.int (2 : Int32)), (.ref w), (.int (((0 : Int32) + (own_bc (f 0))) + (own_bc (f 1))))])) (fun _ kz => ?_) ?_
    · show Steps p.tables e below (T24.setTop (mkF m 17 #[.val (.ref a), .val (.int (((0 : Int32) + (own_bc (f 0))) + (own_bc (f 1)))), .val (.int (2 : Int32))] [(.ref w), (.int (((0 : Int32) + (own_bc (f 0))) + (own_bc (f 1))))])) _
      refine XS.iloadN X24.here hx rfl (hb hby d13_17) rfl ?_
      exact kz
    obtain ⟨cl25, Ar25, -, S25, M25, H25, -⟩ := id Av
    have hin25 : ¬ ((2 : Int32) < 0 ∨ cl25.slots.size ≤ ((2 : Int32)).toNatClampNeg) := inb_of S25 ⟨by decide, by decide⟩
    have hat25 : cl25.slots[((2 : Int32)).toNatClampNeg]? = some (.long (f 2)) := H25.at hin25 rfl
    refine own_go (A := T24.setTop (mkF m 19 #[.val (.ref a), .val (.int (((0 : Int32) + (own_bc (f 0))) + (own_bc (f 1)))), .val (.int (2 : Int32))] [(.long (f 2)), (.int (((0 : Int32) + (own_bc (f 0))) + (own_bc (f 1))))])) (fun _ kz => ?_) ?_
    · refine X24.laload hx (j := (2 : Int32)) (v := (.long (f 2))) (by rw [e24]; exact Ar25.1) (State.isArrayOf_alike hZ.alike Ar25.2.1) Ar25.2.2 hin25 hat25 (g := (mkF m 18 #[.val (.ref a), .val (.int (((0 : Int32) + (own_bc (f 0))) + (own_bc (f 1)))), .val (.int (2 : Int32))] [(.int (2 : Int32)), (.ref w), (.int (((0 : Int32) + (own_bc (f 0))) + (own_bc (f 1))))])) rfl rfl (hb hby d13_18) _ ?_
      exact kz
    obtain ⟨_, _, ⟨T26, L26, k26, n26⟩, -, X26, ⟨Lc26, hQ26, l26, y26, z26⟩, st26⟩ := Jvm.LawKit.callS X24 hx (y := (⟨"java/lang/Long", "bitCount", "(J)I"⟩ : MethodName)) hown (mvT hZ (hw _ (List.mem_of_getElem? (i := 80) rfl))) (mvT hZ (hw _ (List.mem_of_getElem? (i := 81) rfl))) (mvT hZ (hw _ (List.mem_of_getElem? (i := 82) rfl))) (mvT hZ (hw _ (List.mem_of_getElem? (i := 83) rfl))) (by decide) (backOf (W := 1) (rmBC l Z a0 hw [] (f 2) h0 n0 Z0) hZ (hw _ (List.mem_of_getElem? (i := 83) rfl)) (hw _ (List.mem_of_getElem? (i := 82) rfl)) (by decide) (by decide)) (g := (mkF m 19 #[.val (.ref a), .val (.int (((0 : Int32) + (own_bc (f 0))) + (own_bc (f 1)))), .val (.int (2 : Int32))] [(.long (f 2)), (.int (((0 : Int32) + (own_bc (f 0))) + (own_bc (f 1))))])) rfl (by rw [hml]; rfl) (argsL := [(.long (f 2))]) (rest := [(.int (((0 : Int32) + (own_bc (f 0))) + (own_bc (f 1))))]) (lenOf own_pd5 rfl) rfl (by show 2 * 0 + _ ≤ _; exact Nat.le_of_eq rfl) (hb hby d13_19) (fun _ _ => ⟨rfl, e24, (by decide : 0 + 0 ≤ _), (by decide : 0 + 0 ≤ _)⟩)
    dsimp only [Pt.U, Pt.locs, Pt.cells, Pt.slots] at X26 l26 y26 z26 st26 hQ26
    subst l26 y26 z26
    obtain ⟨rfl, N26q, e26⟩ := hQ26
    have N26 := Fr.app N22 N26q
    refine own_go (A := T26.setTop (mkF m 22 #[.val (.ref a), .val (.int (((0 : Int32) + (own_bc (f 0))) + (own_bc (f 1)))), .val (.int (2 : Int32))] [(.int (own_bc (f 2))), (.int (((0 : Int32) + (own_bc (f 0))) + (own_bc (f 1))))])) (fun _ kz => st26 _ kz) ?_
    refine own_go (A := T26.setTop (mkF m 6 #[.val (.ref a), .val (.int ((((0 : Int32) + (own_bc (f 0))) + (own_bc (f 1))) + (own_bc (f 2)))), .val (.int (3 : Int32))] [(.ref a), (.int (3 : Int32))])) (fun _ kz => ?_) ?_
    · show Steps p.tables e below (T26.setTop (mkF m 22 #[.val (.ref a), .val (.int (((0 : Int32) + (own_bc (f 0))) + (own_bc (f 1)))), .val (.int (2 : Int32))] [(.int (own_bc (f 2))), (.int (((0 : Int32) + (own_bc (f 0))) + (own_bc (f 1))))])) _
      refine XS.iadd X26.here hx rfl (hb hby d13_22) rfl ?_
      show Steps p.tables e below (T26.setTop (mkF m 23 #[.val (.ref a), .val (.int (((0 : Int32) + (own_bc (f 0))) + (own_bc (f 1)))), .val (.int (2 : Int32))] [(.int ((((0 : Int32) + (own_bc (f 0))) + (own_bc (f 1))) + (own_bc (f 2))))])) _
      refine XS.istoreN X26.here hx rfl (hb hby d13_23) rfl (l' := #[.val (.ref a), .val (.int ((((0 : Int32) + (own_bc (f 0))) + (own_bc (f 1))) + (own_bc (f 2)))), .val (.int (2 : Int32))]) rfl ?_
      show Steps p.tables e below (T26.setTop (mkF m 24 #[.val (.ref a), .val (.int ((((0 : Int32) + (own_bc (f 0))) + (own_bc (f 1))) + (own_bc (f 2)))), .val (.int (2 : Int32))] [])) _
      refine XS.iinc X26.here hx rfl (hb hby d13_24) rfl (l' := #[.val (.ref a), .val (.int ((((0 : Int32) + (own_bc (f 0))) + (own_bc (f 1))) + (own_bc (f 2)))), .val (.int (3 : Int32))]) rfl ?_
      show Steps p.tables e below (T26.setTop (mkF m 27 #[.val (.ref a), .val (.int ((((0 : Int32) + (own_bc (f 0))) + (own_bc (f 1))) + (own_bc (f 2)))), .val (.int (3 : Int32))] [])) _
      refine XS.goto X26.here hx rfl (pc0 := 27) (pc' := 4) rfl (hb hby d13_27) (by decide) (by decide) ?_
      show Steps p.tables e below (T26.setTop (mkF m 4 #[.val (.ref a), .val (.int ((((0 : Int32) + (own_bc (f 0))) + (own_bc (f 1))) + (own_bc (f 2)))), .val (.int (3 : Int32))] [])) _
      refine XS.iloadN X26.here hx rfl (hb hby d13_4) rfl ?_
      show Steps p.tables e below (T26.setTop (mkF m 5 #[.val (.ref a), .val (.int ((((0 : Int32) + (own_bc (f 0))) + (own_bc (f 1))) + (own_bc (f 2)))), .val (.int (3 : Int32))] [(.int (3 : Int32))])) _
      refine XS.aloadN X26.here hx rfl (hb hby d13_5) rfl rfl ?_
      exact kz
    obtain ⟨T27, X27, e27, st27⟩ := getF X26 hx hZ hown (host := "") (Or.inl (hw _ (List.mem_of_getElem? (i := 16) rfl))) Via.refl e26 Fu (g := (mkF m 6 #[.val (.ref a), .val (.int ((((0 : Int32) + (own_bc (f 0))) + (own_bc (f 1))) + (own_bc (f 2)))), .val (.int (3 : Int32))] [(.ref a), (.int (3 : Int32))])) rfl rfl (hb hby d13_6)
    refine own_go (A := T27.setTop (mkF m 9 #[.val (.ref a), .val (.int ((((0 : Int32) + (own_bc (f 0))) + (own_bc (f 1))) + (own_bc (f 2)))), .val (.int (3 : Int32))] [(.int (3 : Int32)), (.int (3 : Int32))])) (fun _ kz => st27 _ kz) ?_
    refine own_go (A := T27.setTop (mkF m 31 #[.val (.ref a), .val (.int ((((0 : Int32) + (own_bc (f 0))) + (own_bc (f 1))) + (own_bc (f 2)))), .val (.int (3 : Int32))] [(.int ((((0 : Int32) + (own_bc (f 0))) + (own_bc (f 1))) + (own_bc (f 2))))])) (fun _ kz => ?_) ?_
    · show Steps p.tables e below (T27.setTop (mkF m 9 #[.val (.ref a), .val (.int ((((0 : Int32) + (own_bc (f 0))) + (own_bc (f 1))) + (own_bc (f 2)))), .val (.int (3 : Int32))] [(.int (3 : Int32)), (.int (3 : Int32))])) _
      refine XS.icmpYes X27.here hx rfl (pc0 := 9) (pc' := 30) rfl (hb hby d13_9) rfl (flt (by decide : ¬ ((3 : Int32) < (3 : Int32)))).2.1 (by decide) (by decide) ?_
      show Steps p.tables e below (T27.setTop (mkF m 30 #[.val (.ref a), .val (.int ((((0 : Int32) + (own_bc (f 0))) + (own_bc (f 1))) + (own_bc (f 2)))), .val (.int (3 : Int32))] [])) _
      refine XS.iloadN X27.here hx rfl (hb hby d13_30) rfl ?_
      exact kz
    obtain ⟨fs, hrr, hrun, hended, hW, hsame⟩ := X27.leave (v := some (.int ((((0 : Int32) + (own_bc (f 0))) + (own_bc (f 1))) + (own_bc (f 2))))) (fun h => by rw [Bd.returns] at h; cases h)
    refine ⟨_, _, ?_, hrun, hended, _, _, rfl, ?_, ⟨_, rfl⟩, hW, hsame.mono (by decide) (by decide)⟩
    · show Steps p.tables e below (T27.setTop (mkF m 31 #[.val (.ref a), .val (.int ((((0 : Int32) + (own_bc (f 0))) + (own_bc (f 1))) + (own_bc (f 2)))), .val (.int (3 : Int32))] [(.int ((((0 : Int32) + (own_bc (f 0))) + (own_bc (f 1))) + (own_bc (f 2))))])) _
      exact retI X27 hx Bd.returns (hb hby d13_31) hrr
    · show QrmCard Z r h0 n0 _ T27.heap _
      rw [e27]
      exact ⟨congrArg (fun z => some (Value.int z)) hr, N26, rfl⟩
  · skip
    replace Av : Arv Z h0 w kc .long (4 : Int32) [(.long (f 0)), (.long (f 1)), (.long (f 2)), (.long (f 3))] (.long (0 : Int64)) := Av
    refine own_go (A := s₁.setTop (mkF m 6 #[.val (.ref a), .val (.int (0 : Int32)), .val (.int (0 : Int32))] [(.ref a), (.int (0 : Int32))])) (fun _ kz => ?_) ?_
    · show Steps p.tables e below (s₁.setTop (mkF m 0 #[.val (.ref a), .unset, .unset] [])) _
      refine XS.iconst X0.here hx rfl (hb hby d13_0) ?_
      show Steps p.tables e below (s₁.setTop (mkF m 1 #[.val (.ref a), .unset, .unset] [(.int (0 : Int32))])) _
      refine XS.istoreN X0.here hx rfl (hb hby d13_1) rfl (l' := #[.val (.ref a), .val (.int (0 : Int32)), .unset]) rfl ?_
      show Steps p.tables e below (s₁.setTop (mkF m 2 #[.val (.ref a), .val (.int (0 : Int32)), .unset] [])) _
      refine XS.iconst X0.here hx rfl (hb hby d13_2) ?_
      show Steps p.tables e below (s₁.setTop (mkF m 3 #[.val (.ref a), .val (.int (0 : Int32)), .unset] [(.int (0 : Int32))])) _
      refine XS.istoreN X0.here hx rfl (hb hby d13_3) rfl (l' := #[.val (.ref a), .val (.int (0 : Int32)), .val (.int (0 : Int32))]) rfl ?_
      show Steps p.tables e below (s₁.setTop (mkF m 4 #[.val (.ref a), .val (.int (0 : Int32)), .val (.int (0 : Int32))] [])) _
      refine XS.iloadN X0.here hx rfl (hb hby d13_4) rfl ?_
      show Steps p.tables e below (s₁.setTop (mkF m 5 #[.val (.ref a), .val (.int (0 : Int32)), .val (.int (0 : Int32))] [(.int (0 : Int32))])) _
      refine XS.aloadN X0.here hx rfl (hb hby d13_5) rfl rfl ?_
      exact kz
    obtain ⟨T28, X28, e28, st28⟩ := getF X0 hx hZ hown (host := "") (Or.inl (hw _ (List.mem_of_getElem? (i := 16) rfl))) Via.refl e0 Fu (g := (mkF m 6 #[.val (.ref a), .val (.int (0 : Int32)), .val (.int (0 : Int32))] [(.ref a), (.int (0 : Int32))])) rfl rfl (hb hby d13_6)
    refine own_go (A := T28.setTop (mkF m 9 #[.val (.ref a), .val (.int (0 : Int32)), .val (.int (0 : Int32))] [(.int (4 : Int32)), (.int (0 : Int32))])) (fun _ kz => st28 _ kz) ?_
    refine own_go (A := T28.setTop (mkF m 14 #[.val (.ref a), .val (.int (0 : Int32)), .val (.int (0 : Int32))] [(.ref a), (.int (0 : Int32))])) (fun _ kz => ?_) ?_
    · show Steps p.tables e below (T28.setTop (mkF m 9 #[.val (.ref a), .val (.int (0 : Int32)), .val (.int (0 : Int32))] [(.int (4 : Int32)), (.int (0 : Int32))])) _
      refine XS.icmpNo X28.here hx rfl (hb hby d13_9) rfl (tlt (by decide : ((0 : Int32) < (4 : Int32)))).2.1 ?_
      show Steps p.tables e below (T28.setTop (mkF m 12 #[.val (.ref a), .val (.int (0 : Int32)), .val (.int (0 : Int32))] [])) _
      refine XS.iloadN X28.here hx rfl (hb hby d13_12) rfl ?_
      show Steps p.tables e below (T28.setTop (mkF m 13 #[.val (.ref a), .val (.int (0 : Int32)), .val (.int (0 : Int32))] [(.int (0 : Int32))])) _
      refine XS.aloadN X28.here hx rfl (hb hby d13_13) rfl rfl ?_
      exact kz
    obtain ⟨T29, X29, e29, st29⟩ := getF X28 hx hZ hown (host := "") (Or.inl (hw _ (List.mem_of_getElem? (i := 29) rfl))) Via.refl e28 Fw (g := (mkF m 14 #[.val (.ref a), .val (.int (0 : Int32)), .val (.int (0 : Int32))] [(.ref a), (.int (0 : Int32))])) rfl rfl (hb hby d13_14)
    refine own_go (A := T29.setTop (mkF m 17 #[.val (.ref a), .val (.int (0 : Int32)), .val (.int (0 : Int32))] [(.ref w), (.int (0 : Int32))])) (fun _ kz => st29 _ kz) ?_
    refine own_go (A := T29.setTop (mkF m 18 #[.val (.ref a), .val (.int (0 : Int32)), .val (.int (0 : Int32))] [(.int (0 : Int32)), (.ref w), (.int (0 : Int32))])) (fun _ kz => ?_) ?_
    · show Steps p.tables e below (T29.setTop (mkF m 17 #[.val (.ref a), .val (.int (0 : Int32)), .val (.int (0 : Int32))] [(.ref w), (.int (0 : Int32))])) _
      refine XS.iloadN X29.here hx rfl (hb hby d13_17) rfl ?_
      exact kz
    obtain ⟨cl30, Ar30, -, S30, M30, H30, -⟩ := id Av
    have hin30 : ¬ ((0 : Int32) < 0 ∨ cl30.slots.size ≤ ((0 : Int32)).toNatClampNeg) := inb_of S30 ⟨by decide, by decide⟩
    have hat30 : cl30.slots[((0 : Int32)).toNatClampNeg]? = some (.long (f 0)) := H30.at hin30 rfl
    refine own_go (A := T29.setTop (mkF m 19 #[.val (.ref a), .val (.int (0 : Int32)), .val (.int (0 : Int32))] [(.long (f 0)), (.int (0 : Int32))])) (fun _ kz => ?_) ?_
    · refine X29.laload hx (j := (0 : Int32)) (v := (.long (f 0))) (by rw [e29]; exact Ar30.1) (State.isArrayOf_alike hZ.alike Ar30.2.1) Ar30.2.2 hin30 hat30 (g := (mkF m 18 #[.val (.ref a), .val (.int (0 : Int32)), .val (.int (0 : Int32))] [(.int (0 : Int32)), (.ref w), (.int (0 : Int32))])) rfl rfl (hb hby d13_18) _ ?_
      exact kz
    obtain ⟨_, _, ⟨T31, L31, k31, n31⟩, -, X31, ⟨Lc31, hQ31, l31, y31, z31⟩, st31⟩ := Jvm.LawKit.callS X29 hx (y := (⟨"java/lang/Long", "bitCount", "(J)I"⟩ : MethodName)) hown (mvT hZ (hw _ (List.mem_of_getElem? (i := 80) rfl))) (mvT hZ (hw _ (List.mem_of_getElem? (i := 81) rfl))) (mvT hZ (hw _ (List.mem_of_getElem? (i := 82) rfl))) (mvT hZ (hw _ (List.mem_of_getElem? (i := 83) rfl))) (by decide) (backOf (W := 1) (rmBC l Z a0 hw [] (f 0) h0 n0 Z0) hZ (hw _ (List.mem_of_getElem? (i := 83) rfl)) (hw _ (List.mem_of_getElem? (i := 82) rfl)) (by decide) (by decide)) (g := (mkF m 19 #[.val (.ref a), .val (.int (0 : Int32)), .val (.int (0 : Int32))] [(.long (f 0)), (.int (0 : Int32))])) rfl (by rw [hml]; rfl) (argsL := [(.long (f 0))]) (rest := [(.int (0 : Int32))]) (lenOf own_pd5 rfl) rfl (by show 2 * 0 + _ ≤ _; exact Nat.le_of_eq rfl) (hb hby d13_19) (fun _ _ => ⟨rfl, e29, (by decide : 0 + 0 ≤ _), (by decide : 0 + 0 ≤ _)⟩)
    dsimp only [Pt.U, Pt.locs, Pt.cells, Pt.slots] at X31 l31 y31 z31 st31 hQ31
    subst l31 y31 z31
    obtain ⟨rfl, N31q, e31⟩ := hQ31
    have N31 := Fr.app N0 N31q
    refine own_go (A := T31.setTop (mkF m 22 #[.val (.ref a), .val (.int (0 : Int32)), .val (.int (0 : Int32))] [(.int (own_bc (f 0))), (.int (0 : Int32))])) (fun _ kz => st31 _ kz) ?_
    refine own_go (A := T31.setTop (mkF m 6 #[.val (.ref a), .val (.int ((0 : Int32) + (own_bc (f 0)))), .val (.int (1 : Int32))] [(.ref a), (.int (1 : Int32))])) (fun _ kz => ?_) ?_
    · show Steps p.tables e below (T31.setTop (mkF m 22 #[.val (.ref a), .val (.int (0 : Int32)), .val (.int (0 : Int32))] [(.int (own_bc (f 0))), (.int (0 : Int32))])) _
      refine XS.iadd X31.here hx rfl (hb hby d13_22) rfl ?_
      show Steps p.tables e below (T31.setTop (mkF m 23 #[.val (.ref a), .val (.int (0 : Int32)), .val (.int (0 : Int32))] [(.int ((0 : Int32) + (own_bc (f 0))))])) _
      refine XS.istoreN X31.here hx rfl (hb hby d13_23) rfl (l' := #[.val (.ref a), .val (.int ((0 : Int32) + (own_bc (f 0)))), .val (.int (0 : Int32))]) rfl ?_
      show Steps p.tables e below (T31.setTop (mkF m 24 #[.val (.ref a), .val (.int ((0 : Int32) + (own_bc (f 0)))), .val (.int (0 : Int32))] [])) _
      refine XS.iinc X31.here hx rfl (hb hby d13_24) rfl (l' := #[.val (.ref a), .val (.int ((0 : Int32) + (own_bc (f 0)))), .val (.int (1 : Int32))]) rfl ?_
      show Steps p.tables e below (T31.setTop (mkF m 27 #[.val (.ref a), .val (.int ((0 : Int32) + (own_bc (f 0)))), .val (.int (1 : Int32))] [])) _
      refine XS.goto X31.here hx rfl (pc0 := 27) (pc' := 4) rfl (hb hby d13_27) (by decide) (by decide) ?_
      show Steps p.tables e below (T31.setTop (mkF m 4 #[.val (.ref a), .val (.int ((0 : Int32) + (own_bc (f 0)))), .val (.int (1 : Int32))] [])) _
      refine XS.iloadN X31.here hx rfl (hb hby d13_4) rfl ?_
      show Steps p.tables e below (T31.setTop (mkF m 5 #[.val (.ref a), .val (.int ((0 : Int32) + (own_bc (f 0)))), .val (.int (1 : Int32))] [(.int (1 : Int32))])) _
      refine XS.aloadN X31.here hx rfl (hb hby d13_5) rfl rfl ?_
      exact kz
    obtain ⟨T32, X32, e32, st32⟩ := getF X31 hx hZ hown (host := "") (Or.inl (hw _ (List.mem_of_getElem? (i := 16) rfl))) Via.refl e31 Fu (g := (mkF m 6 #[.val (.ref a), .val (.int ((0 : Int32) + (own_bc (f 0)))), .val (.int (1 : Int32))] [(.ref a), (.int (1 : Int32))])) rfl rfl (hb hby d13_6)
    refine own_go (A := T32.setTop (mkF m 9 #[.val (.ref a), .val (.int ((0 : Int32) + (own_bc (f 0)))), .val (.int (1 : Int32))] [(.int (4 : Int32)), (.int (1 : Int32))])) (fun _ kz => st32 _ kz) ?_
    refine own_go (A := T32.setTop (mkF m 14 #[.val (.ref a), .val (.int ((0 : Int32) + (own_bc (f 0)))), .val (.int (1 : Int32))] [(.ref a), (.int ((0 : Int32) + (own_bc (f 0))))])) (fun _ kz => ?_) ?_
    · show Steps p.tables e below (T32.setTop (mkF m 9 #[.val (.ref a), .val (.int ((0 : Int32) + (own_bc (f 0)))), .val (.int (1 : Int32))] [(.int (4 : Int32)), (.int (1 : Int32))])) _
      refine XS.icmpNo X32.here hx rfl (hb hby d13_9) rfl (tlt (by decide : ((1 : Int32) < (4 : Int32)))).2.1 ?_
      show Steps p.tables e below (T32.setTop (mkF m 12 #[.val (.ref a), .val (.int ((0 : Int32) + (own_bc (f 0)))), .val (.int (1 : Int32))] [])) _
      refine XS.iloadN X32.here hx rfl (hb hby d13_12) rfl ?_
      show Steps p.tables e below (T32.setTop (mkF m 13 #[.val (.ref a), .val (.int ((0 : Int32) + (own_bc (f 0)))), .val (.int (1 : Int32))] [(.int ((0 : Int32) + (own_bc (f 0))))])) _
      refine XS.aloadN X32.here hx rfl (hb hby d13_13) rfl rfl ?_
      exact kz
    obtain ⟨T33, X33, e33, st33⟩ := getF X32 hx hZ hown (host := "") (Or.inl (hw _ (List.mem_of_getElem? (i := 29) rfl))) Via.refl e32 Fw (g := (mkF m 14 #[.val (.ref a), .val (.int ((0 : Int32) + (own_bc (f 0)))), .val (.int (1 : Int32))] [(.ref a), (.int ((0 : Int32) + (own_bc (f 0))))])) rfl rfl (hb hby d13_14)
    refine own_go (A := T33.setTop (mkF m 17 #[.val (.ref a), .val (.int ((0 : Int32) + (own_bc (f 0)))), .val (.int (1 : Int32))] [(.ref w), (.int ((0 : Int32) + (own_bc (f 0))))])) (fun _ kz => st33 _ kz) ?_
    refine own_go (A := T33.setTop (mkF m 18 #[.val (.ref a), .val (.int ((0 : Int32) + (own_bc (f 0)))), .val (.int (1 : Int32))] [(.int (1 : Int32)), (.ref w), (.int ((0 : Int32) + (own_bc (f 0))))])) (fun _ kz => ?_) ?_
    · show Steps p.tables e below (T33.setTop (mkF m 17 #[.val (.ref a), .val (.int ((0 : Int32) + (own_bc (f 0)))), .val (.int (1 : Int32))] [(.ref w), (.int ((0 : Int32) + (own_bc (f 0))))])) _
      refine XS.iloadN X33.here hx rfl (hb hby d13_17) rfl ?_
      exact kz
    obtain ⟨cl34, Ar34, -, S34, M34, H34, -⟩ := id Av
    have hin34 : ¬ ((1 : Int32) < 0 ∨ cl34.slots.size ≤ ((1 : Int32)).toNatClampNeg) := inb_of S34 ⟨by decide, by decide⟩
    have hat34 : cl34.slots[((1 : Int32)).toNatClampNeg]? = some (.long (f 1)) := H34.at hin34 rfl
    refine own_go (A := T33.setTop (mkF m 19 #[.val (.ref a), .val (.int ((0 : Int32) + (own_bc (f 0)))), .val (.int (1 : Int32))] [(.long (f 1)), (.int ((0 : Int32) + (own_bc (f 0))))])) (fun _ kz => ?_) ?_
    · refine X33.laload hx (j := (1 : Int32)) (v := (.long (f 1))) (by rw [e33]; exact Ar34.1) (State.isArrayOf_alike hZ.alike Ar34.2.1) Ar34.2.2 hin34 hat34 (g := (mkF m 18 #[.val (.ref a), .val (.int ((0 : Int32) + (own_bc (f 0)))), .val (.int (1 : Int32))] [(.int (1 : Int32)), (.ref w), (.int ((0 : Int32) + (own_bc (f 0))))])) rfl rfl (hb hby d13_18) _ ?_
      exact kz
    obtain ⟨_, _, ⟨T35, L35, k35, n35⟩, -, X35, ⟨Lc35, hQ35, l35, y35, z35⟩, st35⟩ := Jvm.LawKit.callS X33 hx (y := (⟨"java/lang/Long", "bitCount", "(J)I"⟩ : MethodName)) hown (mvT hZ (hw _ (List.mem_of_getElem? (i := 80) rfl))) (mvT hZ (hw _ (List.mem_of_getElem? (i := 81) rfl))) (mvT hZ (hw _ (List.mem_of_getElem? (i := 82) rfl))) (mvT hZ (hw _ (List.mem_of_getElem? (i := 83) rfl))) (by decide) (backOf (W := 1) (rmBC l Z a0 hw [] (f 1) h0 n0 Z0) hZ (hw _ (List.mem_of_getElem? (i := 83) rfl)) (hw _ (List.mem_of_getElem? (i := 82) rfl)) (by decide) (by decide)) (g := (mkF m 19 #[.val (.ref a), .val (.int ((0 : Int32) + (own_bc (f 0)))), .val (.int (1 : Int32))] [(.long (f 1)), (.int ((0 : Int32) + (own_bc (f 0))))])) rfl (by rw [hml]; rfl) (argsL := [(.long (f 1))]) (rest := [(.int ((0 : Int32) + (own_bc (f 0))))]) (lenOf own_pd5 rfl) rfl (by show 2 * 0 + _ ≤ _; exact Nat.le_of_eq rfl) (hb hby d13_19) (fun _ _ => ⟨rfl, e33, (by decide : 0 + 0 ≤ _), (by decide : 0 + 0 ≤ _)⟩)
    dsimp only [Pt.U, Pt.locs, Pt.cells, Pt.slots] at X35 l35 y35 z35 st35 hQ35
    subst l35 y35 z35
    obtain ⟨rfl, N35q, e35⟩ := hQ35
    have N35 := Fr.app N31 N35q
    refine own_go (A := T35.setTop (mkF m 22 #[.val (.ref a), .val (.int ((0 : Int32) + (own_bc (f 0)))), .val (.int (1 : Int32))] [(.int (own_bc (f 1))), (.int ((0 : Int32) + (own_bc (f 0))))])) (fun _ kz => st35 _ kz) ?_
    refine own_go (A := T35.setTop (mkF m 6 #[.val (.ref a), .val (.int (((0 : Int32) + (own_bc (f 0))) + (own_bc (f 1)))), .val (.int (2 : Int32))] [(.ref a), (.int (2 : Int32))])) (fun _ kz => ?_) ?_
    · show Steps p.tables e below (T35.setTop (mkF m 22 #[.val (.ref a), .val (.int ((0 : Int32) + (own_bc (f 0)))), .val (.int (1 : Int32))] [(.int (own_bc (f 1))), (.int ((0 : Int32) + (own_bc (f 0))))])) _
      refine XS.iadd X35.here hx rfl (hb hby d13_22) rfl ?_
      show Steps p.tables e below (T35.setTop (mkF m 23 #[.val (.ref a), .val (.int ((0 : Int32) + (own_bc (f 0)))), .val (.int (1 : Int32))] [(.int (((0 : Int32) + (own_bc (f 0))) + (own_bc (f 1))))])) _
      refine XS.istoreN X35.here hx rfl (hb hby d13_23) rfl (l' := #[.val (.ref a), .val (.int (((0 : Int32) + (own_bc (f 0))) + (own_bc (f 1)))), .val (.int (1 : Int32))]) rfl ?_
      show Steps p.tables e below (T35.setTop (mkF m 24 #[.val (.ref a), .val (.int (((0 : Int32) + (own_bc (f 0))) + (own_bc (f 1)))), .val (.int (1 : Int32))] [])) _
      refine XS.iinc X35.here hx rfl (hb hby d13_24) rfl (l' := #[.val (.ref a), .val (.int (((0 : Int32) + (own_bc (f 0))) + (own_bc (f 1)))), .val (.int (2 : Int32))]) rfl ?_
      show Steps p.tables e below (T35.setTop (mkF m 27 #[.val (.ref a), .val (.int (((0 : Int32) + (own_bc (f 0))) + (own_bc (f 1)))), .val (.int (2 : Int32))] [])) _
      refine XS.goto X35.here hx rfl (pc0 := 27) (pc' := 4) rfl (hb hby d13_27) (by decide) (by decide) ?_
      show Steps p.tables e below (T35.setTop (mkF m 4 #[.val (.ref a), .val (.int (((0 : Int32) + (own_bc (f 0))) + (own_bc (f 1)))), .val (.int (2 : Int32))] [])) _
      refine XS.iloadN X35.here hx rfl (hb hby d13_4) rfl ?_
      show Steps p.tables e below (T35.setTop (mkF m 5 #[.val (.ref a), .val (.int (((0 : Int32) + (own_bc (f 0))) + (own_bc (f 1)))), .val (.int (2 : Int32))] [(.int (2 : Int32))])) _
      refine XS.aloadN X35.here hx rfl (hb hby d13_5) rfl rfl ?_
      exact kz
    obtain ⟨T36, X36, e36, st36⟩ := getF X35 hx hZ hown (host := "") (Or.inl (hw _ (List.mem_of_getElem? (i := 16) rfl))) Via.refl e35 Fu (g := (mkF m 6 #[.val (.ref a), .val (.int (((0 : Int32) + (own_bc (f 0))) + (own_bc (f 1)))), .val (.int (2 : Int32))] [(.ref a), (.int (2 : Int32))])) rfl rfl (hb hby d13_6)
    refine own_go (A := T36.setTop (mkF m 9 #[.val (.ref a), .val (.int (((0 : Int32) + (own_bc (f 0))) + (own_bc (f 1)))), .val (.int (2 : Int32))] [(.int (4 : Int32)), (.int (2 : Int32))])) (fun _ kz => st36 _ kz) ?_
    refine own_go (A := T36.setTop (mkF m 14 #[.val (.ref a), .val (.int (((0 : Int32) + (own_bc (f 0))) + (own_bc (f 1)))), .val (.int (2 : Int32))] [(.ref a), (.int (((0 : Int32) + (own_bc (f 0))) + (own_bc (f 1))))])) (fun _ kz => ?_) ?_
    · show Steps p.tables e below (T36.setTop (mkF m 9 #[.val (.ref a), .val (.int (((0 : Int32) + (own_bc (f 0))) + (own_bc (f 1)))), .val (.int (2 : Int32))] [(.int (4 : Int32)), (.int (2 : Int32))])) _
      refine XS.icmpNo X36.here hx rfl (hb hby d13_9) rfl (tlt (by decide : ((2 : Int32) < (4 : Int32)))).2.1 ?_
      show Steps p.tables e below (T36.setTop (mkF m 12 #[.val (.ref a), .val (.int (((0 : Int32) + (own_bc (f 0))) + (own_bc (f 1)))), .val (.int (2 : Int32))] [])) _
      refine XS.iloadN X36.here hx rfl (hb hby d13_12) rfl ?_
      show Steps p.tables e below (T36.setTop (mkF m 13 #[.val (.ref a), .val (.int (((0 : Int32) + (own_bc (f 0))) + (own_bc (f 1)))), .val (.int (2 : Int32))] [(.int (((0 : Int32) + (own_bc (f 0))) + (own_bc (f 1))))])) _
      refine XS.aloadN X36.here hx rfl (hb hby d13_13) rfl rfl ?_
      exact kz
    obtain ⟨T37, X37, e37, st37⟩ := getF X36 hx hZ hown (host := "") (Or.inl (hw _ (List.mem_of_getElem? (i := 29) rfl))) Via.refl e36 Fw (g := (mkF m 14 #[.val (.ref a), .val (.int (((0 : Int32) + (own_bc (f 0))) + (own_bc (f 1)))), .val (.int (2 : Int32))] [(.ref a), (.int (((0 : Int32) + (own_bc (f 0))) + (own_bc (f 1))))])) rfl rfl (hb hby d13_14)
    refine own_go (A := T37.setTop (mkF m 17 #[.val (.ref a), .val (.int (((0 : Int32) + (own_bc (f 0))) + (own_bc (f 1)))), .val (.int (2 : Int32))] [(.ref w), (.int (((0 : Int32) + (own_bc (f 0))) + (own_bc (f 1))))])) (fun _ kz => st37 _ kz) ?_
    refine own_go (A := T37.setTop (mkF m 18 #[.val (.ref a), .val (.int (((0 : Int32) + (own_bc (f 0))) + (own_bc (f 1)))), .val (.int (2 : Int32))] [(.int (2 : Int32)), (.ref w), (.int (((0 : Int32) + (own_bc (f 0))) + (own_bc (f 1))))])) (fun _ kz => ?_) ?_
    · show Steps p.tables e below (T37.setTop (mkF m 17 #[.val (.ref a), .val (.int (((0 : Int32) + (own_bc (f 0))) + (own_bc (f 1)))), .val (.int (2 : Int32))] [(.ref w), (.int (((0 : Int32) + (own_bc (f 0))) + (own_bc (f 1))))])) _
      refine XS.iloadN X37.here hx rfl (hb hby d13_17) rfl ?_
      exact kz
    obtain ⟨cl38, Ar38, -, S38, M38, H38, -⟩ := id Av
    have hin38 : ¬ ((2 : Int32) < 0 ∨ cl38.slots.size ≤ ((2 : Int32)).toNatClampNeg) := inb_of S38 ⟨by decide, by decide⟩
    have hat38 : cl38.slots[((2 : Int32)).toNatClampNeg]? = some (.long (f 2)) := H38.at hin38 rfl
    refine own_go (A := T37.setTop (mkF m 19 #[.val (.ref a), .val (.int (((0 : Int32) + (own_bc (f 0))) + (own_bc (f 1)))), .val (.int (2 : Int32))] [(.long (f 2)), (.int (((0 : Int32) + (own_bc (f 0))) + (own_bc (f 1))))])) (fun _ kz => ?_) ?_
    · refine X37.laload hx (j := (2 : Int32)) (v := (.long (f 2))) (by rw [e37]; exact Ar38.1) (State.isArrayOf_alike hZ.alike Ar38.2.1) Ar38.2.2 hin38 hat38 (g := (mkF m 18 #[.val (.ref a), .val (.int (((0 : Int32) + (own_bc (f 0))) + (own_bc (f 1)))), .val (.int (2 : Int32))] [(.int (2 : Int32)), (.ref w), (.int (((0 : Int32) + (own_bc (f 0))) + (own_bc (f 1))))])) rfl rfl (hb hby d13_18) _ ?_
      exact kz
    obtain ⟨_, _, ⟨T39, L39, k39, n39⟩, -, X39, ⟨Lc39, hQ39, l39, y39, z39⟩, st39⟩ := Jvm.LawKit.callS X37 hx (y := (⟨"java/lang/Long", "bitCount", "(J)I"⟩ : MethodName)) hown (mvT hZ (hw _ (List.mem_of_getElem? (i := 80) rfl))) (mvT hZ (hw _ (List.mem_of_getElem? (i := 81) rfl))) (mvT hZ (hw _ (List.mem_of_getElem? (i := 82) rfl))) (mvT hZ (hw _ (List.mem_of_getElem? (i := 83) rfl))) (by decide) (backOf (W := 1) (rmBC l Z a0 hw [] (f 2) h0 n0 Z0) hZ (hw _ (List.mem_of_getElem? (i := 83) rfl)) (hw _ (List.mem_of_getElem? (i := 82) rfl)) (by decide) (by decide)) (g := (mkF m 19 #[.val (.ref a), .val (.int (((0 : Int32) + (own_bc (f 0))) + (own_bc (f 1)))), .val (.int (2 : Int32))] [(.long (f 2)), (.int (((0 : Int32) + (own_bc (f 0))) + (own_bc (f 1))))])) rfl (by rw [hml]; rfl) (argsL := [(.long (f 2))]) (rest := [(.int (((0 : Int32) + (own_bc (f 0))) + (own_bc (f 1))))]) (lenOf own_pd5 rfl) rfl (by show 2 * 0 + _ ≤ _; exact Nat.le_of_eq rfl) (hb hby d13_19) (fun _ _ => ⟨rfl, e37, (by decide : 0 + 0 ≤ _), (by decide : 0 + 0 ≤ _)⟩)
    dsimp only [Pt.U, Pt.locs, Pt.cells, Pt.slots] at X39 l39 y39 z39 st39 hQ39
    subst l39 y39 z39
    obtain ⟨rfl, N39q, e39⟩ := hQ39
    have N39 := Fr.app N35 N39q
    refine own_go (A := T39.setTop (mkF m 22 #[.val (.ref a), .val (.int (((0 : Int32) + (own_bc (f 0))) + (own_bc (f 1)))), .val (.int (2 : Int32))] [(.int (own_bc (f 2))), (.int (((0 : Int32) + (own_bc (f 0))) + (own_bc (f 1))))])) (fun _ kz => st39 _ kz) ?_
    refine own_go (A := T39.setTop (mkF m 6 #[.val (.ref a), .val (.int ((((0 : Int32) + (own_bc (f 0))) + (own_bc (f 1))) + (own_bc (f 2)))), .val (.int (3 : Int32))] [(.ref a), (.int (3 : Int32))])) (fun _ kz => ?_) ?_
    · show Steps p.tables e below (T39.setTop (mkF m 22 #[.val (.ref a), .val (.int (((0 : Int32) + (own_bc (f 0))) + (own_bc (f 1)))), .val (.int (2 : Int32))] [(.int (own_bc (f 2))), (.int (((0 : Int32) + (own_bc (f 0))) + (own_bc (f 1))))])) _
      refine XS.iadd X39.here hx rfl (hb hby d13_22) rfl ?_
      show Steps p.tables e below (T39.setTop (mkF m 23 #[.val (.ref a), .val (.int (((0 : Int32) + (own_bc (f 0))) + (own_bc (f 1)))), .val (.int (2 : Int32))] [(.int ((((0 : Int32) + (own_bc (f 0))) + (own_bc (f 1))) + (own_bc (f 2))))])) _
      refine XS.istoreN X39.here hx rfl (hb hby d13_23) rfl (l' := #[.val (.ref a), .val (.int ((((0 : Int32) + (own_bc (f 0))) + (own_bc (f 1))) + (own_bc (f 2)))), .val (.int (2 : Int32))]) rfl ?_
      show Steps p.tables e below (T39.setTop (mkF m 24 #[.val (.ref a), .val (.int ((((0 : Int32) + (own_bc (f 0))) + (own_bc (f 1))) + (own_bc (f 2)))), .val (.int (2 : Int32))] [])) _
      refine XS.iinc X39.here hx rfl (hb hby d13_24) rfl (l' := #[.val (.ref a), .val (.int ((((0 : Int32) + (own_bc (f 0))) + (own_bc (f 1))) + (own_bc (f 2)))), .val (.int (3 : Int32))]) rfl ?_
      show Steps p.tables e below (T39.setTop (mkF m 27 #[.val (.ref a), .val (.int ((((0 : Int32) + (own_bc (f 0))) + (own_bc (f 1))) + (own_bc (f 2)))), .val (.int (3 : Int32))] [])) _
      refine XS.goto X39.here hx rfl (pc0 := 27) (pc' := 4) rfl (hb hby d13_27) (by decide) (by decide) ?_
      show Steps p.tables e below (T39.setTop (mkF m 4 #[.val (.ref a), .val (.int ((((0 : Int32) + (own_bc (f 0))) + (own_bc (f 1))) + (own_bc (f 2)))), .val (.int (3 : Int32))] [])) _
      refine XS.iloadN X39.here hx rfl (hb hby d13_4) rfl ?_
      show Steps p.tables e below (T39.setTop (mkF m 5 #[.val (.ref a), .val (.int ((((0 : Int32) + (own_bc (f 0))) + (own_bc (f 1))) + (own_bc (f 2)))), .val (.int (3 : Int32))] [(.int (3 : Int32))])) _
      refine XS.aloadN X39.here hx rfl (hb hby d13_5) rfl rfl ?_
      exact kz
    obtain ⟨T40, X40, e40, st40⟩ := getF X39 hx hZ hown (host := "") (Or.inl (hw _ (List.mem_of_getElem? (i := 16) rfl))) Via.refl e39 Fu (g := (mkF m 6 #[.val (.ref a), .val (.int ((((0 : Int32) + (own_bc (f 0))) + (own_bc (f 1))) + (own_bc (f 2)))), .val (.int (3 : Int32))] [(.ref a), (.int (3 : Int32))])) rfl rfl (hb hby d13_6)
    refine own_go (A := T40.setTop (mkF m 9 #[.val (.ref a), .val (.int ((((0 : Int32) + (own_bc (f 0))) + (own_bc (f 1))) + (own_bc (f 2)))), .val (.int (3 : Int32))] [(.int (4 : Int32)), (.int (3 : Int32))])) (fun _ kz => st40 _ kz) ?_
    refine own_go (A := T40.setTop (mkF m 14 #[.val (.ref a), .val (.int ((((0 : Int32) + (own_bc (f 0))) + (own_bc (f 1))) + (own_bc (f 2)))), .val (.int (3 : Int32))] [(.ref a), (.int ((((0 : Int32) + (own_bc (f 0))) + (own_bc (f 1))) + (own_bc (f 2))))])) (fun _ kz => ?_) ?_
    · show Steps p.tables e below (T40.setTop (mkF m 9 #[.val (.ref a), .val (.int ((((0 : Int32) + (own_bc (f 0))) + (own_bc (f 1))) + (own_bc (f 2)))), .val (.int (3 : Int32))] [(.int (4 : Int32)), (.int (3 : Int32))])) _
      refine XS.icmpNo X40.here hx rfl (hb hby d13_9) rfl (tlt (by decide : ((3 : Int32) < (4 : Int32)))).2.1 ?_
      show Steps p.tables e below (T40.setTop (mkF m 12 #[.val (.ref a), .val (.int ((((0 : Int32) + (own_bc (f 0))) + (own_bc (f 1))) + (own_bc (f 2)))), .val (.int (3 : Int32))] [])) _
      refine XS.iloadN X40.here hx rfl (hb hby d13_12) rfl ?_
      show Steps p.tables e below (T40.setTop (mkF m 13 #[.val (.ref a), .val (.int ((((0 : Int32) + (own_bc (f 0))) + (own_bc (f 1))) + (own_bc (f 2)))), .val (.int (3 : Int32))] [(.int ((((0 : Int32) + (own_bc (f 0))) + (own_bc (f 1))) + (own_bc (f 2))))])) _
      refine XS.aloadN X40.here hx rfl (hb hby d13_13) rfl rfl ?_
      exact kz
    obtain ⟨T41, X41, e41, st41⟩ := getF X40 hx hZ hown (host := "") (Or.inl (hw _ (List.mem_of_getElem? (i := 29) rfl))) Via.refl e40 Fw (g := (mkF m 14 #[.val (.ref a), .val (.int ((((0 : Int32) + (own_bc (f 0))) + (own_bc (f 1))) + (own_bc (f 2)))), .val (.int (3 : Int32))] [(.ref a), (.int ((((0 : Int32) + (own_bc (f 0))) + (own_bc (f 1))) + (own_bc (f 2))))])) rfl rfl (hb hby d13_14)
    refine own_go (A := T41.setTop (mkF m 17 #[.val (.ref a), .val (.int ((((0 : Int32) + (own_bc (f 0))) + (own_bc (f 1))) + (own_bc (f 2)))), .val (.int (3 : Int32))] [(.ref w), (.int ((((0 : Int32) + (own_bc (f 0))) + (own_bc (f 1))) + (own_bc (f 2))))])) (fun _ kz => st41 _ kz) ?_
    refine own_go (A := T41.setTop (mkF m 18 #[.val (.ref a), .val (.int ((((0 : Int32) + (own_bc (f 0))) + (own_bc (f 1))) + (own_bc (f 2)))), .val (.int (3 : Int32))] [(.int (3 : Int32)), (.ref w), (.int ((((0 : Int32) + (own_bc (f 0))) + (own_bc (f 1))) + (own_bc (f 2))))])) (fun _ kz => ?_) ?_
    · show Steps p.tables e below (T41.setTop (mkF m 17 #[.val (.ref a), .val (.int ((((0 : Int32) + (own_bc (f 0))) + (own_bc (f 1))) + (own_bc (f 2)))), .val (.int (3 : Int32))] [(.ref w), (.int ((((0 : Int32) + (own_bc (f 0))) + (own_bc (f 1))) + (own_bc (f 2))))])) _
      refine XS.iloadN X41.here hx rfl (hb hby d13_17) rfl ?_
      exact kz
    obtain ⟨cl42, Ar42, -, S42, M42, H42, -⟩ := id Av
    have hin42 : ¬ ((3 : Int32) < 0 ∨ cl42.slots.size ≤ ((3 : Int32)).toNatClampNeg) := inb_of S42 ⟨by decide, by decide⟩
    have hat42 : cl42.slots[((3 : Int32)).toNatClampNeg]? = some (.long (f 3)) := H42.at hin42 rfl
    refine own_go (A := T41.setTop (mkF m 19 #[.val (.ref a), .val (.int ((((0 : Int32) + (own_bc (f 0))) + (own_bc (f 1))) + (own_bc (f 2)))), .val (.int (3 : Int32))] [(.long (f 3)), (.int ((((0 : Int32) + (own_bc (f 0))) + (own_bc (f 1))) + (own_bc (f 2))))])) (fun _ kz => ?_) ?_
    · refine X41.laload hx (j := (3 : Int32)) (v := (.long (f 3))) (by rw [e41]; exact Ar42.1) (State.isArrayOf_alike hZ.alike Ar42.2.1) Ar42.2.2 hin42 hat42 (g := (mkF m 18 #[.val (.ref a), .val (.int ((((0 : Int32) + (own_bc (f 0))) + (own_bc (f 1))) + (own_bc (f 2)))), .val (.int (3 : Int32))] [(.int (3 : Int32)), (.ref w), (.int ((((0 : Int32) + (own_bc (f 0))) + (own_bc (f 1))) + (own_bc (f 2))))])) rfl rfl (hb hby d13_18) _ ?_
      exact kz
    obtain ⟨_, _, ⟨T43, L43, k43, n43⟩, -, X43, ⟨Lc43, hQ43, l43, y43, z43⟩, st43⟩ := Jvm.LawKit.callS X41 hx (y := (⟨"java/lang/Long", "bitCount", "(J)I"⟩ : MethodName)) hown (mvT hZ (hw _ (List.mem_of_getElem? (i := 80) rfl))) (mvT hZ (hw _ (List.mem_of_getElem? (i := 81) rfl))) (mvT hZ (hw _ (List.mem_of_getElem? (i := 82) rfl))) (mvT hZ (hw _ (List.mem_of_getElem? (i := 83) rfl))) (by decide) (backOf (W := 1) (rmBC l Z a0 hw [] (f 3) h0 n0 Z0) hZ (hw _ (List.mem_of_getElem? (i := 83) rfl)) (hw _ (List.mem_of_getElem? (i := 82) rfl)) (by decide) (by decide)) (g := (mkF m 19 #[.val (.ref a), .val (.int ((((0 : Int32) + (own_bc (f 0))) + (own_bc (f 1))) + (own_bc (f 2)))), .val (.int (3 : Int32))] [(.long (f 3)), (.int ((((0 : Int32) + (own_bc (f 0))) + (own_bc (f 1))) + (own_bc (f 2))))])) rfl (by rw [hml]; rfl) (argsL := [(.long (f 3))]) (rest := [(.int ((((0 : Int32) + (own_bc (f 0))) + (own_bc (f 1))) + (own_bc (f 2))))]) (lenOf own_pd5 rfl) rfl (by show 2 * 0 + _ ≤ _; exact Nat.le_of_eq rfl) (hb hby d13_19) (fun _ _ => ⟨rfl, e41, (by decide : 0 + 0 ≤ _), (by decide : 0 + 0 ≤ _)⟩)
    dsimp only [Pt.U, Pt.locs, Pt.cells, Pt.slots] at X43 l43 y43 z43 st43 hQ43
    subst l43 y43 z43
    obtain ⟨rfl, N43q, e43⟩ := hQ43
    have N43 := Fr.app N39 N43q
    refine own_go (A := T43.setTop (mkF m 22 #[.val (.ref a), .val (.int ((((0 : Int32) + (own_bc (f 0))) + (own_bc (f 1))) + (own_bc (f 2)))), .val (.int (3 : Int32))] [(.int (own_bc (f 3))), (.int ((((0 : Int32) + (own_bc (f 0))) + (own_bc (f 1))) + (own_bc (f 2))))])) (fun _ kz => st43 _ kz) ?_
    refine own_go (A := T43.setTop (mkF m 6 #[.val (.ref a), .val (.int (((((0 : Int32) + (own_bc (f 0))) + (own_bc (f 1))) + (own_bc (f 2))) + (own_bc (f 3)))), .val (.int (4 : Int32))] [(.ref a), (.int (4 : Int32))])) (fun _ kz => ?_) ?_
    · show Steps p.tables e below (T43.setTop (mkF m 22 #[.val (.ref a), .val (.int ((((0 : Int32) + (own_bc (f 0))) + (own_bc (f 1))) + (own_bc (f 2)))), .val (.int (3 : Int32))] [(.int (own_bc (f 3))), (.int ((((0 : Int32) + (own_bc (f 0))) + (own_bc (f 1))) + (own_bc (f 2))))])) _
      refine XS.iadd X43.here hx rfl (hb hby d13_22) rfl ?_
      show Steps p.tables e below (T43.setTop (mkF m 23 #[.val (.ref a), .val (.int ((((0 : Int32) + (own_bc (f 0))) + (own_bc (f 1))) + (own_bc (f 2)))), .val (.int (3 : Int32))] [(.int (((((0 : Int32) + (own_bc (f 0))) + (own_bc (f 1))) + (own_bc (f 2))) + (own_bc (f 3))))])) _
      refine XS.istoreN X43.here hx rfl (hb hby d13_23) rfl (l' := #[.val (.ref a), .val (.int (((((0 : Int32) + (own_bc (f 0))) + (own_bc (f 1))) + (own_bc (f 2))) + (own_bc (f 3)))), .val (.int (3 : Int32))]) rfl ?_
      show Steps p.tables e below (T43.setTop (mkF m 24 #[.val (.ref a), .val (.int (((((0 : Int32) + (own_bc (f 0))) + (own_bc (f 1))) + (own_bc (f 2))) + (own_bc (f 3)))), .val (.int (3 : Int32))] [])) _
      refine XS.iinc X43.here hx rfl (hb hby d13_24) rfl (l' := #[.val (.ref a), .val (.int (((((0 : Int32) + (own_bc (f 0))) + (own_bc (f 1))) + (own_bc (f 2))) + (own_bc (f 3)))), .val (.int (4 : Int32))]) rfl ?_
      show Steps p.tables e below (T43.setTop (mkF m 27 #[.val (.ref a), .val (.int (((((0 : Int32) + (own_bc (f 0))) + (own_bc (f 1))) + (own_bc (f 2))) + (own_bc (f 3)))), .val (.int (4 : Int32))] [])) _
      refine XS.goto X43.here hx rfl (pc0 := 27) (pc' := 4) rfl (hb hby d13_27) (by decide) (by decide) ?_
      show Steps p.tables e below (T43.setTop (mkF m 4 #[.val (.ref a), .val (.int (((((0 : Int32) + (own_bc (f 0))) + (own_bc (f 1))) + (own_bc (f 2))) + (own_bc (f 3)))), .val (.int (4 : Int32))] [])) _
      refine XS.iloadN X43.here hx rfl (hb hby d13_4) rfl ?_
      show Steps p.tables e below (T43.setTop (mkF m 5 #[.val (.ref a), .val (.int (((((0 : Int32) + (own_bc (f 0))) + (own_bc (f 1))) + (own_bc (f 2))) + (own_bc (f 3)))), .val (.int (4 : Int32))] [(.int (4 : Int32))])) _
      refine XS.aloadN X43.here hx rfl (hb hby d13_5) rfl rfl ?_
      exact kz
    obtain ⟨T44, X44, e44, st44⟩ := getF X43 hx hZ hown (host := "") (Or.inl (hw _ (List.mem_of_getElem? (i := 16) rfl))) Via.refl e43 Fu (g := (mkF m 6 #[.val (.ref a), .val (.int (((((0 : Int32) + (own_bc (f 0))) + (own_bc (f 1))) + (own_bc (f 2))) + (own_bc (f 3)))), .val (.int (4 : Int32))] [(.ref a), (.int (4 : Int32))])) rfl rfl (hb hby d13_6)
    refine own_go (A := T44.setTop (mkF m 9 #[.val (.ref a), .val (.int (((((0 : Int32) + (own_bc (f 0))) + (own_bc (f 1))) + (own_bc (f 2))) + (own_bc (f 3)))), .val (.int (4 : Int32))] [(.int (4 : Int32)), (.int (4 : Int32))])) (fun _ kz => st44 _ kz) ?_
    refine own_go (A := T44.setTop (mkF m 31 #[.val (.ref a), .val (.int (((((0 : Int32) + (own_bc (f 0))) + (own_bc (f 1))) + (own_bc (f 2))) + (own_bc (f 3)))), .val (.int (4 : Int32))] [(.int (((((0 : Int32) + (own_bc (f 0))) + (own_bc (f 1))) + (own_bc (f 2))) + (own_bc (f 3))))])) (fun _ kz => ?_) ?_
    · show Steps p.tables e below (T44.setTop (mkF m 9 #[.val (.ref a), .val (.int (((((0 : Int32) + (own_bc (f 0))) + (own_bc (f 1))) + (own_bc (f 2))) + (own_bc (f 3)))), .val (.int (4 : Int32))] [(.int (4 : Int32)), (.int (4 : Int32))])) _
      refine XS.icmpYes X44.here hx rfl (pc0 := 9) (pc' := 30) rfl (hb hby d13_9) rfl (flt (by decide : ¬ ((4 : Int32) < (4 : Int32)))).2.1 (by decide) (by decide) ?_
      show Steps p.tables e below (T44.setTop (mkF m 30 #[.val (.ref a), .val (.int (((((0 : Int32) + (own_bc (f 0))) + (own_bc (f 1))) + (own_bc (f 2))) + (own_bc (f 3)))), .val (.int (4 : Int32))] [])) _
      refine XS.iloadN X44.here hx rfl (hb hby d13_30) rfl ?_
      exact kz
    obtain ⟨fs, hrr, hrun, hended, hW, hsame⟩ := X44.leave (v := some (.int (((((0 : Int32) + (own_bc (f 0))) + (own_bc (f 1))) + (own_bc (f 2))) + (own_bc (f 3))))) (fun h => by rw [Bd.returns] at h; cases h)
    refine ⟨_, _, ?_, hrun, hended, _, _, rfl, ?_, ⟨_, rfl⟩, hW, hsame.mono (by decide) (by decide)⟩
    · show Steps p.tables e below (T44.setTop (mkF m 31 #[.val (.ref a), .val (.int (((((0 : Int32) + (own_bc (f 0))) + (own_bc (f 1))) + (own_bc (f 2))) + (own_bc (f 3)))), .val (.int (4 : Int32))] [(.int (((((0 : Int32) + (own_bc (f 0))) + (own_bc (f 1))) + (own_bc (f 2))) + (own_bc (f 3))))])) _
      exact retI X44 hx Bd.returns (hb hby d13_31) hrr
    · show QrmCard Z r h0 n0 _ T44.heap _
      rw [e44]
      exact ⟨congrArg (fun z => some (Value.int z)) hr, N43, rfl⟩
  · skip
    replace Av : Arv Z h0 w kc .long (4 : Int32) [(.long (f 0)), (.long (f 1)), (.long (f 2)), (.long (f 3))] (.long (0 : Int64)) := Av
    refine own_go (A := s₁.setTop (mkF m 6 #[.val (.ref a), .val (.int (0 : Int32)), .val (.int (0 : Int32))] [(.ref a), (.int (0 : Int32))])) (fun _ kz => ?_) ?_
    · show Steps p.tables e below (s₁.setTop (mkF m 0 #[.val (.ref a), .unset, .unset] [])) _
      refine XS.iconst X0.here hx rfl (hb hby d13_0) ?_
      show Steps p.tables e below (s₁.setTop (mkF m 1 #[.val (.ref a), .unset, .unset] [(.int (0 : Int32))])) _
      refine XS.istoreN X0.here hx rfl (hb hby d13_1) rfl (l' := #[.val (.ref a), .val (.int (0 : Int32)), .unset]) rfl ?_
      show Steps p.tables e below (s₁.setTop (mkF m 2 #[.val (.ref a), .val (.int (0 : Int32)), .unset] [])) _
      refine XS.iconst X0.here hx rfl (hb hby d13_2) ?_
      show Steps p.tables e below (s₁.setTop (mkF m 3 #[.val (.ref a), .val (.int (0 : Int32)), .unset] [(.int (0 : Int32))])) _
      refine XS.istoreN X0.here hx rfl (hb hby d13_3) rfl (l' := #[.val (.ref a), .val (.int (0 : Int32)), .val (.int (0 : Int32))]) rfl ?_
      show Steps p.tables e below (s₁.setTop (mkF m 4 #[.val (.ref a), .val (.int (0 : Int32)), .val (.int (0 : Int32))] [])) _
      refine XS.iloadN X0.here hx rfl (hb hby d13_4) rfl ?_
      show Steps p.tables e below (s₁.setTop (mkF m 5 #[.val (.ref a), .val (.int (0 : Int32)), .val (.int (0 : Int32))] [(.int (0 : Int32))])) _
      refine XS.aloadN X0.here hx rfl (hb hby d13_5) rfl rfl ?_
      exact kz
    obtain ⟨T45, X45, e45, st45⟩ := getF X0 hx hZ hown (host := "") (Or.inl (hw _ (List.mem_of_getElem? (i := 16) rfl))) Via.refl e0 Fu (g := (mkF m 6 #[.val (.ref a), .val (.int (0 : Int32)), .val (.int (0 : Int32))] [(.ref a), (.int (0 : Int32))])) rfl rfl (hb hby d13_6)
    refine own_go (A := T45.setTop (mkF m 9 #[.val (.ref a), .val (.int (0 : Int32)), .val (.int (0 : Int32))] [(.int (3 : Int32)), (.int (0 : Int32))])) (fun _ kz => st45 _ kz) ?_
    refine own_go (A := T45.setTop (mkF m 14 #[.val (.ref a), .val (.int (0 : Int32)), .val (.int (0 : Int32))] [(.ref a), (.int (0 : Int32))])) (fun _ kz => ?_) ?_
    · show Steps p.tables e below (T45.setTop (mkF m 9 #[.val (.ref a), .val (.int (0 : Int32)), .val (.int (0 : Int32))] [(.int (3 : Int32)), (.int (0 : Int32))])) _
      refine XS.icmpNo X45.here hx rfl (hb hby d13_9) rfl (tlt (by decide : ((0 : Int32) < (3 : Int32)))).2.1 ?_
      show Steps p.tables e below (T45.setTop (mkF m 12 #[.val (.ref a), .val (.int (0 : Int32)), .val (.int (0 : Int32))] [])) _
      refine XS.iloadN X45.here hx rfl (hb hby d13_12) rfl ?_
      show Steps p.tables e below (T45.setTop (mkF m 13 #[.val (.ref a), .val (.int (0 : Int32)), .val (.int (0 : Int32))] [(.int (0 : Int32))])) _
      refine XS.aloadN X45.here hx rfl (hb hby d13_13) rfl rfl ?_
      exact kz
    obtain ⟨T46, X46, e46, st46⟩ := getF X45 hx hZ hown (host := "") (Or.inl (hw _ (List.mem_of_getElem? (i := 29) rfl))) Via.refl e45 Fw (g := (mkF m 14 #[.val (.ref a), .val (.int (0 : Int32)), .val (.int (0 : Int32))] [(.ref a), (.int (0 : Int32))])) rfl rfl (hb hby d13_14)
    refine own_go (A := T46.setTop (mkF m 17 #[.val (.ref a), .val (.int (0 : Int32)), .val (.int (0 : Int32))] [(.ref w), (.int (0 : Int32))])) (fun _ kz => st46 _ kz) ?_
    refine own_go (A := T46.setTop (mkF m 18 #[.val (.ref a), .val (.int (0 : Int32)), .val (.int (0 : Int32))] [(.int (0 : Int32)), (.ref w), (.int (0 : Int32))])) (fun _ kz => ?_) ?_
    · show Steps p.tables e below (T46.setTop (mkF m 17 #[.val (.ref a), .val (.int (0 : Int32)), .val (.int (0 : Int32))] [(.ref w), (.int (0 : Int32))])) _
      refine XS.iloadN X46.here hx rfl (hb hby d13_17) rfl ?_
      exact kz
    obtain ⟨cl47, Ar47, -, S47, M47, H47, -⟩ := id Av
    have hin47 : ¬ ((0 : Int32) < 0 ∨ cl47.slots.size ≤ ((0 : Int32)).toNatClampNeg) := inb_of S47 ⟨by decide, by decide⟩
    have hat47 : cl47.slots[((0 : Int32)).toNatClampNeg]? = some (.long (f 0)) := H47.at hin47 rfl
    refine own_go (A := T46.setTop (mkF m 19 #[.val (.ref a), .val (.int (0 : Int32)), .val (.int (0 : Int32))] [(.long (f 0)), (.int (0 : Int32))])) (fun _ kz => ?_) ?_
    · refine X46.laload hx (j := (0 : Int32)) (v := (.long (f 0))) (by rw [e46]; exact Ar47.1) (State.isArrayOf_alike hZ.alike Ar47.2.1) Ar47.2.2 hin47 hat47 (g := (mkF m 18 #[.val (.ref a), .val (.int (0 : Int32)), .val (.int (0 : Int32))] [(.int (0 : Int32)), (.ref w), (.int (0 : Int32))])) rfl rfl (hb hby d13_18) _ ?_
      exact kz
    obtain ⟨_, _, ⟨T48, L48, k48, n48⟩, -, X48, ⟨Lc48, hQ48, l48, y48, z48⟩, st48⟩ := Jvm.LawKit.callS X46 hx (y := (⟨"java/lang/Long", "bitCount", "(J)I"⟩ : MethodName)) hown (mvT hZ (hw _ (List.mem_of_getElem? (i := 80) rfl))) (mvT hZ (hw _ (List.mem_of_getElem? (i := 81) rfl))) (mvT hZ (hw _ (List.mem_of_getElem? (i := 82) rfl))) (mvT hZ (hw _ (List.mem_of_getElem? (i := 83) rfl))) (by decide) (backOf (W := 1) (rmBC l Z a0 hw [] (f 0) h0 n0 Z0) hZ (hw _ (List.mem_of_getElem? (i := 83) rfl)) (hw _ (List.mem_of_getElem? (i := 82) rfl)) (by decide) (by decide)) (g := (mkF m 19 #[.val (.ref a), .val (.int (0 : Int32)), .val (.int (0 : Int32))] [(.long (f 0)), (.int (0 : Int32))])) rfl (by rw [hml]; rfl) (argsL := [(.long (f 0))]) (rest := [(.int (0 : Int32))]) (lenOf own_pd5 rfl) rfl (by show 2 * 0 + _ ≤ _; exact Nat.le_of_eq rfl) (hb hby d13_19) (fun _ _ => ⟨rfl, e46, (by decide : 0 + 0 ≤ _), (by decide : 0 + 0 ≤ _)⟩)
    dsimp only [Pt.U, Pt.locs, Pt.cells, Pt.slots] at X48 l48 y48 z48 st48 hQ48
    subst l48 y48 z48
    obtain ⟨rfl, N48q, e48⟩ := hQ48
    have N48 := Fr.app N0 N48q
    refine own_go (A := T48.setTop (mkF m 22 #[.val (.ref a), .val (.int (0 : Int32)), .val (.int (0 : Int32))] [(.int (own_bc (f 0))), (.int (0 : Int32))])) (fun _ kz => st48 _ kz) ?_
    refine own_go (A := T48.setTop (mkF m 6 #[.val (.ref a), .val (.int ((0 : Int32) + (own_bc (f 0)))), .val (.int (1 : Int32))] [(.ref a), (.int (1 : Int32))])) (fun _ kz => ?_) ?_
    · show Steps p.tables e below (T48.setTop (mkF m 22 #[.val (.ref a), .val (.int (0 : Int32)), .val (.int (0 : Int32))] [(.int (own_bc (f 0))), (.int (0 : Int32))])) _
      refine XS.iadd X48.here hx rfl (hb hby d13_22) rfl ?_
      show Steps p.tables e below (T48.setTop (mkF m 23 #[.val (.ref a), .val (.int (0 : Int32)), .val (.int (0 : Int32))] [(.int ((0 : Int32) + (own_bc (f 0))))])) _
      refine XS.istoreN X48.here hx rfl (hb hby d13_23) rfl (l' := #[.val (.ref a), .val (.int ((0 : Int32) + (own_bc (f 0)))), .val (.int (0 : Int32))]) rfl ?_
      show Steps p.tables e below (T48.setTop (mkF m 24 #[.val (.ref a), .val (.int ((0 : Int32) + (own_bc (f 0)))), .val (.int (0 : Int32))] [])) _
      refine XS.iinc X48.here hx rfl (hb hby d13_24) rfl (l' := #[.val (.ref a), .val (.int ((0 : Int32) + (own_bc (f 0)))), .val (.int (1 : Int32))]) rfl ?_
      show Steps p.tables e below (T48.setTop (mkF m 27 #[.val (.ref a), .val (.int ((0 : Int32) + (own_bc (f 0)))), .val (.int (1 : Int32))] [])) _
      refine XS.goto X48.here hx rfl (pc0 := 27) (pc' := 4) rfl (hb hby d13_27) (by decide) (by decide) ?_
      show Steps p.tables e below (T48.setTop (mkF m 4 #[.val (.ref a), .val (.int ((0 : Int32) + (own_bc (f 0)))), .val (.int (1 : Int32))] [])) _
      refine XS.iloadN X48.here hx rfl (hb hby d13_4) rfl ?_
      show Steps p.tables e below (T48.setTop (mkF m 5 #[.val (.ref a), .val (.int ((0 : Int32) + (own_bc (f 0)))), .val (.int (1 : Int32))] [(.int (1 : Int32))])) _
      refine XS.aloadN X48.here hx rfl (hb hby d13_5) rfl rfl ?_
      exact kz
    obtain ⟨T49, X49, e49, st49⟩ := getF X48 hx hZ hown (host := "") (Or.inl (hw _ (List.mem_of_getElem? (i := 16) rfl))) Via.refl e48 Fu (g := (mkF m 6 #[.val (.ref a), .val (.int ((0 : Int32) + (own_bc (f 0)))), .val (.int (1 : Int32))] [(.ref a), (.int (1 : Int32))])) rfl rfl (hb hby d13_6)
    refine own_go (A := T49.setTop (mkF m 9 #[.val (.ref a), .val (.int ((0 : Int32) + (own_bc (f 0)))), .val (.int (1 : Int32))] [(.int (3 : Int32)), (.int (1 : Int32))])) (fun _ kz => st49 _ kz) ?_
    refine own_go (A := T49.setTop (mkF m 14 #[.val (.ref a), .val (.int ((0 : Int32) + (own_bc (f 0)))), .val (.int (1 : Int32))] [(.ref a), (.int ((0 : Int32) + (own_bc (f 0))))])) (fun _ kz => ?_) ?_
    · show Steps p.tables e below (T49.setTop (mkF m 9 #[.val (.ref a), .val (.int ((0 : Int32) + (own_bc (f 0)))), .val (.int (1 : Int32))] [(.int (3 : Int32)), (.int (1 : Int32))])) _
      refine XS.icmpNo X49.here hx rfl (hb hby d13_9) rfl (tlt (by decide : ((1 : Int32) < (3 : Int32)))).2.1 ?_
      show Steps p.tables e below (T49.setTop (mkF m 12 #[.val (.ref a), .val (.int ((0 : Int32) + (own_bc (f 0)))), .val (.int (1 : Int32))] [])) _
      refine XS.iloadN X49.here hx rfl (hb hby d13_12) rfl ?_
      show Steps p.tables e below (T49.setTop (mkF m 13 #[.val (.ref a), .val (.int ((0 : Int32) + (own_bc (f 0)))), .val (.int (1 : Int32))] [(.int ((0 : Int32) + (own_bc (f 0))))])) _
      refine XS.aloadN X49.here hx rfl (hb hby d13_13) rfl rfl ?_
      exact kz
    obtain ⟨T50, X50, e50, st50⟩ := getF X49 hx hZ hown (host := "") (Or.inl (hw _ (List.mem_of_getElem? (i := 29) rfl))) Via.refl e49 Fw (g := (mkF m 14 #[.val (.ref a), .val (.int ((0 : Int32) + (own_bc (f 0)))), .val (.int (1 : Int32))] [(.ref a), (.int ((0 : Int32) + (own_bc (f 0))))])) rfl rfl (hb hby d13_14)
    refine own_go (A := T50.setTop (mkF m 17 #[.val (.ref a), .val (.int ((0 : Int32) + (own_bc (f 0)))), .val (.int (1 : Int32))] [(.ref w), (.int ((0 : Int32) + (own_bc (f 0))))])) (fun _ kz => st50 _ kz) ?_
    refine own_go (A := T50.setTop (mkF m 18 #[.val (.ref a), .val (.int ((0 : Int32) + (own_bc (f 0)))), .val (.int (1 : Int32))] [(.int (1 : Int32)), (.ref w), (.int ((0 : Int32) + (own_bc (f 0))))])) (fun _ kz => ?_) ?_
    · show Steps p.tables e below (T50.setTop (mkF m 17 #[.val (.ref a), .val (.int ((0 : Int32) + (own_bc (f 0)))), .val (.int (1 : Int32))] [(.ref w), (.int ((0 : Int32) + (own_bc (f 0))))])) _
      refine XS.iloadN X50.here hx rfl (hb hby d13_17) rfl ?_
      exact kz
    obtain ⟨cl51, Ar51, -, S51, M51, H51, -⟩ := id Av
    have hin51 : ¬ ((1 : Int32) < 0 ∨ cl51.slots.size ≤ ((1 : Int32)).toNatClampNeg) := inb_of S51 ⟨by decide, by decide⟩
    have hat51 : cl51.slots[((1 : Int32)).toNatClampNeg]? = some (.long (f 1)) := H51.at hin51 rfl
    refine own_go (A := T50.setTop (mkF m 19 #[.val (.ref a), .val (.int ((0 : Int32) + (own_bc (f 0)))), .val (.int (1 : Int32))] [(.long (f 1)), (.int ((0 : Int32) + (own_bc (f 0))))])) (fun _ kz => ?_) ?_
    · refine X50.laload hx (j := (1 : Int32)) (v := (.long (f 1))) (by rw [e50]; exact Ar51.1) (State.isArrayOf_alike hZ.alike Ar51.2.1) Ar51.2.2 hin51 hat51 (g := (mkF m 18 #[.val (.ref a), .val (.int ((0 : Int32) + (own_bc (f 0)))), .val (.int (1 : Int32))] [(.int (1 : Int32)), (.ref w), (.int ((0 : Int32) + (own_bc (f 0))))])) rfl rfl (hb hby d13_18) _ ?_
      exact kz
    obtain ⟨_, _, ⟨T52, L52, k52, n52⟩, -, X52, ⟨Lc52, hQ52, l52, y52, z52⟩, st52⟩ := Jvm.LawKit.callS X50 hx (y := (⟨"java/lang/Long", "bitCount", "(J)I"⟩ : MethodName)) hown (mvT hZ (hw _ (List.mem_of_getElem? (i := 80) rfl))) (mvT hZ (hw _ (List.mem_of_getElem? (i := 81) rfl))) (mvT hZ (hw _ (List.mem_of_getElem? (i := 82) rfl))) (mvT hZ (hw _ (List.mem_of_getElem? (i := 83) rfl))) (by decide) (backOf (W := 1) (rmBC l Z a0 hw [] (f 1) h0 n0 Z0) hZ (hw _ (List.mem_of_getElem? (i := 83) rfl)) (hw _ (List.mem_of_getElem? (i := 82) rfl)) (by decide) (by decide)) (g := (mkF m 19 #[.val (.ref a), .val (.int ((0 : Int32) + (own_bc (f 0)))), .val (.int (1 : Int32))] [(.long (f 1)), (.int ((0 : Int32) + (own_bc (f 0))))])) rfl (by rw [hml]; rfl) (argsL := [(.long (f 1))]) (rest := [(.int ((0 : Int32) + (own_bc (f 0))))]) (lenOf own_pd5 rfl) rfl (by show 2 * 0 + _ ≤ _; exact Nat.le_of_eq rfl) (hb hby d13_19) (fun _ _ => ⟨rfl, e50, (by decide : 0 + 0 ≤ _), (by decide : 0 + 0 ≤ _)⟩)
    dsimp only [Pt.U, Pt.locs, Pt.cells, Pt.slots] at X52 l52 y52 z52 st52 hQ52
    subst l52 y52 z52
    obtain ⟨rfl, N52q, e52⟩ := hQ52
    have N52 := Fr.app N48 N52q
    refine own_go (A := T52.setTop (mkF m 22 #[.val (.ref a), .val (.int ((0 : Int32) + (own_bc (f 0)))), .val (.int (1 : Int32))] [(.int (own_bc (f 1))), (.int ((0 : Int32) + (own_bc (f 0))))])) (fun _ kz => st52 _ kz) ?_
    refine own_go (A := T52.setTop (mkF m 6 #[.val (.ref a), .val (.int (((0 : Int32) + (own_bc (f 0))) + (own_bc (f 1)))), .val (.int (2 : Int32))] [(.ref a), (.int (2 : Int32))])) (fun _ kz => ?_) ?_
    · show Steps p.tables e below (T52.setTop (mkF m 22 #[.val (.ref a), .val (.int ((0 : Int32) + (own_bc (f 0)))), .val (.int (1 : Int32))] [(.int (own_bc (f 1))), (.int ((0 : Int32) + (own_bc (f 0))))])) _
      refine XS.iadd X52.here hx rfl (hb hby d13_22) rfl ?_
      show Steps p.tables e below (T52.setTop (mkF m 23 #[.val (.ref a), .val (.int ((0 : Int32) + (own_bc (f 0)))), .val (.int (1 : Int32))] [(.int (((0 : Int32) + (own_bc (f 0))) + (own_bc (f 1))))])) _
      refine XS.istoreN X52.here hx rfl (hb hby d13_23) rfl (l' := #[.val (.ref a), .val (.int (((0 : Int32) + (own_bc (f 0))) + (own_bc (f 1)))), .val (.int (1 : Int32))]) rfl ?_
      show Steps p.tables e below (T52.setTop (mkF m 24 #[.val (.ref a), .val (.int (((0 : Int32) + (own_bc (f 0))) + (own_bc (f 1)))), .val (.int (1 : Int32))] [])) _
      refine XS.iinc X52.here hx rfl (hb hby d13_24) rfl (l' := #[.val (.ref a), .val (.int (((0 : Int32) + (own_bc (f 0))) + (own_bc (f 1)))), .val (.int (2 : Int32))]) rfl ?_
      show Steps p.tables e below (T52.setTop (mkF m 27 #[.val (.ref a), .val (.int (((0 : Int32) + (own_bc (f 0))) + (own_bc (f 1)))), .val (.int (2 : Int32))] [])) _
      refine XS.goto X52.here hx rfl (pc0 := 27) (pc' := 4) rfl (hb hby d13_27) (by decide) (by decide) ?_
      show Steps p.tables e below (T52.setTop (mkF m 4 #[.val (.ref a), .val (.int (((0 : Int32) + (own_bc (f 0))) + (own_bc (f 1)))), .val (.int (2 : Int32))] [])) _
      refine XS.iloadN X52.here hx rfl (hb hby d13_4) rfl ?_
      show Steps p.tables e below (T52.setTop (mkF m 5 #[.val (.ref a), .val (.int (((0 : Int32) + (own_bc (f 0))) + (own_bc (f 1)))), .val (.int (2 : Int32))] [(.int (2 : Int32))])) _
      refine XS.aloadN X52.here hx rfl (hb hby d13_5) rfl rfl ?_
      exact kz
    obtain ⟨T53, X53, e53, st53⟩ := getF X52 hx hZ hown (host := "") (Or.inl (hw _ (List.mem_of_getElem? (i := 16) rfl))) Via.refl e52 Fu (g := (mkF m 6 #[.val (.ref a), .val (.int (((0 : Int32) + (own_bc (f 0))) + (own_bc (f 1)))), .val (.int (2 : Int32))] [(.ref a), (.int (2 : Int32))])) rfl rfl (hb hby d13_6)
    refine own_go (A := T53.setTop (mkF m 9 #[.val (.ref a), .val (.int (((0 : Int32) + (own_bc (f 0))) + (own_bc (f 1)))), .val (.int (2 : Int32))] [(.int (3 : Int32)), (.int (2 : Int32))])) (fun _ kz => st53 _ kz) ?_
    refine own_go (A := T53.setTop (mkF m 14 #[.val (.ref a), .val (.int (((0 : Int32) + (own_bc (f 0))) + (own_bc (f 1)))), .val (.int (2 : Int32))] [(.ref a), (.int (((0 : Int32) + (own_bc (f 0))) + (own_bc (f 1))))])) (fun _ kz => ?_) ?_
    · show Steps p.tables e below (T53.setTop (mkF m 9 #[.val (.ref a), .val (.int (((0 : Int32) + (own_bc (f 0))) + (own_bc (f 1)))), .val (.int (2 : Int32))] [(.int (3 : Int32)), (.int (2 : Int32))])) _
      refine XS.icmpNo X53.here hx rfl (hb hby d13_9) rfl (tlt (by decide : ((2 : Int32) < (3 : Int32)))).2.1 ?_
      show Steps p.tables e below (T53.setTop (mkF m 12 #[.val (.ref a), .val (.int (((0 : Int32) + (own_bc (f 0))) + (own_bc (f 1)))), .val (.int (2 : Int32))] [])) _
      refine XS.iloadN X53.here hx rfl (hb hby d13_12) rfl ?_
      show Steps p.tables e below (T53.setTop (mkF m 13 #[.val (.ref a), .val (.int (((0 : Int32) + (own_bc (f 0))) + (own_bc (f 1)))), .val (.int (2 : Int32))] [(.int (((0 : Int32) + (own_bc (f 0))) + (own_bc (f 1))))])) _
      refine XS.aloadN X53.here hx rfl (hb hby d13_13) rfl rfl ?_
      exact kz
    obtain ⟨T54, X54, e54, st54⟩ := getF X53 hx hZ hown (host := "") (Or.inl (hw _ (List.mem_of_getElem? (i := 29) rfl))) Via.refl e53 Fw (g := (mkF m 14 #[.val (.ref a), .val (.int (((0 : Int32) + (own_bc (f 0))) + (own_bc (f 1)))), .val (.int (2 : Int32))] [(.ref a), (.int (((0 : Int32) + (own_bc (f 0))) + (own_bc (f 1))))])) rfl rfl (hb hby d13_14)
    refine own_go (A := T54.setTop (mkF m 17 #[.val (.ref a), .val (.int (((0 : Int32) + (own_bc (f 0))) + (own_bc (f 1)))), .val (.int (2 : Int32))] [(.ref w), (.int (((0 : Int32) + (own_bc (f 0))) + (own_bc (f 1))))])) (fun _ kz => st54 _ kz) ?_
    refine own_go (A := T54.setTop (mkF m 18 #[.val (.ref a), .val (.int (((0 : Int32) + (own_bc (f 0))) + (own_bc (f 1)))), .val (.int (2 : Int32))] [(.int (2 : Int32)), (.ref w), (.int (((0 : Int32) + (own_bc (f 0))) + (own_bc (f 1))))])) (fun _ kz => ?_) ?_
    · show Steps p.tables e below (T54.setTop (mkF m 17 #[.val (.ref a), .val (.int (((0 : Int32) + (own_bc (f 0))) + (own_bc (f 1)))), .val (.int (2 : Int32))] [(.ref w), (.int (((0 : Int32) + (own_bc (f 0))) + (own_bc (f 1))))])) _
      refine XS.iloadN X54.here hx rfl (hb hby d13_17) rfl ?_
      exact kz
    obtain ⟨cl55, Ar55, -, S55, M55, H55, -⟩ := id Av
    have hin55 : ¬ ((2 : Int32) < 0 ∨ cl55.slots.size ≤ ((2 : Int32)).toNatClampNeg) := inb_of S55 ⟨by decide, by decide⟩
    have hat55 : cl55.slots[((2 : Int32)).toNatClampNeg]? = some (.long (f 2)) := H55.at hin55 rfl
    refine own_go (A := T54.setTop (mkF m 19 #[.val (.ref a), .val (.int (((0 : Int32) + (own_bc (f 0))) + (own_bc (f 1)))), .val (.int (2 : Int32))] [(.long (f 2)), (.int (((0 : Int32) + (own_bc (f 0))) + (own_bc (f 1))))])) (fun _ kz => ?_) ?_
    · refine X54.laload hx (j := (2 : Int32)) (v := (.long (f 2))) (by rw [e54]; exact Ar55.1) (State.isArrayOf_alike hZ.alike Ar55.2.1) Ar55.2.2 hin55 hat55 (g := (mkF m 18 #[.val (.ref a), .val (.int (((0 : Int32) + (own_bc (f 0))) + (own_bc (f 1)))), .val (.int (2 : Int32))] [(.int (2 : Int32)), (.ref w), (.int (((0 : Int32) + (own_bc (f 0))) + (own_bc (f 1))))])) rfl rfl (hb hby d13_18) _ ?_
      exact kz
    obtain ⟨_, _, ⟨T56, L56, k56, n56⟩, -, X56, ⟨Lc56, hQ56, l56, y56, z56⟩, st56⟩ := Jvm.LawKit.callS X54 hx (y := (⟨"java/lang/Long", "bitCount", "(J)I"⟩ : MethodName)) hown (mvT hZ (hw _ (List.mem_of_getElem? (i := 80) rfl))) (mvT hZ (hw _ (List.mem_of_getElem? (i := 81) rfl))) (mvT hZ (hw _ (List.mem_of_getElem? (i := 82) rfl))) (mvT hZ (hw _ (List.mem_of_getElem? (i := 83) rfl))) (by decide) (backOf (W := 1) (rmBC l Z a0 hw [] (f 2) h0 n0 Z0) hZ (hw _ (List.mem_of_getElem? (i := 83) rfl)) (hw _ (List.mem_of_getElem? (i := 82) rfl)) (by decide) (by decide)) (g := (mkF m 19 #[.val (.ref a), .val (.int (((0 : Int32) + (own_bc (f 0))) + (own_bc (f 1)))), .val (.int (2 : Int32))] [(.long (f 2)), (.int (((0 : Int32) + (own_bc (f 0))) + (own_bc (f 1))))])) rfl (by rw [hml]; rfl) (argsL := [(.long (f 2))]) (rest := [(.int (((0 : Int32) + (own_bc (f 0))) + (own_bc (f 1))))]) (lenOf own_pd5 rfl) rfl (by show 2 * 0 + _ ≤ _; exact Nat.le_of_eq rfl) (hb hby d13_19) (fun _ _ => ⟨rfl, e54, (by decide : 0 + 0 ≤ _), (by decide : 0 + 0 ≤ _)⟩)
    dsimp only [Pt.U, Pt.locs, Pt.cells, Pt.slots] at X56 l56 y56 z56 st56 hQ56
    subst l56 y56 z56
    obtain ⟨rfl, N56q, e56⟩ := hQ56
    have N56 := Fr.app N52 N56q
    refine own_go (A := T56.setTop (mkF m 22 #[.val (.ref a), .val (.int (((0 : Int32) + (own_bc (f 0))) + (own_bc (f 1)))), .val (.int (2 : Int32))] [(.int (own_bc (f 2))), (.int (((0 : Int32) + (own_bc (f 0))) + (own_bc (f 1))))])) (fun _ kz => st56 _ kz) ?_
    refine own_go (A := T56.setTop (mkF m 6 #[.val (.ref a), .val (.int ((((0 : Int32) + (own_bc (f 0))) + (own_bc (f 1))) + (own_bc (f 2)))), .val (.int (3 : Int32))] [(.ref a), (.int (3 : Int32))])) (fun _ kz => ?_) ?_
    · show Steps p.tables e below (T56.setTop (mkF m 22 #[.val (.ref a), .val (.int (((0 : Int32) + (own_bc (f 0))) + (own_bc (f 1)))), .val (.int (2 : Int32))] [(.int (own_bc (f 2))), (.int (((0 : Int32) + (own_bc (f 0))) + (own_bc (f 1))))])) _
      refine XS.iadd X56.here hx rfl (hb hby d13_22) rfl ?_
      show Steps p.tables e below (T56.setTop (mkF m 23 #[.val (.ref a), .val (.int (((0 : Int32) + (own_bc (f 0))) + (own_bc (f 1)))), .val (.int (2 : Int32))] [(.int ((((0 : Int32) + (own_bc (f 0))) + (own_bc (f 1))) + (own_bc (f 2))))])) _
      refine XS.istoreN X56.here hx rfl (hb hby d13_23) rfl (l' := #[.val (.ref a), .val (.int ((((0 : Int32) + (own_bc (f 0))) + (own_bc (f 1))) + (own_bc (f 2)))), .val (.int (2 : Int32))]) rfl ?_
      show Steps p.tables e below (T56.setTop (mkF m 24 #[.val (.ref a), .val (.int ((((0 : Int32) + (own_bc (f 0))) + (own_bc (f 1))) + (own_bc (f 2)))), .val (.int (2 : Int32))] [])) _
      refine XS.iinc X56.here hx rfl (hb hby d13_24) rfl (l' := #[.val (.ref a), .val (.int ((((0 : Int32) + (own_bc (f 0))) + (own_bc (f 1))) + (own_bc (f 2)))), .val (.int (3 : Int32))]) rfl ?_
      show Steps p.tables e below (T56.setTop (mkF m 27 #[.val (.ref a), .val (.int ((((0 : Int32) + (own_bc (f 0))) + (own_bc (f 1))) + (own_bc (f 2)))), .val (.int (3 : Int32))] [])) _
      refine XS.goto X56.here hx rfl (pc0 := 27) (pc' := 4) rfl (hb hby d13_27) (by decide) (by decide) ?_
      show Steps p.tables e below (T56.setTop (mkF m 4 #[.val (.ref a), .val (.int ((((0 : Int32) + (own_bc (f 0))) + (own_bc (f 1))) + (own_bc (f 2)))), .val (.int (3 : Int32))] [])) _
      refine XS.iloadN X56.here hx rfl (hb hby d13_4) rfl ?_
      show Steps p.tables e below (T56.setTop (mkF m 5 #[.val (.ref a), .val (.int ((((0 : Int32) + (own_bc (f 0))) + (own_bc (f 1))) + (own_bc (f 2)))), .val (.int (3 : Int32))] [(.int (3 : Int32))])) _
      refine XS.aloadN X56.here hx rfl (hb hby d13_5) rfl rfl ?_
      exact kz
    obtain ⟨T57, X57, e57, st57⟩ := getF X56 hx hZ hown (host := "") (Or.inl (hw _ (List.mem_of_getElem? (i := 16) rfl))) Via.refl e56 Fu (g := (mkF m 6 #[.val (.ref a), .val (.int ((((0 : Int32) + (own_bc (f 0))) + (own_bc (f 1))) + (own_bc (f 2)))), .val (.int (3 : Int32))] [(.ref a), (.int (3 : Int32))])) rfl rfl (hb hby d13_6)
    refine own_go (A := T57.setTop (mkF m 9 #[.val (.ref a), .val (.int ((((0 : Int32) + (own_bc (f 0))) + (own_bc (f 1))) + (own_bc (f 2)))), .val (.int (3 : Int32))] [(.int (3 : Int32)), (.int (3 : Int32))])) (fun _ kz => st57 _ kz) ?_
    refine own_go (A := T57.setTop (mkF m 31 #[.val (.ref a), .val (.int ((((0 : Int32) + (own_bc (f 0))) + (own_bc (f 1))) + (own_bc (f 2)))), .val (.int (3 : Int32))] [(.int ((((0 : Int32) + (own_bc (f 0))) + (own_bc (f 1))) + (own_bc (f 2))))])) (fun _ kz => ?_) ?_
    · show Steps p.tables e below (T57.setTop (mkF m 9 #[.val (.ref a), .val (.int ((((0 : Int32) + (own_bc (f 0))) + (own_bc (f 1))) + (own_bc (f 2)))), .val (.int (3 : Int32))] [(.int (3 : Int32)), (.int (3 : Int32))])) _
      refine XS.icmpYes X57.here hx rfl (pc0 := 9) (pc' := 30) rfl (hb hby d13_9) rfl (flt (by decide : ¬ ((3 : Int32) < (3 : Int32)))).2.1 (by decide) (by decide) ?_
      show Steps p.tables e below (T57.setTop (mkF m 30 #[.val (.ref a), .val (.int ((((0 : Int32) + (own_bc (f 0))) + (own_bc (f 1))) + (own_bc (f 2)))), .val (.int (3 : Int32))] [])) _
      refine XS.iloadN X57.here hx rfl (hb hby d13_30) rfl ?_
      exact kz
    obtain ⟨fs, hrr, hrun, hended, hW, hsame⟩ := X57.leave (v := some (.int ((((0 : Int32) + (own_bc (f 0))) + (own_bc (f 1))) + (own_bc (f 2))))) (fun h => by rw [Bd.returns] at h; cases h)
    refine ⟨_, _, ?_, hrun, hended, _, _, rfl, ?_, ⟨_, rfl⟩, hW, hsame.mono (by decide) (by decide)⟩
    · show Steps p.tables e below (T57.setTop (mkF m 31 #[.val (.ref a), .val (.int ((((0 : Int32) + (own_bc (f 0))) + (own_bc (f 1))) + (own_bc (f 2)))), .val (.int (3 : Int32))] [(.int ((((0 : Int32) + (own_bc (f 0))) + (own_bc (f 1))) + (own_bc (f 2))))])) _
      exact retI X57 hx Bd.returns (hb hby d13_31) hrr
    · show QrmCard Z r h0 n0 _ T57.heap _
      rw [e57]
      exact ⟨congrArg (fun z => some (Value.int z)) hr, N56, rfl⟩
  · skip
    replace Av : Arv Z h0 w kc .long (6 : Int32) [(.long (f 0)), (.long (f 1)), (.long (f 2)), (.long (f 3)), (.long (f 4)), (.long (f 5))] (.long (0 : Int64)) := Av
    refine own_go (A := s₁.setTop (mkF m 6 #[.val (.ref a), .val (.int (0 : Int32)), .val (.int (0 : Int32))] [(.ref a), (.int (0 : Int32))])) (fun _ kz => ?_) ?_
    · show Steps p.tables e below (s₁.setTop (mkF m 0 #[.val (.ref a), .unset, .unset] [])) _
      refine XS.iconst X0.here hx rfl (hb hby d13_0) ?_
      show Steps p.tables e below (s₁.setTop (mkF m 1 #[.val (.ref a), .unset, .unset] [(.int (0 : Int32))])) _
      refine XS.istoreN X0.here hx rfl (hb hby d13_1) rfl (l' := #[.val (.ref a), .val (.int (0 : Int32)), .unset]) rfl ?_
      show Steps p.tables e below (s₁.setTop (mkF m 2 #[.val (.ref a), .val (.int (0 : Int32)), .unset] [])) _
      refine XS.iconst X0.here hx rfl (hb hby d13_2) ?_
      show Steps p.tables e below (s₁.setTop (mkF m 3 #[.val (.ref a), .val (.int (0 : Int32)), .unset] [(.int (0 : Int32))])) _
      refine XS.istoreN X0.here hx rfl (hb hby d13_3) rfl (l' := #[.val (.ref a), .val (.int (0 : Int32)), .val (.int (0 : Int32))]) rfl ?_
      show Steps p.tables e below (s₁.setTop (mkF m 4 #[.val (.ref a), .val (.int (0 : Int32)), .val (.int (0 : Int32))] [])) _
      refine XS.iloadN X0.here hx rfl (hb hby d13_4) rfl ?_
      show Steps p.tables e below (s₁.setTop (mkF m 5 #[.val (.ref a), .val (.int (0 : Int32)), .val (.int (0 : Int32))] [(.int (0 : Int32))])) _
      refine XS.aloadN X0.here hx rfl (hb hby d13_5) rfl rfl ?_
      exact kz
    obtain ⟨T58, X58, e58, st58⟩ := getF X0 hx hZ hown (host := "") (Or.inl (hw _ (List.mem_of_getElem? (i := 16) rfl))) Via.refl e0 Fu (g := (mkF m 6 #[.val (.ref a), .val (.int (0 : Int32)), .val (.int (0 : Int32))] [(.ref a), (.int (0 : Int32))])) rfl rfl (hb hby d13_6)
    refine own_go (A := T58.setTop (mkF m 9 #[.val (.ref a), .val (.int (0 : Int32)), .val (.int (0 : Int32))] [(.int (4 : Int32)), (.int (0 : Int32))])) (fun _ kz => st58 _ kz) ?_
    refine own_go (A := T58.setTop (mkF m 14 #[.val (.ref a), .val (.int (0 : Int32)), .val (.int (0 : Int32))] [(.ref a), (.int (0 : Int32))])) (fun _ kz => ?_) ?_
    · show Steps p.tables e below (T58.setTop (mkF m 9 #[.val (.ref a), .val (.int (0 : Int32)), .val (.int (0 : Int32))] [(.int (4 : Int32)), (.int (0 : Int32))])) _
      refine XS.icmpNo X58.here hx rfl (hb hby d13_9) rfl (tlt (by decide : ((0 : Int32) < (4 : Int32)))).2.1 ?_
      show Steps p.tables e below (T58.setTop (mkF m 12 #[.val (.ref a), .val (.int (0 : Int32)), .val (.int (0 : Int32))] [])) _
      refine XS.iloadN X58.here hx rfl (hb hby d13_12) rfl ?_
      show Steps p.tables e below (T58.setTop (mkF m 13 #[.val (.ref a), .val (.int (0 : Int32)), .val (.int (0 : Int32))] [(.int (0 : Int32))])) _
      refine XS.aloadN X58.here hx rfl (hb hby d13_13) rfl rfl ?_
      exact kz
    obtain ⟨T59, X59, e59, st59⟩ := getF X58 hx hZ hown (host := "") (Or.inl (hw _ (List.mem_of_getElem? (i := 29) rfl))) Via.refl e58 Fw (g := (mkF m 14 #[.val (.ref a), .val (.int (0 : Int32)), .val (.int (0 : Int32))] [(.ref a), (.int (0 : Int32))])) rfl rfl (hb hby d13_14)
    refine own_go (A := T59.setTop (mkF m 17 #[.val (.ref a), .val (.int (0 : Int32)), .val (.int (0 : Int32))] [(.ref w), (.int (0 : Int32))])) (fun _ kz => st59 _ kz) ?_
    refine own_go (A := T59.setTop (mkF m 18 #[.val (.ref a), .val (.int (0 : Int32)), .val (.int (0 : Int32))] [(.int (0 : Int32)), (.ref w), (.int (0 : Int32))])) (fun _ kz => ?_) ?_
    · show Steps p.tables e below (T59.setTop (mkF m 17 #[.val (.ref a), .val (.int (0 : Int32)), .val (.int (0 : Int32))] [(.ref w), (.int (0 : Int32))])) _
      refine XS.iloadN X59.here hx rfl (hb hby d13_17) rfl ?_
      exact kz
    obtain ⟨cl60, Ar60, -, S60, M60, H60, -⟩ := id Av
    have hin60 : ¬ ((0 : Int32) < 0 ∨ cl60.slots.size ≤ ((0 : Int32)).toNatClampNeg) := inb_of S60 ⟨by decide, by decide⟩
    have hat60 : cl60.slots[((0 : Int32)).toNatClampNeg]? = some (.long (f 0)) := H60.at hin60 rfl
    refine own_go (A := T59.setTop (mkF m 19 #[.val (.ref a), .val (.int (0 : Int32)), .val (.int (0 : Int32))] [(.long (f 0)), (.int (0 : Int32))])) (fun _ kz => ?_) ?_
    · refine X59.laload hx (j := (0 : Int32)) (v := (.long (f 0))) (by rw [e59]; exact Ar60.1) (State.isArrayOf_alike hZ.alike Ar60.2.1) Ar60.2.2 hin60 hat60 (g := (mkF m 18 #[.val (.ref a), .val (.int (0 : Int32)), .val (.int (0 : Int32))] [(.int (0 : Int32)), (.ref w), (.int (0 : Int32))])) rfl rfl (hb hby d13_18) _ ?_
      exact kz
    obtain ⟨_, _, ⟨T61, L61, k61, n61⟩, -, X61, ⟨Lc61, hQ61, l61, y61, z61⟩, st61⟩ := Jvm.LawKit.callS X59 hx (y := (⟨"java/lang/Long", "bitCount", "(J)I"⟩ : MethodName)) hown (mvT hZ (hw _ (List.mem_of_getElem? (i := 80) rfl))) (mvT hZ (hw _ (List.mem_of_getElem? (i := 81) rfl))) (mvT hZ (hw _ (List.mem_of_getElem? (i := 82) rfl))) (mvT hZ (hw _ (List.mem_of_getElem? (i := 83) rfl))) (by decide) (backOf (W := 1) (rmBC l Z a0 hw [] (f 0) h0 n0 Z0) hZ (hw _ (List.mem_of_getElem? (i := 83) rfl)) (hw _ (List.mem_of_getElem? (i := 82) rfl)) (by decide) (by decide)) (g := (mkF m 19 #[.val (.ref a), .val (.int (0 : Int32)), .val (.int (0 : Int32))] [(.long (f 0)), (.int (0 : Int32))])) rfl (by rw [hml]; rfl) (argsL := [(.long (f 0))]) (rest := [(.int (0 : Int32))]) (lenOf own_pd5 rfl) rfl (by show 2 * 0 + _ ≤ _; exact Nat.le_of_eq rfl) (hb hby d13_19) (fun _ _ => ⟨rfl, e59, (by decide : 0 + 0 ≤ _), (by decide : 0 + 0 ≤ _)⟩)
    dsimp only [Pt.U, Pt.locs, Pt.cells, Pt.slots] at X61 l61 y61 z61 st61 hQ61
    subst l61 y61 z61
    obtain ⟨rfl, N61q, e61⟩ := hQ61
    have N61 := Fr.app N0 N61q
    refine own_go (A := T61.setTop (mkF m 22 #[.val (.ref a), .val (.int (0 : Int32)), .val (.int (0 : Int32))] [(.int (own_bc (f 0))), (.int (0 : Int32))])) (fun _ kz => st61 _ kz) ?_
    refine own_go (A := T61.setTop (mkF m 6 #[.val (.ref a), .val (.int ((0 : Int32) + (own_bc (f 0)))), .val (.int (1 : Int32))] [(.ref a), (.int (1 : Int32))])) (fun _ kz => ?_) ?_
    · show Steps p.tables e below (T61.setTop (mkF m 22 #[.val (.ref a), .val (.int (0 : Int32)), .val (.int (0 : Int32))] [(.int (own_bc (f 0))), (.int (0 : Int32))])) _
      refine XS.iadd X61.here hx rfl (hb hby d13_22) rfl ?_
      show Steps p.tables e below (T61.setTop (mkF m 23 #[.val (.ref a), .val (.int (0 : Int32)), .val (.int (0 : Int32))] [(.int ((0 : Int32) + (own_bc (f 0))))])) _
      refine XS.istoreN X61.here hx rfl (hb hby d13_23) rfl (l' := #[.val (.ref a), .val (.int ((0 : Int32) + (own_bc (f 0)))), .val (.int (0 : Int32))]) rfl ?_
      show Steps p.tables e below (T61.setTop (mkF m 24 #[.val (.ref a), .val (.int ((0 : Int32) + (own_bc (f 0)))), .val (.int (0 : Int32))] [])) _
      refine XS.iinc X61.here hx rfl (hb hby d13_24) rfl (l' := #[.val (.ref a), .val (.int ((0 : Int32) + (own_bc (f 0)))), .val (.int (1 : Int32))]) rfl ?_
      show Steps p.tables e below (T61.setTop (mkF m 27 #[.val (.ref a), .val (.int ((0 : Int32) + (own_bc (f 0)))), .val (.int (1 : Int32))] [])) _
      refine XS.goto X61.here hx rfl (pc0 := 27) (pc' := 4) rfl (hb hby d13_27) (by decide) (by decide) ?_
      show Steps p.tables e below (T61.setTop (mkF m 4 #[.val (.ref a), .val (.int ((0 : Int32) + (own_bc (f 0)))), .val (.int (1 : Int32))] [])) _
      refine XS.iloadN X61.here hx rfl (hb hby d13_4) rfl ?_
      show Steps p.tables e below (T61.setTop (mkF m 5 #[.val (.ref a), .val (.int ((0 : Int32) + (own_bc (f 0)))), .val (.int (1 : Int32))] [(.int (1 : Int32))])) _
      refine XS.aloadN X61.here hx rfl (hb hby d13_5) rfl rfl ?_
      exact kz
    obtain ⟨T62, X62, e62, st62⟩ := getF X61 hx hZ hown (host := "") (Or.inl (hw _ (List.mem_of_getElem? (i := 16) rfl))) Via.refl e61 Fu (g := (mkF m 6 #[.val (.ref a), .val (.int ((0 : Int32) + (own_bc (f 0)))), .val (.int (1 : Int32))] [(.ref a), (.int (1 : Int32))])) rfl rfl (hb hby d13_6)
    refine own_go (A := T62.setTop (mkF m 9 #[.val (.ref a), .val (.int ((0 : Int32) + (own_bc (f 0)))), .val (.int (1 : Int32))] [(.int (4 : Int32)), (.int (1 : Int32))])) (fun _ kz => st62 _ kz) ?_
    refine own_go (A := T62.setTop (mkF m 14 #[.val (.ref a), .val (.int ((0 : Int32) + (own_bc (f 0)))), .val (.int (1 : Int32))] [(.ref a), (.int ((0 : Int32) + (own_bc (f 0))))])) (fun _ kz => ?_) ?_
    · show Steps p.tables e below (T62.setTop (mkF m 9 #[.val (.ref a), .val (.int ((0 : Int32) + (own_bc (f 0)))), .val (.int (1 : Int32))] [(.int (4 : Int32)), (.int (1 : Int32))])) _
      refine XS.icmpNo X62.here hx rfl (hb hby d13_9) rfl (tlt (by decide : ((1 : Int32) < (4 : Int32)))).2.1 ?_
      show Steps p.tables e below (T62.setTop (mkF m 12 #[.val (.ref a), .val (.int ((0 : Int32) + (own_bc (f 0)))), .val (.int (1 : Int32))] [])) _
      refine XS.iloadN X62.here hx rfl (hb hby d13_12) rfl ?_
      show Steps p.tables e below (T62.setTop (mkF m 13 #[.val (.ref a), .val (.int ((0 : Int32) + (own_bc (f 0)))), .val (.int (1 : Int32))] [(.int ((0 : Int32) + (own_bc (f 0))))])) _
      refine XS.aloadN X62.here hx rfl (hb hby d13_13) rfl rfl ?_
      exact kz
    obtain ⟨T63, X63, e63, st63⟩ := getF X62 hx hZ hown (host := "") (Or.inl (hw _ (List.mem_of_getElem? (i := 29) rfl))) Via.refl e62 Fw (g := (mkF m 14 #[.val (.ref a), .val (.int ((0 : Int32) + (own_bc (f 0)))), .val (.int (1 : Int32))] [(.ref a), (.int ((0 : Int32) + (own_bc (f 0))))])) rfl rfl (hb hby d13_14)
    refine own_go (A := T63.setTop (mkF m 17 #[.val (.ref a), .val (.int ((0 : Int32) + (own_bc (f 0)))), .val (.int (1 : Int32))] [(.ref w), (.int ((0 : Int32) + (own_bc (f 0))))])) (fun _ kz => st63 _ kz) ?_
    refine own_go (A := T63.setTop (mkF m 18 #[.val (.ref a), .val (.int ((0 : Int32) + (own_bc (f 0)))), .val (.int (1 : Int32))] [(.int (1 : Int32)), (.ref w), (.int ((0 : Int32) + (own_bc (f 0))))])) (fun _ kz => ?_) ?_
    · show Steps p.tables e below (T63.setTop (mkF m 17 #[.val (.ref a), .val (.int ((0 : Int32) + (own_bc (f 0)))), .val (.int (1 : Int32))] [(.ref w), (.int ((0 : Int32) + (own_bc (f 0))))])) _
      refine XS.iloadN X63.here hx rfl (hb hby d13_17) rfl ?_
      exact kz
    obtain ⟨cl64, Ar64, -, S64, M64, H64, -⟩ := id Av
    have hin64 : ¬ ((1 : Int32) < 0 ∨ cl64.slots.size ≤ ((1 : Int32)).toNatClampNeg) := inb_of S64 ⟨by decide, by decide⟩
    have hat64 : cl64.slots[((1 : Int32)).toNatClampNeg]? = some (.long (f 1)) := H64.at hin64 rfl
    refine own_go (A := T63.setTop (mkF m 19 #[.val (.ref a), .val (.int ((0 : Int32) + (own_bc (f 0)))), .val (.int (1 : Int32))] [(.long (f 1)), (.int ((0 : Int32) + (own_bc (f 0))))])) (fun _ kz => ?_) ?_
    · refine X63.laload hx (j := (1 : Int32)) (v := (.long (f 1))) (by rw [e63]; exact Ar64.1) (State.isArrayOf_alike hZ.alike Ar64.2.1) Ar64.2.2 hin64 hat64 (g := (mkF m 18 #[.val (.ref a), .val (.int ((0 : Int32) + (own_bc (f 0)))), .val (.int (1 : Int32))] [(.int (1 : Int32)), (.ref w), (.int ((0 : Int32) + (own_bc (f 0))))])) rfl rfl (hb hby d13_18) _ ?_
      exact kz
    obtain ⟨_, _, ⟨T65, L65, k65, n65⟩, -, X65, ⟨Lc65, hQ65, l65, y65, z65⟩, st65⟩ := Jvm.LawKit.callS X63 hx (y := (⟨"java/lang/Long", "bitCount", "(J)I"⟩ : MethodName)) hown (mvT hZ (hw _ (List.mem_of_getElem? (i := 80) rfl))) (mvT hZ (hw _ (List.mem_of_getElem? (i := 81) rfl))) (mvT hZ (hw _ (List.mem_of_getElem? (i := 82) rfl))) (mvT hZ (hw _ (List.mem_of_getElem? (i := 83) rfl))) (by decide) (backOf (W := 1) (rmBC l Z a0 hw [] (f 1) h0 n0 Z0) hZ (hw _ (List.mem_of_getElem? (i := 83) rfl)) (hw _ (List.mem_of_getElem? (i := 82) rfl)) (by decide) (by decide)) (g := (mkF m 19 #[.val (.ref a), .val (.int ((0 : Int32) + (own_bc (f 0)))), .val (.int (1 : Int32))] [(.long (f 1)), (.int ((0 : Int32) + (own_bc (f 0))))])) rfl (by rw [hml]; rfl) (argsL := [(.long (f 1))]) (rest := [(.int ((0 : Int32) + (own_bc (f 0))))]) (lenOf own_pd5 rfl) rfl (by show 2 * 0 + _ ≤ _; exact Nat.le_of_eq rfl) (hb hby d13_19) (fun _ _ => ⟨rfl, e63, (by decide : 0 + 0 ≤ _), (by decide : 0 + 0 ≤ _)⟩)
    dsimp only [Pt.U, Pt.locs, Pt.cells, Pt.slots] at X65 l65 y65 z65 st65 hQ65
    subst l65 y65 z65
    obtain ⟨rfl, N65q, e65⟩ := hQ65
    have N65 := Fr.app N61 N65q
    refine own_go (A := T65.setTop (mkF m 22 #[.val (.ref a), .val (.int ((0 : Int32) + (own_bc (f 0)))), .val (.int (1 : Int32))] [(.int (own_bc (f 1))), (.int ((0 : Int32) + (own_bc (f 0))))])) (fun _ kz => st65 _ kz) ?_
    refine own_go (A := T65.setTop (mkF m 6 #[.val (.ref a), .val (.int (((0 : Int32) + (own_bc (f 0))) + (own_bc (f 1)))), .val (.int (2 : Int32))] [(.ref a), (.int (2 : Int32))])) (fun _ kz => ?_) ?_
    · show Steps p.tables e below (T65.setTop (mkF m 22 #[.val (.ref a), .val (.int ((0 : Int32) + (own_bc (f 0)))), .val (.int (1 : Int32))] [(.int (own_bc (f 1))), (.int ((0 : Int32) + (own_bc (f 0))))])) _
      refine XS.iadd X65.here hx rfl (hb hby d13_22) rfl ?_
      show Steps p.tables e below (T65.setTop (mkF m 23 #[.val (.ref a), .val (.int ((0 : Int32) + (own_bc (f 0)))), .val (.int (1 : Int32))] [(.int (((0 : Int32) + (own_bc (f 0))) + (own_bc (f 1))))])) _
      refine XS.istoreN X65.here hx rfl (hb hby d13_23) rfl (l' := #[.val (.ref a), .val (.int (((0 : Int32) + (own_bc (f 0))) + (own_bc (f 1)))), .val (.int (1 : Int32))]) rfl ?_
      show Steps p.tables e below (T65.setTop (mkF m 24 #[.val (.ref a), .val (.int (((0 : Int32) + (own_bc (f 0))) + (own_bc (f 1)))), .val (.int (1 : Int32))] [])) _
      refine XS.iinc X65.here hx rfl (hb hby d13_24) rfl (l' := #[.val (.ref a), .val (.int (((0 : Int32) + (own_bc (f 0))) + (own_bc (f 1)))), .val (.int (2 : Int32))]) rfl ?_
      show Steps p.tables e below (T65.setTop (mkF m 27 #[.val (.ref a), .val (.int (((0 : Int32) + (own_bc (f 0))) + (own_bc (f 1)))), .val (.int (2 : Int32))] [])) _
      refine XS.goto X65.here hx rfl (pc0 := 27) (pc' := 4) rfl (hb hby d13_27) (by decide) (by decide) ?_
      show Steps p.tables e below (T65.setTop (mkF m 4 #[.val (.ref a), .val (.int (((0 : Int32) + (own_bc (f 0))) + (own_bc (f 1)))), .val (.int (2 : Int32))] [])) _
      refine XS.iloadN X65.here hx rfl (hb hby d13_4) rfl ?_
      show Steps p.tables e below (T65.setTop (mkF m 5 #[.val (.ref a), .val (.int (((0 : Int32) + (own_bc (f 0))) + (own_bc (f 1)))), .val (.int (2 : Int32))] [(.int (2 : Int32))])) _
      refine XS.aloadN X65.here hx rfl (hb hby d13_5) rfl rfl ?_
      exact kz
    obtain ⟨T66, X66, e66, st66⟩ := getF X65 hx hZ hown (host := "") (Or.inl (hw _ (List.mem_of_getElem? (i := 16) rfl))) Via.refl e65 Fu (g := (mkF m 6 #[.val (.ref a), .val (.int (((0 : Int32) + (own_bc (f 0))) + (own_bc (f 1)))), .val (.int (2 : Int32))] [(.ref a), (.int (2 : Int32))])) rfl rfl (hb hby d13_6)
    refine own_go (A := T66.setTop (mkF m 9 #[.val (.ref a), .val (.int (((0 : Int32) + (own_bc (f 0))) + (own_bc (f 1)))), .val (.int (2 : Int32))] [(.int (4 : Int32)), (.int (2 : Int32))])) (fun _ kz => st66 _ kz) ?_
    refine own_go (A := T66.setTop (mkF m 14 #[.val (.ref a), .val (.int (((0 : Int32) + (own_bc (f 0))) + (own_bc (f 1)))), .val (.int (2 : Int32))] [(.ref a), (.int (((0 : Int32) + (own_bc (f 0))) + (own_bc (f 1))))])) (fun _ kz => ?_) ?_
    · show Steps p.tables e below (T66.setTop (mkF m 9 #[.val (.ref a), .val (.int (((0 : Int32) + (own_bc (f 0))) + (own_bc (f 1)))), .val (.int (2 : Int32))] [(.int (4 : Int32)), (.int (2 : Int32))])) _
      refine XS.icmpNo X66.here hx rfl (hb hby d13_9) rfl (tlt (by decide : ((2 : Int32) < (4 : Int32)))).2.1 ?_
      show Steps p.tables e below (T66.setTop (mkF m 12 #[.val (.ref a), .val (.int (((0 : Int32) + (own_bc (f 0))) + (own_bc (f 1)))), .val (.int (2 : Int32))] [])) _
      refine XS.iloadN X66.here hx rfl (hb hby d13_12) rfl ?_
      show Steps p.tables e below (T66.setTop (mkF m 13 #[.val (.ref a), .val (.int (((0 : Int32) + (own_bc (f 0))) + (own_bc (f 1)))), .val (.int (2 : Int32))] [(.int (((0 : Int32) + (own_bc (f 0))) + (own_bc (f 1))))])) _
      refine XS.aloadN X66.here hx rfl (hb hby d13_13) rfl rfl ?_
      exact kz
    obtain ⟨T67, X67, e67, st67⟩ := getF X66 hx hZ hown (host := "") (Or.inl (hw _ (List.mem_of_getElem? (i := 29) rfl))) Via.refl e66 Fw (g := (mkF m 14 #[.val (.ref a), .val (.int (((0 : Int32) + (own_bc (f 0))) + (own_bc (f 1)))), .val (.int (2 : Int32))] [(.ref a), (.int (((0 : Int32) + (own_bc (f 0))) + (own_bc (f 1))))])) rfl rfl (hb hby d13_14)
    refine own_go (A := T67.setTop (mkF m 17 #[.val (.ref a), .val (.int (((0 : Int32) + (own_bc (f 0))) + (own_bc (f 1)))), .val (.int (2 : Int32))] [(.ref w), (.int (((0 : Int32) + (own_bc (f 0))) + (own_bc (f 1))))])) (fun _ kz => st67 _ kz) ?_
    refine own_go (A := T67.setTop (mkF m 18 #[.val (.ref a), .val (.int (((0 : Int32) + (own_bc (f 0))) + (own_bc (f 1)))), .val (.int (2 : Int32))] [(.int (2 : Int32)), (.ref w), (.int (((0 : Int32) + (own_bc (f 0))) + (own_bc (f 1))))])) (fun _ kz => ?_) ?_
    · show Steps p.tables e below (T67.setTop (mkF m 17 #[.val (.ref a), .val (.int (((0 : Int32) + (own_bc (f 0))) + (own_bc (f 1)))), .val (.int (2 : Int32))] [(.ref w), (.int (((0 : Int32) + (own_bc (f 0))) + (own_bc (f 1))))])) _
      refine XS.iloadN X67.here hx rfl (hb hby d13_17) rfl ?_
      exact kz
    obtain ⟨cl68, Ar68, -, S68, M68, H68, -⟩ := id Av
    have hin68 : ¬ ((2 : Int32) < 0 ∨ cl68.slots.size ≤ ((2 : Int32)).toNatClampNeg) := inb_of S68 ⟨by decide, by decide⟩
    have hat68 : cl68.slots[((2 : Int32)).toNatClampNeg]? = some (.long (f 2)) := H68.at hin68 rfl
    refine own_go (A := T67.setTop (mkF m 19 #[.val (.ref a), .val (.int (((0 : Int32) + (own_bc (f 0))) + (own_bc (f 1)))), .val (.int (2 : Int32))] [(.long (f 2)), (.int (((0 : Int32) + (own_bc (f 0))) + (own_bc (f 1))))])) (fun _ kz => ?_) ?_
    · refine X67.laload hx (j := (2 : Int32)) (v := (.long (f 2))) (by rw [e67]; exact Ar68.1) (State.isArrayOf_alike hZ.alike Ar68.2.1) Ar68.2.2 hin68 hat68 (g := (mkF m 18 #[.val (.ref a), .val (.int (((0 : Int32) + (own_bc (f 0))) + (own_bc (f 1)))), .val (.int (2 : Int32))] [(.int (2 : Int32)), (.ref w), (.int (((0 : Int32) + (own_bc (f 0))) + (own_bc (f 1))))])) rfl rfl (hb hby d13_18) _ ?_
      exact kz
    obtain ⟨_, _, ⟨T69, L69, k69, n69⟩, -, X69, ⟨Lc69, hQ69, l69, y69, z69⟩, st69⟩ := Jvm.LawKit.callS X67 hx (y := (⟨"java/lang/Long", "bitCount", "(J)I"⟩ : MethodName)) hown (mvT hZ (hw _ (List.mem_of_getElem? (i := 80) rfl))) (mvT hZ (hw _ (List.mem_of_getElem? (i := 81) rfl))) (mvT hZ (hw _ (List.mem_of_getElem? (i := 82) rfl))) (mvT hZ (hw _ (List.mem_of_getElem? (i := 83) rfl))) (by decide) (backOf (W := 1) (rmBC l Z a0 hw [] (f 2) h0 n0 Z0) hZ (hw _ (List.mem_of_getElem? (i := 83) rfl)) (hw _ (List.mem_of_getElem? (i := 82) rfl)) (by decide) (by decide)) (g := (mkF m 19 #[.val (.ref a), .val (.int (((0 : Int32) + (own_bc (f 0))) + (own_bc (f 1)))), .val (.int (2 : Int32))] [(.long (f 2)), (.int (((0 : Int32) + (own_bc (f 0))) + (own_bc (f 1))))])) rfl (by rw [hml]; rfl) (argsL := [(.long (f 2))]) (rest := [(.int (((0 : Int32) + (own_bc (f 0))) + (own_bc (f 1))))]) (lenOf own_pd5 rfl) rfl (by show 2 * 0 + _ ≤ _; exact Nat.le_of_eq rfl) (hb hby d13_19) (fun _ _ => ⟨rfl, e67, (by decide : 0 + 0 ≤ _), (by decide : 0 + 0 ≤ _)⟩)
    dsimp only [Pt.U, Pt.locs, Pt.cells, Pt.slots] at X69 l69 y69 z69 st69 hQ69
    subst l69 y69 z69
    obtain ⟨rfl, N69q, e69⟩ := hQ69
    have N69 := Fr.app N65 N69q
    refine own_go (A := T69.setTop (mkF m 22 #[.val (.ref a), .val (.int (((0 : Int32) + (own_bc (f 0))) + (own_bc (f 1)))), .val (.int (2 : Int32))] [(.int (own_bc (f 2))), (.int (((0 : Int32) + (own_bc (f 0))) + (own_bc (f 1))))])) (fun _ kz => st69 _ kz) ?_
    refine own_go (A := T69.setTop (mkF m 6 #[.val (.ref a), .val (.int ((((0 : Int32) + (own_bc (f 0))) + (own_bc (f 1))) + (own_bc (f 2)))), .val (.int (3 : Int32))] [(.ref a), (.int (3 : Int32))])) (fun _ kz => ?_) ?_
    · show Steps p.tables e below (T69.setTop (mkF m 22 #[.val (.ref a), .val (.int (((0 : Int32) + (own_bc (f 0))) + (own_bc (f 1)))), .val (.int (2 : Int32))] [(.int (own_bc (f 2))), (.int (((0 : Int32) + (own_bc (f 0))) + (own_bc (f 1))))])) _
      refine XS.iadd X69.here hx rfl (hb hby d13_22) rfl ?_
      show Steps p.tables e below (T69.setTop (mkF m 23 #[.val (.ref a), .val (.int (((0 : Int32) + (own_bc (f 0))) + (own_bc (f 1)))), .val (.int (2 : Int32))] [(.int ((((0 : Int32) + (own_bc (f 0))) + (own_bc (f 1))) + (own_bc (f 2))))])) _
      refine XS.istoreN X69.here hx rfl (hb hby d13_23) rfl (l' := #[.val (.ref a), .val (.int ((((0 : Int32) + (own_bc (f 0))) + (own_bc (f 1))) + (own_bc (f 2)))), .val (.int (2 : Int32))]) rfl ?_
      show Steps p.tables e below (T69.setTop (mkF m 24 #[.val (.ref a), .val (.int ((((0 : Int32) + (own_bc (f 0))) + (own_bc (f 1))) + (own_bc (f 2)))), .val (.int (2 : Int32))] [])) _
      refine XS.iinc X69.here hx rfl (hb hby d13_24) rfl (l' := #[.val (.ref a), .val (.int ((((0 : Int32) + (own_bc (f 0))) + (own_bc (f 1))) + (own_bc (f 2)))), .val (.int (3 : Int32))]) rfl ?_
      show Steps p.tables e below (T69.setTop (mkF m 27 #[.val (.ref a), .val (.int ((((0 : Int32) + (own_bc (f 0))) + (own_bc (f 1))) + (own_bc (f 2)))), .val (.int (3 : Int32))] [])) _
      refine XS.goto X69.here hx rfl (pc0 := 27) (pc' := 4) rfl (hb hby d13_27) (by decide) (by decide) ?_
      show Steps p.tables e below (T69.setTop (mkF m 4 #[.val (.ref a), .val (.int ((((0 : Int32) + (own_bc (f 0))) + (own_bc (f 1))) + (own_bc (f 2)))), .val (.int (3 : Int32))] [])) _
      refine XS.iloadN X69.here hx rfl (hb hby d13_4) rfl ?_
      show Steps p.tables e below (T69.setTop (mkF m 5 #[.val (.ref a), .val (.int ((((0 : Int32) + (own_bc (f 0))) + (own_bc (f 1))) + (own_bc (f 2)))), .val (.int (3 : Int32))] [(.int (3 : Int32))])) _
      refine XS.aloadN X69.here hx rfl (hb hby d13_5) rfl rfl ?_
      exact kz
    obtain ⟨T70, X70, e70, st70⟩ := getF X69 hx hZ hown (host := "") (Or.inl (hw _ (List.mem_of_getElem? (i := 16) rfl))) Via.refl e69 Fu (g := (mkF m 6 #[.val (.ref a), .val (.int ((((0 : Int32) + (own_bc (f 0))) + (own_bc (f 1))) + (own_bc (f 2)))), .val (.int (3 : Int32))] [(.ref a), (.int (3 : Int32))])) rfl rfl (hb hby d13_6)
    refine own_go (A := T70.setTop (mkF m 9 #[.val (.ref a), .val (.int ((((0 : Int32) + (own_bc (f 0))) + (own_bc (f 1))) + (own_bc (f 2)))), .val (.int (3 : Int32))] [(.int (4 : Int32)), (.int (3 : Int32))])) (fun _ kz => st70 _ kz) ?_
    refine own_go (A := T70.setTop (mkF m 14 #[.val (.ref a), .val (.int ((((0 : Int32) + (own_bc (f 0))) + (own_bc (f 1))) + (own_bc (f 2)))), .val (.int (3 : Int32))] [(.ref a), (.int ((((0 : Int32) + (own_bc (f 0))) + (own_bc (f 1))) + (own_bc (f 2))))])) (fun _ kz => ?_) ?_
    · show Steps p.tables e below (T70.setTop (mkF m 9 #[.val (.ref a), .val (.int ((((0 : Int32) + (own_bc (f 0))) + (own_bc (f 1))) + (own_bc (f 2)))), .val (.int (3 : Int32))] [(.int (4 : Int32)), (.int (3 : Int32))])) _
      refine XS.icmpNo X70.here hx rfl (hb hby d13_9) rfl (tlt (by decide : ((3 : Int32) < (4 : Int32)))).2.1 ?_
      show Steps p.tables e below (T70.setTop (mkF m 12 #[.val (.ref a), .val (.int ((((0 : Int32) + (own_bc (f 0))) + (own_bc (f 1))) + (own_bc (f 2)))), .val (.int (3 : Int32))] [])) _
      refine XS.iloadN X70.here hx rfl (hb hby d13_12) rfl ?_
      show Steps p.tables e below (T70.setTop (mkF m 13 #[.val (.ref a), .val (.int ((((0 : Int32) + (own_bc (f 0))) + (own_bc (f 1))) + (own_bc (f 2)))), .val (.int (3 : Int32))] [(.int ((((0 : Int32) + (own_bc (f 0))) + (own_bc (f 1))) + (own_bc (f 2))))])) _
      refine XS.aloadN X70.here hx rfl (hb hby d13_13) rfl rfl ?_
      exact kz
    obtain ⟨T71, X71, e71, st71⟩ := getF X70 hx hZ hown (host := "") (Or.inl (hw _ (List.mem_of_getElem? (i := 29) rfl))) Via.refl e70 Fw (g := (mkF m 14 #[.val (.ref a), .val (.int ((((0 : Int32) + (own_bc (f 0))) + (own_bc (f 1))) + (own_bc (f 2)))), .val (.int (3 : Int32))] [(.ref a), (.int ((((0 : Int32) + (own_bc (f 0))) + (own_bc (f 1))) + (own_bc (f 2))))])) rfl rfl (hb hby d13_14)
    refine own_go (A := T71.setTop (mkF m 17 #[.val (.ref a), .val (.int ((((0 : Int32) + (own_bc (f 0))) + (own_bc (f 1))) + (own_bc (f 2)))), .val (.int (3 : Int32))] [(.ref w), (.int ((((0 : Int32) + (own_bc (f 0))) + (own_bc (f 1))) + (own_bc (f 2))))])) (fun _ kz => st71 _ kz) ?_
    refine own_go (A := T71.setTop (mkF m 18 #[.val (.ref a), .val (.int ((((0 : Int32) + (own_bc (f 0))) + (own_bc (f 1))) + (own_bc (f 2)))), .val (.int (3 : Int32))] [(.int (3 : Int32)), (.ref w), (.int ((((0 : Int32) + (own_bc (f 0))) + (own_bc (f 1))) + (own_bc (f 2))))])) (fun _ kz => ?_) ?_
    · show Steps p.tables e below (T71.setTop (mkF m 17 #[.val (.ref a), .val (.int ((((0 : Int32) + (own_bc (f 0))) + (own_bc (f 1))) + (own_bc (f 2)))), .val (.int (3 : Int32))] [(.ref w), (.int ((((0 : Int32) + (own_bc (f 0))) + (own_bc (f 1))) + (own_bc (f 2))))])) _
      refine XS.iloadN X71.here hx rfl (hb hby d13_17) rfl ?_
      exact kz
    obtain ⟨cl72, Ar72, -, S72, M72, H72, -⟩ := id Av
    have hin72 : ¬ ((3 : Int32) < 0 ∨ cl72.slots.size ≤ ((3 : Int32)).toNatClampNeg) := inb_of S72 ⟨by decide, by decide⟩
    have hat72 : cl72.slots[((3 : Int32)).toNatClampNeg]? = some (.long (f 3)) := H72.at hin72 rfl
    refine own_go (A := T71.setTop (mkF m 19 #[.val (.ref a), .val (.int ((((0 : Int32) + (own_bc (f 0))) + (own_bc (f 1))) + (own_bc (f 2)))), .val (.int (3 : Int32))] [(.long (f 3)), (.int ((((0 : Int32) + (own_bc (f 0))) + (own_bc (f 1))) + (own_bc (f 2))))])) (fun _ kz => ?_) ?_
    · refine X71.laload hx (j := (3 : Int32)) (v := (.long (f 3))) (by rw [e71]; exact Ar72.1) (State.isArrayOf_alike hZ.alike Ar72.2.1) Ar72.2.2 hin72 hat72 (g := (mkF m 18 #[.val (.ref a), .val (.int ((((0 : Int32) + (own_bc (f 0))) + (own_bc (f 1))) + (own_bc (f 2)))), .val (.int (3 : Int32))] [(.int (3 : Int32)), (.ref w), (.int ((((0 : Int32) + (own_bc (f 0))) + (own_bc (f 1))) + (own_bc (f 2))))])) rfl rfl (hb hby d13_18) _ ?_
      exact kz
    obtain ⟨_, _, ⟨T73, L73, k73, n73⟩, -, X73, ⟨Lc73, hQ73, l73, y73, z73⟩, st73⟩ := Jvm.LawKit.callS X71 hx (y := (⟨"java/lang/Long", "bitCount", "(J)I"⟩ : MethodName)) hown (mvT hZ (hw _ (List.mem_of_getElem? (i := 80) rfl))) (mvT hZ (hw _ (List.mem_of_getElem? (i := 81) rfl))) (mvT hZ (hw _ (List.mem_of_getElem? (i := 82) rfl))) (mvT hZ (hw _ (List.mem_of_getElem? (i := 83) rfl))) (by decide) (backOf (W := 1) (rmBC l Z a0 hw [] (f 3) h0 n0 Z0) hZ (hw _ (List.mem_of_getElem? (i := 83) rfl)) (hw _ (List.mem_of_getElem? (i := 82) rfl)) (by decide) (by decide)) (g := (mkF m 19 #[.val (.ref a), .val (.int ((((0 : Int32) + (own_bc (f 0))) + (own_bc (f 1))) + (own_bc (f 2)))), .val (.int (3 : Int32))] [(.long (f 3)), (.int ((((0 : Int32) + (own_bc (f 0))) + (own_bc (f 1))) + (own_bc (f 2))))])) rfl (by rw [hml]; rfl) (argsL := [(.long (f 3))]) (rest := [(.int ((((0 : Int32) + (own_bc (f 0))) + (own_bc (f 1))) + (own_bc (f 2))))]) (lenOf own_pd5 rfl) rfl (by show 2 * 0 + _ ≤ _; exact Nat.le_of_eq rfl) (hb hby d13_19) (fun _ _ => ⟨rfl, e71, (by decide : 0 + 0 ≤ _), (by decide : 0 + 0 ≤ _)⟩)
    dsimp only [Pt.U, Pt.locs, Pt.cells, Pt.slots] at X73 l73 y73 z73 st73 hQ73
    subst l73 y73 z73
    obtain ⟨rfl, N73q, e73⟩ := hQ73
    have N73 := Fr.app N69 N73q
    refine own_go (A := T73.setTop (mkF m 22 #[.val (.ref a), .val (.int ((((0 : Int32) + (own_bc (f 0))) + (own_bc (f 1))) + (own_bc (f 2)))), .val (.int (3 : Int32))] [(.int (own_bc (f 3))), (.int ((((0 : Int32) + (own_bc (f 0))) + (own_bc (f 1))) + (own_bc (f 2))))])) (fun _ kz => st73 _ kz) ?_
    refine own_go (A := T73.setTop (mkF m 6 #[.val (.ref a), .val (.int (((((0 : Int32) + (own_bc (f 0))) + (own_bc (f 1))) + (own_bc (f 2))) + (own_bc (f 3)))), .val (.int (4 : Int32))] [(.ref a), (.int (4 : Int32))])) (fun _ kz => ?_) ?_
    · show Steps p.tables e below (T73.setTop (mkF m 22 #[.val (.ref a), .val (.int ((((0 : Int32) + (own_bc (f 0))) + (own_bc (f 1))) + (own_bc (f 2)))), .val (.int (3 : Int32))] [(.int (own_bc (f 3))), (.int ((((0 : Int32) + (own_bc (f 0))) + (own_bc (f 1))) + (own_bc (f 2))))])) _
      refine XS.iadd X73.here hx rfl (hb hby d13_22) rfl ?_
      show Steps p.tables e below (T73.setTop (mkF m 23 #[.val (.ref a), .val (.int ((((0 : Int32) + (own_bc (f 0))) + (own_bc (f 1))) + (own_bc (f 2)))), .val (.int (3 : Int32))] [(.int (((((0 : Int32) + (own_bc (f 0))) + (own_bc (f 1))) + (own_bc (f 2))) + (own_bc (f 3))))])) _
      refine XS.istoreN X73.here hx rfl (hb hby d13_23) rfl (l' := #[.val (.ref a), .val (.int (((((0 : Int32) + (own_bc (f 0))) + (own_bc (f 1))) + (own_bc (f 2))) + (own_bc (f 3)))), .val (.int (3 : Int32))]) rfl ?_
      show Steps p.tables e below (T73.setTop (mkF m 24 #[.val (.ref a), .val (.int (((((0 : Int32) + (own_bc (f 0))) + (own_bc (f 1))) + (own_bc (f 2))) + (own_bc (f 3)))), .val (.int (3 : Int32))] [])) _
      refine XS.iinc X73.here hx rfl (hb hby d13_24) rfl (l' := #[.val (.ref a), .val (.int (((((0 : Int32) + (own_bc (f 0))) + (own_bc (f 1))) + (own_bc (f 2))) + (own_bc (f 3)))), .val (.int (4 : Int32))]) rfl ?_
      show Steps p.tables e below (T73.setTop (mkF m 27 #[.val (.ref a), .val (.int (((((0 : Int32) + (own_bc (f 0))) + (own_bc (f 1))) + (own_bc (f 2))) + (own_bc (f 3)))), .val (.int (4 : Int32))] [])) _
      refine XS.goto X73.here hx rfl (pc0 := 27) (pc' := 4) rfl (hb hby d13_27) (by decide) (by decide) ?_
      show Steps p.tables e below (T73.setTop (mkF m 4 #[.val (.ref a), .val (.int (((((0 : Int32) + (own_bc (f 0))) + (own_bc (f 1))) + (own_bc (f 2))) + (own_bc (f 3)))), .val (.int (4 : Int32))] [])) _
      refine XS.iloadN X73.here hx rfl (hb hby d13_4) rfl ?_
      show Steps p.tables e below (T73.setTop (mkF m 5 #[.val (.ref a), .val (.int (((((0 : Int32) + (own_bc (f 0))) + (own_bc (f 1))) + (own_bc (f 2))) + (own_bc (f 3)))), .val (.int (4 : Int32))] [(.int (4 : Int32))])) _
      refine XS.aloadN X73.here hx rfl (hb hby d13_5) rfl rfl ?_
      exact kz
    obtain ⟨T74, X74, e74, st74⟩ := getF X73 hx hZ hown (host := "") (Or.inl (hw _ (List.mem_of_getElem? (i := 16) rfl))) Via.refl e73 Fu (g := (mkF m 6 #[.val (.ref a), .val (.int (((((0 : Int32) + (own_bc (f 0))) + (own_bc (f 1))) + (own_bc (f 2))) + (own_bc (f 3)))), .val (.int (4 : Int32))] [(.ref a), (.int (4 : Int32))])) rfl rfl (hb hby d13_6)
    refine own_go (A := T74.setTop (mkF m 9 #[.val (.ref a), .val (.int (((((0 : Int32) + (own_bc (f 0))) + (own_bc (f 1))) + (own_bc (f 2))) + (own_bc (f 3)))), .val (.int (4 : Int32))] [(.int (4 : Int32)), (.int (4 : Int32))])) (fun _ kz => st74 _ kz) ?_
    refine own_go (A := T74.setTop (mkF m 31 #[.val (.ref a), .val (.int (((((0 : Int32) + (own_bc (f 0))) + (own_bc (f 1))) + (own_bc (f 2))) + (own_bc (f 3)))), .val (.int (4 : Int32))] [(.int (((((0 : Int32) + (own_bc (f 0))) + (own_bc (f 1))) + (own_bc (f 2))) + (own_bc (f 3))))])) (fun _ kz => ?_) ?_
    · show Steps p.tables e below (T74.setTop (mkF m 9 #[.val (.ref a), .val (.int (((((0 : Int32) + (own_bc (f 0))) + (own_bc (f 1))) + (own_bc (f 2))) + (own_bc (f 3)))), .val (.int (4 : Int32))] [(.int (4 : Int32)), (.int (4 : Int32))])) _
      refine XS.icmpYes X74.here hx rfl (pc0 := 9) (pc' := 30) rfl (hb hby d13_9) rfl (flt (by decide : ¬ ((4 : Int32) < (4 : Int32)))).2.1 (by decide) (by decide) ?_
      show Steps p.tables e below (T74.setTop (mkF m 30 #[.val (.ref a), .val (.int (((((0 : Int32) + (own_bc (f 0))) + (own_bc (f 1))) + (own_bc (f 2))) + (own_bc (f 3)))), .val (.int (4 : Int32))] [])) _
      refine XS.iloadN X74.here hx rfl (hb hby d13_30) rfl ?_
      exact kz
    obtain ⟨fs, hrr, hrun, hended, hW, hsame⟩ := X74.leave (v := some (.int (((((0 : Int32) + (own_bc (f 0))) + (own_bc (f 1))) + (own_bc (f 2))) + (own_bc (f 3))))) (fun h => by rw [Bd.returns] at h; cases h)
    refine ⟨_, _, ?_, hrun, hended, _, _, rfl, ?_, ⟨_, rfl⟩, hW, hsame.mono (by decide) (by decide)⟩
    · show Steps p.tables e below (T74.setTop (mkF m 31 #[.val (.ref a), .val (.int (((((0 : Int32) + (own_bc (f 0))) + (own_bc (f 1))) + (own_bc (f 2))) + (own_bc (f 3)))), .val (.int (4 : Int32))] [(.int (((((0 : Int32) + (own_bc (f 0))) + (own_bc (f 1))) + (own_bc (f 2))) + (own_bc (f 3))))])) _
      exact retI X74 hx Bd.returns (hb hby d13_31) hrr
    · show QrmCard Z r h0 n0 _ T74.heap _
      rw [e74]
      exact ⟨congrArg (fun z => some (Value.int z)) hr, N73, rfl⟩
theorem d4_0 : decode jdk_92_method_6_code 0 = .ok (.aload_n 0, 1) := by decide +kernel
theorem d4_1 : decode jdk_92_method_6_code 1 = .ok (.iload_n 1, 1) := by decide +kernel
theorem d4_2 : decode jdk_92_method_6_code 2 = .ok (.iconst 1, 1) := by decide +kernel
theorem d4_3 : decode jdk_92_method_6_code 3 = .ok (.isub, 1) := by decide +kernel
theorem d4_4 : decode jdk_92_method_6_code 4 = .ok (.invokestatic 52, 3) := by decide +kernel
theorem d4_7 : decode jdk_92_method_6_code 7 = .ok (.iconst 1, 1) := by decide +kernel
theorem d4_8 : decode jdk_92_method_6_code 8 = .ok (.iadd, 1) := by decide +kernel
theorem d4_9 : decode jdk_92_method_6_code 9 = .ok (.newarray .long, 2) := by decide +kernel
theorem d4_11 : decode jdk_92_method_6_code 11 = .ok (.putfield 11, 3) := by decide +kernel
theorem d4_14 : decode jdk_92_method_6_code 14 = .ok (.return_, 1) := by decide +kernel
theorem own_pn4 : plainName "java/util/BitSet" = true := by first | (simp [plainName, overriddenIn]; done) | decide +kernel
theorem own_ef4 (m : MethodId) (x0 : Addr) (x1 : Int32) : entryFrame m #[(.ref x0), (.int x1)] 2 = mkF m 0 #[.val (.ref x0), .val (.int x1)] [] := by first | (simp [entryFrame, mkF, argsToLocals, Value.category]; done) | rfl
def QrmIW (Z : State) (a : Addr) (h0 : Heap) (n0 : Nat) (v : Option Value) (h : Heap) (L : List Loc) : Prop := ∃ (w : Addr) (kc : ClassId), v = none ∧ Fr n0 L ∧ h0.size ≤ w ∧ Keep h0 h [a] ∧ Exa Z h a "java/util/BitSet" ∧ Fld Z h a "java/util/BitSet" "words" "[J" (.ref w) ∧ Fld Z h a "java/util/BitSet" "wordsInUse" "I" (.int (0 : Int32)) ∧ Fld Z h a "java/util/BitSet" "sizeIsSticky" "Z" (.int (0 : Int32)) ∧ Arv Z h w kc .long (1 : Int32) [(.long (0 : Int64))] (.long (0 : Int64))
set_option maxRecDepth 65536 in
set_option maxHeartbeats 40000000 in
theorem rmIW (l : Launch) (Z : State) (a0 : Array Value) (hw : ∀ d ∈ tables_1, d.before a0 Z = true) (ws : List Jvm.Cond) (a : Addr) (h0 : Heap) (n0 : Nat) (Z0 : n0 ≤ h0.size) (Ex : Exa Z h0 a "java/util/BitSet") (Fw : Fld Z h0 a "java/util/BitSet" "words" "[J" .null) (Fu : Fld Z h0 a "java/util/BitSet" "wordsInUse" "I" (.int (0 : Int32))) (Fs : Fld Z h0 a "java/util/BitSet" "sizeIsSticky" "Z" (.int (0 : Int32))) (g_a : n0 ≤ a) :
    MetFree l (⟨"java/util/BitSet", "initWords", "(I)V"⟩ : MethodName) (head1 (Jvm.Cond.code (⟨"java/util/BitSet", "initWords", "(I)V"⟩ : MethodName) jdk_92_method_6_code 2 none :: ws) ({ frames := 1, cells := 1, slots := 1, locals := 13 } : Room)) (fun ar_ U_ => ar_ = #[(.ref a), (.int (64 : Int32))] ∧ Z.Warmed39 U_.vm ∧ U_.heap = h0) (fun _ _ _ _ _ => True) (fun _ U_ ou_ V_ => ∃ v_ L_, ou_ = .returned v_ ∧ QrmIW Z a h0 n0 v_ V_.heap L_ ∧ FrameEnd U_ ou_ V_ L_ ({ frames := 1, cells := 1, slots := 1, locals := 13 } : Room).cells ({ frames := 1, cells := 1, slots := 1, locals := 13 } : Room).slots) := by
  refine MetFree.of_bodySF (plainFor_of_name own_pn4) hisR ?_
  intro p e s m args below meth c s₁ Bd hml0 hP hK
  obtain ⟨rfl, hZ, hh⟩ := hP
  have hx := Bd.exec
  have hby := Bd.bytes
  have hml : c.maxLocals = 2 := hml0
  have hown : s.vm.findClass "java/util/BitSet" = some m.cls := findClass_of_methodNamed Bd.named
  have hnm := (name_of_methodNamed Bd.named Bd.method).1
  have X0 : Stand p l e ({ frames := 1, cells := 1, slots := 1, locals := 13 } : Room) s m #[(.ref a), (.int (64 : Int32))] below meth c s₁ [] 0 0 := Stand.of_body Bd
  have e0 : s₁.heap = h0 := by rw [← hh, Bd.state]; rfl
  have N0 := Fr.nil n0
  have Kp0 : Keep h0 h0 [a] := Keep.refl h0 _
  refine own_go (A := s₁.setTop (mkF m 0 #[.val (.ref a), .val (.int (64 : Int32))] [])) (fun t kz => castTop (own_ef4 m a (64 : Int32)) kz) ?_
  refine own_go (A := s₁.setTop (mkF m 4 #[.val (.ref a), .val (.int (64 : Int32))] [(.int (63 : Int32)), (.ref a)])) (fun _ kz => ?_) ?_
  · show Steps p.tables e below (s₁.setTop (mkF m 0 #[.val (.ref a), .val (.int (64 : Int32))] [])) _
    refine XS.aloadN X0.here hx rfl (hb hby d4_0) rfl rfl ?_
    show Steps p.tables e below (s₁.setTop (mkF m 1 #[.val (.ref a), .val (.int (64 : Int32))] [(.ref a)])) _
    refine XS.iloadN X0.here hx rfl (hb hby d4_1) rfl ?_
    show Steps p.tables e below (s₁.setTop (mkF m 2 #[.val (.ref a), .val (.int (64 : Int32))] [(.int (64 : Int32)), (.ref a)])) _
    refine XS.iconst X0.here hx rfl (hb hby d4_2) ?_
    show Steps p.tables e below (s₁.setTop (mkF m 3 #[.val (.ref a), .val (.int (64 : Int32))] [(.int (1 : Int32)), (.int (64 : Int32)), (.ref a)])) _
    refine XS.isub X0.here hx rfl (hb hby d4_3) rfl ?_
    exact kz
  obtain ⟨_, _, ⟨T1, L1, k1, n1⟩, -, X1, ⟨Lc1, hQ1, l1, y1, z1⟩, st1⟩ := Jvm.LawKit.callS X0 hx (y := (⟨"java/util/BitSet", "wordIndex", "(I)I"⟩ : MethodName)) hown (mvT hZ (hw _ (List.mem_of_getElem? (i := 25) rfl))) (mvT hZ (hw _ (List.mem_of_getElem? (i := 26) rfl))) (mvT hZ (hw _ (List.mem_of_getElem? (i := 11) rfl))) (mvT hZ (hw _ (List.mem_of_getElem? (i := 27) rfl))) (by decide) (backOf (W := 1) (rmWI l Z a0 hw [] (63 : Int32) (0 : Int32) h0 n0 Z0 (by decide)) hZ (hw _ (List.mem_of_getElem? (i := 27) rfl)) (hw _ (List.mem_of_getElem? (i := 11) rfl)) (by decide) (by decide)) (g := (mkF m 4 #[.val (.ref a), .val (.int (64 : Int32))] [(.int (63 : Int32)), (.ref a)])) rfl (by rw [hml]; rfl) (argsL := [(.int (63 : Int32))]) (rest := [(.ref a)]) (lenOf own_pd3 rfl) rfl (by show 2 * 0 + _ ≤ _; exact Nat.le_of_eq rfl) (hb hby d4_4) (fun _ _ => ⟨rfl, e0, (by decide : 0 + 0 ≤ _), (by decide : 0 + 0 ≤ _)⟩)
  dsimp only [Pt.U, Pt.locs, Pt.cells, Pt.slots] at X1 l1 y1 z1 st1 hQ1
  subst l1 y1 z1
  obtain ⟨rfl, N1q, e1⟩ := hQ1
  have N1 := Fr.app N0 N1q
  refine own_go (A := T1.setTop (mkF m 7 #[.val (.ref a), .val (.int (64 : Int32))] [(.int (0 : Int32)), (.ref a)])) (fun _ kz => st1 _ kz) ?_
  refine own_go (A := T1.setTop (mkF m 9 #[.val (.ref a), .val (.int (64 : Int32))] [(.int (1 : Int32)), (.ref a)])) (fun _ kz => ?_) ?_
  · show Steps p.tables e below (T1.setTop (mkF m 7 #[.val (.ref a), .val (.int (64 : Int32))] [(.int (0 : Int32)), (.ref a)])) _
    refine XS.iconst X1.here hx rfl (hb hby d4_7) ?_
    show Steps p.tables e below (T1.setTop (mkF m 8 #[.val (.ref a), .val (.int (64 : Int32))] [(.int (1 : Int32)), (.int (0 : Int32)), (.ref a)])) _
    refine XS.iadd X1.here hx rfl (hb hby d4_8) rfl ?_
    exact kz
  obtain ⟨T2, h2, k2, X2, e2, E2, A2, st2⟩ := newP X1 hx hZ (hw _ (List.mem_of_getElem? (i := 28) rfl)) e1 (g := (mkF m 9 #[.val (.ref a), .val (.int (64 : Int32))] [(.int (1 : Int32)), (.ref a)])) rfl (hb hby d4_9) rfl (by decide) (cap := 1) (by decide) (by decide) (by decide) (by decide)
  obtain ⟨b2, gq2⟩ : ∃ z, z = h0.size := ⟨_, rfl⟩
  rw [← gq2] at A2 st2
  have g_b2 : n0 ≤ b2 := Nat.le_trans Z0 (Nat.le_of_eq gq2.symm)
  have ne_a_b2 : a ≠ b2 := Nat.ne_of_lt (Nat.lt_of_lt_of_le Ex.lt (Nat.le_of_eq gq2.symm))
  have szk_b2 : h0.size ≤ b2 := Nat.le_trans Kp0.1 (Nat.le_of_eq gq2.symm)
  replace Ex := Ex.ext E2
  replace Fw := Fw.ext E2
  replace Fu := Fu.ext E2
  replace Fs := Fs.ext E2
  have Z2 : n0 ≤ h2.size := Nat.le_trans Z0 E2.1
  have Kp2 : Keep h0 h2 [a] := Kp0.ext E2
  have Av_b2 : Arv Z h2 b2 k2 .long (1 : Int32) [(.long (0 : Int64))] (.long (0 : Int64)) := (Arv.new A2 (by decide)).pad (pad_rep [] (.long (0 : Int64)) 1)
  refine own_go (A := T2.setTop (mkF m 11 #[.val (.ref a), .val (.int (64 : Int32))] [(.ref b2), (.ref a)])) (fun _ kz => st2 _ kz) ?_
  obtain ⟨T3, h3, X3, e3, W3, st3⟩ := putF X2 hx hZ hown (host := "") (Or.inl (hw _ (List.mem_of_getElem? (i := 29) rfl))) Via.refl e2 Fw Ex (Or.inl (hw _ (List.mem_of_getElem? (i := 30) rfl))) (hw _ (List.mem_of_getElem? (i := 10) rfl)) (ty := (.array .long)) (by decide) rfl rfl (g := (mkF m 11 #[.val (.ref a), .val (.int (64 : Int32))] [(.ref b2), (.ref a)])) rfl rfl (hb hby d4_11)
  have Fw3 := Fw.same W3
  replace Ex := Ex.wr W3
  replace Fu := Fu.other W3 (Or.inr (slot_ne (Or.inl (hw _ (List.mem_of_getElem? (i := 17) rfl))) (Or.inl (hw _ (List.mem_of_getElem? (i := 30) rfl))) (by decide) (t := .int) (t' := (.array .long)) (by decide) (by decide)))
  replace Fs := Fs.other W3 (Or.inr (slot_ne (Or.inl (hw _ (List.mem_of_getElem? (i := 19) rfl))) (Or.inl (hw _ (List.mem_of_getElem? (i := 30) rfl))) (by decide) (t := .boolean) (t' := (.array .long)) (by decide) (by decide)))
  replace Av_b2 := Av_b2.other W3 (Ne.symm ne_a_b2)
  have Z3 : n0 ≤ h3.size := Nat.le_trans Z2 (Keep.of_wr W3).1
  have Kp3 : Keep h0 h3 [a] := Kp2.wr W3 (Or.inl (List.mem_of_getElem? (i := 0) rfl))
  have F_words_a := Fw3
  have N3 := Fr.snoc X3 N1 g_a
  refine own_go (A := T3.setTop (mkF m 14 #[.val (.ref a), .val (.int (64 : Int32))] [])) (fun _ kz => st3 _ kz) ?_
  obtain ⟨fs, hrr, hrun, hended, hW, hsame⟩ := X3.leave (v := none) (fun _ => rfl)
  refine ⟨_, _, ?_, hrun, hended, _, _, rfl, ?_, ⟨_, rfl⟩, hW, hsame.mono (by decide) (by decide)⟩
  · show Steps p.tables e below (T3.setTop (mkF m 14 #[.val (.ref a), .val (.int (64 : Int32))] [])) _
    exact X3.returnOut hx Bd.returns (hb hby d4_14) hrr
  · show QrmIW Z a h0 n0 _ T3.heap _
    rw [e3]
    exact ⟨b2, k2, rfl, N3, szk_b2, Kp3, Ex, F_words_a, Fu, Fs, Av_b2⟩
theorem d3_0 : decode jdk_92_method_4_code 0 = .ok (.aload_n 0, 1) := by decide +kernel
theorem d3_1 : decode jdk_92_method_4_code 1 = .ok (.invokespecial 21, 3) := by decide +kernel
theorem d3_4 : decode jdk_92_method_4_code 4 = .ok (.aload_n 0, 1) := by decide +kernel
theorem d3_5 : decode jdk_92_method_4_code 5 = .ok (.iconst 0, 1) := by decide +kernel
theorem d3_6 : decode jdk_92_method_4_code 6 = .ok (.putfield 7, 3) := by decide +kernel
theorem d3_9 : decode jdk_92_method_4_code 9 = .ok (.aload_n 0, 1) := by decide +kernel
theorem d3_10 : decode jdk_92_method_4_code 10 = .ok (.iconst 0, 1) := by decide +kernel
theorem d3_11 : decode jdk_92_method_4_code 11 = .ok (.putfield 24, 3) := by decide +kernel
theorem d3_14 : decode jdk_92_method_4_code 14 = .ok (.aload_n 0, 1) := by decide +kernel
theorem d3_15 : decode jdk_92_method_4_code 15 = .ok (.bipush 64, 2) := by decide +kernel
theorem d3_17 : decode jdk_92_method_4_code 17 = .ok (.invokevirtual 27, 3) := by decide +kernel
theorem d3_20 : decode jdk_92_method_4_code 20 = .ok (.aload_n 0, 1) := by decide +kernel
theorem d3_21 : decode jdk_92_method_4_code 21 = .ok (.iconst 0, 1) := by decide +kernel
theorem d3_22 : decode jdk_92_method_4_code 22 = .ok (.putfield 24, 3) := by decide +kernel
theorem d3_25 : decode jdk_92_method_4_code 25 = .ok (.return_, 1) := by decide +kernel
theorem own_pn3 : plainName "java/util/BitSet" = true := by first | (simp [plainName, overriddenIn]; done) | decide +kernel
theorem own_ef3 (m : MethodId) (x0 : Addr) : entryFrame m #[(.ref x0)] 1 = mkF m 0 #[.val (.ref x0)] [] := by first | (simp [entryFrame, mkF, argsToLocals, Value.category]; done) | rfl
def QrmBI (Z : State) (a : Addr) (h0 : Heap) (n0 : Nat) (v : Option Value) (h : Heap) (L : List Loc) : Prop := ∃ (w : Addr) (kc : ClassId), v = none ∧ Fr n0 L ∧ h0.size ≤ w ∧ Keep h0 h [a] ∧ Exa Z h a "java/util/BitSet" ∧ Fld Z h a "java/util/BitSet" "words" "[J" (.ref w) ∧ Fld Z h a "java/util/BitSet" "wordsInUse" "I" (.int (0 : Int32)) ∧ Fld Z h a "java/util/BitSet" "sizeIsSticky" "Z" (.int (0 : Int32)) ∧ Arv Z h w kc .long (1 : Int32) [(.long (0 : Int64))] (.long (0 : Int64))
set_option maxRecDepth 65536 in
set_option maxHeartbeats 40000000 in
theorem rmBI (l : Launch) (Z : State) (a0 : Array Value) (hw : ∀ d ∈ tables_1, d.before a0 Z = true) (ws : List Jvm.Cond) (a : Addr) (h0 : Heap) (n0 : Nat) (Z0 : n0 ≤ h0.size) (Ex : Exa Z h0 a "java/util/BitSet") (Fw : Fld Z h0 a "java/util/BitSet" "words" "[J" .null) (Fu : Fld Z h0 a "java/util/BitSet" "wordsInUse" "I" (.int (0 : Int32))) (Fs : Fld Z h0 a "java/util/BitSet" "sizeIsSticky" "Z" (.int (0 : Int32))) (g_a : n0 ≤ a) :
    MetFree l (⟨"java/util/BitSet", "<init>", "()V"⟩ : MethodName) (head1 (Jvm.Cond.code (⟨"java/util/BitSet", "<init>", "()V"⟩ : MethodName) jdk_92_method_4_code 1 none :: ws) ({ frames := 2, cells := 1, slots := 1, locals := 26 } : Room)) (fun ar_ U_ => ar_ = #[(.ref a)] ∧ Z.Warmed39 U_.vm ∧ U_.heap = h0) (fun _ _ _ _ _ => True) (fun _ U_ ou_ V_ => ∃ v_ L_, ou_ = .returned v_ ∧ QrmBI Z a h0 n0 v_ V_.heap L_ ∧ FrameEnd U_ ou_ V_ L_ ({ frames := 2, cells := 1, slots := 1, locals := 26 } : Room).cells ({ frames := 2, cells := 1, slots := 1, locals := 26 } : Room).slots) := by
  refine MetFree.of_bodySF (plainFor_of_name own_pn3) hisR ?_
  intro p e s m args below meth c s₁ Bd hml0 hP hK
  obtain ⟨rfl, hZ, hh⟩ := hP
  have hx := Bd.exec
  have hby := Bd.bytes
  have hml : c.maxLocals = 1 := hml0
  have hown : s.vm.findClass "java/util/BitSet" = some m.cls := findClass_of_methodNamed Bd.named
  have hnm := (name_of_methodNamed Bd.named Bd.method).1
  have X0 : Stand p l e ({ frames := 2, cells := 1, slots := 1, locals := 26 } : Room) s m #[(.ref a)] below meth c s₁ [] 0 0 := Stand.of_body Bd
  have e0 : s₁.heap = h0 := by rw [← hh, Bd.state]; rfl
  have N0 := Fr.nil n0
  have Kp0 : Keep h0 h0 [a] := Keep.refl h0 _
  refine own_go (A := s₁.setTop (mkF m 0 #[.val (.ref a)] [])) (fun t kz => castTop (own_ef3 m a) kz) ?_
  refine own_go (A := s₁.setTop (mkF m 1 #[.val (.ref a)] [(.ref a)])) (fun _ kz => ?_) ?_
  · show Steps p.tables e below (s₁.setTop (mkF m 0 #[.val (.ref a)] [])) _
    refine XS.aloadN X0.here hx rfl (hb hby d3_0) rfl rfl ?_
    exact kz
  obtain ⟨T1, X1, e1, st1⟩ := initO X0 hx hZ hown (hw _ (List.mem_of_getElem? (i := 15) rfl)) (hw _ (List.mem_of_getElem? (i := 7) rfl)) (hw _ (List.mem_of_getElem? (i := 8) rfl)) e0 (g := (mkF m 1 #[.val (.ref a)] [(.ref a)])) rfl (by rw [hml]; rfl) rfl (hb hby d3_1) (by decide) (W := 0) (by show 2 * 0 + _ ≤ _; exact Nat.le_of_eq rfl) (by decide)
  refine own_go (A := T1.setTop (mkF m 4 #[.val (.ref a)] [])) (fun _ kz => st1 _ kz) ?_
  refine own_go (A := T1.setTop (mkF m 6 #[.val (.ref a)] [(.int (0 : Int32)), (.ref a)])) (fun _ kz => ?_) ?_
  · show Steps p.tables e below (T1.setTop (mkF m 4 #[.val (.ref a)] [])) _
    refine XS.aloadN X1.here hx rfl (hb hby d3_4) rfl rfl ?_
    show Steps p.tables e below (T1.setTop (mkF m 5 #[.val (.ref a)] [(.ref a)])) _
    refine XS.iconst X1.here hx rfl (hb hby d3_5) ?_
    exact kz
  obtain ⟨T2, h2, X2, e2, W2, st2⟩ := putF X1 hx hZ hown (host := "") (Or.inl (hw _ (List.mem_of_getElem? (i := 16) rfl))) Via.refl e1 Fu Ex (Or.inl (hw _ (List.mem_of_getElem? (i := 17) rfl))) (hw _ (List.mem_of_getElem? (i := 10) rfl)) (ty := .int) (by decide) rfl rfl (g := (mkF m 6 #[.val (.ref a)] [(.int (0 : Int32)), (.ref a)])) rfl rfl (hb hby d3_6)
  have Fw2 := Fu.same W2
  replace Ex := Ex.wr W2
  replace Fw := Fw.other W2 (Or.inr (slot_ne (Or.inl (hw _ (List.mem_of_getElem? (i := 30) rfl))) (Or.inl (hw _ (List.mem_of_getElem? (i := 17) rfl))) (by decide) (t := (.array .long)) (t' := .int) (by decide) (by decide)))
  replace Fs := Fs.other W2 (Or.inr (slot_ne (Or.inl (hw _ (List.mem_of_getElem? (i := 19) rfl))) (Or.inl (hw _ (List.mem_of_getElem? (i := 17) rfl))) (by decide) (t := .boolean) (t' := .int) (by decide) (by decide)))
  have Z2 : n0 ≤ h2.size := Nat.le_trans Z0 (Keep.of_wr W2).1
  have Kp2 : Keep h0 h2 [a] := Kp0.wr W2 (Or.inl (List.mem_of_getElem? (i := 0) rfl))
  have F_wordsInUse_a := Fw2
  have N2 := Fr.snoc X2 N0 g_a
  refine own_go (A := T2.setTop (mkF m 9 #[.val (.ref a)] [])) (fun _ kz => st2 _ kz) ?_
  refine own_go (A := T2.setTop (mkF m 11 #[.val (.ref a)] [(.int (0 : Int32)), (.ref a)])) (fun _ kz => ?_) ?_
  · show Steps p.tables e below (T2.setTop (mkF m 9 #[.val (.ref a)] [])) _
    refine XS.aloadN X2.here hx rfl (hb hby d3_9) rfl rfl ?_
    show Steps p.tables e below (T2.setTop (mkF m 10 #[.val (.ref a)] [(.ref a)])) _
    refine XS.iconst X2.here hx rfl (hb hby d3_10) ?_
    exact kz
  obtain ⟨T3, h3, X3, e3, W3, st3⟩ := putFN X2 hx hZ hown (hw _ (List.mem_of_getElem? (i := 18) rfl)) Via.refl e2 Fs Ex (Or.inl (hw _ (List.mem_of_getElem? (i := 19) rfl))) (hw _ (List.mem_of_getElem? (i := 10) rfl)) (ty := .boolean) (v' := (.int (0 : Int32))) (by decide) rfl (by first | exact fits_nar_bool _ | decide) (g := (mkF m 11 #[.val (.ref a)] [(.int (0 : Int32)), (.ref a)])) rfl rfl (hb hby d3_11)
  have Fw3 := Fs.same W3
  replace Ex := Ex.wr W3
  replace Fw := Fw.other W3 (Or.inr (slot_ne (Or.inl (hw _ (List.mem_of_getElem? (i := 30) rfl))) (Or.inl (hw _ (List.mem_of_getElem? (i := 19) rfl))) (by decide) (t := (.array .long)) (t' := .boolean) (by decide) (by decide)))
  replace F_wordsInUse_a := F_wordsInUse_a.other W3 (Or.inr (slot_ne (Or.inl (hw _ (List.mem_of_getElem? (i := 17) rfl))) (Or.inl (hw _ (List.mem_of_getElem? (i := 19) rfl))) (by decide) (t := .int) (t' := .boolean) (by decide) (by decide)))
  have Z3 : n0 ≤ h3.size := Nat.le_trans Z2 (Keep.of_wr W3).1
  have Kp3 : Keep h0 h3 [a] := Kp2.wr W3 (Or.inl (List.mem_of_getElem? (i := 0) rfl))
  have F_sizeIsSticky_a := Fw3
  have N3 := Fr.snoc X3 N2 g_a
  refine own_go (A := T3.setTop (mkF m 14 #[.val (.ref a)] [])) (fun _ kz => st3 _ kz) ?_
  refine own_go (A := T3.setTop (mkF m 17 #[.val (.ref a)] [(.int (64 : Int32)), (.ref a)])) (fun _ kz => ?_) ?_
  · show Steps p.tables e below (T3.setTop (mkF m 14 #[.val (.ref a)] [])) _
    refine XS.aloadN X3.here hx rfl (hb hby d3_14) rfl rfl ?_
    show Steps p.tables e below (T3.setTop (mkF m 15 #[.val (.ref a)] [(.ref a)])) _
    refine XS.bipush X3.here hx rfl (hb hby d3_15) ?_
    exact kz
  obtain ⟨cq4, q4, q4'⟩ := Ex.cell
  obtain ⟨_, _, ⟨T4, L4, k4, n4⟩, -, X4, ⟨Lc4, hQ4, l4, y4, z4⟩, st4⟩ := X3.privateBack hx (y := (⟨"java/util/BitSet", "initWords", "(I)V"⟩ : MethodName)) hown (mvT hZ (hw _ (List.mem_of_getElem? (i := 20) rfl))) (mvT hZ (hw _ (List.mem_of_getElem? (i := 21) rfl))) (mvT hZ (hw _ (List.mem_of_getElem? (i := 23) rfl))) (Cond.privateMethod_at (mvP hZ (hw _ (List.mem_of_getElem? (i := 22) rfl)) (args := #[]))) (mvT hZ (hw _ (List.mem_of_getElem? (i := 24) rfl))) (by decide) (backOf (W := 0) (rmIW l Z a0 hw [] a h3 n0 Z3 Ex Fw F_wordsInUse_a F_sizeIsSticky_a g_a) hZ (hw _ (List.mem_of_getElem? (i := 24) rfl)) (hw _ (List.mem_of_getElem? (i := 11) rfl)) (by decide) (by decide)) (g := (mkF m 17 #[.val (.ref a)] [(.int (64 : Int32)), (.ref a)])) rfl (by rw [hml]; rfl) (Steps.refl _) (a := a) (by rw [e3]; exact q4) q4' (argsL := [(.int (64 : Int32))]) (rest := []) (lenOf own_pd2 rfl) rfl (by show 2 * 0 + _ ≤ _; exact Nat.le_of_eq rfl) (hb hby d3_17) (fun _ _ => ⟨rfl, e3, (by decide : 0 + 1 ≤ _), (by decide : 0 + 1 ≤ _)⟩)
  dsimp only [Pt.U, Pt.locs, Pt.cells, Pt.slots] at X4 l4 y4 z4 st4 hQ4
  subst l4 y4 z4
  obtain ⟨c4, kd4, rfl, N4q, zc4, K4q, _, Fw4, Fu4, Fs4, Aq4⟩ := hQ4
  have N4 := Fr.app N3 N4q
  have ne_a_c4 : a ≠ c4 := Nat.ne_of_lt (Nat.lt_of_lt_of_le Ex.lt zc4)
  have g_c4 : n0 ≤ c4 := Nat.le_trans Z3 zc4
  have szk_c4 : h0.size ≤ c4 := Nat.le_trans Kp3.1 zc4
  replace Ex := Ex.keep K4q
  have Z4 : n0 ≤ T4.heap.size := Nat.le_trans Z3 K4q.1
  have Kp4 : Keep h0 T4.heap [a] := Kp3.trans K4q (allS (Or.inl (List.mem_of_getElem? (i := 0) rfl)) (all0))
  refine own_go (A := T4.setTop (mkF m 20 #[.val (.ref a)] [])) (fun _ kz => st4.trans kz) ?_
  refine own_go (A := T4.setTop (mkF m 22 #[.val (.ref a)] [(.int (0 : Int32)), (.ref a)])) (fun _ kz => ?_) ?_
  · show Steps p.tables e below (T4.setTop (mkF m 20 #[.val (.ref a)] [])) _
    refine XS.aloadN X4.here hx rfl (hb hby d3_20) rfl rfl ?_
    show Steps p.tables e below (T4.setTop (mkF m 21 #[.val (.ref a)] [(.ref a)])) _
    refine XS.iconst X4.here hx rfl (hb hby d3_21) ?_
    exact kz
  obtain ⟨T5, h5, X5, e5, W5, st5⟩ := putFN X4 hx hZ hown (hw _ (List.mem_of_getElem? (i := 18) rfl)) Via.refl rfl Fs4 Ex (Or.inl (hw _ (List.mem_of_getElem? (i := 19) rfl))) (hw _ (List.mem_of_getElem? (i := 10) rfl)) (ty := .boolean) (v' := (.int (0 : Int32))) (by decide) rfl (by first | exact fits_nar_bool _ | decide) (g := (mkF m 22 #[.val (.ref a)] [(.int (0 : Int32)), (.ref a)])) rfl rfl (hb hby d3_22)
  have Fw5 := Fs4.same W5
  replace Ex := Ex.wr W5
  replace Aq4 := Aq4.other W5 (Ne.symm ne_a_c4)
  replace Fw4 := Fw4.other W5 (Or.inr (slot_ne (Or.inl (hw _ (List.mem_of_getElem? (i := 30) rfl))) (Or.inl (hw _ (List.mem_of_getElem? (i := 19) rfl))) (by decide) (t := (.array .long)) (t' := .boolean) (by decide) (by decide)))
  replace Fu4 := Fu4.other W5 (Or.inr (slot_ne (Or.inl (hw _ (List.mem_of_getElem? (i := 17) rfl))) (Or.inl (hw _ (List.mem_of_getElem? (i := 19) rfl))) (by decide) (t := .int) (t' := .boolean) (by decide) (by decide)))
  have Z5 : n0 ≤ h5.size := Nat.le_trans Z4 (Keep.of_wr W5).1
  have Kp5 : Keep h0 h5 [a] := Kp4.wr W5 (Or.inl (List.mem_of_getElem? (i := 0) rfl))
  have F_sizeIsSticky_a := Fw5
  have N5 := Fr.snoc X5 N4 g_a
  refine own_go (A := T5.setTop (mkF m 25 #[.val (.ref a)] [])) (fun _ kz => st5 _ kz) ?_
  obtain ⟨fs, hrr, hrun, hended, hW, hsame⟩ := X5.leave (v := none) (fun _ => rfl)
  refine ⟨_, _, ?_, hrun, hended, _, _, rfl, ?_, ⟨_, rfl⟩, hW, hsame.mono (by decide) (by decide)⟩
  · show Steps p.tables e below (T5.setTop (mkF m 25 #[.val (.ref a)] [])) _
    exact X5.returnOut hx Bd.returns (hb hby d3_25) hrr
  · show QrmBI Z a h0 n0 _ T5.heap _
    rw [e5]
    exact ⟨c4, kd4, rfl, N5, szk_c4, Kp5, Ex, Fw4, Fu4, F_sizeIsSticky_a, Aq4⟩
theorem d1_0 : decode prog_24_method_1_code 0 = .ok (.aload_n 0, 1) := by decide +kernel
theorem d1_1 : decode prog_24_method_1_code 1 = .ok (.invokespecial 1, 3) := by decide +kernel
theorem d1_4 : decode prog_24_method_1_code 4 = .ok (.aload_n 0, 1) := by decide +kernel
theorem d1_5 : decode prog_24_method_1_code 5 = .ok (.new 7, 3) := by decide +kernel
theorem d1_8 : decode prog_24_method_1_code 8 = .ok (.dup, 1) := by decide +kernel
theorem d1_9 : decode prog_24_method_1_code 9 = .ok (.invokespecial 9, 3) := by decide +kernel
theorem d1_12 : decode prog_24_method_1_code 12 = .ok (.putfield 10, 3) := by decide +kernel
theorem d1_15 : decode prog_24_method_1_code 15 = .ok (.aload_n 0, 1) := by decide +kernel
theorem d1_16 : decode prog_24_method_1_code 16 = .ok (.iload_n 1, 1) := by decide +kernel
theorem d1_17 : decode prog_24_method_1_code 17 = .ok (.putfield 16, 3) := by decide +kernel
theorem d1_20 : decode prog_24_method_1_code 20 = .ok (.aload_n 0, 1) := by decide +kernel
theorem d1_21 : decode prog_24_method_1_code 21 = .ok (.iload_n 2, 1) := by decide +kernel
theorem d1_22 : decode prog_24_method_1_code 22 = .ok (.putfield 20, 3) := by decide +kernel
theorem d1_25 : decode prog_24_method_1_code 25 = .ok (.return_, 1) := by decide +kernel
theorem own_pn1 : plainName "com/example/bare_words/barewords/Hit" = true := by first | (simp [plainName, overriddenIn]; done) | decide +kernel
theorem own_ef1 (m : MethodId) (x0 : Addr) (x1 : Int32) (x2 : Int32) : entryFrame m #[(.ref x0), (.int x1), (.int x2)] 3 = mkF m 0 #[.val (.ref x0), .val (.int x1), .val (.int x2)] [] := by first | (simp [entryFrame, mkF, argsToLocals, Value.category]; done) | rfl
def QrmHI (Z : State) (a : Addr) (p1 p2 : Int32) (h0 : Heap) (n0 : Nat) (v : Option Value) (h : Heap) (L : List Loc) : Prop := ∃ (b w : Addr) (kc : ClassId), v = none ∧ Fr n0 L ∧ h0.size ≤ b ∧ h0.size ≤ w ∧ Keep h0 h [a] ∧ Exa Z h a "com/example/bare_words/barewords/Hit" ∧ Fld Z h a "com/example/bare_words/barewords/Hit" "words" "Ljava/util/BitSet;" (.ref b) ∧ Fld Z h a "com/example/bare_words/barewords/Hit" "doc" "I" (.int p1) ∧ Fld Z h a "com/example/bare_words/barewords/Hit" "tableIndex" "I" (.int p2) ∧ Fld Z h a "com/example/bare_words/barewords/Hit" "score" "D" (.double (FP.l2d (0 : Int64))) ∧ Exa Z h b "java/util/BitSet" ∧ Fld Z h b "java/util/BitSet" "words" "[J" (.ref w) ∧ Fld Z h b "java/util/BitSet" "wordsInUse" "I" (.int (0 : Int32)) ∧ Fld Z h b "java/util/BitSet" "sizeIsSticky" "Z" (.int (0 : Int32)) ∧ Arv Z h w kc .long (1 : Int32) [(.long (0 : Int64))] (.long (0 : Int64))
set_option maxRecDepth 65536 in
set_option maxHeartbeats 40000000 in
theorem rmHI (l : Launch) (Z : State) (a0 : Array Value) (hw : ∀ d ∈ tables_1, d.before a0 Z = true) (ws : List Jvm.Cond) (a : Addr) (p1 p2 : Int32) (h0 : Heap) (n0 : Nat) (Z0 : n0 ≤ h0.size) (Ex : Exa Z h0 a "com/example/bare_words/barewords/Hit") (g_a : n0 ≤ a) (F_words_a : Fld Z h0 a "com/example/bare_words/barewords/Hit" "words" "Ljava/util/BitSet;" .null) (F_doc_a : Fld Z h0 a "com/example/bare_words/barewords/Hit" "doc" "I" (.int (0 : Int32))) (F_tableIndex_a : Fld Z h0 a "com/example/bare_words/barewords/Hit" "tableIndex" "I" (.int (0 : Int32))) (F_score_a : Fld Z h0 a "com/example/bare_words/barewords/Hit" "score" "D" (.double (FP.l2d (0 : Int64)))) :
    MetFree l (⟨"com/example/bare_words/barewords/Hit", "<init>", "(II)V"⟩ : MethodName) (head1 (Jvm.Cond.code (⟨"com/example/bare_words/barewords/Hit", "<init>", "(II)V"⟩ : MethodName) prog_24_method_1_code 3 none :: ws) ({ frames := 3, cells := 2, slots := 4, locals := 40 } : Room)) (fun ar_ U_ => ar_ = #[(.ref a), (.int p1), (.int p2)] ∧ Z.Warmed39 U_.vm ∧ U_.heap = h0) (fun _ _ _ _ _ => True) (fun _ U_ ou_ V_ => ∃ v_ L_, ou_ = .returned v_ ∧ QrmHI Z a p1 p2 h0 n0 v_ V_.heap L_ ∧ FrameEnd U_ ou_ V_ L_ ({ frames := 3, cells := 2, slots := 4, locals := 40 } : Room).cells ({ frames := 3, cells := 2, slots := 4, locals := 40 } : Room).slots) := by
  refine MetFree.of_bodySF (plainFor_of_name own_pn1) hisR ?_
  intro p e s m args below meth c s₁ Bd hml0 hP hK
  obtain ⟨rfl, hZ, hh⟩ := hP
  have hx := Bd.exec
  have hby := Bd.bytes
  have hml : c.maxLocals = 3 := hml0
  have hown : s.vm.findClass "com/example/bare_words/barewords/Hit" = some m.cls := findClass_of_methodNamed Bd.named
  have hnm := (name_of_methodNamed Bd.named Bd.method).1
  have X0 : Stand p l e ({ frames := 3, cells := 2, slots := 4, locals := 40 } : Room) s m #[(.ref a), (.int p1), (.int p2)] below meth c s₁ [] 0 0 := Stand.of_body Bd
  have e0 : s₁.heap = h0 := by rw [← hh, Bd.state]; rfl
  have N0 := Fr.nil n0
  have Kp0 : Keep h0 h0 [a] := Keep.refl h0 _
  refine own_go (A := s₁.setTop (mkF m 0 #[.val (.ref a), .val (.int p1), .val (.int p2)] [])) (fun t kz => castTop (own_ef1 m a p1 p2) kz) ?_
  refine own_go (A := s₁.setTop (mkF m 1 #[.val (.ref a), .val (.int p1), .val (.int p2)] [(.ref a)])) (fun _ kz => ?_) ?_
  · show Steps p.tables e below (s₁.setTop (mkF m 0 #[.val (.ref a), .val (.int p1), .val (.int p2)] [])) _
    refine XS.aloadN X0.here hx rfl (hb hby d1_0) rfl rfl ?_
    exact kz
  obtain ⟨T1, X1, e1, st1⟩ := initO X0 hx hZ hown (hw _ (List.mem_of_getElem? (i := 6) rfl)) (hw _ (List.mem_of_getElem? (i := 7) rfl)) (hw _ (List.mem_of_getElem? (i := 8) rfl)) e0 (g := (mkF m 1 #[.val (.ref a), .val (.int p1), .val (.int p2)] [(.ref a)])) rfl (by rw [hml]; rfl) rfl (hb hby d1_1) (by decide) (W := 0) (by show 2 * 0 + _ ≤ _; exact Nat.le_of_eq rfl) (by decide)
  refine own_go (A := T1.setTop (mkF m 4 #[.val (.ref a), .val (.int p1), .val (.int p2)] [])) (fun _ kz => st1 _ kz) ?_
  refine own_go (A := T1.setTop (mkF m 5 #[.val (.ref a), .val (.int p1), .val (.int p2)] [(.ref a)])) (fun _ kz => ?_) ?_
  · show Steps p.tables e below (T1.setTop (mkF m 4 #[.val (.ref a), .val (.int p1), .val (.int p2)] [])) _
    refine XS.aloadN X1.here hx rfl (hb hby d1_4) rfl rfl ?_
    exact kz
  obtain ⟨T2, h2, X2, e2, E2, A2, D2, -, st2⟩ := newO X1 hx hZ hown (hw _ (List.mem_of_getElem? (i := 9) rfl)) (hw _ (List.mem_of_getElem? (i := 10) rfl)) (hw _ (List.mem_of_getElem? (i := 11) rfl)) e1 (g := (mkF m 5 #[.val (.ref a), .val (.int p1), .val (.int p2)] [(.ref a)])) rfl (hb hby d1_5) (by decide) (by decide)
  obtain ⟨b2, gq2⟩ : ∃ z, z = h0.size := ⟨_, rfl⟩
  rw [← gq2] at A2 D2 st2
  have g_b2 : n0 ≤ b2 := Nat.le_trans Z0 (Nat.le_of_eq gq2.symm)
  have ne_a_b2 : a ≠ b2 := Nat.ne_of_lt (Nat.lt_of_lt_of_le Ex.lt (Nat.le_of_eq gq2.symm))
  have szk_b2 : h0.size ≤ b2 := Nat.le_trans Kp0.1 (Nat.le_of_eq gq2.symm)
  replace Ex := Ex.ext E2
  replace F_words_a := F_words_a.ext E2
  replace F_doc_a := F_doc_a.ext E2
  replace F_tableIndex_a := F_tableIndex_a.ext E2
  replace F_score_a := F_score_a.ext E2
  have Z2 : n0 ≤ h2.size := Nat.le_trans Z0 E2.1
  have Kp2 : Keep h0 h2 [a] := Kp0.ext E2
  have Ex_b2 := A2
  have F_wordsInUse_b2 : Fld Z h2 b2 "java/util/BitSet" "wordsInUse" "I" (.int (0 : Int32)) := D2 (Or.inl (hw _ (List.mem_of_getElem? (i := 17) rfl))) (ty := .int) (by decide)
  have F_sizeIsSticky_b2 : Fld Z h2 b2 "java/util/BitSet" "sizeIsSticky" "Z" (.int (0 : Int32)) := D2 (Or.inl (hw _ (List.mem_of_getElem? (i := 19) rfl))) (ty := .boolean) (by decide)
  have F_words_b2 : Fld Z h2 b2 "java/util/BitSet" "words" "[J" .null := D2 (Or.inl (hw _ (List.mem_of_getElem? (i := 30) rfl))) (ty := (.array .long)) (by decide)
  refine own_go (A := T2.setTop (mkF m 8 #[.val (.ref a), .val (.int p1), .val (.int p2)] [(.ref b2), (.ref a)])) (fun _ kz => st2 _ kz) ?_
  refine own_go (A := T2.setTop (mkF m 9 #[.val (.ref a), .val (.int p1), .val (.int p2)] [(.ref b2), (.ref b2), (.ref a)])) (fun _ kz => ?_) ?_
  · show Steps p.tables e below (T2.setTop (mkF m 8 #[.val (.ref a), .val (.int p1), .val (.int p2)] [(.ref b2), (.ref a)])) _
    refine XS.dup X2.here hx rfl (hb hby d1_8) rfl rfl ?_
    exact kz
  obtain ⟨_, _, ⟨T3, L3, k3, n3⟩, -, X3, ⟨Lc3, hQ3, l3, y3, z3⟩, st3⟩ := X2.specialBack hx (y := (⟨"java/util/BitSet", "<init>", "()V"⟩ : MethodName)) rfl hown (mvT hZ (hw _ (List.mem_of_getElem? (i := 12) rfl))) (mvT hZ (hw _ (List.mem_of_getElem? (i := 13) rfl))) (mvT hZ (hw _ (List.mem_of_getElem? (i := 14) rfl))) (by decide) (backOf (W := 2) (rmBI l Z a0 hw [] b2 h2 n0 Z2 Ex_b2 F_words_b2 F_wordsInUse_b2 F_sizeIsSticky_b2 g_b2) hZ (hw _ (List.mem_of_getElem? (i := 14) rfl)) (hw _ (List.mem_of_getElem? (i := 11) rfl)) (by decide) (by decide)) (g := (mkF m 9 #[.val (.ref a), .val (.int p1), .val (.int p2)] [(.ref b2), (.ref b2), (.ref a)])) rfl (by rw [hml]; rfl) (Steps.refl _) (a := b2) (argsL := []) (rest := [(.ref b2), (.ref a)]) (lenOf own_pd4 rfl) rfl (by show 2 * 0 + _ ≤ _; exact Nat.le_of_eq rfl) (hb hby d1_9) (fun _ _ => ⟨rfl, e2, (by decide : 1 + 1 ≤ _), (by decide : 3 + 1 ≤ _)⟩)
  dsimp only [Pt.U, Pt.locs, Pt.cells, Pt.slots] at X3 l3 y3 z3 st3 hQ3
  subst l3 y3 z3
  obtain ⟨c3, kd3, rfl, N3q, zc3, K3q, _, Fw3, Fu3, Fs3, Aq3⟩ := hQ3
  have N3 := Fr.app N0 N3q
  have ne_a_c3 : a ≠ c3 := Nat.ne_of_lt (Nat.lt_of_lt_of_le Ex.lt zc3)
  have ne_b2_c3 : b2 ≠ c3 := Nat.ne_of_lt (Nat.lt_of_lt_of_le Ex_b2.lt zc3)
  have g_c3 : n0 ≤ c3 := Nat.le_trans Z2 zc3
  have szk_c3 : h0.size ≤ c3 := Nat.le_trans Kp2.1 zc3
  replace Ex := Ex.keep K3q
  replace F_words_a := F_words_a.keep K3q (ninS ne_a_b2 nin0)
  replace F_doc_a := F_doc_a.keep K3q (ninS ne_a_b2 nin0)
  replace F_tableIndex_a := F_tableIndex_a.keep K3q (ninS ne_a_b2 nin0)
  replace F_score_a := F_score_a.keep K3q (ninS ne_a_b2 nin0)
  replace Ex_b2 := Ex_b2.keep K3q
  have Z3 : n0 ≤ T3.heap.size := Nat.le_trans Z2 K3q.1
  have Kp3 : Keep h0 T3.heap [a] := Kp2.trans K3q (allS (Or.inr szk_b2) (all0))
  refine own_go (A := T3.setTop (mkF m 12 #[.val (.ref a), .val (.int p1), .val (.int p2)] [(.ref b2), (.ref a)])) (fun _ kz => st3.trans kz) ?_
  obtain ⟨T4, h4, X4, e4, W4, st4⟩ := putF X3 hx hZ hown (host := "") (Or.inl (hw _ (List.mem_of_getElem? (i := 31) rfl))) Via.refl rfl F_words_a Ex (Or.inr ⟨(hw _ (List.mem_of_getElem? (i := 32) rfl)), rfl, hnm⟩) (hw _ (List.mem_of_getElem? (i := 1) rfl)) (ty := (.object "java/util/BitSet")) (by decide) rfl rfl (g := (mkF m 12 #[.val (.ref a), .val (.int p1), .val (.int p2)] [(.ref b2), (.ref a)])) rfl rfl (hb hby d1_12)
  have Fw4 := F_words_a.same W4
  replace Ex := Ex.wr W4
  replace F_doc_a := F_doc_a.other W4 (Or.inr (slot_ne (Or.inr (hw _ (List.mem_of_getElem? (i := 34) rfl))) (Or.inr (hw _ (List.mem_of_getElem? (i := 32) rfl))) (by decide) (t := .int) (t' := (.object "java/util/BitSet")) (by decide) (by decide)))
  replace F_tableIndex_a := F_tableIndex_a.other W4 (Or.inr (slot_ne (Or.inr (hw _ (List.mem_of_getElem? (i := 36) rfl))) (Or.inr (hw _ (List.mem_of_getElem? (i := 32) rfl))) (by decide) (t := .int) (t' := (.object "java/util/BitSet")) (by decide) (by decide)))
  replace F_score_a := F_score_a.other W4 (Or.inr (slot_ne (Or.inl (hw _ (List.mem_of_getElem? (i := 64) rfl))) (Or.inr (hw _ (List.mem_of_getElem? (i := 32) rfl))) (by decide) (t := .double) (t' := (.object "java/util/BitSet")) (by decide) (by decide)))
  replace Ex_b2 := Ex_b2.wr W4
  replace Aq3 := Aq3.other W4 (Ne.symm ne_a_c3)
  replace Fw3 := Fw3.other W4 (Or.inl (Ne.symm ne_a_b2))
  replace Fu3 := Fu3.other W4 (Or.inl (Ne.symm ne_a_b2))
  replace Fs3 := Fs3.other W4 (Or.inl (Ne.symm ne_a_b2))
  have Z4 : n0 ≤ h4.size := Nat.le_trans Z3 (Keep.of_wr W4).1
  have Kp4 : Keep h0 h4 [a] := Kp3.wr W4 (Or.inl (List.mem_of_getElem? (i := 0) rfl))
  have F_words_a := Fw4
  have N4 := Fr.snoc X4 N3 g_a
  refine own_go (A := T4.setTop (mkF m 15 #[.val (.ref a), .val (.int p1), .val (.int p2)] [])) (fun _ kz => st4 _ kz) ?_
  refine own_go (A := T4.setTop (mkF m 17 #[.val (.ref a), .val (.int p1), .val (.int p2)] [(.int p1), (.ref a)])) (fun _ kz => ?_) ?_
  · show Steps p.tables e below (T4.setTop (mkF m 15 #[.val (.ref a), .val (.int p1), .val (.int p2)] [])) _
    refine XS.aloadN X4.here hx rfl (hb hby d1_15) rfl rfl ?_
    show Steps p.tables e below (T4.setTop (mkF m 16 #[.val (.ref a), .val (.int p1), .val (.int p2)] [(.ref a)])) _
    refine XS.iloadN X4.here hx rfl (hb hby d1_16) rfl ?_
    exact kz
  obtain ⟨T5, h5, X5, e5, W5, st5⟩ := putF X4 hx hZ hown (host := "") (Or.inl (hw _ (List.mem_of_getElem? (i := 33) rfl))) Via.refl e4 F_doc_a Ex (Or.inr ⟨(hw _ (List.mem_of_getElem? (i := 34) rfl)), rfl, hnm⟩) (hw _ (List.mem_of_getElem? (i := 1) rfl)) (ty := .int) (by decide) rfl rfl (g := (mkF m 17 #[.val (.ref a), .val (.int p1), .val (.int p2)] [(.int p1), (.ref a)])) rfl rfl (hb hby d1_17)
  have Fw5 := F_doc_a.same W5
  replace Ex := Ex.wr W5
  replace F_words_a := F_words_a.other W5 (Or.inr (slot_ne (Or.inr (hw _ (List.mem_of_getElem? (i := 32) rfl))) (Or.inr (hw _ (List.mem_of_getElem? (i := 34) rfl))) (by decide) (t := (.object "java/util/BitSet")) (t' := .int) (by decide) (by decide)))
  replace F_tableIndex_a := F_tableIndex_a.other W5 (Or.inr (slot_ne (Or.inr (hw _ (List.mem_of_getElem? (i := 36) rfl))) (Or.inr (hw _ (List.mem_of_getElem? (i := 34) rfl))) (by decide) (t := .int) (t' := .int) (by decide) (by decide)))
  replace F_score_a := F_score_a.other W5 (Or.inr (slot_ne (Or.inl (hw _ (List.mem_of_getElem? (i := 64) rfl))) (Or.inr (hw _ (List.mem_of_getElem? (i := 34) rfl))) (by decide) (t := .double) (t' := .int) (by decide) (by decide)))
  replace Ex_b2 := Ex_b2.wr W5
  replace Aq3 := Aq3.other W5 (Ne.symm ne_a_c3)
  replace Fw3 := Fw3.other W5 (Or.inl (Ne.symm ne_a_b2))
  replace Fu3 := Fu3.other W5 (Or.inl (Ne.symm ne_a_b2))
  replace Fs3 := Fs3.other W5 (Or.inl (Ne.symm ne_a_b2))
  have Z5 : n0 ≤ h5.size := Nat.le_trans Z4 (Keep.of_wr W5).1
  have Kp5 : Keep h0 h5 [a] := Kp4.wr W5 (Or.inl (List.mem_of_getElem? (i := 0) rfl))
  have F_doc_a := Fw5
  have N5 := Fr.snoc X5 N4 g_a
  refine own_go (A := T5.setTop (mkF m 20 #[.val (.ref a), .val (.int p1), .val (.int p2)] [])) (fun _ kz => st5 _ kz) ?_
  refine own_go (A := T5.setTop (mkF m 22 #[.val (.ref a), .val (.int p1), .val (.int p2)] [(.int p2), (.ref a)])) (fun _ kz => ?_) ?_
  · show Steps p.tables e below (T5.setTop (mkF m 20 #[.val (.ref a), .val (.int p1), .val (.int p2)] [])) _
    refine XS.aloadN X5.here hx rfl (hb hby d1_20) rfl rfl ?_
    show Steps p.tables e below (T5.setTop (mkF m 21 #[.val (.ref a), .val (.int p1), .val (.int p2)] [(.ref a)])) _
    refine XS.iloadN X5.here hx rfl (hb hby d1_21) rfl ?_
    exact kz
  obtain ⟨T6, h6, X6, e6, W6, st6⟩ := putF X5 hx hZ hown (host := "") (Or.inl (hw _ (List.mem_of_getElem? (i := 35) rfl))) Via.refl e5 F_tableIndex_a Ex (Or.inr ⟨(hw _ (List.mem_of_getElem? (i := 36) rfl)), rfl, hnm⟩) (hw _ (List.mem_of_getElem? (i := 1) rfl)) (ty := .int) (by decide) rfl rfl (g := (mkF m 22 #[.val (.ref a), .val (.int p1), .val (.int p2)] [(.int p2), (.ref a)])) rfl rfl (hb hby d1_22)
  have Fw6 := F_tableIndex_a.same W6
  replace Ex := Ex.wr W6
  replace F_words_a := F_words_a.other W6 (Or.inr (slot_ne (Or.inr (hw _ (List.mem_of_getElem? (i := 32) rfl))) (Or.inr (hw _ (List.mem_of_getElem? (i := 36) rfl))) (by decide) (t := (.object "java/util/BitSet")) (t' := .int) (by decide) (by decide)))
  replace F_doc_a := F_doc_a.other W6 (Or.inr (slot_ne (Or.inr (hw _ (List.mem_of_getElem? (i := 34) rfl))) (Or.inr (hw _ (List.mem_of_getElem? (i := 36) rfl))) (by decide) (t := .int) (t' := .int) (by decide) (by decide)))
  replace F_score_a := F_score_a.other W6 (Or.inr (slot_ne (Or.inl (hw _ (List.mem_of_getElem? (i := 64) rfl))) (Or.inr (hw _ (List.mem_of_getElem? (i := 36) rfl))) (by decide) (t := .double) (t' := .int) (by decide) (by decide)))
  replace Ex_b2 := Ex_b2.wr W6
  replace Aq3 := Aq3.other W6 (Ne.symm ne_a_c3)
  replace Fw3 := Fw3.other W6 (Or.inl (Ne.symm ne_a_b2))
  replace Fu3 := Fu3.other W6 (Or.inl (Ne.symm ne_a_b2))
  replace Fs3 := Fs3.other W6 (Or.inl (Ne.symm ne_a_b2))
  have Z6 : n0 ≤ h6.size := Nat.le_trans Z5 (Keep.of_wr W6).1
  have Kp6 : Keep h0 h6 [a] := Kp5.wr W6 (Or.inl (List.mem_of_getElem? (i := 0) rfl))
  have F_tableIndex_a := Fw6
  have N6 := Fr.snoc X6 N5 g_a
  refine own_go (A := T6.setTop (mkF m 25 #[.val (.ref a), .val (.int p1), .val (.int p2)] [])) (fun _ kz => st6 _ kz) ?_
  obtain ⟨fs, hrr, hrun, hended, hW, hsame⟩ := X6.leave (v := none) (fun _ => rfl)
  refine ⟨_, _, ?_, hrun, hended, _, _, rfl, ?_, ⟨_, rfl⟩, hW, hsame.mono (by decide) (by decide)⟩
  · show Steps p.tables e below (T6.setTop (mkF m 25 #[.val (.ref a), .val (.int p1), .val (.int p2)] [])) _
    exact X6.returnOut hx Bd.returns (hb hby d1_25) hrr
  · show QrmHI Z a p1 p2 h0 n0 _ T6.heap _
    rw [e6]
    exact ⟨b2, c3, kd3, rfl, N6, szk_b2, szk_c3, Kp6, Ex, F_words_a, F_doc_a, F_tableIndex_a, F_score_a, Ex_b2, Fw3, Fu3, Fs3, Aq3⟩
theorem d11_0 : decode prog_24_method_7_code 0 = .ok (.aload_n 0, 1) := by decide +kernel
theorem d11_1 : decode prog_24_method_7_code 1 = .ok (.getfield 10, 3) := by decide +kernel
theorem d11_4 : decode prog_24_method_7_code 4 = .ok (.areturn, 1) := by decide +kernel
theorem own_pn11 : plainName "com/example/bare_words/barewords/Hit" = true := by first | (simp [plainName, overriddenIn]; done) | decide +kernel
theorem own_ef11 (m : MethodId) (x0 : Addr) : entryFrame m #[(.ref x0)] 1 = mkF m 0 #[.val (.ref x0)] [] := by first | (simp [entryFrame, mkF, argsToLocals, Value.category]; done) | rfl
def QrmGw (Z : State) (x : Addr) (h0 : Heap) (n0 : Nat) (v : Option Value) (h : Heap) (L : List Loc) : Prop := v = some (.ref x) ∧ Fr n0 L ∧ h = h0
set_option maxRecDepth 65536 in
set_option maxHeartbeats 40000000 in
theorem rmGw (l : Launch) (Z : State) (a0 : Array Value) (hw : ∀ d ∈ tables_1, d.before a0 Z = true) (ws : List Jvm.Cond) (a : Addr) (x : Addr) (h0 : Heap) (n0 : Nat) (Z0 : n0 ≤ h0.size) (Fx : Fld Z h0 a "com/example/bare_words/barewords/Hit" "words" "Ljava/util/BitSet;" (.ref x)) :
    MetFree l (⟨"com/example/bare_words/barewords/Hit", "words", "()Ljava/util/BitSet;"⟩ : MethodName) (head1 (Jvm.Cond.code (⟨"com/example/bare_words/barewords/Hit", "words", "()Ljava/util/BitSet;"⟩ : MethodName) prog_24_method_7_code 1 (some (.object "java/util/BitSet")) :: ws) ({ frames := 0, cells := 0, slots := 0, locals := 0 } : Room)) (fun ar_ U_ => ar_ = #[(.ref a)] ∧ Z.Warmed39 U_.vm ∧ U_.heap = h0) (fun _ _ _ _ _ => True) (fun _ U_ ou_ V_ => ∃ v_ L_, ou_ = .returned v_ ∧ QrmGw Z x h0 n0 v_ V_.heap L_ ∧ FrameEnd U_ ou_ V_ L_ ({ frames := 0, cells := 0, slots := 0, locals := 0 } : Room).cells ({ frames := 0, cells := 0, slots := 0, locals := 0 } : Room).slots) := by
  refine MetFree.of_bodySF (plainFor_of_name own_pn11) hisR ?_
  intro p e s m args below meth c s₁ Bd hml0 hP hK
  obtain ⟨rfl, hZ, hh⟩ := hP
  have hx := Bd.exec
  have hby := Bd.bytes
  have hml : c.maxLocals = 1 := hml0
  have hown : s.vm.findClass "com/example/bare_words/barewords/Hit" = some m.cls := findClass_of_methodNamed Bd.named
  have hnm := (name_of_methodNamed Bd.named Bd.method).1
  have X0 : Stand p l e ({ frames := 0, cells := 0, slots := 0, locals := 0 } : Room) s m #[(.ref a)] below meth c s₁ [] 0 0 := Stand.of_body Bd
  have e0 : s₁.heap = h0 := by rw [← hh, Bd.state]; rfl
  have N0 := Fr.nil n0
  refine own_go (A := s₁.setTop (mkF m 0 #[.val (.ref a)] [])) (fun t kz => castTop (own_ef11 m a) kz) ?_
  refine own_go (A := s₁.setTop (mkF m 1 #[.val (.ref a)] [(.ref a)])) (fun _ kz => ?_) ?_
  · show Steps p.tables e below (s₁.setTop (mkF m 0 #[.val (.ref a)] [])) _
    refine XS.aloadN X0.here hx rfl (hb hby d11_0) rfl rfl ?_
    exact kz
  obtain ⟨T1, X1, e1, st1⟩ := getF X0 hx hZ hown (host := "") (Or.inl (hw _ (List.mem_of_getElem? (i := 31) rfl))) Via.refl e0 Fx (g := (mkF m 1 #[.val (.ref a)] [(.ref a)])) rfl rfl (hb hby d11_1)
  refine own_go (A := T1.setTop (mkF m 4 #[.val (.ref a)] [(.ref x)])) (fun _ kz => st1 _ kz) ?_
  obtain ⟨fs, hrr, hrun, hended, hW, hsame⟩ := X1.leave (v := some (.ref x)) (fun h => by rw [Bd.returns] at h; cases h)
  refine ⟨_, _, ?_, hrun, hended, _, _, rfl, ?_, ⟨_, rfl⟩, hW, hsame.mono (by decide) (by decide)⟩
  · show Steps p.tables e below (T1.setTop (mkF m 4 #[.val (.ref a)] [(.ref x)])) _
    exact retOut X1 hx (t := (.object "java/util/BitSet")) Bd.returns rfl (Or.inr (Or.inr (Or.inr (Or.inr ⟨rfl, rfl, rfl⟩)))) (hb hby d11_4) hrr
  · show QrmGw Z x h0 n0 _ T1.heap _
    rw [e1]
    exact ⟨rfl, N0, rfl⟩
theorem d15_0 : decode prog_24_method_8_code 0 = .ok (.aload_n 0, 1) := by decide +kernel
theorem d15_1 : decode prog_24_method_8_code 1 = .ok (.getfield 34, 3) := by decide +kernel
theorem d15_4 : decode prog_24_method_8_code 4 = .ok (.dreturn, 1) := by decide +kernel
theorem own_pn15 : plainName "com/example/bare_words/barewords/Hit" = true := by first | (simp [plainName, overriddenIn]; done) | decide +kernel
theorem own_ef15 (m : MethodId) (x0 : Addr) : entryFrame m #[(.ref x0)] 1 = mkF m 0 #[.val (.ref x0)] [] := by first | (simp [entryFrame, mkF, argsToLocals, Value.category]; done) | rfl
def QrmGs (Z : State) (x : UInt64) (h0 : Heap) (n0 : Nat) (v : Option Value) (h : Heap) (L : List Loc) : Prop := v = some (.double x) ∧ Fr n0 L ∧ h = h0
set_option maxRecDepth 65536 in
set_option maxHeartbeats 40000000 in
theorem rmGs (l : Launch) (Z : State) (a0 : Array Value) (hw : ∀ d ∈ tables_1, d.before a0 Z = true) (ws : List Jvm.Cond) (a : Addr) (x : UInt64) (h0 : Heap) (n0 : Nat) (Z0 : n0 ≤ h0.size) (Fx : Fld Z h0 a "com/example/bare_words/barewords/Hit" "score" "D" (.double x)) :
    MetFree l (⟨"com/example/bare_words/barewords/Hit", "score", "()D"⟩ : MethodName) (head1 (Jvm.Cond.code (⟨"com/example/bare_words/barewords/Hit", "score", "()D"⟩ : MethodName) prog_24_method_8_code 1 (some .double) :: ws) ({ frames := 0, cells := 0, slots := 0, locals := 0 } : Room)) (fun ar_ U_ => ar_ = #[(.ref a)] ∧ Z.Warmed39 U_.vm ∧ U_.heap = h0) (fun _ _ _ _ _ => True) (fun _ U_ ou_ V_ => ∃ v_ L_, ou_ = .returned v_ ∧ QrmGs Z x h0 n0 v_ V_.heap L_ ∧ FrameEnd U_ ou_ V_ L_ ({ frames := 0, cells := 0, slots := 0, locals := 0 } : Room).cells ({ frames := 0, cells := 0, slots := 0, locals := 0 } : Room).slots) := by
  refine MetFree.of_bodySF (plainFor_of_name own_pn15) hisR ?_
  intro p e s m args below meth c s₁ Bd hml0 hP hK
  obtain ⟨rfl, hZ, hh⟩ := hP
  have hx := Bd.exec
  have hby := Bd.bytes
  have hml : c.maxLocals = 1 := hml0
  have hown : s.vm.findClass "com/example/bare_words/barewords/Hit" = some m.cls := findClass_of_methodNamed Bd.named
  have hnm := (name_of_methodNamed Bd.named Bd.method).1
  have X0 : Stand p l e ({ frames := 0, cells := 0, slots := 0, locals := 0 } : Room) s m #[(.ref a)] below meth c s₁ [] 0 0 := Stand.of_body Bd
  have e0 : s₁.heap = h0 := by rw [← hh, Bd.state]; rfl
  have N0 := Fr.nil n0
  refine own_go (A := s₁.setTop (mkF m 0 #[.val (.ref a)] [])) (fun t kz => castTop (own_ef15 m a) kz) ?_
  refine own_go (A := s₁.setTop (mkF m 1 #[.val (.ref a)] [(.ref a)])) (fun _ kz => ?_) ?_
  · show Steps p.tables e below (s₁.setTop (mkF m 0 #[.val (.ref a)] [])) _
    refine XS.aloadN X0.here hx rfl (hb hby d15_0) rfl rfl ?_
    exact kz
  obtain ⟨T1, X1, e1, st1⟩ := getF X0 hx hZ hown (host := "") (Or.inl (hw _ (List.mem_of_getElem? (i := 63) rfl))) Via.refl e0 Fx (g := (mkF m 1 #[.val (.ref a)] [(.ref a)])) rfl rfl (hb hby d15_1)
  refine own_go (A := T1.setTop (mkF m 4 #[.val (.ref a)] [(.double x)])) (fun _ kz => st1 _ kz) ?_
  obtain ⟨fs, hrr, hrun, hended, hW, hsame⟩ := X1.leave (v := some (.double x)) (fun h => by rw [Bd.returns] at h; cases h)
  refine ⟨_, _, ?_, hrun, hended, _, _, rfl, ?_, ⟨_, rfl⟩, hW, hsame.mono (by decide) (by decide)⟩
  · show Steps p.tables e below (T1.setTop (mkF m 4 #[.val (.ref a)] [(.double x)])) _
    exact retOut X1 hx (t := .double) Bd.returns rfl (Or.inr (Or.inr (Or.inl ⟨rfl, rfl, _, rfl⟩))) (hb hby d15_4) hrr
  · show QrmGs Z x h0 n0 _ T1.heap _
    rw [e1]
    exact ⟨rfl, N0, rfl⟩
theorem d16_0 : decode prog_24_method_5_code 0 = .ok (.aload_n 0, 1) := by decide +kernel
theorem d16_1 : decode prog_24_method_5_code 1 = .ok (.getfield 16, 3) := by decide +kernel
theorem d16_4 : decode prog_24_method_5_code 4 = .ok (.ireturn, 1) := by decide +kernel
theorem own_pn16 : plainName "com/example/bare_words/barewords/Hit" = true := by first | (simp [plainName, overriddenIn]; done) | decide +kernel
theorem own_ef16 (m : MethodId) (x0 : Addr) : entryFrame m #[(.ref x0)] 1 = mkF m 0 #[.val (.ref x0)] [] := by first | (simp [entryFrame, mkF, argsToLocals, Value.category]; done) | rfl
def QrmGd (Z : State) (x : Int32) (h0 : Heap) (n0 : Nat) (v : Option Value) (h : Heap) (L : List Loc) : Prop := v = some (.int x) ∧ Fr n0 L ∧ h = h0
set_option maxRecDepth 65536 in
set_option maxHeartbeats 40000000 in
theorem rmGd (l : Launch) (Z : State) (a0 : Array Value) (hw : ∀ d ∈ tables_1, d.before a0 Z = true) (ws : List Jvm.Cond) (a : Addr) (x : Int32) (h0 : Heap) (n0 : Nat) (Z0 : n0 ≤ h0.size) (Fx : Fld Z h0 a "com/example/bare_words/barewords/Hit" "doc" "I" (.int x)) :
    MetFree l (⟨"com/example/bare_words/barewords/Hit", "doc", "()I"⟩ : MethodName) (head1 (Jvm.Cond.code (⟨"com/example/bare_words/barewords/Hit", "doc", "()I"⟩ : MethodName) prog_24_method_5_code 1 (some .int) :: ws) ({ frames := 0, cells := 0, slots := 0, locals := 0 } : Room)) (fun ar_ U_ => ar_ = #[(.ref a)] ∧ Z.Warmed39 U_.vm ∧ U_.heap = h0) (fun _ _ _ _ _ => True) (fun _ U_ ou_ V_ => ∃ v_ L_, ou_ = .returned v_ ∧ QrmGd Z x h0 n0 v_ V_.heap L_ ∧ FrameEnd U_ ou_ V_ L_ ({ frames := 0, cells := 0, slots := 0, locals := 0 } : Room).cells ({ frames := 0, cells := 0, slots := 0, locals := 0 } : Room).slots) := by
  refine MetFree.of_bodySF (plainFor_of_name own_pn16) hisR ?_
  intro p e s m args below meth c s₁ Bd hml0 hP hK
  obtain ⟨rfl, hZ, hh⟩ := hP
  have hx := Bd.exec
  have hby := Bd.bytes
  have hml : c.maxLocals = 1 := hml0
  have hown : s.vm.findClass "com/example/bare_words/barewords/Hit" = some m.cls := findClass_of_methodNamed Bd.named
  have hnm := (name_of_methodNamed Bd.named Bd.method).1
  have X0 : Stand p l e ({ frames := 0, cells := 0, slots := 0, locals := 0 } : Room) s m #[(.ref a)] below meth c s₁ [] 0 0 := Stand.of_body Bd
  have e0 : s₁.heap = h0 := by rw [← hh, Bd.state]; rfl
  have N0 := Fr.nil n0
  refine own_go (A := s₁.setTop (mkF m 0 #[.val (.ref a)] [])) (fun t kz => castTop (own_ef16 m a) kz) ?_
  refine own_go (A := s₁.setTop (mkF m 1 #[.val (.ref a)] [(.ref a)])) (fun _ kz => ?_) ?_
  · show Steps p.tables e below (s₁.setTop (mkF m 0 #[.val (.ref a)] [])) _
    refine XS.aloadN X0.here hx rfl (hb hby d16_0) rfl rfl ?_
    exact kz
  obtain ⟨T1, X1, e1, st1⟩ := getF X0 hx hZ hown (host := "") (Or.inl (hw _ (List.mem_of_getElem? (i := 33) rfl))) Via.refl e0 Fx (g := (mkF m 1 #[.val (.ref a)] [(.ref a)])) rfl rfl (hb hby d16_1)
  refine own_go (A := T1.setTop (mkF m 4 #[.val (.ref a)] [(.int x)])) (fun _ kz => st1 _ kz) ?_
  obtain ⟨fs, hrr, hrun, hended, hW, hsame⟩ := X1.leave (v := some (.int x)) (fun h => by rw [Bd.returns] at h; cases h)
  refine ⟨_, _, ?_, hrun, hended, _, _, rfl, ?_, ⟨_, rfl⟩, hW, hsame.mono (by decide) (by decide)⟩
  · show Steps p.tables e below (T1.setTop (mkF m 4 #[.val (.ref a)] [(.int x)])) _
    exact retI X1 hx Bd.returns (hb hby d16_4) hrr
  · show QrmGd Z x h0 n0 _ T1.heap _
    rw [e1]
    exact ⟨rfl, N0, rfl⟩
theorem d17_0 : decode prog_24_method_6_code 0 = .ok (.aload_n 0, 1) := by decide +kernel
theorem d17_1 : decode prog_24_method_6_code 1 = .ok (.getfield 20, 3) := by decide +kernel
theorem d17_4 : decode prog_24_method_6_code 4 = .ok (.ireturn, 1) := by decide +kernel
theorem own_pn17 : plainName "com/example/bare_words/barewords/Hit" = true := by first | (simp [plainName, overriddenIn]; done) | decide +kernel
theorem own_ef17 (m : MethodId) (x0 : Addr) : entryFrame m #[(.ref x0)] 1 = mkF m 0 #[.val (.ref x0)] [] := by first | (simp [entryFrame, mkF, argsToLocals, Value.category]; done) | rfl
def QrmGt (Z : State) (x : Int32) (h0 : Heap) (n0 : Nat) (v : Option Value) (h : Heap) (L : List Loc) : Prop := v = some (.int x) ∧ Fr n0 L ∧ h = h0
set_option maxRecDepth 65536 in
set_option maxHeartbeats 40000000 in
theorem rmGt (l : Launch) (Z : State) (a0 : Array Value) (hw : ∀ d ∈ tables_1, d.before a0 Z = true) (ws : List Jvm.Cond) (a : Addr) (x : Int32) (h0 : Heap) (n0 : Nat) (Z0 : n0 ≤ h0.size) (Fx : Fld Z h0 a "com/example/bare_words/barewords/Hit" "tableIndex" "I" (.int x)) :
    MetFree l (⟨"com/example/bare_words/barewords/Hit", "tableIndex", "()I"⟩ : MethodName) (head1 (Jvm.Cond.code (⟨"com/example/bare_words/barewords/Hit", "tableIndex", "()I"⟩ : MethodName) prog_24_method_6_code 1 (some .int) :: ws) ({ frames := 0, cells := 0, slots := 0, locals := 0 } : Room)) (fun ar_ U_ => ar_ = #[(.ref a)] ∧ Z.Warmed39 U_.vm ∧ U_.heap = h0) (fun _ _ _ _ _ => True) (fun _ U_ ou_ V_ => ∃ v_ L_, ou_ = .returned v_ ∧ QrmGt Z x h0 n0 v_ V_.heap L_ ∧ FrameEnd U_ ou_ V_ L_ ({ frames := 0, cells := 0, slots := 0, locals := 0 } : Room).cells ({ frames := 0, cells := 0, slots := 0, locals := 0 } : Room).slots) := by
  refine MetFree.of_bodySF (plainFor_of_name own_pn17) hisR ?_
  intro p e s m args below meth c s₁ Bd hml0 hP hK
  obtain ⟨rfl, hZ, hh⟩ := hP
  have hx := Bd.exec
  have hby := Bd.bytes
  have hml : c.maxLocals = 1 := hml0
  have hown : s.vm.findClass "com/example/bare_words/barewords/Hit" = some m.cls := findClass_of_methodNamed Bd.named
  have hnm := (name_of_methodNamed Bd.named Bd.method).1
  have X0 : Stand p l e ({ frames := 0, cells := 0, slots := 0, locals := 0 } : Room) s m #[(.ref a)] below meth c s₁ [] 0 0 := Stand.of_body Bd
  have e0 : s₁.heap = h0 := by rw [← hh, Bd.state]; rfl
  have N0 := Fr.nil n0
  refine own_go (A := s₁.setTop (mkF m 0 #[.val (.ref a)] [])) (fun t kz => castTop (own_ef17 m a) kz) ?_
  refine own_go (A := s₁.setTop (mkF m 1 #[.val (.ref a)] [(.ref a)])) (fun _ kz => ?_) ?_
  · show Steps p.tables e below (s₁.setTop (mkF m 0 #[.val (.ref a)] [])) _
    refine XS.aloadN X0.here hx rfl (hb hby d17_0) rfl rfl ?_
    exact kz
  obtain ⟨T1, X1, e1, st1⟩ := getF X0 hx hZ hown (host := "") (Or.inl (hw _ (List.mem_of_getElem? (i := 35) rfl))) Via.refl e0 Fx (g := (mkF m 1 #[.val (.ref a)] [(.ref a)])) rfl rfl (hb hby d17_1)
  refine own_go (A := T1.setTop (mkF m 4 #[.val (.ref a)] [(.int x)])) (fun _ kz => st1 _ kz) ?_
  obtain ⟨fs, hrr, hrun, hended, hW, hsame⟩ := X1.leave (v := some (.int x)) (fun h => by rw [Bd.returns] at h; cases h)
  refine ⟨_, _, ?_, hrun, hended, _, _, rfl, ?_, ⟨_, rfl⟩, hW, hsame.mono (by decide) (by decide)⟩
  · show Steps p.tables e below (T1.setTop (mkF m 4 #[.val (.ref a)] [(.int x)])) _
    exact retI X1 hx Bd.returns (hb hby d17_4) hrr
  · show QrmGt Z x h0 n0 _ T1.heap _
    rw [e1]
    exact ⟨rfl, N0, rfl⟩
theorem d6_0 : decode prog_24_method_3_code 0 = .ok (.aload_n 0, 1) := by decide +kernel
theorem d6_1 : decode prog_24_method_3_code 1 = .ok (.getfield 10, 3) := by decide +kernel
theorem d6_4 : decode prog_24_method_3_code 4 = .ok (.iload_n 1, 1) := by decide +kernel
theorem d6_5 : decode prog_24_method_3_code 5 = .ok (.invokevirtual 30, 3) := by decide +kernel
theorem d6_8 : decode prog_24_method_3_code 8 = .ok (.aload_n 0, 1) := by decide +kernel
theorem d6_9 : decode prog_24_method_3_code 9 = .ok (.dup, 1) := by decide +kernel
theorem d6_10 : decode prog_24_method_3_code 10 = .ok (.getfield 34, 3) := by decide +kernel
theorem d6_13 : decode prog_24_method_3_code 13 = .ok (.dload_n 2, 1) := by decide +kernel
theorem d6_14 : decode prog_24_method_3_code 14 = .ok (.dadd, 1) := by decide +kernel
theorem d6_15 : decode prog_24_method_3_code 15 = .ok (.putfield 34, 3) := by decide +kernel
theorem d6_18 : decode prog_24_method_3_code 18 = .ok (.return_, 1) := by decide +kernel
theorem own_pn6 : plainName "com/example/bare_words/barewords/Hit" = true := by first | (simp [plainName, overriddenIn]; done) | decide +kernel
theorem own_ef6 (m : MethodId) (x0 : Addr) (x1 : Int32) (x2 : UInt64) : entryFrame m #[(.ref x0), (.int x1), (.double x2)] 4 = mkF m 0 #[.val (.ref x0), .val (.int x1), .val (.double x2), .second] [] := by first | (simp [entryFrame, mkF, argsToLocals, Value.category]; done) | rfl
def QrmAdd (Z : State) (a : Addr) (i : Int32) (pv : Int32) (b : Addr) (w : Addr) (len : Int32) (u : Int32) (wi : Int32) (x1 : Int32) (x2 : Int32) (q : Int64) (f : Nat → Int64) (h0 : Heap) (n0 : Nat) (v : Option Value) (h : Heap) (L : List Loc) : Prop := ∃ (w' : Addr) (kd : ClassId) (s' : Int32), v = none ∧ Fr n0 L ∧ n0 ≤ w' ∧ Keep h0 h [a, b, w] ∧ Exa Z h a "com/example/bare_words/barewords/Hit" ∧ Fld Z h a "com/example/bare_words/barewords/Hit" "words" "Ljava/util/BitSet;" (.ref b) ∧ Fld Z h a "com/example/bare_words/barewords/Hit" "doc" "I" (.int x1) ∧ Fld Z h a "com/example/bare_words/barewords/Hit" "tableIndex" "I" (.int x2) ∧ Fld Z h a "com/example/bare_words/barewords/Hit" "score" "D" (.double (FP.l2d (q + (pv.toInt64)))) ∧ Exa Z h b "java/util/BitSet" ∧ Fld Z h b "java/util/BitSet" "words" "[J" (.ref w') ∧ Fld Z h b "java/util/BitSet" "wordsInUse" "I" (.int (own_nu u wi)) ∧ Fld Z h b "java/util/BitSet" "sizeIsSticky" "Z" (.int s') ∧ Arv Z h w' kd .long (own_nl len u wi) (own_vals (own_nl len u wi) (own_set f wi i)) (.long (0 : Int64))
set_option maxRecDepth 65536 in
set_option maxHeartbeats 40000000 in
theorem rmAdd (l : Launch) (Z : State) (a0 : Array Value) (hw : ∀ d ∈ tables_1, d.before a0 Z = true) (ws : List Jvm.Cond) (a : Addr) (i pv : Int32) (b w : Addr) (kc : ClassId) (len u s_ wi x1 x2 : Int32) (q : Int64) (f : Nat → Int64) (h0 : Heap) (n0 : Nat) (Z0 : n0 ≤ h0.size) (hi : ¬ i < (0 : Int32)) (hwe : own_wi i = wi) (hsh : (len = (1 : Int32) ∧ u = (0 : Int32)) ∨ (len = (1 : Int32) ∧ u = (1 : Int32)) ∨ (len = (2 : Int32) ∧ u = (2 : Int32)) ∨ (len = (3 : Int32) ∧ u = (3 : Int32)) ∨ (len = (4 : Int32) ∧ u = (4 : Int32))) (hw4 : wi = (0 : Int32) ∨ wi = (1 : Int32) ∨ wi = (2 : Int32) ∨ wi = (3 : Int32)) (hz : ∀ k : Nat, (u).toNatClampNeg ≤ k → f k = (0 : Int64)) (hq : B53 q) (Ex : Exa Z h0 a "com/example/bare_words/barewords/Hit") (F_words_a : Fld Z h0 a "com/example/bare_words/barewords/Hit" "words" "Ljava/util/BitSet;" (.ref b)) (F_doc_a : Fld Z h0 a "com/example/bare_words/barewords/Hit" "doc" "I" (.int x1)) (F_tableIndex_a : Fld Z h0 a "com/example/bare_words/barewords/Hit" "tableIndex" "I" (.int x2)) (F_score_a : Fld Z h0 a "com/example/bare_words/barewords/Hit" "score" "D" (.double (FP.l2d q))) (Ex_b : Exa Z h0 b "java/util/BitSet") (Fw : Fld Z h0 b "java/util/BitSet" "words" "[J" (.ref w)) (Fu : Fld Z h0 b "java/util/BitSet" "wordsInUse" "I" (.int u)) (Fs : Fld Z h0 b "java/util/BitSet" "sizeIsSticky" "Z" (.int s_)) (Av : Arv Z h0 w kc .long len (own_vals len f) (.long (0 : Int64))) (S_ad : Sta Z h0 "java/util/BitSet" "$assertionsDisabled" "Z" (.int (1 : Int32))) (g_a : n0 ≤ a) (g_b : n0 ≤ b) (g_w : n0 ≤ w) (ne_w_b : w ≠ b) (ne_w_a : w ≠ a) (ne_b_a : b ≠ a) :
    MetFree l (⟨"com/example/bare_words/barewords/Hit", "add", "(ID)V"⟩ : MethodName) (head1 (Jvm.Cond.code (⟨"com/example/bare_words/barewords/Hit", "add", "(ID)V"⟩ : MethodName) prog_24_method_3_code 4 none :: ws) ({ frames := 5, cells := 1, slots := 6, locals := 97 } : Room)) (fun ar_ U_ => ar_ = #[(.ref a), (.int i), (.double (FP.i2d pv))] ∧ Z.Warmed39 U_.vm ∧ U_.heap = h0) (fun _ _ _ _ _ => True) (fun _ U_ ou_ V_ => ∃ v_ L_, ou_ = .returned v_ ∧ QrmAdd Z a i pv b w len u wi x1 x2 q f h0 n0 v_ V_.heap L_ ∧ FrameEnd U_ ou_ V_ L_ ({ frames := 5, cells := 1, slots := 6, locals := 97 } : Room).cells ({ frames := 5, cells := 1, slots := 6, locals := 97 } : Room).slots) := by
  refine MetFree.of_bodySF (plainFor_of_name own_pn6) hisR ?_
  intro p e s m args below meth c s₁ Bd hml0 hP hK
  obtain ⟨rfl, hZ, hh⟩ := hP
  have hx := Bd.exec
  have hby := Bd.bytes
  have hml : c.maxLocals = 4 := hml0
  have hown : s.vm.findClass "com/example/bare_words/barewords/Hit" = some m.cls := findClass_of_methodNamed Bd.named
  have hnm := (name_of_methodNamed Bd.named Bd.method).1
  have X0 : Stand p l e ({ frames := 5, cells := 1, slots := 6, locals := 97 } : Room) s m #[(.ref a), (.int i), (.double (FP.i2d pv))] below meth c s₁ [] 0 0 := Stand.of_body Bd
  have e0 : s₁.heap = h0 := by rw [← hh, Bd.state]; rfl
  have N0 := Fr.nil n0
  have Kp0 : Keep h0 h0 [a, b, w] := Keep.refl h0 _
  refine own_go (A := s₁.setTop (mkF m 0 #[.val (.ref a), .val (.int i), .val (.double (FP.i2d pv)), .second] [])) (fun t kz => castTop (own_ef6 m a i (FP.i2d pv)) kz) ?_
  refine own_go (A := s₁.setTop (mkF m 1 #[.val (.ref a), .val (.int i), .val (.double (FP.i2d pv)), .second] [(.ref a)])) (fun _ kz => ?_) ?_
  · show Steps p.tables e below (s₁.setTop (mkF m 0 #[.val (.ref a), .val (.int i), .val (.double (FP.i2d pv)), .second] [])) _
    refine XS.aloadN X0.here hx rfl (hb hby d6_0) rfl rfl ?_
    exact kz
  obtain ⟨T1, X1, e1, st1⟩ := getF X0 hx hZ hown (host := "") (Or.inl (hw _ (List.mem_of_getElem? (i := 31) rfl))) Via.refl e0 F_words_a (g := (mkF m 1 #[.val (.ref a), .val (.int i), .val (.double (FP.i2d pv)), .second] [(.ref a)])) rfl rfl (hb hby d6_1)
  refine own_go (A := T1.setTop (mkF m 4 #[.val (.ref a), .val (.int i), .val (.double (FP.i2d pv)), .second] [(.ref b)])) (fun _ kz => st1 _ kz) ?_
  refine own_go (A := T1.setTop (mkF m 5 #[.val (.ref a), .val (.int i), .val (.double (FP.i2d pv)), .second] [(.int i), (.ref b)])) (fun _ kz => ?_) ?_
  · show Steps p.tables e below (T1.setTop (mkF m 4 #[.val (.ref a), .val (.int i), .val (.double (FP.i2d pv)), .second] [(.ref b)])) _
    refine XS.iloadN X1.here hx rfl (hb hby d6_4) rfl ?_
    exact kz
  obtain ⟨cq2, kq2, q2a, q2b, q2c⟩ := isOf hZ e1 Ex_b
  obtain ⟨_, _, ⟨T2, L2, k2, n2⟩, -, X2, ⟨Lc2, hQ2, l2, y2, z2⟩, st2⟩ := X1.virtualBack hx (y := (⟨"java/util/BitSet", "set", "(I)V"⟩ : MethodName)) (z := (⟨"java/util/BitSet", "set", "(I)V"⟩ : MethodName)) hown (mvT hZ (hw _ (List.mem_of_getElem? (i := 42) rfl))) (mvT hZ (hw _ (List.mem_of_getElem? (i := 43) rfl))) (notFace_of_selects (args := #[]) (mvT hZ (hw _ (List.mem_of_getElem? (i := 45) rfl)))) (mvT hZ (hw _ (List.mem_of_getElem? (i := 45) rfl))) (mvT hZ (hw _ (List.mem_of_getElem? (i := 44) rfl))) (by decide) (backOf (W := 0) (rmSet l Z a0 hw [] b i w kc len u s_ wi f h0 n0 Z0 hi hwe hsh hw4 hz Ex_b Fw Fu Fs Av g_b ne_w_b g_w S_ad) hZ (hw _ (List.mem_of_getElem? (i := 46) rfl)) (hw _ (List.mem_of_getElem? (i := 11) rfl)) (by decide) (by decide)) q2a q2c (g := (mkF m 5 #[.val (.ref a), .val (.int i), .val (.double (FP.i2d pv)), .second] [(.int i), (.ref b)])) rfl (by rw [hml]; rfl) (Steps.refl _) (argsL := [(.int i)]) (rest := []) (lenOf own_pd2 rfl) rfl (by show 2 * 0 + _ ≤ _; exact Nat.le_of_eq rfl) (hb hby d6_5) (fun _ _ => ⟨rfl, e1, (by decide : 0 + 1 ≤ _), (by decide : 0 + 6 ≤ _)⟩)
  dsimp only [Pt.U, Pt.locs, Pt.cells, Pt.slots] at X2 l2 y2 z2 st2 hQ2
  subst l2 y2 z2
  obtain ⟨c2, kd2, s2, rfl, N2q, g_c2, K2q, _, Fw2, Fu2, Fs2, Aq2⟩ := hQ2
  have N2 := Fr.app N0 N2q
  replace S_ad := own_staKeep S_ad K2q (allS (own_ns Ex_b) (allS (own_nsA Av) all0))
  replace Ex := Ex.keep K2q
  replace F_words_a := F_words_a.keep K2q (ninS (Ne.symm ne_b_a) (ninS (Ne.symm ne_w_a) nin0))
  replace F_doc_a := F_doc_a.keep K2q (ninS (Ne.symm ne_b_a) (ninS (Ne.symm ne_w_a) nin0))
  replace F_tableIndex_a := F_tableIndex_a.keep K2q (ninS (Ne.symm ne_b_a) (ninS (Ne.symm ne_w_a) nin0))
  replace F_score_a := F_score_a.keep K2q (ninS (Ne.symm ne_b_a) (ninS (Ne.symm ne_w_a) nin0))
  replace Ex_b := Ex_b.keep K2q
  have Z2 : n0 ≤ T2.heap.size := Nat.le_trans Z0 K2q.1
  have Kp2 : Keep h0 T2.heap [a, b, w] := Kp0.trans K2q (allS (Or.inl (List.mem_of_getElem? (i := 1) rfl)) (allS (Or.inl (List.mem_of_getElem? (i := 2) rfl)) (all0)))
  have ne_c2_a : c2 ≠ a := Ne.symm (own_neA Ex (hw _ (List.mem_of_getElem? (i := 1) rfl)) Aq2)
  refine own_go (A := T2.setTop (mkF m 8 #[.val (.ref a), .val (.int i), .val (.double (FP.i2d pv)), .second] [])) (fun _ kz => st2.trans kz) ?_
  refine own_go (A := T2.setTop (mkF m 10 #[.val (.ref a), .val (.int i), .val (.double (FP.i2d pv)), .second] [(.ref a), (.ref a)])) (fun _ kz => ?_) ?_
  · show Steps p.tables e below (T2.setTop (mkF m 8 #[.val (.ref a), .val (.int i), .val (.double (FP.i2d pv)), .second] [])) _
    refine XS.aloadN X2.here hx rfl (hb hby d6_8) rfl rfl ?_
    show Steps p.tables e below (T2.setTop (mkF m 9 #[.val (.ref a), .val (.int i), .val (.double (FP.i2d pv)), .second] [(.ref a)])) _
    refine XS.dup X2.here hx rfl (hb hby d6_9) rfl rfl ?_
    exact kz
  obtain ⟨T3, X3, e3, st3⟩ := getF X2 hx hZ hown (host := "") (Or.inl (hw _ (List.mem_of_getElem? (i := 63) rfl))) Via.refl rfl F_score_a (g := (mkF m 10 #[.val (.ref a), .val (.int i), .val (.double (FP.i2d pv)), .second] [(.ref a), (.ref a)])) rfl rfl (hb hby d6_10)
  refine own_go (A := T3.setTop (mkF m 13 #[.val (.ref a), .val (.int i), .val (.double (FP.i2d pv)), .second] [(.double (FP.l2d q)), (.ref a)])) (fun _ kz => st3 _ kz) ?_
  refine own_go (A := T3.setTop (mkF m 14 #[.val (.ref a), .val (.int i), .val (.double (FP.i2d pv)), .second] [(.double (FP.i2d pv)), (.double (FP.l2d q)), (.ref a)])) (fun _ kz => ?_) ?_
  · show Steps p.tables e below (T3.setTop (mkF m 13 #[.val (.ref a), .val (.int i), .val (.double (FP.i2d pv)), .second] [(.double (FP.l2d q)), (.ref a)])) _
    refine XS.dloadN X3.here hx rfl (hb hby d6_13) rfl ?_
    exact kz
  have hd : FP.dadd (FP.l2d q) (FP.i2d pv) = FP.l2d (q + (pv.toInt64)) := by rw [i2d_w]; exact dadd_w hq (own_b53 pv)
  refine own_go (A := T3.setTop (mkF m 15 #[.val (.ref a), .val (.int i), .val (.double (FP.i2d pv)), .second] [(.double (FP.l2d (q + (pv.toInt64)))), (.ref a)])) (fun _ kz => ?_) ?_
  · show Steps p.tables e below (T3.setTop (mkF m 14 #[.val (.ref a), .val (.int i), .val (.double (FP.i2d pv)), .second] [(.double (FP.i2d pv)), (.double (FP.l2d q)), (.ref a)])) _
    exact XS.daddS X3.here hx rfl (hb hby d6_14) rfl (nn_w hd) hd kz
  obtain ⟨T4, h4, X4, e4, W4, st4⟩ := putF X3 hx hZ hown (host := "") (Or.inl (hw _ (List.mem_of_getElem? (i := 63) rfl))) Via.refl e3 F_score_a Ex (Or.inl (hw _ (List.mem_of_getElem? (i := 64) rfl))) (hw _ (List.mem_of_getElem? (i := 1) rfl)) (ty := .double) (by decide) rfl rfl (g := (mkF m 15 #[.val (.ref a), .val (.int i), .val (.double (FP.i2d pv)), .second] [(.double (FP.l2d (q + (pv.toInt64)))), (.ref a)])) rfl rfl (hb hby d6_15)
  have Fw4 := F_score_a.same W4
  replace S_ad := S_ad.wr W4
  replace Ex := Ex.wr W4
  replace F_words_a := F_words_a.other W4 (Or.inr (slot_ne (Or.inr (hw _ (List.mem_of_getElem? (i := 32) rfl))) (Or.inl (hw _ (List.mem_of_getElem? (i := 64) rfl))) (by decide) (t := (.object "java/util/BitSet")) (t' := .double) (by decide) (by decide)))
  replace F_doc_a := F_doc_a.other W4 (Or.inr (slot_ne (Or.inr (hw _ (List.mem_of_getElem? (i := 34) rfl))) (Or.inl (hw _ (List.mem_of_getElem? (i := 64) rfl))) (by decide) (t := .int) (t' := .double) (by decide) (by decide)))
  replace F_tableIndex_a := F_tableIndex_a.other W4 (Or.inr (slot_ne (Or.inr (hw _ (List.mem_of_getElem? (i := 36) rfl))) (Or.inl (hw _ (List.mem_of_getElem? (i := 64) rfl))) (by decide) (t := .int) (t' := .double) (by decide) (by decide)))
  replace Ex_b := Ex_b.wr W4
  replace Aq2 := Aq2.other W4 ne_c2_a
  replace Fw2 := Fw2.other W4 (Or.inl ne_b_a)
  replace Fu2 := Fu2.other W4 (Or.inl ne_b_a)
  replace Fs2 := Fs2.other W4 (Or.inl ne_b_a)
  have Z4 : n0 ≤ h4.size := Nat.le_trans Z2 (Keep.of_wr W4).1
  have Kp4 : Keep h0 h4 [a, b, w] := Kp2.wr W4 (Or.inl (List.mem_of_getElem? (i := 0) rfl))
  have F_score_a := Fw4
  have N4 := Fr.snoc X4 N2 g_a
  refine own_go (A := T4.setTop (mkF m 18 #[.val (.ref a), .val (.int i), .val (.double (FP.i2d pv)), .second] [])) (fun _ kz => st4 _ kz) ?_
  obtain ⟨fs, hrr, hrun, hended, hW, hsame⟩ := X4.leave (v := none) (fun _ => rfl)
  refine ⟨_, _, ?_, hrun, hended, _, _, rfl, ?_, ⟨_, rfl⟩, hW, hsame.mono (by decide) (by decide)⟩
  · show Steps p.tables e below (T4.setTop (mkF m 18 #[.val (.ref a), .val (.int i), .val (.double (FP.i2d pv)), .second] [])) _
    exact X4.returnOut hx Bd.returns (hb hby d6_18) hrr
  · show QrmAdd Z a i pv b w len u wi x1 x2 q f h0 n0 _ T4.heap _
    rw [e4]
    exact ⟨c2, kd2, s2, rfl, N4, g_c2, Kp4, Ex, F_words_a, F_doc_a, F_tableIndex_a, F_score_a, Ex_b, Fw2, Fu2, Fs2, Aq2⟩
theorem own_pn0 : plainName "com/example/bare_words/barewords/HitAddPinLaw" = true := by first | (simp [plainName, overriddenIn]; done) | decide +kernel
theorem own_ef0 (m : MethodId) (x0 : Int32) (x1 : Int32) (x2 : Int32) (x3 : Int32) (x4 : Int32) (x5 : Int32) : entryFrame m #[(.int x0), (.int x1), (.int x2), (.int x3), (.int x4), (.int x5)] maxLocals = mkF m 0 #[.val (.int x0), .val (.int x1), .val (.int x2), .val (.int x3), .val (.int x4), .val (.int x5), .unset, .unset, .unset, .unset, .unset, .unset, .unset, .unset] [] := by first | (simp [entryFrame, mkF, argsToLocals, Value.category, maxLocals]; done) | rfl
def Qrm0 (Z : State) (p1 p2 p3 p4 p5 p6 : Int32) (h0 : Heap) (n0 : Nat) (v : Option Value) (h : Heap) (L : List Loc) : Prop := v = some (.int 1) ∧ Fr n0 L
set_option maxRecDepth 65536 in
set_option maxHeartbeats 40000000 in
theorem rm0 (l : Launch) (Z : State) (a0 : Array Value) (hw : ∀ d ∈ tables_1, d.before a0 Z = true) (ws : List Jvm.Cond) (p1 p2 p3 p4 p5 p6 : Int32) (h0 : Heap) (n0 : Nat) (Z0 : n0 ≤ h0.size) (S_ad : Sta Z h0 "java/util/BitSet" "$assertionsDisabled" "Z" (.int (1 : Int32))) :
    MetFree l x (head1 (Jvm.Cond.code x code maxLocals ret :: ws) room_1) (fun ar_ U_ => ar_ = #[(.int p1), (.int p2), (.int p3), (.int p4), (.int p5), (.int p6)] ∧ Z.Warmed39 U_.vm ∧ U_.heap = h0) (fun _ _ _ _ _ => True) (fun _ U_ ou_ V_ => ∃ v_ L_, ou_ = .returned v_ ∧ Qrm0 Z p1 p2 p3 p4 p5 p6 h0 n0 v_ V_.heap L_ ∧ FrameEnd U_ ou_ V_ L_ room_1.cells room_1.slots) := by
  refine MetFree.of_bodySF (plainFor_of_name own_pn0) hisR ?_
  intro p e s m args below meth c s₁ Bd hml0 hP hK
  obtain ⟨rfl, hZ, hh⟩ := hP
  have hx := Bd.exec
  have hby := Bd.bytes
  have hml : c.maxLocals = 14 := hml0
  have hown : s.vm.findClass "com/example/bare_words/barewords/HitAddPinLaw" = some m.cls := findClass_of_methodNamed Bd.named
  have hnm := (name_of_methodNamed Bd.named Bd.method).1
  have X0 : Stand p l e room_1 s m #[(.int p1), (.int p2), (.int p3), (.int p4), (.int p5), (.int p6)] below meth c s₁ [] 0 0 := Stand.of_body Bd
  have e0 : s₁.heap = h0 := by rw [← hh, Bd.state]; rfl
  have N0 := Fr.nil n0
  refine own_go (A := s₁.setTop (mkF m 0 #[.val (.int p1), .val (.int p2), .val (.int p3), .val (.int p4), .val (.int p5), .val (.int p6), .unset, .unset, .unset, .unset, .unset, .unset, .unset, .unset] [])) (fun t kz => castTop (own_ef0 m p1 p2 p3 p4 p5 p6) kz) ?_
  refine own_go (A := s₁.setTop (mkF m 7 #[.val (.int p1), .val (.int p2), .val (.int p3), .val (.int p4), .val (.int p5), .val (.int p6), .val (.int (p3 &&& (255 : Int32))), .unset, .unset, .unset, .unset, .unset, .unset, .unset] [])) (fun _ kz => ?_) ?_
  · show Steps p.tables e below (s₁.setTop (mkF m 0 #[.val (.int p1), .val (.int p2), .val (.int p3), .val (.int p4), .val (.int p5), .val (.int p6), .unset, .unset, .unset, .unset, .unset, .unset, .unset, .unset] [])) _
    refine XS.iloadN X0.here hx rfl (hb hby at_0) rfl ?_
    show Steps p.tables e below (s₁.setTop (mkF m 1 #[.val (.int p1), .val (.int p2), .val (.int p3), .val (.int p4), .val (.int p5), .val (.int p6), .unset, .unset, .unset, .unset, .unset, .unset, .unset, .unset] [(.int p3)])) _
    refine XS.sipush X0.here hx rfl (hb hby at_1) ?_
    show Steps p.tables e below (s₁.setTop (mkF m 4 #[.val (.int p1), .val (.int p2), .val (.int p3), .val (.int p4), .val (.int p5), .val (.int p6), .unset, .unset, .unset, .unset, .unset, .unset, .unset, .unset] [(.int (255 : Int32)), (.int p3)])) _
    refine XS.iand X0.here hx rfl (hb hby at_4) rfl ?_
    show Steps p.tables e below (s₁.setTop (mkF m 5 #[.val (.int p1), .val (.int p2), .val (.int p3), .val (.int p4), .val (.int p5), .val (.int p6), .unset, .unset, .unset, .unset, .unset, .unset, .unset, .unset] [(.int (p3 &&& (255 : Int32)))])) _
    refine XS.istore X0.here hx rfl (hb hby at_5) rfl (l' := #[.val (.int p1), .val (.int p2), .val (.int p3), .val (.int p4), .val (.int p5), .val (.int p6), .val (.int (p3 &&& (255 : Int32))), .unset, .unset, .unset, .unset, .unset, .unset, .unset]) rfl ?_
    exact kz
  obtain ⟨i, hi⟩ : ∃ z, z = (p3 &&& (255 : Int32)) := ⟨_, rfl⟩
  refine own_go (A := s₁.setTop (mkF m 7 #[.val (.int p1), .val (.int p2), .val (.int p3), .val (.int p4), .val (.int p5), .val (.int p6), .val (.int i), .unset, .unset, .unset, .unset, .unset, .unset, .unset] [])) (fun _ kz => by rw [hi] at kz; exact kz) ?_
  obtain ⟨wi, hwe⟩ : ∃ z, own_wi i = z := ⟨_, rfl⟩
  have h4wi := own_wi4 _ hi hwe
  have hii := own_nn _ hi
  refine own_go (A := s₁.setTop (mkF m 14 #[.val (.int p1), .val (.int p2), .val (.int p3), .val (.int p4), .val (.int p5), .val (.int p6), .val (.int i), .val (.int (p4 &&& (255 : Int32))), .unset, .unset, .unset, .unset, .unset, .unset] [])) (fun _ kz => ?_) ?_
  · show Steps p.tables e below (s₁.setTop (mkF m 7 #[.val (.int p1), .val (.int p2), .val (.int p3), .val (.int p4), .val (.int p5), .val (.int p6), .val (.int i), .unset, .unset, .unset, .unset, .unset, .unset, .unset] [])) _
    refine XS.iloadN X0.here hx rfl (hb hby at_7) rfl ?_
    show Steps p.tables e below (s₁.setTop (mkF m 8 #[.val (.int p1), .val (.int p2), .val (.int p3), .val (.int p4), .val (.int p5), .val (.int p6), .val (.int i), .unset, .unset, .unset, .unset, .unset, .unset, .unset] [(.int p4)])) _
    refine XS.sipush X0.here hx rfl (hb hby at_8) ?_
    show Steps p.tables e below (s₁.setTop (mkF m 11 #[.val (.int p1), .val (.int p2), .val (.int p3), .val (.int p4), .val (.int p5), .val (.int p6), .val (.int i), .unset, .unset, .unset, .unset, .unset, .unset, .unset] [(.int (255 : Int32)), (.int p4)])) _
    refine XS.iand X0.here hx rfl (hb hby at_11) rfl ?_
    show Steps p.tables e below (s₁.setTop (mkF m 12 #[.val (.int p1), .val (.int p2), .val (.int p3), .val (.int p4), .val (.int p5), .val (.int p6), .val (.int i), .unset, .unset, .unset, .unset, .unset, .unset, .unset] [(.int (p4 &&& (255 : Int32)))])) _
    refine XS.istore X0.here hx rfl (hb hby at_12) rfl (l' := #[.val (.int p1), .val (.int p2), .val (.int p3), .val (.int p4), .val (.int p5), .val (.int p6), .val (.int i), .val (.int (p4 &&& (255 : Int32))), .unset, .unset, .unset, .unset, .unset, .unset]) rfl ?_
    exact kz
  obtain ⟨j, hj⟩ : ∃ z, z = (p4 &&& (255 : Int32)) := ⟨_, rfl⟩
  refine own_go (A := s₁.setTop (mkF m 14 #[.val (.int p1), .val (.int p2), .val (.int p3), .val (.int p4), .val (.int p5), .val (.int p6), .val (.int i), .val (.int j), .unset, .unset, .unset, .unset, .unset, .unset] [])) (fun _ kz => by rw [hj] at kz; exact kz) ?_
  obtain ⟨wj, hwj⟩ : ∃ z, own_wi j = z := ⟨_, rfl⟩
  have h4wj := own_wi4 _ hj hwj
  have hij := own_nn _ hj
  obtain ⟨T1, h1, X1, e1, E1, A1, D1, -, st1⟩ := newO X0 hx hZ hown (hw _ (List.mem_of_getElem? (i := 0) rfl)) (hw _ (List.mem_of_getElem? (i := 1) rfl)) (hw _ (List.mem_of_getElem? (i := 2) rfl)) e0 (g := (mkF m 14 #[.val (.int p1), .val (.int p2), .val (.int p3), .val (.int p4), .val (.int p5), .val (.int p6), .val (.int i), .val (.int j), .unset, .unset, .unset, .unset, .unset, .unset] [])) rfl (hb hby at_14) (by decide) (by decide)
  obtain ⟨b1, gq1⟩ : ∃ z, z = h0.size := ⟨_, rfl⟩
  rw [← gq1] at A1 D1 st1
  have g_b1 : n0 ≤ b1 := Nat.le_trans Z0 (Nat.le_of_eq gq1.symm)
  replace S_ad := S_ad.ext E1
  have Z1 : n0 ≤ h1.size := Nat.le_trans Z0 E1.1
  have Ex_b1 := A1
  have F_words_b1 : Fld Z h1 b1 "com/example/bare_words/barewords/Hit" "words" "Ljava/util/BitSet;" .null := D1 (Or.inr (hw _ (List.mem_of_getElem? (i := 32) rfl))) (ty := (.object "java/util/BitSet")) (by decide)
  have F_doc_b1 : Fld Z h1 b1 "com/example/bare_words/barewords/Hit" "doc" "I" (.int (0 : Int32)) := D1 (Or.inr (hw _ (List.mem_of_getElem? (i := 34) rfl))) (ty := .int) (by decide)
  have F_tableIndex_b1 : Fld Z h1 b1 "com/example/bare_words/barewords/Hit" "tableIndex" "I" (.int (0 : Int32)) := D1 (Or.inr (hw _ (List.mem_of_getElem? (i := 36) rfl))) (ty := .int) (by decide)
  have F_score_b1 : Fld Z h1 b1 "com/example/bare_words/barewords/Hit" "score" "D" (defaultValue .double) := D1 (Or.inl (hw _ (List.mem_of_getElem? (i := 64) rfl))) (ty := .double) (by decide)
  refine own_go (A := T1.setTop (mkF m 17 #[.val (.int p1), .val (.int p2), .val (.int p3), .val (.int p4), .val (.int p5), .val (.int p6), .val (.int i), .val (.int j), .unset, .unset, .unset, .unset, .unset, .unset] [(.ref b1)])) (fun _ kz => st1 _ kz) ?_
  refine own_go (A := T1.setTop (mkF m 20 #[.val (.int p1), .val (.int p2), .val (.int p3), .val (.int p4), .val (.int p5), .val (.int p6), .val (.int i), .val (.int j), .unset, .unset, .unset, .unset, .unset, .unset] [(.int p2), (.int p1), (.ref b1), (.ref b1)])) (fun _ kz => ?_) ?_
  · show Steps p.tables e below (T1.setTop (mkF m 17 #[.val (.int p1), .val (.int p2), .val (.int p3), .val (.int p4), .val (.int p5), .val (.int p6), .val (.int i), .val (.int j), .unset, .unset, .unset, .unset, .unset, .unset] [(.ref b1)])) _
    refine XS.dup X1.here hx rfl (hb hby at_17) rfl rfl ?_
    show Steps p.tables e below (T1.setTop (mkF m 18 #[.val (.int p1), .val (.int p2), .val (.int p3), .val (.int p4), .val (.int p5), .val (.int p6), .val (.int i), .val (.int j), .unset, .unset, .unset, .unset, .unset, .unset] [(.ref b1), (.ref b1)])) _
    refine XS.iloadN X1.here hx rfl (hb hby at_18) rfl ?_
    show Steps p.tables e below (T1.setTop (mkF m 19 #[.val (.int p1), .val (.int p2), .val (.int p3), .val (.int p4), .val (.int p5), .val (.int p6), .val (.int i), .val (.int j), .unset, .unset, .unset, .unset, .unset, .unset] [(.int p1), (.ref b1), (.ref b1)])) _
    refine XS.iloadN X1.here hx rfl (hb hby at_19) rfl ?_
    exact kz
  obtain ⟨_, _, ⟨T2, L2, k2, n2⟩, -, X2, ⟨Lc2, hQ2, l2, y2, z2⟩, st2⟩ := X1.specialBack hx (y := (⟨"com/example/bare_words/barewords/Hit", "<init>", "(II)V"⟩ : MethodName)) rfl hown (mvT hZ (hw _ (List.mem_of_getElem? (i := 3) rfl))) (mvT hZ (hw _ (List.mem_of_getElem? (i := 4) rfl))) (mvT hZ (hw _ (List.mem_of_getElem? (i := 5) rfl))) (by decide) (backOf (W := 1) (rmHI l Z a0 hw [] b1 p1 p2 h1 n0 Z1 Ex_b1 g_b1 F_words_b1 F_doc_b1 F_tableIndex_b1 (Fld.zeroD F_score_b1)) hZ (hw _ (List.mem_of_getElem? (i := 5) rfl)) (hw _ (List.mem_of_getElem? (i := 2) rfl)) (by decide) (by decide)) (g := (mkF m 20 #[.val (.int p1), .val (.int p2), .val (.int p3), .val (.int p4), .val (.int p5), .val (.int p6), .val (.int i), .val (.int j), .unset, .unset, .unset, .unset, .unset, .unset] [(.int p2), (.int p1), (.ref b1), (.ref b1)])) rfl (by rw [hml]; rfl) (Steps.refl _) (a := b1) (argsL := [(.int p1), (.int p2)]) (rest := [(.ref b1)]) (lenOf own_pd6 rfl) rfl (by show 2 * 0 + _ ≤ _; exact Nat.le_of_eq rfl) (hb hby at_20) (fun _ _ => ⟨rfl, e1, (by decide : 1 + 2 ≤ _), (by decide : 5 + 4 ≤ _)⟩)
  dsimp only [Pt.U, Pt.locs, Pt.cells, Pt.slots] at X2 l2 y2 z2 st2 hQ2
  subst l2 y2 z2
  obtain ⟨bs, w1, k1, rfl, N2q, zb, zw, K2q, _, Fhw, Fhd, Fht, Fhs, Ebs, Fw1, Fu1, Fs1, Av1⟩ := hQ2
  have N2 := Fr.app N0 N2q
  have ne_b1_bs : b1 ≠ bs := Nat.ne_of_lt (Nat.lt_of_lt_of_le Ex_b1.lt zb)
  have g_bs : n0 ≤ bs := Nat.le_trans Z1 zb
  have ne_b1_w1 : b1 ≠ w1 := Nat.ne_of_lt (Nat.lt_of_lt_of_le Ex_b1.lt zw)
  have g_w1 : n0 ≤ w1 := Nat.le_trans Z1 zw
  replace S_ad := own_staKeep S_ad K2q (allS (own_ns Ex_b1) all0)
  replace Ex_b1 := Ex_b1.keep K2q
  have Z2 : n0 ≤ T2.heap.size := Nat.le_trans Z1 K2q.1
  have ne_w1_bs : w1 ≠ bs := Ne.symm (own_neA Ebs (hw _ (List.mem_of_getElem? (i := 10) rfl)) Av1)
  refine own_go (A := T2.setTop (mkF m 23 #[.val (.int p1), .val (.int p2), .val (.int p3), .val (.int p4), .val (.int p5), .val (.int p6), .val (.int i), .val (.int j), .unset, .unset, .unset, .unset, .unset, .unset] [(.ref b1)])) (fun _ kz => st2.trans kz) ?_
  refine own_go (A := T2.setTop (mkF m 32 #[.val (.int p1), .val (.int p2), .val (.int p3), .val (.int p4), .val (.int p5), .val (.int p6), .val (.int i), .val (.int j), .val (.ref b1), .unset, .unset, .unset, .unset, .unset] [(.double (FP.i2d p5)), (.int i), (.ref b1)])) (fun _ kz => ?_) ?_
  · show Steps p.tables e below (T2.setTop (mkF m 23 #[.val (.int p1), .val (.int p2), .val (.int p3), .val (.int p4), .val (.int p5), .val (.int p6), .val (.int i), .val (.int j), .unset, .unset, .unset, .unset, .unset, .unset] [(.ref b1)])) _
    refine XS.astore X2.here hx rfl (hb hby at_23) rfl rfl (l' := #[.val (.int p1), .val (.int p2), .val (.int p3), .val (.int p4), .val (.int p5), .val (.int p6), .val (.int i), .val (.int j), .val (.ref b1), .unset, .unset, .unset, .unset, .unset]) rfl ?_
    show Steps p.tables e below (T2.setTop (mkF m 25 #[.val (.int p1), .val (.int p2), .val (.int p3), .val (.int p4), .val (.int p5), .val (.int p6), .val (.int i), .val (.int j), .val (.ref b1), .unset, .unset, .unset, .unset, .unset] [])) _
    refine XS.aload X2.here hx rfl (hb hby at_25) rfl rfl ?_
    show Steps p.tables e below (T2.setTop (mkF m 27 #[.val (.int p1), .val (.int p2), .val (.int p3), .val (.int p4), .val (.int p5), .val (.int p6), .val (.int i), .val (.int j), .val (.ref b1), .unset, .unset, .unset, .unset, .unset] [(.ref b1)])) _
    refine XS.iload X2.here hx rfl (hb hby at_27) rfl ?_
    show Steps p.tables e below (T2.setTop (mkF m 29 #[.val (.int p1), .val (.int p2), .val (.int p3), .val (.int p4), .val (.int p5), .val (.int p6), .val (.int i), .val (.int j), .val (.ref b1), .unset, .unset, .unset, .unset, .unset] [(.int i), (.ref b1)])) _
    refine XS.iload X2.here hx rfl (hb hby at_29) rfl ?_
    show Steps p.tables e below (T2.setTop (mkF m 31 #[.val (.int p1), .val (.int p2), .val (.int p3), .val (.int p4), .val (.int p5), .val (.int p6), .val (.int i), .val (.int j), .val (.ref b1), .unset, .unset, .unset, .unset, .unset] [(.int p5), (.int i), (.ref b1)])) _
    refine XS.i2dS X2.here hx rfl (hb hby at_31) rfl rfl ?_
    exact kz
  obtain ⟨cq3, kq3, q3a, q3b, q3c⟩ := isOf hZ rfl Ex_b1
  obtain ⟨_, _, ⟨T3, L3, k3, n3⟩, -, X3, ⟨Lc3, hQ3, l3, y3, z3⟩, st3⟩ := X2.virtualBack hx (y := (⟨"com/example/bare_words/barewords/Hit", "add", "(ID)V"⟩ : MethodName)) (z := (⟨"com/example/bare_words/barewords/Hit", "add", "(ID)V"⟩ : MethodName)) hown (mvT hZ (hw _ (List.mem_of_getElem? (i := 37) rfl))) (mvT hZ (hw _ (List.mem_of_getElem? (i := 38) rfl))) (notFace_of_selects (args := #[]) (mvT hZ (hw _ (List.mem_of_getElem? (i := 40) rfl)))) (mvT hZ (hw _ (List.mem_of_getElem? (i := 40) rfl))) (mvT hZ (hw _ (List.mem_of_getElem? (i := 39) rfl))) (by decide) (backOf (W := 0) (rmAdd l Z a0 hw [] b1 i p5 bs w1 k1 (1 : Int32) (0 : Int32) (0 : Int32) wi p1 p2 (0 : Int64) own_f0 T2.heap n0 Z2 hii hwe (Or.inl ⟨rfl, rfl⟩) h4wi (fun _ _ => rfl) own_b53z Ex_b1 Fhw Fhd Fht Fhs Ebs Fw1 Fu1 Fs1 Av1 S_ad g_b1 g_bs g_w1 ne_w1_bs (Ne.symm ne_b1_w1) (Ne.symm ne_b1_bs)) hZ (hw _ (List.mem_of_getElem? (i := 41) rfl)) (hw _ (List.mem_of_getElem? (i := 2) rfl)) (by decide) (by decide)) q3a q3c (g := (mkF m 32 #[.val (.int p1), .val (.int p2), .val (.int p3), .val (.int p4), .val (.int p5), .val (.int p6), .val (.int i), .val (.int j), .val (.ref b1), .unset, .unset, .unset, .unset, .unset] [(.double (FP.i2d p5)), (.int i), (.ref b1)])) rfl (by rw [hml]; rfl) (Steps.refl _) (argsL := [(.int i), (.double (FP.i2d p5))]) (rest := []) (lenOf own_pd7 rfl) rfl (by show 2 * 0 + _ ≤ _; exact Nat.le_of_eq rfl) (hb hby at_32) (fun _ _ => ⟨rfl, rfl, (by decide : 3 + 1 ≤ _), (by decide : 9 + 6 ≤ _)⟩)
  dsimp only [Pt.U, Pt.locs, Pt.cells, Pt.slots] at X3 l3 y3 z3 st3 hQ3
  subst l3 y3 z3
  obtain ⟨c3, kd3, s3, rfl, N3q, g_c3, K3q, _, Fhw3, Fhd3, Fht3, Fhs3, _, Fw3, Fu3, Fs3, Aq3⟩ := hQ3
  have N3 := Fr.app N2 N3q
  replace S_ad := own_staKeep S_ad K3q (allS (own_ns Ex_b1) (allS (own_ns Ebs) (allS (own_nsA Av1) all0)))
  replace Ex_b1 := Ex_b1.keep K3q
  replace Ebs := Ebs.keep K3q
  have Z3 : n0 ≤ T3.heap.size := Nat.le_trans Z2 K3q.1
  have ne_c3_bs : c3 ≠ bs := Ne.symm (own_neA Ebs (hw _ (List.mem_of_getElem? (i := 10) rfl)) Aq3)
  have ne_c3_b1 : c3 ≠ b1 := Ne.symm (own_neA Ex_b1 (hw _ (List.mem_of_getElem? (i := 1) rfl)) Aq3)
  refine own_go (A := T3.setTop (mkF m 35 #[.val (.int p1), .val (.int p2), .val (.int p3), .val (.int p4), .val (.int p5), .val (.int p6), .val (.int i), .val (.int j), .val (.ref b1), .unset, .unset, .unset, .unset, .unset] [])) (fun _ kz => st3.trans kz) ?_
  refine own_go (A := T3.setTop (mkF m 37 #[.val (.int p1), .val (.int p2), .val (.int p3), .val (.int p4), .val (.int p5), .val (.int p6), .val (.int i), .val (.int j), .val (.ref b1), .unset, .unset, .unset, .unset, .unset] [(.ref b1)])) (fun _ kz => ?_) ?_
  · show Steps p.tables e below (T3.setTop (mkF m 35 #[.val (.int p1), .val (.int p2), .val (.int p3), .val (.int p4), .val (.int p5), .val (.int p6), .val (.int i), .val (.int j), .val (.ref b1), .unset, .unset, .unset, .unset, .unset] [])) _
    refine XS.aload X3.here hx rfl (hb hby at_35) rfl rfl ?_
    exact kz
  obtain ⟨cq4, kq4, q4a, q4b, q4c⟩ := isOf hZ rfl Ex_b1
  obtain ⟨_, _, ⟨T4, L4, k4, n4⟩, -, X4, ⟨Lc4, hQ4, l4, y4, z4⟩, st4⟩ := X3.virtualBack hx (y := (⟨"com/example/bare_words/barewords/Hit", "words", "()Ljava/util/BitSet;"⟩ : MethodName)) (z := (⟨"com/example/bare_words/barewords/Hit", "words", "()Ljava/util/BitSet;"⟩ : MethodName)) hown (mvT hZ (hw _ (List.mem_of_getElem? (i := 65) rfl))) (mvT hZ (hw _ (List.mem_of_getElem? (i := 66) rfl))) (notFace_of_selects (args := #[]) (mvT hZ (hw _ (List.mem_of_getElem? (i := 68) rfl)))) (mvT hZ (hw _ (List.mem_of_getElem? (i := 68) rfl))) (mvT hZ (hw _ (List.mem_of_getElem? (i := 67) rfl))) (by decide) (backOf (W := 0) (rmGw l Z a0 hw [] b1 bs T3.heap n0 Z3 Fhw3) hZ (hw _ (List.mem_of_getElem? (i := 69) rfl)) (hw _ (List.mem_of_getElem? (i := 2) rfl)) (by decide) (by decide)) q4a q4c (g := (mkF m 37 #[.val (.int p1), .val (.int p2), .val (.int p3), .val (.int p4), .val (.int p5), .val (.int p6), .val (.int i), .val (.int j), .val (.ref b1), .unset, .unset, .unset, .unset, .unset] [(.ref b1)])) rfl (by rw [hml]; rfl) (Steps.refl _) (argsL := []) (rest := []) (lenOf own_pd8 rfl) rfl (by show 2 * 0 + _ ≤ _; exact Nat.le_of_eq rfl) (hb hby at_37) (fun _ _ => ⟨rfl, rfl, (by decide : 4 + 0 ≤ _), (by decide : 15 + 0 ≤ _)⟩)
  dsimp only [Pt.U, Pt.locs, Pt.cells, Pt.slots] at X4 l4 y4 z4 st4 hQ4
  subst l4 y4 z4
  obtain ⟨rfl, N4q, e4⟩ := hQ4
  have N4 := Fr.app N3 N4q
  refine own_go (A := T4.setTop (mkF m 40 #[.val (.int p1), .val (.int p2), .val (.int p3), .val (.int p4), .val (.int p5), .val (.int p6), .val (.int i), .val (.int j), .val (.ref b1), .unset, .unset, .unset, .unset, .unset] [(.ref bs)])) (fun _ kz => st4.trans kz) ?_
  refine own_go (A := T4.setTop (mkF m 46 #[.val (.int p1), .val (.int p2), .val (.int p3), .val (.int p4), .val (.int p5), .val (.int p6), .val (.int i), .val (.int j), .val (.ref b1), .val (.ref bs), .unset, .unset, .unset, .unset] [(.int i), (.ref bs)])) (fun _ kz => ?_) ?_
  · show Steps p.tables e below (T4.setTop (mkF m 40 #[.val (.int p1), .val (.int p2), .val (.int p3), .val (.int p4), .val (.int p5), .val (.int p6), .val (.int i), .val (.int j), .val (.ref b1), .unset, .unset, .unset, .unset, .unset] [(.ref bs)])) _
    refine XS.astore X4.here hx rfl (hb hby at_40) rfl rfl (l' := #[.val (.int p1), .val (.int p2), .val (.int p3), .val (.int p4), .val (.int p5), .val (.int p6), .val (.int i), .val (.int j), .val (.ref b1), .val (.ref bs), .unset, .unset, .unset, .unset]) rfl ?_
    show Steps p.tables e below (T4.setTop (mkF m 42 #[.val (.int p1), .val (.int p2), .val (.int p3), .val (.int p4), .val (.int p5), .val (.int p6), .val (.int i), .val (.int j), .val (.ref b1), .val (.ref bs), .unset, .unset, .unset, .unset] [])) _
    refine XS.aload X4.here hx rfl (hb hby at_42) rfl rfl ?_
    show Steps p.tables e below (T4.setTop (mkF m 44 #[.val (.int p1), .val (.int p2), .val (.int p3), .val (.int p4), .val (.int p5), .val (.int p6), .val (.int i), .val (.int j), .val (.ref b1), .val (.ref bs), .unset, .unset, .unset, .unset] [(.ref bs)])) _
    refine XS.iload X4.here hx rfl (hb hby at_44) rfl ?_
    exact kz
  obtain ⟨cq5, kq5, q5a, q5b, q5c⟩ := isOf hZ e4 Ebs
  obtain ⟨_, _, ⟨T5, L5, k5, n5⟩, -, X5, ⟨Lc5, hQ5, l5, y5, z5⟩, st5⟩ := X4.virtualBack hx (y := (⟨"java/util/BitSet", "get", "(I)Z"⟩ : MethodName)) (z := (⟨"java/util/BitSet", "get", "(I)Z"⟩ : MethodName)) hown (mvT hZ (hw _ (List.mem_of_getElem? (i := 70) rfl))) (mvT hZ (hw _ (List.mem_of_getElem? (i := 71) rfl))) (notFace_of_selects (args := #[]) (mvT hZ (hw _ (List.mem_of_getElem? (i := 73) rfl)))) (mvT hZ (hw _ (List.mem_of_getElem? (i := 73) rfl))) (mvT hZ (hw _ (List.mem_of_getElem? (i := 72) rfl))) (by decide) (backOf (W := 0) (rmGet l Z a0 hw [] bs i c3 kd3 (own_nl (1 : Int32) (0 : Int32) wi) (own_nu (0 : Int32) wi) s3 wi (1 : Int32) (own_set own_f0 wi i) T3.heap n0 Z3 hii hwe (own_w0 h4wi) (own_g1u h4wi) (own_g1l h4wi) (own_l16 h4wi) Ebs Fw3 Fu3 Aq3 S_ad (own_g1r h4wi)) hZ (hw _ (List.mem_of_getElem? (i := 74) rfl)) (hw _ (List.mem_of_getElem? (i := 11) rfl)) (by decide) (by decide)) q5a q5c (g := (mkF m 46 #[.val (.int p1), .val (.int p2), .val (.int p3), .val (.int p4), .val (.int p5), .val (.int p6), .val (.int i), .val (.int j), .val (.ref b1), .val (.ref bs), .unset, .unset, .unset, .unset] [(.int i), (.ref bs)])) rfl (by rw [hml]; rfl) (Steps.refl _) (argsL := [(.int i)]) (rest := []) (lenOf own_pd9 rfl) rfl (by show 2 * 0 + _ ≤ _; exact Nat.le_of_eq rfl) (hb hby at_46) (fun _ _ => ⟨rfl, e4, (by decide : 4 + 0 ≤ _), (by decide : 15 + 0 ≤ _)⟩)
  dsimp only [Pt.U, Pt.locs, Pt.cells, Pt.slots] at X5 l5 y5 z5 st5 hQ5
  subst l5 y5 z5
  obtain ⟨rfl, N5q, e5⟩ := hQ5
  have N5 := Fr.app N4 N5q
  refine own_go (A := T5.setTop (mkF m 49 #[.val (.int p1), .val (.int p2), .val (.int p3), .val (.int p4), .val (.int p5), .val (.int p6), .val (.int i), .val (.int j), .val (.ref b1), .val (.ref bs), .unset, .unset, .unset, .unset] [(.int (1 : Int32))])) (fun _ kz => st5.trans kz) ?_
  refine own_go (A := T5.setTop (mkF m 54 #[.val (.int p1), .val (.int p2), .val (.int p3), .val (.int p4), .val (.int p5), .val (.int p6), .val (.int i), .val (.int j), .val (.ref b1), .val (.ref bs), .unset, .unset, .unset, .unset] [(.ref bs)])) (fun _ kz => ?_) ?_
  · show Steps p.tables e below (T5.setTop (mkF m 49 #[.val (.int p1), .val (.int p2), .val (.int p3), .val (.int p4), .val (.int p5), .val (.int p6), .val (.int i), .val (.int j), .val (.ref b1), .val (.ref bs), .unset, .unset, .unset, .unset] [(.int (1 : Int32))])) _
    refine XS.ifNo X5.here hx rfl (hb hby at_49) rfl ((if0 _ _).trans (feq (by decide : ¬ ((1 : Int32) = (0 : Int32)))).1) ?_
    show Steps p.tables e below (T5.setTop (mkF m 52 #[.val (.int p1), .val (.int p2), .val (.int p3), .val (.int p4), .val (.int p5), .val (.int p6), .val (.int i), .val (.int j), .val (.ref b1), .val (.ref bs), .unset, .unset, .unset, .unset] [])) _
    refine XS.aload X5.here hx rfl (hb hby at_52) rfl rfl ?_
    exact kz
  obtain ⟨cq6, kq6, q6a, q6b, q6c⟩ := isOf hZ e5 Ebs
  obtain ⟨_, _, ⟨T6, L6, k6, n6⟩, -, X6, ⟨Lc6, hQ6, l6, y6, z6⟩, st6⟩ := X5.virtualBack hx (y := (⟨"java/util/BitSet", "cardinality", "()I"⟩ : MethodName)) (z := (⟨"java/util/BitSet", "cardinality", "()I"⟩ : MethodName)) hown (mvT hZ (hw _ (List.mem_of_getElem? (i := 75) rfl))) (mvT hZ (hw _ (List.mem_of_getElem? (i := 76) rfl))) (notFace_of_selects (args := #[]) (mvT hZ (hw _ (List.mem_of_getElem? (i := 78) rfl)))) (mvT hZ (hw _ (List.mem_of_getElem? (i := 78) rfl))) (mvT hZ (hw _ (List.mem_of_getElem? (i := 77) rfl))) (by decide) (backOf (W := 0) (rmCard l Z a0 hw [] bs c3 kd3 (own_nl (1 : Int32) (0 : Int32) wi) (own_nu (0 : Int32) wi) (1 : Int32) (own_set own_f0 wi i) T3.heap n0 Z3 (own_s6a h4wi) Fw3 Fu3 Aq3 (own_cd1 h4wi)) hZ (hw _ (List.mem_of_getElem? (i := 79) rfl)) (hw _ (List.mem_of_getElem? (i := 11) rfl)) (by decide) (by decide)) q6a q6c (g := (mkF m 54 #[.val (.int p1), .val (.int p2), .val (.int p3), .val (.int p4), .val (.int p5), .val (.int p6), .val (.int i), .val (.int j), .val (.ref b1), .val (.ref bs), .unset, .unset, .unset, .unset] [(.ref bs)])) rfl (by rw [hml]; rfl) (Steps.refl _) (argsL := []) (rest := []) (lenOf own_pd10 rfl) rfl (by show 2 * 0 + _ ≤ _; exact Nat.le_of_eq rfl) (hb hby at_54) (fun _ _ => ⟨rfl, e5, (by decide : 4 + 0 ≤ _), (by decide : 15 + 0 ≤ _)⟩)
  dsimp only [Pt.U, Pt.locs, Pt.cells, Pt.slots] at X6 l6 y6 z6 st6 hQ6
  subst l6 y6 z6
  obtain ⟨rfl, N6q, e6⟩ := hQ6
  have N6 := Fr.app N5 N6q
  refine own_go (A := T6.setTop (mkF m 57 #[.val (.int p1), .val (.int p2), .val (.int p3), .val (.int p4), .val (.int p5), .val (.int p6), .val (.int i), .val (.int j), .val (.ref b1), .val (.ref bs), .unset, .unset, .unset, .unset] [(.int (1 : Int32))])) (fun _ kz => st6.trans kz) ?_
  refine own_go (A := T6.setTop (mkF m 63 #[.val (.int p1), .val (.int p2), .val (.int p3), .val (.int p4), .val (.int p5), .val (.int p6), .val (.int i), .val (.int j), .val (.ref b1), .val (.ref bs), .unset, .unset, .unset, .unset] [(.ref b1)])) (fun _ kz => ?_) ?_
  · show Steps p.tables e below (T6.setTop (mkF m 57 #[.val (.int p1), .val (.int p2), .val (.int p3), .val (.int p4), .val (.int p5), .val (.int p6), .val (.int i), .val (.int j), .val (.ref b1), .val (.ref bs), .unset, .unset, .unset, .unset] [(.int (1 : Int32))])) _
    refine XS.iconst X6.here hx rfl (hb hby at_57) ?_
    show Steps p.tables e below (T6.setTop (mkF m 58 #[.val (.int p1), .val (.int p2), .val (.int p3), .val (.int p4), .val (.int p5), .val (.int p6), .val (.int i), .val (.int j), .val (.ref b1), .val (.ref bs), .unset, .unset, .unset, .unset] [(.int (1 : Int32)), (.int (1 : Int32))])) _
    refine XS.icmpNo X6.here hx rfl (hb hby at_58) rfl (teq (by decide : ((1 : Int32) = (1 : Int32)))).2 ?_
    show Steps p.tables e below (T6.setTop (mkF m 61 #[.val (.int p1), .val (.int p2), .val (.int p3), .val (.int p4), .val (.int p5), .val (.int p6), .val (.int i), .val (.int j), .val (.ref b1), .val (.ref bs), .unset, .unset, .unset, .unset] [])) _
    refine XS.aload X6.here hx rfl (hb hby at_61) rfl rfl ?_
    exact kz
  obtain ⟨cq7, kq7, q7a, q7b, q7c⟩ := isOf hZ e6 Ex_b1
  obtain ⟨_, _, ⟨T7, L7, k7, n7⟩, -, X7, ⟨Lc7, hQ7, l7, y7, z7⟩, st7⟩ := X6.virtualBack hx (y := (⟨"com/example/bare_words/barewords/Hit", "score", "()D"⟩ : MethodName)) (z := (⟨"com/example/bare_words/barewords/Hit", "score", "()D"⟩ : MethodName)) hown (mvT hZ (hw _ (List.mem_of_getElem? (i := 87) rfl))) (mvT hZ (hw _ (List.mem_of_getElem? (i := 88) rfl))) (notFace_of_selects (args := #[]) (mvT hZ (hw _ (List.mem_of_getElem? (i := 90) rfl)))) (mvT hZ (hw _ (List.mem_of_getElem? (i := 90) rfl))) (mvT hZ (hw _ (List.mem_of_getElem? (i := 89) rfl))) (by decide) (backOf (W := 0) (rmGs l Z a0 hw [] b1 (FP.l2d ((0 : Int64) + (p5.toInt64))) T3.heap n0 Z3 Fhs3) hZ (hw _ (List.mem_of_getElem? (i := 91) rfl)) (hw _ (List.mem_of_getElem? (i := 2) rfl)) (by decide) (by decide)) q7a q7c (g := (mkF m 63 #[.val (.int p1), .val (.int p2), .val (.int p3), .val (.int p4), .val (.int p5), .val (.int p6), .val (.int i), .val (.int j), .val (.ref b1), .val (.ref bs), .unset, .unset, .unset, .unset] [(.ref b1)])) rfl (by rw [hml]; rfl) (Steps.refl _) (argsL := []) (rest := []) (lenOf own_pd11 rfl) rfl (by show 2 * 0 + _ ≤ _; exact Nat.le_of_eq rfl) (hb hby at_63) (fun _ _ => ⟨rfl, e6, (by decide : 4 + 0 ≤ _), (by decide : 15 + 0 ≤ _)⟩)
  dsimp only [Pt.U, Pt.locs, Pt.cells, Pt.slots] at X7 l7 y7 z7 st7 hQ7
  subst l7 y7 z7
  obtain ⟨rfl, N7q, e7⟩ := hQ7
  have N7 := Fr.app N6 N7q
  refine own_go (A := T7.setTop (mkF m 66 #[.val (.int p1), .val (.int p2), .val (.int p3), .val (.int p4), .val (.int p5), .val (.int p6), .val (.int i), .val (.int j), .val (.ref b1), .val (.ref bs), .unset, .unset, .unset, .unset] [(.double (FP.l2d ((0 : Int64) + (p5.toInt64))))])) (fun _ kz => st7.trans kz) ?_
  refine own_go (A := T7.setTop (mkF m 87 #[.val (.int p1), .val (.int p2), .val (.int p3), .val (.int p4), .val (.int p5), .val (.int p6), .val (.int i), .val (.int j), .val (.ref b1), .val (.ref bs), .val (.int (1 : Int32)), .unset, .unset, .unset] [(.double (FP.i2d p6)), (.int j), (.ref b1)])) (fun _ kz => ?_) ?_
  · show Steps p.tables e below (T7.setTop (mkF m 66 #[.val (.int p1), .val (.int p2), .val (.int p3), .val (.int p4), .val (.int p5), .val (.int p6), .val (.int i), .val (.int j), .val (.ref b1), .val (.ref bs), .unset, .unset, .unset, .unset] [(.double (FP.l2d ((0 : Int64) + (p5.toInt64))))])) _
    refine XS.iload X7.here hx rfl (hb hby at_66) rfl ?_
    show Steps p.tables e below (T7.setTop (mkF m 68 #[.val (.int p1), .val (.int p2), .val (.int p3), .val (.int p4), .val (.int p5), .val (.int p6), .val (.int i), .val (.int j), .val (.ref b1), .val (.ref bs), .unset, .unset, .unset, .unset] [(.int p5), (.double (FP.l2d ((0 : Int64) + (p5.toInt64))))])) _
    refine XS.i2dS X7.here hx rfl (hb hby at_68) rfl rfl ?_
    show Steps p.tables e below (T7.setTop (mkF m 69 #[.val (.int p1), .val (.int p2), .val (.int p3), .val (.int p4), .val (.int p5), .val (.int p6), .val (.int i), .val (.int j), .val (.ref b1), .val (.ref bs), .unset, .unset, .unset, .unset] [(.double (FP.i2d p5)), (.double (FP.l2d ((0 : Int64) + (p5.toInt64))))])) _
    refine XS.dcmpS X7.here hx rfl (hb hby at_69) rfl rfl ?_
    show Steps p.tables e below (T7.setTop (mkF m 70 #[.val (.int p1), .val (.int p2), .val (.int p3), .val (.int p4), .val (.int p5), .val (.int p6), .val (.int i), .val (.int j), .val (.ref b1), .val (.ref bs), .unset, .unset, .unset, .unset] [(.int (cmpValue (FP.dcmp (FP.l2d ((0 : Int64) + (p5.toInt64))) (FP.i2d p5)) .l))])) _
    refine XS.ifNo X7.here hx rfl (hb hby at_70) rfl ((if0 _ _).trans (teq (dcmpV_eq (own_sc1 p5) (nn_w rfl) _)).2) ?_
    show Steps p.tables e below (T7.setTop (mkF m 73 #[.val (.int p1), .val (.int p2), .val (.int p3), .val (.int p4), .val (.int p5), .val (.int p6), .val (.int i), .val (.int j), .val (.ref b1), .val (.ref bs), .unset, .unset, .unset, .unset] [])) _
    refine XS.iconst X7.here hx rfl (hb hby at_73) ?_
    show Steps p.tables e below (T7.setTop (mkF m 74 #[.val (.int p1), .val (.int p2), .val (.int p3), .val (.int p4), .val (.int p5), .val (.int p6), .val (.int i), .val (.int j), .val (.ref b1), .val (.ref bs), .unset, .unset, .unset, .unset] [(.int (1 : Int32))])) _
    refine XS.goto X7.here hx rfl (pc0 := 74) (pc' := 78) rfl (hb hby at_74) (by decide) (by decide) ?_
    show Steps p.tables e below (T7.setTop (mkF m 78 #[.val (.int p1), .val (.int p2), .val (.int p3), .val (.int p4), .val (.int p5), .val (.int p6), .val (.int i), .val (.int j), .val (.ref b1), .val (.ref bs), .unset, .unset, .unset, .unset] [(.int (1 : Int32))])) _
    refine XS.istore X7.here hx rfl (hb hby at_78) rfl (l' := #[.val (.int p1), .val (.int p2), .val (.int p3), .val (.int p4), .val (.int p5), .val (.int p6), .val (.int i), .val (.int j), .val (.ref b1), .val (.ref bs), .val (.int (1 : Int32)), .unset, .unset, .unset]) rfl ?_
    show Steps p.tables e below (T7.setTop (mkF m 80 #[.val (.int p1), .val (.int p2), .val (.int p3), .val (.int p4), .val (.int p5), .val (.int p6), .val (.int i), .val (.int j), .val (.ref b1), .val (.ref bs), .val (.int (1 : Int32)), .unset, .unset, .unset] [])) _
    refine XS.aload X7.here hx rfl (hb hby at_80) rfl rfl ?_
    show Steps p.tables e below (T7.setTop (mkF m 82 #[.val (.int p1), .val (.int p2), .val (.int p3), .val (.int p4), .val (.int p5), .val (.int p6), .val (.int i), .val (.int j), .val (.ref b1), .val (.ref bs), .val (.int (1 : Int32)), .unset, .unset, .unset] [(.ref b1)])) _
    refine XS.iload X7.here hx rfl (hb hby at_82) rfl ?_
    show Steps p.tables e below (T7.setTop (mkF m 84 #[.val (.int p1), .val (.int p2), .val (.int p3), .val (.int p4), .val (.int p5), .val (.int p6), .val (.int i), .val (.int j), .val (.ref b1), .val (.ref bs), .val (.int (1 : Int32)), .unset, .unset, .unset] [(.int j), (.ref b1)])) _
    refine XS.iload X7.here hx rfl (hb hby at_84) rfl ?_
    show Steps p.tables e below (T7.setTop (mkF m 86 #[.val (.int p1), .val (.int p2), .val (.int p3), .val (.int p4), .val (.int p5), .val (.int p6), .val (.int i), .val (.int j), .val (.ref b1), .val (.ref bs), .val (.int (1 : Int32)), .unset, .unset, .unset] [(.int p6), (.int j), (.ref b1)])) _
    refine XS.i2dS X7.here hx rfl (hb hby at_86) rfl rfl ?_
    exact kz
  obtain ⟨cq8, kq8, q8a, q8b, q8c⟩ := isOf hZ e7 Ex_b1
  obtain ⟨_, _, ⟨T8, L8, k8, n8⟩, -, X8, ⟨Lc8, hQ8, l8, y8, z8⟩, st8⟩ := X7.virtualBack hx (y := (⟨"com/example/bare_words/barewords/Hit", "add", "(ID)V"⟩ : MethodName)) (z := (⟨"com/example/bare_words/barewords/Hit", "add", "(ID)V"⟩ : MethodName)) hown (mvT hZ (hw _ (List.mem_of_getElem? (i := 37) rfl))) (mvT hZ (hw _ (List.mem_of_getElem? (i := 38) rfl))) (notFace_of_selects (args := #[]) (mvT hZ (hw _ (List.mem_of_getElem? (i := 40) rfl)))) (mvT hZ (hw _ (List.mem_of_getElem? (i := 40) rfl))) (mvT hZ (hw _ (List.mem_of_getElem? (i := 39) rfl))) (by decide) (backOf (W := 0) (rmAdd l Z a0 hw [] b1 j p6 bs c3 kd3 (own_nl (1 : Int32) (0 : Int32) wi) (own_nu (0 : Int32) wi) s3 wj p1 p2 ((0 : Int64) + (p5.toInt64)) (own_set own_f0 wi i) T3.heap n0 Z3 hij hwj (own_sh1 h4wi) h4wj (own_hz1 h4wi) (own_b53a p5) Ex_b1 Fhw3 Fhd3 Fht3 Fhs3 Ebs Fw3 Fu3 Fs3 Aq3 S_ad g_b1 g_bs g_c3 ne_c3_bs ne_c3_b1 (Ne.symm ne_b1_bs)) hZ (hw _ (List.mem_of_getElem? (i := 41) rfl)) (hw _ (List.mem_of_getElem? (i := 2) rfl)) (by decide) (by decide)) q8a q8c (g := (mkF m 87 #[.val (.int p1), .val (.int p2), .val (.int p3), .val (.int p4), .val (.int p5), .val (.int p6), .val (.int i), .val (.int j), .val (.ref b1), .val (.ref bs), .val (.int (1 : Int32)), .unset, .unset, .unset] [(.double (FP.i2d p6)), (.int j), (.ref b1)])) rfl (by rw [hml]; rfl) (Steps.refl _) (argsL := [(.int j), (.double (FP.i2d p6))]) (rest := []) (lenOf own_pd7 rfl) rfl (by show 2 * 0 + _ ≤ _; exact Nat.le_of_eq rfl) (hb hby at_87) (fun _ _ => ⟨rfl, e7, (by decide : 4 + 1 ≤ _), (by decide : 15 + 6 ≤ _)⟩)
  dsimp only [Pt.U, Pt.locs, Pt.cells, Pt.slots] at X8 l8 y8 z8 st8 hQ8
  subst l8 y8 z8
  obtain ⟨c8, kd8, s8, rfl, N8q, g_c8, K8q, _, Fhw8, Fhd8, Fht8, Fhs8, _, Fw8, Fu8, Fs8, Aq8⟩ := hQ8
  have N8 := Fr.app N7 N8q
  replace S_ad := own_staKeep S_ad K8q (allS (own_ns Ex_b1) (allS (own_ns Ebs) (allS (own_nsA Aq3) all0)))
  replace Ex_b1 := Ex_b1.keep K8q
  replace Ebs := Ebs.keep K8q
  have Z8 : n0 ≤ T8.heap.size := Nat.le_trans Z3 K8q.1
  have ne_c8_bs : c8 ≠ bs := Ne.symm (own_neA Ebs (hw _ (List.mem_of_getElem? (i := 10) rfl)) Aq8)
  have ne_c8_b1 : c8 ≠ b1 := Ne.symm (own_neA Ex_b1 (hw _ (List.mem_of_getElem? (i := 1) rfl)) Aq8)
  refine own_go (A := T8.setTop (mkF m 90 #[.val (.int p1), .val (.int p2), .val (.int p3), .val (.int p4), .val (.int p5), .val (.int p6), .val (.int i), .val (.int j), .val (.ref b1), .val (.ref bs), .val (.int (1 : Int32)), .unset, .unset, .unset] [])) (fun _ kz => st8.trans kz) ?_
  refine own_go (A := T8.setTop (mkF m 92 #[.val (.int p1), .val (.int p2), .val (.int p3), .val (.int p4), .val (.int p5), .val (.int p6), .val (.int i), .val (.int j), .val (.ref b1), .val (.ref bs), .val (.int (1 : Int32)), .unset, .unset, .unset] [(.ref b1)])) (fun _ kz => ?_) ?_
  · show Steps p.tables e below (T8.setTop (mkF m 90 #[.val (.int p1), .val (.int p2), .val (.int p3), .val (.int p4), .val (.int p5), .val (.int p6), .val (.int i), .val (.int j), .val (.ref b1), .val (.ref bs), .val (.int (1 : Int32)), .unset, .unset, .unset] [])) _
    refine XS.aload X8.here hx rfl (hb hby at_90) rfl rfl ?_
    exact kz
  obtain ⟨cq9, kq9, q9a, q9b, q9c⟩ := isOf hZ rfl Ex_b1
  obtain ⟨_, _, ⟨T9, L9, k9, n9⟩, -, X9, ⟨Lc9, hQ9, l9, y9, z9⟩, st9⟩ := X8.virtualBack hx (y := (⟨"com/example/bare_words/barewords/Hit", "words", "()Ljava/util/BitSet;"⟩ : MethodName)) (z := (⟨"com/example/bare_words/barewords/Hit", "words", "()Ljava/util/BitSet;"⟩ : MethodName)) hown (mvT hZ (hw _ (List.mem_of_getElem? (i := 65) rfl))) (mvT hZ (hw _ (List.mem_of_getElem? (i := 66) rfl))) (notFace_of_selects (args := #[]) (mvT hZ (hw _ (List.mem_of_getElem? (i := 68) rfl)))) (mvT hZ (hw _ (List.mem_of_getElem? (i := 68) rfl))) (mvT hZ (hw _ (List.mem_of_getElem? (i := 67) rfl))) (by decide) (backOf (W := 0) (rmGw l Z a0 hw [] b1 bs T8.heap n0 Z8 Fhw8) hZ (hw _ (List.mem_of_getElem? (i := 69) rfl)) (hw _ (List.mem_of_getElem? (i := 2) rfl)) (by decide) (by decide)) q9a q9c (g := (mkF m 92 #[.val (.int p1), .val (.int p2), .val (.int p3), .val (.int p4), .val (.int p5), .val (.int p6), .val (.int i), .val (.int j), .val (.ref b1), .val (.ref bs), .val (.int (1 : Int32)), .unset, .unset, .unset] [(.ref b1)])) rfl (by rw [hml]; rfl) (Steps.refl _) (argsL := []) (rest := []) (lenOf own_pd8 rfl) rfl (by show 2 * 0 + _ ≤ _; exact Nat.le_of_eq rfl) (hb hby at_92) (fun _ _ => ⟨rfl, rfl, (by decide : 5 + 0 ≤ _), (by decide : 21 + 0 ≤ _)⟩)
  dsimp only [Pt.U, Pt.locs, Pt.cells, Pt.slots] at X9 l9 y9 z9 st9 hQ9
  subst l9 y9 z9
  obtain ⟨rfl, N9q, e9⟩ := hQ9
  have N9 := Fr.app N8 N9q
  refine own_go (A := T9.setTop (mkF m 95 #[.val (.int p1), .val (.int p2), .val (.int p3), .val (.int p4), .val (.int p5), .val (.int p6), .val (.int i), .val (.int j), .val (.ref b1), .val (.ref bs), .val (.int (1 : Int32)), .unset, .unset, .unset] [(.ref bs)])) (fun _ kz => st9.trans kz) ?_
  obtain ⟨ec, hec⟩ : ∃ z, z = (if i = j then (1 : Int32) else (2 : Int32)) := ⟨_, rfl⟩
  refine own_go (A := T9.setTop (mkF m 109 #[.val (.int p1), .val (.int p2), .val (.int p3), .val (.int p4), .val (.int p5), .val (.int p6), .val (.int i), .val (.int j), .val (.ref b1), .val (.ref bs), .val (.int (1 : Int32)), .val (.ref bs), .unset, .unset] [(.int ec)])) (fun _ kz => ?_) ?_
  · show Steps p.tables e below (T9.setTop (mkF m 95 #[.val (.int p1), .val (.int p2), .val (.int p3), .val (.int p4), .val (.int p5), .val (.int p6), .val (.int i), .val (.int j), .val (.ref b1), .val (.ref bs), .val (.int (1 : Int32)), .unset, .unset, .unset] [(.ref bs)])) _
    refine XS.astore X9.here hx rfl (hb hby at_95) rfl rfl (l' := #[.val (.int p1), .val (.int p2), .val (.int p3), .val (.int p4), .val (.int p5), .val (.int p6), .val (.int i), .val (.int j), .val (.ref b1), .val (.ref bs), .val (.int (1 : Int32)), .val (.ref bs), .unset, .unset]) rfl ?_
    show Steps p.tables e below (T9.setTop (mkF m 97 #[.val (.int p1), .val (.int p2), .val (.int p3), .val (.int p4), .val (.int p5), .val (.int p6), .val (.int i), .val (.int j), .val (.ref b1), .val (.ref bs), .val (.int (1 : Int32)), .val (.ref bs), .unset, .unset] [])) _
    refine XS.iload X9.here hx rfl (hb hby at_97) rfl ?_
    show Steps p.tables e below (T9.setTop (mkF m 99 #[.val (.int p1), .val (.int p2), .val (.int p3), .val (.int p4), .val (.int p5), .val (.int p6), .val (.int i), .val (.int j), .val (.ref b1), .val (.ref bs), .val (.int (1 : Int32)), .val (.ref bs), .unset, .unset] [(.int i)])) _
    refine XS.iload X9.here hx rfl (hb hby at_99) rfl ?_
    show Steps p.tables e below (T9.setTop (mkF m 101 #[.val (.int p1), .val (.int p2), .val (.int p3), .val (.int p4), .val (.int p5), .val (.int p6), .val (.int i), .val (.int j), .val (.ref b1), .val (.ref bs), .val (.int (1 : Int32)), .val (.ref bs), .unset, .unset] [(.int j), (.int i)])) _
    by_cases hc101 : i = j
    · rw [hec, if_pos hc101] at kz
      refine XS.icmpNo X9.here hx rfl (hb hby at_101) rfl (teq hc101).2 ?_
      show Steps p.tables e below (T9.setTop (mkF m 104 #[.val (.int p1), .val (.int p2), .val (.int p3), .val (.int p4), .val (.int p5), .val (.int p6), .val (.int i), .val (.int j), .val (.ref b1), .val (.ref bs), .val (.int (1 : Int32)), .val (.ref bs), .unset, .unset] [])) _
      refine XS.iconst X9.here hx rfl (hb hby at_104) ?_
      show Steps p.tables e below (T9.setTop (mkF m 105 #[.val (.int p1), .val (.int p2), .val (.int p3), .val (.int p4), .val (.int p5), .val (.int p6), .val (.int i), .val (.int j), .val (.ref b1), .val (.ref bs), .val (.int (1 : Int32)), .val (.ref bs), .unset, .unset] [(.int (1 : Int32))])) _
      refine XS.goto X9.here hx rfl (pc0 := 105) (pc' := 109) rfl (hb hby at_105) (by decide) (by decide) ?_
      exact kz
    · rw [hec, if_neg hc101] at kz
      refine XS.icmpYes X9.here hx rfl (pc0 := 101) (pc' := 108) rfl (hb hby at_101) rfl (feq hc101).2 (by decide) (by decide) ?_
      show Steps p.tables e below (T9.setTop (mkF m 108 #[.val (.int p1), .val (.int p2), .val (.int p3), .val (.int p4), .val (.int p5), .val (.int p6), .val (.int i), .val (.int j), .val (.ref b1), .val (.ref bs), .val (.int (1 : Int32)), .val (.ref bs), .unset, .unset] [])) _
      refine XS.iconst X9.here hx rfl (hb hby at_108) ?_
      exact kz
  refine own_go (A := T9.setTop (mkF m 115 #[.val (.int p1), .val (.int p2), .val (.int p3), .val (.int p4), .val (.int p5), .val (.int p6), .val (.int i), .val (.int j), .val (.ref b1), .val (.ref bs), .val (.int (1 : Int32)), .val (.ref bs), .val (.int ec), .unset] [(.int i), (.ref bs)])) (fun _ kz => ?_) ?_
  · show Steps p.tables e below (T9.setTop (mkF m 109 #[.val (.int p1), .val (.int p2), .val (.int p3), .val (.int p4), .val (.int p5), .val (.int p6), .val (.int i), .val (.int j), .val (.ref b1), .val (.ref bs), .val (.int (1 : Int32)), .val (.ref bs), .unset, .unset] [(.int ec)])) _
    refine XS.istore X9.here hx rfl (hb hby at_109) rfl (l' := #[.val (.int p1), .val (.int p2), .val (.int p3), .val (.int p4), .val (.int p5), .val (.int p6), .val (.int i), .val (.int j), .val (.ref b1), .val (.ref bs), .val (.int (1 : Int32)), .val (.ref bs), .val (.int ec), .unset]) rfl ?_
    show Steps p.tables e below (T9.setTop (mkF m 111 #[.val (.int p1), .val (.int p2), .val (.int p3), .val (.int p4), .val (.int p5), .val (.int p6), .val (.int i), .val (.int j), .val (.ref b1), .val (.ref bs), .val (.int (1 : Int32)), .val (.ref bs), .val (.int ec), .unset] [])) _
    refine XS.aload X9.here hx rfl (hb hby at_111) rfl rfl ?_
    show Steps p.tables e below (T9.setTop (mkF m 113 #[.val (.int p1), .val (.int p2), .val (.int p3), .val (.int p4), .val (.int p5), .val (.int p6), .val (.int i), .val (.int j), .val (.ref b1), .val (.ref bs), .val (.int (1 : Int32)), .val (.ref bs), .val (.int ec), .unset] [(.ref bs)])) _
    refine XS.iload X9.here hx rfl (hb hby at_113) rfl ?_
    exact kz
  obtain ⟨cq10, kq10, q10a, q10b, q10c⟩ := isOf hZ e9 Ebs
  obtain ⟨_, _, ⟨T10, L10, k10, n10⟩, -, X10, ⟨Lc10, hQ10, l10, y10, z10⟩, st10⟩ := X9.virtualBack hx (y := (⟨"java/util/BitSet", "get", "(I)Z"⟩ : MethodName)) (z := (⟨"java/util/BitSet", "get", "(I)Z"⟩ : MethodName)) hown (mvT hZ (hw _ (List.mem_of_getElem? (i := 70) rfl))) (mvT hZ (hw _ (List.mem_of_getElem? (i := 71) rfl))) (notFace_of_selects (args := #[]) (mvT hZ (hw _ (List.mem_of_getElem? (i := 73) rfl)))) (mvT hZ (hw _ (List.mem_of_getElem? (i := 73) rfl))) (mvT hZ (hw _ (List.mem_of_getElem? (i := 72) rfl))) (by decide) (backOf (W := 0) (rmGet l Z a0 hw [] bs i c8 kd8 (own_nl (own_nl (1 : Int32) (0 : Int32) wi) (own_nu (0 : Int32) wi) wj) (own_nu (own_nu (0 : Int32) wi) wj) s8 wi (1 : Int32) (own_set (own_set own_f0 wi i) wj j) T8.heap n0 Z8 hii hwe (own_w0 h4wi) (own_g2iu h4wi h4wj) (own_g2il h4wi h4wj) (own_l26 h4wi h4wj) Ebs Fw8 Fu8 Aq8 S_ad (own_g2ir h4wi h4wj)) hZ (hw _ (List.mem_of_getElem? (i := 74) rfl)) (hw _ (List.mem_of_getElem? (i := 11) rfl)) (by decide) (by decide)) q10a q10c (g := (mkF m 115 #[.val (.int p1), .val (.int p2), .val (.int p3), .val (.int p4), .val (.int p5), .val (.int p6), .val (.int i), .val (.int j), .val (.ref b1), .val (.ref bs), .val (.int (1 : Int32)), .val (.ref bs), .val (.int ec), .unset] [(.int i), (.ref bs)])) rfl (by rw [hml]; rfl) (Steps.refl _) (argsL := [(.int i)]) (rest := []) (lenOf own_pd9 rfl) rfl (by show 2 * 0 + _ ≤ _; exact Nat.le_of_eq rfl) (hb hby at_115) (fun _ _ => ⟨rfl, e9, (by decide : 5 + 0 ≤ _), (by decide : 21 + 0 ≤ _)⟩)
  dsimp only [Pt.U, Pt.locs, Pt.cells, Pt.slots] at X10 l10 y10 z10 st10 hQ10
  subst l10 y10 z10
  obtain ⟨rfl, N10q, e10⟩ := hQ10
  have N10 := Fr.app N9 N10q
  refine own_go (A := T10.setTop (mkF m 118 #[.val (.int p1), .val (.int p2), .val (.int p3), .val (.int p4), .val (.int p5), .val (.int p6), .val (.int i), .val (.int j), .val (.ref b1), .val (.ref bs), .val (.int (1 : Int32)), .val (.ref bs), .val (.int ec), .unset] [(.int (1 : Int32))])) (fun _ kz => st10.trans kz) ?_
  refine own_go (A := T10.setTop (mkF m 125 #[.val (.int p1), .val (.int p2), .val (.int p3), .val (.int p4), .val (.int p5), .val (.int p6), .val (.int i), .val (.int j), .val (.ref b1), .val (.ref bs), .val (.int (1 : Int32)), .val (.ref bs), .val (.int ec), .unset] [(.int j), (.ref bs)])) (fun _ kz => ?_) ?_
  · show Steps p.tables e below (T10.setTop (mkF m 118 #[.val (.int p1), .val (.int p2), .val (.int p3), .val (.int p4), .val (.int p5), .val (.int p6), .val (.int i), .val (.int j), .val (.ref b1), .val (.ref bs), .val (.int (1 : Int32)), .val (.ref bs), .val (.int ec), .unset] [(.int (1 : Int32))])) _
    refine XS.ifNo X10.here hx rfl (hb hby at_118) rfl ((if0 _ _).trans (feq (by decide : ¬ ((1 : Int32) = (0 : Int32)))).1) ?_
    show Steps p.tables e below (T10.setTop (mkF m 121 #[.val (.int p1), .val (.int p2), .val (.int p3), .val (.int p4), .val (.int p5), .val (.int p6), .val (.int i), .val (.int j), .val (.ref b1), .val (.ref bs), .val (.int (1 : Int32)), .val (.ref bs), .val (.int ec), .unset] [])) _
    refine XS.aload X10.here hx rfl (hb hby at_121) rfl rfl ?_
    show Steps p.tables e below (T10.setTop (mkF m 123 #[.val (.int p1), .val (.int p2), .val (.int p3), .val (.int p4), .val (.int p5), .val (.int p6), .val (.int i), .val (.int j), .val (.ref b1), .val (.ref bs), .val (.int (1 : Int32)), .val (.ref bs), .val (.int ec), .unset] [(.ref bs)])) _
    refine XS.iload X10.here hx rfl (hb hby at_123) rfl ?_
    exact kz
  obtain ⟨cq11, kq11, q11a, q11b, q11c⟩ := isOf hZ e10 Ebs
  obtain ⟨_, _, ⟨T11, L11, k11, n11⟩, -, X11, ⟨Lc11, hQ11, l11, y11, z11⟩, st11⟩ := X10.virtualBack hx (y := (⟨"java/util/BitSet", "get", "(I)Z"⟩ : MethodName)) (z := (⟨"java/util/BitSet", "get", "(I)Z"⟩ : MethodName)) hown (mvT hZ (hw _ (List.mem_of_getElem? (i := 70) rfl))) (mvT hZ (hw _ (List.mem_of_getElem? (i := 71) rfl))) (notFace_of_selects (args := #[]) (mvT hZ (hw _ (List.mem_of_getElem? (i := 73) rfl)))) (mvT hZ (hw _ (List.mem_of_getElem? (i := 73) rfl))) (mvT hZ (hw _ (List.mem_of_getElem? (i := 72) rfl))) (by decide) (backOf (W := 0) (rmGet l Z a0 hw [] bs j c8 kd8 (own_nl (own_nl (1 : Int32) (0 : Int32) wi) (own_nu (0 : Int32) wi) wj) (own_nu (own_nu (0 : Int32) wi) wj) s8 wj (1 : Int32) (own_set (own_set own_f0 wi i) wj j) T8.heap n0 Z8 hij hwj (own_w0 h4wj) (own_g2ju h4wi h4wj) (own_g2jl h4wi h4wj) (own_l26 h4wi h4wj) Ebs Fw8 Fu8 Aq8 S_ad (own_g2jr h4wi h4wj)) hZ (hw _ (List.mem_of_getElem? (i := 74) rfl)) (hw _ (List.mem_of_getElem? (i := 11) rfl)) (by decide) (by decide)) q11a q11c (g := (mkF m 125 #[.val (.int p1), .val (.int p2), .val (.int p3), .val (.int p4), .val (.int p5), .val (.int p6), .val (.int i), .val (.int j), .val (.ref b1), .val (.ref bs), .val (.int (1 : Int32)), .val (.ref bs), .val (.int ec), .unset] [(.int j), (.ref bs)])) rfl (by rw [hml]; rfl) (Steps.refl _) (argsL := [(.int j)]) (rest := []) (lenOf own_pd9 rfl) rfl (by show 2 * 0 + _ ≤ _; exact Nat.le_of_eq rfl) (hb hby at_125) (fun _ _ => ⟨rfl, e10, (by decide : 5 + 0 ≤ _), (by decide : 21 + 0 ≤ _)⟩)
  dsimp only [Pt.U, Pt.locs, Pt.cells, Pt.slots] at X11 l11 y11 z11 st11 hQ11
  subst l11 y11 z11
  obtain ⟨rfl, N11q, e11⟩ := hQ11
  have N11 := Fr.app N10 N11q
  refine own_go (A := T11.setTop (mkF m 128 #[.val (.int p1), .val (.int p2), .val (.int p3), .val (.int p4), .val (.int p5), .val (.int p6), .val (.int i), .val (.int j), .val (.ref b1), .val (.ref bs), .val (.int (1 : Int32)), .val (.ref bs), .val (.int ec), .unset] [(.int (1 : Int32))])) (fun _ kz => st11.trans kz) ?_
  refine own_go (A := T11.setTop (mkF m 133 #[.val (.int p1), .val (.int p2), .val (.int p3), .val (.int p4), .val (.int p5), .val (.int p6), .val (.int i), .val (.int j), .val (.ref b1), .val (.ref bs), .val (.int (1 : Int32)), .val (.ref bs), .val (.int ec), .unset] [(.ref bs)])) (fun _ kz => ?_) ?_
  · show Steps p.tables e below (T11.setTop (mkF m 128 #[.val (.int p1), .val (.int p2), .val (.int p3), .val (.int p4), .val (.int p5), .val (.int p6), .val (.int i), .val (.int j), .val (.ref b1), .val (.ref bs), .val (.int (1 : Int32)), .val (.ref bs), .val (.int ec), .unset] [(.int (1 : Int32))])) _
    refine XS.ifNo X11.here hx rfl (hb hby at_128) rfl ((if0 _ _).trans (feq (by decide : ¬ ((1 : Int32) = (0 : Int32)))).1) ?_
    show Steps p.tables e below (T11.setTop (mkF m 131 #[.val (.int p1), .val (.int p2), .val (.int p3), .val (.int p4), .val (.int p5), .val (.int p6), .val (.int i), .val (.int j), .val (.ref b1), .val (.ref bs), .val (.int (1 : Int32)), .val (.ref bs), .val (.int ec), .unset] [])) _
    refine XS.aload X11.here hx rfl (hb hby at_131) rfl rfl ?_
    exact kz
  obtain ⟨cq12, kq12, q12a, q12b, q12c⟩ := isOf hZ e11 Ebs
  obtain ⟨_, _, ⟨T12, L12, k12, n12⟩, -, X12, ⟨Lc12, hQ12, l12, y12, z12⟩, st12⟩ := X11.virtualBack hx (y := (⟨"java/util/BitSet", "cardinality", "()I"⟩ : MethodName)) (z := (⟨"java/util/BitSet", "cardinality", "()I"⟩ : MethodName)) hown (mvT hZ (hw _ (List.mem_of_getElem? (i := 75) rfl))) (mvT hZ (hw _ (List.mem_of_getElem? (i := 76) rfl))) (notFace_of_selects (args := #[]) (mvT hZ (hw _ (List.mem_of_getElem? (i := 78) rfl)))) (mvT hZ (hw _ (List.mem_of_getElem? (i := 78) rfl))) (mvT hZ (hw _ (List.mem_of_getElem? (i := 77) rfl))) (by decide) (backOf (W := 0) (rmCard l Z a0 hw [] bs c8 kd8 (own_nl (own_nl (1 : Int32) (0 : Int32) wi) (own_nu (0 : Int32) wi) wj) (own_nu (own_nu (0 : Int32) wi) wj) ec (own_set (own_set own_f0 wi i) wj j) T8.heap n0 Z8 (own_s6b h4wi h4wj) Fw8 Fu8 Aq8 (own_cd2 hii hij hwe hwj h4wi h4wj hec)) hZ (hw _ (List.mem_of_getElem? (i := 79) rfl)) (hw _ (List.mem_of_getElem? (i := 11) rfl)) (by decide) (by decide)) q12a q12c (g := (mkF m 133 #[.val (.int p1), .val (.int p2), .val (.int p3), .val (.int p4), .val (.int p5), .val (.int p6), .val (.int i), .val (.int j), .val (.ref b1), .val (.ref bs), .val (.int (1 : Int32)), .val (.ref bs), .val (.int ec), .unset] [(.ref bs)])) rfl (by rw [hml]; rfl) (Steps.refl _) (argsL := []) (rest := []) (lenOf own_pd10 rfl) rfl (by show 2 * 0 + _ ≤ _; exact Nat.le_of_eq rfl) (hb hby at_133) (fun _ _ => ⟨rfl, e11, (by decide : 5 + 0 ≤ _), (by decide : 21 + 0 ≤ _)⟩)
  dsimp only [Pt.U, Pt.locs, Pt.cells, Pt.slots] at X12 l12 y12 z12 st12 hQ12
  subst l12 y12 z12
  obtain ⟨rfl, N12q, e12⟩ := hQ12
  have N12 := Fr.app N11 N12q
  refine own_go (A := T12.setTop (mkF m 136 #[.val (.int p1), .val (.int p2), .val (.int p3), .val (.int p4), .val (.int p5), .val (.int p6), .val (.int i), .val (.int j), .val (.ref b1), .val (.ref bs), .val (.int (1 : Int32)), .val (.ref bs), .val (.int ec), .unset] [(.int ec)])) (fun _ kz => st12.trans kz) ?_
  refine own_go (A := T12.setTop (mkF m 143 #[.val (.int p1), .val (.int p2), .val (.int p3), .val (.int p4), .val (.int p5), .val (.int p6), .val (.int i), .val (.int j), .val (.ref b1), .val (.ref bs), .val (.int (1 : Int32)), .val (.ref bs), .val (.int ec), .unset] [(.ref b1)])) (fun _ kz => ?_) ?_
  · show Steps p.tables e below (T12.setTop (mkF m 136 #[.val (.int p1), .val (.int p2), .val (.int p3), .val (.int p4), .val (.int p5), .val (.int p6), .val (.int i), .val (.int j), .val (.ref b1), .val (.ref bs), .val (.int (1 : Int32)), .val (.ref bs), .val (.int ec), .unset] [(.int ec)])) _
    refine XS.iload X12.here hx rfl (hb hby at_136) rfl ?_
    show Steps p.tables e below (T12.setTop (mkF m 138 #[.val (.int p1), .val (.int p2), .val (.int p3), .val (.int p4), .val (.int p5), .val (.int p6), .val (.int i), .val (.int j), .val (.ref b1), .val (.ref bs), .val (.int (1 : Int32)), .val (.ref bs), .val (.int ec), .unset] [(.int ec), (.int ec)])) _
    refine XS.icmpNo X12.here hx rfl (hb hby at_138) rfl (teq rfl).2 ?_
    show Steps p.tables e below (T12.setTop (mkF m 141 #[.val (.int p1), .val (.int p2), .val (.int p3), .val (.int p4), .val (.int p5), .val (.int p6), .val (.int i), .val (.int j), .val (.ref b1), .val (.ref bs), .val (.int (1 : Int32)), .val (.ref bs), .val (.int ec), .unset] [])) _
    refine XS.aload X12.here hx rfl (hb hby at_141) rfl rfl ?_
    exact kz
  obtain ⟨cq13, kq13, q13a, q13b, q13c⟩ := isOf hZ e12 Ex_b1
  obtain ⟨_, _, ⟨T13, L13, k13, n13⟩, -, X13, ⟨Lc13, hQ13, l13, y13, z13⟩, st13⟩ := X12.virtualBack hx (y := (⟨"com/example/bare_words/barewords/Hit", "score", "()D"⟩ : MethodName)) (z := (⟨"com/example/bare_words/barewords/Hit", "score", "()D"⟩ : MethodName)) hown (mvT hZ (hw _ (List.mem_of_getElem? (i := 87) rfl))) (mvT hZ (hw _ (List.mem_of_getElem? (i := 88) rfl))) (notFace_of_selects (args := #[]) (mvT hZ (hw _ (List.mem_of_getElem? (i := 90) rfl)))) (mvT hZ (hw _ (List.mem_of_getElem? (i := 90) rfl))) (mvT hZ (hw _ (List.mem_of_getElem? (i := 89) rfl))) (by decide) (backOf (W := 0) (rmGs l Z a0 hw [] b1 (FP.l2d (((0 : Int64) + (p5.toInt64)) + (p6.toInt64))) T8.heap n0 Z8 Fhs8) hZ (hw _ (List.mem_of_getElem? (i := 91) rfl)) (hw _ (List.mem_of_getElem? (i := 2) rfl)) (by decide) (by decide)) q13a q13c (g := (mkF m 143 #[.val (.int p1), .val (.int p2), .val (.int p3), .val (.int p4), .val (.int p5), .val (.int p6), .val (.int i), .val (.int j), .val (.ref b1), .val (.ref bs), .val (.int (1 : Int32)), .val (.ref bs), .val (.int ec), .unset] [(.ref b1)])) rfl (by rw [hml]; rfl) (Steps.refl _) (argsL := []) (rest := []) (lenOf own_pd11 rfl) rfl (by show 2 * 0 + _ ≤ _; exact Nat.le_of_eq rfl) (hb hby at_143) (fun _ _ => ⟨rfl, e12, (by decide : 5 + 0 ≤ _), (by decide : 21 + 0 ≤ _)⟩)
  dsimp only [Pt.U, Pt.locs, Pt.cells, Pt.slots] at X13 l13 y13 z13 st13 hQ13
  subst l13 y13 z13
  obtain ⟨rfl, N13q, e13⟩ := hQ13
  have N13 := Fr.app N12 N13q
  refine own_go (A := T13.setTop (mkF m 146 #[.val (.int p1), .val (.int p2), .val (.int p3), .val (.int p4), .val (.int p5), .val (.int p6), .val (.int i), .val (.int j), .val (.ref b1), .val (.ref bs), .val (.int (1 : Int32)), .val (.ref bs), .val (.int ec), .unset] [(.double (FP.l2d (((0 : Int64) + (p5.toInt64)) + (p6.toInt64))))])) (fun _ kz => st13.trans kz) ?_
  refine own_go (A := T13.setTop (mkF m 177 #[.val (.int p1), .val (.int p2), .val (.int p3), .val (.int p4), .val (.int p5), .val (.int p6), .val (.int i), .val (.int j), .val (.ref b1), .val (.ref bs), .val (.int (1 : Int32)), .val (.ref bs), .val (.int ec), .val (.int (1 : Int32))] [(.ref b1)])) (fun _ kz => ?_) ?_
  · show Steps p.tables e below (T13.setTop (mkF m 146 #[.val (.int p1), .val (.int p2), .val (.int p3), .val (.int p4), .val (.int p5), .val (.int p6), .val (.int i), .val (.int j), .val (.ref b1), .val (.ref bs), .val (.int (1 : Int32)), .val (.ref bs), .val (.int ec), .unset] [(.double (FP.l2d (((0 : Int64) + (p5.toInt64)) + (p6.toInt64))))])) _
    refine XS.iload X13.here hx rfl (hb hby at_146) rfl ?_
    show Steps p.tables e below (T13.setTop (mkF m 148 #[.val (.int p1), .val (.int p2), .val (.int p3), .val (.int p4), .val (.int p5), .val (.int p6), .val (.int i), .val (.int j), .val (.ref b1), .val (.ref bs), .val (.int (1 : Int32)), .val (.ref bs), .val (.int ec), .unset] [(.int p5), (.double (FP.l2d (((0 : Int64) + (p5.toInt64)) + (p6.toInt64))))])) _
    refine XS.i2l X13.here hx rfl (hb hby at_148) rfl ?_
    show Steps p.tables e below (T13.setTop (mkF m 149 #[.val (.int p1), .val (.int p2), .val (.int p3), .val (.int p4), .val (.int p5), .val (.int p6), .val (.int i), .val (.int j), .val (.ref b1), .val (.ref bs), .val (.int (1 : Int32)), .val (.ref bs), .val (.int ec), .unset] [(.long (p5.toInt64)), (.double (FP.l2d (((0 : Int64) + (p5.toInt64)) + (p6.toInt64))))])) _
    refine XS.iload X13.here hx rfl (hb hby at_149) rfl ?_
    show Steps p.tables e below (T13.setTop (mkF m 151 #[.val (.int p1), .val (.int p2), .val (.int p3), .val (.int p4), .val (.int p5), .val (.int p6), .val (.int i), .val (.int j), .val (.ref b1), .val (.ref bs), .val (.int (1 : Int32)), .val (.ref bs), .val (.int ec), .unset] [(.int p6), (.long (p5.toInt64)), (.double (FP.l2d (((0 : Int64) + (p5.toInt64)) + (p6.toInt64))))])) _
    refine XS.i2l X13.here hx rfl (hb hby at_151) rfl ?_
    show Steps p.tables e below (T13.setTop (mkF m 152 #[.val (.int p1), .val (.int p2), .val (.int p3), .val (.int p4), .val (.int p5), .val (.int p6), .val (.int i), .val (.int j), .val (.ref b1), .val (.ref bs), .val (.int (1 : Int32)), .val (.ref bs), .val (.int ec), .unset] [(.long (p6.toInt64)), (.long (p5.toInt64)), (.double (FP.l2d (((0 : Int64) + (p5.toInt64)) + (p6.toInt64))))])) _
    refine XS.ladd X13.here hx rfl (hb hby at_152) rfl ?_
    show Steps p.tables e below (T13.setTop (mkF m 153 #[.val (.int p1), .val (.int p2), .val (.int p3), .val (.int p4), .val (.int p5), .val (.int p6), .val (.int i), .val (.int j), .val (.ref b1), .val (.ref bs), .val (.int (1 : Int32)), .val (.ref bs), .val (.int ec), .unset] [(.long ((p5.toInt64) + (p6.toInt64))), (.double (FP.l2d (((0 : Int64) + (p5.toInt64)) + (p6.toInt64))))])) _
    refine XS.l2dS X13.here hx rfl (hb hby at_153) rfl rfl ?_
    show Steps p.tables e below (T13.setTop (mkF m 154 #[.val (.int p1), .val (.int p2), .val (.int p3), .val (.int p4), .val (.int p5), .val (.int p6), .val (.int i), .val (.int j), .val (.ref b1), .val (.ref bs), .val (.int (1 : Int32)), .val (.ref bs), .val (.int ec), .unset] [(.double (FP.l2d ((p5.toInt64) + (p6.toInt64)))), (.double (FP.l2d (((0 : Int64) + (p5.toInt64)) + (p6.toInt64))))])) _
    refine XS.dcmpS X13.here hx rfl (hb hby at_154) rfl rfl ?_
    show Steps p.tables e below (T13.setTop (mkF m 155 #[.val (.int p1), .val (.int p2), .val (.int p3), .val (.int p4), .val (.int p5), .val (.int p6), .val (.int i), .val (.int j), .val (.ref b1), .val (.ref bs), .val (.int (1 : Int32)), .val (.ref bs), .val (.int ec), .unset] [(.int (cmpValue (FP.dcmp (FP.l2d (((0 : Int64) + (p5.toInt64)) + (p6.toInt64))) (FP.l2d ((p5.toInt64) + (p6.toInt64)))) .l))])) _
    refine XS.ifNo X13.here hx rfl (hb hby at_155) rfl ((if0 _ _).trans (teq (dcmpV_eq (own_sc2 p5 p6) (nn_w rfl) _)).2) ?_
    show Steps p.tables e below (T13.setTop (mkF m 158 #[.val (.int p1), .val (.int p2), .val (.int p3), .val (.int p4), .val (.int p5), .val (.int p6), .val (.int i), .val (.int j), .val (.ref b1), .val (.ref bs), .val (.int (1 : Int32)), .val (.ref bs), .val (.int ec), .unset] [])) _
    refine XS.iconst X13.here hx rfl (hb hby at_158) ?_
    show Steps p.tables e below (T13.setTop (mkF m 159 #[.val (.int p1), .val (.int p2), .val (.int p3), .val (.int p4), .val (.int p5), .val (.int p6), .val (.int i), .val (.int j), .val (.ref b1), .val (.ref bs), .val (.int (1 : Int32)), .val (.ref bs), .val (.int ec), .unset] [(.int (1 : Int32))])) _
    refine XS.goto X13.here hx rfl (pc0 := 159) (pc' := 163) rfl (hb hby at_159) (by decide) (by decide) ?_
    show Steps p.tables e below (T13.setTop (mkF m 163 #[.val (.int p1), .val (.int p2), .val (.int p3), .val (.int p4), .val (.int p5), .val (.int p6), .val (.int i), .val (.int j), .val (.ref b1), .val (.ref bs), .val (.int (1 : Int32)), .val (.ref bs), .val (.int ec), .unset] [(.int (1 : Int32))])) _
    refine XS.istore X13.here hx rfl (hb hby at_163) rfl (l' := #[.val (.int p1), .val (.int p2), .val (.int p3), .val (.int p4), .val (.int p5), .val (.int p6), .val (.int i), .val (.int j), .val (.ref b1), .val (.ref bs), .val (.int (1 : Int32)), .val (.ref bs), .val (.int ec), .val (.int (1 : Int32))]) rfl ?_
    show Steps p.tables e below (T13.setTop (mkF m 165 #[.val (.int p1), .val (.int p2), .val (.int p3), .val (.int p4), .val (.int p5), .val (.int p6), .val (.int i), .val (.int j), .val (.ref b1), .val (.ref bs), .val (.int (1 : Int32)), .val (.ref bs), .val (.int ec), .val (.int (1 : Int32))] [])) _
    refine XS.iload X13.here hx rfl (hb hby at_165) rfl ?_
    show Steps p.tables e below (T13.setTop (mkF m 167 #[.val (.int p1), .val (.int p2), .val (.int p3), .val (.int p4), .val (.int p5), .val (.int p6), .val (.int i), .val (.int j), .val (.ref b1), .val (.ref bs), .val (.int (1 : Int32)), .val (.ref bs), .val (.int ec), .val (.int (1 : Int32))] [(.int (1 : Int32))])) _
    refine XS.ifNo X13.here hx rfl (hb hby at_167) rfl ((if0 _ _).trans (feq (by decide : ¬ ((1 : Int32) = (0 : Int32)))).1) ?_
    show Steps p.tables e below (T13.setTop (mkF m 170 #[.val (.int p1), .val (.int p2), .val (.int p3), .val (.int p4), .val (.int p5), .val (.int p6), .val (.int i), .val (.int j), .val (.ref b1), .val (.ref bs), .val (.int (1 : Int32)), .val (.ref bs), .val (.int ec), .val (.int (1 : Int32))] [])) _
    refine XS.iload X13.here hx rfl (hb hby at_170) rfl ?_
    show Steps p.tables e below (T13.setTop (mkF m 172 #[.val (.int p1), .val (.int p2), .val (.int p3), .val (.int p4), .val (.int p5), .val (.int p6), .val (.int i), .val (.int j), .val (.ref b1), .val (.ref bs), .val (.int (1 : Int32)), .val (.ref bs), .val (.int ec), .val (.int (1 : Int32))] [(.int (1 : Int32))])) _
    refine XS.ifNo X13.here hx rfl (hb hby at_172) rfl ((if0 _ _).trans (feq (by decide : ¬ ((1 : Int32) = (0 : Int32)))).1) ?_
    show Steps p.tables e below (T13.setTop (mkF m 175 #[.val (.int p1), .val (.int p2), .val (.int p3), .val (.int p4), .val (.int p5), .val (.int p6), .val (.int i), .val (.int j), .val (.ref b1), .val (.ref bs), .val (.int (1 : Int32)), .val (.ref bs), .val (.int ec), .val (.int (1 : Int32))] [])) _
    refine XS.aload X13.here hx rfl (hb hby at_175) rfl rfl ?_
    exact kz
  obtain ⟨cq14, kq14, q14a, q14b, q14c⟩ := isOf hZ e13 Ex_b1
  obtain ⟨_, _, ⟨T14, L14, k14, n14⟩, -, X14, ⟨Lc14, hQ14, l14, y14, z14⟩, st14⟩ := X13.virtualBack hx (y := (⟨"com/example/bare_words/barewords/Hit", "doc", "()I"⟩ : MethodName)) (z := (⟨"com/example/bare_words/barewords/Hit", "doc", "()I"⟩ : MethodName)) hown (mvT hZ (hw _ (List.mem_of_getElem? (i := 92) rfl))) (mvT hZ (hw _ (List.mem_of_getElem? (i := 93) rfl))) (notFace_of_selects (args := #[]) (mvT hZ (hw _ (List.mem_of_getElem? (i := 95) rfl)))) (mvT hZ (hw _ (List.mem_of_getElem? (i := 95) rfl))) (mvT hZ (hw _ (List.mem_of_getElem? (i := 94) rfl))) (by decide) (backOf (W := 0) (rmGd l Z a0 hw [] b1 p1 T8.heap n0 Z8 Fhd8) hZ (hw _ (List.mem_of_getElem? (i := 96) rfl)) (hw _ (List.mem_of_getElem? (i := 2) rfl)) (by decide) (by decide)) q14a q14c (g := (mkF m 177 #[.val (.int p1), .val (.int p2), .val (.int p3), .val (.int p4), .val (.int p5), .val (.int p6), .val (.int i), .val (.int j), .val (.ref b1), .val (.ref bs), .val (.int (1 : Int32)), .val (.ref bs), .val (.int ec), .val (.int (1 : Int32))] [(.ref b1)])) rfl (by rw [hml]; rfl) (Steps.refl _) (argsL := []) (rest := []) (lenOf own_pd10 rfl) rfl (by show 2 * 0 + _ ≤ _; exact Nat.le_of_eq rfl) (hb hby at_177) (fun _ _ => ⟨rfl, e13, (by decide : 5 + 0 ≤ _), (by decide : 21 + 0 ≤ _)⟩)
  dsimp only [Pt.U, Pt.locs, Pt.cells, Pt.slots] at X14 l14 y14 z14 st14 hQ14
  subst l14 y14 z14
  obtain ⟨rfl, N14q, e14⟩ := hQ14
  have N14 := Fr.app N13 N14q
  refine own_go (A := T14.setTop (mkF m 180 #[.val (.int p1), .val (.int p2), .val (.int p3), .val (.int p4), .val (.int p5), .val (.int p6), .val (.int i), .val (.int j), .val (.ref b1), .val (.ref bs), .val (.int (1 : Int32)), .val (.ref bs), .val (.int ec), .val (.int (1 : Int32))] [(.int p1)])) (fun _ kz => st14.trans kz) ?_
  refine own_go (A := T14.setTop (mkF m 186 #[.val (.int p1), .val (.int p2), .val (.int p3), .val (.int p4), .val (.int p5), .val (.int p6), .val (.int i), .val (.int j), .val (.ref b1), .val (.ref bs), .val (.int (1 : Int32)), .val (.ref bs), .val (.int ec), .val (.int (1 : Int32))] [(.ref b1)])) (fun _ kz => ?_) ?_
  · show Steps p.tables e below (T14.setTop (mkF m 180 #[.val (.int p1), .val (.int p2), .val (.int p3), .val (.int p4), .val (.int p5), .val (.int p6), .val (.int i), .val (.int j), .val (.ref b1), .val (.ref bs), .val (.int (1 : Int32)), .val (.ref bs), .val (.int ec), .val (.int (1 : Int32))] [(.int p1)])) _
    refine XS.iloadN X14.here hx rfl (hb hby at_180) rfl ?_
    show Steps p.tables e below (T14.setTop (mkF m 181 #[.val (.int p1), .val (.int p2), .val (.int p3), .val (.int p4), .val (.int p5), .val (.int p6), .val (.int i), .val (.int j), .val (.ref b1), .val (.ref bs), .val (.int (1 : Int32)), .val (.ref bs), .val (.int ec), .val (.int (1 : Int32))] [(.int p1), (.int p1)])) _
    refine XS.icmpNo X14.here hx rfl (hb hby at_181) rfl (teq rfl).2 ?_
    show Steps p.tables e below (T14.setTop (mkF m 184 #[.val (.int p1), .val (.int p2), .val (.int p3), .val (.int p4), .val (.int p5), .val (.int p6), .val (.int i), .val (.int j), .val (.ref b1), .val (.ref bs), .val (.int (1 : Int32)), .val (.ref bs), .val (.int ec), .val (.int (1 : Int32))] [])) _
    refine XS.aload X14.here hx rfl (hb hby at_184) rfl rfl ?_
    exact kz
  obtain ⟨cq15, kq15, q15a, q15b, q15c⟩ := isOf hZ e14 Ex_b1
  obtain ⟨_, _, ⟨T15, L15, k15, n15⟩, -, X15, ⟨Lc15, hQ15, l15, y15, z15⟩, st15⟩ := X14.virtualBack hx (y := (⟨"com/example/bare_words/barewords/Hit", "tableIndex", "()I"⟩ : MethodName)) (z := (⟨"com/example/bare_words/barewords/Hit", "tableIndex", "()I"⟩ : MethodName)) hown (mvT hZ (hw _ (List.mem_of_getElem? (i := 97) rfl))) (mvT hZ (hw _ (List.mem_of_getElem? (i := 98) rfl))) (notFace_of_selects (args := #[]) (mvT hZ (hw _ (List.mem_of_getElem? (i := 100) rfl)))) (mvT hZ (hw _ (List.mem_of_getElem? (i := 100) rfl))) (mvT hZ (hw _ (List.mem_of_getElem? (i := 99) rfl))) (by decide) (backOf (W := 0) (rmGt l Z a0 hw [] b1 p2 T8.heap n0 Z8 Fht8) hZ (hw _ (List.mem_of_getElem? (i := 101) rfl)) (hw _ (List.mem_of_getElem? (i := 2) rfl)) (by decide) (by decide)) q15a q15c (g := (mkF m 186 #[.val (.int p1), .val (.int p2), .val (.int p3), .val (.int p4), .val (.int p5), .val (.int p6), .val (.int i), .val (.int j), .val (.ref b1), .val (.ref bs), .val (.int (1 : Int32)), .val (.ref bs), .val (.int ec), .val (.int (1 : Int32))] [(.ref b1)])) rfl (by rw [hml]; rfl) (Steps.refl _) (argsL := []) (rest := []) (lenOf own_pd10 rfl) rfl (by show 2 * 0 + _ ≤ _; exact Nat.le_of_eq rfl) (hb hby at_186) (fun _ _ => ⟨rfl, e14, (by decide : 5 + 0 ≤ _), (by decide : 21 + 0 ≤ _)⟩)
  dsimp only [Pt.U, Pt.locs, Pt.cells, Pt.slots] at X15 l15 y15 z15 st15 hQ15
  subst l15 y15 z15
  obtain ⟨rfl, N15q, e15⟩ := hQ15
  have N15 := Fr.app N14 N15q
  refine own_go (A := T15.setTop (mkF m 189 #[.val (.int p1), .val (.int p2), .val (.int p3), .val (.int p4), .val (.int p5), .val (.int p6), .val (.int i), .val (.int j), .val (.ref b1), .val (.ref bs), .val (.int (1 : Int32)), .val (.ref bs), .val (.int ec), .val (.int (1 : Int32))] [(.int p2)])) (fun _ kz => st15.trans kz) ?_
  refine own_go (A := T15.setTop (mkF m 198 #[.val (.int p1), .val (.int p2), .val (.int p3), .val (.int p4), .val (.int p5), .val (.int p6), .val (.int i), .val (.int j), .val (.ref b1), .val (.ref bs), .val (.int (1 : Int32)), .val (.ref bs), .val (.int ec), .val (.int (1 : Int32))] [(.int (1 : Int32))])) (fun _ kz => ?_) ?_
  · show Steps p.tables e below (T15.setTop (mkF m 189 #[.val (.int p1), .val (.int p2), .val (.int p3), .val (.int p4), .val (.int p5), .val (.int p6), .val (.int i), .val (.int j), .val (.ref b1), .val (.ref bs), .val (.int (1 : Int32)), .val (.ref bs), .val (.int ec), .val (.int (1 : Int32))] [(.int p2)])) _
    refine XS.iloadN X15.here hx rfl (hb hby at_189) rfl ?_
    show Steps p.tables e below (T15.setTop (mkF m 190 #[.val (.int p1), .val (.int p2), .val (.int p3), .val (.int p4), .val (.int p5), .val (.int p6), .val (.int i), .val (.int j), .val (.ref b1), .val (.ref bs), .val (.int (1 : Int32)), .val (.ref bs), .val (.int ec), .val (.int (1 : Int32))] [(.int p2), (.int p2)])) _
    refine XS.icmpNo X15.here hx rfl (hb hby at_190) rfl (teq rfl).2 ?_
    show Steps p.tables e below (T15.setTop (mkF m 193 #[.val (.int p1), .val (.int p2), .val (.int p3), .val (.int p4), .val (.int p5), .val (.int p6), .val (.int i), .val (.int j), .val (.ref b1), .val (.ref bs), .val (.int (1 : Int32)), .val (.ref bs), .val (.int ec), .val (.int (1 : Int32))] [])) _
    refine XS.iconst X15.here hx rfl (hb hby at_193) ?_
    show Steps p.tables e below (T15.setTop (mkF m 194 #[.val (.int p1), .val (.int p2), .val (.int p3), .val (.int p4), .val (.int p5), .val (.int p6), .val (.int i), .val (.int j), .val (.ref b1), .val (.ref bs), .val (.int (1 : Int32)), .val (.ref bs), .val (.int ec), .val (.int (1 : Int32))] [(.int (1 : Int32))])) _
    refine XS.goto X15.here hx rfl (pc0 := 194) (pc' := 198) rfl (hb hby at_194) (by decide) (by decide) ?_
    exact kz
  obtain ⟨fs, hrr, hrun, hended, hW, hsame⟩ := X15.leave (v := some (.int (1 : Int32))) (fun h => by rw [Bd.returns] at h; cases h)
  refine ⟨_, _, ?_, hrun, hended, _, _, rfl, ?_, ⟨_, rfl⟩, hW, hsame.mono (by decide) (by decide)⟩
  · show Steps p.tables e below (T15.setTop (mkF m 198 #[.val (.int p1), .val (.int p2), .val (.int p3), .val (.int p4), .val (.int p5), .val (.int p6), .val (.int i), .val (.int j), .val (.ref b1), .val (.ref bs), .val (.int (1 : Int32)), .val (.ref bs), .val (.int ec), .val (.int (1 : Int32))] [(.int (1 : Int32))])) _
    exact retN X15 hx (t := .boolean) Bd.returns (by simp) (hb hby at_198) hrr
  · show Qrm0 Z p1 p2 p3 p4 p5 p6 h0 n0 _ T15.heap _
    rw [e15]
    exact ⟨rfl, N15⟩
set_option maxRecDepth 65536 in
set_option maxHeartbeats 40000000 in
theorem comes_1 {Post : Tables → Env → Array Value → State → Outcome → State → Prop} (hpost : ∀ tb e args s v u, (limb_1_1.after args s (.returned v) u = true ∧ limb_1_2.after args s (.returned v) u = true ∧ True) → FrameEnd s (.returned v) u (Jvm.fieldLocs frame_1_writes args s ++ Jvm.arrayLocs frame_1_arrays args s ++ Jvm.staticLocs frame_1_statics s) 24 128 → Post tb e args s (.returned v) u) :
    ArmFor flags0 classFile x code maxLocals ret World_1 tables_1 room_1 Calls_1 rest_1 Pre_1 Post := by
  intro l hfl _ _ p e ha hc hk s m args below hf hA hF happ hP
  obtain ⟨hcalls, hrest, hpre⟩ := hP
  obtain ⟨-, -, -, hnamed, -, -, -, hat⟩ := (Spec.applies_iff hf).mp happ
  obtain ⟨hg, hn⟩ := and_e (Cond.before_iff.mp (show (Jvm.Cond.and given_1 narrow_1).before args s = true from hpre))
  obtain ⟨hcnt, hg1⟩ := and_e hg
  obtain ⟨ha0, hg2⟩ := and_e hg1
  obtain ⟨ha1, hg3⟩ := and_e hg2
  obtain ⟨ha2, hg4⟩ := and_e hg3
  obtain ⟨ha3, hg5⟩ := and_e hg4
  obtain ⟨ha4, hg6⟩ := and_e hg5
  obtain ⟨w0, w1, w2, w3, w4, w5, rfl⟩ : ∃ w0 w1 w2 w3 w4 w5 : Value, args = #[w0, w1, w2, w3, w4, w5] := by
    have hs : args.size = 6 := by simpa [Cond.value, given_1] using hcnt
    obtain ⟨L⟩ := args
    match L, hs with
    | [w0, w1, w2, w3, w4, w5], _ => exact ⟨w0, w1, w2, w3, w4, w5, rfl⟩
  have hw := fun d (hd : d ∈ tables_1) => atoms_spec (ws := Jvm.Cond.code x code maxLocals ret :: tables_1) hat d (List.mem_cons_of_mem _ hd)
  have hfit : Fit s := fun {y c} hc i hi => by
    obtain ⟨ha, rfl⟩ := Array.getElem?_eq_some_iff.mp hc
    have q := List.all_eq_true.mp ((Array.all_eq_true_iff_forall_mem.mp hF) _ (Array.getElem_mem ha)) i (List.mem_range.mpr hi)
    simpa [Array.getElem?_eq_getElem hi] using q
  obtain ⟨i0, ei0⟩ := is_v ha0
  obtain rfl : w0 = (.int i0) := Option.some.inj ei0
  obtain ⟨i1, ei1⟩ := is_v ha1
  obtain rfl : w1 = (.int i1) := Option.some.inj ei1
  obtain ⟨i2, ei2⟩ := is_v ha2
  obtain rfl : w2 = (.int i2) := Option.some.inj ei2
  obtain ⟨i3, ei3⟩ := is_v ha3
  obtain rfl : w3 = (.int i3) := Option.some.inj ei3
  obtain ⟨i4, ei4⟩ := is_v ha4
  obtain rfl : w4 = (.int i4) := Option.some.inj ei4
  obtain ⟨i5, ei5⟩ := is_v hg6
  obtain rfl : w5 = (.int i5) := Option.some.inj ei5
  obtain ⟨hsets, hown0⟩ := atoms_of _ (rest_1_c_eq ▸ (show rest_1_c.before _ s = true from hrest))
  have S_ad : Sta s s.heap "java/util/BitSet" "$assertionsDisabled" "Z" (.int (1 : Int32)) := Sta.start (own_eqInt (Cond.before_iff.mp (hsets _ (List.mem_of_getElem? (i := 2) rfl)))) (Or.inl (hsets _ (List.mem_of_getElem? (i := 1) rfl)))
  obtain ⟨n, o, h1, h2, h3, _, L, rfl, ⟨rfl, N⟩, hq⟩ := rm0 l s _ hw tables_1 i0 i1 i2 i3 i4 i5  s.heap s.heap.size (Nat.le_refl _) S_ad p e ha hc hk s m _ below hf ((Spec.applies_iff_loose hf).mp happ).1 ⟨rfl, State.Warmed39.refl s, rfl⟩ trivial
  refine ⟨n, _, h1, h2, h3, hpost _ _ _ _ _ _ ⟨Cond.after_iff.mpr rfl, Cond.after_iff.mpr (eq_i res_at (Term.int_eval (1)) rfl), trivial⟩ ⟨hq.1, hq.2.1, (hq.2.2.sift fun y hy => Or.inr (N y hy)).mono (by decide) (by decide)⟩⟩
theorem main_1_1 : Claimed_1_1 := comes_1 fun _ _ _ _ _ _ h hF => ⟨h.1, hF⟩
theorem main_1_2 : Claimed_1_2 := comes_1 fun _ _ _ _ _ _ h hF => ⟨h.2.1, hF⟩
end Jvm.Pilot.@@N@@
namespace Jvm.Pilot.@@N@@
open Jvm Jvm.ClassFile Sem Op Lib Jvm.Free Jvm.Stand Jvm.Pilot.@@N@@.Jvm.D
/-! MADE BY PROGRAM (witnessworld.py) out of the Statement's table words and the real class files: 20 classes; the members and pool entries that the words name. The judged class is class 1, her method 1. -/
namespace start1
open Jvm.ClassFile
def u (s : String) : CpInfo := .utf8 (stringToUtf16 s)
/-- a pool by its gaps: so many unusable entries, then the entry; so many at the end -/
def gap : Nat → List CpInfo → List CpInfo
  | 0, r => r
  | n + 1, r => .unusable :: gap n r
def poolList (es : List (Nat × CpInfo)) (last : Nat) : List CpInfo := es.foldr (fun e r => gap e.1 (e.2 :: r)) (gap last [])
def pool (es : List (Nat × CpInfo)) (last : Nat) : Array CpInfo := ⟨poolList es last⟩
def fileOf (pool : Array CpInfo) (this : Nat) (attrs : Array Attribute := #[]) (ms : Array MethodInfo := #[]) (fl : Nat := 33) (sup : Nat := 0) (ifs : Array Nat := #[]) (fds : Array FieldInfo := #[]) : ClassFile where
  minorVersion := 0
  majorVersion := 65
  constantPool := pool
  accessFlags := fl
  thisClass := this
  superClass := sup
  interfaces := ifs
  fields := fds
  methods := ms
  attributes := attrs
def plain (name : String) (sup : Option ClassId) : Class where
  name := name
  kind := .ordinary
  loader := none
  accessFlags := 33
  super := sup
  interfaces := #[]
  cf := none
  fields := #[]
  methods := #[]
  instanceTypes := #[]
  staticTypes := #[]
  resolved := #[]
  callSites := []
  init := .initialized
  statics := none
  mirror := none

def pool0 : Array CpInfo := pool [(5, u "<init>"), (0, u "()V"), (1, .class_ 10), (1, u "java/lang/Object")] 113

def k0c0 : Code := { maxStack := 0, maxLocals := 1, code := object_method_1_code, exceptionTable := #[], attributes := #[] }
def k0m0 : Method := { name := "<init>", desc := "()V", sig := { parameters := [], returnType := none }, accessFlags := 1, code := some k0c0 }
/-- java/lang/Object -/
def k0 : Class := { plain "java/lang/Object" none with
  accessFlags := 33
  interfaces := #[]
  cf := some (fileOf pool0 8 #[] #[{ accessFlags := 1, nameIndex := 5, descriptorIndex := 6, attributes := #[] }] 33 0 #[] #[])
  fields := #[]
  methods := #[k0m0]
  instanceTypes := #[]
  staticTypes := #[]
  resolved := Array.replicate 124 none
  statics := none }

def pool1 : Array CpInfo := pool [(2, .class_ 4), (1, u "java/lang/Object"), (0, u "<init>"), (0, u "()V"), (0, .class_ 8), (0, u "com/example/bare_words/barewords/Hit"), (0, .methodref 7 10), (0, .nameAndType 5 11), (0, u "(II)V"), (0, .methodref 7 13), (0, .nameAndType 14 15), (0, u "add"), (0, u "(ID)V"), (0, .methodref 7 17), (0, .nameAndType 18 19), (0, u "words"), (0, u "()Ljava/util/BitSet;"), (0, .methodref 21 22), (0, .class_ 23), (0, .nameAndType 24 25), (0, u "java/util/BitSet"), (0, u "get"), (0, u "(I)Z"), (0, .methodref 21 27), (0, .nameAndType 28 29), (0, u "cardinality"), (0, u "()I"), (0, .methodref 7 31), (0, .nameAndType 32 33), (0, u "score"), (0, u "()D"), (0, .methodref 7 35), (0, .nameAndType 36 29), (0, u "doc"), (0, .methodref 7 38), (0, .nameAndType 39 29), (0, u "tableIndex"), (0, .class_ 41), (0, u "com/example/bare_words/barewords/HitAddPinLaw"), (2, u "law"), (0, u "(IIIIII)Z")] 3

def k1m0 : Method := { name := "<init>", desc := "()V", sig := { parameters := [], returnType := none }, accessFlags := 1, code := none }
def k1c1 : Code := { maxStack := 6, maxLocals := 14, code := code, exceptionTable := #[], attributes := #[] }
def k1m1 : Method := { name := "law", desc := "(IIIIII)Z", sig := { parameters := [.int, .int, .int, .int, .int, .int], returnType := some .boolean }, accessFlags := 9, code := some k1c1 }
/-- com/example/bare_words/barewords/HitAddPinLaw -/
def k1 : Class := { plain "com/example/bare_words/barewords/HitAddPinLaw" (some 0) with
  accessFlags := 49
  interfaces := #[]
  cf := some (fileOf pool1 40 #[] #[{ accessFlags := 1, nameIndex := 5, descriptorIndex := 6, attributes := #[] }, { accessFlags := 9, nameIndex := 44, descriptorIndex := 45, attributes := #[] }] 49 2 #[] #[])
  fields := #[]
  methods := #[k1m0, k1m1]
  instanceTypes := #[]
  staticTypes := #[]
  resolved := Array.replicate 49 none
  statics := none }

def pool2 : Array CpInfo := pool [(1, .methodref 2 3), (0, .class_ 4), (0, .nameAndType 5 6), (0, u "java/lang/Object"), (0, u "<init>"), (0, u "()V"), (0, .class_ 8), (0, u "java/util/BitSet"), (0, .methodref 7 3), (0, .fieldref 11 12), (0, .class_ 13), (0, .nameAndType 14 15), (0, u "com/example/bare_words/barewords/Hit"), (0, u "words"), (0, u "Ljava/util/BitSet;"), (0, .fieldref 11 17), (0, .nameAndType 18 19), (0, u "doc"), (0, u "I"), (0, .fieldref 11 21), (0, .nameAndType 22 19), (0, u "tableIndex"), (2, u "(II)V"), (4, .methodref 7 31), (0, .nameAndType 32 33), (0, u "set"), (0, u "(I)V"), (0, .fieldref 11 35), (0, .nameAndType 36 37), (0, u "score"), (0, u "D"), (6, u "key"), (0, u "Ljava/util/List;"), (22, u "BY_SCORE"), (0, u "Ljava/util/Comparator;"), (0, u "NO_DOC"), (9, u "add"), (0, u "(ID)V"), (1, u "()I"), (0, u "()Ljava/util/BitSet;"), (0, u "()D")] 27

def k2c0 : Code := { maxStack := 3, maxLocals := 3, code := prog_24_method_1_code, exceptionTable := #[], attributes := #[] }
def k2m0 : Method := { name := "<init>", desc := "(II)V", sig := { parameters := [.int, .int], returnType := none }, accessFlags := 0, code := some k2c0 }
def k2c1 : Code := { maxStack := 5, maxLocals := 4, code := prog_24_method_3_code, exceptionTable := #[], attributes := #[] }
def k2m1 : Method := { name := "add", desc := "(ID)V", sig := { parameters := [.int, .double], returnType := none }, accessFlags := 0, code := some k2c1 }
def k2c2 : Code := { maxStack := 1, maxLocals := 1, code := prog_24_method_5_code, exceptionTable := #[], attributes := #[] }
def k2m2 : Method := { name := "doc", desc := "()I", sig := { parameters := [], returnType := some .int }, accessFlags := 0, code := some k2c2 }
def k2c3 : Code := { maxStack := 1, maxLocals := 1, code := prog_24_method_6_code, exceptionTable := #[], attributes := #[] }
def k2m3 : Method := { name := "tableIndex", desc := "()I", sig := { parameters := [], returnType := some .int }, accessFlags := 0, code := some k2c3 }
def k2c4 : Code := { maxStack := 1, maxLocals := 1, code := prog_24_method_7_code, exceptionTable := #[], attributes := #[] }
def k2m4 : Method := { name := "words", desc := "()Ljava/util/BitSet;", sig := { parameters := [], returnType := some (.object "java/util/BitSet") }, accessFlags := 0, code := some k2c4 }
def k2c5 : Code := { maxStack := 2, maxLocals := 1, code := prog_24_method_8_code, exceptionTable := #[], attributes := #[] }
def k2m5 : Method := { name := "score", desc := "()D", sig := { parameters := [], returnType := some .double }, accessFlags := 0, code := some k2c5 }
/-- com/example/bare_words/barewords/Hit -/
def k2 : Class := { plain "com/example/bare_words/barewords/Hit" (some 0) with
  accessFlags := 48
  interfaces := #[]
  cf := some (fileOf pool2 11 #[] #[{ accessFlags := 0, nameIndex := 5, descriptorIndex := 25, attributes := #[] }, { accessFlags := 0, nameIndex := 80, descriptorIndex := 81, attributes := #[] }, { accessFlags := 0, nameIndex := 18, descriptorIndex := 83, attributes := #[] }, { accessFlags := 0, nameIndex := 22, descriptorIndex := 83, attributes := #[] }, { accessFlags := 0, nameIndex := 14, descriptorIndex := 84, attributes := #[] }, { accessFlags := 0, nameIndex := 36, descriptorIndex := 85, attributes := #[] }] 48 2 #[] #[{ accessFlags := 24, nameIndex := 70, descriptorIndex := 19, attributes := #[] }, { accessFlags := 24, nameIndex := 68, descriptorIndex := 69, attributes := #[] }, { accessFlags := 18, nameIndex := 18, descriptorIndex := 19, attributes := #[] }, { accessFlags := 18, nameIndex := 22, descriptorIndex := 19, attributes := #[] }, { accessFlags := 18, nameIndex := 14, descriptorIndex := 15, attributes := #[] }, { accessFlags := 2, nameIndex := 36, descriptorIndex := 37, attributes := #[] }, { accessFlags := 2, nameIndex := 44, descriptorIndex := 45, attributes := #[] }])
  fields := #[{ name := "NO_DOC", type := .int, accessFlags := 24, slot := 0, constantValue := 0 }, { name := "BY_SCORE", type := (.object "java/util/Comparator"), accessFlags := 24, slot := 1, constantValue := 0 }, { name := "doc", type := .int, accessFlags := 18, slot := 0, constantValue := 0 }, { name := "tableIndex", type := .int, accessFlags := 18, slot := 1, constantValue := 0 }, { name := "words", type := (.object "java/util/BitSet"), accessFlags := 18, slot := 2, constantValue := 0 }, { name := "score", type := .double, accessFlags := 2, slot := 3, constantValue := 0 }, { name := "key", type := (.object "java/util/List"), accessFlags := 2, slot := 4, constantValue := 0 }]
  methods := #[k2m0, k2m1, k2m2, k2m3, k2m4, k2m5]
  instanceTypes := #[.int, .int, (.object "java/util/BitSet"), .double, (.object "java/util/List")]
  staticTypes := #[.int, (.object "java/util/Comparator")]
  resolved := Array.replicate 113 none
  statics := none }

def pool3 : Array CpInfo := pool [(1, .class_ 2), (0, u "java/lang/Cloneable"), (0, .class_ 4), (0, u "java/lang/Object")] 2

/-- java/lang/Cloneable -/
def k3 : Class := { plain "java/lang/Cloneable" (some 0) with
  accessFlags := 1537
  interfaces := #[]
  cf := some (fileOf pool3 1 #[] #[] 1537 3 #[] #[])
  fields := #[]
  methods := #[]
  instanceTypes := #[]
  staticTypes := #[]
  resolved := Array.replicate 7 none
  statics := none }

def pool4 : Array CpInfo := pool [(1, .class_ 2), (0, u "java/io/Serializable"), (0, .class_ 4), (0, u "java/lang/Object")] 2

/-- java/io/Serializable -/
def k4 : Class := { plain "java/io/Serializable" (some 0) with
  accessFlags := 1537
  interfaces := #[]
  cf := some (fileOf pool4 1 #[] #[] 1537 3 #[] #[])
  fields := #[]
  methods := #[]
  instanceTypes := #[]
  staticTypes := #[]
  resolved := Array.replicate 7 none
  statics := none }

def pool5 : Array CpInfo := pool [(1, .class_ 2), (0, u "java/util/BitSet"), (0, .fieldref 1 4), (0, .nameAndType 5 6), (0, u "$assertionsDisabled"), (0, u "Z"), (0, .fieldref 1 8), (0, .nameAndType 9 10), (0, u "wordsInUse"), (0, u "I"), (0, .fieldref 1 12), (0, .nameAndType 13 14), (0, u "words"), (0, u "[J"), (3, .nameAndType 19 20), (0, u "<init>"), (0, u "()V"), (0, .methodref 22 18), (0, .class_ 23), (0, u "java/lang/Object"), (0, .fieldref 1 25), (0, .nameAndType 26 6), (0, u "sizeIsSticky"), (0, .methodref 1 28), (0, .nameAndType 29 30), (0, u "initWords"), (0, u "(I)V"), (21, .methodref 1 53), (0, .nameAndType 54 55), (0, u "wordIndex"), (0, u "(I)I"), (0, .methodref 1 57), (0, .nameAndType 58 20), (0, u "checkInvariants"), (0, .methodref 60 61), (0, .class_ 62), (0, .nameAndType 63 64), (0, u "java/util/Arrays"), (0, u "copyOf"), (0, u "([JI)[J"), (12, u "()I"), (2, u "get"), (52, .methodref 134 135), (0, .class_ 136), (0, .nameAndType 137 138), (0, u "java/lang/Math"), (0, u "max"), (0, u "(II)I"), (0, .methodref 1 140), (0, .nameAndType 141 30), (0, u "ensureCapacity"), (13, .methodref 1 156), (0, .nameAndType 157 30), (0, u "expandTo"), (11, u "set"), (13, .class_ 185), (1, u "java/lang/Long"), (1, u "(J)I"), (8, .methodref 183 197), (0, .nameAndType 198 187), (0, u "bitCount"), (56, u "cardinality"), (13, .class_ 270), (0, u "java/util/BitSet$1BitSetSpliterator"), (22, u "serialPersistentFields"), (0, u "[Ljava/io/ObjectStreamField;"), (0, .class_ 296), (0, u "java/lang/Cloneable"), (0, .class_ 298), (0, u "java/io/Serializable"), (0, u "ADDRESS_BITS_PER_WORD"), (2, u "BITS_PER_WORD"), (1, u "BIT_INDEX_MASK"), (1, u "WORD_MASK"), (0, u "J"), (0, u "serialVersionUID"), (42, u "(I)Z")] 65

def k5c0 : Code := { maxStack := 2, maxLocals := 1, code := jdk_92_method_1_code, exceptionTable := #[], attributes := #[] }
def k5m0 : Method := { name := "wordIndex", desc := "(I)I", sig := { parameters := [.int], returnType := some .int }, accessFlags := 10, code := some k5c0 }
def k5c1 : Code := { maxStack := 4, maxLocals := 1, code := jdk_92_method_2_code, exceptionTable := #[], attributes := #[] }
def k5m1 : Method := { name := "checkInvariants", desc := "()V", sig := { parameters := [], returnType := none }, accessFlags := 2, code := some k5c1 }
def k5c2 : Code := { maxStack := 2, maxLocals := 1, code := jdk_92_method_4_code, exceptionTable := #[], attributes := #[] }
def k5m2 : Method := { name := "<init>", desc := "()V", sig := { parameters := [], returnType := none }, accessFlags := 1, code := some k5c2 }
def k5c3 : Code := { maxStack := 3, maxLocals := 2, code := jdk_92_method_6_code, exceptionTable := #[], attributes := #[] }
def k5m3 : Method := { name := "initWords", desc := "(I)V", sig := { parameters := [.int], returnType := none }, accessFlags := 2, code := some k5c3 }
def k5c4 : Code := { maxStack := 3, maxLocals := 3, code := jdk_92_method_14_code, exceptionTable := #[], attributes := #[] }
def k5m4 : Method := { name := "ensureCapacity", desc := "(I)V", sig := { parameters := [.int], returnType := none }, accessFlags := 2, code := some k5c4 }
def k5c5 : Code := { maxStack := 2, maxLocals := 3, code := jdk_92_method_15_code, exceptionTable := #[], attributes := #[] }
def k5m5 : Method := { name := "expandTo", desc := "(I)V", sig := { parameters := [.int], returnType := none }, accessFlags := 2, code := some k5c5 }
def k5c6 : Code := { maxStack := 7, maxLocals := 3, code := jdk_92_method_19_code, exceptionTable := #[], attributes := #[] }
def k5m6 : Method := { name := "set", desc := "(I)V", sig := { parameters := [.int], returnType := none }, accessFlags := 1, code := some k5c6 }
def k5c7 : Code := { maxStack := 5, maxLocals := 3, code := jdk_92_method_26_code, exceptionTable := #[], attributes := #[] }
def k5m7 : Method := { name := "get", desc := "(I)Z", sig := { parameters := [.int], returnType := some .boolean }, accessFlags := 1, code := some k5c7 }
def k5c8 : Code := { maxStack := 3, maxLocals := 3, code := jdk_92_method_35_code, exceptionTable := #[], attributes := #[] }
def k5m8 : Method := { name := "cardinality", desc := "()I", sig := { parameters := [], returnType := some .int }, accessFlags := 1, code := some k5c8 }
/-- java/util/BitSet -/
def k5 : Class := { plain "java/util/BitSet" (some 0) with
  accessFlags := 33
  interfaces := #[3, 4]
  cf := some (fileOf pool5 1 #[.nestMembers #[269]] #[{ accessFlags := 10, nameIndex := 54, descriptorIndex := 55, attributes := #[] }, { accessFlags := 2, nameIndex := 58, descriptorIndex := 20, attributes := #[] }, { accessFlags := 1, nameIndex := 19, descriptorIndex := 20, attributes := #[] }, { accessFlags := 2, nameIndex := 29, descriptorIndex := 30, attributes := #[] }, { accessFlags := 2, nameIndex := 141, descriptorIndex := 30, attributes := #[] }, { accessFlags := 2, nameIndex := 157, descriptorIndex := 30, attributes := #[] }, { accessFlags := 1, nameIndex := 169, descriptorIndex := 30, attributes := #[] }, { accessFlags := 1, nameIndex := 80, descriptorIndex := 351, attributes := #[] }, { accessFlags := 1, nameIndex := 255, descriptorIndex := 77, attributes := #[] }] 33 22 #[295, 297] #[{ accessFlags := 26, nameIndex := 299, descriptorIndex := 10, attributes := #[] }, { accessFlags := 26, nameIndex := 302, descriptorIndex := 10, attributes := #[] }, { accessFlags := 26, nameIndex := 304, descriptorIndex := 10, attributes := #[] }, { accessFlags := 26, nameIndex := 306, descriptorIndex := 307, attributes := #[] }, { accessFlags := 26, nameIndex := 293, descriptorIndex := 294, attributes := #[] }, { accessFlags := 2, nameIndex := 13, descriptorIndex := 14, attributes := #[] }, { accessFlags := 130, nameIndex := 9, descriptorIndex := 10, attributes := #[] }, { accessFlags := 130, nameIndex := 26, descriptorIndex := 6, attributes := #[] }, { accessFlags := 26, nameIndex := 308, descriptorIndex := 307, attributes := #[] }, { accessFlags := 4120, nameIndex := 5, descriptorIndex := 6, attributes := #[] }])
  fields := #[{ name := "ADDRESS_BITS_PER_WORD", type := .int, accessFlags := 26, slot := 0, constantValue := 0 }, { name := "BITS_PER_WORD", type := .int, accessFlags := 26, slot := 1, constantValue := 0 }, { name := "BIT_INDEX_MASK", type := .int, accessFlags := 26, slot := 2, constantValue := 0 }, { name := "WORD_MASK", type := .long, accessFlags := 26, slot := 3, constantValue := 0 }, { name := "serialPersistentFields", type := (.array (.object "java/io/ObjectStreamField")), accessFlags := 26, slot := 4, constantValue := 0 }, { name := "words", type := (.array .long), accessFlags := 2, slot := 0, constantValue := 0 }, { name := "wordsInUse", type := .int, accessFlags := 130, slot := 1, constantValue := 0 }, { name := "sizeIsSticky", type := .boolean, accessFlags := 130, slot := 2, constantValue := 0 }, { name := "serialVersionUID", type := .long, accessFlags := 26, slot := 5, constantValue := 0 }, { name := "$assertionsDisabled", type := .boolean, accessFlags := 4120, slot := 6, constantValue := 0 }]
  methods := #[k5m0, k5m1, k5m2, k5m3, k5m4, k5m5, k5m6, k5m7, k5m8]
  instanceTypes := #[(.array .long), .int, .boolean]
  staticTypes := #[.int, .int, .int, .long, (.array (.object "java/io/ObjectStreamField")), .long, .boolean]
  resolved := Array.replicate 417 none
  statics := some 0 }

def pool6 : Array CpInfo := pool [(2, .class_ 4), (1, u "java/lang/Object"), (0, u "<init>"), (0, u "()V"), (1, .class_ 10), (1, u "java/lang/Number"), (2, .class_ 14), (0, u "java/io/Serializable"), (0, u "serialVersionUID"), (0, u "J")] 20

def k6m0 : Method := { name := "<init>", desc := "()V", sig := { parameters := [], returnType := none }, accessFlags := 1, code := none }
/-- java/lang/Number -/
def k6 : Class := { plain "java/lang/Number" (some 0) with
  accessFlags := 1057
  interfaces := #[4]
  cf := some (fileOf pool6 8 #[] #[{ accessFlags := 1, nameIndex := 5, descriptorIndex := 6, attributes := #[] }] 1057 2 #[13] #[{ accessFlags := 26, nameIndex := 15, descriptorIndex := 16, attributes := #[] }])
  fields := #[{ name := "serialVersionUID", type := .long, accessFlags := 26, slot := 0, constantValue := 0 }]
  methods := #[k6m0]
  instanceTypes := #[]
  staticTypes := #[.long]
  resolved := Array.replicate 37 none
  statics := none }

def pool7 : Array CpInfo := pool [(1, .class_ 2), (0, u "java/lang/Comparable"), (0, .class_ 4), (0, u "java/lang/Object")] 7

/-- java/lang/Comparable -/
def k7 : Class := { plain "java/lang/Comparable" (some 0) with
  accessFlags := 1537
  interfaces := #[]
  cf := some (fileOf pool7 1 #[] #[] 1537 3 #[] #[])
  fields := #[]
  methods := #[]
  instanceTypes := #[]
  staticTypes := #[]
  resolved := Array.replicate 12 none
  statics := none }

def pool8 : Array CpInfo := pool [(1, .class_ 2), (0, u "java/lang/constant/Constable"), (0, .class_ 4), (0, u "java/lang/Object")] 6

/-- java/lang/constant/Constable -/
def k8 : Class := { plain "java/lang/constant/Constable" (some 0) with
  accessFlags := 1537
  interfaces := #[]
  cf := some (fileOf pool8 1 #[] #[] 1537 3 #[] #[])
  fields := #[]
  methods := #[]
  instanceTypes := #[]
  staticTypes := #[]
  resolved := Array.replicate 11 none
  statics := none }

def pool9 : Array CpInfo := pool [(1, .class_ 2), (0, u "java/lang/constant/ConstantDesc"), (0, .class_ 4), (0, u "java/lang/Object")] 32

/-- java/lang/constant/ConstantDesc -/
def k9 : Class := { plain "java/lang/constant/ConstantDesc" (some 0) with
  accessFlags := 1537
  interfaces := #[]
  cf := some (fileOf pool9 1 #[] #[] 1537 3 #[] #[])
  fields := #[]
  methods := #[]
  instanceTypes := #[]
  staticTypes := #[]
  resolved := Array.replicate 37 none
  statics := none }

def pool10 : Array CpInfo := pool [(1, .class_ 2), (0, u "java/lang/Long"), (98, u "(J)I"), (133, .class_ 237), (1, u "java/lang/Long$LongCache"), (33, .class_ 272), (0, u "java/lang/Number"), (2, u "value"), (0, u "J"), (37, .long 6148914691236517205), (1, .long 3689348814741910323), (1, .long 1085102592571150095), (42, u "TYPE"), (0, u "Ljava/lang/Class;"), (0, .class_ 364), (0, u "java/lang/Comparable"), (0, .class_ 366), (0, u "java/lang/constant/Constable"), (0, .class_ 368), (0, u "java/lang/constant/ConstantDesc"), (0, u "MIN_VALUE"), (1, u "MAX_VALUE"), (4, u "SIZE"), (0, u "I"), (1, u "BYTES"), (1, u "serialVersionUID"), (94, u "bitCount")] 47

def k10c0 : Code := { maxStack := 6, maxLocals := 2, code := jdk_35_method_50_code, exceptionTable := #[], attributes := #[] }
def k10m0 : Method := { name := "bitCount", desc := "(J)I", sig := { parameters := [.long], returnType := some .int }, accessFlags := 9, code := some k10c0 }
/-- java/lang/Long -/
def k10 : Class := { plain "java/lang/Long" (some 6) with
  accessFlags := 49
  interfaces := #[7, 8, 9]
  cf := some (fileOf pool10 1 #[.nestMembers #[235]] #[{ accessFlags := 9, nameIndex := 476, descriptorIndex := 101, attributes := #[] }] 49 271 #[363, 365, 367] #[{ accessFlags := 25, nameIndex := 369, descriptorIndex := 276, attributes := #[] }, { accessFlags := 25, nameIndex := 371, descriptorIndex := 276, attributes := #[] }, { accessFlags := 25, nameIndex := 361, descriptorIndex := 362, attributes := #[] }, { accessFlags := 18, nameIndex := 275, descriptorIndex := 276, attributes := #[] }, { accessFlags := 25, nameIndex := 376, descriptorIndex := 377, attributes := #[] }, { accessFlags := 25, nameIndex := 379, descriptorIndex := 377, attributes := #[] }, { accessFlags := 26, nameIndex := 381, descriptorIndex := 276, attributes := #[] }])
  fields := #[{ name := "MIN_VALUE", type := .long, accessFlags := 25, slot := 0, constantValue := 0 }, { name := "MAX_VALUE", type := .long, accessFlags := 25, slot := 1, constantValue := 0 }, { name := "TYPE", type := (.object "java/lang/Class"), accessFlags := 25, slot := 2, constantValue := 0 }, { name := "value", type := .long, accessFlags := 18, slot := 0, constantValue := 0 }, { name := "SIZE", type := .int, accessFlags := 25, slot := 3, constantValue := 0 }, { name := "BYTES", type := .int, accessFlags := 25, slot := 4, constantValue := 0 }, { name := "serialVersionUID", type := .long, accessFlags := 26, slot := 5, constantValue := 0 }]
  methods := #[k10m0]
  instanceTypes := #[.long]
  staticTypes := #[.long, .long, (.object "java/lang/Class"), .int, .int, .long]
  resolved := Array.replicate 524 none
  statics := none }

def pool11 : Array CpInfo := pool [(1, .class_ 2), (0, u "java/lang/Math"), (1, .class_ 6), (1, u "java/lang/Object"), (0, u "<init>"), (0, u "()V"), (89, .class_ 100), (1, u "java/lang/Math$RandomNumberGeneratorHolder"), (71, u "negativeZeroFloatBits"), (0, u "J"), (2, u "negativeZeroDoubleBits"), (21, u "max"), (2, u "min"), (43, u "$assertionsDisabled"), (0, u "Z"), (88, u "(II)I"), (2, u "twoToTheDoubleScaleDown"), (0, u "D"), (4, u "twoToTheDoubleScaleUp"), (9, u "E"), (3, u "PI"), (2, u "TAU"), (2, u "DEGREES_TO_RADIANS"), (0, u "RADIANS_TO_DEGREES")] 94

def k11m0 : Method := { name := "<init>", desc := "()V", sig := { parameters := [], returnType := none }, accessFlags := 2, code := none }
def k11c1 : Code := { maxStack := 2, maxLocals := 2, code := jdk_29_method_65_code, exceptionTable := #[], attributes := #[] }
def k11m1 : Method := { name := "max", desc := "(II)I", sig := { parameters := [.int, .int], returnType := some .int }, accessFlags := 9, code := some k11c1 }
def k11c2 : Code := { maxStack := 2, maxLocals := 2, code := jdk_29_method_69_code, exceptionTable := #[], attributes := #[] }
def k11m2 : Method := { name := "min", desc := "(II)I", sig := { parameters := [.int, .int], returnType := some .int }, accessFlags := 9, code := some k11c2 }
/-- java/lang/Math -/
def k11 : Class := { plain "java/lang/Math" (some 0) with
  accessFlags := 49
  interfaces := #[]
  cf := some (fileOf pool11 1 #[.nestMembers #[98]] #[{ accessFlags := 2, nameIndex := 7, descriptorIndex := 8, attributes := #[] }, { accessFlags := 9, nameIndex := 198, descriptorIndex := 335, attributes := #[] }, { accessFlags := 9, nameIndex := 201, descriptorIndex := 335, attributes := #[] }] 49 4 #[] #[{ accessFlags := 25, nameIndex := 354, descriptorIndex := 339, attributes := #[] }, { accessFlags := 25, nameIndex := 358, descriptorIndex := 339, attributes := #[] }, { accessFlags := 25, nameIndex := 361, descriptorIndex := 339, attributes := #[] }, { accessFlags := 26, nameIndex := 364, descriptorIndex := 339, attributes := #[] }, { accessFlags := 26, nameIndex := 365, descriptorIndex := 339, attributes := #[] }, { accessFlags := 26, nameIndex := 172, descriptorIndex := 173, attributes := #[] }, { accessFlags := 26, nameIndex := 176, descriptorIndex := 173, attributes := #[] }, { accessFlags := 8, nameIndex := 344, descriptorIndex := 339, attributes := #[] }, { accessFlags := 8, nameIndex := 338, descriptorIndex := 339, attributes := #[] }, { accessFlags := 4120, nameIndex := 245, descriptorIndex := 246, attributes := #[] }])
  fields := #[{ name := "E", type := .double, accessFlags := 25, slot := 0, constantValue := 0 }, { name := "PI", type := .double, accessFlags := 25, slot := 1, constantValue := 0 }, { name := "TAU", type := .double, accessFlags := 25, slot := 2, constantValue := 0 }, { name := "DEGREES_TO_RADIANS", type := .double, accessFlags := 26, slot := 3, constantValue := 0 }, { name := "RADIANS_TO_DEGREES", type := .double, accessFlags := 26, slot := 4, constantValue := 0 }, { name := "negativeZeroFloatBits", type := .long, accessFlags := 26, slot := 5, constantValue := 0 }, { name := "negativeZeroDoubleBits", type := .long, accessFlags := 26, slot := 6, constantValue := 0 }, { name := "twoToTheDoubleScaleUp", type := .double, accessFlags := 8, slot := 7, constantValue := 0 }, { name := "twoToTheDoubleScaleDown", type := .double, accessFlags := 8, slot := 8, constantValue := 0 }, { name := "$assertionsDisabled", type := .boolean, accessFlags := 4120, slot := 9, constantValue := 0 }]
  methods := #[k11m0, k11m1, k11m2]
  instanceTypes := #[]
  staticTypes := #[.double, .double, .double, .double, .double, .long, .long, .double, .double, .boolean]
  resolved := Array.replicate 460 none
  statics := none }

def pool12 : Array CpInfo := pool [(2, .class_ 4), (1, u "java/lang/Object"), (0, u "<init>"), (0, u "()V"), (7, .class_ 16), (1, u "java/util/Arrays"), (57, .class_ 76), (1, u "java/util/Arrays$NaturalOrder"), (36, .class_ 115), (1, u "java/util/Arrays$LegacyMergeSort"), (1, u "Z"), (32, .methodref 151 152), (0, .class_ 153), (0, .nameAndType 154 155), (0, u "java/lang/System"), (0, u "arraycopy"), (0, u "(Ljava/lang/Object;ILjava/lang/Object;II)V"), (146, u "copyOf"), (1, .methodref 305 306), (0, .class_ 307), (0, .nameAndType 308 309), (0, u "java/lang/Math"), (0, u "min"), (0, u "(II)I"), (65, .class_ 376), (0, u "java/util/Arrays$ArrayList"), (68, u "$assertionsDisabled"), (269, u "MIN_ARRAY_SORT_GRAN"), (0, u "I"), (2, u "INSERTIONSORT_THRESHOLD"), (152, u "([JI)[J"), (102, .class_ 976), (0, u "java/util/Arrays$ArrayItr")] 52

def k12m0 : Method := { name := "<init>", desc := "()V", sig := { parameters := [], returnType := none }, accessFlags := 2, code := none }
def k12c1 : Code := { maxStack := 6, maxLocals := 3, code := jdk_65_method_124_code, exceptionTable := #[], attributes := #[] }
def k12m1 : Method := { name := "copyOf", desc := "([JI)[J", sig := { parameters := [(.array .long), .int], returnType := some (.array .long) }, accessFlags := 9, code := some k12c1 }
/-- java/util/Arrays -/
def k12 : Class := { plain "java/util/Arrays" (some 0) with
  accessFlags := 49
  interfaces := #[]
  cf := some (fileOf pool12 14 #[.nestMembers #[975, 375, 113, 74]] #[{ accessFlags := 2, nameIndex := 5, descriptorIndex := 6, attributes := #[] }, { accessFlags := 9, nameIndex := 302, descriptorIndex := 872, attributes := #[] }] 49 2 #[] #[{ accessFlags := 26, nameIndex := 715, descriptorIndex := 716, attributes := #[] }, { accessFlags := 26, nameIndex := 719, descriptorIndex := 716, attributes := #[] }, { accessFlags := 4120, nameIndex := 445, descriptorIndex := 117, attributes := #[] }])
  fields := #[{ name := "MIN_ARRAY_SORT_GRAN", type := .int, accessFlags := 26, slot := 0, constantValue := 0 }, { name := "INSERTIONSORT_THRESHOLD", type := .int, accessFlags := 26, slot := 1, constantValue := 0 }, { name := "$assertionsDisabled", type := .boolean, accessFlags := 4120, slot := 2, constantValue := 0 }]
  methods := #[k12m0, k12m1]
  instanceTypes := #[]
  staticTypes := #[.int, .int, .boolean]
  resolved := Array.replicate 1029 none
  statics := none }

def pool13 : Array CpInfo := pool [(2, .class_ 4), (1, u "java/lang/Object"), (0, u "<init>"), (0, u "()V"), (1, .class_ 10), (1, u "java/lang/System"), (0, u "allowSecurityManager"), (0, u "I"), (16, u "cons"), (0, u "Ljava/io/Console;"), (77, .class_ 110), (1, u "java/lang/System$CallersHolder"), (43, u "initialErrStream"), (0, u "Ljava/io/PrintStream;"), (19, u "security"), (0, u "Ljava/lang/SecurityManager;"), (31, .class_ 209), (0, u "java/lang/System$1"), (7, u "props"), (0, u "Ljava/util/Properties;"), (2, u "lineSeparator"), (0, u "Ljava/lang/String;"), (96, .class_ 321), (1, u "java/lang/System$LoggerFinder"), (5, .class_ 328), (0, u "java/lang/System$Logger"), (67, u "err"), (2, u "out"), (91, u "notSupportedJnuEncoding"), (15, u "in"), (17, u "initialIn"), (0, u "Ljava/io/InputStream;"), (35, u "bootLayer"), (0, u "Ljava/lang/ModuleLayer;"), (99, .class_ 664), (0, u "java/lang/System$2"), (9, u "NEVER"), (2, u "MAYBE"), (49, u "arraycopy"), (0, u "(Ljava/lang/Object;ILjava/lang/Object;II)V"), (72, .class_ 802), (0, u "java/lang/System$Logger$Level")] 31

def k13m0 : Method := { name := "<init>", desc := "()V", sig := { parameters := [], returnType := none }, accessFlags := 2, code := none }
def k13m1 : Method := { name := "arraycopy", desc := "(Ljava/lang/Object;ILjava/lang/Object;II)V", sig := { parameters := [(.object "java/lang/Object"), .int, (.object "java/lang/Object"), .int, .int], returnType := none }, accessFlags := 265, code := none }
/-- java/lang/System -/
def k13 : Class := { plain "java/lang/System" (some 0) with
  accessFlags := 49
  interfaces := #[]
  cf := some (fileOf pool13 8 #[.nestMembers #[319, 327, 801, 108, 663, 208]] #[{ accessFlags := 2, nameIndex := 5, descriptorIndex := 6, attributes := #[] }, { accessFlags := 265, nameIndex := 727, descriptorIndex := 728, attributes := #[] }] 49 2 #[] #[{ accessFlags := 25, nameIndex := 507, descriptorIndex := 526, attributes := #[] }, { accessFlags := 25, nameIndex := 399, descriptorIndex := 155, attributes := #[] }, { accessFlags := 25, nameIndex := 396, descriptorIndex := 155, attributes := #[] }, { accessFlags := 10, nameIndex := 525, descriptorIndex := 526, attributes := #[] }, { accessFlags := 26, nameIndex := 674, descriptorIndex := 12, attributes := #[] }, { accessFlags := 26, nameIndex := 677, descriptorIndex := 12, attributes := #[] }, { accessFlags := 10, nameIndex := 11, descriptorIndex := 12, attributes := #[] }, { accessFlags := 74, nameIndex := 175, descriptorIndex := 176, attributes := #[] }, { accessFlags := 10, nameIndex := 491, descriptorIndex := 222, attributes := #[] }, { accessFlags := 74, nameIndex := 29, descriptorIndex := 30, attributes := #[] }, { accessFlags := 74, nameIndex := 154, descriptorIndex := 155, attributes := #[] }, { accessFlags := 10, nameIndex := 217, descriptorIndex := 218, attributes := #[] }, { accessFlags := 10, nameIndex := 221, descriptorIndex := 222, attributes := #[] }, { accessFlags := 8, nameIndex := 562, descriptorIndex := 563, attributes := #[] }])
  fields := #[{ name := "in", type := (.object "java/io/InputStream"), accessFlags := 25, slot := 0, constantValue := 0 }, { name := "out", type := (.object "java/io/PrintStream"), accessFlags := 25, slot := 1, constantValue := 0 }, { name := "err", type := (.object "java/io/PrintStream"), accessFlags := 25, slot := 2, constantValue := 0 }, { name := "initialIn", type := (.object "java/io/InputStream"), accessFlags := 10, slot := 3, constantValue := 0 }, { name := "NEVER", type := .int, accessFlags := 26, slot := 4, constantValue := 0 }, { name := "MAYBE", type := .int, accessFlags := 26, slot := 5, constantValue := 0 }, { name := "allowSecurityManager", type := .int, accessFlags := 10, slot := 6, constantValue := 0 }, { name := "security", type := (.object "java/lang/SecurityManager"), accessFlags := 74, slot := 7, constantValue := 0 }, { name := "notSupportedJnuEncoding", type := (.object "java/lang/String"), accessFlags := 10, slot := 8, constantValue := 0 }, { name := "cons", type := (.object "java/io/Console"), accessFlags := 74, slot := 9, constantValue := 0 }, { name := "initialErrStream", type := (.object "java/io/PrintStream"), accessFlags := 74, slot := 10, constantValue := 0 }, { name := "props", type := (.object "java/util/Properties"), accessFlags := 10, slot := 11, constantValue := 0 }, { name := "lineSeparator", type := (.object "java/lang/String"), accessFlags := 10, slot := 12, constantValue := 0 }, { name := "bootLayer", type := (.object "java/lang/ModuleLayer"), accessFlags := 8, slot := 13, constantValue := 0 }]
  methods := #[k13m0, k13m1]
  instanceTypes := #[]
  staticTypes := #[(.object "java/io/InputStream"), (.object "java/io/PrintStream"), (.object "java/io/PrintStream"), (.object "java/io/InputStream"), .int, .int, .int, (.object "java/lang/SecurityManager"), (.object "java/lang/String"), (.object "java/io/Console"), (.object "java/io/PrintStream"), (.object "java/util/Properties"), (.object "java/lang/String"), (.object "java/lang/ModuleLayer")]
  resolved := Array.replicate 834 none
  statics := none }

/-- the primitive byte -/
def k14 : Class := { plain "byte" none with kind := .primitive 'B', accessFlags := 0x411 }
/-- [B -/
def k15 : Class := { plain "[B" (some 0) with kind := .array 14 .byte, interfaces := #[3, 4], accessFlags := 1041 }

/-- the primitive int -/
def k16 : Class := { plain "int" none with kind := .primitive 'I', accessFlags := 0x411 }
/-- [I -/
def k17 : Class := { plain "[I" (some 0) with kind := .array 16 .int, interfaces := #[3, 4], accessFlags := 1041 }

/-- the primitive long -/
def k18 : Class := { plain "long" none with kind := .primitive 'J', accessFlags := 0x411 }
/-- [J -/
def k19 : Class := { plain "[J" (some 0) with kind := .array 18 .long, interfaces := #[3, 4], accessFlags := 1041 }

def heap : Heap := #[{ cls := 5, slots := #[.int 0, .int 0, .int 0, .long 0, .null, .long 0, .int 1], vm := .statics 5 }]
def classes : Array Class := #[k0, k1, k2, k3, k4, k5, k6, k7, k8, k9, k10, k11, k12, k13, k14, k15, k16, k17, k18, k19]
def interned : List (Array UInt16 × Addr) := []
def slotsUsed : Nat := 7
def theMethod : MethodId := ⟨1, 1⟩
def args0 : Array Value := #[.int 5, .int 5, .int 5, .int 5, .int 5, .int 5]
def aboutOver (below : List Frame) : State where
  vm := { classes := classes, interned := interned.toArray }
  heap := heap
  slotsUsed := slotsUsed
  threads := #[{ frames := .invoking theMethod args0 :: below }]
def below0 : List Frame := [.native { method := ⟨0, 0⟩, args := #[] }]
def about1 : State := aboutOver below0
def p0 : Program := .bare "" "" ""
def e0 : Env := launch0.env 0 0 0
theorem w_frames : about1.frames = Frame.invoking theMethod args0 :: below0 := rfl
set_option maxRecDepth 65536 in
theorem w_args : argsFit about1.vm theMethod args0 = true := by decide +kernel
set_option maxRecDepth 65536 in
theorem w_heap : heapFits about1 = true := by decide +kernel
set_option maxRecDepth 65536 in
theorem w_runnable : about1.curStatus? = some .runnable := by decide +kernel
set_option maxRecDepth 65536 in
theorem w_alone : about1.alone = true := by decide +kernel
set_option maxRecDepth 65536 in
theorem w_named : about1.methodNamed? x = some theMethod := by decide +kernel
set_option maxRecDepth 65536 in
theorem w_hears : about1.hears theMethod below0 = true := by decide +kernel
set_option maxRecDepth 65536 in
theorem w_ripe : about1.ripe theMethod args0 below0 = true := by decide +kernel
theorem w_running : about1.status = .running := rfl
set_option maxRecDepth 65536 in
theorem w_room : about1.hasRoom e0.platform room_1 = true :=
  launch0.hasRoom_least _ room_1 (by decide +kernel) (by decide +kernel) (by decide +kernel) (by decide +kernel) (by decide +kernel) (by decide +kernel)
theorem allAtoms_all (ts : List Jvm.Cond) (a : Array Jvm.Value) (st : Jvm.State) : (allAtoms ts).before a st = ts.all (fun c => c.before a st) := by
  induction ts with
  | nil => rfl
  | cons c t ih =>
    show (Jvm.Cond.and c (allAtoms t)).before a st = _
    rw [Jvm.Cond.before_and, ih, List.all_cons]
def words1 : List Jvm.Cond := Jvm.Cond.code x code maxLocals ret :: tables_1
/-- a 'code' word, met by the world's own term for the bytes: nothing is compared byte by byte -/
theorem code_word {y : MethodName} {bytes : ByteArray} {mx : Nat} {rt : Option FieldType} {a : Array Value} {s : State} {m : MethodId} {meth : Method} {c : Code} (h1 : s.methodNamed? y = some m) (h2 : s.vm.method? m = some meth) (h3 : meth.code = some c) (h4 : c.code = bytes)
    (h5 : (c.maxLocals == mx && c.exceptionTable.isEmpty && decide (c.maxStack ≤ mostOperands) && decide (meth.sig.returnType = rt) && !meth.locks && decide (parseMethodDescriptor y.desc = some meth.sig)) = true) : (Jvm.Cond.code y bytes mx rt).before a s = true := by
  simp only [Bool.and_eq_true, beq_iff_eq, Bool.not_eq_true', decide_eq_true_eq] at h5
  obtain ⟨⟨⟨⟨⟨g1, g2⟩, g3⟩, g4⟩, g5⟩, g6⟩ := h5
  simp [Cond.before, Cond.holds, Cond.value, h1, h2, h3, h4, g1, g2, g3, g4, g5, g6]
def isCode : Jvm.Cond → Bool
  | .code _ _ _ _ => true
  | _ => false
theorem all_split {L : List Jvm.Cond} {P : Jvm.Cond → Bool} (h1 : L.all (fun c => isCode c || P c) = true) (h2 : ∀ c ∈ L.filter isCode, P c = true) : L.all P = true := by
  refine List.all_eq_true.mpr fun c hc => ?_
  have h := List.all_eq_true.mp h1 c hc
  rcases Bool.eq_false_or_eq_true (isCode c) with hi | hi
  · exact h2 c (List.mem_filter.mpr ⟨hc, hi⟩)
  · simpa [hi] using h
set_option maxRecDepth 65536 in
theorem w_c0 : (Jvm.Cond.code x code maxLocals ret).before args0 about1 = true := code_word (m := ⟨1, 1⟩) (meth := k1m1) (c := k1c1) (by decide +kernel) rfl rfl rfl (by decide +kernel)
set_option maxRecDepth 65536 in
theorem w_c1 : (Jvm.Cond.code ({ cls := "com/example/bare_words/barewords/Hit", name := "<init>", desc := "(II)V" } : Jvm.MethodName) prog_24_method_1_code (3 : Nat) (Option.none : Option Jvm.ClassFile.FieldType)).before args0 about1 = true := code_word (m := ⟨2, 0⟩) (meth := k2m0) (c := k2c0) (by decide +kernel) rfl rfl rfl (by decide +kernel)
set_option maxRecDepth 65536 in
theorem w_c2 : (Jvm.Cond.code ({ cls := "java/lang/Object", name := "<init>", desc := "()V" } : Jvm.MethodName) object_method_1_code (1 : Nat) (Option.none : Option Jvm.ClassFile.FieldType)).before args0 about1 = true := code_word (m := ⟨0, 0⟩) (meth := k0m0) (c := k0c0) (by decide +kernel) rfl rfl rfl (by decide +kernel)
set_option maxRecDepth 65536 in
theorem w_c3 : (Jvm.Cond.code ({ cls := "java/util/BitSet", name := "<init>", desc := "()V" } : Jvm.MethodName) jdk_92_method_4_code (1 : Nat) (Option.none : Option Jvm.ClassFile.FieldType)).before args0 about1 = true := code_word (m := ⟨5, 2⟩) (meth := k5m2) (c := k5c2) (by decide +kernel) rfl rfl rfl (by decide +kernel)
set_option maxRecDepth 65536 in
theorem w_c4 : (Jvm.Cond.code ({ cls := "java/util/BitSet", name := "initWords", desc := "(I)V" } : Jvm.MethodName) jdk_92_method_6_code (2 : Nat) (Option.none : Option Jvm.ClassFile.FieldType)).before args0 about1 = true := code_word (m := ⟨5, 3⟩) (meth := k5m3) (c := k5c3) (by decide +kernel) rfl rfl rfl (by decide +kernel)
set_option maxRecDepth 65536 in
theorem w_c5 : (Jvm.Cond.code ({ cls := "java/util/BitSet", name := "wordIndex", desc := "(I)I" } : Jvm.MethodName) jdk_92_method_1_code (1 : Nat) (Option.some Jvm.ClassFile.FieldType.int)).before args0 about1 = true := code_word (m := ⟨5, 0⟩) (meth := k5m0) (c := k5c0) (by decide +kernel) rfl rfl rfl (by decide +kernel)
set_option maxRecDepth 65536 in
theorem w_c6 : (Jvm.Cond.code ({ cls := "com/example/bare_words/barewords/Hit", name := "add", desc := "(ID)V" } : Jvm.MethodName) prog_24_method_3_code (4 : Nat) (Option.none : Option Jvm.ClassFile.FieldType)).before args0 about1 = true := code_word (m := ⟨2, 1⟩) (meth := k2m1) (c := k2c1) (by decide +kernel) rfl rfl rfl (by decide +kernel)
set_option maxRecDepth 65536 in
theorem w_c7 : (Jvm.Cond.code ({ cls := "java/util/BitSet", name := "set", desc := "(I)V" } : Jvm.MethodName) jdk_92_method_19_code (3 : Nat) (Option.none : Option Jvm.ClassFile.FieldType)).before args0 about1 = true := code_word (m := ⟨5, 6⟩) (meth := k5m6) (c := k5c6) (by decide +kernel) rfl rfl rfl (by decide +kernel)
set_option maxRecDepth 65536 in
theorem w_c8 : (Jvm.Cond.code ({ cls := "java/util/BitSet", name := "expandTo", desc := "(I)V" } : Jvm.MethodName) jdk_92_method_15_code (3 : Nat) (Option.none : Option Jvm.ClassFile.FieldType)).before args0 about1 = true := code_word (m := ⟨5, 5⟩) (meth := k5m5) (c := k5c5) (by decide +kernel) rfl rfl rfl (by decide +kernel)
set_option maxRecDepth 65536 in
theorem w_c9 : (Jvm.Cond.code ({ cls := "java/util/BitSet", name := "ensureCapacity", desc := "(I)V" } : Jvm.MethodName) jdk_92_method_14_code (3 : Nat) (Option.none : Option Jvm.ClassFile.FieldType)).before args0 about1 = true := code_word (m := ⟨5, 4⟩) (meth := k5m4) (c := k5c4) (by decide +kernel) rfl rfl rfl (by decide +kernel)
set_option maxRecDepth 65536 in
theorem w_c10 : (Jvm.Cond.code ({ cls := "java/util/BitSet", name := "checkInvariants", desc := "()V" } : Jvm.MethodName) jdk_92_method_2_code (1 : Nat) (Option.none : Option Jvm.ClassFile.FieldType)).before args0 about1 = true := code_word (m := ⟨5, 1⟩) (meth := k5m1) (c := k5c1) (by decide +kernel) rfl rfl rfl (by decide +kernel)
set_option maxRecDepth 65536 in
theorem w_c11 : (Jvm.Cond.code ({ cls := "com/example/bare_words/barewords/Hit", name := "words", desc := "()Ljava/util/BitSet;" } : Jvm.MethodName) prog_24_method_7_code (1 : Nat) (Option.some (Jvm.ClassFile.FieldType.object "java/util/BitSet"))).before args0 about1 = true := code_word (m := ⟨2, 4⟩) (meth := k2m4) (c := k2c4) (by decide +kernel) rfl rfl rfl (by decide +kernel)
set_option maxRecDepth 65536 in
theorem w_c12 : (Jvm.Cond.code ({ cls := "java/util/BitSet", name := "get", desc := "(I)Z" } : Jvm.MethodName) jdk_92_method_26_code (3 : Nat) (Option.some Jvm.ClassFile.FieldType.boolean)).before args0 about1 = true := code_word (m := ⟨5, 7⟩) (meth := k5m7) (c := k5c7) (by decide +kernel) rfl rfl rfl (by decide +kernel)
set_option maxRecDepth 65536 in
theorem w_c13 : (Jvm.Cond.code ({ cls := "java/util/BitSet", name := "cardinality", desc := "()I" } : Jvm.MethodName) jdk_92_method_35_code (3 : Nat) (Option.some Jvm.ClassFile.FieldType.int)).before args0 about1 = true := code_word (m := ⟨5, 8⟩) (meth := k5m8) (c := k5c8) (by decide +kernel) rfl rfl rfl (by decide +kernel)
set_option maxRecDepth 65536 in
theorem w_c14 : (Jvm.Cond.code ({ cls := "java/lang/Long", name := "bitCount", desc := "(J)I" } : Jvm.MethodName) jdk_35_method_50_code (2 : Nat) (Option.some Jvm.ClassFile.FieldType.int)).before args0 about1 = true := code_word (m := ⟨10, 0⟩) (meth := k10m0) (c := k10c0) (by decide +kernel) rfl rfl rfl (by decide +kernel)
set_option maxRecDepth 65536 in
theorem w_c15 : (Jvm.Cond.code ({ cls := "com/example/bare_words/barewords/Hit", name := "score", desc := "()D" } : Jvm.MethodName) prog_24_method_8_code (1 : Nat) (Option.some Jvm.ClassFile.FieldType.double)).before args0 about1 = true := code_word (m := ⟨2, 5⟩) (meth := k2m5) (c := k2c5) (by decide +kernel) rfl rfl rfl (by decide +kernel)
set_option maxRecDepth 65536 in
theorem w_c16 : (Jvm.Cond.code ({ cls := "com/example/bare_words/barewords/Hit", name := "doc", desc := "()I" } : Jvm.MethodName) prog_24_method_5_code (1 : Nat) (Option.some Jvm.ClassFile.FieldType.int)).before args0 about1 = true := code_word (m := ⟨2, 2⟩) (meth := k2m2) (c := k2c2) (by decide +kernel) rfl rfl rfl (by decide +kernel)
set_option maxRecDepth 65536 in
theorem w_c17 : (Jvm.Cond.code ({ cls := "com/example/bare_words/barewords/Hit", name := "tableIndex", desc := "()I" } : Jvm.MethodName) prog_24_method_6_code (1 : Nat) (Option.some Jvm.ClassFile.FieldType.int)).before args0 about1 = true := code_word (m := ⟨2, 3⟩) (meth := k2m3) (c := k2c3) (by decide +kernel) rfl rfl rfl (by decide +kernel)
set_option maxRecDepth 65536 in
theorem w_c18 : (Jvm.Cond.code ({ cls := "java/lang/Math", name := "max", desc := "(II)I" } : Jvm.MethodName) jdk_29_method_65_code (2 : Nat) (Option.some Jvm.ClassFile.FieldType.int)).before args0 about1 = true := code_word (m := ⟨11, 1⟩) (meth := k11m1) (c := k11c1) (by decide +kernel) rfl rfl rfl (by decide +kernel)
set_option maxRecDepth 65536 in
theorem w_c19 : (Jvm.Cond.code ({ cls := "java/util/Arrays", name := "copyOf", desc := "([JI)[J" } : Jvm.MethodName) jdk_65_method_124_code (3 : Nat) (Option.some (Jvm.ClassFile.FieldType.array Jvm.ClassFile.FieldType.long))).before args0 about1 = true := code_word (m := ⟨12, 1⟩) (meth := k12m1) (c := k12c1) (by decide +kernel) rfl rfl rfl (by decide +kernel)
set_option maxRecDepth 65536 in
theorem w_c20 : (Jvm.Cond.code ({ cls := "java/lang/Math", name := "min", desc := "(II)I" } : Jvm.MethodName) jdk_29_method_69_code (2 : Nat) (Option.some Jvm.ClassFile.FieldType.int)).before args0 about1 = true := code_word (m := ⟨11, 2⟩) (meth := k11m2) (c := k11c2) (by decide +kernel) rfl rfl rfl (by decide +kernel)
def codes1 : List Jvm.Cond := [Jvm.Cond.code x code maxLocals ret, Jvm.Cond.code ({ cls := "com/example/bare_words/barewords/Hit", name := "<init>", desc := "(II)V" } : Jvm.MethodName) prog_24_method_1_code (3 : Nat) (Option.none : Option Jvm.ClassFile.FieldType), Jvm.Cond.code ({ cls := "java/lang/Object", name := "<init>", desc := "()V" } : Jvm.MethodName) object_method_1_code (1 : Nat) (Option.none : Option Jvm.ClassFile.FieldType), Jvm.Cond.code ({ cls := "java/util/BitSet", name := "<init>", desc := "()V" } : Jvm.MethodName) jdk_92_method_4_code (1 : Nat) (Option.none : Option Jvm.ClassFile.FieldType), Jvm.Cond.code ({ cls := "java/util/BitSet", name := "initWords", desc := "(I)V" } : Jvm.MethodName) jdk_92_method_6_code (2 : Nat) (Option.none : Option Jvm.ClassFile.FieldType), Jvm.Cond.code ({ cls := "java/util/BitSet", name := "wordIndex", desc := "(I)I" } : Jvm.MethodName) jdk_92_method_1_code (1 : Nat) (Option.some Jvm.ClassFile.FieldType.int), Jvm.Cond.code ({ cls := "com/example/bare_words/barewords/Hit", name := "add", desc := "(ID)V" } : Jvm.MethodName) prog_24_method_3_code (4 : Nat) (Option.none : Option Jvm.ClassFile.FieldType), Jvm.Cond.code ({ cls := "java/util/BitSet", name := "set", desc := "(I)V" } : Jvm.MethodName) jdk_92_method_19_code (3 : Nat) (Option.none : Option Jvm.ClassFile.FieldType), Jvm.Cond.code ({ cls := "java/util/BitSet", name := "expandTo", desc := "(I)V" } : Jvm.MethodName) jdk_92_method_15_code (3 : Nat) (Option.none : Option Jvm.ClassFile.FieldType), Jvm.Cond.code ({ cls := "java/util/BitSet", name := "ensureCapacity", desc := "(I)V" } : Jvm.MethodName) jdk_92_method_14_code (3 : Nat) (Option.none : Option Jvm.ClassFile.FieldType), Jvm.Cond.code ({ cls := "java/util/BitSet", name := "checkInvariants", desc := "()V" } : Jvm.MethodName) jdk_92_method_2_code (1 : Nat) (Option.none : Option Jvm.ClassFile.FieldType), Jvm.Cond.code ({ cls := "com/example/bare_words/barewords/Hit", name := "words", desc := "()Ljava/util/BitSet;" } : Jvm.MethodName) prog_24_method_7_code (1 : Nat) (Option.some (Jvm.ClassFile.FieldType.object "java/util/BitSet")), Jvm.Cond.code ({ cls := "java/util/BitSet", name := "get", desc := "(I)Z" } : Jvm.MethodName) jdk_92_method_26_code (3 : Nat) (Option.some Jvm.ClassFile.FieldType.boolean), Jvm.Cond.code ({ cls := "java/util/BitSet", name := "cardinality", desc := "()I" } : Jvm.MethodName) jdk_92_method_35_code (3 : Nat) (Option.some Jvm.ClassFile.FieldType.int), Jvm.Cond.code ({ cls := "java/lang/Long", name := "bitCount", desc := "(J)I" } : Jvm.MethodName) jdk_35_method_50_code (2 : Nat) (Option.some Jvm.ClassFile.FieldType.int), Jvm.Cond.code ({ cls := "com/example/bare_words/barewords/Hit", name := "score", desc := "()D" } : Jvm.MethodName) prog_24_method_8_code (1 : Nat) (Option.some Jvm.ClassFile.FieldType.double), Jvm.Cond.code ({ cls := "com/example/bare_words/barewords/Hit", name := "doc", desc := "()I" } : Jvm.MethodName) prog_24_method_5_code (1 : Nat) (Option.some Jvm.ClassFile.FieldType.int), Jvm.Cond.code ({ cls := "com/example/bare_words/barewords/Hit", name := "tableIndex", desc := "()I" } : Jvm.MethodName) prog_24_method_6_code (1 : Nat) (Option.some Jvm.ClassFile.FieldType.int), Jvm.Cond.code ({ cls := "java/lang/Math", name := "max", desc := "(II)I" } : Jvm.MethodName) jdk_29_method_65_code (2 : Nat) (Option.some Jvm.ClassFile.FieldType.int), Jvm.Cond.code ({ cls := "java/util/Arrays", name := "copyOf", desc := "([JI)[J" } : Jvm.MethodName) jdk_65_method_124_code (3 : Nat) (Option.some (Jvm.ClassFile.FieldType.array Jvm.ClassFile.FieldType.long)), Jvm.Cond.code ({ cls := "java/lang/Math", name := "min", desc := "(II)I" } : Jvm.MethodName) jdk_29_method_69_code (2 : Nat) (Option.some Jvm.ClassFile.FieldType.int)]
set_option maxRecDepth 65536 in
theorem codes_eq : words1.filter isCode = codes1 := rfl
theorem w_codes : ∀ c ∈ words1.filter isCode, c.before args0 about1 = true := by
  rw [codes_eq]
  intro c hc
  simp only [codes1, List.mem_cons, List.not_mem_nil, or_false] at hc
  rcases hc with rfl | rfl | rfl | rfl | rfl | rfl | rfl | rfl | rfl | rfl | rfl | rfl | rfl | rfl | rfl | rfl | rfl | rfl | rfl | rfl | rfl
  · exact w_c0
  · exact w_c1
  · exact w_c2
  · exact w_c3
  · exact w_c4
  · exact w_c5
  · exact w_c6
  · exact w_c7
  · exact w_c8
  · exact w_c9
  · exact w_c10
  · exact w_c11
  · exact w_c12
  · exact w_c13
  · exact w_c14
  · exact w_c15
  · exact w_c16
  · exact w_c17
  · exact w_c18
  · exact w_c19
  · exact w_c20
set_option maxRecDepth 65536 in
theorem w_t1 : (words1.take 24).all (fun c => isCode c || c.before args0 about1) = true := by decide +kernel
set_option maxRecDepth 65536 in
theorem w_t2 : ((words1.drop 24).take 24).all (fun c => isCode c || c.before args0 about1) = true := by decide +kernel
set_option maxRecDepth 65536 in
theorem w_t3 : (((words1.drop 24).drop 24).take 24).all (fun c => isCode c || c.before args0 about1) = true := by decide +kernel
set_option maxRecDepth 65536 in
theorem w_t4 : ((((words1.drop 24).drop 24).drop 24).take 24).all (fun c => isCode c || c.before args0 about1) = true := by decide +kernel
set_option maxRecDepth 65536 in
theorem w_t5 : ((((words1.drop 24).drop 24).drop 24).drop 24).all (fun c => isCode c || c.before args0 about1) = true := by decide +kernel
theorem w_tables : (allAtoms (Jvm.Cond.code x code maxLocals ret :: tables_1)).before args0 about1 = true := by
  rw [allAtoms_all]
  show words1.all (fun c => c.before args0 about1) = true
  refine all_split ?_ w_codes
  rw [← List.take_append_drop 24 words1, List.all_append, w_t1, ← List.take_append_drop 24 (words1.drop 24), List.all_append, w_t2, ← List.take_append_drop 24 ((words1.drop 24).drop 24), List.all_append, w_t3, ← List.take_append_drop 24 (((words1.drop 24).drop 24).drop 24), List.all_append, w_t4, w_t5]
  rfl
set_option maxRecDepth 65536 in
theorem w_rest : rest_1_c.before args0 about1 = true := by decide +kernel
set_option maxRecDepth 65536 in
theorem w_case : (Jvm.Cond.and given_1 narrow_1).before args0 about1 = true := by decide +kernel
theorem w_applies : (headSpec (Jvm.Cond.code x code maxLocals ret :: tables_1) room_1).applies x e0.platform about1 = true :=
  (Spec.applies_iff w_frames).mpr ⟨w_running, w_runnable, w_alone, w_named, w_hears, w_ripe, w_room, w_tables⟩
theorem atStart : AtStart classFile x code maxLocals ret World_1 tables_1 room_1 Calls_1 rest_1 Pre_1 launch0 p0 e0 about1 theMethod args0 below0 :=
  ⟨lists_1, trivial, launch0.admits_env _ _ _, launch0.least_env, fairChoices_fair.cas, fairChoices_fair.clock, w_frames, w_args, w_heap, w_applies, trivial, w_rest, w_case⟩
end start1
theorem witness_1 : WitnessClaimed_1 := ⟨start1.p0, start1.e0, start1.about1, start1.theMethod, start1.args0, start1.below0, start1.atStart⟩
end Jvm.Pilot.@@N@@
