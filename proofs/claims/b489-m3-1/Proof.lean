import JvmDerived
import JvmDerived.Pilot.@@N@@Statement
import JvmDerived.Pilot.@@N@@Code
set_option linter.unusedVariables false
set_option linter.unusedSimpArgs false
namespace Jvm.RoadKit
open Sem ClassFile Op Lib Jvm.Stand Jvm.Free Jvm.LawKit
section New
variable {p : Program} {l : Launch} {e : Env} {R : Room} {s : State} {m : MethodId} {args : Array Value} {below : List Frame} {meth : Method} {c : Code} {T : State} {locs : List Loc} {cells slots : Nat}
theorem retI (X : Stand p l e R s m args below meth c T locs cells slots) (hx : p.tables.exec = Jvm.exec) {pc : Nat} {Ls : Array Slot} {z : Int32} {rest : List Value} (hret : meth.sig.returnType = some .int) (hd : decode c.code pc = .ok (.ireturn, 1)) {fs : List Frame}
    (hl : ∀ (f : JFrame) (acts : List Action), f.method = m → f.locked = none → f.entered = [] → (doReturn e (T.setTop f) acts (some (.int z))).1 = T.setFrames fs) : Steps p.tables e below (T.setTop (mkF m pc Ls (.int z :: rest))) (T.setFrames fs) := by
  have hm' : T.vm.method? m = some meth := X.method'
  have hn : narrow .int (.int z) = .int z := rfl
  show Steps p.tables e below (T.setTop { method := m, pc := pc, locals := Ls, stack := _ :: rest, locked := none }) _
  jvm_step X.here [X.here.top, hx, hd, hm', hret, hn]
  first | (intro acts; rw [hl _ acts rfl rfl rfl]) | rw [hl _ _ rfl rfl rfl]
  exact Steps.refl _
end New
end Jvm.RoadKit
/- laws to paste: Road.backV, Road.lenW, Road.chN, Road.codOf (cut by pick.py; bodies as the Statement names them) -/
namespace Jvm.Pilot.@@N@@
namespace StrChars
open Jvm Sem ClassFile Op Lib Jvm.Stand Jvm.Free.XT Jvm.Free.ALB Jvm.Free.JM Jvm.Free
open Jvm.Lib.Cold (StaticIs)
/-- a char array whose places are chars -/
def Ch (a : Addr) (A : Cell) (U : State) : Prop := Arr .char a A U ∧ Typed .char A
theorem Ch.mv {a : Addr} {A : Cell} {U U' : State} (h : Ch a A U) (hal : U.vm.Alike U'.vm) (hh : U'.heap = U.heap) : Ch a A U' := ⟨h.1.mv hal hh, h.2⟩
theorem Ch.keep {a : Addr} {A : Cell} {U U' : State} (h : Ch a A U) (hal : U.vm.Alike U'.vm) (hk : U'.heap[a]? = some A) : Ch a A U' := ⟨h.1.keep hal hk, h.2⟩
/-- what place i of a char[]'s cell holds -/
def cv (A : Cell) (i : Nat) : Int32 := match A.slots[i]? with | some (.int x) => x | _ => 0
theorem Ch.get {a : Addr} {A : Cell} {U : State} (h : Ch a A U) {i : Nat} (hi : i < A.slots.size) : A.slots[i]? = some (.int (cv A i)) := by
  have e := Array.getElem?_eq_getElem hi
  have f := h.2 i _ e
  unfold cv; rw [e]
  generalize A.slots[i] = v at f
  cases v <;> simp [fits] at f ⊢
/-- the byte that i2b leaves of a char -/
def lo8 (x : Int32) : Int32 := x.toInt8.toInt32
theorem fits_lo8 (y : Int32) : fits .byte (.int (lo8 y)) = true := by
  have h1 := y.toInt8.le_toInt
  have h2 := y.toInt8.toInt_lt
  simp only [lo8, fits, Bool.and_eq_true, decide_eq_true_eq, Int32.le_iff_toInt_le, Int8.toInt_toInt32, show (-128 : Int32).toInt = -128 from by decide, show (127 : Int32).toInt = 127 from by decide]
  omega
/-- A' is A but that each place j of lo .. hi - 1 holds f j -/
def Laid (A A' : Cell) (lo hi : Nat) (f : Nat → Value) : Prop := A'.cls = A.cls ∧ A'.vm = A.vm ∧ A'.slots.size = A.slots.size ∧ ∀ i, A'.slots[i]? = if lo ≤ i ∧ i < hi then some (f i) else A.slots[i]?
theorem Laid.zero (A : Cell) (lo : Nat) (f : Nat → Value) : Laid A A lo (lo + 0) f := ⟨rfl, rfl, rfl, fun i => by rw [if_neg (by omega)]⟩
theorem Laid.step {A Ak : Cell} {lo k : Nat} {f : Nat → Value} {v : Value} (h : Laid A Ak lo k f) (hlo : lo ≤ k) (hk : k < Ak.slots.size) (hv : v = f k) : Laid A (Ak.setSlot k v) lo (k + 1) f := by
  refine ⟨h.1, h.2.1, by simpa [Cell.setSlot] using h.2.2.1, fun i => ?_⟩
  by_cases e : k = i
  · subst e; rw [Cell.slots_setSlot_self v hk, if_pos (by omega), hv]
  · rw [Cell.slots_setSlot_ne v e, h.2.2.2 i]
    by_cases q : lo ≤ i ∧ i < k
    · rw [if_pos q, if_pos (by omega)]
    · rw [if_neg q, if_neg (by omega)]
def U16 : String := "java/lang/StringUTF16"
namespace Cmp5
def yN : MethodName := ⟨"java/lang/StringUTF16", "compress", "([CI[BII)I"⟩
abbrev yB : ByteArray := jdk_52_method_21_code
theorem d0 : decode yB 0 = .ok (.iconst 0, 1) := by decide +kernel
theorem d1 : decode yB 1 = .ok (.istore 5, 2) := by decide +kernel
theorem d3 : decode yB 3 = .ok (.iload 5, 2) := by decide +kernel
theorem d5 : decode yB 5 = .ok (.iload 4, 2) := by decide +kernel
theorem d7 : decode yB 7 = .ok (.if_icmp (.ge) 37, 3) := by decide +kernel
theorem d10 : decode yB 10 = .ok (.aload_n 0, 1) := by decide +kernel
theorem d11 : decode yB 11 = .ok (.iload_n 1, 1) := by decide +kernel
theorem d12 : decode yB 12 = .ok (.caload, 1) := by decide +kernel
theorem d13 : decode yB 13 = .ok (.istore 6, 2) := by decide +kernel
theorem d15 : decode yB 15 = .ok (.iload 6, 2) := by decide +kernel
theorem d17 : decode yB 17 = .ok (.sipush 255, 3) := by decide +kernel
theorem d20 : decode yB 20 = .ok (.if_icmp (.le) 6, 3) := by decide +kernel
theorem d26 : decode yB 26 = .ok (.aload_n 2, 1) := by decide +kernel
theorem d27 : decode yB 27 = .ok (.iload_n 3, 1) := by decide +kernel
theorem d28 : decode yB 28 = .ok (.iload 6, 2) := by decide +kernel
theorem d30 : decode yB 30 = .ok (.i2b, 1) := by decide +kernel
theorem d31 : decode yB 31 = .ok (.bastore, 1) := by decide +kernel
theorem d32 : decode yB 32 = .ok (.iinc 1 1, 3) := by decide +kernel
theorem d35 : decode yB 35 = .ok (.iinc 3 1, 3) := by decide +kernel
theorem d38 : decode yB 38 = .ok (.iinc 5 1, 3) := by decide +kernel
theorem d41 : decode yB 41 = .ok (.goto (-38), 3) := by decide +kernel
theorem d44 : decode yB 44 = .ok (.iload 4, 2) := by decide +kernel
theorem d46 : decode yB 46 = .ok (.ireturn, 1) := by decide +kernel
def site : List Cond := []
def tab : Cond := tabOf yN yB 7 (some .int) site
def P (b : Addr) (A : Cell) (d : Addr) (B : Cell) (o q len : Nat) (args : Array Value) (s : State) : Prop := args = #[.ref b, .int (Int32.ofNat o), .ref d, .int (Int32.ofNat q), .int (Int32.ofNat len)] ∧ Ch b A s ∧ Arr .byte d B s ∧ b ≠ d ∧ o + len ≤ A.slots.size ∧ q + len ≤ B.slots.size ∧ ∀ i, i < len → ¬ 255 < cv A (o + i)
def E (b : Addr) (A : Cell) (d : Addr) (B : Cell) (o q len : Nat) (r : Option Value) (s u : State) : Prop := r = some (.int (Int32.ofNat len)) ∧ ∃ B', Put d B' s u ∧ Laid B B' q (q + len) (fun j => Value.int (lo8 (cv A (o + (j - q)))))
/-- no char of the range above 255: len; the places written hold each char's low byte -/
theorem law (l : Launch) (b : Addr) (A : Cell) (d : Addr) (B : Cell) (o q len : Nat) : Law l yN 5 5 0 0 yB 7 (some .int) site (P b A d B o q len) (E b A d B o q len) (copyLocs d q len) 0 0 := by
  refine Law.of_walk (plainFor_of_name (by decide +kernel)) (by decide +kernel) (by decide +kernel) (by decide) (fun _ _ h => by rw [h.1]; rfl) (fun _ U U' hal hh h => ⟨h.1, h.2.1.mv hal hh, h.2.2.1.mv hal hh, h.2.2.2⟩) (fun r U U' V V' h1 hal h2 h => ⟨h.1, h.2.elim fun B' q => ⟨B', q.1.mv h1 h2, q.2⟩⟩) ?_
  intro p e s m args below meth c s₁ X0 hexec hbytes hml hret hlk hnm hown hh0 W hP
  obtain ⟨rfl, hA, hB, hne, l1, l2, hp⟩ := hP
  have c1 : Steps p.tables e below (s₁.setTop (entryFrame m #[.ref b, .int (Int32.ofNat o), .ref d, .int (Int32.ofNat q), .int (Int32.ofNat len)] 7)) (s₁.setTop (mkF m 0 #[.val (.ref b), .val (.int (Int32.ofNat o)), .val (.ref d), .val (.int (Int32.ofNat q)), .val (.int (Int32.ofNat len)), .unset, .unset] [])) := entry rfl
  have hA0 := hA.1.mv X0.warmed.alike hh0
  have hB0 := hB.mv X0.warmed.alike hh0
  have a31 := hA.1.2.2.2
  have c2 : Steps p.tables e below (s₁.setTop (entryFrame m #[.ref b, .int (Int32.ofNat o), .ref d, .int (Int32.ofNat q), .int (Int32.ofNat len)] 7)) (s₁.setTop (mkF m 3 #[.val (.ref b), .val (.int (Int32.ofNat o)), .val (.ref d), .val (.int (Int32.ofNat q)), .val (.int (Int32.ofNat len)), .val (.int 0), .unset] [])) := c1.trans (by
    refine iconstV X0.here hexec rfl 0 (hb hbytes d0) (by decide) ?_
    refine XS.istore X0.here hexec rfl (hb hbytes d1) rfl rfl ?_
    exact Steps.refl _)
  have loop : ∀ (r i : Nat), i + r = len → ∀ (z : Slot), (z = .unset ∨ ∃ w, z = .val w ∧ w.category = 1) → ∀ (Tl : State) (Bk : Cell), Stand p l e { frames := 0, locals := 0, cells := 0, slots := 0 } s m #[.ref b, .int (Int32.ofNat o), .ref d, .int (Int32.ofNat q), .int (Int32.ofNat len)] below meth c Tl ([] ++ copyLocs d q i) 0 0 → Put d Bk s₁ Tl → Laid B Bk q (q + i) (fun j => Value.int (lo8 (cv A (o + (j - q))))) →
      Steps p.tables e below (s₁.setTop (entryFrame m #[.ref b, .int (Int32.ofNat o), .ref d, .int (Int32.ofNat q), .int (Int32.ofNat len)] 7)) (Tl.setTop (mkF m 3 #[.val (.ref b), .val (.int (Int32.ofNat (o + i))), .val (.ref d), .val (.int (Int32.ofNat (q + i))), .val (.int (Int32.ofNat len)), .val (.int (Int32.ofNat i)), z] [])) → ∃ (T' : State) (B' : Cell) (z' : Slot), Stand p l e { frames := 0, locals := 0, cells := 0, slots := 0 } s m #[.ref b, .int (Int32.ofNat o), .ref d, .int (Int32.ofNat q), .int (Int32.ofNat len)] below meth c T' ([] ++ copyLocs d q len) 0 0 ∧ Put d B' s₁ T' ∧ Laid B B' q (q + len) (fun j => Value.int (lo8 (cv A (o + (j - q))))) ∧
      Steps p.tables e below (s₁.setTop (entryFrame m #[.ref b, .int (Int32.ofNat o), .ref d, .int (Int32.ofNat q), .int (Int32.ofNat len)] 7)) (T'.setTop (mkF m 3 #[.val (.ref b), .val (.int (Int32.ofNat (o + len))), .val (.ref d), .val (.int (Int32.ofNat (q + len))), .val (.int (Int32.ofNat len)), .val (.int (Int32.ofNat len)), z'] [])) := by
    intro r
    induction r with
    | zero =>
      intro i hi z hz Tl Bk Xl pl fl cl
      have hil : i = len := by omega
      rw [hil] at Xl fl cl
      exact ⟨Tl, Bk, z, Xl, pl, fl, cl⟩
    | succ r ih =>
      intro i hi z hz Tl Bk Xl pl fl cl
      have all := X0.warmed.alike.symm.trans Xl.warmed.alike
      have hAl := hA0.keep all (pl.other hne hA0.1)
      have hBk := hB0.like all pl.1 fl.1 fl.2.1 fl.2.2.1
      have hlt : q + i < Bk.slots.size := by rw [fl.2.2.1]; omega
      have c3 : Steps p.tables e below (s₁.setTop (entryFrame m #[.ref b, .int (Int32.ofNat o), .ref d, .int (Int32.ofNat q), .int (Int32.ofNat len)] 7)) (Tl.setTop (mkF m 12 #[.val (.ref b), .val (.int (Int32.ofNat (o + i))), .val (.ref d), .val (.int (Int32.ofNat (q + i))), .val (.int (Int32.ofNat len)), .val (.int (Int32.ofNat i)), z] [.int (Int32.ofNat (o + i)), .ref b])) := cl.trans (by
        refine XS.iload Xl.here hexec rfl (hb hbytes d3) rfl ?_
        refine XS.iload Xl.here hexec rfl (hb hbytes d5) rfl ?_
        refine XS.icmpNo Xl.here hexec rfl (hb hbytes d7) rfl (ii_ge_f (lt32 (by omega) (by omega))) ?_
        refine XS.aloadN Xl.here hexec rfl (hb hbytes d10) rfl rfl ?_
        refine XS.iloadN Xl.here hexec rfl (hb hbytes d11) rfl ?_
        exact Steps.refl _)
      have c4 : Steps p.tables e below (s₁.setTop (entryFrame m #[.ref b, .int (Int32.ofNat o), .ref d, .int (Int32.ofNat q), .int (Int32.ofNat len)] 7)) (Tl.setTop (mkF m 13 #[.val (.ref b), .val (.int (Int32.ofNat (o + i))), .val (.ref d), .val (.int (Int32.ofNat (q + i))), .val (.int (Int32.ofNat len)), .val (.int (Int32.ofNat i)), z] [.int (cv A (o + i))])) := c3.trans (by
        refine Xl.aget hexec hAl rfl (hA.get (i := o + i) (by omega)) rfl rfl (hb hbytes d12) ?_
        exact Steps.refl _)
      have c5 : Steps p.tables e below (s₁.setTop (entryFrame m #[.ref b, .int (Int32.ofNat o), .ref d, .int (Int32.ofNat q), .int (Int32.ofNat len)] 7)) (Tl.setTop (mkF m 15 #[.val (.ref b), .val (.int (Int32.ofNat (o + i))), .val (.ref d), .val (.int (Int32.ofNat (q + i))), .val (.int (Int32.ofNat len)), .val (.int (Int32.ofNat i)), .val (.int (cv A (o + i)))] [])) := c4.trans (by
        refine XS.istoreS Xl.here hexec rfl (hb hbytes d13) rfl rfl hz ?_
        exact Steps.refl _)
      have c6 : Steps p.tables e below (s₁.setTop (entryFrame m #[.ref b, .int (Int32.ofNat o), .ref d, .int (Int32.ofNat q), .int (Int32.ofNat len)] 7)) (Tl.setTop (mkF m 31 #[.val (.ref b), .val (.int (Int32.ofNat (o + i))), .val (.ref d), .val (.int (Int32.ofNat (q + i))), .val (.int (Int32.ofNat len)), .val (.int (Int32.ofNat i)), .val (.int (cv A (o + i)))] [.int (lo8 (cv A (o + i))), .int (Int32.ofNat (q + i)), .ref d])) := c5.trans (by
        refine XS.iload Xl.here hexec rfl (hb hbytes d15) rfl ?_
        refine sipushV Xl.here hexec rfl 255 (hb hbytes d17) (by decide) ?_
        refine XS.icmpYes Xl.here hexec rfl (pc0 := 20) rfl (hb hbytes d20) rfl (ii_le_t (hp i (by omega))) (by decide) rfl ?_
        refine XS.aloadN Xl.here hexec rfl (hb hbytes d26) rfl rfl ?_
        refine XS.iloadN Xl.here hexec rfl (hb hbytes d27) rfl ?_
        refine XS.iload Xl.here hexec rfl (hb hbytes d28) rfl ?_
        refine i2b Xl.here hexec rfl (hb hbytes d30) rfl ?_
        exact Steps.refl _)
      obtain ⟨T7, X7, p7, st7⟩ := Xl.aput hexec hBk rfl hlt rfl (fits_lo8 (cv A (o + i))) (g := (mkF m 31 #[.val (.ref b), .val (.int (Int32.ofNat (o + i))), .val (.ref d), .val (.int (Int32.ofNat (q + i))), .val (.int (Int32.ofNat len)), .val (.int (Int32.ofNat i)), .val (.int (cv A (o + i)))] [.int (lo8 (cv A (o + i))), .int (Int32.ofNat (q + i)), .ref d])) rfl (rest := []) rfl (hb hbytes d31)
      have c8 : Steps p.tables e below (s₁.setTop (entryFrame m #[.ref b, .int (Int32.ofNat o), .ref d, .int (Int32.ofNat q), .int (Int32.ofNat len)] 7)) (T7.setTop (mkF m 32 #[.val (.ref b), .val (.int (Int32.ofNat (o + i))), .val (.ref d), .val (.int (Int32.ofNat (q + i))), .val (.int (Int32.ofNat len)), .val (.int (Int32.ofNat i)), .val (.int (cv A (o + i)))] [])) := c6.trans (st7 _ (Steps.refl _))
      have c9 : Steps p.tables e below (s₁.setTop (entryFrame m #[.ref b, .int (Int32.ofNat o), .ref d, .int (Int32.ofNat q), .int (Int32.ofNat len)] 7)) (T7.setTop (mkF m 3 #[.val (.ref b), .val (.int (Int32.ofNat (o + i) + 1)), .val (.ref d), .val (.int (Int32.ofNat (q + i) + 1)), .val (.int (Int32.ofNat len)), .val (.int (Int32.ofNat i + 1)), .val (.int (cv A (o + i)))] [])) := c8.trans (by
        refine iincV X7.here hexec rfl 1 (hb hbytes d32) (by decide) rfl rfl ?_
        refine iincV X7.here hexec rfl 1 (hb hbytes d35) (by decide) rfl rfl ?_
        refine iincV X7.here hexec rfl 1 (hb hbytes d38) (by decide) rfl rfl ?_
        refine XS.goto X7.here hexec rfl (pc0 := 41) rfl (hb hbytes d41) (by decide) rfl ?_
        exact Steps.refl _)
      have c10 : Steps p.tables e below (s₁.setTop (entryFrame m #[.ref b, .int (Int32.ofNat o), .ref d, .int (Int32.ofNat q), .int (Int32.ofNat len)] 7)) (T7.setTop (mkF m 3 #[.val (.ref b), .val (.int (Int32.ofNat (o + (i + 1)))), .val (.ref d), .val (.int (Int32.ofNat (q + (i + 1)))), .val (.int (Int32.ofNat len)), .val (.int (Int32.ofNat (i + 1))), .val (.int (cv A (o + i)))] [])) := by
        have := c9
        rw [succ32, succ32, succ32] at this
        exact this
      exact ih (i + 1) (by omega) _ (Or.inr ⟨_, rfl, rfl⟩) T7 _ (by rw [copyLocs_step, ← List.append_assoc]; exact X7) (pl.trans p7) (fl.step (by omega) hlt (by simp)) c10
  obtain ⟨T9, B9, z9, X9, p9, f9, g9⟩ := loop len 0 (by omega) .unset (Or.inl rfl) s₁ B (by simpa [copyLocs] using X0) ⟨hB0.1, fun _ _ => rfl, rfl⟩ (Laid.zero _ _ _) c2
  have c11 : Steps p.tables e below (s₁.setTop (entryFrame m #[.ref b, .int (Int32.ofNat o), .ref d, .int (Int32.ofNat q), .int (Int32.ofNat len)] 7)) (T9.setTop (mkF m 46 #[.val (.ref b), .val (.int (Int32.ofNat (o + len))), .val (.ref d), .val (.int (Int32.ofNat (q + len))), .val (.int (Int32.ofNat len)), .val (.int (Int32.ofNat len)), z9] [.int (Int32.ofNat len)])) := g9.trans (by
    refine XS.iload X9.here hexec rfl (hb hbytes d3) rfl ?_
    refine XS.iload X9.here hexec rfl (hb hbytes d5) rfl ?_
    refine XS.icmpYes X9.here hexec rfl (pc0 := 7) rfl (hb hbytes d7) rfl (ii_ge_t (nlt32 (by omega) (Nat.le_refl _))) (by decide) rfl ?_
    refine XS.iload X9.here hexec rfl (hb hbytes d44) rfl ?_
    exact Steps.refl _)
  exact ⟨T9, some (.int (Int32.ofNat len)), _, _, _, X9, by simp, rfl, rfl, (fun h => by cases h), ⟨rfl, B9, p9.from hh0, f9⟩, fun fs hl => c11.trans (X9.ireturnOut hexec hret rfl (Or.inl rfl) (hb hbytes d46) hl)⟩
end Cmp5
namespace Cmp3
def yN : MethodName := ⟨"java/lang/StringUTF16", "compress", "([CII)[B"⟩
abbrev yB : ByteArray := jdk_52_method_16_code
theorem d0 : decode yB 0 = .ok (.iload_n 2, 1) := by decide +kernel
theorem d1 : decode yB 1 = .ok (.newarray .byte, 2) := by decide +kernel
theorem d3 : decode yB 3 = .ok (.astore_n 3, 1) := by decide +kernel
theorem d4 : decode yB 4 = .ok (.aload_n 0, 1) := by decide +kernel
theorem d5 : decode yB 5 = .ok (.iload_n 1, 1) := by decide +kernel
theorem d6 : decode yB 6 = .ok (.aload_n 3, 1) := by decide +kernel
theorem d7 : decode yB 7 = .ok (.iconst 0, 1) := by decide +kernel
theorem d8 : decode yB 8 = .ok (.iload_n 2, 1) := by decide +kernel
theorem d9 : decode yB 9 = .ok (.invokestatic 115, 3) := by decide +kernel
theorem d12 : decode yB 12 = .ok (.istore 4, 2) := by decide +kernel
theorem d14 : decode yB 14 = .ok (.iload 4, 2) := by decide +kernel
theorem d16 : decode yB 16 = .ok (.iload_n 2, 1) := by decide +kernel
theorem d17 : decode yB 17 = .ok (.if_icmp (.eq) 40, 3) := by decide +kernel
theorem d57 : decode yB 57 = .ok (.aload_n 3, 1) := by decide +kernel
theorem d58 : decode yB 58 = .ok (.areturn, 1) := by decide +kernel
def site : List Cond := [.arrayClass .byte, Cmp5.tab] ++ staticW U16 115 Cmp5.yN
def tab : Cond := tabOf yN yB 6 (some (.array .byte)) site
def P (b : Addr) (A : Cell) (o len : Nat) (args : Array Value) (s : State) : Prop := args = #[.ref b, .int (Int32.ofNat o), .int (Int32.ofNat len)] ∧ Ch b A s ∧ o + len ≤ A.slots.size ∧ len ≤ 536870912 ∧ ∀ i, i < len → ¬ 255 < cv A (o + i)
def E (b : Addr) (A : Cell) (o len : Nat) (r : Option Value) (s u : State) : Prop := NewArr .byte "[B" len (fun j => .int (lo8 (cv A (o + j)))) r s u ∧ u.heap.size = s.heap.size + 1
/-- no char of the range above 255: a new byte[] of their low bytes -/
theorem law (l : Launch) (b : Addr) (A : Cell) (o len : Nat) : Law l yN 3 3 1 18 yB 6 (some (.array .byte)) site (P b A o len) (E b A o len) [] 1 len := by
  refine Law.of_walk (plainFor_of_name (by decide +kernel)) (by decide +kernel) (by decide +kernel) (by decide) (fun _ _ h => by rw [h.1]; rfl) (fun _ U U' hal hh h => ⟨h.1, h.2.1.mv hal hh, h.2.2⟩) (fun r U U' V V' h1 hal h2 h => ⟨NewArr.mv r U U' V V' h1 hal h2 h.1, by rw [h1, h2]; exact h.2⟩) ?_
  intro p e s m args below meth c s₁ X0 hexec hbytes hml hret hlk hnm hown hh0 W hP
  obtain ⟨rfl, hA, l1, l2, hp⟩ := hP
  have a31 := hA.1.2.2.2
  have c1 : Steps p.tables e below (s₁.setTop (entryFrame m #[.ref b, .int (Int32.ofNat o), .int (Int32.ofNat len)] 6)) (s₁.setTop (mkF m 0 #[.val (.ref b), .val (.int (Int32.ofNat o)), .val (.int (Int32.ofNat len)), .unset, .unset, .unset] [])) := entry rfl
  have c2 : Steps p.tables e below (s₁.setTop (entryFrame m #[.ref b, .int (Int32.ofNat o), .int (Int32.ofNat len)] 6)) (s₁.setTop (mkF m 1 #[.val (.ref b), .val (.int (Int32.ofNat o)), .val (.int (Int32.ofNat len)), .unset, .unset, .unset] [.int (Int32.ofNat len)])) := c1.trans (by
    refine XS.iloadN X0.here hexec rfl (hb hbytes d0) rfl ?_
    exact Steps.refl _)
  obtain ⟨T3, B3, X3, ba3, bs3, bv3, bh3, bf3, st3⟩ := X0.anew hexec (atype := .byte) (wk W (.arrayClass .byte)) rfl (by show len * 1 ≤ _; omega) (by omega) (g := (mkF m 1 #[.val (.ref b), .val (.int (Int32.ofNat o)), .val (.int (Int32.ofNat len)), .unset, .unset, .unset] [.int (Int32.ofNat len)])) rfl (hb hbytes d1) (rest := []) rfl (Nat.le_refl _) (by show 0 + len ≤ len; omega)
  rw [hh0] at ba3 st3
  have kp3 : XT.Kept s T3 := (XT.Kept.of_eq hh0).push bh3
  have hA3 := hA.keep X3.warmed.alike (kp3 _ _ hA.1.1)
  have hne : b ≠ s.heap.size := hA.1.ne
  have c4 : Steps p.tables e below (s₁.setTop (entryFrame m #[.ref b, .int (Int32.ofNat o), .int (Int32.ofNat len)] 6)) (T3.setTop (mkF m 3 #[.val (.ref b), .val (.int (Int32.ofNat o)), .val (.int (Int32.ofNat len)), .unset, .unset, .unset] [.ref s.heap.size])) := c2.trans (st3 _ (Steps.refl _))
  have c5 : Steps p.tables e below (s₁.setTop (entryFrame m #[.ref b, .int (Int32.ofNat o), .int (Int32.ofNat len)] 6)) (T3.setTop (mkF m 9 #[.val (.ref b), .val (.int (Int32.ofNat o)), .val (.int (Int32.ofNat len)), .val (.ref s.heap.size), .unset, .unset] [.int (Int32.ofNat len), .int 0, .ref s.heap.size, .int (Int32.ofNat o), .ref b])) := c4.trans (by
    refine XS.astoreN X3.here hexec rfl (hb hbytes d3) rfl rfl rfl ?_
    refine XS.aloadN X3.here hexec rfl (hb hbytes d4) rfl rfl ?_
    refine XS.iloadN X3.here hexec rfl (hb hbytes d5) rfl ?_
    refine XS.aloadN X3.here hexec rfl (hb hbytes d6) rfl rfl ?_
    refine iconstV X3.here hexec rfl 0 (hb hbytes d7) (by decide) ?_
    refine XS.iloadN X3.here hexec rfl (hb hbytes d8) rfl ?_
    exact Steps.refl _)
  obtain ⟨v6, T6, X6, E6, g6⟩ := X3.callS hexec (Cmp5.law l b A s.heap.size B3 o 0 len) hown (wks W (staticW U16 115 Cmp5.yN)) (wk W Cmp5.tab) (W := 0) (Nat.le_of_ble_eq_true rfl) (Nat.le_of_ble_eq_true rfl) (Nat.le_refl _) (by show 0 + len + 0 ≤ len; omega) (g := (mkF m 9 #[.val (.ref b), .val (.int (Int32.ofNat o)), .val (.int (Int32.ofNat len)), .val (.ref s.heap.size), .unset, .unset] [.int (Int32.ofNat len), .int (Int32.ofNat 0), .ref s.heap.size, .int (Int32.ofNat o), .ref b])) rfl (by rw [hml]; rfl) c5 (argsL := [.ref b, .int (Int32.ofNat o), .ref s.heap.size, .int (Int32.ofNat 0), .int (Int32.ofNat len)]) (rest := []) rfl rfl (by show 2 * 0 + 0 ≤ _; decide) (hb hbytes d9) (⟨rfl, hA3, ba3, hne, l1, by rw [bs3]; simp, hp⟩)
  obtain ⟨rfl, B6, p6, f6⟩ := E6
  have c7 : Steps p.tables e below (s₁.setTop (entryFrame m #[.ref b, .int (Int32.ofNat o), .int (Int32.ofNat len)] 6)) (T6.setTop (mkF m 12 #[.val (.ref b), .val (.int (Int32.ofNat o)), .val (.int (Int32.ofNat len)), .val (.ref s.heap.size), .unset, .unset] [.int (Int32.ofNat len)])) := g6
  have c8 : Steps p.tables e below (s₁.setTop (entryFrame m #[.ref b, .int (Int32.ofNat o), .int (Int32.ofNat len)] 6)) (T6.setTop (mkF m 58 #[.val (.ref b), .val (.int (Int32.ofNat o)), .val (.int (Int32.ofNat len)), .val (.ref s.heap.size), .val (.int (Int32.ofNat len)), .unset] [.ref s.heap.size])) := c7.trans (by
    refine XS.istore X6.here hexec rfl (hb hbytes d12) rfl rfl ?_
    refine XS.iload X6.here hexec rfl (hb hbytes d14) rfl ?_
    refine XS.iloadN X6.here hexec rfl (hb hbytes d16) rfl ?_
    refine XS.icmpYes X6.here hexec rfl (pc0 := 17) rfl (hb hbytes d17) rfl (ii_eq_t rfl) (by decide) rfl ?_
    refine XS.aloadN X6.here hexec rfl (hb hbytes d57) rfl rfl ?_
    exact Steps.refl _)
  have X8 := X6.wide (L' := []) (cells' := 1) (slots' := len) (fun x hx hlt => by
    simp only [List.nil_append, copyLocs, List.mem_map, List.mem_range] at hx
    obtain ⟨i, -, rfl⟩ := hx
    exact absurd hlt (Nat.lt_irrefl _)) (Nat.le_refl _) (by omega)
  exact ⟨T6, some (.ref s.heap.size), _, _, _, X8, rfl, rfl, rfl, (fun h => by cases h), ⟨⟨rfl, B6, ba3.like (X3.warmed.alike.symm.trans X6.warmed.alike) p6.1 f6.1 f6.2.1 f6.2.2.1, f6.2.1.trans bv3, by rw [X6.warmed.alike.findClass, f6.1]; exact bf3, by rw [f6.2.2.1, bs3]; simp, fun j hj => by rw [f6.2.2.2 j, if_pos (by omega)]; rfl, kp3.put p6 (Nat.le_refl _)⟩, by rw [p6.2.2, bh3, hh0]; simp⟩, fun fs hl => c8.trans (X8.areturnOut hexec rfl hret rfl (hb hbytes d58) hl)⟩
end Cmp3
namespace CodL
def yN : MethodName := ⟨"java/lang/StringUTF16", "coderFromArrayLen", "([BI)B"⟩
abbrev yB : ByteArray := jdk_52_method_15_code
theorem d0 : decode yB 0 = .ok (.iload_n 1, 1) := by decide +kernel
theorem d1 : decode yB 1 = .ok (.aload_n 0, 1) := by decide +kernel
theorem d2 : decode yB 2 = .ok (.arraylength, 1) := by decide +kernel
theorem d3 : decode yB 3 = .ok (.isub, 1) := by decide +kernel
theorem d4 : decode yB 4 = .ok (.bipush 31, 2) := by decide +kernel
theorem d6 : decode yB 6 = .ok (.iushr, 1) := by decide +kernel
theorem d7 : decode yB 7 = .ok (.i2b, 1) := by decide +kernel
theorem d8 : decode yB 8 = .ok (.ireturn, 1) := by decide +kernel
def site : List Cond := []
def tab : Cond := tabOf yN yB 2 (some .byte) site
def P (d : Addr) (B : Cell) (args : Array Value) (s : State) : Prop := args = #[.ref d, .int (Int32.ofNat B.slots.size)] ∧ Arr .byte d B s
def E (r : Option Value) (s u : State) : Prop := XT.PureE (some (.int 0)) r s u
/-- an array as long as the number of chars: LATIN1 -/
theorem law (l : Launch) (d : Addr) (B : Cell) : Law l yN 2 2 0 0 yB 2 (some .byte) site (P d B) E [] 0 0 := by
  refine Law.of_walk (plainFor_of_name (by decide +kernel)) (by decide +kernel) (by decide +kernel) (by decide) (fun _ _ h => by rw [h.1]; rfl) (fun _ U U' hal hh h => ⟨h.1, h.2.mv hal hh⟩) (fun r U U' V V' h1 hal h2 h => XT.PureE.mv r U U' V V' h1 hal h2 h) ?_
  intro p e s m args below meth c s₁ X0 hexec hbytes hml hret hlk hnm hown hh0 W hP
  obtain ⟨rfl, hB⟩ := hP
  have hB0 := hB.mv X0.warmed.alike hh0
  have c1 : Steps p.tables e below (s₁.setTop (entryFrame m #[.ref d, .int (Int32.ofNat B.slots.size)] 2)) (s₁.setTop (mkF m 0 #[.val (.ref d), .val (.int (Int32.ofNat B.slots.size))] [])) := entry rfl
  have c2 : Steps p.tables e below (s₁.setTop (entryFrame m #[.ref d, .int (Int32.ofNat B.slots.size)] 2)) (s₁.setTop (mkF m 2 #[.val (.ref d), .val (.int (Int32.ofNat B.slots.size))] [.ref d, .int (Int32.ofNat B.slots.size)])) := c1.trans (by
    refine XS.iloadN X0.here hexec rfl (hb hbytes d0) rfl ?_
    refine XS.aloadN X0.here hexec rfl (hb hbytes d1) rfl rfl ?_
    exact Steps.refl _)
  have c3 : Steps p.tables e below (s₁.setTop (entryFrame m #[.ref d, .int (Int32.ofNat B.slots.size)] 2)) (s₁.setTop (mkF m 8 #[.val (.ref d), .val (.int (Int32.ofNat B.slots.size))] [.int (lo8 (ushr (Int32.ofNat B.slots.size - Int32.ofNat B.slots.size) 31))])) := c2.trans (by
    refine X0.alen hexec hB0 rfl rfl (hb hbytes d2) ?_
    refine XS.isub X0.here hexec rfl (hb hbytes d3) rfl ?_
    refine bipushV X0.here hexec rfl 31 (hb hbytes d4) (by decide) ?_
    refine iushr X0.here hexec rfl (hb hbytes d6) rfl ?_
    refine i2b X0.here hexec rfl (hb hbytes d7) rfl ?_
    exact Steps.refl _)
  have e0 : lo8 (ushr (Int32.ofNat B.slots.size - Int32.ofNat B.slots.size) 31) = 0 := by rw [Int32.sub_self]; decide
  rw [e0] at c3
  exact ⟨s₁, some (.int 0), _, _, _, X0, rfl, rfl, rfl, (fun h => by cases h), ⟨rfl, hh0⟩, fun fs hl => c3.trans (X0.ireturnOut hexec hret rfl (Or.inr (Or.inr (Or.inl rfl))) (hb hbytes d8) hl)⟩
end CodL
/-- the String at a is Latin-1 over a new byte[] (the heap's one new cell): the low bytes of the len chars of A from o on; every cell but a is kept -/
def Got (a : Addr) (D : Cell) (fV fC : Field) (A : Cell) (o len : Nat) (r : Option Value) (s u : State) : Prop := r = none ∧ ∃ D' V : Cell, Blank "java/lang/String" a D' u ∧ Same D D' [fV.slot, fC.slot] ∧ D'.slots[fV.slot]? = some (.ref s.heap.size) ∧ D'.slots[fC.slot]? = some (.int 0) ∧ Arr .byte s.heap.size V u ∧ V.vm = .none ∧ u.vm.findClass "[B" = some V.cls ∧ V.slots.size = len ∧ (∀ j, j < len → V.slots[j]? = some (.int (lo8 (cv A (o + j))))) ∧ (∀ (y : Addr) (c : Cell), y ≠ a → s.heap[y]? = some c → u.heap[y]? = some c) ∧ u.heap.size = s.heap.size + 1
theorem Got.mv {a : Addr} {D A : Cell} {fV fC : Field} {o len : Nat} : ∀ r (U U' V V' : State), U'.heap = U.heap → V.vm.Alike V'.vm → V'.heap = V.heap → Got a D fV fC A o len r U V → Got a D fV fC A o len r U' V' :=
  fun r U U' V V' h1 hal h2 ⟨e0, D', X, a1, a2, a3, a4, a5, a6, a7, a8, a9, a10, a11⟩ => ⟨e0, D', X, a1.mv hal h2, a2, by rw [h1]; exact a3, a4, by rw [h1]; exact a5.mv hal h2, a6, by rw [hal.findClass]; exact a7, a8, a9, by rw [h1, h2]; exact a10, by rw [h1, h2]; exact a11⟩
namespace New4
def yN : MethodName := ⟨"java/lang/String", "<init>", "([CIILjava/lang/Void;)V"⟩
abbrev yB : ByteArray := jdk_42_method_149_code
theorem d0 : decode yB 0 = .ok (.aload_n 0, 1) := by decide +kernel
theorem d1 : decode yB 1 = .ok (.invokespecial 1, 3) := by decide +kernel
theorem d4 : decode yB 4 = .ok (.iload_n 3, 1) := by decide +kernel
theorem d5 : decode yB 5 = .ok (.ifCond (.ne) 22, 3) := by decide +kernel
theorem d27 : decode yB 27 = .ok (.getstatic 38, 3) := by decide +kernel
theorem d30 : decode yB 30 = .ok (.ifCond (.eq) 28, 3) := by decide +kernel
theorem d33 : decode yB 33 = .ok (.aload_n 1, 1) := by decide +kernel
theorem d34 : decode yB 34 = .ok (.iload_n 2, 1) := by decide +kernel
theorem d35 : decode yB 35 = .ok (.iload_n 3, 1) := by decide +kernel
theorem d36 : decode yB 36 = .ok (.invokestatic 177, 3) := by decide +kernel
theorem d39 : decode yB 39 = .ok (.astore 5, 2) := by decide +kernel
theorem d41 : decode yB 41 = .ok (.aload_n 0, 1) := by decide +kernel
theorem d42 : decode yB 42 = .ok (.aload 5, 2) := by decide +kernel
theorem d44 : decode yB 44 = .ok (.iload_n 3, 1) := by decide +kernel
theorem d45 : decode yB 45 = .ok (.invokestatic 47, 3) := by decide +kernel
theorem d48 : decode yB 48 = .ok (.putfield 15, 3) := by decide +kernel
theorem d51 : decode yB 51 = .ok (.aload_n 0, 1) := by decide +kernel
theorem d52 : decode yB 52 = .ok (.aload 5, 2) := by decide +kernel
theorem d54 : decode yB 54 = .ok (.putfield 9, 3) := by decide +kernel
theorem d57 : decode yB 57 = .ok (.return_, 1) := by decide +kernel
def site : List Cond := [.fieldLink "java/lang/String" 38 "java/lang/String" "COMPACT_STRINGS" "Z", Cmp3.tab, CodL.tab, .laysFinal "java/lang/String" "java/lang/String" "value" "[B", .fieldLink "java/lang/String" 9 "java/lang/String" "value" "[B", .laysFinal "java/lang/String" "java/lang/String" "coder" "B", .fieldLink "java/lang/String" 15 "java/lang/String" "coder" "B"] ++ objW "java/lang/String" 1 ++ staticW "java/lang/String" 177 Cmp3.yN ++ staticW "java/lang/String" 47 CodL.yN
def tab : Cond := tabOf yN yB 6 none site
def P (a : Addr) (D : Cell) (fV fC : Field) (b : Addr) (A : Cell) (z : Int32) (o len : Nat) (args : Array Value) (s : State) : Prop := args = #[.ref a, .ref b, .int (Int32.ofNat o), .int (Int32.ofNat len), .null] ∧ Blank "java/lang/String" a D s ∧ Found "java/lang/String" "value" "[B" fV s ∧ Found "java/lang/String" "coder" "B" fC s ∧ Ch b A s ∧ StaticIs s "java/lang/String" "COMPACT_STRINGS" "Z" (.int z) ∧ ¬ z = 0 ∧ 0 < len ∧ o + len ≤ A.slots.size ∧ len ≤ 536870912 ∧ ∀ i, i < len → ¬ 255 < cv A (o + i)
def E (a : Addr) (D : Cell) (fV fC : Field) (A : Cell) (o len : Nat) (r : Option Value) (s u : State) : Prop := Got a D fV fC A o len r s u
/-- len > 0, no char of the range above 255: a Latin-1 String of their low bytes -/
theorem law (l : Launch) (a : Addr) (D : Cell) (fV fC : Field) (b : Addr) (A : Cell) (z : Int32) (o len : Nat) : Law l yN 5 4 2 35 yB 6 none site (P a D fV fC b A z o len) (E a D fV fC A o len) [⟨a, fC.slot⟩, ⟨a, fV.slot⟩] 1 len := by
  refine Law.of_walk (plainFor_of_name (by decide +kernel)) (by decide +kernel) (by decide +kernel) (by decide) (fun _ _ h => by rw [h.1]; rfl) (fun _ U U' hal hh h => ⟨h.1, h.2.1.mv hal hh, h.2.2.1.al hal, h.2.2.2.1.al hal, h.2.2.2.2.1.mv hal hh, h.2.2.2.2.2.1.there hal hh, h.2.2.2.2.2.2⟩) (fun r U U' V V' h1 hal h2 h => Got.mv r U U' V V' h1 hal h2 h) ?_
  intro p e s m args below meth c s₁ X0 hexec hbytes hml hret hlk hnm hown hh0 W hP
  obtain ⟨rfl, hB, f1, f2, hA, s1, hz, l0, l1, l2, hp⟩ := hP
  have a31 := hA.1.2.2.2
  have c1 : Steps p.tables e below (s₁.setTop (entryFrame m #[.ref a, .ref b, .int (Int32.ofNat o), .int (Int32.ofNat len), .null] 6)) (s₁.setTop (mkF m 0 #[.val (.ref a), .val (.ref b), .val (.int (Int32.ofNat o)), .val (.int (Int32.ofNat len)), .val .null, .unset] [])) := entry rfl
  have c2 : Steps p.tables e below (s₁.setTop (entryFrame m #[.ref a, .ref b, .int (Int32.ofNat o), .int (Int32.ofNat len), .null] 6)) (s₁.setTop (mkF m 1 #[.val (.ref a), .val (.ref b), .val (.int (Int32.ofNat o)), .val (.int (Int32.ofNat len)), .val .null, .unset] [.ref a])) := c1.trans (by
    refine XS.aloadN X0.here hexec rfl (hb hbytes d0) rfl rfl ?_
    exact Steps.refl _)
  obtain ⟨T3, X3, q3, st3⟩ := X0.oinit hexec hown (wks W (objW "java/lang/String" 1)) (g := (mkF m 1 #[.val (.ref a), .val (.ref b), .val (.int (Int32.ofNat o)), .val (.int (Int32.ofNat len)), .val .null, .unset] [.ref a])) rfl (by rw [hml]; rfl) (rest := []) rfl (hb hbytes d1) (W := 0) (by show 2 * 0 + 0 ≤ _; decide) (Nat.le_of_ble_eq_true rfl) (Nat.le_of_ble_eq_true rfl)
  have hh3 := q3.trans hh0
  have c4 : Steps p.tables e below (s₁.setTop (entryFrame m #[.ref a, .ref b, .int (Int32.ofNat o), .int (Int32.ofNat len), .null] 6)) (T3.setTop (mkF m 27 #[.val (.ref a), .val (.ref b), .val (.int (Int32.ofNat o)), .val (.int (Int32.ofNat len)), .val .null, .unset] [])) := (c2.trans (st3 _ (Steps.refl _))).trans (by
    refine XS.iloadN X3.here hexec rfl (hb hbytes d4) rfl ?_
    refine XS.ifYes X3.here hexec rfl (pc0 := 5) rfl (hb hbytes d5) rfl (i0_ne_t (nz32 (by omega) l0)) (by decide) rfl ?_
    exact Steps.refl _)
  obtain ⟨T5, X5, q5, st5⟩ := X3.sget hexec hown (wk W (.fieldLink "java/lang/String" 38 "java/lang/String" "COMPACT_STRINGS" "Z")) s1 (fun _ _ h => by rw [hh3]; exact h) (g := (mkF m 27 #[.val (.ref a), .val (.ref b), .val (.int (Int32.ofNat o)), .val (.int (Int32.ofNat len)), .val .null, .unset] [])) rfl (hb hbytes d27)
  have hh5 := q5.trans hh3
  have c6 : Steps p.tables e below (s₁.setTop (entryFrame m #[.ref a, .ref b, .int (Int32.ofNat o), .int (Int32.ofNat len), .null] 6)) (T5.setTop (mkF m 30 #[.val (.ref a), .val (.ref b), .val (.int (Int32.ofNat o)), .val (.int (Int32.ofNat len)), .val .null, .unset] [.int z])) := c4.trans (st5 _ (Steps.refl _))
  have c7 : Steps p.tables e below (s₁.setTop (entryFrame m #[.ref a, .ref b, .int (Int32.ofNat o), .int (Int32.ofNat len), .null] 6)) (T5.setTop (mkF m 36 #[.val (.ref a), .val (.ref b), .val (.int (Int32.ofNat o)), .val (.int (Int32.ofNat len)), .val .null, .unset] [.int (Int32.ofNat len), .int (Int32.ofNat o), .ref b])) := c6.trans (by
    refine XS.ifNo X5.here hexec rfl (hb hbytes d30) rfl (i0_eq_f hz) ?_
    refine XS.aloadN X5.here hexec rfl (hb hbytes d33) rfl rfl ?_
    refine XS.iloadN X5.here hexec rfl (hb hbytes d34) rfl ?_
    refine XS.iloadN X5.here hexec rfl (hb hbytes d35) rfl ?_
    exact Steps.refl _)
  obtain ⟨v8, T8, X8, E8, g8⟩ := X5.callS hexec (Cmp3.law l b A o len) hown (wks W (staticW "java/lang/String" 177 Cmp3.yN)) (wk W Cmp3.tab) (W := 0) (Nat.le_of_ble_eq_true rfl) (Nat.le_of_ble_eq_true rfl) (Nat.le_refl _) (by show 0 + len ≤ len; omega) (g := (mkF m 36 #[.val (.ref a), .val (.ref b), .val (.int (Int32.ofNat o)), .val (.int (Int32.ofNat len)), .val .null, .unset] [.int (Int32.ofNat len), .int (Int32.ofNat o), .ref b])) rfl (by rw [hml]; rfl) c7 (argsL := [.ref b, .int (Int32.ofNat o), .int (Int32.ofNat len)]) (rest := []) rfl rfl (by show 2 * 0 + 0 ≤ _; decide) (hb hbytes d36) (⟨rfl, hA.mv X5.warmed.alike hh5, l1, l2, hp⟩)
  obtain ⟨e8, z8⟩ := E8
  obtain ⟨rfl, N, n1, n2, n3, n4, n5, n6⟩ := NewArr.mv _ T5 s _ _ hh5.symm (Vm.Alike.refl _) rfl e8
  rw [hh5] at z8
  have hB1 := hB.keep X8.warmed.alike (n6 _ _ hB.1)
  have hne : s.heap.size ≠ a := (Nat.ne_of_lt (Array.getElem?_eq_some_iff.mp hB.1).1).symm
  have c9 : Steps p.tables e below (s₁.setTop (entryFrame m #[.ref a, .ref b, .int (Int32.ofNat o), .int (Int32.ofNat len), .null] 6)) (T8.setTop (mkF m 39 #[.val (.ref a), .val (.ref b), .val (.int (Int32.ofNat o)), .val (.int (Int32.ofNat len)), .val .null, .unset] [.ref s.heap.size])) := g8
  have c10 : Steps p.tables e below (s₁.setTop (entryFrame m #[.ref a, .ref b, .int (Int32.ofNat o), .int (Int32.ofNat len), .null] 6)) (T8.setTop (mkF m 45 #[.val (.ref a), .val (.ref b), .val (.int (Int32.ofNat o)), .val (.int (Int32.ofNat len)), .val .null, .val (.ref s.heap.size)] [.int (Int32.ofNat N.slots.size), .ref s.heap.size, .ref a])) := by
    have hc : Steps p.tables e below (s₁.setTop (entryFrame m #[.ref a, .ref b, .int (Int32.ofNat o), .int (Int32.ofNat len), .null] 6)) (T8.setTop (mkF m 45 #[.val (.ref a), .val (.ref b), .val (.int (Int32.ofNat o)), .val (.int (Int32.ofNat len)), .val .null, .val (.ref s.heap.size)] [.int (Int32.ofNat len), .ref s.heap.size, .ref a])) := c9.trans (by
      refine XS.astore X8.here hexec rfl (hb hbytes d39) rfl rfl rfl ?_
      refine XS.aloadN X8.here hexec rfl (hb hbytes d41) rfl rfl ?_
      refine XS.aload X8.here hexec rfl (hb hbytes d42) rfl rfl ?_
      refine XS.iloadN X8.here hexec rfl (hb hbytes d44) rfl ?_
      exact Steps.refl _)
    rw [n4]; exact hc
  obtain ⟨v11, T11, X11, E11, g11⟩ := X8.callS hexec (CodL.law l s.heap.size N) hown (wks W (staticW "java/lang/String" 47 CodL.yN)) (wk W CodL.tab) (W := 1) (Nat.le_of_ble_eq_true rfl) (Nat.le_of_ble_eq_true rfl) (Nat.le_refl _) (by show 0 + len + 0 ≤ len; omega) (g := (mkF m 45 #[.val (.ref a), .val (.ref b), .val (.int (Int32.ofNat o)), .val (.int (Int32.ofNat len)), .val .null, .val (.ref s.heap.size)] [.int (Int32.ofNat N.slots.size), .ref s.heap.size, .ref a])) rfl (by rw [hml]; rfl) c10 (argsL := [.ref s.heap.size, .int (Int32.ofNat N.slots.size)]) (rest := [.ref a]) rfl rfl (by show 2 * 0 + (1 + 0) ≤ _; decide) (hb hbytes d45) (⟨rfl, n1⟩)
  obtain ⟨rfl, q11⟩ := E11
  have hB11 := hB1.mv (X8.warmed.alike.symm.trans X11.warmed.alike) q11
  have c12 : Steps p.tables e below (s₁.setTop (entryFrame m #[.ref a, .ref b, .int (Int32.ofNat o), .int (Int32.ofNat len), .null] 6)) (T11.setTop (mkF m 48 #[.val (.ref a), .val (.ref b), .val (.int (Int32.ofNat o)), .val (.int (Int32.ofNat len)), .val .null, .val (.ref s.heap.size)] [.int 0, .ref a])) := g11
  obtain ⟨T13, X13, p13, bl13, sl13, st13⟩ := X11.finit hexec hown (wk W (.fieldLink "java/lang/String" 15 "java/lang/String" "coder" "B")) (Or.inr ⟨_, (wk W (.laysFinal "java/lang/String" "java/lang/String" "coder" "B"))⟩) (Or.inl ⟨rfl, hnm⟩) f2 (Or.inl rfl) hB11 (t := .byte) (by decide +kernel) rfl (g := (mkF m 48 #[.val (.ref a), .val (.ref b), .val (.int (Int32.ofNat o)), .val (.int (Int32.ofNat len)), .val .null, .val (.ref s.heap.size)] [.int 0, .ref a])) rfl (rest := []) rfl (hb hbytes d48)
  have c14 : Steps p.tables e below (s₁.setTop (entryFrame m #[.ref a, .ref b, .int (Int32.ofNat o), .int (Int32.ofNat len), .null] 6)) (T13.setTop (mkF m 54 #[.val (.ref a), .val (.ref b), .val (.int (Int32.ofNat o)), .val (.int (Int32.ofNat len)), .val .null, .val (.ref s.heap.size)] [.ref s.heap.size, .ref a])) := (c12.trans (st13 _ (Steps.refl _))).trans (by
    refine XS.aloadN X13.here hexec rfl (hb hbytes d51) rfl rfl ?_
    refine XS.aload X13.here hexec rfl (hb hbytes d52) rfl rfl ?_
    exact Steps.refl _)
  obtain ⟨T15, X15, p15, bl15, sl15, st15⟩ := X13.finit hexec hown (wk W (.fieldLink "java/lang/String" 9 "java/lang/String" "value" "[B")) (Or.inr ⟨_, (wk W (.laysFinal "java/lang/String" "java/lang/String" "value" "[B"))⟩) (Or.inl ⟨rfl, hnm⟩) f1 (Or.inl rfl) bl13 (t := (.array .byte)) (by decide +kernel) rfl (g := (mkF m 54 #[.val (.ref a), .val (.ref b), .val (.int (Int32.ofNat o)), .val (.int (Int32.ofNat len)), .val .null, .val (.ref s.heap.size)] [.ref s.heap.size, .ref a])) rfl (rest := []) rfl (hb hbytes d54)
  have c16 : Steps p.tables e below (s₁.setTop (entryFrame m #[.ref a, .ref b, .int (Int32.ofNat o), .int (Int32.ofNat len), .null] 6)) (T15.setTop (mkF m 57 #[.val (.ref a), .val (.ref b), .val (.int (Int32.ofNat o)), .val (.int (Int32.ofNat len)), .val .null, .val (.ref s.heap.size)] [])) := c14.trans (st15 _ (Steps.refl _))
  have ap := apart (Or.inr ⟨_, (wk W (.laysFinal "java/lang/String" "java/lang/String" "value" "[B"))⟩) (Or.inr ⟨_, (wk W (.laysFinal "java/lang/String" "java/lang/String" "coder" "B"))⟩) f1 f2 (t₁ := .array .byte) (t₂ := .byte) (by decide +kernel) (by decide +kernel) (by decide)
  have al := X8.warmed.alike.symm.trans X15.warmed.alike
  have n7 : T11.heap[s.heap.size]? = some N := by rw [q11]; exact n1.1
  exact ⟨T15, none, _, _, _, X15, by simp, rfl, by omega, (fun _ => rfl), ⟨rfl, _, N, bl15, ((Same.refl D _).set _ (by simp)).set _ (by simp), sl15, (Cell.slots_setSlot_ne _ ap).trans sl13, n1.keep al (p15.other hne (p13.other hne n7)), n2, by rw [al.findClass]; exact n3, n4, n5, fun y c h1 h2 => p15.other h1 (p13.other h1 (by rw [q11]; exact n6 y c h2)), by rw [p15.2.2, p13.2.2, q11]; exact z8⟩, fun fs hl => c16.trans (X15.returnOut hexec hret (hb hbytes d57) hl)⟩
end New4
namespace New1
def yN : MethodName := ⟨"java/lang/String", "<init>", "([C)V"⟩
abbrev yB : ByteArray := jdk_42_method_3_code
theorem d0 : decode yB 0 = .ok (.aload_n 0, 1) := by decide +kernel
theorem d1 : decode yB 1 = .ok (.aload_n 1, 1) := by decide +kernel
theorem d2 : decode yB 2 = .ok (.iconst 0, 1) := by decide +kernel
theorem d3 : decode yB 3 = .ok (.aload_n 1, 1) := by decide +kernel
theorem d4 : decode yB 4 = .ok (.arraylength, 1) := by decide +kernel
theorem d5 : decode yB 5 = .ok (.aconst_null, 1) := by decide +kernel
theorem d6 : decode yB 6 = .ok (.invokespecial 27, 3) := by decide +kernel
theorem d9 : decode yB 9 = .ok (.return_, 1) := by decide +kernel
def site : List Cond := [New4.tab] ++ initW "java/lang/String" 27 New4.yN
def tab : Cond := tabOf yN yB 2 none site
def P (a : Addr) (D : Cell) (fV fC : Field) (b : Addr) (A : Cell) (z : Int32) (args : Array Value) (s : State) : Prop := args = #[.ref a, .ref b] ∧ Blank "java/lang/String" a D s ∧ Found "java/lang/String" "value" "[B" fV s ∧ Found "java/lang/String" "coder" "B" fC s ∧ Ch b A s ∧ StaticIs s "java/lang/String" "COMPACT_STRINGS" "Z" (.int z) ∧ ¬ z = 0 ∧ 0 < A.slots.size ∧ A.slots.size ≤ 536870912 ∧ ∀ i, i < A.slots.size → ¬ 255 < cv A i
def E (a : Addr) (D : Cell) (fV fC : Field) (A : Cell) (r : Option Value) (s u : State) : Prop := Got a D fV fC A 0 A.slots.size r s u
/-- new String(chars), not empty, no char above 255: a Latin-1 String of their low bytes -/
theorem law (l : Launch) (a : Addr) (D : Cell) (fV fC : Field) (b : Addr) (A : Cell) (z : Int32) : Law l yN 2 1 3 52 yB 2 none site (P a D fV fC b A z) (E a D fV fC A) [⟨a, fC.slot⟩, ⟨a, fV.slot⟩] 1 A.slots.size := by
  refine Law.of_walk (plainFor_of_name (by decide +kernel)) (by decide +kernel) (by decide +kernel) (by decide) (fun _ _ h => by rw [h.1]; rfl) (fun _ U U' hal hh h => ⟨h.1, h.2.1.mv hal hh, h.2.2.1.al hal, h.2.2.2.1.al hal, h.2.2.2.2.1.mv hal hh, h.2.2.2.2.2.1.there hal hh, h.2.2.2.2.2.2⟩) (fun r U U' V V' h1 hal h2 h => Got.mv r U U' V V' h1 hal h2 h) ?_
  intro p e s m args below meth c s₁ X0 hexec hbytes hml hret hlk hnm hown hh0 W hP
  obtain ⟨rfl, hB, f1, f2, hA, s1, hz, l0, l2, hp⟩ := hP
  have c1 : Steps p.tables e below (s₁.setTop (entryFrame m #[.ref a, .ref b] 2)) (s₁.setTop (mkF m 0 #[.val (.ref a), .val (.ref b)] [])) := entry rfl
  have c2 : Steps p.tables e below (s₁.setTop (entryFrame m #[.ref a, .ref b] 2)) (s₁.setTop (mkF m 6 #[.val (.ref a), .val (.ref b)] [.null, .int (Int32.ofNat A.slots.size), .int 0, .ref b, .ref a])) := c1.trans (by
    refine XS.aloadN X0.here hexec rfl (hb hbytes d0) rfl rfl ?_
    refine XS.aloadN X0.here hexec rfl (hb hbytes d1) rfl rfl ?_
    refine iconstV X0.here hexec rfl 0 (hb hbytes d2) (by decide) ?_
    refine XS.aloadN X0.here hexec rfl (hb hbytes d3) rfl rfl ?_
    refine X0.alen hexec (hA.1.mv X0.warmed.alike hh0) rfl rfl (hb hbytes d4) ?_
    refine XS.aconstNull X0.here hexec rfl (hb hbytes d5) ?_
    exact Steps.refl _)
  obtain ⟨v3, T3, X3, E3, g3⟩ := X0.callN hexec (New4.law l a D fV fC b A z 0 A.slots.size) rfl hown (wks W (initW "java/lang/String" 27 New4.yN)) (W New4.tab (by simp only [site, List.mem_cons, List.mem_append, true_or, or_true])) (W := 0) (Nat.le_of_ble_eq_true rfl) (Nat.le_of_ble_eq_true rfl) (Nat.le_refl _) (by show 0 + A.slots.size ≤ A.slots.size; omega) (g := (mkF m 6 #[.val (.ref a), .val (.ref b)] [.null, .int (Int32.ofNat A.slots.size), .int (Int32.ofNat 0), .ref b, .ref a])) rfl (by rw [hml]; rfl) c2 (argsL := [.ref b, .int (Int32.ofNat 0), .int (Int32.ofNat A.slots.size), .null]) (rest := []) rfl rfl (by show 2 * 0 + 0 ≤ _; decide) (hb hbytes d6) (⟨rfl, hB.mv X0.warmed.alike hh0, f1.al X0.warmed.alike, f2.al X0.warmed.alike, hA.mv X0.warmed.alike hh0, s1.there X0.warmed.alike hh0, hz, l0, by omega, l2, fun i hi => by rw [Nat.zero_add]; exact hp i hi⟩)
  have e0 := Got.mv _ s₁ s _ _ hh0.symm (Vm.Alike.refl _) rfl E3
  obtain rfl := e0.1
  have c4 : Steps p.tables e below (s₁.setTop (entryFrame m #[.ref a, .ref b] 2)) (T3.setTop (mkF m 9 #[.val (.ref a), .val (.ref b)] [])) := g3
  exact ⟨T3, none, _, _, _, X3, by simp, rfl, by omega, (fun _ => rfl), e0, fun fs hl => c4.trans (X3.returnOut hexec hret (hb hbytes d9) hl)⟩
theorem pays {l : Launch} {R : Room} {p : Program} {e : Env} {below : List Frame} {s : State} {sargs : Array Value} {len W : Nat} (a : Addr) (D : Cell) (fV fC : Field) (b : Addr) (A : Cell) (z : Int32) (htab : tab.before sargs s = true) (hfr : 4 ≤ R.frames) (hlo : W + 65 ≤ R.locals) :
    Back l R p e below s sargs yN len W (fun A₁ a₁ => A₁.cells + 1 ≤ R.cells ∧ A₁.slots + A.slots.size ≤ R.slots ∧ P a D fV fC b A z a₁ A₁.U) (fun A₁ _ v₁ B₁ => E a D fV fC A v₁ A₁.U B₁.U ∧ B₁.locs = A₁.locs ++ [⟨a, fC.slot⟩, ⟨a, fV.slot⟩] ∧ B₁.cells = A₁.cells + 1 ∧ B₁.slots = A₁.slots + A.slots.size) :=
  (law l a D fV fC b A z).pays htab hfr (by omega)
end New1
/-- the byte, read back as charAt reads it, is the char -/
theorem lo8_mask {x : Int32} (h0 : ¬ x < 0) (h1 : ¬ 255 < x) : lo8 x &&& 255 = x := by
  have t : ∀ k : Fin 256, lo8 (Int32.ofNat k.val) &&& 255 = Int32.ofNat k.val := by decide +kernel
  rw [Int32.lt_iff_toInt_lt] at h0 h1
  have e0 : (0 : Int32).toInt = 0 := rfl
  have e1 : (255 : Int32).toInt = 255 := rfl
  obtain ⟨k, hk⟩ : ∃ k : Nat, x.toInt = k := ⟨x.toInt.toNat, by omega⟩
  have hx : x = Int32.ofNat k := Int32.toInt_inj.mp (by rw [hk, Int32.toInt_ofNat_small (by omega)])
  rw [hx]
  exact t ⟨k, by omega⟩
end StrChars
namespace StrChars.Road
open Jvm Sem ClassFile Op Lib Jvm.Stand Jvm.Free Jvm.Free.XT
open Jvm.Lib.Cold (StaticIs)
abbrev ST : String := "java/lang/String"
/-- every table word that New1's law asks, flat -/
abbrev words : List Jvm.Cond := [.code New1.yN New1.yB 2 none, .initialized ST, .methodLink ST 27 New4.yN, .instanceMethod New4.yN,
  .code New4.yN New4.yB 6 none, .fieldLink ST 38 ST "COMPACT_STRINGS" "Z", .laysFinal ST ST "value" "[B", .fieldLink ST 9 ST "value" "[B", .laysFinal ST ST "coder" "B", .fieldLink ST 15 ST "coder" "B",
  .methodLink ST 1 Lib.objectInit, .instanceMethod Lib.objectInit, .code Lib.objectInit ⟨#[0xb1]⟩ 1 none, .methodLink ST 177 Cmp3.yN, .static Cmp3.yN, .methodLink ST 47 CodL.yN, .static CodL.yN,
  .code Cmp3.yN Cmp3.yB 6 (some (.array .byte)), .initialized U16, .arrayClass .byte, .methodLink U16 115 Cmp5.yN, .static Cmp5.yN, .code Cmp5.yN Cmp5.yB 7 (some .int), .code CodL.yN CodL.yB 2 (some .byte)]
theorem tab_of {a : Array Value} {s : State} (h : ∀ w ∈ words, w.before a s = true) : New1.tab.before a s = true := by
  have h5 : Cmp5.tab.before a s = true := unparts (wk h (.code Cmp5.yN Cmp5.yB 7 (some .int))) (wks h (.initialized Cmp5.yN.cls :: Cmp5.site))
  have hc : CodL.tab.before a s = true := unparts (wk h (.code CodL.yN CodL.yB 2 (some .byte))) (wks h (.initialized CodL.yN.cls :: CodL.site))
  have q5 : ∀ w ∈ Cmp5.tab :: words, w.before a s = true := fun w hw => (List.mem_cons.mp hw).elim (fun e => e ▸ h5) (h w)
  have h3 : Cmp3.tab.before a s = true := unparts (wk q5 (.code Cmp3.yN Cmp3.yB 6 (some (.array .byte)))) (wks q5 (.initialized Cmp3.yN.cls :: Cmp3.site))
  have q3 : ∀ w ∈ Cmp3.tab :: CodL.tab :: words, w.before a s = true := fun w hw => (List.mem_cons.mp hw).elim (fun e => e ▸ h3) fun hw => (List.mem_cons.mp hw).elim (fun e => e ▸ hc) (h w)
  have h4 : New4.tab.before a s = true := unparts (wk q3 (.code New4.yN New4.yB 6 none)) (wks q3 (.initialized New4.yN.cls :: New4.site))
  have q4 : ∀ w ∈ New4.tab :: words, w.before a s = true := fun w hw => (List.mem_cons.mp hw).elim (fun e => e ▸ h4) (h w)
  exact unparts (wk q4 (.code New1.yN New1.yB 2 none)) (wks q4 (.initialized New1.yN.cls :: New1.site))
/-- the words ride from the start Z to the walk's own state -/
theorem moved {Z s : State} {a0 args : Array Value} (hZ : Z.Warmed39 s.vm) (hw : ∀ d ∈ words, d.before a0 Z = true) : ∀ d ∈ words, d.before args s = true := fun d hd => by
  have q := hw d hd
  have t : ∀ d ∈ words, d = .arrayClass .byte ∨ (d.onTables && d.keepsFace) = true := by decide +kernel
  rcases t d hd with rfl | t
  · exact RoadKit.mvA hZ q
  · exact RoadKit.mv hZ q t
/-- WHAT COMES BACK, over the tables of the start Z: h the heap at the call, h' behind it -/
def Q (Z : State) (x : Addr) (A : Cell) (h : Heap) (v : Option Value) (h' : Heap) (L : List Loc) : Prop := v = none ∧ (∀ y ∈ L, y.base = x) ∧ RoadKit.Keep h h' [x] ∧ h'.size = h.size + 1 ∧ RoadKit.Exa Z h' x ST ∧ RoadKit.Fld Z h' x ST "value" "[B" (.ref h.size) ∧ RoadKit.Fld Z h' x ST "coder" "B" (.int 0) ∧
  (∃ V : Cell, RoadKit.Arr Z h' h.size V .byte ∧ V.vm = .none ∧ Z.vm.findClass "[B" = some V.cls ∧ V.slots.size = A.slots.size ∧ ∀ j, j < A.slots.size → V.slots[j]? = some (.int (lo8 (cv A j)))) ∧
  ∀ (O n d : String) (w : Value), RoadKit.Fld Z h x O n d w → RoadKit.slotOf Z O n d ≠ RoadKit.slotOf Z ST "value" "[B" → RoadKit.slotOf Z O n d ≠ RoadKit.slotOf Z ST "coder" "B" → RoadKit.Fld Z h' x O n d w
/-- **new String(chars) AT A CALL, IN THE ROAD'S FORM**: for specialBack behind newO: x the fresh String, b the char[] with the cell A -/
theorem back {p : Program} {l : Launch} {e : Env} {R : Room} {s : State} {args : Array Value} {below : List Frame} {len W : Nat} {Z : State} {a0 : Array Value} {h : Heap} (hZ : Z.Warmed39 s.vm) (hw : ∀ d ∈ words, d.before a0 Z = true) {kI : Nat} (wi : (Jvm.Cond.instantiable ST kI).before a0 Z = true)
    {x b : Addr} {A : Cell} {z : Int32} {v0 c0 : Value} (E : RoadKit.Exa Z h x ST) (V : RoadKit.Fld Z h x ST "value" "[B" v0) (C : RoadKit.Fld Z h x ST "coder" "B" c0) (K : RoadKit.Arr Z h b A .char) (hty : Typed .char A) (S : RoadKit.Sta Z h ST "COMPACT_STRINGS" "Z" (.int z)) (hz : ¬ z = 0)
    (l0 : 0 < A.slots.size) (l2 : A.slots.size ≤ 536870912) (hp : ∀ i, i < A.slots.size → ¬ 255 < cv A i) (hfr : 4 ≤ R.frames) (hlo : W + 65 ≤ R.locals) :
    Back l R p e below s args New1.yN len W (fun P a => a = #[.ref x, .ref b] ∧ P.U.heap = h ∧ P.cells + 1 ≤ R.cells ∧ P.slots + A.slots.size ≤ R.slots)
      (fun P _ v B => ∃ L, Q Z x A h v B.U.heap L ∧ B.locs = P.locs ++ L ∧ B.cells = P.cells + 1 ∧ B.slots = P.slots + A.slots.size) := by
  intro m meth c P g ig mk a X hg hsize hdg hW hn hp'
  obtain ⟨rfl, rfl, r1, r2⟩ := hp'
  have al : Z.vm.Alike P.U.vm := hZ.alike.trans X.warmed.alike
  obtain ⟨D, cfV, kV, iV, fV, hD, gV, stV, knV, obV, asV, slV⟩ := id V
  obtain ⟨D', cfC, kC, iC, fC, hD', gC, stC, -, -, asC, slC⟩ := id C
  cases hD.symm.trans hD'
  obtain ⟨D2, kD, e1, e2, e3, e4, e5⟩ := id E
  cases hD.symm.trans e1
  obtain ⟨c2, k2, i1, i2, i3, -⟩ := Cond.instantiable_spec wi
  cases e2.symm.trans i1
  cases e3.symm.trans i2
  obtain ⟨kU, u1, u2⟩ := al.2.2 _ _ e3
  have hB : Blank ST x D P.U := ⟨hD, ⟨knV, fun q hq => by rw [hq] at obV; cases obV⟩, by rw [al.findClass]; exact e2, kU, u1, by rw [u2]; exact i3, by rw [u2]; exact e5 i3⟩
  have F1 : Found ST "value" "[B" fV P.U := ⟨SBG.found_only al ⟨cfV, kV, iV, gV⟩, stV⟩
  have F2 : Found ST "coder" "B" fC P.U := ⟨SBG.found_only al ⟨cfC, kC, iC, gC⟩, stC⟩
  have hA : Ch b A P.U := ⟨⟨K.1, State.isArrayOf_alike al K.2.1, K.2.2, by omega⟩, hty⟩
  have hS : StaticIs P.U ST "COMPACT_STRINGS" "Z" (.int z) := by
    obtain ⟨cfS, iS, kS, fS, st, cS, t1, t2, t3, t4, t5, t6, t7⟩ := S
    exact StaticIs.there (s := { Z with heap := P.U.heap }) ⟨cfS, iS, kS, fS, st, cS, t1, t2, t3, t4, t5, (fun q => by rw [q] at t6; cases t6), t7⟩ al rfl
  obtain ⟨v, B, X', ⟨⟨hv, E', V', q1, q2, q3, q4, q5, q6, q7, q8, q9, q10, q11⟩, hl, hc, hs⟩, st⟩ := New1.pays x D fV fC b A z (tab_of (moved hZ hw)) hfr hlo m meth c P g ig mk _ X hg hsize hdg hW hn ⟨r1, r2, rfl, hB, F1, F2, hA, hS, hz, l0, l2, hp⟩
  have al' : Z.vm.Alike B.U.vm := hZ.alike.trans X'.warmed.alike
  have hsz : E'.slots.size = D.slots.size := by
    obtain ⟨-, -, -, kB, w1, w2, w3⟩ := q1
    obtain ⟨kB', y1, y2⟩ := al'.2.2 _ _ e3
    rw [q2.2.1] at w1
    cases w1.symm.trans y1
    rw [w3, e5 i3, y2]
  refine ⟨v, B, X', ⟨_, ⟨hv, ?_, ⟨by omega, fun y cy hy hn' => q10 y cy (by simpa using hn') hy, fun y cy hy => ?_⟩, q11, ⟨E', _, q1.1, by rw [q2.2.1]; exact e2, by rw [q2.2.1]; exact e3, by rw [q2.1]; exact obV, fun _ => by rw [hsz]; exact e5 i3⟩,
    ⟨E', cfV, kV, iV, fV, q1.1, gV, stV, by rw [q2.1]; exact knV, by rw [q2.1]; exact obV, by rw [q2.2.1]; exact asV, q3⟩, ⟨E', cfC, kC, iC, fC, q1.1, gC, stC, by rw [q2.1]; exact knV, by rw [q2.1]; exact obV, by rw [q2.2.1]; exact asC, q4⟩,
    ⟨V', ⟨q5.1, State.isArrayOf_alike al'.symm q5.2.1, q5.2.2.1⟩, q6, by rw [← al'.findClass]; exact q7, q8, fun j hj => by have := q9 j hj; rwa [Nat.zero_add] at this⟩, fun O n d w F n1 n2 => ?_⟩, hl, hc, hs⟩, st⟩
  · intro y hy
    simp only [List.mem_cons, List.not_mem_nil, or_false] at hy
    rcases hy with rfl | rfl <;> rfl
  · by_cases q : y = x
    · subst q
      cases hD.symm.trans hy
      exact ⟨E', q1.1, q2.2.1, q2.1, hsz⟩
    · exact ⟨cy, q10 y cy q hy, rfl, rfl, rfl⟩
  · obtain ⟨D3, cf, k, i, f, g1, g2, g3, g4, g5, g6, g7⟩ := F
    cases hD.symm.trans g1
    simp only [RoadKit.slotOf, g2, gV, gC, Option.map_some, Option.getD_some] at n1 n2
    exact ⟨E', cf, k, i, f, q1.1, g2, g3, by rw [q2.1]; exact g4, by rw [q2.1]; exact g5, by rw [q2.2.1]; exact g6, by rw [q2.2.2 f.slot (by simp [n1, n2])]; exact g7⟩
end StrChars.Road
namespace StrChars.Road
open Jvm Sem ClassFile Op Lib Jvm.Stand Jvm.Free Jvm.Free.XT
/-- WHAT COMES BACK, the byte[] as a list of values -/
def QA (Z : State) (x : Addr) (zn : Int32) (cs : List Int32) (h : Heap) (v : Option Value) (h' : Heap) (L : List Loc) : Prop := v = none ∧ (∀ y ∈ L, y.base = x) ∧ RoadKit.Keep h h' [x] ∧ h'.size = h.size + 1 ∧ RoadKit.Exa Z h' x ST ∧ RoadKit.Fld Z h' x ST "value" "[B" (.ref h.size) ∧ RoadKit.Fld Z h' x ST "coder" "B" (.int 0) ∧
  (∃ kb, Z.vm.findClass "[B" = some kb ∧ RoadKit.Arv Z h' h.size kb .byte zn (cs.map fun c => .int (lo8 c)) (.int 0)) ∧
  ∀ (O n d : String) (w : Value), RoadKit.Fld Z h x O n d w → RoadKit.slotOf Z O n d ≠ RoadKit.slotOf Z ST "value" "[B" → RoadKit.slotOf Z O n d ≠ RoadKit.slotOf Z ST "coder" "B" → RoadKit.Fld Z h' x O n d w
/-- **new String(chars) AT A CALL, THE ARRAYS AS LISTS**: the char[] at b holds cs, not empty, no char above 255 -/
theorem backArv {p : Program} {l : Launch} {e : Env} {R : Room} {s : State} {args : Array Value} {below : List Frame} {len W : Nat} {Z : State} {a0 : Array Value} {h : Heap} (hZ : Z.Warmed39 s.vm) (hw : ∀ d ∈ words, d.before a0 Z = true) {kI : Nat} (wi : (Jvm.Cond.instantiable ST kI).before a0 Z = true)
    {x b : Addr} {k : ClassId} {zn z : Int32} {cs : List Int32} {dv v0 c0 : Value} (E : RoadKit.Exa Z h x ST) (V : RoadKit.Fld Z h x ST "value" "[B" v0) (C : RoadKit.Fld Z h x ST "coder" "B" c0) (K : RoadKit.Arv Z h b k .char zn (cs.map Value.int) dv) (S : RoadKit.Sta Z h ST "COMPACT_STRINGS" "Z" (.int z)) (hz : ¬ z = 0)
    (hlen : zn.toNatClampNeg = cs.length) (h0 : 0 < cs.length) (hbig : cs.length ≤ 536870912) (hall : ∀ c ∈ cs, ¬ 255 < c) (hfr : 4 ≤ R.frames) (hlo : W + 65 ≤ R.locals) :
    Back l R p e below s args New1.yN len W (fun P a => a = #[.ref x, .ref b] ∧ P.U.heap = h ∧ P.cells + 1 ≤ R.cells ∧ P.slots + cs.length ≤ R.slots)
      (fun P _ v B => ∃ L, QA Z x zn cs h v B.U.heap L ∧ B.locs = P.locs ++ L ∧ B.cells = P.cells + 1 ∧ B.slots = P.slots + cs.length) := by
  obtain ⟨A, K1, K2, K3, K4, K5, K6⟩ := K
  have e : A.slots.size = cs.length := K3.trans hlen
  have hat : ∀ (i : Nat) (hi : i < cs.length), A.slots[i]? = some (.int cs[i]) := fun i hi => by rw [K5 i (by omega)]; simp [List.getD_eq_getElem?_getD, hi]
  have hcv : ∀ (i : Nat) (hi : i < cs.length), cv A i = cs[i] := fun i hi => by unfold cv; rw [hat i hi]
  have hty : Typed .char A := fun i v hv => by
    have hi : i < A.slots.size := (Array.getElem?_eq_some_iff.mp hv).1
    have q := K5 i hi
    rw [hv] at q
    rw [Option.some.inj q]
    exact K6 i hi
  refine Back.mono (back hZ hw wi E V C K1 hty S hz (by omega) (by omega) (fun i hi => by rw [hcv i (by omega)]; exact hall _ (List.getElem_mem _)) hfr hlo) (fun P a hp => ⟨hp.1, hp.2.1, hp.2.2.1, by rw [e]; exact hp.2.2.2⟩) (fun P a v B hp hq => ?_)
  obtain ⟨L, ⟨q1, q2, q3, q4, q5, q6, q7, ⟨V', v1, v2, v3, v4, v5⟩, q9⟩, hl, hc, hs⟩ := hq
  refine ⟨L, ⟨q1, q2, q3, q4, q5, q6, q7, ⟨V'.cls, v3, V', v1, rfl, by rw [v4, e, hlen], K4, fun i hi => ?_, fun i hi => ?_⟩, q9⟩, hl, hc, by rw [hs, e]⟩
  · have hi' : i < cs.length := by omega
    rw [v5 i (by omega), hcv i hi']; simp [List.getD_eq_getElem?_getD, hi']
  · have hi' : i < cs.length := by omega
    simp only [List.getD_eq_getElem?_getD, List.getElem?_map, List.getElem?_eq_getElem hi', Option.map_some, Option.getD_some]
    exact fits_lo8 _
end StrChars.Road
namespace StrChars.Road
open Jvm Sem ClassFile Op Lib Jvm.Stand Jvm.Free Jvm.Free.XT
/-- WHAT COMES BACK, in the writer's own shape -/
def QV (Z : State) (x : Addr) (N : Int32) (bs : List Int32) (h : Heap) (n0 : Nat) (v : Option Value) (h' : Heap) (L : List Loc) : Prop := v = none ∧ RoadKit.Fr n0 L ∧ RoadKit.Keep h h' [x] ∧ RoadKit.Exa Z h' x ST ∧ RoadKit.Fld Z h' x ST "coder" "B" (.int 0) ∧
  ∃ (t : Addr) (kb : ClassId), n0 ≤ t ∧ h.size ≤ t ∧ ¬ t = x ∧ RoadKit.Fld Z h' x ST "value" "[B" (.ref t) ∧ RoadKit.Arv Z h' t kb .byte N (bs.map Value.int) (.int 0)
/-- **new String(chars) AT A CALL, FOR THE WRITER**: a char[] of n known ints, each 0 to 255 -/
theorem backV {p : Program} {l : Launch} {e : Env} {R : Room} {s : State} {args : Array Value} {below : List Frame} {len W : Nat} {Z : State} {a0 : Array Value} {h : Heap} (hZ : Z.Warmed39 s.vm) (hw : ∀ d ∈ words, d.before a0 Z = true) {kI : Nat} (wi : (Jvm.Cond.instantiable ST kI).before a0 Z = true)
    {x b : Addr} {kC : ClassId} {cs bs : List Int32} {d v0 c0 : Value} {z N : Int32} {n n0 : Nat} (hx0 : n0 ≤ x) (hh0 : n0 ≤ h.size) (E : RoadKit.Exa Z h x ST) (V : RoadKit.Fld Z h x ST "value" "[B" v0) (C : RoadKit.Fld Z h x ST "coder" "B" c0) (K : RoadKit.Arv Z h b kC .char N (cs.map Value.int) d) (S : RoadKit.Sta Z h ST "COMPACT_STRINGS" "Z" (.int z)) (hz : ¬ z = 0)
    (hn : cs.length = n) (hN : N = Int32.ofNat n) (l0 : 0 < n) (l2 : n ≤ 4000) (hp : ∀ c ∈ cs, ¬ c < 0 ∧ ¬ (255 : Int32) < c) (hb : bs = cs.map (fun c => c.toInt8.toInt32)) (hfr : 4 ≤ R.frames) (hlo : W + 65 ≤ R.locals) :
    Back l R p e below s args (⟨"java/lang/String", "<init>", "([C)V"⟩ : MethodName) len W (fun P a => a = #[.ref x, .ref b] ∧ P.U.heap = h ∧ P.cells + 1 ≤ R.cells ∧ P.slots + n ≤ R.slots)
      (fun P _ v B => ∃ L, QV Z x N bs h n0 v B.U.heap L ∧ B.locs = P.locs ++ L ∧ B.cells = P.cells + 1 ∧ B.slots = P.slots + n) := by
  subst hn hN hb
  refine Back.mono (backArv hZ hw wi E V C K S hz (n32 (by omega)) l0 (by omega) (fun c hc => (hp c hc).2) hfr hlo) (fun P a hp => hp) (fun P a v B hp hq => ?_)
  obtain ⟨L, ⟨q1, q2, q3, q4, q5, q6, q7, ⟨kb, v1, v2⟩, q9⟩, hl, hc, hs⟩ := hq
  exact ⟨L, ⟨q1, fun y hy => by rw [q2 y hy]; exact hx0, q3, q5, q7, h.size, kb, hh0, Nat.le_refl _, Nat.ne_of_gt E.lt, q6, by rw [List.map_map]; exact v2⟩, hl, hc, hs⟩
end StrChars.Road
namespace StrChars
open Jvm Sem ClassFile Op Lib Jvm.Stand Jvm.Free.XT Jvm.Free.ALB Jvm.Free.JM Jvm.Free
open Jvm.Lib.Cold (StaticIs)
def hi8 (x : Int32) : Int32 := lo8 (x >>> ((8 : Int32) &&& 31))
/-- what StringUTF16.getChar makes of two bytes -/
def pairCh (u v : Int32) : Int32 := (((u &&& 255) <<< ((0 : Int32) &&& 31)) ||| ((v &&& 255) <<< ((8 : Int32) &&& 31))).toUInt32.toUInt16.toUInt32.toInt32
theorem shr0 (c : Int32) : c >>> ((0 : Int32) &&& 31) = c := by
  have e : ((0 : Int32) &&& 31) = 0 := by decide
  rw [e]
  apply Int32.toBitVec_inj.mp
  rw [Int32.toBitVec_shiftRight]
  have e1 : ((0 : Int32).toBitVec.smod 32) = 0#32 := by decide
  rw [e1, BitVec.sshiftRight_eq']
  exact BitVec.sshiftRight_zero
theorem lo8_and (x : Int32) : (lo8 x &&& 255).toBitVec.toNat = x.toBitVec.toNat % 256 := by
  have h : (lo8 x).toBitVec = (x.toBitVec.signExtend 8).signExtend 32 := by rw [lo8, Int8.toBitVec_toInt32, Int32.toBitVec_toInt8]
  rw [Int32.toBitVec_and, BitVec.toNat_and, h]
  have e : ((x.toBitVec.signExtend 8).signExtend 32).toNat % 256 = x.toBitVec.toNat % 256 := by
    rw [BitVec.toNat_signExtend]
    have hlt := x.toBitVec.isLt
    simp only [BitVec.toNat_setWidth, BitVec.toNat_signExtend]
    split <;> split <;> omega
  rw [← e]
  exact Nat.and_two_pow_sub_one_eq_mod _ 8
theorem pair_says {c : Int32} (h0 : ¬ c < 0) (h1 : ¬ 65535 < c) : pairCh (lo8 c) (hi8 c) = c := by
  rw [Int32.lt_iff_toInt_lt] at h0 h1
  have e0 : (0 : Int32).toInt = 0 := rfl
  have e1 : (65535 : Int32).toInt = 65535 := rfl
  have hc : c.toInt = c.toBitVec.toNat := by
    have := c.toBitVec.isLt
    have e : c.toInt = c.toBitVec.toInt := rfl
    rw [e] at h0 h1
    rw [e]
    rw [BitVec.toInt_eq_toNat_cond] at h0 h1 ⊢
    split at h0 <;> split <;> omega
  have hn : c.toBitVec.toNat < 65536 := by omega
  have a1 := lo8_and c
  have a2 : (hi8 c &&& 255).toBitVec.toNat = c.toBitVec.toNat / 256 := by
    rw [hi8, lo8_and]
    have e : ((8 : Int32) &&& 31) = 8 := by decide
    rw [e, Int32.toBitVec_shiftRight]
    have e2 : ((8 : Int32).toBitVec.smod 32) = 8#32 := by decide
    rw [e2, BitVec.sshiftRight_eq', BitVec.toNat_sshiftRight_of_msb_false (by rw [BitVec.msb_eq_false_iff_two_mul_lt]; omega)]
    show c.toBitVec.toNat >>> 8 % 256 = _
    rw [Nat.shiftRight_eq_div_pow]
    omega
  unfold pairCh
  apply Int32.toBitVec_inj.mp
  apply BitVec.eq_of_toNat_eq
  have f0 : ((0 : Int32) &&& 31) = 0 := by decide
  have f8 : ((8 : Int32) &&& 31) = 8 := by decide
  rw [f0, f8]
  have g : (((lo8 c &&& 255) <<< (0 : Int32)) ||| ((hi8 c &&& 255) <<< (8 : Int32))).toBitVec.toNat = c.toBitVec.toNat := by
    rw [Int32.toBitVec_or, Int32.toBitVec_shiftLeft, Int32.toBitVec_shiftLeft]
    have s0 : ((0 : Int32).toBitVec.smod 32) = 0#32 := by decide
    have s8 : ((8 : Int32).toBitVec.smod 32) = 8#32 := by decide
    rw [s0, s8, BitVec.toNat_or]
    simp only [BitVec.shiftLeft_eq', BitVec.toNat_shiftLeft, a1, a2]
    show (c.toBitVec.toNat % 256) <<< 0 % 2 ^ 32 ||| (c.toBitVec.toNat / 256) <<< 8 % 2 ^ 32 = _
    rw [Nat.shiftLeft_zero, Nat.mod_eq_of_lt (show c.toBitVec.toNat % 256 < 2 ^ 32 by omega), Nat.mod_eq_of_lt (show (c.toBitVec.toNat / 256) <<< 8 < 2 ^ 32 by rw [Nat.shiftLeft_eq]; omega), Nat.or_comm, ← Nat.shiftLeft_add_eq_or_of_lt (by omega), Nat.shiftLeft_eq]
    omega
  show BitVec.toNat (((((lo8 c &&& 255) <<< (0 : Int32)) ||| ((hi8 c &&& 255) <<< (8 : Int32))).toBitVec.setWidth 16).setWidth 32) = _
  rw [BitVec.toNat_setWidth, BitVec.toNat_setWidth, g]
  omega
end StrChars
namespace StrChars
open Jvm Sem ClassFile Op Lib Jvm.Stand Jvm.Free.XT Jvm.Free.ALB Jvm.Free.JM Jvm.Free
open Jvm.Lib.Cold (StaticIs)
theorem shr1 {n : Nat} (h : 2 * n < 2 ^ 31) : Int32.ofNat (2 * n) >>> ((1 : Int32) &&& 31) = Int32.ofNat n := by
  have e : ((1 : Int32) &&& 31) = 1 := by decide
  rw [e]
  apply Int32.toBitVec_inj.mp
  rw [Int32.toBitVec_shiftRight]
  have e1 : ((1 : Int32).toBitVec.smod 32) = 1#32 := by decide
  have hm : (BitVec.ofNat 32 (2 * n)).toNat = 2 * n := by rw [BitVec.toNat_ofNat, Nat.mod_eq_of_lt (by omega)]
  rw [e1, BitVec.sshiftRight_eq']
  apply BitVec.eq_of_toNat_eq
  show ((BitVec.ofNat 32 (2 * n)).sshiftRight 1).toNat = (BitVec.ofNat 32 n).toNat
  rw [BitVec.toNat_sshiftRight_of_msb_false (by rw [BitVec.msb_eq_false_iff_two_mul_lt, hm]; omega), hm, BitVec.toNat_ofNat, Nat.shiftRight_eq_div_pow]
  omega
/-- charAt's cast of a byte read back -/
def chr8 (u : Int32) : Int32 := (u &&& 255).toUInt32.toUInt16.toUInt32.toInt32
theorem chr8_lo8 {c : Int32} (h0 : ¬ c < 0) (h1 : ¬ 255 < c) : chr8 (lo8 c) = c := by
  have t : ∀ k : Fin 256, (Int32.ofNat k.val).toUInt32.toUInt16.toUInt32.toInt32 = Int32.ofNat k.val := by decide +kernel
  unfold chr8
  rw [lo8_mask h0 h1]
  rw [Int32.lt_iff_toInt_lt] at h0 h1
  have e0 : (0 : Int32).toInt = 0 := rfl
  have e1 : (255 : Int32).toInt = 255 := rfl
  obtain ⟨k, hk⟩ : ∃ k : Nat, c.toInt = k := ⟨c.toInt.toNat, by omega⟩
  have hx : c = Int32.ofNat k := Int32.toInt_inj.mp (by rw [hk, Int32.toInt_ofNat_small (by omega)])
  rw [hx]
  exact t ⟨k, by omega⟩
theorem narrow_ch {c : Int32} (h0 : ¬ c < 0) (h1 : ¬ 65535 < c) : narrow .char (.int c) = .int c := by
  have q : narrow .char (.int (pairCh (lo8 c) (hi8 c))) = .int (pairCh (lo8 c) (hi8 c)) := narrow_c _
  rwa [pair_says h0 h1] at q
/-- the array's cell V codes the n chars f 0 .. f (n - 1) by the coder cd, as the JDK does: coder 1 just where some char is above 255 -/
def Cod (cd : Int32) (n : Nat) (f : Nat → Int32) (V : Cell) : Prop := (cd = 0 ∧ V.slots.size = n ∧ ∀ j, j < n → V.slots[j]? = some (.int (lo8 (f j))) ∧ ¬ 255 < f j) ∨ (cd = 1 ∧ V.slots.size = 2 * n ∧ (∀ j, j < n → V.slots[2 * j]? = some (.int (lo8 (f j))) ∧ V.slots[2 * j + 1]? = some (.int (hi8 (f j)))) ∧ ∃ j, j < n ∧ 255 < f j)
theorem Cod.cd {cd : Int32} {n : Nat} {f : Nat → Int32} {V : Cell} (h : Cod cd n f V) : cd = 0 ∨ cd = 1 := h.imp (fun q => q.1) fun q => q.1
theorem Cod.len {cd : Int32} {n : Nat} {f : Nat → Int32} {V : Cell} (h : Cod cd n f V) (hs : V.slots.size < 2 ^ 31) : Int32.ofNat V.slots.size >>> (cd &&& 31) = Int32.ofNat n := by
  rcases h with ⟨rfl, h, -⟩ | ⟨rfl, h, -⟩
  · rw [shr0, h]
  · rw [h, shr1 (by omega)]
/-- **x is a String of the n chars f 0 .. f (n - 1)**, Latin-1 or UTF-16; its array at t has the cell V -/
def Txt (x t : Addr) (V : Cell) (cd : Int32) (n : Nat) (f : Nat → Int32) (U : State) : Prop := Exact "java/lang/String" x U ∧ Has x "java/lang/String" "value" "[B" (.ref t) U ∧ Has x "java/lang/String" "coder" "B" (.int cd) U ∧ XT.Arr .byte t V U ∧ Cod cd n f V ∧ ∀ j, j < n → ¬ f j < 0 ∧ ¬ 65535 < f j
theorem Txt.mv {x t : Addr} {V : Cell} {cd : Int32} {n : Nat} {f : Nat → Int32} {U U' : State} (h : Txt x t V cd n f U) (hal : U.vm.Alike U'.vm) (hh : U'.heap = U.heap) : Txt x t V cd n f U' := ⟨h.1.mv hal hh, h.2.1.mv hal hh, h.2.2.1.mv hal hh, h.2.2.2.1.mv hal hh, h.2.2.2.2⟩
namespace Cdr
def yN : MethodName := ⟨"java/lang/String", "coder", "()B"⟩
abbrev yB : ByteArray := jdk_42_method_152_code
theorem d0 : decode yB 0 = .ok (.getstatic 38, 3) := by decide +kernel
theorem d3 : decode yB 3 = .ok (.ifCond (.eq) 10, 3) := by decide +kernel
theorem d6 : decode yB 6 = .ok (.aload_n 0, 1) := by decide +kernel
theorem d7 : decode yB 7 = .ok (.getfield 15, 3) := by decide +kernel
theorem d10 : decode yB 10 = .ok (.goto 4, 3) := by decide +kernel
theorem d14 : decode yB 14 = .ok (.ireturn, 1) := by decide +kernel
def site : List Cond := [.fieldLink "java/lang/String" 38 "java/lang/String" "COMPACT_STRINGS" "Z", .fieldLink "java/lang/String" 15 "java/lang/String" "coder" "B"]
def tab : Cond := tabOf yN yB 1 (some .byte) site
def P (x : Addr) (cd z : Int32) (args : Array Value) (s : State) : Prop := args = #[.ref x] ∧ Has x "java/lang/String" "coder" "B" (.int cd) s ∧ (cd = 0 ∨ cd = 1) ∧ StaticIs s "java/lang/String" "COMPACT_STRINGS" "Z" (.int z) ∧ ¬ z = 0
def E (cd : Int32) (r : Option Value) (s u : State) : Prop := XT.PureE (some (.int cd)) r s u
theorem law (l : Launch) (x : Addr) (cd z : Int32) : Law l yN 1 0 0 0 yB 1 (some .byte) site (P x cd z) (E cd) [] 0 0 := by
  refine Law.of_walk (plainFor_of_name (by decide +kernel)) (by decide +kernel) (by decide +kernel) (by decide) (fun _ _ h => by rw [h.1]; rfl) (fun _ U U' hal hh h => ⟨h.1, h.2.1.mv hal hh, h.2.2.1, h.2.2.2.1.there hal hh, h.2.2.2.2⟩) (fun r U U' V V' h1 hal h2 h => XT.PureE.mv r U U' V V' h1 hal h2 h) ?_
  intro p e s m args below meth c s₁ X0 hexec hbytes hml hret hlk hnm hown hh0 W hP
  obtain ⟨rfl, hx, hc, s1, hz⟩ := hP
  have c1 : Steps p.tables e below (s₁.setTop (entryFrame m #[.ref x] 1)) (s₁.setTop (mkF m 0 #[.val (.ref x)] [])) := entry rfl
  obtain ⟨T2, X2, q2, st2⟩ := X0.sget hexec hown (wk W (.fieldLink "java/lang/String" 38 "java/lang/String" "COMPACT_STRINGS" "Z")) s1 (fun _ _ h => by rw [hh0]; exact h) (g := (mkF m 0 #[.val (.ref x)] [])) rfl (hb hbytes d0)
  have hh2 := q2.trans hh0
  have c3 : Steps p.tables e below (s₁.setTop (entryFrame m #[.ref x] 1)) (T2.setTop (mkF m 7 #[.val (.ref x)] [.ref x])) := (c1.trans (st2 _ (Steps.refl _))).trans (by
    refine XS.ifNo X2.here hexec rfl (hb hbytes d3) rfl (i0_eq_f hz) ?_
    refine XS.aloadN X2.here hexec rfl (hb hbytes d6) rfl rfl ?_
    exact Steps.refl _)
  obtain ⟨T4, X4, q4, st4⟩ := X2.hget hexec hown (wk W (.fieldLink "java/lang/String" 15 "java/lang/String" "coder" "B")) (hx.mv X2.warmed.alike hh2) (g := (mkF m 7 #[.val (.ref x)] [.ref x])) rfl (rest := []) rfl (hb hbytes d7)
  have c5 : Steps p.tables e below (s₁.setTop (entryFrame m #[.ref x] 1)) (T4.setTop (mkF m 14 #[.val (.ref x)] [.int cd])) := (c3.trans (st4 _ (Steps.refl _))).trans (by
    refine XS.goto X4.here hexec rfl (pc0 := 10) rfl (hb hbytes d10) (by decide) rfl ?_
    exact Steps.refl _)
  exact ⟨T4, some (.int cd), _, _, _, X4, rfl, rfl, rfl, (fun h => by cases h), ⟨rfl, q4.trans hh2⟩, fun fs hl => c5.trans (X4.ireturnOut hexec hret (by rcases hc with rfl | rfl <;> rfl) (Or.inr (Or.inr (Or.inl rfl))) (hb hbytes d14) hl)⟩
end Cdr
namespace Len
def yN : MethodName := ⟨"java/lang/String", "length", "()I"⟩
abbrev yB : ByteArray := jdk_42_method_54_code
theorem d0 : decode yB 0 = .ok (.aload_n 0, 1) := by decide +kernel
theorem d1 : decode yB 1 = .ok (.getfield 9, 3) := by decide +kernel
theorem d4 : decode yB 4 = .ok (.arraylength, 1) := by decide +kernel
theorem d5 : decode yB 5 = .ok (.aload_n 0, 1) := by decide +kernel
theorem d6 : decode yB 6 = .ok (.invokevirtual 335, 3) := by decide +kernel
theorem d9 : decode yB 9 = .ok (.ishr, 1) := by decide +kernel
theorem d10 : decode yB 10 = .ok (.ireturn, 1) := by decide +kernel
def site : List Cond := [.fieldLink "java/lang/String" 9 "java/lang/String" "value" "[B", Cdr.tab] ++ virtW "java/lang/String" 335 "java/lang/String" Cdr.yN Cdr.yN
def tab : Cond := tabOf yN yB 1 (some .int) site
def P (x t : Addr) (V : Cell) (cd : Int32) (n : Nat) (f : Nat → Int32) (z : Int32) (args : Array Value) (s : State) : Prop := args = #[.ref x] ∧ Txt x t V cd n f s ∧ StaticIs s "java/lang/String" "COMPACT_STRINGS" "Z" (.int z) ∧ ¬ z = 0
def E (n : Nat) (r : Option Value) (s u : State) : Prop := XT.PureE (some (.int (Int32.ofNat n))) r s u
/-- length() of a String of n chars, in either coding -/
theorem law (l : Launch) (x t : Addr) (V : Cell) (cd : Int32) (n : Nat) (f : Nat → Int32) (z : Int32) : Law l yN 1 0 1 13 yB 1 (some .int) site (P x t V cd n f z) (E n) [] 0 0 := by
  refine Law.of_walk (plainFor_of_name (by decide +kernel)) (by decide +kernel) (by decide +kernel) (by decide) (fun _ _ h => by rw [h.1]; rfl) (fun _ U U' hal hh h => ⟨h.1, h.2.1.mv hal hh, h.2.2.1.there hal hh, h.2.2.2⟩) (fun r U U' V V' h1 hal h2 h => XT.PureE.mv r U U' V V' h1 hal h2 h) ?_
  intro p e s m args below meth c s₁ X0 hexec hbytes hml hret hlk hnm hown hh0 W hP
  obtain ⟨rfl, hx, s1, hz⟩ := hP
  have v31 := hx.2.2.2.1.2.2.2
  have c1 : Steps p.tables e below (s₁.setTop (entryFrame m #[.ref x] 1)) (s₁.setTop (mkF m 1 #[.val (.ref x)] [.ref x])) := Steps.trans (entry rfl) (by
    show Steps p.tables e below (s₁.setTop (mkF m 0 #[.val (.ref x)] [])) _
    refine XS.aloadN X0.here hexec rfl (hb hbytes d0) rfl rfl ?_
    exact Steps.refl _)
  obtain ⟨T2, X2, q2, st2⟩ := X0.hget hexec hown (wk W (.fieldLink "java/lang/String" 9 "java/lang/String" "value" "[B")) (hx.mv X0.warmed.alike hh0).2.1 (g := (mkF m 1 #[.val (.ref x)] [.ref x])) rfl (rest := []) rfl (hb hbytes d1)
  have hh2 := q2.trans hh0
  have hx2 := hx.mv X2.warmed.alike hh2
  have c3 : Steps p.tables e below (s₁.setTop (entryFrame m #[.ref x] 1)) (T2.setTop (mkF m 6 #[.val (.ref x)] [.ref x, .int (Int32.ofNat V.slots.size)])) := (c1.trans (st2 _ (Steps.refl _))).trans (by
    refine X2.alen hexec hx2.2.2.2.1 rfl rfl (hb hbytes d4) ?_
    refine XS.aloadN X2.here hexec rfl (hb hbytes d5) rfl rfl ?_
    exact Steps.refl _)
  obtain ⟨v4, T4, X4, E4, g4⟩ := X2.callV hexec (Cdr.law l x cd z) hown (wks W (virtW "java/lang/String" 335 "java/lang/String" Cdr.yN Cdr.yN)) rfl (by decide) (wk W Cdr.tab) (W := 1) (Nat.le_of_ble_eq_true rfl) (Nat.le_of_ble_eq_true rfl) (Nat.le_refl _) (Nat.le_refl _) (hx2.1.fc X2.warmed.alike) hx2.1.is (g := (mkF m 6 #[.val (.ref x)] [.ref x, .int (Int32.ofNat V.slots.size)])) rfl (by rw [hml]; rfl) c3 (argsL := []) (rest := [.int (Int32.ofNat V.slots.size)]) rfl rfl (by show 2 * 0 + (1 + 0) ≤ _; decide) (hb hbytes d6) (⟨rfl, hx2.2.2.1, hx.2.2.2.2.1.cd, s1.there X2.warmed.alike hh2, hz⟩)
  obtain ⟨rfl, q4⟩ := E4
  have c5 : Steps p.tables e below (s₁.setTop (entryFrame m #[.ref x] 1)) (T4.setTop (mkF m 10 #[.val (.ref x)] [.int (Int32.ofNat V.slots.size >>> (cd &&& 31))])) := Steps.trans g4 (by
    refine ishr X4.here hexec rfl (hb hbytes d9) rfl ?_
    exact Steps.refl _)
  rw [hx.2.2.2.2.1.len v31] at c5
  exact ⟨T4, some (.int (Int32.ofNat n)), _, _, _, X4, rfl, rfl, rfl, (fun h => by cases h), ⟨rfl, q4.trans hh2⟩, fun fs hl => c5.trans (X4.ireturnOut hexec hret rfl (Or.inl rfl) (hb hbytes d10) hl)⟩
theorem pays {l : Launch} {R : Room} {p : Program} {e : Env} {below : List Frame} {s : State} {sargs : Array Value} {len W : Nat} (x t : Addr) (V : Cell) (cd : Int32) (n : Nat) (f : Nat → Int32) (z : Int32) (htab : tab.before sargs s = true) (hfr : 2 ≤ R.frames) (hlo : W + 25 ≤ R.locals) :
    Back l R p e below s sargs yN len W (fun A₁ a₁ => A₁.cells + 0 ≤ R.cells ∧ A₁.slots + 0 ≤ R.slots ∧ P x t V cd n f z a₁ A₁.U) (fun A₁ _ v₁ B₁ => E n v₁ A₁.U B₁.U ∧ B₁.locs = A₁.locs ++ [] ∧ B₁.cells = A₁.cells + 0 ∧ B₁.slots = A₁.slots + 0) :=
  (law l x t V cd n f z).pays htab hfr (by omega)
end Len
namespace IsL
def yN : MethodName := ⟨"java/lang/String", "isLatin1", "()Z"⟩
abbrev yB : ByteArray := jdk_42_method_154_code
theorem d0 : decode yB 0 = .ok (.getstatic 38, 3) := by decide +kernel
theorem d3 : decode yB 3 = .ok (.ifCond (.eq) 14, 3) := by decide +kernel
theorem d6 : decode yB 6 = .ok (.aload_n 0, 1) := by decide +kernel
theorem d7 : decode yB 7 = .ok (.getfield 15, 3) := by decide +kernel
theorem d10 : decode yB 10 = .ok (.ifCond (.ne) 7, 3) := by decide +kernel
theorem d13 : decode yB 13 = .ok (.iconst 1, 1) := by decide +kernel
theorem d14 : decode yB 14 = .ok (.goto 4, 3) := by decide +kernel
theorem d17 : decode yB 17 = .ok (.iconst 0, 1) := by decide +kernel
theorem d18 : decode yB 18 = .ok (.ireturn, 1) := by decide +kernel
def site : List Cond := [.fieldLink "java/lang/String" 38 "java/lang/String" "COMPACT_STRINGS" "Z", .fieldLink "java/lang/String" 15 "java/lang/String" "coder" "B"]
def tab : Cond := tabOf yN yB 1 (some .boolean) site
def P (x : Addr) (cd z : Int32) (args : Array Value) (s : State) : Prop := args = #[.ref x] ∧ Has x "java/lang/String" "coder" "B" (.int cd) s ∧ (cd = 0 ∨ cd = 1) ∧ StaticIs s "java/lang/String" "COMPACT_STRINGS" "Z" (.int z) ∧ ¬ z = 0
def E (cd : Int32) (r : Option Value) (s u : State) : Prop := XT.PureE (some (.int (1 - cd))) r s u
theorem law (l : Launch) (x : Addr) (cd z : Int32) : Law l yN 1 0 0 0 yB 1 (some .boolean) site (P x cd z) (E cd) [] 0 0 := by
  refine Law.of_walk (plainFor_of_name (by decide +kernel)) (by decide +kernel) (by decide +kernel) (by decide) (fun _ _ h => by rw [h.1]; rfl) (fun _ U U' hal hh h => ⟨h.1, h.2.1.mv hal hh, h.2.2.1, h.2.2.2.1.there hal hh, h.2.2.2.2⟩) (fun r U U' V V' h1 hal h2 h => XT.PureE.mv r U U' V V' h1 hal h2 h) ?_
  intro p e s m args below meth c s₁ X0 hexec hbytes hml hret hlk hnm hown hh0 W hP
  obtain ⟨rfl, hx, hc, s1, hz⟩ := hP
  have c1 : Steps p.tables e below (s₁.setTop (entryFrame m #[.ref x] 1)) (s₁.setTop (mkF m 0 #[.val (.ref x)] [])) := entry rfl
  obtain ⟨T2, X2, q2, st2⟩ := X0.sget hexec hown (wk W (.fieldLink "java/lang/String" 38 "java/lang/String" "COMPACT_STRINGS" "Z")) s1 (fun _ _ h => by rw [hh0]; exact h) (g := (mkF m 0 #[.val (.ref x)] [])) rfl (hb hbytes d0)
  have hh2 := q2.trans hh0
  have c3 : Steps p.tables e below (s₁.setTop (entryFrame m #[.ref x] 1)) (T2.setTop (mkF m 7 #[.val (.ref x)] [.ref x])) := (c1.trans (st2 _ (Steps.refl _))).trans (by
    refine XS.ifNo X2.here hexec rfl (hb hbytes d3) rfl (i0_eq_f hz) ?_
    refine XS.aloadN X2.here hexec rfl (hb hbytes d6) rfl rfl ?_
    exact Steps.refl _)
  obtain ⟨T4, X4, q4, st4⟩ := X2.hget hexec hown (wk W (.fieldLink "java/lang/String" 15 "java/lang/String" "coder" "B")) (hx.mv X2.warmed.alike hh2) (g := (mkF m 7 #[.val (.ref x)] [.ref x])) rfl (rest := []) rfl (hb hbytes d7)
  have c5 : Steps p.tables e below (s₁.setTop (entryFrame m #[.ref x] 1)) (T4.setTop (mkF m 10 #[.val (.ref x)] [.int cd])) := c3.trans (st4 _ (Steps.refl _))
  have c6 : Steps p.tables e below (s₁.setTop (entryFrame m #[.ref x] 1)) (T4.setTop (mkF m 18 #[.val (.ref x)] [.int (1 - cd)])) := by
    rcases hc with rfl | rfl
    · exact c5.trans (by
        refine XS.ifNo X4.here hexec rfl (hb hbytes d10) rfl (i0_ne_f rfl) ?_
        refine iconstV X4.here hexec rfl 1 (hb hbytes d13) (by decide) ?_
        refine XS.goto X4.here hexec rfl (pc0 := 14) rfl (hb hbytes d14) (by decide) rfl ?_
        exact Steps.refl _)
    · exact c5.trans (by
        refine XS.ifYes X4.here hexec rfl (pc0 := 10) rfl (hb hbytes d10) rfl (i0_ne_t (by decide)) (by decide) rfl ?_
        refine iconstV X4.here hexec rfl 0 (hb hbytes d17) (by decide) ?_
        exact Steps.refl _)
  exact ⟨T4, some (.int (1 - cd)), _, _, _, X4, rfl, rfl, rfl, (fun h => by cases h), ⟨rfl, q4.trans hh2⟩, fun fs hl => c6.trans (X4.ireturnOut hexec hret (by rcases hc with rfl | rfl <;> rfl) (Or.inr (Or.inl rfl)) (hb hbytes d18) hl)⟩
end IsL
namespace LChA
def yN : MethodName := ⟨"java/lang/StringLatin1", "charAt", "([BI)C"⟩
abbrev yB : ByteArray := jdk_43_method_2_code
theorem d0 : decode yB 0 = .ok (.iload_n 1, 1) := by decide +kernel
theorem d1 : decode yB 1 = .ok (.aload_n 0, 1) := by decide +kernel
theorem d2 : decode yB 2 = .ok (.arraylength, 1) := by decide +kernel
theorem d3 : decode yB 3 = .ok (.invokestatic 9, 3) := by decide +kernel
theorem d6 : decode yB 6 = .ok (.aload_n 0, 1) := by decide +kernel
theorem d7 : decode yB 7 = .ok (.iload_n 1, 1) := by decide +kernel
theorem d8 : decode yB 8 = .ok (.baload, 1) := by decide +kernel
theorem d9 : decode yB 9 = .ok (.sipush 255, 3) := by decide +kernel
theorem d12 : decode yB 12 = .ok (.iand, 1) := by decide +kernel
theorem d13 : decode yB 13 = .ok (.i2c, 1) := by decide +kernel
theorem d14 : decode yB 14 = .ok (.ireturn, 1) := by decide +kernel
def site : List Cond := [JO.Str_checkIndex.tab] ++ staticW "java/lang/StringLatin1" 9 JO.Str_checkIndex.yN
def tab : Cond := tabOf yN yB 2 (some .char) site
def P (t : Addr) (V : Cell) (i : Nat) (u : Int32) (fm : Value) (args : Array Value) (s : State) : Prop := args = #[.ref t, .int (Int32.ofNat i)] ∧ XT.Arr .byte t V s ∧ V.slots[i]? = some (.int u) ∧ (StaticIs s "jdk/internal/util/Preconditions" "SIOOBE_FORMATTER" "Ljava/util/function/BiFunction;" fm ∧ fm.isRef = true)
def E (u : Int32) (r : Option Value) (s w : State) : Prop := XT.PureE (some (.int (chr8 u))) r s w
theorem law (l : Launch) (t : Addr) (V : Cell) (i : Nat) (u : Int32) (fm : Value) : Law l yN 2 2 2 27 yB 2 (some .char) site (P t V i u fm) (E u) [] 0 0 := by
  refine Law.of_walk (plainFor_of_name (by decide +kernel)) (by decide +kernel) (by decide +kernel) (by decide) (fun _ _ h => by rw [h.1]; rfl) (fun _ U U' hal hh h => ⟨h.1, h.2.1.mv hal hh, h.2.2.1, h.2.2.2.1.there hal hh, h.2.2.2.2⟩) (fun r U U' V V' h1 hal h2 h => XT.PureE.mv r U U' V V' h1 hal h2 h) ?_
  intro p e s m args below meth c s₁ X0 hexec hbytes hml hret hlk hnm hown hh0 W hP
  obtain ⟨rfl, hV, hu, s1, rf⟩ := hP
  have v31 := hV.2.2.2
  have hi : i < V.slots.size := (Array.getElem?_eq_some_iff.mp hu).1
  have c1 : Steps p.tables e below (s₁.setTop (entryFrame m #[.ref t, .int (Int32.ofNat i)] 2)) (s₁.setTop (mkF m 0 #[.val (.ref t), .val (.int (Int32.ofNat i))] [])) := entry rfl
  have c2 : Steps p.tables e below (s₁.setTop (entryFrame m #[.ref t, .int (Int32.ofNat i)] 2)) (s₁.setTop (mkF m 3 #[.val (.ref t), .val (.int (Int32.ofNat i))] [.int (Int32.ofNat V.slots.size), .int (Int32.ofNat i)])) := c1.trans (by
    refine XS.iloadN X0.here hexec rfl (hb hbytes d0) rfl ?_
    refine XS.aloadN X0.here hexec rfl (hb hbytes d1) rfl rfl ?_
    refine X0.alen hexec (hV.mv X0.warmed.alike hh0) rfl rfl (hb hbytes d2) ?_
    exact Steps.refl _)
  obtain ⟨v3, T3, X3, E3, g3⟩ := X0.callS hexec (JO.Str_checkIndex.law l (Int32.ofNat i) (Int32.ofNat V.slots.size) fm) hown (wks W (staticW "java/lang/StringLatin1" 9 JO.Str_checkIndex.yN)) (wk W JO.Str_checkIndex.tab) (W := 0) (Nat.le_of_ble_eq_true rfl) (Nat.le_of_ble_eq_true rfl) (Nat.le_refl _) (Nat.le_refl _) (g := (mkF m 3 #[.val (.ref t), .val (.int (Int32.ofNat i))] [.int (Int32.ofNat V.slots.size), .int (Int32.ofNat i)])) rfl (by rw [hml]; rfl) c2 (argsL := [.int (Int32.ofNat i), .int (Int32.ofNat V.slots.size)]) (rest := []) rfl rfl (by show 2 * 0 + 0 ≤ _; decide) (hb hbytes d3) (⟨rfl, rf, s1.there X0.warmed.alike hh0, Int32.ofNat_not_neg (by omega), lt32 v31 hi⟩)
  obtain ⟨rfl, q3⟩ := E3
  have hh3 := q3.trans hh0
  have c4 : Steps p.tables e below (s₁.setTop (entryFrame m #[.ref t, .int (Int32.ofNat i)] 2)) (T3.setTop (mkF m 14 #[.val (.ref t), .val (.int (Int32.ofNat i))] [.int (chr8 u)])) := Steps.trans g3 (by
    refine XS.aloadN X3.here hexec rfl (hb hbytes d6) rfl rfl ?_
    refine XS.iloadN X3.here hexec rfl (hb hbytes d7) rfl ?_
    refine X3.aget hexec (hV.mv X3.warmed.alike hh3) rfl hu rfl rfl (hb hbytes d8) ?_
    refine sipushV X3.here hexec rfl 255 (hb hbytes d9) (by decide) ?_
    refine XS.iand X3.here hexec rfl (hb hbytes d12) rfl ?_
    refine i2c X3.here hexec rfl (hb hbytes d13) rfl ?_
    exact Steps.refl _)
  exact ⟨T3, some (.int (chr8 u)), _, _, _, X3, rfl, rfl, rfl, (fun h => by cases h), ⟨rfl, hh3⟩, fun fs hl => c4.trans (X3.ireturnOut hexec hret (narrow_c _) (Or.inr (Or.inr (Or.inr (Or.inl rfl)))) (hb hbytes d14) hl)⟩
end LChA
end StrChars
namespace StrChars.Road
open Jvm Sem ClassFile Op Lib Jvm.Stand Jvm.Free Jvm.Free.XT
open Jvm.Lib.Cold (StaticIs)
theorem consq {a : Array Value} {s : State} {c : Jvm.Cond} {L : List Jvm.Cond} (h0 : c.before a s = true) (h : ∀ w ∈ L, w.before a s = true) : ∀ w ∈ c :: L, w.before a s = true := fun w hw => (List.mem_cons.mp hw).elim (fun e => e ▸ h0) (h w)
/-- the words of String.length(), either coding -/
abbrev wordsLen : List Jvm.Cond := [.code Len.yN Len.yB 1 (some .int), .initialized ST, .fieldLink ST 9 ST "value" "[B", .fieldLink ST 38 ST "COMPACT_STRINGS" "Z", .fieldLink ST 15 ST "coder" "B", .code Cdr.yN Cdr.yB 1 (some .byte), .methodLink ST 335 Cdr.yN, .declares Cdr.yN, .selects ST Cdr.yN Cdr.yN, .instanceMethod Cdr.yN]
theorem tabLen_of {a : Array Value} {s : State} (h : ∀ w ∈ wordsLen, w.before a s = true) : Len.tab.before a s = true := by
  have hc : Cdr.tab.before a s = true := unparts (wk h (.code Cdr.yN Cdr.yB 1 (some .byte))) (wks h (.initialized Cdr.yN.cls :: Cdr.site))
  have q := consq hc h
  exact unparts (wk q (.code Len.yN Len.yB 1 (some .int))) (wks q (.initialized Len.yN.cls :: Len.site))
theorem movedLen {Z s : State} {a0 args : Array Value} (hZ : Z.Warmed39 s.vm) (hw : ∀ d ∈ wordsLen, d.before a0 Z = true) : ∀ d ∈ wordsLen, d.before args s = true := fun d hd => by
  have q := hw d hd
  have t : ∀ d ∈ wordsLen, d = .arrayClass .byte ∨ (d.onTables && d.keepsFace) = true := by decide +kernel
  rcases t d hd with rfl | t
  · exact RoadKit.mvA hZ q
  · exact RoadKit.mv hZ q t
/-- the bytes of the chars cs, low before high -/
def wideBytes : List Int32 → List Value
  | [] => []
  | c :: cs => .int (lo8 c) :: .int (hi8 c) :: wideBytes cs
theorem wide_lo (d : Value) : ∀ (cs : List Int32) (j : Nat), j < cs.length → (wideBytes cs).getD (2 * j) d = .int (lo8 (cs.getD j 0))
  | [], j, h => absurd h (Nat.not_lt_zero j)
  | c :: cs, 0, _ => rfl
  | c :: cs, j + 1, h => by
    have q := wide_lo d cs j (by simpa using h)
    rw [show 2 * (j + 1) = 2 * j + 1 + 1 from by omega]
    simpa [wideBytes] using q
theorem wide_hi (d : Value) : ∀ (cs : List Int32) (j : Nat), j < cs.length → (wideBytes cs).getD (2 * j + 1) d = .int (hi8 (cs.getD j 0))
  | [], j, h => absurd h (Nat.not_lt_zero j)
  | c :: cs, 0, _ => rfl
  | c :: cs, j + 1, h => by
    have q := wide_hi d cs j (by simpa using h)
    rw [show 2 * (j + 1) + 1 = 2 * j + 1 + 1 + 1 from by omega]
    simpa [wideBytes] using q
theorem low_at (d : Value) (cs : List Int32) (j : Nat) (h : j < cs.length) : (cs.map fun c => Value.int (lo8 c)).getD j d = .int (lo8 (cs.getD j 0)) := by
  simp [List.getD_eq_getElem?_getD, h]
/-- an array of N2 bytes vs codes the chars cs by the coder cd -/
def CodA (cs : List Int32) (cd N2 : Int32) (vs : List Value) : Prop := (cd = 0 ∧ N2 = Int32.ofNat cs.length ∧ vs = (cs.map fun c => Value.int (lo8 c)) ∧ ∀ c ∈ cs, ¬ 255 < c) ∨ (cd = 1 ∧ N2 = Int32.ofNat (2 * cs.length) ∧ vs = wideBytes cs ∧ ∃ c ∈ cs, 255 < c)
theorem CodA.cod {cs : List Int32} {cd N2 : Int32} {vs : List Value} {V : Cell} (h : CodA cs cd N2 vs) (hn : 2 * cs.length < 2 ^ 31) (hs : V.slots.size = N2.toNatClampNeg) (hv : RoadKit.Has V vs (.int 0)) : Cod cd cs.length (fun j => cs.getD j 0) V := by
  rcases h with ⟨rfl, rfl, rfl, h⟩ | ⟨rfl, rfl, rfl, c, hc, hw⟩
  · rw [n32 (by omega)] at hs
    exact Or.inl ⟨rfl, hs, fun j hj => ⟨by rw [hv j (by omega), low_at _ _ _ hj], by
      have e : cs.getD j 0 = cs[j] := by simp [List.getD_eq_getElem?_getD, hj]
      show ¬ 255 < cs.getD j 0
      rw [e]; exact h _ (List.getElem_mem _)⟩⟩
  · rw [n32 (by omega)] at hs
    obtain ⟨j, hj, rfl⟩ := List.getElem_of_mem hc
    exact Or.inr ⟨rfl, hs, fun j hj => ⟨by rw [hv _ (by omega), wide_lo _ _ _ hj], by rw [hv _ (by omega), wide_hi _ _ _ hj]⟩, j, hj, by
      have e : cs.getD j 0 = cs[j] := by simp [List.getD_eq_getElem?_getD, hj]
      show 255 < cs.getD j 0
      rw [e]; exact hw⟩
/-- an object of exactly java/lang/String, its two fields found: as the laws ask it -/
theorem strObj {Z U : State} {a0 : Array Value} {kI : Nat} (wi : (Jvm.Cond.instantiable ST kI).before a0 Z = true) (al : Z.vm.Alike U.vm) {x : Addr} {v0 c0 : Value} (E : RoadKit.Exa Z U.heap x ST) (V : RoadKit.Fld Z U.heap x ST "value" "[B" v0) (C : RoadKit.Fld Z U.heap x ST "coder" "B" c0) :
    ∃ (D : Cell) (fV fC : Field), Blank ST x D U ∧ Found ST "value" "[B" fV U ∧ Found ST "coder" "B" fC U ∧ D.slots[fV.slot]? = some v0 ∧ D.slots[fC.slot]? = some c0 ∧ RoadKit.slotOf Z ST "value" "[B" = fV.slot ∧ RoadKit.slotOf Z ST "coder" "B" = fC.slot := by
  obtain ⟨D, cfV, kV, iV, fV, hD, gV, stV, knV, obV, asV, slV⟩ := V
  obtain ⟨D', cfC, kC, iC, fC, hD', gC, stC, -, -, asC, slC⟩ := C
  cases hD.symm.trans hD'
  obtain ⟨D2, kD, e1, e2, e3, e4, e5⟩ := E
  cases hD.symm.trans e1
  obtain ⟨c2, k2, i1, i2, i3, -⟩ := Cond.instantiable_spec wi
  cases e2.symm.trans i1
  cases e3.symm.trans i2
  obtain ⟨kU, u1, u2⟩ := al.2.2 _ _ e3
  exact ⟨D, fV, fC, ⟨hD, ⟨knV, fun q hq => by rw [hq] at obV; cases obV⟩, by rw [al.findClass]; exact e2, kU, u1, by rw [u2]; exact i3, by rw [u2]; exact e5 i3⟩, ⟨SBG.found_only al ⟨cfV, kV, iV, gV⟩, stV⟩, ⟨SBG.found_only al ⟨cfC, kC, iC, gC⟩, stC⟩, slV, slC, by simp [RoadKit.slotOf, gV], by simp [RoadKit.slotOf, gC]⟩
theorem sta_is {Z U : State} (al : Z.vm.Alike U.vm) {C n d : String} {v : Value} (S : RoadKit.Sta Z U.heap C n d v) : StaticIs U C n d v := by
  obtain ⟨cfS, iS, kS, fS, st, cS, t1, t2, t3, t4, t5, t6, t7⟩ := S
  exact StaticIs.there (s := { Z with heap := U.heap }) ⟨cfS, iS, kS, fS, st, cS, t1, t2, t3, t4, t5, (fun q => by rw [q] at t6; cases t6), t7⟩ al rfl
/-- **length() OF SUCH A STRING** -/
theorem lenW {p : Program} {l : Launch} {e : Env} {R : Room} {s : State} {args : Array Value} {below : List Frame} {len W : Nat} {Z : State} {a0 : Array Value} {h : Heap} (hZ : Z.Warmed39 s.vm) (hw : ∀ d ∈ wordsLen, d.before a0 Z = true) {kI : Nat} (wi : (Jvm.Cond.instantiable ST kI).before a0 Z = true)
    {x t : Addr} {kb : ClassId} {cs : List Int32} {cd N2 z : Int32} {vs : List Value} (E : RoadKit.Exa Z h x ST) (V : RoadKit.Fld Z h x ST "value" "[B" (.ref t)) (C : RoadKit.Fld Z h x ST "coder" "B" (.int cd)) (K : RoadKit.Arv Z h t kb .byte N2 vs (.int 0)) (hc : CodA cs cd N2 vs) (hb : ∀ c ∈ cs, ¬ c < 0 ∧ ¬ (65535 : Int32) < c)
    (S : RoadKit.Sta Z h ST "COMPACT_STRINGS" "Z" (.int z)) (hz : ¬ z = 0) (l2 : cs.length ≤ 4000) (hfr : 2 ≤ R.frames) (hlo : W + 25 ≤ R.locals) :
    Back l R p e below s args (⟨"java/lang/String", "length", "()I"⟩ : MethodName) len W (fun P a => a = #[.ref x] ∧ P.U.heap = h ∧ P.cells + 0 ≤ R.cells ∧ P.slots + 0 ≤ R.slots)
      (fun P _ v B => ∃ L, (v = some (.int (Int32.ofNat cs.length)) ∧ L = [] ∧ B.U.heap = h) ∧ B.locs = P.locs ++ L ∧ B.cells = P.cells + 0 ∧ B.slots = P.slots + 0) := by
  obtain ⟨A, K1, K2, K3, K4, K5, K6⟩ := K
  have hcod := hc.cod (by omega) K3 K5
  intro m meth c P g ig mk a X hg hsize hdg hW hn hp'
  obtain ⟨rfl, rfl, r1, r2⟩ := hp'
  have al : Z.vm.Alike P.U.vm := hZ.alike.trans X.warmed.alike
  obtain ⟨D, fV, fC, hB, F1, F2, g1, g2, -, -⟩ := strObj wi al E V C
  have hx : Txt x t A cd cs.length (fun j => cs.getD j 0) P.U := ⟨⟨_, hB.2.2.1, D, hB.1, rfl, by cases q : D.vm <;> first | rfl | exact absurd q (hB.2.1.2 _)⟩, Has.of hB F1 g1, Has.of hB F2 g2, ⟨K1.1, State.isArrayOf_alike al K1.2.1, K1.2.2, by rcases hcod with ⟨-, q, -⟩ | ⟨-, q, -⟩ <;> omega⟩, hcod, fun j hj => by
    have e : cs.getD j 0 = cs[j] := by simp [List.getD_eq_getElem?_getD, hj]
    show ¬ cs.getD j 0 < 0 ∧ ¬ 65535 < cs.getD j 0
    rw [e]; exact hb _ (List.getElem_mem _)⟩
  obtain ⟨v, B, X', ⟨⟨hv, hh⟩, hl, hk, hs⟩, st⟩ := Len.pays x t A cd cs.length (fun j => cs.getD j 0) z (tabLen_of (movedLen hZ hw)) hfr hlo m meth c P g ig mk _ X hg hsize hdg hW hn ⟨r1, r2, rfl, hx, sta_is al S, hz⟩
  exact ⟨v, B, X', ⟨[], ⟨hv, rfl, hh⟩, hl, hk, hs⟩, st⟩
end StrChars.Road
namespace StrChars.Road
open Jvm Sem ClassFile Op Lib Jvm.Stand Jvm.Free Jvm.Free.XT
open Jvm.Lib.Cold (StaticIs)
/-- the road's facts of a String, as the laws ask it -/
theorem txt_of {Z U : State} {a0 : Array Value} {kI : Nat} (wi : (Jvm.Cond.instantiable ST kI).before a0 Z = true) (al : Z.vm.Alike U.vm) {x t : Addr} {kb : ClassId} {cs : List Int32} {cd N2 : Int32} {vs : List Value} (E : RoadKit.Exa Z U.heap x ST) (V : RoadKit.Fld Z U.heap x ST "value" "[B" (.ref t)) (C : RoadKit.Fld Z U.heap x ST "coder" "B" (.int cd)) (K : RoadKit.Arv Z U.heap t kb .byte N2 vs (.int 0)) (hc : CodA cs cd N2 vs) (hb : ∀ c ∈ cs, ¬ c < 0 ∧ ¬ (65535 : Int32) < c) (l2 : cs.length ≤ 4000) :
    ∃ A, Txt x t A cd cs.length (fun j => cs.getD j 0) U := by
  obtain ⟨A, K1, K2, K3, K4, K5, K6⟩ := K
  have hcod := hc.cod (by omega) K3 K5
  obtain ⟨D, fV, fC, hB, F1, F2, g1, g2, -, -⟩ := strObj wi al E V C
  exact ⟨A, ⟨_, hB.2.2.1, D, hB.1, rfl, by cases q : D.vm <;> first | rfl | exact absurd q (hB.2.1.2 _)⟩, Has.of hB F1 g1, Has.of hB F2 g2, ⟨K1.1, State.isArrayOf_alike al K1.2.1, K1.2.2, by rcases hcod with ⟨-, q, -⟩ | ⟨-, q, -⟩ <;> omega⟩, hcod, fun j hj => by
    have e : cs.getD j 0 = cs[j] := by simp [List.getD_eq_getElem?_getD, hj]
    show ¬ cs.getD j 0 < 0 ∧ ¬ 65535 < cs.getD j 0
    rw [e]; exact hb _ (List.getElem_mem _)⟩
end StrChars.Road
namespace StrChars
open Jvm Sem ClassFile Op Lib Jvm.Stand Jvm.Free.XT Jvm.Free.ALB Jvm.Free.JM Jvm.Free
open Jvm.Lib.Cold (StaticIs)
namespace ChN
def yN : MethodName := ⟨"java/lang/String", "charAt", "(I)C"⟩
abbrev yB : ByteArray := jdk_42_method_56_code
theorem d0 : decode yB 0 = .ok (.aload_n 0, 1) := by decide +kernel
theorem d1 : decode yB 1 = .ok (.invokevirtual 492, 3) := by decide +kernel
theorem d4 : decode yB 4 = .ok (.ifCond (.eq) 12, 3) := by decide +kernel
theorem d7 : decode yB 7 = .ok (.aload_n 0, 1) := by decide +kernel
theorem d8 : decode yB 8 = .ok (.getfield 9, 3) := by decide +kernel
theorem d11 : decode yB 11 = .ok (.iload_n 1, 1) := by decide +kernel
theorem d12 : decode yB 12 = .ok (.invokestatic 495, 3) := by decide +kernel
theorem d15 : decode yB 15 = .ok (.ireturn, 1) := by decide +kernel
def site : List Cond := [.fieldLink "java/lang/String" 9 "java/lang/String" "value" "[B", IsL.tab, LChA.tab] ++ virtW "java/lang/String" 492 "java/lang/String" IsL.yN IsL.yN ++ staticW "java/lang/String" 495 LChA.yN
def tab : Cond := tabOf yN yB 2 (some .char) site
def P (x t : Addr) (V : Cell) (n : Nat) (f : Nat → Int32) (z : Int32) (fm : Value) (i : Nat) (args : Array Value) (s : State) : Prop := args = #[.ref x, .int (Int32.ofNat i)] ∧ Txt x t V 0 n f s ∧ i < n ∧ StaticIs s "java/lang/String" "COMPACT_STRINGS" "Z" (.int z) ∧ ¬ z = 0 ∧ StaticIs s "jdk/internal/util/Preconditions" "SIOOBE_FORMATTER" "Ljava/util/function/BiFunction;" fm ∧ fm.isRef = true
def E (f : Nat → Int32) (i : Nat) (r : Option Value) (s u : State) : Prop := XT.PureE (some (.int (f i))) r s u
/-- charAt(i) of a Latin-1 String of n chars, i < n: f i -/
theorem law (l : Launch) (x t : Addr) (V : Cell) (n : Nat) (f : Nat → Int32) (z : Int32) (fm : Value) (i : Nat) : Law l yN 2 1 3 40 yB 2 (some .char) site (P x t V n f z fm i) (E f i) [] 0 0 := by
  refine Law.of_walk (plainFor_of_name (by decide +kernel)) (by decide +kernel) (by decide +kernel) (by decide) (fun _ _ h => by rw [h.1]; rfl) (fun _ U U' hal hh h => ⟨h.1, h.2.1.mv hal hh, h.2.2.1, h.2.2.2.1.there hal hh, h.2.2.2.2.1, h.2.2.2.2.2.1.there hal hh, h.2.2.2.2.2.2⟩) (fun r U U' V V' h1 hal h2 h => XT.PureE.mv r U U' V V' h1 hal h2 h) ?_
  intro p e s m args below meth c s₁ X0 hexec hbytes hml hret hlk hnm hown hh0 W hP
  obtain ⟨rfl, hx, hi, s1, hz, s3, rf⟩ := hP
  have v31 := hx.2.2.2.1.2.2.2
  have hr := hx.2.2.2.2.2 i hi
  have hx0 := hx.mv X0.warmed.alike hh0
  have c1 : Steps p.tables e below (s₁.setTop (entryFrame m #[.ref x, .int (Int32.ofNat i)] 2)) (s₁.setTop (mkF m 1 #[.val (.ref x), .val (.int (Int32.ofNat i))] [.ref x])) := Steps.trans (entry rfl) (by
    show Steps p.tables e below (s₁.setTop (mkF m 0 #[.val (.ref x), .val (.int (Int32.ofNat i))] [])) _
    refine XS.aloadN X0.here hexec rfl (hb hbytes d0) rfl rfl ?_
    exact Steps.refl _)
  obtain ⟨v2, T2, X2, E2, g2⟩ := X0.callV hexec (IsL.law l x 0 z) hown (wks W (virtW "java/lang/String" 492 "java/lang/String" IsL.yN IsL.yN)) rfl (by decide) (wk W IsL.tab) (W := 0) (Nat.le_of_ble_eq_true rfl) (Nat.le_of_ble_eq_true rfl) (Nat.le_refl _) (Nat.le_refl _) (hx0.1.fc X0.warmed.alike) hx0.1.is (g := (mkF m 1 #[.val (.ref x), .val (.int (Int32.ofNat i))] [.ref x])) rfl (by rw [hml]; rfl) c1 (argsL := []) (rest := []) rfl rfl (by show 2 * 0 + 0 ≤ _; decide) (hb hbytes d1) (⟨rfl, hx0.2.2.1, hx.2.2.2.2.1.cd, s1.there X0.warmed.alike hh0, hz⟩)
  obtain ⟨rfl, q2⟩ := E2
  have hh2 := q2.trans hh0
  have hx2 := hx.mv X2.warmed.alike hh2
  obtain ⟨-, k1, k2⟩ | ⟨k0, -⟩ := hx.2.2.2.2.1
  · have c3 : Steps p.tables e below (s₁.setTop (entryFrame m #[.ref x, .int (Int32.ofNat i)] 2)) (T2.setTop (mkF m 8 #[.val (.ref x), .val (.int (Int32.ofNat i))] [.ref x])) := Steps.trans g2 (by
      refine XS.ifNo X2.here hexec rfl (hb hbytes d4) rfl (i0_eq_f (by decide)) ?_
      refine XS.aloadN X2.here hexec rfl (hb hbytes d7) rfl rfl ?_
      exact Steps.refl _)
    obtain ⟨T4, X4, q4, st4⟩ := X2.hget hexec hown (wk W (.fieldLink "java/lang/String" 9 "java/lang/String" "value" "[B")) hx2.2.1 (g := (mkF m 8 #[.val (.ref x), .val (.int (Int32.ofNat i))] [.ref x])) rfl (rest := []) rfl (hb hbytes d8)
    have hh4 := q4.trans hh2
    have c5 : Steps p.tables e below (s₁.setTop (entryFrame m #[.ref x, .int (Int32.ofNat i)] 2)) (T4.setTop (mkF m 12 #[.val (.ref x), .val (.int (Int32.ofNat i))] [.int (Int32.ofNat i), .ref t])) := (c3.trans (st4 _ (Steps.refl _))).trans (by
      refine XS.iloadN X4.here hexec rfl (hb hbytes d11) rfl ?_
      exact Steps.refl _)
    obtain ⟨v6, T6, X6, E6, g6⟩ := X4.callS hexec (LChA.law l t V i (lo8 (f i)) fm) hown (wks W (staticW "java/lang/String" 495 LChA.yN)) (wk W LChA.tab) (W := 0) (Nat.le_of_ble_eq_true rfl) (Nat.le_of_ble_eq_true rfl) (Nat.le_refl _) (Nat.le_refl _) (g := (mkF m 12 #[.val (.ref x), .val (.int (Int32.ofNat i))] [.int (Int32.ofNat i), .ref t])) rfl (by rw [hml]; rfl) c5 (argsL := [.ref t, .int (Int32.ofNat i)]) (rest := []) rfl rfl (by show 2 * 0 + 0 ≤ _; decide) (hb hbytes d12) (⟨rfl, hx.2.2.2.1.mv X4.warmed.alike hh4, (k2 i hi).1, s3.there X4.warmed.alike hh4, rf⟩)
    obtain ⟨rfl, q6⟩ := E6
    rw [chr8_lo8 hr.1 (k2 i hi).2] at g6
    exact ⟨T6, some (.int (f i)), _, _, _, X6, rfl, rfl, rfl, (fun h => by cases h), ⟨rfl, q6.trans hh4⟩, fun fs hl => Steps.trans g6 (X6.ireturnOut hexec hret (narrow_ch hr.1 hr.2) (Or.inr (Or.inr (Or.inr (Or.inl rfl)))) (hb hbytes d15) hl)⟩
  · exact absurd k0 (by decide)
theorem pays {l : Launch} {R : Room} {p : Program} {e : Env} {below : List Frame} {s : State} {sargs : Array Value} {len W : Nat} (x t : Addr) (V : Cell) (n : Nat) (f : Nat → Int32) (z : Int32) (fm : Value) (i : Nat) (htab : tab.before sargs s = true) (hfr : 4 ≤ R.frames) (hlo : W + 53 ≤ R.locals) :
    Back l R p e below s sargs yN len W (fun A₁ a₁ => A₁.cells + 0 ≤ R.cells ∧ A₁.slots + 0 ≤ R.slots ∧ P x t V n f z fm i a₁ A₁.U) (fun A₁ _ v₁ B₁ => E f i v₁ A₁.U B₁.U ∧ B₁.locs = A₁.locs ++ [] ∧ B₁.cells = A₁.cells + 0 ∧ B₁.slots = A₁.slots + 0) :=
  (law l x t V n f z fm i).pays htab hfr (by omega)
end ChN
end StrChars
namespace StrChars.Road
open Jvm Sem ClassFile Op Lib Jvm.Stand Jvm.Free Jvm.Free.XT
open Jvm.Lib.Cold (StaticIs)
/-- the words of String.charAt(int), the Latin-1 road alone -/
abbrev wordsChN : List Jvm.Cond := [.code ChN.yN ChN.yB 2 (some .char), .initialized ST, .fieldLink ST 9 ST "value" "[B", .fieldLink ST 38 ST "COMPACT_STRINGS" "Z", .fieldLink ST 15 ST "coder" "B", .code IsL.yN IsL.yB 1 (some .boolean), .methodLink ST 492 IsL.yN, .declares IsL.yN, .selects ST IsL.yN IsL.yN, .instanceMethod IsL.yN,
  .methodLink ST 495 LChA.yN, .static LChA.yN, .code LChA.yN LChA.yB 2 (some .char), .initialized "java/lang/StringLatin1", .methodLink "java/lang/StringLatin1" 9 JO.Str_checkIndex.yN, .static JO.Str_checkIndex.yN, .code JO.Str_checkIndex.yN JO.Str_checkIndex.yB 2 none,
  .fieldLink ST 1053 "jdk/internal/util/Preconditions" "SIOOBE_FORMATTER" "Ljava/util/function/BiFunction;", .methodLink ST 1059 JC.PreCheck.yN, .static JC.PreCheck.yN, .code JC.PreCheck.yN JC.PreCheck.yB 3 (some .int), .initialized "jdk/internal/util/Preconditions"]
theorem tabChN_of {a : Array Value} {s : State} (h : ∀ w ∈ wordsChN, w.before a s = true) : ChN.tab.before a s = true := by
  have hp : JC.PreCheck.tab.before a s = true := unparts (wk h (.code JC.PreCheck.yN JC.PreCheck.yB 3 (some .int))) (wks h (.initialized JC.PreCheck.yN.cls :: JC.PreCheck.site))
  have qk := consq hp h
  have hk : JO.Str_checkIndex.tab.before a s = true := unparts (wk qk (.code JO.Str_checkIndex.yN JO.Str_checkIndex.yB 2 none)) (wks qk (.initialized JO.Str_checkIndex.yN.cls :: JO.Str_checkIndex.site))
  have ql := consq hk h
  have hl : LChA.tab.before a s = true := unparts (wk ql (.code LChA.yN LChA.yB 2 (some .char))) (wks ql (.initialized LChA.yN.cls :: LChA.site))
  have hi : IsL.tab.before a s = true := unparts (wk h (.code IsL.yN IsL.yB 1 (some .boolean))) (wks h (.initialized IsL.yN.cls :: IsL.site))
  have q := consq hi (consq hl h)
  exact unparts (wk q (.code ChN.yN ChN.yB 2 (some .char))) (wks q (.initialized ChN.yN.cls :: ChN.site))
theorem movedChN {Z s : State} {a0 args : Array Value} (hZ : Z.Warmed39 s.vm) (hw : ∀ d ∈ wordsChN, d.before a0 Z = true) : ∀ d ∈ wordsChN, d.before args s = true := fun d hd => by
  have t : ∀ d ∈ wordsChN, (d.onTables && d.keepsFace) = true := by decide +kernel
  exact RoadKit.mv hZ (hw d hd) (t d hd)
/-- **charAt(i) OF A LATIN-1 STRING**, i < n: the char -/
theorem chN {p : Program} {l : Launch} {e : Env} {R : Room} {s : State} {args : Array Value} {below : List Frame} {len W : Nat} {Z : State} {a0 : Array Value} {h : Heap} (hZ : Z.Warmed39 s.vm) (hw : ∀ d ∈ wordsChN, d.before a0 Z = true) {kI : Nat} (wi : (Jvm.Cond.instantiable ST kI).before a0 Z = true)
    {x t : Addr} {kb : ClassId} {cs : List Int32} {N2 z : Int32} {vs : List Value} {fm : Value} {i : Nat} {j : Int32} (E : RoadKit.Exa Z h x ST) (V : RoadKit.Fld Z h x ST "value" "[B" (.ref t)) (C : RoadKit.Fld Z h x ST "coder" "B" (.int 0)) (K : RoadKit.Arv Z h t kb .byte N2 vs (.int 0)) (hc : CodA cs 0 N2 vs) (hb : ∀ c ∈ cs, ¬ c < 0 ∧ ¬ (65535 : Int32) < c)
    (S : RoadKit.Sta Z h ST "COMPACT_STRINGS" "Z" (.int z)) (hz : ¬ z = 0) (F : RoadKit.Sta Z h "jdk/internal/util/Preconditions" "SIOOBE_FORMATTER" "Ljava/util/function/BiFunction;" fm) (rf : fm.isRef = true) (l2 : cs.length ≤ 4000) (hi : i < cs.length) (hj : j = Int32.ofNat i) (hfr : 4 ≤ R.frames) (hlo : W + 53 ≤ R.locals) :
    Back l R p e below s args (⟨"java/lang/String", "charAt", "(I)C"⟩ : MethodName) len W (fun P a => a = #[.ref x, .int j] ∧ P.U.heap = h ∧ P.cells + 0 ≤ R.cells ∧ P.slots + 0 ≤ R.slots)
      (fun P _ v B => ∃ L, (v = some (.int (cs.getD i 0)) ∧ L = [] ∧ B.U.heap = h) ∧ B.locs = P.locs ++ L ∧ B.cells = P.cells + 0 ∧ B.slots = P.slots + 0) := by
  subst hj
  intro m meth c P g ig mk a X hg hsize hdg hW hn hp'
  obtain ⟨rfl, rfl, r1, r2⟩ := hp'
  have al : Z.vm.Alike P.U.vm := hZ.alike.trans X.warmed.alike
  obtain ⟨A, hx⟩ := txt_of wi al E V C K hc hb l2
  obtain ⟨v, B, X', ⟨⟨hv, hh⟩, hl, hk, hs⟩, st⟩ := ChN.pays x t A cs.length (fun j => cs.getD j 0) z fm i (tabChN_of (movedChN hZ hw)) hfr hlo m meth c P g ig mk _ X hg hsize hdg hW hn ⟨r1, r2, rfl, hx, hi, sta_is al S, hz, sta_is al F, rf⟩
  exact ⟨v, B, X', ⟨[], ⟨hv, rfl, hh⟩, hl, hk, hs⟩, st⟩
/-- what backV says of its String, as the contracts of this text ask it: cs's low bytes, coder 0 -/
theorem codOf {cs : List Int32} {n : Nat} (hn : cs.length = n) (hb : ∀ c ∈ cs, ¬ 255 < c) : CodA cs 0 (Int32.ofNat n) ((cs.map lo8).map Value.int) := Or.inl ⟨rfl, by rw [hn], by simp [List.map_map, Function.comp_def], hb⟩
end StrChars.Road
end Jvm.Pilot.@@N@@

namespace Jvm.Pilot.@@N@@
open Jvm Jvm.ClassFile Sem Op Lib Jvm.Free Jvm.Stand Jvm.LawKit Jvm.RoadKit Bundle Jvm.Pilot.@@N@@.Jvm.D
/-- the same for a part of a walk that comes to the frame F -/
theorem own_via {α : Type} {tb : Tables} {e : Env} {below : List Frame} {A B : State} {P : State → α → Prop} {F : α → JFrame} (h : ∀ t, Steps tb e below A t → Steps tb e below B t) (k : ∃ (T : State) (x : α), P T x ∧ ∀ t, Steps tb e below (T.setTop (F x)) t → Steps tb e below A t) : ∃ (T : State) (x : α), P T x ∧ ∀ t, Steps tb e below (T.setTop (F x)) t → Steps tb e below B t := by
  obtain ⟨T, x, k1, k2⟩ := k
  exact ⟨T, x, k1, fun t q => h t (k2 t q)⟩
theorem own_ns {Z : State} {h : Heap} {a : Addr} {C : String} (F : Exa Z h a C) : ∀ c : Cell, h[a]? = some c → c.vm.isStatics = false := fun c hc => by
  obtain ⟨c1, k, h1, -, -, h4, -⟩ := F
  cases hc.symm.trans h1
  exact h4
theorem own_nsA {Z : State} {h : Heap} {a : Addr} {k : ClassId} {ty : FieldType} {z : Int32} {vs : List Value} {dv : Value} (F : Arv Z h a k ty z vs dv) : ∀ c : Cell, h[a]? = some c → c.vm.isStatics = false := fun c hc => by
  obtain ⟨c1, A, -⟩ := F
  cases hc.symm.trans A.1
  exact A.plain
theorem own_nsF {Z : State} {h : Heap} {a : Addr} {C n d : String} {v : Value} (F : Fld Z h a C n d v) : ∀ c : Cell, h[a]? = some c → c.vm.isStatics = false := fun c hc => by
  obtain ⟨c1, _, _, _, _, h1, _, _, _, h5, _⟩ := F
  cases hc.symm.trans h1
  exact h5
theorem own_neA {Z : State} {a0 : Array Value} {h : Heap} {a b : Addr} {C : String} {n : Nat} {k : ClassId} {ty : FieldType} {z : Int32} {vs : List Value} {dv : Value} (F : Exa Z h a C) (wi : (Cond.instantiable C n).before a0 Z = true) (G : Arv Z h b k ty z vs dv) : a ≠ b := by
  obtain ⟨c1, A, -⟩ := G
  exact ne_arr F wi A
theorem own_staKeep {Z : State} {h h' : Heap} {C n d : String} {v : Value} {ws : List Addr} (F : Sta Z h C n d v) (K : Keep h h' ws) (q : ∀ x ∈ ws, ∀ c : Cell, h[x]? = some c → c.vm.isStatics = false) : Sta Z h' C n d v := by
  obtain ⟨cf, i, k, f, st, cell, h1, h2, h3, h4, h5, h6, h7⟩ := F
  exact ⟨cf, i, k, f, st, cell, h1, h2, h3, h4, K.2.1 st cell h5 (fun hm => by rw [q st hm cell h5] at h6; cases h6), h6, h7⟩
/-- a byte made a byte again -/
theorem own_nb (y : Int32) : y.toInt8.toInt32.toInt8.toInt32 = y.toInt8.toInt32 := by 
  have h1 := c_i2b y
  have h2 := c_i2b (y.toInt8.toInt32)
  apply Int32.toInt_inj.mp
  omega
theorem own_nbn (y : Int32) : nar .byte (y.toInt8.toInt32) = y.toInt8.toInt32 := own_nb y
/-- the walk goes on from A where it comes from B to A -/
theorem own_go {tb : Tables} {e : Env} {below : List Frame} {A B : State} {P : State → Outcome → Prop} (h : ∀ t, Steps tb e below A t → Steps tb e below B t) (k : ∃ t o, Steps tb e below A t ∧ P t o) : ∃ t o, Steps tb e below B t ∧ P t o := by
  obtain ⟨t, o, k1, k2⟩ := k
  exact ⟨t, o, h t k1, k2⟩
theorem own_pd0 : parseMethodDescriptor "(C)Z" = some ⟨[.char], some .boolean⟩ := by decide +kernel
theorem own_pd1 : parseMethodDescriptor "(C)[B" = some ⟨[.char], some (.array .byte)⟩ := by decide +kernel
theorem own_pd2 : parseMethodDescriptor "([BB)V" = some ⟨[(.array .byte), .byte], none⟩ := by decide +kernel
theorem own_pd3 : parseMethodDescriptor "()I" = some ⟨[], some .int⟩ := by decide +kernel
theorem own_pd4 : parseMethodDescriptor "(I)C" = some ⟨[.int], some .char⟩ := by decide +kernel
theorem own_pd5 : parseMethodDescriptor "(Ljava/lang/String;)Z" = some ⟨[(.object "java/lang/String")], some .boolean⟩ := by decide +kernel
theorem own_pd6 : parseMethodDescriptor "(C)Ljava/lang/String;" = some ⟨[.char], some (.object "java/lang/String")⟩ := by decide +kernel
theorem own_pd7 : parseMethodDescriptor "(Ljava/lang/String;Ljava/lang/String;)Ljava/lang/String;" = some ⟨[(.object "java/lang/String"), (.object "java/lang/String")], some (.object "java/lang/String")⟩ := by decide +kernel
theorem own_pd8 : parseMethodDescriptor "([C)V" = some ⟨[(.array .char)], none⟩ := by decide +kernel
def own_ok (c : Int32) : Bool := decide ((45 ≤ c.toInt ∧ c.toInt ≤ 58) ∨ (65 ≤ c.toInt ∧ c.toInt ≤ 90) ∨ c.toInt = 95 ∨ (97 ≤ c.toInt ∧ c.toInt ≤ 122))
theorem own_okr {c : Int32} (h : own_ok c = true) : 45 ≤ c.toInt ∧ c.toInt ≤ 122 := by have := of_decide_eq_true h; omega
theorem own_okn {r : Int32} (h : own_ok r = true) : own_ok (nar .char r) = true := by
  have e : nar .char r = r := by
    show r.toUInt32.toUInt16.toUInt32.toInt32 = r
    have h1 := c_i2c r
    have h2 := own_okr h
    apply Int32.toInt_inj.mp
    omega
  rw [e]; exact h
theorem own_ok255 {c : Int32} (h : own_ok c = true) : ¬ c < 0 ∧ ¬ (255 : Int32) < c := by
  have h2 := own_okr h
  have e0 : (0 : Int32).toInt = 0 := by decide
  have e1 : (255 : Int32).toInt = 255 := by decide
  rw [Int32.lt_iff_toInt_lt, Int32.lt_iff_toInt_lt, e0, e1]; omega
theorem own_ok128 {c : Int32} (h : own_ok c = true) : ¬ c < 0 ∧ c < (128 : Int32) := by
  have h2 := own_okr h
  have e0 : (0 : Int32).toInt = 0 := by decide
  have e1 : (128 : Int32).toInt = 128 := by decide
  rw [Int32.lt_iff_toInt_lt, Int32.lt_iff_toInt_lt, e0, e1]; omega
theorem own_fin67 {x : Int32} (k : Int32) (h : k = (x &&& (2147483647 : Int32)) % (67 : Int32)) : ∃ n : Fin 67, k = Int32.ofNat n.val := by
  have h1 := c_mask x (2147483647 : Int32) 31 (by decide) (by decide)
  have h2 := (c_irem (x &&& (2147483647 : Int32)) (67 : Int32) 67 (by decide)).1 (by omega)
  rw [← h] at h2
  refine ⟨⟨k.toInt.toNat, by omega⟩, Int32.toInt_inj.mp ?_⟩
  rw [Int32.toInt_ofNat_small (by show k.toInt.toNat < 2 ^ 31; omega)]
  show k.toInt = (k.toInt.toNat : Int)
  omega
theorem own_len0 {n : Nat} (h : 0 < n) (h' : n ≤ 128) : (0 : Int32) < Int32.ofNat n := by
  have e0 : (0 : Int32).toInt = 0 := by decide
  rw [Int32.lt_iff_toInt_lt, e0, Int32.toInt_ofNat_small (by omega)]; omega
theorem own_len1 {n : Nat} (h' : n ≤ 128) : ¬ (128 : Int32) < Int32.ofNat n := by
  have e0 : (128 : Int32).toInt = 128 := by decide
  rw [Int32.lt_iff_toInt_lt, e0, Int32.toInt_ofNat_small (by omega)]; omega
theorem own_lf {ii : Int32} {i n : Nat} (hii : ii = Int32.ofNat i) (hi : i + 0 = n) (h : n ≤ 128) : ¬ ii < Int32.ofNat n := by
  subst hii
  rw [Int32.lt_iff_toInt_lt, Int32.toInt_ofNat_small (by omega), Int32.toInt_ofNat_small (by omega)]; omega
theorem own_lt {ii : Int32} {i n : Nat} (hii : ii = Int32.ofNat i) (hi : i < n) (h : n ≤ 128) : ii < Int32.ofNat n := by
  subst hii
  rw [Int32.lt_iff_toInt_lt, Int32.toInt_ofNat_small (by omega), Int32.toInt_ofNat_small (by omega)]; omega
theorem own_succ {ii : Int32} {i : Nat} (hii : ii = Int32.ofNat i) : ii + (1 : Int32) = Int32.ofNat (i + 1) := by
  subst hii
  rw [Int32.ofNat_add]; rfl
theorem own_getok {ds : List Int32} {i : Nat} (hok : ∀ c ∈ ds, own_ok c = true) (h : i < ds.length) : own_ok (ds.getD i 0) = true := by
  rw [List.getD_eq_getElem?_getD, List.getElem?_eq_getElem h]; exact hok _ (List.getElem_mem h)
theorem own_rounds {tb : Tables} {e : Env} {below : List Frame} {P : State → Outcome → Prop} {J : Nat → State → Prop} (hend : ∀ A, J 0 A → ∃ t o, Steps tb e below A t ∧ P t o) (hstep : ∀ k A, J (k + 1) A → (∀ B, J k B → ∃ t o, Steps tb e below B t ∧ P t o) → ∃ t o, Steps tb e below A t ∧ P t o) : ∀ k A, J k A → ∃ t o, Steps tb e below A t ∧ P t o := by
  intro k
  induction k with
  | zero => exact hend
  | succ k ih => exact fun A hA => hstep k A hA ih
theorem own_i2c (x : Int32) : nar .char (x.toUInt32.toUInt16.toUInt32.toInt32) = x.toUInt32.toUInt16.toUInt32.toInt32 := by
  show (x.toUInt32.toUInt16.toUInt32.toInt32).toUInt32.toUInt16.toUInt32.toInt32 = _
  have h1 := c_i2c x
  have h2 := c_i2c (x.toUInt32.toUInt16.toUInt32.toInt32)
  apply Int32.toInt_inj.mp
  omega
theorem own_ch (x : Int32) : ¬ nar .char ((x &&& (255 : Int32)).toUInt32.toUInt16.toUInt32.toInt32) < 0 ∧ ¬ (255 : Int32) < nar .char ((x &&& (255 : Int32)).toUInt32.toUInt16.toUInt32.toInt32) := by
  rw [own_i2c]
  have h1 := c_i2c (x &&& (255 : Int32))
  have h2 := c_mask x (255 : Int32) 8 (by decide) (by decide)
  have e0 : (0 : Int32).toInt = 0 := by decide
  have e1 : (255 : Int32).toInt = 255 := by decide
  simp only [Int32.lt_iff_toInt_lt, e0, e1]
  omega
theorem own_up (cs : List Int32) (h : ∀ c ∈ cs, ¬ c < 0 ∧ ¬ (255 : Int32) < c) : ∀ c ∈ cs, ¬ c < 0 ∧ ¬ (65535 : Int32) < c := fun c hc => ⟨(h c hc).1, fun q => (h c hc).2 (by rw [Int32.lt_iff_toInt_lt] at q ⊢; have e1 : (65535 : Int32).toInt = 65535 := rfl; have e2 : (255 : Int32).toInt = 255 := rfl; omega)⟩
theorem own_c255 (x : Int32) : ¬ (255 : Int32) < (x &&& (255 : Int32)).toUInt32.toUInt16.toUInt32.toInt32 := by
  have h := (own_ch x).2
  rwa [own_i2c] at h
theorem own_eqInt {s : State} {args : Array Value} {t : Term} {k : Int32} {idx : List Nat} (h : (Cond.eq t (.int k)).value args s none s idx = some true) : t.eval args s none idx s = some (.int k) := by
  cases he : t.eval args s none idx s with
  | none => simp [Cond.value, he] at h
  | some v => cases v <;> simp_all [Cond.value, Term.eval]
theorem own_orR {s : State} {args : Array Value} {G Y : Jvm.Cond} {idx : List Nat} {P : Prop} [Decidable P] (hg : G.value args s none s idx = some (decide P)) (hn : ¬ P) (h : (Jvm.Cond.or G Y).value args s none s idx = some true) : Y.value args s none s idx = some true := by
  rwa [Cond.or_of_right (by rw [hg]; simp [hn])] at h
theorem own_lenlt {s : State} {args : Array Value} {t : Term} {a : Addr} {cl : Cell} {v : Value} (ea : t.eval args s none [] s = some (.ref a)) (hat : s.arrayAt? a = some cl) (hq : (Term.length t).eval args s none [] s = some v) : cl.slots.size < 2 ^ 31 := by
  by_cases hb : cl.slots.size < 2 ^ 31
  · exact hb
  · simp [Term.eval, ea, hat, hb] at hq
theorem own_tabStart {s : State} {args : Array Value} (hfit : Fit s) (nw0 : ((Jvm.Cond.arrayOf (Jvm.Term.static "com/example/quartermaster/quartermaster/Names" "ALLOWED" "[Z") Jvm.ClassFile.FieldType.boolean)).value args s none s [] = some true) (nw1 : ((Jvm.Cond.eq (Jvm.Term.length (Jvm.Term.static "com/example/quartermaster/quartermaster/Names" "ALLOWED" "[Z")) (Jvm.Term.int (128 : Int32)))).value args s none s [] = some true) (nw2 : ((Jvm.Cond.all (Jvm.Term.static "com/example/quartermaster/quartermaster/Names" "ALLOWED" "[Z") (Jvm.Cond.or (Jvm.Cond.le (Jvm.Term.int (45 : Int32)) (Jvm.Term.index (0 : Nat))) (Jvm.Cond.eq (Jvm.Term.elem (Jvm.Term.static "com/example/quartermaster/quartermaster/Names" "ALLOWED" "[Z") (Jvm.Term.index (0 : Nat))) (Jvm.Term.int (0 : Int32)))))).value args s none s [] = some true) (nw3 : ((Jvm.Cond.all (Jvm.Term.static "com/example/quartermaster/quartermaster/Names" "ALLOWED" "[Z") (Jvm.Cond.or (Jvm.Cond.lt (Jvm.Term.index (0 : Nat)) (Jvm.Term.int (45 : Int32))) (Jvm.Cond.or (Jvm.Cond.le (Jvm.Term.int (59 : Int32)) (Jvm.Term.index (0 : Nat))) (Jvm.Cond.eq (Jvm.Term.elem (Jvm.Term.static "com/example/quartermaster/quartermaster/Names" "ALLOWED" "[Z") (Jvm.Term.index (0 : Nat))) (Jvm.Term.int (1 : Int32))))))).value args s none s [] = some true) (nw4 : ((Jvm.Cond.all (Jvm.Term.static "com/example/quartermaster/quartermaster/Names" "ALLOWED" "[Z") (Jvm.Cond.or (Jvm.Cond.lt (Jvm.Term.index (0 : Nat)) (Jvm.Term.int (59 : Int32))) (Jvm.Cond.or (Jvm.Cond.le (Jvm.Term.int (65 : Int32)) (Jvm.Term.index (0 : Nat))) (Jvm.Cond.eq (Jvm.Term.elem (Jvm.Term.static "com/example/quartermaster/quartermaster/Names" "ALLOWED" "[Z") (Jvm.Term.index (0 : Nat))) (Jvm.Term.int (0 : Int32))))))).value args s none s [] = some true) (nw5 : ((Jvm.Cond.all (Jvm.Term.static "com/example/quartermaster/quartermaster/Names" "ALLOWED" "[Z") (Jvm.Cond.or (Jvm.Cond.lt (Jvm.Term.index (0 : Nat)) (Jvm.Term.int (65 : Int32))) (Jvm.Cond.or (Jvm.Cond.le (Jvm.Term.int (91 : Int32)) (Jvm.Term.index (0 : Nat))) (Jvm.Cond.eq (Jvm.Term.elem (Jvm.Term.static "com/example/quartermaster/quartermaster/Names" "ALLOWED" "[Z") (Jvm.Term.index (0 : Nat))) (Jvm.Term.int (1 : Int32))))))).value args s none s [] = some true) (nw6 : ((Jvm.Cond.all (Jvm.Term.static "com/example/quartermaster/quartermaster/Names" "ALLOWED" "[Z") (Jvm.Cond.or (Jvm.Cond.lt (Jvm.Term.index (0 : Nat)) (Jvm.Term.int (91 : Int32))) (Jvm.Cond.or (Jvm.Cond.le (Jvm.Term.int (95 : Int32)) (Jvm.Term.index (0 : Nat))) (Jvm.Cond.eq (Jvm.Term.elem (Jvm.Term.static "com/example/quartermaster/quartermaster/Names" "ALLOWED" "[Z") (Jvm.Term.index (0 : Nat))) (Jvm.Term.int (0 : Int32))))))).value args s none s [] = some true) (nw7 : ((Jvm.Cond.eq (Jvm.Term.elem (Jvm.Term.static "com/example/quartermaster/quartermaster/Names" "ALLOWED" "[Z") (Jvm.Term.int (95 : Int32))) (Jvm.Term.int (1 : Int32)))).value args s none s [] = some true) (nw8 : ((Jvm.Cond.eq (Jvm.Term.elem (Jvm.Term.static "com/example/quartermaster/quartermaster/Names" "ALLOWED" "[Z") (Jvm.Term.int (96 : Int32))) (Jvm.Term.int (0 : Int32)))).value args s none s [] = some true) (nw9 : ((Jvm.Cond.all (Jvm.Term.static "com/example/quartermaster/quartermaster/Names" "ALLOWED" "[Z") (Jvm.Cond.or (Jvm.Cond.lt (Jvm.Term.index (0 : Nat)) (Jvm.Term.int (97 : Int32))) (Jvm.Cond.or (Jvm.Cond.le (Jvm.Term.int (123 : Int32)) (Jvm.Term.index (0 : Nat))) (Jvm.Cond.eq (Jvm.Term.elem (Jvm.Term.static "com/example/quartermaster/quartermaster/Names" "ALLOWED" "[Z") (Jvm.Term.index (0 : Nat))) (Jvm.Term.int (1 : Int32))))))).value args s none s [] = some true) (nw10 : ((Jvm.Cond.all (Jvm.Term.static "com/example/quartermaster/quartermaster/Names" "ALLOWED" "[Z") (Jvm.Cond.or (Jvm.Cond.lt (Jvm.Term.index (0 : Nat)) (Jvm.Term.int (123 : Int32))) (Jvm.Cond.eq (Jvm.Term.elem (Jvm.Term.static "com/example/quartermaster/quartermaster/Names" "ALLOWED" "[Z") (Jvm.Term.index (0 : Nat))) (Jvm.Term.int (0 : Int32)))))).value args s none s [] = some true) (hi : (Cond.initialized "com/example/quartermaster/quartermaster/Names").before args s = true) (hl : (Cond.laysStatic "com/example/quartermaster/quartermaster/Names" "ALLOWED" "[Z").before args s = true) : ∃ (al : Addr) (kt : ClassId) (vt : List Value), Sta s s.heap "com/example/quartermaster/quartermaster/Names" "ALLOWED" "[Z" (.ref al) ∧ Arv s s.heap al kt .boolean (128 : Int32) vt (.int (0 : Int32)) ∧ ∀ j : Int32, own_ok j = true → vt.getD j.toNatClampNeg (.int (0 : Int32)) = (.int (1 : Int32)) := by
  obtain ⟨a, ea⟩ := arr_v nw0
  obtain ⟨cl, A⟩ := Arr.start ea nw0
  have et : ∀ idx, (Term.static "com/example/quartermaster/quartermaster/Names" "ALLOWED" "[Z").eval args s none idx s = some (.ref a) := fun idx => ea
  have hat : s.arrayAt? a = some cl := A.fin (Vm.Alike.refl _)
  have hq := own_eqInt nw1
  have hb : cl.slots.size < 2 ^ 31 := own_lenlt ea hat hq
  have hsz : cl.slots.size = 128 := by
    rw [len_f ea hat hb] at hq
    have e1 := len_toInt hb
    rw [Value.int.inj (Option.some.inj hq)] at e1
    have e2 : (128 : Int32).toInt = 128 := by decide
    omega
  have hget : ∀ i, i < cl.slots.size → cl.slots[i]? = some (cl.slots.toList.getD i (.int (0 : Int32))) := fun i hi => by
    simp [List.getD_eq_getElem?_getD, hi]
  refine ⟨a, cl.cls, cl.slots.toList, Sta.start ea (Or.inr ⟨hi, hl⟩), ⟨cl, A, rfl, by rw [hsz]; decide, by decide, hget, fun i hi => ?_⟩, fun j hj => ?_⟩
  · have e1 : (Nat.toInt32 i).toNatClampNeg = i := by simp only [Int32.toNatClampNeg, len_toInt (Nat.lt_trans hi hb)]; rfl
    exact elem_fits (j := Nat.toInt32 i) hfit A (idx_in hi hb) (by rw [e1]; exact hget i hi)
  have h0 := (own_ok128 hj).1
  have n0 := nat_of h0
  have hr := own_okr hj
  have hlt : j.toNatClampNeg < cl.slots.size := by omega
  have ex : (Term.elem (Term.static "com/example/quartermaster/quartermaster/Names" "ALLOWED" "[Z") (.index 0)).eval args s none [j.toNatClampNeg] s = cl.slots[j.toNatClampNeg]? := elem_f (et _) (idx_at h0) hat h0
  have key : ∀ k : Int32, ¬ k < 0 → (Term.elem (Term.static "com/example/quartermaster/quartermaster/Names" "ALLOWED" "[Z") (.int k)).eval args s none [] s = cl.slots[k.toNatClampNeg]? := fun k hk => elem_f ea (Term.int_eval k) hat hk
  have lt : ∀ k : Int32, (Jvm.Cond.lt (Term.index 0) (Term.int k)).value args s none s [j.toNatClampNeg] = some (decide (j < k)) := fun k => Cond.lt_ints (idx_at h0) (Term.int_eval k)
  have le : ∀ k : Int32, (Jvm.Cond.le (Term.int k) (Term.index 0)).value args s none s [j.toNatClampNeg] = some (decide (k ≤ j)) := fun k => Cond.le_ints (Term.int_eval k) (idx_at h0)
  have a3 := Cond.all_elim ea hat nw3 _ hlt
  have a5 := Cond.all_elim ea hat nw5 _ hlt
  have a9 := Cond.all_elim ea hat nw9 _ hlt
  have e45 : (45 : Int32).toInt = 45 := by decide
  have e59 : (59 : Int32).toInt = 59 := by decide
  have e65 : (65 : Int32).toInt = 65 := by decide
  have e91 : (91 : Int32).toInt = 91 := by decide
  have e97 : (97 : Int32).toInt = 97 := by decide
  have e123 : (123 : Int32).toInt = 123 := by decide
  have e95 : (95 : Int32).toInt = 95 := by decide
  have fin : cl.slots[j.toNatClampNeg]? = some (.int 1) → cl.slots.toList.getD j.toNatClampNeg (.int (0 : Int32)) = (.int (1 : Int32)) := fun q => Option.some.inj ((hget _ hlt).symm.trans q)
  apply fin
  rcases of_decide_eq_true hj with q | q | q | q
  · rw [← ex, own_eqInt (own_orR (le 59) (by rw [Int32.le_iff_toInt_le]; omega) (own_orR (lt 45) (by rw [Int32.lt_iff_toInt_lt]; omega) a3))]
  · rw [← ex, own_eqInt (own_orR (le 91) (by rw [Int32.le_iff_toInt_le]; omega) (own_orR (lt 65) (by rw [Int32.lt_iff_toInt_lt]; omega) a5))]
  · obtain rfl : j = 95 := Int32.toInt_inj.mp (by rw [q, e95])
    rw [← key 95 (by decide), own_eqInt nw7]
  · rw [← ex, own_eqInt (own_orR (le 123) (by rw [Int32.le_iff_toInt_le]; omega) (own_orR (lt 97) (by rw [Int32.lt_iff_toInt_lt]; omega) a9))]
theorem d2_0 : decode jdk_43_method_3_code 0 = .ok (.iload_n 0, 1) := by decide +kernel
theorem d2_1 : decode jdk_43_method_3_code 1 = .ok (.sipush 255, 3) := by decide +kernel
theorem d2_4 : decode jdk_43_method_3_code 4 = .ok (.if_icmp .gt 7, 3) := by decide +kernel
theorem d2_7 : decode jdk_43_method_3_code 7 = .ok (.iconst 1, 1) := by decide +kernel
theorem d2_8 : decode jdk_43_method_3_code 8 = .ok (.goto 4, 3) := by decide +kernel
theorem d2_12 : decode jdk_43_method_3_code 12 = .ok (.ireturn, 1) := by decide +kernel
theorem own_pn2 : plainName "java/lang/StringLatin1" = true := by first | (simp [plainName, overriddenIn]; done) | decide +kernel
theorem own_ef2 (m : MethodId) (x0 : Int32) : entryFrame m #[(.int x0)] 1 = mkF m 0 #[.val (.int x0)] [] := by first | (simp [entryFrame, mkF, argsToLocals, Value.category]; done) | rfl
def QrmCan (Z : State) (x : Int32) (h0 : Heap) (n0 : Nat) (v : Option Value) (h : Heap) (L : List Loc) : Prop := v = some (.int (1 : Int32)) ∧ Fr n0 L ∧ h = h0
set_option maxRecDepth 65536 in
set_option maxHeartbeats 40000000 in
theorem rmCan (l : Launch) (Z : State) (a0 : Array Value) (hw : ∀ d ∈ tables_1, d.before a0 Z = true) (ws : List Jvm.Cond) (x : Int32) (h0 : Heap) (n0 : Nat) (Z0 : n0 ≤ h0.size) (h255 : ¬ (255 : Int32) < x) :
    MetFree l (⟨"java/lang/StringLatin1", "canEncode", "(C)Z"⟩ : MethodName) (head1 (Jvm.Cond.code (⟨"java/lang/StringLatin1", "canEncode", "(C)Z"⟩ : MethodName) jdk_43_method_3_code 1 (some .boolean) :: ws) ({ frames := 0, cells := 0, slots := 0, locals := 0 } : Room)) (fun ar_ U_ => ar_ = #[(.int x)] ∧ Z.Warmed39 U_.vm ∧ U_.heap = h0) (fun _ _ _ _ _ => True) (fun _ U_ ou_ V_ => ∃ v_ L_, ou_ = .returned v_ ∧ QrmCan Z x h0 n0 v_ V_.heap L_ ∧ FrameEnd U_ ou_ V_ L_ ({ frames := 0, cells := 0, slots := 0, locals := 0 } : Room).cells ({ frames := 0, cells := 0, slots := 0, locals := 0 } : Room).slots) := by
  refine MetFree.of_bodySF (plainFor_of_name own_pn2) hisR ?_
  intro p e s m args below meth c s₁ Bd hml0 hP hK
  obtain ⟨rfl, hZ, hh⟩ := hP
  have hx := Bd.exec
  have hby := Bd.bytes
  have hml : c.maxLocals = 1 := hml0
  have hown : s.vm.findClass "java/lang/StringLatin1" = some m.cls := findClass_of_methodNamed Bd.named
  have hnm := (name_of_methodNamed Bd.named Bd.method).1
  have X0 : Stand p l e ({ frames := 0, cells := 0, slots := 0, locals := 0 } : Room) s m #[(.int x)] below meth c s₁ [] 0 0 := Stand.of_body Bd
  have e0 : s₁.heap = h0 := by rw [← hh, Bd.state]; rfl
  have N0 := Fr.nil n0
  refine own_go (A := s₁.setTop (mkF m 0 #[.val (.int x)] [])) (fun t kz => castTop (own_ef2 m x) kz) ?_
  refine own_go (A := s₁.setTop (mkF m 12 #[.val (.int x)] [(.int (1 : Int32))])) (fun _ kz => ?_) ?_
  · show Steps p.tables e below (s₁.setTop (mkF m 0 #[.val (.int x)] [])) _
    refine XS.iloadN X0.here hx rfl (hb hby d2_0) rfl ?_
    show Steps p.tables e below (s₁.setTop (mkF m 1 #[.val (.int x)] [(.int x)])) _
    refine XS.sipush X0.here hx rfl (hb hby d2_1) ?_
    show Steps p.tables e below (s₁.setTop (mkF m 4 #[.val (.int x)] [(.int (255 : Int32)), (.int x)])) _
    refine XS.icmpNo X0.here hx rfl (hb hby d2_4) rfl (flt h255).2.2.1 ?_
    show Steps p.tables e below (s₁.setTop (mkF m 7 #[.val (.int x)] [])) _
    refine XS.iconst X0.here hx rfl (hb hby d2_7) ?_
    show Steps p.tables e below (s₁.setTop (mkF m 8 #[.val (.int x)] [(.int (1 : Int32))])) _
    refine XS.goto X0.here hx rfl (pc0 := 8) (pc' := 12) rfl (hb hby d2_8) (by decide) (by decide) ?_
    exact kz
  obtain ⟨fs, hrr, hrun, hended, hW, hsame⟩ := X0.leave (v := some (.int (1 : Int32))) (fun h => by rw [Bd.returns] at h; cases h)
  refine ⟨_, _, ?_, hrun, hended, _, _, rfl, ?_, ⟨_, rfl⟩, hW, hsame.mono (by decide) (by decide)⟩
  · show Steps p.tables e below (s₁.setTop (mkF m 12 #[.val (.int x)] [(.int (1 : Int32))])) _
    exact retN X0 hx (t := .boolean) Bd.returns (by simp) (hb hby d2_12) hrr
  · show QrmCan Z x h0 n0 _ s₁.heap _
    rw [e0]
    exact ⟨rfl, N0, rfl⟩
theorem d3_0 : decode jdk_43_method_46_code 0 = .ok (.iconst 1, 1) := by decide +kernel
theorem d3_1 : decode jdk_43_method_46_code 1 = .ok (.newarray .byte, 2) := by decide +kernel
theorem d3_3 : decode jdk_43_method_46_code 3 = .ok (.dup, 1) := by decide +kernel
theorem d3_4 : decode jdk_43_method_46_code 4 = .ok (.iconst 0, 1) := by decide +kernel
theorem d3_5 : decode jdk_43_method_46_code 5 = .ok (.iload_n 0, 1) := by decide +kernel
theorem d3_6 : decode jdk_43_method_46_code 6 = .ok (.i2b, 1) := by decide +kernel
theorem d3_7 : decode jdk_43_method_46_code 7 = .ok (.bastore, 1) := by decide +kernel
theorem d3_8 : decode jdk_43_method_46_code 8 = .ok (.areturn, 1) := by decide +kernel
theorem own_pn3 : plainName "java/lang/StringLatin1" = true := by first | (simp [plainName, overriddenIn]; done) | decide +kernel
theorem own_ef3 (m : MethodId) (x0 : Int32) : entryFrame m #[(.int x0)] 1 = mkF m 0 #[.val (.int x0)] [] := by first | (simp [entryFrame, mkF, argsToLocals, Value.category]; done) | rfl
def QrmTB (Z : State) (x : Int32) (h0 : Heap) (n0 : Nat) (v : Option Value) (h : Heap) (L : List Loc) : Prop := ∃ (b : Addr) (kc : ClassId), v = some (.ref b) ∧ Fr n0 L ∧ h0.size ≤ b ∧ Keep h0 h [] ∧ Arv Z h b kc .byte (1 : Int32) [(.int (x.toInt8.toInt32))] (.int (0 : Int32))
set_option maxRecDepth 65536 in
set_option maxHeartbeats 40000000 in
theorem rmTB (l : Launch) (Z : State) (a0 : Array Value) (hw : ∀ d ∈ tables_1, d.before a0 Z = true) (ws : List Jvm.Cond) (x : Int32) (h0 : Heap) (n0 : Nat) (Z0 : n0 ≤ h0.size)  :
    MetFree l (⟨"java/lang/StringLatin1", "toBytes", "(C)[B"⟩ : MethodName) (head1 (Jvm.Cond.code (⟨"java/lang/StringLatin1", "toBytes", "(C)[B"⟩ : MethodName) jdk_43_method_46_code 1 (some (.array .byte)) :: ws) ({ frames := 0, cells := 1, slots := 1, locals := 0 } : Room)) (fun ar_ U_ => ar_ = #[(.int x)] ∧ Z.Warmed39 U_.vm ∧ U_.heap = h0) (fun _ _ _ _ _ => True) (fun _ U_ ou_ V_ => ∃ v_ L_, ou_ = .returned v_ ∧ QrmTB Z x h0 n0 v_ V_.heap L_ ∧ FrameEnd U_ ou_ V_ L_ ({ frames := 0, cells := 1, slots := 1, locals := 0 } : Room).cells ({ frames := 0, cells := 1, slots := 1, locals := 0 } : Room).slots) := by
  refine MetFree.of_bodySF (plainFor_of_name own_pn3) hisR ?_
  intro p e s m args below meth c s₁ Bd hml0 hP hK
  obtain ⟨rfl, hZ, hh⟩ := hP
  have hx := Bd.exec
  have hby := Bd.bytes
  have hml : c.maxLocals = 1 := hml0
  have hown : s.vm.findClass "java/lang/StringLatin1" = some m.cls := findClass_of_methodNamed Bd.named
  have hnm := (name_of_methodNamed Bd.named Bd.method).1
  have X0 : Stand p l e ({ frames := 0, cells := 1, slots := 1, locals := 0 } : Room) s m #[(.int x)] below meth c s₁ [] 0 0 := Stand.of_body Bd
  have e0 : s₁.heap = h0 := by rw [← hh, Bd.state]; rfl
  have N0 := Fr.nil n0
  have Kp0 : Keep h0 h0 [] := Keep.refl h0 _
  refine own_go (A := s₁.setTop (mkF m 0 #[.val (.int x)] [])) (fun t kz => castTop (own_ef3 m x) kz) ?_
  refine own_go (A := s₁.setTop (mkF m 1 #[.val (.int x)] [(.int (1 : Int32))])) (fun _ kz => ?_) ?_
  · show Steps p.tables e below (s₁.setTop (mkF m 0 #[.val (.int x)] [])) _
    refine XS.iconst X0.here hx rfl (hb hby d3_0) ?_
    exact kz
  obtain ⟨T1, h1, k1, X1, e1, E1, A1, st1⟩ := newP X0 hx hZ (hw _ (List.mem_of_getElem? (i := 14) rfl)) e0 (g := (mkF m 1 #[.val (.int x)] [(.int (1 : Int32))])) rfl (hb hby d3_1) rfl (by decide) (cap := 1) (by decide) (by decide) (by decide) (by decide)
  obtain ⟨b1, gq1⟩ : ∃ z, z = h0.size := ⟨_, rfl⟩
  rw [← gq1] at A1 st1
  have g_b1 : n0 ≤ b1 := Nat.le_trans Z0 (Nat.le_of_eq gq1.symm)
  have szk_b1 : h0.size ≤ b1 := Nat.le_trans Kp0.1 (Nat.le_of_eq gq1.symm)
  have Z1 : n0 ≤ h1.size := Nat.le_trans Z0 E1.1
  have Kp1 : Keep h0 h1 [] := Kp0.ext E1
  have Av_b1 : Arv Z h1 b1 k1 .byte (1 : Int32) [(.int (0 : Int32))] (.int (0 : Int32)) := (Arv.new A1 (by decide)).pad (pad_rep [] (.int (0 : Int32)) 1)
  refine own_go (A := T1.setTop (mkF m 3 #[.val (.int x)] [(.ref b1)])) (fun _ kz => st1 _ kz) ?_
  refine own_go (A := T1.setTop (mkF m 7 #[.val (.int x)] [(.int (x.toInt8.toInt32)), (.int (0 : Int32)), (.ref b1), (.ref b1)])) (fun _ kz => ?_) ?_
  · show Steps p.tables e below (T1.setTop (mkF m 3 #[.val (.int x)] [(.ref b1)])) _
    refine XS.dup X1.here hx rfl (hb hby d3_3) rfl rfl ?_
    show Steps p.tables e below (T1.setTop (mkF m 4 #[.val (.int x)] [(.ref b1), (.ref b1)])) _
    refine XS.iconst X1.here hx rfl (hb hby d3_4) ?_
    show Steps p.tables e below (T1.setTop (mkF m 5 #[.val (.int x)] [(.int (0 : Int32)), (.ref b1), (.ref b1)])) _
    refine XS.iloadN X1.here hx rfl (hb hby d3_5) rfl ?_
    show Steps p.tables e below (T1.setTop (mkF m 6 #[.val (.int x)] [(.int x), (.int (0 : Int32)), (.ref b1), (.ref b1)])) _
    refine XS.i2b X1.here hx rfl (hb hby d3_6) rfl ?_
    exact kz
  obtain ⟨cl2, Ar2, q2, S2, M2, H2, G2⟩ := id Av_b1
  have hin2 : ¬ ((0 : Int32) < 0 ∨ cl2.slots.size ≤ ((0 : Int32)).toNatClampNeg) := inb_of S2 ⟨by decide, by decide⟩
  obtain ⟨T2, h2, X2, e2, W2, st2⟩ := stB X1 hx hZ e1 Ar2 (j := (0 : Int32)) hin2 (g := (mkF m 7 #[.val (.int x)] [(.int (x.toInt8.toInt32)), (.int (0 : Int32)), (.ref b1), (.ref b1)])) rfl rfl (hb hby d3_7)
  rw [own_nbn] at W2
  have Aw2 := Arv.set Ar2 q2 S2 M2 H2 G2 (fits_nar_byte _) W2 0 rfl (Nat.le_of_ble_eq_true rfl)
  have Z2 : n0 ≤ h2.size := Nat.le_trans Z1 (Keep.of_wr W2).1
  have Kp2 : Keep h0 h2 [] := Kp1.wr W2 (Or.inr szk_b1)
  have Av_b1 : Arv Z h2 b1 k1 .byte (1 : Int32) [(.int (x.toInt8.toInt32))] (.int (0 : Int32)) := Aw2
  have N2 := Fr.snoc X2 N0 g_b1
  refine own_go (A := T2.setTop (mkF m 8 #[.val (.int x)] [(.ref b1)])) (fun _ kz => st2 _ kz) ?_
  obtain ⟨fs, hrr, hrun, hended, hW, hsame⟩ := X2.leave (v := some (.ref b1)) (fun h => by rw [Bd.returns] at h; cases h)
  refine ⟨_, _, ?_, hrun, hended, _, _, rfl, ?_, ⟨_, rfl⟩, hW, hsame.mono (by decide) (by decide)⟩
  · show Steps p.tables e below (T2.setTop (mkF m 8 #[.val (.int x)] [(.ref b1)])) _
    exact retOut X2 hx (t := (.array .byte)) Bd.returns rfl (Or.inr (Or.inr (Or.inr (Or.inr ⟨rfl, rfl, rfl⟩)))) (hb hby d3_8) hrr
  · show QrmTB Z x h0 n0 _ T2.heap _
    rw [e2]
    exact ⟨b1, k1, rfl, N2, szk_b1, Kp2, Av_b1⟩
theorem d4_0 : decode jdk_42_method_151_code 0 = .ok (.aload_n 0, 1) := by decide +kernel
theorem d4_1 : decode jdk_42_method_151_code 1 = .ok (.invokespecial 1, 3) := by decide +kernel
theorem d4_4 : decode jdk_42_method_151_code 4 = .ok (.aload_n 0, 1) := by decide +kernel
theorem d4_5 : decode jdk_42_method_151_code 5 = .ok (.aload_n 1, 1) := by decide +kernel
theorem d4_6 : decode jdk_42_method_151_code 6 = .ok (.putfield 9, 3) := by decide +kernel
theorem d4_9 : decode jdk_42_method_151_code 9 = .ok (.aload_n 0, 1) := by decide +kernel
theorem d4_10 : decode jdk_42_method_151_code 10 = .ok (.iload_n 2, 1) := by decide +kernel
theorem d4_11 : decode jdk_42_method_151_code 11 = .ok (.putfield 15, 3) := by decide +kernel
theorem d4_14 : decode jdk_42_method_151_code 14 = .ok (.return_, 1) := by decide +kernel
theorem own_pn4 : plainName "java/lang/String" = true := by first | (simp [plainName, overriddenIn]; done) | decide +kernel
theorem own_ef4 (m : MethodId) (x0 : Addr) (x1 : Addr) (x2 : Int32) : entryFrame m #[(.ref x0), (.ref x1), (.int x2)] 3 = mkF m 0 #[.val (.ref x0), .val (.ref x1), .val (.int x2)] [] := by first | (simp [entryFrame, mkF, argsToLocals, Value.category]; done) | rfl
def QrmSI (Z : State) (a ab : Addr) (h0 : Heap) (n0 : Nat) (v : Option Value) (h : Heap) (L : List Loc) : Prop := v = none ∧ Fr n0 L ∧ Keep h0 h [a] ∧ Exa Z h a "java/lang/String" ∧ Fld Z h a "java/lang/String" "value" "[B" (.ref ab) ∧ Fld Z h a "java/lang/String" "coder" "B" (.int (0 : Int32))
set_option maxRecDepth 65536 in
set_option maxHeartbeats 40000000 in
theorem rmSI (l : Launch) (Z : State) (a0 : Array Value) (hw : ∀ d ∈ tables_1, d.before a0 Z = true) (ws : List Jvm.Cond) (a ab : Addr) (h0 : Heap) (n0 : Nat) (Z0 : n0 ≤ h0.size) (Ex : Exa Z h0 a "java/lang/String") (Fv : Fld Z h0 a "java/lang/String" "value" "[B" .null) (Fc : Fld Z h0 a "java/lang/String" "coder" "B" (.int (0 : Int32))) (g_a : n0 ≤ a) :
    MetFree l (⟨"java/lang/String", "<init>", "([BB)V"⟩ : MethodName) (head1 (Jvm.Cond.code (⟨"java/lang/String", "<init>", "([BB)V"⟩ : MethodName) jdk_42_method_151_code 3 none :: ws) ({ frames := 1, cells := 0, slots := 0, locals := 12 } : Room)) (fun ar_ U_ => ar_ = #[(.ref a), (.ref ab), (.int (0 : Int32))] ∧ Z.Warmed39 U_.vm ∧ U_.heap = h0) (fun _ _ _ _ _ => True) (fun _ U_ ou_ V_ => ∃ v_ L_, ou_ = .returned v_ ∧ QrmSI Z a ab h0 n0 v_ V_.heap L_ ∧ FrameEnd U_ ou_ V_ L_ ({ frames := 1, cells := 0, slots := 0, locals := 12 } : Room).cells ({ frames := 1, cells := 0, slots := 0, locals := 12 } : Room).slots) := by
  refine MetFree.of_bodySF (plainFor_of_name own_pn4) hisR ?_
  intro p e s m args below meth c s₁ Bd hml0 hP hK
  obtain ⟨rfl, hZ, hh⟩ := hP
  have hx := Bd.exec
  have hby := Bd.bytes
  have hml : c.maxLocals = 3 := hml0
  have hown : s.vm.findClass "java/lang/String" = some m.cls := findClass_of_methodNamed Bd.named
  have hnm := (name_of_methodNamed Bd.named Bd.method).1
  have X0 : Stand p l e ({ frames := 1, cells := 0, slots := 0, locals := 12 } : Room) s m #[(.ref a), (.ref ab), (.int (0 : Int32))] below meth c s₁ [] 0 0 := Stand.of_body Bd
  have e0 : s₁.heap = h0 := by rw [← hh, Bd.state]; rfl
  have N0 := Fr.nil n0
  have Kp0 : Keep h0 h0 [a] := Keep.refl h0 _
  refine own_go (A := s₁.setTop (mkF m 0 #[.val (.ref a), .val (.ref ab), .val (.int (0 : Int32))] [])) (fun t kz => castTop (own_ef4 m a ab (0 : Int32)) kz) ?_
  refine own_go (A := s₁.setTop (mkF m 1 #[.val (.ref a), .val (.ref ab), .val (.int (0 : Int32))] [(.ref a)])) (fun _ kz => ?_) ?_
  · show Steps p.tables e below (s₁.setTop (mkF m 0 #[.val (.ref a), .val (.ref ab), .val (.int (0 : Int32))] [])) _
    refine XS.aloadN X0.here hx rfl (hb hby d4_0) rfl rfl ?_
    exact kz
  obtain ⟨T1, X1, e1, st1⟩ := initO X0 hx hZ hown (hw _ (List.mem_of_getElem? (i := 19) rfl)) (hw _ (List.mem_of_getElem? (i := 20) rfl)) (hw _ (List.mem_of_getElem? (i := 21) rfl)) e0 (g := (mkF m 1 #[.val (.ref a), .val (.ref ab), .val (.int (0 : Int32))] [(.ref a)])) rfl (by rw [hml]; rfl) rfl (hb hby d4_1) (by decide) (W := 0) (by show 2 * 0 + _ ≤ _; exact Nat.le_of_eq rfl) (by decide)
  refine own_go (A := T1.setTop (mkF m 4 #[.val (.ref a), .val (.ref ab), .val (.int (0 : Int32))] [])) (fun _ kz => st1 _ kz) ?_
  refine own_go (A := T1.setTop (mkF m 6 #[.val (.ref a), .val (.ref ab), .val (.int (0 : Int32))] [(.ref ab), (.ref a)])) (fun _ kz => ?_) ?_
  · show Steps p.tables e below (T1.setTop (mkF m 4 #[.val (.ref a), .val (.ref ab), .val (.int (0 : Int32))] [])) _
    refine XS.aloadN X1.here hx rfl (hb hby d4_4) rfl rfl ?_
    show Steps p.tables e below (T1.setTop (mkF m 5 #[.val (.ref a), .val (.ref ab), .val (.int (0 : Int32))] [(.ref a)])) _
    refine XS.aloadN X1.here hx rfl (hb hby d4_5) rfl rfl ?_
    exact kz
  obtain ⟨T2, h2, X2, e2, W2, st2⟩ := putF X1 hx hZ hown (host := "") (Or.inl (hw _ (List.mem_of_getElem? (i := 22) rfl))) Via.refl e1 Fv Ex (Or.inr ⟨(hw _ (List.mem_of_getElem? (i := 23) rfl)), rfl, hnm⟩) (hw _ (List.mem_of_getElem? (i := 10) rfl)) (ty := (.array .byte)) (by decide) rfl rfl (g := (mkF m 6 #[.val (.ref a), .val (.ref ab), .val (.int (0 : Int32))] [(.ref ab), (.ref a)])) rfl rfl (hb hby d4_6)
  have Fw2 := Fv.same W2
  replace Ex := Ex.wr W2
  replace Fc := Fc.other W2 (Or.inr (slot_ne (Or.inr (hw _ (List.mem_of_getElem? (i := 25) rfl))) (Or.inr (hw _ (List.mem_of_getElem? (i := 23) rfl))) (by decide) (t := .byte) (t' := (.array .byte)) (by decide) (by decide)))
  have Z2 : n0 ≤ h2.size := Nat.le_trans Z0 (Keep.of_wr W2).1
  have Kp2 : Keep h0 h2 [a] := Kp0.wr W2 (Or.inl (List.mem_of_getElem? (i := 0) rfl))
  have F_value_a := Fw2
  have N2 := Fr.snoc X2 N0 g_a
  refine own_go (A := T2.setTop (mkF m 9 #[.val (.ref a), .val (.ref ab), .val (.int (0 : Int32))] [])) (fun _ kz => st2 _ kz) ?_
  refine own_go (A := T2.setTop (mkF m 11 #[.val (.ref a), .val (.ref ab), .val (.int (0 : Int32))] [(.int (0 : Int32)), (.ref a)])) (fun _ kz => ?_) ?_
  · show Steps p.tables e below (T2.setTop (mkF m 9 #[.val (.ref a), .val (.ref ab), .val (.int (0 : Int32))] [])) _
    refine XS.aloadN X2.here hx rfl (hb hby d4_9) rfl rfl ?_
    show Steps p.tables e below (T2.setTop (mkF m 10 #[.val (.ref a), .val (.ref ab), .val (.int (0 : Int32))] [(.ref a)])) _
    refine XS.iloadN X2.here hx rfl (hb hby d4_10) rfl ?_
    exact kz
  obtain ⟨T3, h3, X3, e3, W3, st3⟩ := putFN X2 hx hZ hown (hw _ (List.mem_of_getElem? (i := 24) rfl)) Via.refl e2 Fc Ex (Or.inr ⟨(hw _ (List.mem_of_getElem? (i := 25) rfl)), rfl, hnm⟩) (hw _ (List.mem_of_getElem? (i := 10) rfl)) (ty := .byte) (v' := (.int (0 : Int32))) (by decide) rfl (by first | exact fits_nar_byte _ | decide) (g := (mkF m 11 #[.val (.ref a), .val (.ref ab), .val (.int (0 : Int32))] [(.int (0 : Int32)), (.ref a)])) rfl rfl (hb hby d4_11)
  have Fw3 := Fc.same W3
  replace Ex := Ex.wr W3
  replace F_value_a := F_value_a.other W3 (Or.inr (slot_ne (Or.inr (hw _ (List.mem_of_getElem? (i := 23) rfl))) (Or.inr (hw _ (List.mem_of_getElem? (i := 25) rfl))) (by decide) (t := (.array .byte)) (t' := .byte) (by decide) (by decide)))
  have Z3 : n0 ≤ h3.size := Nat.le_trans Z2 (Keep.of_wr W3).1
  have Kp3 : Keep h0 h3 [a] := Kp2.wr W3 (Or.inl (List.mem_of_getElem? (i := 0) rfl))
  have F_coder_a := Fw3
  have N3 := Fr.snoc X3 N2 g_a
  refine own_go (A := T3.setTop (mkF m 14 #[.val (.ref a), .val (.ref ab), .val (.int (0 : Int32))] [])) (fun _ kz => st3 _ kz) ?_
  obtain ⟨fs, hrr, hrun, hended, hW, hsame⟩ := X3.leave (v := none) (fun _ => rfl)
  refine ⟨_, _, ?_, hrun, hended, _, _, rfl, ?_, ⟨_, rfl⟩, hW, hsame.mono (by decide) (by decide)⟩
  · show Steps p.tables e below (T3.setTop (mkF m 14 #[.val (.ref a), .val (.ref ab), .val (.int (0 : Int32))] [])) _
    exact X3.returnOut hx Bd.returns (hb hby d4_14) hrr
  · show QrmSI Z a ab h0 n0 _ T3.heap _
    rw [e3]
    exact ⟨rfl, N3, Kp3, Ex, F_value_a, F_coder_a⟩
theorem d1_0 : decode jdk_42_method_139_code 0 = .ok (.getstatic 38, 3) := by decide +kernel
theorem d1_3 : decode jdk_42_method_139_code 3 = .ok (.ifCond .eq 23, 3) := by decide +kernel
theorem d1_6 : decode jdk_42_method_139_code 6 = .ok (.iload_n 0, 1) := by decide +kernel
theorem d1_7 : decode jdk_42_method_139_code 7 = .ok (.invokestatic 1015, 3) := by decide +kernel
theorem d1_10 : decode jdk_42_method_139_code 10 = .ok (.ifCond .eq 16, 3) := by decide +kernel
theorem d1_13 : decode jdk_42_method_139_code 13 = .ok (.new 10, 3) := by decide +kernel
theorem d1_16 : decode jdk_42_method_139_code 16 = .ok (.dup, 1) := by decide +kernel
theorem d1_17 : decode jdk_42_method_139_code 17 = .ok (.iload_n 0, 1) := by decide +kernel
theorem d1_18 : decode jdk_42_method_139_code 18 = .ok (.invokestatic 1018, 3) := by decide +kernel
theorem d1_21 : decode jdk_42_method_139_code 21 = .ok (.iconst 0, 1) := by decide +kernel
theorem d1_22 : decode jdk_42_method_139_code 22 = .ok (.invokespecial 209, 3) := by decide +kernel
theorem d1_25 : decode jdk_42_method_139_code 25 = .ok (.areturn, 1) := by decide +kernel
theorem own_pn1 : plainName "java/lang/String" = true := by first | (simp [plainName, overriddenIn]; done) | decide +kernel
theorem own_ef1 (m : MethodId) (x0 : Int32) : entryFrame m #[(.int x0)] 1 = mkF m 0 #[.val (.int x0)] [] := by first | (simp [entryFrame, mkF, argsToLocals, Value.category]; done) | rfl
def QrmVO (Z : State) (x : Int32) (h0 : Heap) (n0 : Nat) (v : Option Value) (h : Heap) (L : List Loc) : Prop := ∃ (b t : Addr) (kc : ClassId), v = some (.ref b) ∧ Fr n0 L ∧ h0.size ≤ b ∧ h0.size ≤ t ∧ Keep h0 h [] ∧ Exa Z h b "java/lang/String" ∧ Fld Z h b "java/lang/String" "value" "[B" (.ref t) ∧ Fld Z h b "java/lang/String" "coder" "B" (.int (0 : Int32)) ∧ Arv Z h t kc .byte (1 : Int32) [(.int (x.toInt8.toInt32))] (.int (0 : Int32))
set_option maxRecDepth 65536 in
set_option maxHeartbeats 40000000 in
theorem rmVO (l : Launch) (Z : State) (a0 : Array Value) (hw : ∀ d ∈ tables_1, d.before a0 Z = true) (ws : List Jvm.Cond) (x cs : Int32) (h0 : Heap) (n0 : Nat) (Z0 : n0 ≤ h0.size) (h255 : ¬ (255 : Int32) < x) (hcs : ¬ (cs = (0 : Int32))) (S_cs : Sta Z h0 "java/lang/String" "COMPACT_STRINGS" "Z" (.int cs)) :
    MetFree l (⟨"java/lang/String", "valueOf", "(C)Ljava/lang/String;"⟩ : MethodName) (head1 (Jvm.Cond.code (⟨"java/lang/String", "valueOf", "(C)Ljava/lang/String;"⟩ : MethodName) jdk_42_method_139_code 1 (some (.object "java/lang/String")) :: ws) ({ frames := 2, cells := 2, slots := 5, locals := 29 } : Room)) (fun ar_ U_ => ar_ = #[(.int x)] ∧ Z.Warmed39 U_.vm ∧ U_.heap = h0) (fun _ _ _ _ _ => True) (fun _ U_ ou_ V_ => ∃ v_ L_, ou_ = .returned v_ ∧ QrmVO Z x h0 n0 v_ V_.heap L_ ∧ FrameEnd U_ ou_ V_ L_ ({ frames := 2, cells := 2, slots := 5, locals := 29 } : Room).cells ({ frames := 2, cells := 2, slots := 5, locals := 29 } : Room).slots) := by
  refine MetFree.of_bodySF (plainFor_of_name own_pn1) hisR ?_
  intro p e s m args below meth c s₁ Bd hml0 hP hK
  obtain ⟨rfl, hZ, hh⟩ := hP
  have hx := Bd.exec
  have hby := Bd.bytes
  have hml : c.maxLocals = 1 := hml0
  have hown : s.vm.findClass "java/lang/String" = some m.cls := findClass_of_methodNamed Bd.named
  have hnm := (name_of_methodNamed Bd.named Bd.method).1
  have X0 : Stand p l e ({ frames := 2, cells := 2, slots := 5, locals := 29 } : Room) s m #[(.int x)] below meth c s₁ [] 0 0 := Stand.of_body Bd
  have e0 : s₁.heap = h0 := by rw [← hh, Bd.state]; rfl
  have N0 := Fr.nil n0
  have Kp0 : Keep h0 h0 [] := Keep.refl h0 _
  refine own_go (A := s₁.setTop (mkF m 0 #[.val (.int x)] [])) (fun t kz => castTop (own_ef1 m x) kz) ?_
  obtain ⟨T1, X1, e1, st1⟩ := getS2 X0 hx hZ hown (host := "") (Or.inl (hw _ (List.mem_of_getElem? (i := 4) rfl))) Via.refl e0 S_cs (g := (mkF m 0 #[.val (.int x)] [])) rfl (hb hby d1_0)
  refine own_go (A := T1.setTop (mkF m 3 #[.val (.int x)] [(.int cs)])) (fun _ kz => st1 _ kz) ?_
  refine own_go (A := T1.setTop (mkF m 7 #[.val (.int x)] [(.int x)])) (fun _ kz => ?_) ?_
  · show Steps p.tables e below (T1.setTop (mkF m 3 #[.val (.int x)] [(.int cs)])) _
    refine XS.ifNo X1.here hx rfl (hb hby d1_3) rfl ((if0 _ _).trans (feq hcs).1) ?_
    show Steps p.tables e below (T1.setTop (mkF m 6 #[.val (.int x)] [])) _
    refine XS.iloadN X1.here hx rfl (hb hby d1_6) rfl ?_
    exact kz
  obtain ⟨_, _, ⟨T2, L2, k2, n2⟩, -, X2, ⟨Lc2, hQ2, l2, y2, z2⟩, st2⟩ := Jvm.LawKit.callS X1 hx (y := (⟨"java/lang/StringLatin1", "canEncode", "(C)Z"⟩ : MethodName)) hown (mvT hZ (hw _ (List.mem_of_getElem? (i := 5) rfl))) (mvT hZ (hw _ (List.mem_of_getElem? (i := 6) rfl))) (mvT hZ (hw _ (List.mem_of_getElem? (i := 7) rfl))) (mvT hZ (hw _ (List.mem_of_getElem? (i := 8) rfl))) (by decide) (backOf (W := 0) (rmCan l Z a0 hw [] x h0 n0 Z0 h255) hZ (hw _ (List.mem_of_getElem? (i := 8) rfl)) (hw _ (List.mem_of_getElem? (i := 7) rfl)) (by decide) (by decide)) (g := (mkF m 7 #[.val (.int x)] [(.int x)])) rfl (by rw [hml]; rfl) (argsL := [(.int x)]) (rest := []) (lenOf own_pd0 rfl) rfl (by show 2 * 0 + _ ≤ _; exact Nat.le_of_eq rfl) (hb hby d1_7) (fun _ _ => ⟨rfl, e1, (by decide : 0 + 0 ≤ _), (by decide : 0 + 0 ≤ _)⟩)
  dsimp only [Pt.U, Pt.locs, Pt.cells, Pt.slots] at X2 l2 y2 z2 st2 hQ2
  subst l2 y2 z2
  obtain ⟨rfl, N2q, e2⟩ := hQ2
  have N2 := Fr.app N0 N2q
  refine own_go (A := T2.setTop (mkF m 10 #[.val (.int x)] [(.int (1 : Int32))])) (fun _ kz => st2 _ kz) ?_
  refine own_go (A := T2.setTop (mkF m 13 #[.val (.int x)] [])) (fun _ kz => ?_) ?_
  · show Steps p.tables e below (T2.setTop (mkF m 10 #[.val (.int x)] [(.int (1 : Int32))])) _
    refine XS.ifNo X2.here hx rfl (hb hby d1_10) rfl ((if0 _ _).trans (feq (by decide : ¬ ((1 : Int32) = (0 : Int32)))).1) ?_
    exact kz
  obtain ⟨T3, h3, X3, e3, E3, A3, D3, -, st3⟩ := newO X2 hx hZ hown (hw _ (List.mem_of_getElem? (i := 9) rfl)) (hw _ (List.mem_of_getElem? (i := 10) rfl)) (hw _ (List.mem_of_getElem? (i := 2) rfl)) e2 (g := (mkF m 13 #[.val (.int x)] [])) rfl (hb hby d1_13) (by decide) (by decide)
  obtain ⟨b3, gq3⟩ : ∃ z, z = h0.size := ⟨_, rfl⟩
  rw [← gq3] at A3 D3 st3
  have g_b3 : n0 ≤ b3 := Nat.le_trans Z0 (Nat.le_of_eq gq3.symm)
  have szk_b3 : h0.size ≤ b3 := Nat.le_trans Kp0.1 (Nat.le_of_eq gq3.symm)
  replace S_cs := S_cs.ext E3
  have Z3 : n0 ≤ h3.size := Nat.le_trans Z0 E3.1
  have Kp3 : Keep h0 h3 [] := Kp0.ext E3
  have Ex_b3 := A3
  have F_value_b3 : Fld Z h3 b3 "java/lang/String" "value" "[B" .null := D3 (Or.inr (hw _ (List.mem_of_getElem? (i := 23) rfl))) (ty := (.array .byte)) (by decide)
  have F_coder_b3 : Fld Z h3 b3 "java/lang/String" "coder" "B" (.int (0 : Int32)) := D3 (Or.inr (hw _ (List.mem_of_getElem? (i := 25) rfl))) (ty := .byte) (by decide)
  refine own_go (A := T3.setTop (mkF m 16 #[.val (.int x)] [(.ref b3)])) (fun _ kz => st3 _ kz) ?_
  refine own_go (A := T3.setTop (mkF m 18 #[.val (.int x)] [(.int x), (.ref b3), (.ref b3)])) (fun _ kz => ?_) ?_
  · show Steps p.tables e below (T3.setTop (mkF m 16 #[.val (.int x)] [(.ref b3)])) _
    refine XS.dup X3.here hx rfl (hb hby d1_16) rfl rfl ?_
    show Steps p.tables e below (T3.setTop (mkF m 17 #[.val (.int x)] [(.ref b3), (.ref b3)])) _
    refine XS.iloadN X3.here hx rfl (hb hby d1_17) rfl ?_
    exact kz
  obtain ⟨_, _, ⟨T4, L4, k4, n4⟩, -, X4, ⟨Lc4, hQ4, l4, y4, z4⟩, st4⟩ := Jvm.LawKit.callS X3 hx (y := (⟨"java/lang/StringLatin1", "toBytes", "(C)[B"⟩ : MethodName)) hown (mvT hZ (hw _ (List.mem_of_getElem? (i := 11) rfl))) (mvT hZ (hw _ (List.mem_of_getElem? (i := 12) rfl))) (mvT hZ (hw _ (List.mem_of_getElem? (i := 7) rfl))) (mvT hZ (hw _ (List.mem_of_getElem? (i := 13) rfl))) (by decide) (backOf (W := 2) (rmTB l Z a0 hw [] x h3 n0 Z3) hZ (hw _ (List.mem_of_getElem? (i := 13) rfl)) (hw _ (List.mem_of_getElem? (i := 7) rfl)) (by decide) (by decide)) (g := (mkF m 18 #[.val (.int x)] [(.int x), (.ref b3), (.ref b3)])) rfl (by rw [hml]; rfl) (argsL := [(.int x)]) (rest := [(.ref b3), (.ref b3)]) (lenOf own_pd1 rfl) rfl (by show 2 * 0 + _ ≤ _; exact Nat.le_of_eq rfl) (hb hby d1_18) (fun _ _ => ⟨rfl, e3, (by decide : 1 + 1 ≤ _), (by decide : 4 + 1 ≤ _)⟩)
  dsimp only [Pt.U, Pt.locs, Pt.cells, Pt.slots] at X4 l4 y4 z4 st4 hQ4
  subst l4 y4 z4
  obtain ⟨c4, kc4, rfl, N4q, zc4, K4q, Av4⟩ := hQ4
  have N4 := Fr.app N2 N4q
  have ne_b3_c4 : b3 ≠ c4 := Nat.ne_of_lt (Nat.lt_of_lt_of_le Ex_b3.lt zc4)
  have g_c4 : n0 ≤ c4 := Nat.le_trans Z3 zc4
  have szk_c4 : h0.size ≤ c4 := Nat.le_trans Kp3.1 zc4
  replace S_cs := own_staKeep S_cs K4q all0
  replace Ex_b3 := Ex_b3.keep K4q
  replace F_value_b3 := F_value_b3.keep K4q nin0
  replace F_coder_b3 := F_coder_b3.keep K4q nin0
  have Z4 : n0 ≤ T4.heap.size := Nat.le_trans Z3 K4q.1
  have Kp4 : Keep h0 T4.heap [] := Kp3.trans K4q (all0)
  refine own_go (A := T4.setTop (mkF m 21 #[.val (.int x)] [(.ref c4), (.ref b3), (.ref b3)])) (fun _ kz => st4 _ kz) ?_
  refine own_go (A := T4.setTop (mkF m 22 #[.val (.int x)] [(.int (0 : Int32)), (.ref c4), (.ref b3), (.ref b3)])) (fun _ kz => ?_) ?_
  · show Steps p.tables e below (T4.setTop (mkF m 21 #[.val (.int x)] [(.ref c4), (.ref b3), (.ref b3)])) _
    refine XS.iconst X4.here hx rfl (hb hby d1_21) ?_
    exact kz
  obtain ⟨_, _, ⟨T5, L5, k5, n5⟩, -, X5, ⟨Lc5, hQ5, l5, y5, z5⟩, st5⟩ := X4.specialBack hx (y := (⟨"java/lang/String", "<init>", "([BB)V"⟩ : MethodName)) rfl hown (mvT hZ (hw _ (List.mem_of_getElem? (i := 15) rfl))) (mvT hZ (hw _ (List.mem_of_getElem? (i := 16) rfl))) (mvT hZ (hw _ (List.mem_of_getElem? (i := 18) rfl))) (by decide) (backOf (W := 1) (rmSI l Z a0 hw [] b3 c4 T4.heap n0 Z4 Ex_b3 F_value_b3 F_coder_b3 g_b3) hZ (hw _ (List.mem_of_getElem? (i := 18) rfl)) (hw _ (List.mem_of_getElem? (i := 2) rfl)) (by decide) (by decide)) (g := (mkF m 22 #[.val (.int x)] [(.int (0 : Int32)), (.ref c4), (.ref b3), (.ref b3)])) rfl (by rw [hml]; rfl) (Steps.refl _) (a := b3) (argsL := [(.ref c4), (.int (0 : Int32))]) (rest := [(.ref b3)]) (lenOf own_pd2 rfl) rfl (by show 2 * 0 + _ ≤ _; exact Nat.le_of_eq rfl) (hb hby d1_22) (fun _ _ => ⟨rfl, rfl, (by decide : 2 + 0 ≤ _), (by decide : 5 + 0 ≤ _)⟩)
  dsimp only [Pt.U, Pt.locs, Pt.cells, Pt.slots] at X5 l5 y5 z5 st5 hQ5
  subst l5 y5 z5
  obtain ⟨rfl, N5q, K5q, _, Fv5, Fc5⟩ := hQ5
  have N5 := Fr.app N4 N5q
  replace S_cs := own_staKeep S_cs K5q (allS (own_ns Ex_b3) all0)
  replace Ex_b3 := Ex_b3.keep K5q
  replace Av4 := Av4.keep K5q (ninS (Ne.symm ne_b3_c4) nin0)
  have Z5 : n0 ≤ T5.heap.size := Nat.le_trans Z4 K5q.1
  have Kp5 : Keep h0 T5.heap [] := Kp4.trans K5q (allS (Or.inr szk_b3) (all0))
  refine own_go (A := T5.setTop (mkF m 25 #[.val (.int x)] [(.ref b3)])) (fun _ kz => st5.trans kz) ?_
  obtain ⟨fs, hrr, hrun, hended, hW, hsame⟩ := X5.leave (v := some (.ref b3)) (fun h => by rw [Bd.returns] at h; cases h)
  refine ⟨_, _, ?_, hrun, hended, _, _, rfl, ?_, ⟨_, rfl⟩, hW, hsame.mono (by decide) (by decide)⟩
  · show Steps p.tables e below (T5.setTop (mkF m 25 #[.val (.int x)] [(.ref b3)])) _
    exact retOut X5 hx (t := (.object "java/lang/String")) Bd.returns rfl (Or.inr (Or.inr (Or.inr (Or.inr ⟨rfl, rfl, rfl⟩)))) (hb hby d1_25) hrr
  · show QrmVO Z x h0 n0 _ T5.heap _
    exact ⟨b3, c4, kc4, rfl, N5, szk_b3, szk_c4, Kp5, Ex_b3, Fv5, Fc5, Av4⟩
theorem d6_0 : decode method_2_code 0 = .ok (.iload_n 0, 1) := by decide +kernel
theorem d6_1 : decode method_2_code 1 = .ok (.ldc 7, 2) := by decide +kernel
theorem d6_3 : decode method_2_code 3 = .ok (.iand, 1) := by decide +kernel
theorem d6_4 : decode method_2_code 4 = .ok (.bipush 67, 2) := by decide +kernel
theorem d6_6 : decode method_2_code 6 = .ok (.irem, 1) := by decide +kernel
theorem d6_7 : decode method_2_code 7 = .ok (.istore_n 1, 1) := by decide +kernel
theorem d6_8 : decode method_2_code 8 = .ok (.iload_n 1, 1) := by decide +kernel
theorem d6_9 : decode method_2_code 9 = .ok (.bipush 26, 2) := by decide +kernel
theorem d6_11 : decode method_2_code 11 = .ok (.if_icmp .ge 9, 3) := by decide +kernel
theorem d6_14 : decode method_2_code 14 = .ok (.bipush 65, 2) := by decide +kernel
theorem d6_16 : decode method_2_code 16 = .ok (.iload_n 1, 1) := by decide +kernel
theorem d6_17 : decode method_2_code 17 = .ok (.iadd, 1) := by decide +kernel
theorem d6_18 : decode method_2_code 18 = .ok (.i2c, 1) := by decide +kernel
theorem d6_19 : decode method_2_code 19 = .ok (.ireturn, 1) := by decide +kernel
theorem d6_20 : decode method_2_code 20 = .ok (.iload_n 1, 1) := by decide +kernel
theorem d6_21 : decode method_2_code 21 = .ok (.bipush 52, 2) := by decide +kernel
theorem d6_23 : decode method_2_code 23 = .ok (.if_icmp .ge 12, 3) := by decide +kernel
theorem d6_26 : decode method_2_code 26 = .ok (.bipush 97, 2) := by decide +kernel
theorem d6_28 : decode method_2_code 28 = .ok (.iload_n 1, 1) := by decide +kernel
theorem d6_29 : decode method_2_code 29 = .ok (.bipush 26, 2) := by decide +kernel
theorem d6_31 : decode method_2_code 31 = .ok (.isub, 1) := by decide +kernel
theorem d6_32 : decode method_2_code 32 = .ok (.iadd, 1) := by decide +kernel
theorem d6_33 : decode method_2_code 33 = .ok (.i2c, 1) := by decide +kernel
theorem d6_34 : decode method_2_code 34 = .ok (.ireturn, 1) := by decide +kernel
theorem d6_35 : decode method_2_code 35 = .ok (.iload_n 1, 1) := by decide +kernel
theorem d6_36 : decode method_2_code 36 = .ok (.bipush 62, 2) := by decide +kernel
theorem d6_38 : decode method_2_code 38 = .ok (.if_icmp .ge 12, 3) := by decide +kernel
theorem d6_41 : decode method_2_code 41 = .ok (.bipush 48, 2) := by decide +kernel
theorem d6_43 : decode method_2_code 43 = .ok (.iload_n 1, 1) := by decide +kernel
theorem d6_44 : decode method_2_code 44 = .ok (.bipush 52, 2) := by decide +kernel
theorem d6_46 : decode method_2_code 46 = .ok (.isub, 1) := by decide +kernel
theorem d6_47 : decode method_2_code 47 = .ok (.iadd, 1) := by decide +kernel
theorem d6_48 : decode method_2_code 48 = .ok (.i2c, 1) := by decide +kernel
theorem d6_49 : decode method_2_code 49 = .ok (.ireturn, 1) := by decide +kernel
theorem d6_50 : decode method_2_code 50 = .ok (.iload_n 1, 1) := by decide +kernel
theorem d6_51 : decode method_2_code 51 = .ok (.bipush 62, 2) := by decide +kernel
theorem d6_53 : decode method_2_code 53 = .ok (.if_icmp .ne 6, 3) := by decide +kernel
theorem d6_56 : decode method_2_code 56 = .ok (.bipush 95, 2) := by decide +kernel
theorem d6_58 : decode method_2_code 58 = .ok (.ireturn, 1) := by decide +kernel
theorem d6_59 : decode method_2_code 59 = .ok (.iload_n 1, 1) := by decide +kernel
theorem d6_60 : decode method_2_code 60 = .ok (.bipush 63, 2) := by decide +kernel
theorem d6_62 : decode method_2_code 62 = .ok (.if_icmp .ne 6, 3) := by decide +kernel
theorem d6_65 : decode method_2_code 65 = .ok (.bipush 46, 2) := by decide +kernel
theorem d6_67 : decode method_2_code 67 = .ok (.ireturn, 1) := by decide +kernel
theorem d6_68 : decode method_2_code 68 = .ok (.iload_n 1, 1) := by decide +kernel
theorem d6_69 : decode method_2_code 69 = .ok (.bipush 64, 2) := by decide +kernel
theorem d6_71 : decode method_2_code 71 = .ok (.if_icmp .ne 6, 3) := by decide +kernel
theorem d6_74 : decode method_2_code 74 = .ok (.bipush 58, 2) := by decide +kernel
theorem d6_76 : decode method_2_code 76 = .ok (.ireturn, 1) := by decide +kernel
theorem d6_77 : decode method_2_code 77 = .ok (.iload_n 1, 1) := by decide +kernel
theorem d6_78 : decode method_2_code 78 = .ok (.bipush 65, 2) := by decide +kernel
theorem d6_80 : decode method_2_code 80 = .ok (.if_icmp .ne 6, 3) := by decide +kernel
theorem d6_83 : decode method_2_code 83 = .ok (.bipush 47, 2) := by decide +kernel
theorem d6_85 : decode method_2_code 85 = .ok (.ireturn, 1) := by decide +kernel
theorem d6_86 : decode method_2_code 86 = .ok (.bipush 45, 2) := by decide +kernel
theorem d6_88 : decode method_2_code 88 = .ok (.ireturn, 1) := by decide +kernel
theorem own_pn6 : plainName "com/example/quartermaster/quartermaster/NamesRequirePinLaw" = true := by first | (simp [plainName, overriddenIn]; done) | decide +kernel
theorem own_ef6 (m : MethodId) (x0 : Int32) : entryFrame m #[(.int x0)] 2 = mkF m 0 #[.val (.int x0), .unset] [] := by first | (simp [entryFrame, mkF, argsToLocals, Value.category]; done) | rfl
def QrmPick (Z : State)  (h0 : Heap) (n0 : Nat) (v : Option Value) (h : Heap) (L : List Loc) : Prop := ∃ r : Int32, v = some (.int r) ∧ own_ok r = true ∧ Fr n0 L ∧ h = h0
set_option maxRecDepth 65536 in
set_option maxHeartbeats 40000000 in
theorem rmPick (l : Launch) (Z : State) (a0 : Array Value) (hw : ∀ d ∈ tables_1, d.before a0 Z = true) (ws : List Jvm.Cond) (x : Int32) (h0 : Heap) (n0 : Nat) (Z0 : n0 ≤ h0.size)  :
    MetFree l (⟨"com/example/quartermaster/quartermaster/NamesRequirePinLaw", "pick", "(I)C"⟩ : MethodName) (head1 (Jvm.Cond.code (⟨"com/example/quartermaster/quartermaster/NamesRequirePinLaw", "pick", "(I)C"⟩ : MethodName) method_2_code 2 (some .char) :: ws) ({ frames := 0, cells := 0, slots := 0, locals := 0 } : Room)) (fun ar_ U_ => ar_ = #[(.int x)] ∧ Z.Warmed39 U_.vm ∧ U_.heap = h0) (fun _ _ _ _ _ => True) (fun _ U_ ou_ V_ => ∃ v_ L_, ou_ = .returned v_ ∧ QrmPick Z  h0 n0 v_ V_.heap L_ ∧ FrameEnd U_ ou_ V_ L_ ({ frames := 0, cells := 0, slots := 0, locals := 0 } : Room).cells ({ frames := 0, cells := 0, slots := 0, locals := 0 } : Room).slots) := by
  refine MetFree.of_bodySF (plainFor_of_name own_pn6) hisR ?_
  intro p e s m args below meth c s₁ Bd hml0 hP hK
  obtain ⟨rfl, hZ, hh⟩ := hP
  have hx := Bd.exec
  have hby := Bd.bytes
  have hml : c.maxLocals = 2 := hml0
  have hown : s.vm.findClass "com/example/quartermaster/quartermaster/NamesRequirePinLaw" = some m.cls := findClass_of_methodNamed Bd.named
  have hnm := (name_of_methodNamed Bd.named Bd.method).1
  have X0 : Stand p l e ({ frames := 0, cells := 0, slots := 0, locals := 0 } : Room) s m #[(.int x)] below meth c s₁ [] 0 0 := Stand.of_body Bd
  have e0 : s₁.heap = h0 := by rw [← hh, Bd.state]; rfl
  have N0 := Fr.nil n0
  refine own_go (A := s₁.setTop (mkF m 0 #[.val (.int x), .unset] [])) (fun t kz => castTop (own_ef6 m x) kz) ?_
  refine own_go (A := s₁.setTop (mkF m 8 #[.val (.int x), .val (.int ((x &&& (2147483647 : Int32)) % (67 : Int32)))] [])) (fun _ kz => ?_) ?_
  · show Steps p.tables e below (s₁.setTop (mkF m 0 #[.val (.int x), .unset] [])) _
    refine XS.iloadN X0.here hx rfl (hb hby d6_0) rfl ?_
    show Steps p.tables e below (s₁.setTop (mkF m 1 #[.val (.int x), .unset] [(.int x)])) _
    refine X0.ldcInt hx hown (mvT hZ (hw _ (List.mem_of_getElem? (i := 30) rfl))) (g := (mkF m 1 #[.val (.int x), .unset] [(.int x)])) rfl (hb hby d6_1) _ ?_
    show Steps p.tables e below (s₁.setTop (mkF m 3 #[.val (.int x), .unset] [(.int (2147483647 : Int32)), (.int x)])) _
    refine XS.iand X0.here hx rfl (hb hby d6_3) rfl ?_
    show Steps p.tables e below (s₁.setTop (mkF m 4 #[.val (.int x), .unset] [(.int (x &&& (2147483647 : Int32)))])) _
    refine XS.bipush X0.here hx rfl (hb hby d6_4) ?_
    show Steps p.tables e below (s₁.setTop (mkF m 6 #[.val (.int x), .unset] [(.int (67 : Int32)), (.int (x &&& (2147483647 : Int32)))])) _
    refine iremM X0 hx rfl (hb hby d6_6) rfl (by decide) ?_
    show Steps p.tables e below (s₁.setTop (mkF m 7 #[.val (.int x), .unset] [(.int ((x &&& (2147483647 : Int32)) % (67 : Int32)))])) _
    refine XS.istoreN X0.here hx rfl (hb hby d6_7) rfl (l' := #[.val (.int x), .val (.int ((x &&& (2147483647 : Int32)) % (67 : Int32)))]) rfl ?_
    exact kz
  obtain ⟨kk, hkk⟩ : ∃ z, z = ((x &&& (2147483647 : Int32)) % (67 : Int32)) := ⟨_, rfl⟩
  refine own_go (A := s₁.setTop (mkF m 8 #[.val (.int x), .val (.int kk)] [])) (fun _ kz => by rw [hkk] at kz; exact kz) ?_
  obtain ⟨nn, hnn⟩ := own_fin67 _ hkk
  refine own_go (A := s₁.setTop (mkF m 11 #[.val (.int x), .val (.int kk)] [(.int (26 : Int32)), (.int kk)])) (fun _ kz => ?_) ?_
  · show Steps p.tables e below (s₁.setTop (mkF m 8 #[.val (.int x), .val (.int kk)] [])) _
    refine XS.iloadN X0.here hx rfl (hb hby d6_8) rfl ?_
    show Steps p.tables e below (s₁.setTop (mkF m 9 #[.val (.int x), .val (.int kk)] [(.int kk)])) _
    refine XS.bipush X0.here hx rfl (hb hby d6_9) ?_
    exact kz
  by_cases hs1 : kk < (26 : Int32)
  · skip
    refine own_go (A := s₁.setTop (mkF m 14 #[.val (.int x), .val (.int kk)] [])) (fun _ kz => ?_) ?_
    · show Steps p.tables e below (s₁.setTop (mkF m 11 #[.val (.int x), .val (.int kk)] [(.int (26 : Int32)), (.int kk)])) _
      refine XS.icmpNo X0.here hx rfl (hb hby d6_11) rfl (tlt hs1).2.1 ?_
      exact kz
    refine own_go (A := s₁.setTop (mkF m 19 #[.val (.int x), .val (.int kk)] [(.int (((65 : Int32) + kk).toUInt32.toUInt16.toUInt32.toInt32))])) (fun _ kz => ?_) ?_
    · show Steps p.tables e below (s₁.setTop (mkF m 14 #[.val (.int x), .val (.int kk)] [])) _
      refine XS.bipush X0.here hx rfl (hb hby d6_14) ?_
      show Steps p.tables e below (s₁.setTop (mkF m 16 #[.val (.int x), .val (.int kk)] [(.int (65 : Int32))])) _
      refine XS.iloadN X0.here hx rfl (hb hby d6_16) rfl ?_
      show Steps p.tables e below (s₁.setTop (mkF m 17 #[.val (.int x), .val (.int kk)] [(.int kk), (.int (65 : Int32))])) _
      refine XS.iadd X0.here hx rfl (hb hby d6_17) rfl ?_
      show Steps p.tables e below (s₁.setTop (mkF m 18 #[.val (.int x), .val (.int kk)] [(.int ((65 : Int32) + kk))])) _
      refine XS.i2c X0.here hx rfl (hb hby d6_18) rfl ?_
      exact kz
    obtain ⟨fs, hrr, hrun, hended, hW, hsame⟩ := X0.leave (v := some (.int (nar .char (((65 : Int32) + kk).toUInt32.toUInt16.toUInt32.toInt32)))) (fun h => by rw [Bd.returns] at h; cases h)
    refine ⟨_, _, ?_, hrun, hended, _, _, rfl, ?_, ⟨_, rfl⟩, hW, hsame.mono (by decide) (by decide)⟩
    · show Steps p.tables e below (s₁.setTop (mkF m 19 #[.val (.int x), .val (.int kk)] [(.int (((65 : Int32) + kk).toUInt32.toUInt16.toUInt32.toInt32))])) _
      exact retN X0 hx (t := .char) Bd.returns (by simp) (hb hby d6_19) hrr
    · show QrmPick Z  h0 n0 _ s₁.heap _
      rw [e0]
      refine ⟨_, rfl, ?_, N0, rfl⟩
      subst hnn
      exact (by decide +kernel : ∀ n_ : Fin 67, ((Int32.ofNat n_.val) < (26 : Int32)) → own_ok (nar .char (((65 : Int32) + (Int32.ofNat n_.val)).toUInt32.toUInt16.toUInt32.toInt32)) = true) nn hs1
  · skip
    refine own_go (A := s₁.setTop (mkF m 20 #[.val (.int x), .val (.int kk)] [])) (fun _ kz => ?_) ?_
    · show Steps p.tables e below (s₁.setTop (mkF m 11 #[.val (.int x), .val (.int kk)] [(.int (26 : Int32)), (.int kk)])) _
      refine XS.icmpYes X0.here hx rfl (pc0 := 11) (pc' := 20) rfl (hb hby d6_11) rfl (flt hs1).2.1 (by decide) (by decide) ?_
      exact kz
    refine own_go (A := s₁.setTop (mkF m 23 #[.val (.int x), .val (.int kk)] [(.int (52 : Int32)), (.int kk)])) (fun _ kz => ?_) ?_
    · show Steps p.tables e below (s₁.setTop (mkF m 20 #[.val (.int x), .val (.int kk)] [])) _
      refine XS.iloadN X0.here hx rfl (hb hby d6_20) rfl ?_
      show Steps p.tables e below (s₁.setTop (mkF m 21 #[.val (.int x), .val (.int kk)] [(.int kk)])) _
      refine XS.bipush X0.here hx rfl (hb hby d6_21) ?_
      exact kz
    by_cases hs2 : kk < (52 : Int32)
    · skip
      refine own_go (A := s₁.setTop (mkF m 26 #[.val (.int x), .val (.int kk)] [])) (fun _ kz => ?_) ?_
      · show Steps p.tables e below (s₁.setTop (mkF m 23 #[.val (.int x), .val (.int kk)] [(.int (52 : Int32)), (.int kk)])) _
        refine XS.icmpNo X0.here hx rfl (hb hby d6_23) rfl (tlt hs2).2.1 ?_
        exact kz
      refine own_go (A := s₁.setTop (mkF m 34 #[.val (.int x), .val (.int kk)] [(.int (((97 : Int32) + (kk - (26 : Int32))).toUInt32.toUInt16.toUInt32.toInt32))])) (fun _ kz => ?_) ?_
      · show Steps p.tables e below (s₁.setTop (mkF m 26 #[.val (.int x), .val (.int kk)] [])) _
        refine XS.bipush X0.here hx rfl (hb hby d6_26) ?_
        show Steps p.tables e below (s₁.setTop (mkF m 28 #[.val (.int x), .val (.int kk)] [(.int (97 : Int32))])) _
        refine XS.iloadN X0.here hx rfl (hb hby d6_28) rfl ?_
        show Steps p.tables e below (s₁.setTop (mkF m 29 #[.val (.int x), .val (.int kk)] [(.int kk), (.int (97 : Int32))])) _
        refine XS.bipush X0.here hx rfl (hb hby d6_29) ?_
        show Steps p.tables e below (s₁.setTop (mkF m 31 #[.val (.int x), .val (.int kk)] [(.int (26 : Int32)), (.int kk), (.int (97 : Int32))])) _
        refine XS.isub X0.here hx rfl (hb hby d6_31) rfl ?_
        show Steps p.tables e below (s₁.setTop (mkF m 32 #[.val (.int x), .val (.int kk)] [(.int (kk - (26 : Int32))), (.int (97 : Int32))])) _
        refine XS.iadd X0.here hx rfl (hb hby d6_32) rfl ?_
        show Steps p.tables e below (s₁.setTop (mkF m 33 #[.val (.int x), .val (.int kk)] [(.int ((97 : Int32) + (kk - (26 : Int32))))])) _
        refine XS.i2c X0.here hx rfl (hb hby d6_33) rfl ?_
        exact kz
      obtain ⟨fs, hrr, hrun, hended, hW, hsame⟩ := X0.leave (v := some (.int (nar .char (((97 : Int32) + (kk - (26 : Int32))).toUInt32.toUInt16.toUInt32.toInt32)))) (fun h => by rw [Bd.returns] at h; cases h)
      refine ⟨_, _, ?_, hrun, hended, _, _, rfl, ?_, ⟨_, rfl⟩, hW, hsame.mono (by decide) (by decide)⟩
      · show Steps p.tables e below (s₁.setTop (mkF m 34 #[.val (.int x), .val (.int kk)] [(.int (((97 : Int32) + (kk - (26 : Int32))).toUInt32.toUInt16.toUInt32.toInt32))])) _
        exact retN X0 hx (t := .char) Bd.returns (by simp) (hb hby d6_34) hrr
      · show QrmPick Z  h0 n0 _ s₁.heap _
        rw [e0]
        refine ⟨_, rfl, ?_, N0, rfl⟩
        subst hnn
        exact (by decide +kernel : ∀ n_ : Fin 67, ¬ ((Int32.ofNat n_.val) < (26 : Int32)) → ((Int32.ofNat n_.val) < (52 : Int32)) → own_ok (nar .char (((97 : Int32) + ((Int32.ofNat n_.val) - (26 : Int32))).toUInt32.toUInt16.toUInt32.toInt32)) = true) nn hs1 hs2
    · skip
      refine own_go (A := s₁.setTop (mkF m 35 #[.val (.int x), .val (.int kk)] [])) (fun _ kz => ?_) ?_
      · show Steps p.tables e below (s₁.setTop (mkF m 23 #[.val (.int x), .val (.int kk)] [(.int (52 : Int32)), (.int kk)])) _
        refine XS.icmpYes X0.here hx rfl (pc0 := 23) (pc' := 35) rfl (hb hby d6_23) rfl (flt hs2).2.1 (by decide) (by decide) ?_
        exact kz
      refine own_go (A := s₁.setTop (mkF m 38 #[.val (.int x), .val (.int kk)] [(.int (62 : Int32)), (.int kk)])) (fun _ kz => ?_) ?_
      · show Steps p.tables e below (s₁.setTop (mkF m 35 #[.val (.int x), .val (.int kk)] [])) _
        refine XS.iloadN X0.here hx rfl (hb hby d6_35) rfl ?_
        show Steps p.tables e below (s₁.setTop (mkF m 36 #[.val (.int x), .val (.int kk)] [(.int kk)])) _
        refine XS.bipush X0.here hx rfl (hb hby d6_36) ?_
        exact kz
      by_cases hs3 : kk < (62 : Int32)
      · skip
        refine own_go (A := s₁.setTop (mkF m 41 #[.val (.int x), .val (.int kk)] [])) (fun _ kz => ?_) ?_
        · show Steps p.tables e below (s₁.setTop (mkF m 38 #[.val (.int x), .val (.int kk)] [(.int (62 : Int32)), (.int kk)])) _
          refine XS.icmpNo X0.here hx rfl (hb hby d6_38) rfl (tlt hs3).2.1 ?_
          exact kz
        refine own_go (A := s₁.setTop (mkF m 49 #[.val (.int x), .val (.int kk)] [(.int (((48 : Int32) + (kk - (52 : Int32))).toUInt32.toUInt16.toUInt32.toInt32))])) (fun _ kz => ?_) ?_
        · show Steps p.tables e below (s₁.setTop (mkF m 41 #[.val (.int x), .val (.int kk)] [])) _
          refine XS.bipush X0.here hx rfl (hb hby d6_41) ?_
          show Steps p.tables e below (s₁.setTop (mkF m 43 #[.val (.int x), .val (.int kk)] [(.int (48 : Int32))])) _
          refine XS.iloadN X0.here hx rfl (hb hby d6_43) rfl ?_
          show Steps p.tables e below (s₁.setTop (mkF m 44 #[.val (.int x), .val (.int kk)] [(.int kk), (.int (48 : Int32))])) _
          refine XS.bipush X0.here hx rfl (hb hby d6_44) ?_
          show Steps p.tables e below (s₁.setTop (mkF m 46 #[.val (.int x), .val (.int kk)] [(.int (52 : Int32)), (.int kk), (.int (48 : Int32))])) _
          refine XS.isub X0.here hx rfl (hb hby d6_46) rfl ?_
          show Steps p.tables e below (s₁.setTop (mkF m 47 #[.val (.int x), .val (.int kk)] [(.int (kk - (52 : Int32))), (.int (48 : Int32))])) _
          refine XS.iadd X0.here hx rfl (hb hby d6_47) rfl ?_
          show Steps p.tables e below (s₁.setTop (mkF m 48 #[.val (.int x), .val (.int kk)] [(.int ((48 : Int32) + (kk - (52 : Int32))))])) _
          refine XS.i2c X0.here hx rfl (hb hby d6_48) rfl ?_
          exact kz
        obtain ⟨fs, hrr, hrun, hended, hW, hsame⟩ := X0.leave (v := some (.int (nar .char (((48 : Int32) + (kk - (52 : Int32))).toUInt32.toUInt16.toUInt32.toInt32)))) (fun h => by rw [Bd.returns] at h; cases h)
        refine ⟨_, _, ?_, hrun, hended, _, _, rfl, ?_, ⟨_, rfl⟩, hW, hsame.mono (by decide) (by decide)⟩
        · show Steps p.tables e below (s₁.setTop (mkF m 49 #[.val (.int x), .val (.int kk)] [(.int (((48 : Int32) + (kk - (52 : Int32))).toUInt32.toUInt16.toUInt32.toInt32))])) _
          exact retN X0 hx (t := .char) Bd.returns (by simp) (hb hby d6_49) hrr
        · show QrmPick Z  h0 n0 _ s₁.heap _
          rw [e0]
          refine ⟨_, rfl, ?_, N0, rfl⟩
          subst hnn
          exact (by decide +kernel : ∀ n_ : Fin 67, ¬ ((Int32.ofNat n_.val) < (26 : Int32)) → ¬ ((Int32.ofNat n_.val) < (52 : Int32)) → ((Int32.ofNat n_.val) < (62 : Int32)) → own_ok (nar .char (((48 : Int32) + ((Int32.ofNat n_.val) - (52 : Int32))).toUInt32.toUInt16.toUInt32.toInt32)) = true) nn hs1 hs2 hs3
      · skip
        refine own_go (A := s₁.setTop (mkF m 50 #[.val (.int x), .val (.int kk)] [])) (fun _ kz => ?_) ?_
        · show Steps p.tables e below (s₁.setTop (mkF m 38 #[.val (.int x), .val (.int kk)] [(.int (62 : Int32)), (.int kk)])) _
          refine XS.icmpYes X0.here hx rfl (pc0 := 38) (pc' := 50) rfl (hb hby d6_38) rfl (flt hs3).2.1 (by decide) (by decide) ?_
          exact kz
        refine own_go (A := s₁.setTop (mkF m 53 #[.val (.int x), .val (.int kk)] [(.int (62 : Int32)), (.int kk)])) (fun _ kz => ?_) ?_
        · show Steps p.tables e below (s₁.setTop (mkF m 50 #[.val (.int x), .val (.int kk)] [])) _
          refine XS.iloadN X0.here hx rfl (hb hby d6_50) rfl ?_
          show Steps p.tables e below (s₁.setTop (mkF m 51 #[.val (.int x), .val (.int kk)] [(.int kk)])) _
          refine XS.bipush X0.here hx rfl (hb hby d6_51) ?_
          exact kz
        by_cases hs4 : kk = (62 : Int32)
        · skip
          refine own_go (A := s₁.setTop (mkF m 56 #[.val (.int x), .val (.int kk)] [])) (fun _ kz => ?_) ?_
          · show Steps p.tables e below (s₁.setTop (mkF m 53 #[.val (.int x), .val (.int kk)] [(.int (62 : Int32)), (.int kk)])) _
            refine XS.icmpNo X0.here hx rfl (hb hby d6_53) rfl (teq hs4).2 ?_
            exact kz
          refine own_go (A := s₁.setTop (mkF m 58 #[.val (.int x), .val (.int kk)] [(.int (95 : Int32))])) (fun _ kz => ?_) ?_
          · show Steps p.tables e below (s₁.setTop (mkF m 56 #[.val (.int x), .val (.int kk)] [])) _
            refine XS.bipush X0.here hx rfl (hb hby d6_56) ?_
            exact kz
          obtain ⟨fs, hrr, hrun, hended, hW, hsame⟩ := X0.leave (v := some (.int (95 : Int32))) (fun h => by rw [Bd.returns] at h; cases h)
          refine ⟨_, _, ?_, hrun, hended, _, _, rfl, ?_, ⟨_, rfl⟩, hW, hsame.mono (by decide) (by decide)⟩
          · show Steps p.tables e below (s₁.setTop (mkF m 58 #[.val (.int x), .val (.int kk)] [(.int (95 : Int32))])) _
            exact retN X0 hx (t := .char) Bd.returns (by simp) (hb hby d6_58) hrr
          · show QrmPick Z  h0 n0 _ s₁.heap _
            rw [e0]
            exact ⟨_, rfl, by decide, N0, rfl⟩
        · skip
          refine own_go (A := s₁.setTop (mkF m 59 #[.val (.int x), .val (.int kk)] [])) (fun _ kz => ?_) ?_
          · show Steps p.tables e below (s₁.setTop (mkF m 53 #[.val (.int x), .val (.int kk)] [(.int (62 : Int32)), (.int kk)])) _
            refine XS.icmpYes X0.here hx rfl (pc0 := 53) (pc' := 59) rfl (hb hby d6_53) rfl (feq hs4).2 (by decide) (by decide) ?_
            exact kz
          refine own_go (A := s₁.setTop (mkF m 62 #[.val (.int x), .val (.int kk)] [(.int (63 : Int32)), (.int kk)])) (fun _ kz => ?_) ?_
          · show Steps p.tables e below (s₁.setTop (mkF m 59 #[.val (.int x), .val (.int kk)] [])) _
            refine XS.iloadN X0.here hx rfl (hb hby d6_59) rfl ?_
            show Steps p.tables e below (s₁.setTop (mkF m 60 #[.val (.int x), .val (.int kk)] [(.int kk)])) _
            refine XS.bipush X0.here hx rfl (hb hby d6_60) ?_
            exact kz
          by_cases hs5 : kk = (63 : Int32)
          · skip
            refine own_go (A := s₁.setTop (mkF m 65 #[.val (.int x), .val (.int kk)] [])) (fun _ kz => ?_) ?_
            · show Steps p.tables e below (s₁.setTop (mkF m 62 #[.val (.int x), .val (.int kk)] [(.int (63 : Int32)), (.int kk)])) _
              refine XS.icmpNo X0.here hx rfl (hb hby d6_62) rfl (teq hs5).2 ?_
              exact kz
            refine own_go (A := s₁.setTop (mkF m 67 #[.val (.int x), .val (.int kk)] [(.int (46 : Int32))])) (fun _ kz => ?_) ?_
            · show Steps p.tables e below (s₁.setTop (mkF m 65 #[.val (.int x), .val (.int kk)] [])) _
              refine XS.bipush X0.here hx rfl (hb hby d6_65) ?_
              exact kz
            obtain ⟨fs, hrr, hrun, hended, hW, hsame⟩ := X0.leave (v := some (.int (46 : Int32))) (fun h => by rw [Bd.returns] at h; cases h)
            refine ⟨_, _, ?_, hrun, hended, _, _, rfl, ?_, ⟨_, rfl⟩, hW, hsame.mono (by decide) (by decide)⟩
            · show Steps p.tables e below (s₁.setTop (mkF m 67 #[.val (.int x), .val (.int kk)] [(.int (46 : Int32))])) _
              exact retN X0 hx (t := .char) Bd.returns (by simp) (hb hby d6_67) hrr
            · show QrmPick Z  h0 n0 _ s₁.heap _
              rw [e0]
              exact ⟨_, rfl, by decide, N0, rfl⟩
          · skip
            refine own_go (A := s₁.setTop (mkF m 68 #[.val (.int x), .val (.int kk)] [])) (fun _ kz => ?_) ?_
            · show Steps p.tables e below (s₁.setTop (mkF m 62 #[.val (.int x), .val (.int kk)] [(.int (63 : Int32)), (.int kk)])) _
              refine XS.icmpYes X0.here hx rfl (pc0 := 62) (pc' := 68) rfl (hb hby d6_62) rfl (feq hs5).2 (by decide) (by decide) ?_
              exact kz
            refine own_go (A := s₁.setTop (mkF m 71 #[.val (.int x), .val (.int kk)] [(.int (64 : Int32)), (.int kk)])) (fun _ kz => ?_) ?_
            · show Steps p.tables e below (s₁.setTop (mkF m 68 #[.val (.int x), .val (.int kk)] [])) _
              refine XS.iloadN X0.here hx rfl (hb hby d6_68) rfl ?_
              show Steps p.tables e below (s₁.setTop (mkF m 69 #[.val (.int x), .val (.int kk)] [(.int kk)])) _
              refine XS.bipush X0.here hx rfl (hb hby d6_69) ?_
              exact kz
            by_cases hs6 : kk = (64 : Int32)
            · skip
              refine own_go (A := s₁.setTop (mkF m 74 #[.val (.int x), .val (.int kk)] [])) (fun _ kz => ?_) ?_
              · show Steps p.tables e below (s₁.setTop (mkF m 71 #[.val (.int x), .val (.int kk)] [(.int (64 : Int32)), (.int kk)])) _
                refine XS.icmpNo X0.here hx rfl (hb hby d6_71) rfl (teq hs6).2 ?_
                exact kz
              refine own_go (A := s₁.setTop (mkF m 76 #[.val (.int x), .val (.int kk)] [(.int (58 : Int32))])) (fun _ kz => ?_) ?_
              · show Steps p.tables e below (s₁.setTop (mkF m 74 #[.val (.int x), .val (.int kk)] [])) _
                refine XS.bipush X0.here hx rfl (hb hby d6_74) ?_
                exact kz
              obtain ⟨fs, hrr, hrun, hended, hW, hsame⟩ := X0.leave (v := some (.int (58 : Int32))) (fun h => by rw [Bd.returns] at h; cases h)
              refine ⟨_, _, ?_, hrun, hended, _, _, rfl, ?_, ⟨_, rfl⟩, hW, hsame.mono (by decide) (by decide)⟩
              · show Steps p.tables e below (s₁.setTop (mkF m 76 #[.val (.int x), .val (.int kk)] [(.int (58 : Int32))])) _
                exact retN X0 hx (t := .char) Bd.returns (by simp) (hb hby d6_76) hrr
              · show QrmPick Z  h0 n0 _ s₁.heap _
                rw [e0]
                exact ⟨_, rfl, by decide, N0, rfl⟩
            · skip
              refine own_go (A := s₁.setTop (mkF m 77 #[.val (.int x), .val (.int kk)] [])) (fun _ kz => ?_) ?_
              · show Steps p.tables e below (s₁.setTop (mkF m 71 #[.val (.int x), .val (.int kk)] [(.int (64 : Int32)), (.int kk)])) _
                refine XS.icmpYes X0.here hx rfl (pc0 := 71) (pc' := 77) rfl (hb hby d6_71) rfl (feq hs6).2 (by decide) (by decide) ?_
                exact kz
              refine own_go (A := s₁.setTop (mkF m 80 #[.val (.int x), .val (.int kk)] [(.int (65 : Int32)), (.int kk)])) (fun _ kz => ?_) ?_
              · show Steps p.tables e below (s₁.setTop (mkF m 77 #[.val (.int x), .val (.int kk)] [])) _
                refine XS.iloadN X0.here hx rfl (hb hby d6_77) rfl ?_
                show Steps p.tables e below (s₁.setTop (mkF m 78 #[.val (.int x), .val (.int kk)] [(.int kk)])) _
                refine XS.bipush X0.here hx rfl (hb hby d6_78) ?_
                exact kz
              by_cases hs7 : kk = (65 : Int32)
              · skip
                refine own_go (A := s₁.setTop (mkF m 83 #[.val (.int x), .val (.int kk)] [])) (fun _ kz => ?_) ?_
                · show Steps p.tables e below (s₁.setTop (mkF m 80 #[.val (.int x), .val (.int kk)] [(.int (65 : Int32)), (.int kk)])) _
                  refine XS.icmpNo X0.here hx rfl (hb hby d6_80) rfl (teq hs7).2 ?_
                  exact kz
                refine own_go (A := s₁.setTop (mkF m 85 #[.val (.int x), .val (.int kk)] [(.int (47 : Int32))])) (fun _ kz => ?_) ?_
                · show Steps p.tables e below (s₁.setTop (mkF m 83 #[.val (.int x), .val (.int kk)] [])) _
                  refine XS.bipush X0.here hx rfl (hb hby d6_83) ?_
                  exact kz
                obtain ⟨fs, hrr, hrun, hended, hW, hsame⟩ := X0.leave (v := some (.int (47 : Int32))) (fun h => by rw [Bd.returns] at h; cases h)
                refine ⟨_, _, ?_, hrun, hended, _, _, rfl, ?_, ⟨_, rfl⟩, hW, hsame.mono (by decide) (by decide)⟩
                · show Steps p.tables e below (s₁.setTop (mkF m 85 #[.val (.int x), .val (.int kk)] [(.int (47 : Int32))])) _
                  exact retN X0 hx (t := .char) Bd.returns (by simp) (hb hby d6_85) hrr
                · show QrmPick Z  h0 n0 _ s₁.heap _
                  rw [e0]
                  exact ⟨_, rfl, by decide, N0, rfl⟩
              · skip
                refine own_go (A := s₁.setTop (mkF m 86 #[.val (.int x), .val (.int kk)] [])) (fun _ kz => ?_) ?_
                · show Steps p.tables e below (s₁.setTop (mkF m 80 #[.val (.int x), .val (.int kk)] [(.int (65 : Int32)), (.int kk)])) _
                  refine XS.icmpYes X0.here hx rfl (pc0 := 80) (pc' := 86) rfl (hb hby d6_80) rfl (feq hs7).2 (by decide) (by decide) ?_
                  exact kz
                refine own_go (A := s₁.setTop (mkF m 88 #[.val (.int x), .val (.int kk)] [(.int (45 : Int32))])) (fun _ kz => ?_) ?_
                · show Steps p.tables e below (s₁.setTop (mkF m 86 #[.val (.int x), .val (.int kk)] [])) _
                  refine XS.bipush X0.here hx rfl (hb hby d6_86) ?_
                  exact kz
                obtain ⟨fs, hrr, hrun, hended, hW, hsame⟩ := X0.leave (v := some (.int (45 : Int32))) (fun h => by rw [Bd.returns] at h; cases h)
                refine ⟨_, _, ?_, hrun, hended, _, _, rfl, ?_, ⟨_, rfl⟩, hW, hsame.mono (by decide) (by decide)⟩
                · show Steps p.tables e below (s₁.setTop (mkF m 88 #[.val (.int x), .val (.int kk)] [(.int (45 : Int32))])) _
                  exact retN X0 hx (t := .char) Bd.returns (by simp) (hb hby d6_88) hrr
                · show QrmPick Z  h0 n0 _ s₁.heap _
                  rw [e0]
                  exact ⟨_, rfl, by decide, N0, rfl⟩
theorem d13_0 : decode prog_21_method_3_code 0 = .ok (.aload_n 0, 1) := by decide +kernel
theorem d13_1 : decode prog_21_method_3_code 1 = .ok (.invokevirtual 22, 3) := by decide +kernel
theorem d13_4 : decode prog_21_method_3_code 4 = .ok (.istore_n 1, 1) := by decide +kernel
theorem d13_5 : decode prog_21_method_3_code 5 = .ok (.iload_n 1, 1) := by decide +kernel
theorem d13_6 : decode prog_21_method_3_code 6 = .ok (.ifCond .le 14, 3) := by decide +kernel
theorem d13_9 : decode prog_21_method_3_code 9 = .ok (.iload_n 1, 1) := by decide +kernel
theorem d13_10 : decode prog_21_method_3_code 10 = .ok (.sipush 128, 3) := by decide +kernel
theorem d13_13 : decode prog_21_method_3_code 13 = .ok (.if_icmp .gt 7, 3) := by decide +kernel
theorem d13_16 : decode prog_21_method_3_code 16 = .ok (.iconst 1, 1) := by decide +kernel
theorem d13_17 : decode prog_21_method_3_code 17 = .ok (.goto 4, 3) := by decide +kernel
theorem d13_21 : decode prog_21_method_3_code 21 = .ok (.istore_n 2, 1) := by decide +kernel
theorem d13_22 : decode prog_21_method_3_code 22 = .ok (.iconst 0, 1) := by decide +kernel
theorem d13_23 : decode prog_21_method_3_code 23 = .ok (.istore_n 3, 1) := by decide +kernel
theorem d13_24 : decode prog_21_method_3_code 24 = .ok (.iload_n 3, 1) := by decide +kernel
theorem d13_25 : decode prog_21_method_3_code 25 = .ok (.iload_n 1, 1) := by decide +kernel
theorem d13_26 : decode prog_21_method_3_code 26 = .ok (.if_icmp .ge 44, 3) := by decide +kernel
theorem d13_29 : decode prog_21_method_3_code 29 = .ok (.iload_n 2, 1) := by decide +kernel
theorem d13_30 : decode prog_21_method_3_code 30 = .ok (.ifCond .eq 40, 3) := by decide +kernel
theorem d13_33 : decode prog_21_method_3_code 33 = .ok (.aload_n 0, 1) := by decide +kernel
theorem d13_34 : decode prog_21_method_3_code 34 = .ok (.iload_n 3, 1) := by decide +kernel
theorem d13_35 : decode prog_21_method_3_code 35 = .ok (.invokevirtual 28, 3) := by decide +kernel
theorem d13_38 : decode prog_21_method_3_code 38 = .ok (.istore 4, 2) := by decide +kernel
theorem d13_40 : decode prog_21_method_3_code 40 = .ok (.iload 4, 2) := by decide +kernel
theorem d13_42 : decode prog_21_method_3_code 42 = .ok (.getstatic 32, 3) := by decide +kernel
theorem d13_45 : decode prog_21_method_3_code 45 = .ok (.arraylength, 1) := by decide +kernel
theorem d13_46 : decode prog_21_method_3_code 46 = .ok (.if_icmp .ge 16, 3) := by decide +kernel
theorem d13_49 : decode prog_21_method_3_code 49 = .ok (.getstatic 32, 3) := by decide +kernel
theorem d13_52 : decode prog_21_method_3_code 52 = .ok (.iload 4, 2) := by decide +kernel
theorem d13_54 : decode prog_21_method_3_code 54 = .ok (.baload, 1) := by decide +kernel
theorem d13_55 : decode prog_21_method_3_code 55 = .ok (.ifCond .eq 7, 3) := by decide +kernel
theorem d13_58 : decode prog_21_method_3_code 58 = .ok (.iconst 1, 1) := by decide +kernel
theorem d13_59 : decode prog_21_method_3_code 59 = .ok (.goto 4, 3) := by decide +kernel
theorem d13_63 : decode prog_21_method_3_code 63 = .ok (.istore_n 2, 1) := by decide +kernel
theorem d13_64 : decode prog_21_method_3_code 64 = .ok (.iinc 3 1, 3) := by decide +kernel
theorem d13_67 : decode prog_21_method_3_code 67 = .ok (.goto (-43), 3) := by decide +kernel
theorem d13_70 : decode prog_21_method_3_code 70 = .ok (.iload_n 2, 1) := by decide +kernel
theorem d13_71 : decode prog_21_method_3_code 71 = .ok (.ireturn, 1) := by decide +kernel
theorem own_pn13 : plainName "com/example/quartermaster/quartermaster/Names" = true := by first | (simp [plainName, overriddenIn]; done) | decide +kernel
theorem own_ef13 (m : MethodId) (x0 : Addr) : entryFrame m #[(.ref x0)] 5 = mkF m 0 #[.val (.ref x0), .unset, .unset, .unset, .unset] [] := by first | (simp [entryFrame, mkF, argsToLocals, Value.category]; done) | rfl
def QrmFo (Z : State)  (h0 : Heap) (n0 : Nat) (v : Option Value) (h : Heap) (L : List Loc) : Prop := v = some (.int (1 : Int32)) ∧ Fr n0 L ∧ h = h0
set_option maxRecDepth 65536 in
set_option maxHeartbeats 40000000 in
theorem rmFo (l : Launch) (Z : State) (a0 : Array Value) (hw : ∀ d ∈ tables_1, d.before a0 Z = true) (ws : List Jvm.Cond) (x t : Addr) (kb : ClassId) (ds : List Int32) (nn : Int32) (vs : List Value) (cs : Int32) (fm : Value) (al : Addr) (kt : ClassId) (vt : List Value) (h0 : Heap) (n0 : Nat) (Z0 : n0 ≤ h0.size) (E1 : Exa Z h0 x "java/lang/String") (V1 : Fld Z h0 x "java/lang/String" "value" "[B" (.ref t)) (C1 : Fld Z h0 x "java/lang/String" "coder" "B" (.int (0 : Int32))) (K1 : Arv Z h0 t kb .byte nn vs (.int 0)) (hcd : StrChars.Road.CodA ds 0 nn vs) (hp : ∀ c ∈ ds, ¬ c < 0 ∧ ¬ (65535 : Int32) < c) (ld : 0 < ds.length) (lu : ds.length ≤ 128) (hok : ∀ c ∈ ds, own_ok c = true) (hcs : ¬ (cs = (0 : Int32))) (S_cs : Sta Z h0 "java/lang/String" "COMPACT_STRINGS" "Z" (.int cs)) (S_fm : Sta Z h0 "jdk/internal/util/Preconditions" "SIOOBE_FORMATTER" "Ljava/util/function/BiFunction;" fm) (rfm : fm.isRef = true) (S_al : Sta Z h0 "com/example/quartermaster/quartermaster/Names" "ALLOWED" "[Z" (.ref al)) (Tb : Arv Z h0 al kt .boolean (128 : Int32) vt (.int (0 : Int32))) (hvt : ∀ j : Int32, own_ok j = true → vt.getD j.toNatClampNeg (.int (0 : Int32)) = (.int (1 : Int32))) :
    MetFree l (⟨"com/example/quartermaster/quartermaster/Names", "follows", "(Ljava/lang/String;)Z"⟩ : MethodName) (head1 (Jvm.Cond.code (⟨"com/example/quartermaster/quartermaster/Names", "follows", "(Ljava/lang/String;)Z"⟩ : MethodName) prog_21_method_3_code 5 (some .boolean) :: ws) ({ frames := 4, cells := 0, slots := 0, locals := 53 } : Room)) (fun ar_ U_ => ar_ = #[(.ref x)] ∧ Z.Warmed39 U_.vm ∧ U_.heap = h0) (fun _ _ _ _ _ => True) (fun _ U_ ou_ V_ => ∃ v_ L_, ou_ = .returned v_ ∧ QrmFo Z  h0 n0 v_ V_.heap L_ ∧ FrameEnd U_ ou_ V_ L_ ({ frames := 4, cells := 0, slots := 0, locals := 53 } : Room).cells ({ frames := 4, cells := 0, slots := 0, locals := 53 } : Room).slots) := by
  refine MetFree.of_bodySF (plainFor_of_name own_pn13) hisR ?_
  intro p e s m args below meth c s₁ Bd hml0 hP hK
  obtain ⟨rfl, hZ, hh⟩ := hP
  have hx := Bd.exec
  have hby := Bd.bytes
  have hml : c.maxLocals = 5 := hml0
  have hown : s.vm.findClass "com/example/quartermaster/quartermaster/Names" = some m.cls := findClass_of_methodNamed Bd.named
  have hnm := (name_of_methodNamed Bd.named Bd.method).1
  have X0 : Stand p l e ({ frames := 4, cells := 0, slots := 0, locals := 53 } : Room) s m #[(.ref x)] below meth c s₁ [] 0 0 := Stand.of_body Bd
  have e0 : s₁.heap = h0 := by rw [← hh, Bd.state]; rfl
  have N0 := Fr.nil n0
  have hln : ∀ d ∈ StrChars.Road.wordsLen, d.before a0 Z = true := fun d hd => hw d ((by decide +kernel : ∀ d ∈ StrChars.Road.wordsLen, d ∈ tables_1) d hd)
  have hch : ∀ d ∈ StrChars.Road.wordsChN, d.before a0 Z = true := fun d hd => hw d ((by decide +kernel : ∀ d ∈ StrChars.Road.wordsChN, d ∈ tables_1) d hd)
  refine own_go (A := s₁.setTop (mkF m 0 #[.val (.ref x), .unset, .unset, .unset, .unset] [])) (fun t kz => castTop (own_ef13 m x) kz) ?_
  refine own_go (A := s₁.setTop (mkF m 1 #[.val (.ref x), .unset, .unset, .unset, .unset] [(.ref x)])) (fun _ kz => ?_) ?_
  · show Steps p.tables e below (s₁.setTop (mkF m 0 #[.val (.ref x), .unset, .unset, .unset, .unset] [])) _
    refine XS.aloadN X0.here hx rfl (hb hby d13_0) rfl rfl ?_
    exact kz
  obtain ⟨cq1, kq1, q1a, q1b, q1c⟩ := isOf hZ e0 E1
  obtain ⟨_, _, ⟨T1, L1, k1, n1⟩, -, X1, ⟨Lc1, hQ1, l1, y1, z1⟩, st1⟩ := X0.virtualBack hx (y := (⟨"java/lang/String", "length", "()I"⟩ : MethodName)) (z := (⟨"java/lang/String", "length", "()I"⟩ : MethodName)) hown (mvT hZ (hw _ (List.mem_of_getElem? (i := 56) rfl))) (mvT hZ (hw _ (List.mem_of_getElem? (i := 57) rfl))) (notFace_of_selects (args := #[]) (mvT hZ (hw _ (List.mem_of_getElem? (i := 59) rfl)))) (mvT hZ (hw _ (List.mem_of_getElem? (i := 59) rfl))) (mvT hZ (hw _ (List.mem_of_getElem? (i := 58) rfl))) (by decide) (StrChars.Road.lenW (W := 0) hZ hln (kI := 4) (hw _ (List.mem_of_getElem? (i := 10) rfl)) E1 V1 C1 K1 hcd hp S_cs hcs (Nat.le_trans lu (by decide)) (by decide) (by decide)) q1a q1c (g := (mkF m 1 #[.val (.ref x), .unset, .unset, .unset, .unset] [(.ref x)])) rfl (by rw [hml]; rfl) (Steps.refl _) (argsL := []) (rest := []) (lenOf own_pd3 rfl) rfl (by show 2 * 0 + _ ≤ _; exact Nat.le_of_eq rfl) (hb hby d13_1) (fun _ _ => ⟨rfl, e0, (by decide : 0 + 0 ≤ _), (by decide : 0 + 0 ≤ _)⟩)
  dsimp only [Pt.U, Pt.locs, Pt.cells, Pt.slots] at X1 l1 y1 z1 st1 hQ1
  subst l1 y1 z1
  obtain ⟨rfl, rfl, e1⟩ := hQ1
  have N1q : Fr n0 ([] : List Loc) := Fr.nil n0
  have N1 := Fr.app N0 N1q
  refine own_go (A := T1.setTop (mkF m 4 #[.val (.ref x), .unset, .unset, .unset, .unset] [(.int (Int32.ofNat ds.length))])) (fun _ kz => st1.trans kz) ?_
  refine own_go (A := T1.setTop (mkF m 24 #[.val (.ref x), .val (.int (Int32.ofNat ds.length)), .val (.int (1 : Int32)), .val (.int (0 : Int32)), .unset] [])) (fun _ kz => ?_) ?_
  · show Steps p.tables e below (T1.setTop (mkF m 4 #[.val (.ref x), .unset, .unset, .unset, .unset] [(.int (Int32.ofNat ds.length))])) _
    refine XS.istoreN X1.here hx rfl (hb hby d13_4) rfl (l' := #[.val (.ref x), .val (.int (Int32.ofNat ds.length)), .unset, .unset, .unset]) rfl ?_
    show Steps p.tables e below (T1.setTop (mkF m 5 #[.val (.ref x), .val (.int (Int32.ofNat ds.length)), .unset, .unset, .unset] [])) _
    refine XS.iloadN X1.here hx rfl (hb hby d13_5) rfl ?_
    show Steps p.tables e below (T1.setTop (mkF m 6 #[.val (.ref x), .val (.int (Int32.ofNat ds.length)), .unset, .unset, .unset] [(.int (Int32.ofNat ds.length))])) _
    refine XS.ifNo X1.here hx rfl (hb hby d13_6) rfl ((if0 _ _).trans (tlt (own_len0 ld lu)).2.2.2) ?_
    show Steps p.tables e below (T1.setTop (mkF m 9 #[.val (.ref x), .val (.int (Int32.ofNat ds.length)), .unset, .unset, .unset] [])) _
    refine XS.iloadN X1.here hx rfl (hb hby d13_9) rfl ?_
    show Steps p.tables e below (T1.setTop (mkF m 10 #[.val (.ref x), .val (.int (Int32.ofNat ds.length)), .unset, .unset, .unset] [(.int (Int32.ofNat ds.length))])) _
    refine XS.sipush X1.here hx rfl (hb hby d13_10) ?_
    show Steps p.tables e below (T1.setTop (mkF m 13 #[.val (.ref x), .val (.int (Int32.ofNat ds.length)), .unset, .unset, .unset] [(.int (128 : Int32)), (.int (Int32.ofNat ds.length))])) _
    refine XS.icmpNo X1.here hx rfl (hb hby d13_13) rfl (flt (own_len1 lu)).2.2.1 ?_
    show Steps p.tables e below (T1.setTop (mkF m 16 #[.val (.ref x), .val (.int (Int32.ofNat ds.length)), .unset, .unset, .unset] [])) _
    refine XS.iconst X1.here hx rfl (hb hby d13_16) ?_
    show Steps p.tables e below (T1.setTop (mkF m 17 #[.val (.ref x), .val (.int (Int32.ofNat ds.length)), .unset, .unset, .unset] [(.int (1 : Int32))])) _
    refine XS.goto X1.here hx rfl (pc0 := 17) (pc' := 21) rfl (hb hby d13_17) (by decide) (by decide) ?_
    show Steps p.tables e below (T1.setTop (mkF m 21 #[.val (.ref x), .val (.int (Int32.ofNat ds.length)), .unset, .unset, .unset] [(.int (1 : Int32))])) _
    refine XS.istoreN X1.here hx rfl (hb hby d13_21) rfl (l' := #[.val (.ref x), .val (.int (Int32.ofNat ds.length)), .val (.int (1 : Int32)), .unset, .unset]) rfl ?_
    show Steps p.tables e below (T1.setTop (mkF m 22 #[.val (.ref x), .val (.int (Int32.ofNat ds.length)), .val (.int (1 : Int32)), .unset, .unset] [])) _
    refine XS.iconst X1.here hx rfl (hb hby d13_22) ?_
    show Steps p.tables e below (T1.setTop (mkF m 23 #[.val (.ref x), .val (.int (Int32.ofNat ds.length)), .val (.int (1 : Int32)), .unset, .unset] [(.int (0 : Int32))])) _
    refine XS.istoreN X1.here hx rfl (hb hby d13_23) rfl (l' := #[.val (.ref x), .val (.int (Int32.ofNat ds.length)), .val (.int (1 : Int32)), .val (.int (0 : Int32)), .unset]) rfl ?_
    exact kz
  refine own_rounds (J := fun k_ A_ => ∃ (i_ : Nat) (T' : State) (L' : List Loc) (ii : Int32) (sl : Slot), i_ + k_ = ds.length ∧ ii = Int32.ofNat i_ ∧ One sl ∧ Stand p l e ({ frames := 4, cells := 0, slots := 0, locals := 53 } : Room) s m #[(.ref x)] below meth c T' L' 0 0 ∧ Fr n0 L' ∧ T'.heap = h0 ∧ A_ = T'.setTop (mkF m 24 #[.val (.ref x), .val (.int (Int32.ofNat ds.length)), .val (.int (1 : Int32)), .val (.int ii), sl] [])) ?_ ?_ ds.length _ ⟨0, _, _, _, _, by omega, rfl, One.u, X1, N1, e1, rfl⟩
  · rintro A_ ⟨i_, Ty2, Ly2, ii, sl, hi, hii, hone, Xy2, Ny2, ey2, rfl⟩
    refine own_go (A := Ty2.setTop (mkF m 71 #[.val (.ref x), .val (.int (Int32.ofNat ds.length)), .val (.int (1 : Int32)), .val (.int ii), sl] [(.int (1 : Int32))])) (fun _ kz => ?_) ?_
    · show Steps p.tables e below (Ty2.setTop (mkF m 24 #[.val (.ref x), .val (.int (Int32.ofNat ds.length)), .val (.int (1 : Int32)), .val (.int ii), sl] [])) _
      refine XS.iloadN Xy2.here hx rfl (hb hby d13_24) rfl ?_
      show Steps p.tables e below (Ty2.setTop (mkF m 25 #[.val (.ref x), .val (.int (Int32.ofNat ds.length)), .val (.int (1 : Int32)), .val (.int ii), sl] [(.int ii)])) _
      refine XS.iloadN Xy2.here hx rfl (hb hby d13_25) rfl ?_
      show Steps p.tables e below (Ty2.setTop (mkF m 26 #[.val (.ref x), .val (.int (Int32.ofNat ds.length)), .val (.int (1 : Int32)), .val (.int ii), sl] [(.int (Int32.ofNat ds.length)), (.int ii)])) _
      refine XS.icmpYes Xy2.here hx rfl (pc0 := 26) (pc' := 70) rfl (hb hby d13_26) rfl (flt (own_lf hii hi lu)).2.1 (by decide) (by decide) ?_
      show Steps p.tables e below (Ty2.setTop (mkF m 70 #[.val (.ref x), .val (.int (Int32.ofNat ds.length)), .val (.int (1 : Int32)), .val (.int ii), sl] [])) _
      refine XS.iloadN Xy2.here hx rfl (hb hby d13_70) rfl ?_
      exact kz
    obtain ⟨fs, hrr, hrun, hended, hW, hsame⟩ := Xy2.leave (v := some (.int (1 : Int32))) (fun h => by rw [Bd.returns] at h; cases h)
    refine ⟨_, _, ?_, hrun, hended, _, _, rfl, ?_, ⟨_, rfl⟩, hW, hsame.mono (by decide) (by decide)⟩
    · show Steps p.tables e below (Ty2.setTop (mkF m 71 #[.val (.ref x), .val (.int (Int32.ofNat ds.length)), .val (.int (1 : Int32)), .val (.int ii), sl] [(.int (1 : Int32))])) _
      exact retN Xy2 hx (t := .boolean) Bd.returns (by simp) (hb hby d13_71) hrr
    · show QrmFo Z  h0 n0 _ Ty2.heap _
      rw [ey2]
      exact ⟨rfl, Ny2, rfl⟩
  · rintro k_ A_ ⟨i_, Ty3, Ly3, ii, sl, hi, hii, hone, Xy3, Ny3, ey3, rfl⟩ ih
    have hc := own_getok hok (show i_ < ds.length by omega)
    refine own_go (A := Ty3.setTop (mkF m 35 #[.val (.ref x), .val (.int (Int32.ofNat ds.length)), .val (.int (1 : Int32)), .val (.int ii), sl] [(.int ii), (.ref x)])) (fun _ kz => ?_) ?_
    · show Steps p.tables e below (Ty3.setTop (mkF m 24 #[.val (.ref x), .val (.int (Int32.ofNat ds.length)), .val (.int (1 : Int32)), .val (.int ii), sl] [])) _
      refine XS.iloadN Xy3.here hx rfl (hb hby d13_24) rfl ?_
      show Steps p.tables e below (Ty3.setTop (mkF m 25 #[.val (.ref x), .val (.int (Int32.ofNat ds.length)), .val (.int (1 : Int32)), .val (.int ii), sl] [(.int ii)])) _
      refine XS.iloadN Xy3.here hx rfl (hb hby d13_25) rfl ?_
      show Steps p.tables e below (Ty3.setTop (mkF m 26 #[.val (.ref x), .val (.int (Int32.ofNat ds.length)), .val (.int (1 : Int32)), .val (.int ii), sl] [(.int (Int32.ofNat ds.length)), (.int ii)])) _
      refine XS.icmpNo Xy3.here hx rfl (hb hby d13_26) rfl (tlt (own_lt hii (show i_ < ds.length by omega) lu)).2.1 ?_
      show Steps p.tables e below (Ty3.setTop (mkF m 29 #[.val (.ref x), .val (.int (Int32.ofNat ds.length)), .val (.int (1 : Int32)), .val (.int ii), sl] [])) _
      refine XS.iloadN Xy3.here hx rfl (hb hby d13_29) rfl ?_
      show Steps p.tables e below (Ty3.setTop (mkF m 30 #[.val (.ref x), .val (.int (Int32.ofNat ds.length)), .val (.int (1 : Int32)), .val (.int ii), sl] [(.int (1 : Int32))])) _
      refine XS.ifNo Xy3.here hx rfl (hb hby d13_30) rfl ((if0 _ _).trans (feq (by decide : ¬ ((1 : Int32) = (0 : Int32)))).1) ?_
      show Steps p.tables e below (Ty3.setTop (mkF m 33 #[.val (.ref x), .val (.int (Int32.ofNat ds.length)), .val (.int (1 : Int32)), .val (.int ii), sl] [])) _
      refine XS.aloadN Xy3.here hx rfl (hb hby d13_33) rfl rfl ?_
      show Steps p.tables e below (Ty3.setTop (mkF m 34 #[.val (.ref x), .val (.int (Int32.ofNat ds.length)), .val (.int (1 : Int32)), .val (.int ii), sl] [(.ref x)])) _
      refine XS.iloadN Xy3.here hx rfl (hb hby d13_34) rfl ?_
      exact kz
    obtain ⟨cq4, kq4, q4a, q4b, q4c⟩ := isOf hZ ey3 E1
    obtain ⟨_, _, ⟨T4, L4, k4, n4⟩, -, X4, ⟨Lc4, hQ4, l4, y4, z4⟩, st4⟩ := Xy3.virtualBack hx (y := (⟨"java/lang/String", "charAt", "(I)C"⟩ : MethodName)) (z := (⟨"java/lang/String", "charAt", "(I)C"⟩ : MethodName)) hown (mvT hZ (hw _ (List.mem_of_getElem? (i := 66) rfl))) (mvT hZ (hw _ (List.mem_of_getElem? (i := 67) rfl))) (notFace_of_selects (args := #[]) (mvT hZ (hw _ (List.mem_of_getElem? (i := 69) rfl)))) (mvT hZ (hw _ (List.mem_of_getElem? (i := 69) rfl))) (mvT hZ (hw _ (List.mem_of_getElem? (i := 68) rfl))) (by decide) (StrChars.Road.chN (W := 0) hZ hch (kI := 4) (hw _ (List.mem_of_getElem? (i := 10) rfl)) E1 V1 C1 K1 hcd hp S_cs hcs S_fm rfm (Nat.le_trans lu (by decide)) (i := i_) (show i_ < ds.length by omega) (j := ii) hii (by decide) (by decide)) q4a q4c (g := (mkF m 35 #[.val (.ref x), .val (.int (Int32.ofNat ds.length)), .val (.int (1 : Int32)), .val (.int ii), sl] [(.int ii), (.ref x)])) rfl (by rw [hml]; rfl) (Steps.refl _) (argsL := [(.int ii)]) (rest := []) (lenOf own_pd4 rfl) rfl (by show 2 * 0 + _ ≤ _; exact Nat.le_of_eq rfl) (hb hby d13_35) (fun _ _ => ⟨rfl, ey3, (by decide : 0 + 0 ≤ _), (by decide : 0 + 0 ≤ _)⟩)
    dsimp only [Pt.U, Pt.locs, Pt.cells, Pt.slots] at X4 l4 y4 z4 st4 hQ4
    subst l4 y4 z4
    obtain ⟨rfl, rfl, e4⟩ := hQ4
    have N4q : Fr n0 ([] : List Loc) := Fr.nil n0
    have N4 := Fr.app Ny3 N4q
    refine own_go (A := T4.setTop (mkF m 38 #[.val (.ref x), .val (.int (Int32.ofNat ds.length)), .val (.int (1 : Int32)), .val (.int ii), sl] [(.int (ds.getD i_ 0))])) (fun _ kz => st4.trans kz) ?_
    refine own_go (A := T4.setTop (mkF m 42 #[.val (.ref x), .val (.int (Int32.ofNat ds.length)), .val (.int (1 : Int32)), .val (.int ii), .val (.int (ds.getD i_ 0))] [(.int (ds.getD i_ 0))])) (fun _ kz => ?_) ?_
    · show Steps p.tables e below (T4.setTop (mkF m 38 #[.val (.ref x), .val (.int (Int32.ofNat ds.length)), .val (.int (1 : Int32)), .val (.int ii), sl] [(.int (ds.getD i_ 0))])) _
      refine XS.istoreS X4.here hx rfl (hb hby d13_38) rfl rfl hone ?_
      show Steps p.tables e below (T4.setTop (mkF m 40 #[.val (.ref x), .val (.int (Int32.ofNat ds.length)), .val (.int (1 : Int32)), .val (.int ii), .val (.int (ds.getD i_ 0))] [])) _
      refine XS.iload X4.here hx rfl (hb hby d13_40) rfl ?_
      exact kz
    obtain ⟨T5, X5, e5, st5⟩ := getS2 X4 hx hZ hown (host := "") (Or.inl (hw _ (List.mem_of_getElem? (i := 87) rfl))) Via.refl e4 S_al (g := (mkF m 42 #[.val (.ref x), .val (.int (Int32.ofNat ds.length)), .val (.int (1 : Int32)), .val (.int ii), .val (.int (ds.getD i_ 0))] [(.int (ds.getD i_ 0))])) rfl (hb hby d13_42)
    refine own_go (A := T5.setTop (mkF m 45 #[.val (.ref x), .val (.int (Int32.ofNat ds.length)), .val (.int (1 : Int32)), .val (.int ii), .val (.int (ds.getD i_ 0))] [(.ref al), (.int (ds.getD i_ 0))])) (fun _ kz => st5 _ kz) ?_
    obtain ⟨cl6, Ar6, -, S6, M6, -, -⟩ := id Tb
    refine own_go (A := T5.setTop (mkF m 46 #[.val (.ref x), .val (.int (Int32.ofNat ds.length)), .val (.int (1 : Int32)), .val (.int ii), .val (.int (ds.getD i_ 0))] [(.int (128 : Int32)), (.int (ds.getD i_ 0))])) (fun _ kz => ?_) ?_
    · refine X5.arraylength hx (by rw [e5]; exact Ar6.1) (State.isArrayOf_alike hZ.alike Ar6.2.1) (g := (mkF m 45 #[.val (.ref x), .val (.int (Int32.ofNat ds.length)), .val (.int (1 : Int32)), .val (.int ii), .val (.int (ds.getD i_ 0))] [(.ref al), (.int (ds.getD i_ 0))])) rfl rfl (hb hby d13_45) _ ?_
      rw [len_of S6 M6]
      exact kz
    refine own_go (A := T5.setTop (mkF m 49 #[.val (.ref x), .val (.int (Int32.ofNat ds.length)), .val (.int (1 : Int32)), .val (.int ii), .val (.int (ds.getD i_ 0))] [])) (fun _ kz => ?_) ?_
    · show Steps p.tables e below (T5.setTop (mkF m 46 #[.val (.ref x), .val (.int (Int32.ofNat ds.length)), .val (.int (1 : Int32)), .val (.int ii), .val (.int (ds.getD i_ 0))] [(.int (128 : Int32)), (.int (ds.getD i_ 0))])) _
      refine XS.icmpNo X5.here hx rfl (hb hby d13_46) rfl (tlt (own_ok128 hc).2).2.1 ?_
      exact kz
    obtain ⟨T7, X7, e7, st7⟩ := getS2 X5 hx hZ hown (host := "") (Or.inl (hw _ (List.mem_of_getElem? (i := 87) rfl))) Via.refl e5 S_al (g := (mkF m 49 #[.val (.ref x), .val (.int (Int32.ofNat ds.length)), .val (.int (1 : Int32)), .val (.int ii), .val (.int (ds.getD i_ 0))] [])) rfl (hb hby d13_49)
    refine own_go (A := T7.setTop (mkF m 52 #[.val (.ref x), .val (.int (Int32.ofNat ds.length)), .val (.int (1 : Int32)), .val (.int ii), .val (.int (ds.getD i_ 0))] [(.ref al)])) (fun _ kz => st7 _ kz) ?_
    refine own_go (A := T7.setTop (mkF m 54 #[.val (.ref x), .val (.int (Int32.ofNat ds.length)), .val (.int (1 : Int32)), .val (.int ii), .val (.int (ds.getD i_ 0))] [(.int (ds.getD i_ 0)), (.ref al)])) (fun _ kz => ?_) ?_
    · show Steps p.tables e below (T7.setTop (mkF m 52 #[.val (.ref x), .val (.int (Int32.ofNat ds.length)), .val (.int (1 : Int32)), .val (.int ii), .val (.int (ds.getD i_ 0))] [(.ref al)])) _
      refine XS.iload X7.here hx rfl (hb hby d13_52) rfl ?_
      exact kz
    obtain ⟨cl8, Ar8, -, S8, M8, H8, -⟩ := id Tb
    have hin8 : ¬ ((ds.getD i_ 0) < 0 ∨ cl8.slots.size ≤ ((ds.getD i_ 0)).toNatClampNeg) := inb_of S8 (own_ok128 hc)
    have hat8 : cl8.slots[((ds.getD i_ 0)).toNatClampNeg]? = some (.int (1 : Int32)) := H8.at hin8 (hvt _ hc)
    refine own_go (A := T7.setTop (mkF m 55 #[.val (.ref x), .val (.int (Int32.ofNat ds.length)), .val (.int (1 : Int32)), .val (.int ii), .val (.int (ds.getD i_ 0))] [(.int (1 : Int32))])) (fun _ kz => ?_) ?_
    · refine X7.baloadBooleans hx (j := (ds.getD i_ 0)) (v := (.int (1 : Int32))) (by rw [e7]; exact Ar8.1) (State.isArrayOf_alike hZ.alike Ar8.2.1) Ar8.2.2 hin8 hat8 (g := (mkF m 54 #[.val (.ref x), .val (.int (Int32.ofNat ds.length)), .val (.int (1 : Int32)), .val (.int ii), .val (.int (ds.getD i_ 0))] [(.int (ds.getD i_ 0)), (.ref al)])) rfl rfl (hb hby d13_54) _ ?_
      exact kz
    refine own_go (A := T7.setTop (mkF m 67 #[.val (.ref x), .val (.int (Int32.ofNat ds.length)), .val (.int (1 : Int32)), .val (.int (ii + (1 : Int32))), .val (.int (ds.getD i_ 0))] [])) (fun _ kz => ?_) ?_
    · show Steps p.tables e below (T7.setTop (mkF m 55 #[.val (.ref x), .val (.int (Int32.ofNat ds.length)), .val (.int (1 : Int32)), .val (.int ii), .val (.int (ds.getD i_ 0))] [(.int (1 : Int32))])) _
      refine XS.ifNo X7.here hx rfl (hb hby d13_55) rfl ((if0 _ _).trans (feq (by decide : ¬ ((1 : Int32) = (0 : Int32)))).1) ?_
      show Steps p.tables e below (T7.setTop (mkF m 58 #[.val (.ref x), .val (.int (Int32.ofNat ds.length)), .val (.int (1 : Int32)), .val (.int ii), .val (.int (ds.getD i_ 0))] [])) _
      refine XS.iconst X7.here hx rfl (hb hby d13_58) ?_
      show Steps p.tables e below (T7.setTop (mkF m 59 #[.val (.ref x), .val (.int (Int32.ofNat ds.length)), .val (.int (1 : Int32)), .val (.int ii), .val (.int (ds.getD i_ 0))] [(.int (1 : Int32))])) _
      refine XS.goto X7.here hx rfl (pc0 := 59) (pc' := 63) rfl (hb hby d13_59) (by decide) (by decide) ?_
      show Steps p.tables e below (T7.setTop (mkF m 63 #[.val (.ref x), .val (.int (Int32.ofNat ds.length)), .val (.int (1 : Int32)), .val (.int ii), .val (.int (ds.getD i_ 0))] [(.int (1 : Int32))])) _
      refine XS.istoreN X7.here hx rfl (hb hby d13_63) rfl (l' := #[.val (.ref x), .val (.int (Int32.ofNat ds.length)), .val (.int (1 : Int32)), .val (.int ii), .val (.int (ds.getD i_ 0))]) rfl ?_
      show Steps p.tables e below (T7.setTop (mkF m 64 #[.val (.ref x), .val (.int (Int32.ofNat ds.length)), .val (.int (1 : Int32)), .val (.int ii), .val (.int (ds.getD i_ 0))] [])) _
      refine XS.iinc X7.here hx rfl (hb hby d13_64) rfl (l' := #[.val (.ref x), .val (.int (Int32.ofNat ds.length)), .val (.int (1 : Int32)), .val (.int (ii + (1 : Int32))), .val (.int (ds.getD i_ 0))]) rfl ?_
      exact kz
    refine own_go (A := T7.setTop (mkF m 24 #[.val (.ref x), .val (.int (Int32.ofNat ds.length)), .val (.int (1 : Int32)), .val (.int (ii + (1 : Int32))), .val (.int (ds.getD i_ 0))] [])) (fun _ kz => ?_) (ih _ ⟨i_ + 1, _, _, _, _, by omega, own_succ hii, One.val rfl, X7, N4, e7, rfl⟩)
    show Steps p.tables e below (T7.setTop (mkF m 67 #[.val (.ref x), .val (.int (Int32.ofNat ds.length)), .val (.int (1 : Int32)), .val (.int (ii + (1 : Int32))), .val (.int (ds.getD i_ 0))] [])) _
    refine XS.goto X7.here hx rfl (pc0 := 67) (pc' := 24) rfl (hb hby d13_67) (by decide) (by decide) ?_
    exact kz
theorem d12_0 : decode prog_21_method_2_code 0 = .ok (.aload_n 1, 1) := by decide +kernel
theorem d12_1 : decode prog_21_method_2_code 1 = .ok (.ifnull 10, 3) := by decide +kernel
theorem d12_4 : decode prog_21_method_2_code 4 = .ok (.aload_n 1, 1) := by decide +kernel
theorem d12_5 : decode prog_21_method_2_code 5 = .ok (.invokestatic 7, 3) := by decide +kernel
theorem d12_8 : decode prog_21_method_2_code 8 = .ok (.ifCond .ne 17, 3) := by decide +kernel
theorem d12_25 : decode prog_21_method_2_code 25 = .ok (.aload_n 1, 1) := by decide +kernel
theorem d12_26 : decode prog_21_method_2_code 26 = .ok (.areturn, 1) := by decide +kernel
theorem own_pn12 : plainName "com/example/quartermaster/quartermaster/Names" = true := by first | (simp [plainName, overriddenIn]; done) | decide +kernel
theorem own_ef12 (m : MethodId) (x0 : Addr) (x1 : Addr) : entryFrame m #[(.ref x0), (.ref x1)] 2 = mkF m 0 #[.val (.ref x0), .val (.ref x1)] [] := by first | (simp [entryFrame, mkF, argsToLocals, Value.category]; done) | rfl
def QrmRq (Z : State) (x : Addr) (h0 : Heap) (n0 : Nat) (v : Option Value) (h : Heap) (L : List Loc) : Prop := v = some (.ref x) ∧ Fr n0 L ∧ h = h0
set_option maxRecDepth 65536 in
set_option maxHeartbeats 40000000 in
theorem rmRq (l : Launch) (Z : State) (a0 : Array Value) (hw : ∀ d ∈ tables_1, d.before a0 Z = true) (ws : List Jvm.Cond) (aw : Addr) (x t : Addr) (kb : ClassId) (ds : List Int32) (nn : Int32) (vs : List Value) (cs : Int32) (fm : Value) (al : Addr) (kt : ClassId) (vt : List Value) (h0 : Heap) (n0 : Nat) (Z0 : n0 ≤ h0.size) (E1 : Exa Z h0 x "java/lang/String") (V1 : Fld Z h0 x "java/lang/String" "value" "[B" (.ref t)) (C1 : Fld Z h0 x "java/lang/String" "coder" "B" (.int (0 : Int32))) (K1 : Arv Z h0 t kb .byte nn vs (.int 0)) (hcd : StrChars.Road.CodA ds 0 nn vs) (hp : ∀ c ∈ ds, ¬ c < 0 ∧ ¬ (65535 : Int32) < c) (ld : 0 < ds.length) (lu : ds.length ≤ 128) (hok : ∀ c ∈ ds, own_ok c = true) (hcs : ¬ (cs = (0 : Int32))) (S_cs : Sta Z h0 "java/lang/String" "COMPACT_STRINGS" "Z" (.int cs)) (S_fm : Sta Z h0 "jdk/internal/util/Preconditions" "SIOOBE_FORMATTER" "Ljava/util/function/BiFunction;" fm) (rfm : fm.isRef = true) (S_al : Sta Z h0 "com/example/quartermaster/quartermaster/Names" "ALLOWED" "[Z" (.ref al)) (Tb : Arv Z h0 al kt .boolean (128 : Int32) vt (.int (0 : Int32))) (hvt : ∀ j : Int32, own_ok j = true → vt.getD j.toNatClampNeg (.int (0 : Int32)) = (.int (1 : Int32))) :
    MetFree l (⟨"com/example/quartermaster/quartermaster/Names", "require", "(Ljava/lang/String;Ljava/lang/String;)Ljava/lang/String;"⟩ : MethodName) (head1 (Jvm.Cond.code (⟨"com/example/quartermaster/quartermaster/Names", "require", "(Ljava/lang/String;Ljava/lang/String;)Ljava/lang/String;"⟩ : MethodName) prog_21_method_2_code 2 (some (.object "java/lang/String")) :: ws) ({ frames := 5, cells := 0, slots := 0, locals := 69 } : Room)) (fun ar_ U_ => ar_ = #[(.ref aw), (.ref x)] ∧ Z.Warmed39 U_.vm ∧ U_.heap = h0) (fun _ _ _ _ _ => True) (fun _ U_ ou_ V_ => ∃ v_ L_, ou_ = .returned v_ ∧ QrmRq Z x h0 n0 v_ V_.heap L_ ∧ FrameEnd U_ ou_ V_ L_ ({ frames := 5, cells := 0, slots := 0, locals := 69 } : Room).cells ({ frames := 5, cells := 0, slots := 0, locals := 69 } : Room).slots) := by
  refine MetFree.of_bodySF (plainFor_of_name own_pn12) hisR ?_
  intro p e s m args below meth c s₁ Bd hml0 hP hK
  obtain ⟨rfl, hZ, hh⟩ := hP
  have hx := Bd.exec
  have hby := Bd.bytes
  have hml : c.maxLocals = 2 := hml0
  have hown : s.vm.findClass "com/example/quartermaster/quartermaster/Names" = some m.cls := findClass_of_methodNamed Bd.named
  have hnm := (name_of_methodNamed Bd.named Bd.method).1
  have X0 : Stand p l e ({ frames := 5, cells := 0, slots := 0, locals := 69 } : Room) s m #[(.ref aw), (.ref x)] below meth c s₁ [] 0 0 := Stand.of_body Bd
  have e0 : s₁.heap = h0 := by rw [← hh, Bd.state]; rfl
  have N0 := Fr.nil n0
  refine own_go (A := s₁.setTop (mkF m 0 #[.val (.ref aw), .val (.ref x)] [])) (fun t kz => castTop (own_ef12 m aw x) kz) ?_
  refine own_go (A := s₁.setTop (mkF m 5 #[.val (.ref aw), .val (.ref x)] [(.ref x)])) (fun _ kz => ?_) ?_
  · show Steps p.tables e below (s₁.setTop (mkF m 0 #[.val (.ref aw), .val (.ref x)] [])) _
    refine XS.aloadN X0.here hx rfl (hb hby d12_0) rfl rfl ?_
    show Steps p.tables e below (s₁.setTop (mkF m 1 #[.val (.ref aw), .val (.ref x)] [(.ref x)])) _
    refine XS.ifnullNo X0.here hx rfl (hb hby d12_1) rfl ?_
    show Steps p.tables e below (s₁.setTop (mkF m 4 #[.val (.ref aw), .val (.ref x)] [])) _
    refine XS.aloadN X0.here hx rfl (hb hby d12_4) rfl rfl ?_
    exact kz
  obtain ⟨_, _, ⟨T1, L1, k1, n1⟩, -, X1, ⟨Lc1, hQ1, l1, y1, z1⟩, st1⟩ := Jvm.LawKit.callS X0 hx (y := (⟨"com/example/quartermaster/quartermaster/Names", "follows", "(Ljava/lang/String;)Z"⟩ : MethodName)) hown (mvT hZ (hw _ (List.mem_of_getElem? (i := 53) rfl))) (mvT hZ (hw _ (List.mem_of_getElem? (i := 54) rfl))) (mvT hZ (hw _ (List.mem_of_getElem? (i := 51) rfl))) (mvT hZ (hw _ (List.mem_of_getElem? (i := 55) rfl))) (by decide) (backOf (W := 0) (rmFo l Z a0 hw [] x t kb ds nn vs cs fm al kt vt h0 n0 Z0 E1 V1 C1 K1 hcd hp ld lu hok hcs S_cs S_fm rfm S_al Tb hvt) hZ (hw _ (List.mem_of_getElem? (i := 55) rfl)) (hw _ (List.mem_of_getElem? (i := 51) rfl)) (by decide) (by decide)) (g := (mkF m 5 #[.val (.ref aw), .val (.ref x)] [(.ref x)])) rfl (by rw [hml]; rfl) (argsL := [(.ref x)]) (rest := []) (lenOf own_pd5 rfl) rfl (by show 2 * 0 + _ ≤ _; exact Nat.le_of_eq rfl) (hb hby d12_5) (fun _ _ => ⟨rfl, e0, (by decide : 0 + 0 ≤ _), (by decide : 0 + 0 ≤ _)⟩)
  dsimp only [Pt.U, Pt.locs, Pt.cells, Pt.slots] at X1 l1 y1 z1 st1 hQ1
  subst l1 y1 z1
  obtain ⟨rfl, N1q, e1⟩ := hQ1
  have N1 := Fr.app N0 N1q
  refine own_go (A := T1.setTop (mkF m 8 #[.val (.ref aw), .val (.ref x)] [(.int (1 : Int32))])) (fun _ kz => st1 _ kz) ?_
  refine own_go (A := T1.setTop (mkF m 26 #[.val (.ref aw), .val (.ref x)] [(.ref x)])) (fun _ kz => ?_) ?_
  · show Steps p.tables e below (T1.setTop (mkF m 8 #[.val (.ref aw), .val (.ref x)] [(.int (1 : Int32))])) _
    refine XS.ifYes X1.here hx rfl (pc0 := 8) (pc' := 25) rfl (hb hby d12_8) rfl ((if0 _ _).trans (feq (by decide : ¬ ((1 : Int32) = (0 : Int32)))).2) (by decide) (by decide) ?_
    show Steps p.tables e below (T1.setTop (mkF m 25 #[.val (.ref aw), .val (.ref x)] [])) _
    refine XS.aloadN X1.here hx rfl (hb hby d12_25) rfl rfl ?_
    exact kz
  obtain ⟨fs, hrr, hrun, hended, hW, hsame⟩ := X1.leave (v := some (.ref x)) (fun h => by rw [Bd.returns] at h; cases h)
  refine ⟨_, _, ?_, hrun, hended, _, _, rfl, ?_, ⟨_, rfl⟩, hW, hsame.mono (by decide) (by decide)⟩
  · show Steps p.tables e below (T1.setTop (mkF m 26 #[.val (.ref aw), .val (.ref x)] [(.ref x)])) _
    exact retOut X1 hx (t := (.object "java/lang/String")) Bd.returns rfl (Or.inr (Or.inr (Or.inr (Or.inr ⟨rfl, rfl, rfl⟩)))) (hb hby d12_26) hrr
  · show QrmRq Z x h0 n0 _ T1.heap _
    rw [e1]
    exact ⟨rfl, N1, rfl⟩
theorem own_pn0 : plainName "com/example/quartermaster/quartermaster/NamesRequirePinLaw" = true := by first | (simp [plainName, overriddenIn]; done) | decide +kernel
theorem own_ef0 (m : MethodId) (x0 : Int32) (x1 : Int32) (x2 : Int32) (x3 : Int32) (x4 : Int32) (x5 : Int32) : entryFrame m #[(.int x0), (.int x1), (.int x2), (.int x3), (.int x4), (.int x5)] maxLocals = mkF m 0 #[.val (.int x0), .val (.int x1), .val (.int x2), .val (.int x3), .val (.int x4), .val (.int x5), .unset, .unset, .unset, .unset, .unset, .unset, .unset, .unset] [] := by first | (simp [entryFrame, mkF, argsToLocals, Value.category, maxLocals]; done) | rfl
def Qrm0 (Z : State)  (h0 : Heap) (n0 : Nat) (v : Option Value) (h : Heap) (L : List Loc) : Prop := v = some (.int 1) ∧ Fr n0 L
set_option maxRecDepth 65536 in
set_option maxHeartbeats 40000000 in
theorem rm0 (l : Launch) (Z : State) (a0 : Array Value) (hw : ∀ d ∈ tables_1, d.before a0 Z = true) (ws : List Jvm.Cond) (p1 p2 p3 p4 p5 p6 cs : Int32) (fm : Value) (al : Addr) (kt : ClassId) (vt : List Value) (h0 : Heap) (n0 : Nat) (Z0 : n0 ≤ h0.size) (hn0 : n0 = h0.size) (hZh : Ext Z.heap h0) (hheld : ∀ q ∈ consts_1, Jvm.Lit.constHeld Z q.1 q.2) (hcw : Jvm.Lit.compactW.before a0 Z = true) (hcs : ¬ (cs = (0 : Int32))) (S_cs : Sta Z h0 "java/lang/String" "COMPACT_STRINGS" "Z" (.int cs)) (S_fm : Sta Z h0 "jdk/internal/util/Preconditions" "SIOOBE_FORMATTER" "Ljava/util/function/BiFunction;" fm) (rfm : fm.isRef = true) (S_al : Sta Z h0 "com/example/quartermaster/quartermaster/Names" "ALLOWED" "[Z" (.ref al)) (Tb : Arv Z h0 al kt .boolean (128 : Int32) vt (.int (0 : Int32))) (hvt : ∀ j : Int32, own_ok j = true → vt.getD j.toNatClampNeg (.int (0 : Int32)) = (.int (1 : Int32))) :
    MetFree l x (head1 (Jvm.Cond.code x code maxLocals ret :: ws) room_1) (fun ar_ U_ => ar_ = #[(.int p1), (.int p2), (.int p3), (.int p4), (.int p5), (.int p6)] ∧ Z.Warmed39 U_.vm ∧ U_.heap = h0 ∧ IB Z U_.vm []) (fun _ _ _ _ _ => True) (fun _ U_ ou_ V_ => ∃ v_ L_, ou_ = .returned v_ ∧ Qrm0 Z  h0 n0 v_ V_.heap L_ ∧ ReturnedEndW U_ ou_ V_ L_ room_1.cells room_1.slots) := by
  refine MetFree.of_bodySF (plainFor_of_name own_pn0) hisR ?_
  intro p e s m args below meth c s₁ Bd hml0 hP hK
  obtain ⟨rfl, hZ, hh, hI⟩ := hP
  have hx := Bd.exec
  have hby := Bd.bytes
  have hml : c.maxLocals = 14 := hml0
  have hown : s.vm.findClass "com/example/quartermaster/quartermaster/NamesRequirePinLaw" = some m.cls := findClass_of_methodNamed Bd.named
  have hnm := (name_of_methodNamed Bd.named Bd.method).1
  have X0 : Stand p l e room_1 s m #[(.int p1), (.int p2), (.int p3), (.int p4), (.int p5), (.int p6)] below meth c s₁ [] 0 0 := Stand.of_body Bd
  have e0 : s₁.heap = h0 := by rw [← hh, Bd.state]; rfl
  have N0 := Fr.nil n0
  have hns : n0 = s.heap.size := by rw [hh]; exact hn0
  have hkeep : ∀ (b : Addr) (cl : Cell), Z.heap[b]? = some cl → s.heap[b]? = some cl := fun b cl q => by rw [hh]; exact hZh.2 b cl q
  have wS : ∀ a ∈ Bundle.stringAtoms, a.before a0 Z = true := fun d hd => hw d ((by decide +kernel : ∀ d ∈ Bundle.stringAtoms, d ∈ tables_1) d hd)
  replace X0 : Stand p l e room_1 (s.setVm s.vm) m #[(.int p1), (.int p2), (.int p3), (.int p4), (.int p5), (.int p6)] below meth c s₁ [] 0 0 := X0
  replace hZ : Z.Warmed39 (s.setVm s.vm).vm := hZ
  replace hown : (s.setVm s.vm).vm.findClass "com/example/quartermaster/quartermaster/NamesRequirePinLaw" = some m.cls := hown
  have hS : s.Since s.vm 0 := (State.WarmedH.refl s).since 0
  have hk : 0 ≤ h0.size := Nat.zero_le _
  have hws : ∀ d ∈ StrChars.Road.words, d.before a0 Z = true := fun d hd => hw d ((by decide +kernel : ∀ d ∈ StrChars.Road.words, d ∈ tables_1) d hd)
  refine own_go (A := s₁.setTop (mkF m 0 #[.val (.int p1), .val (.int p2), .val (.int p3), .val (.int p4), .val (.int p5), .val (.int p6), .unset, .unset, .unset, .unset, .unset, .unset, .unset, .unset] [])) (fun t kz => castTop (own_ef0 m p1 p2 p3 p4 p5 p6) kz) ?_
  refine own_go (A := s₁.setTop (mkF m 7 #[.val (.int p1), .val (.int p2), .val (.int p3), .val (.int p4), .val (.int p5), .val (.int p6), .unset, .unset, .unset, .unset, .unset, .unset, .unset, .unset] [(.int ((p6 &&& (255 : Int32)).toUInt32.toUInt16.toUInt32.toInt32))])) (fun _ kz => ?_) ?_
  · show Steps p.tables e below (s₁.setTop (mkF m 0 #[.val (.int p1), .val (.int p2), .val (.int p3), .val (.int p4), .val (.int p5), .val (.int p6), .unset, .unset, .unset, .unset, .unset, .unset, .unset, .unset] [])) _
    refine XS.iload X0.here hx rfl (hb hby at_0) rfl ?_
    show Steps p.tables e below (s₁.setTop (mkF m 2 #[.val (.int p1), .val (.int p2), .val (.int p3), .val (.int p4), .val (.int p5), .val (.int p6), .unset, .unset, .unset, .unset, .unset, .unset, .unset, .unset] [(.int p6)])) _
    refine XS.sipush X0.here hx rfl (hb hby at_2) ?_
    show Steps p.tables e below (s₁.setTop (mkF m 5 #[.val (.int p1), .val (.int p2), .val (.int p3), .val (.int p4), .val (.int p5), .val (.int p6), .unset, .unset, .unset, .unset, .unset, .unset, .unset, .unset] [(.int (255 : Int32)), (.int p6)])) _
    refine XS.iand X0.here hx rfl (hb hby at_5) rfl ?_
    show Steps p.tables e below (s₁.setTop (mkF m 6 #[.val (.int p1), .val (.int p2), .val (.int p3), .val (.int p4), .val (.int p5), .val (.int p6), .unset, .unset, .unset, .unset, .unset, .unset, .unset, .unset] [(.int (p6 &&& (255 : Int32)))])) _
    refine XS.i2c X0.here hx rfl (hb hby at_6) rfl ?_
    exact kz
  obtain ⟨_, _, ⟨T1, L1, k1, n1⟩, -, X1, ⟨Lc1, hQ1, l1, y1, z1⟩, st1⟩ := Jvm.LawKit.callS X0 hx (y := (⟨"java/lang/String", "valueOf", "(C)Ljava/lang/String;"⟩ : MethodName)) hown (mvT hZ (hw _ (List.mem_of_getElem? (i := 0) rfl))) (mvT hZ (hw _ (List.mem_of_getElem? (i := 1) rfl))) (mvT hZ (hw _ (List.mem_of_getElem? (i := 2) rfl))) (mvT hZ (hw _ (List.mem_of_getElem? (i := 3) rfl))) (by decide) (backOf (W := 0) (rmVO l Z a0 hw [] ((p6 &&& (255 : Int32)).toUInt32.toUInt16.toUInt32.toInt32) cs h0 n0 Z0 (own_c255 _) hcs S_cs) hZ (hw _ (List.mem_of_getElem? (i := 3) rfl)) (hw _ (List.mem_of_getElem? (i := 2) rfl)) (by decide) (by decide)) (g := (mkF m 7 #[.val (.int p1), .val (.int p2), .val (.int p3), .val (.int p4), .val (.int p5), .val (.int p6), .unset, .unset, .unset, .unset, .unset, .unset, .unset, .unset] [(.int ((p6 &&& (255 : Int32)).toUInt32.toUInt16.toUInt32.toInt32))])) rfl (by rw [hml]; rfl) (argsL := [(.int ((p6 &&& (255 : Int32)).toUInt32.toUInt16.toUInt32.toInt32))]) (rest := []) (lenOf own_pd6 rfl) rfl (by show 2 * 0 + _ ≤ _; exact Nat.le_of_eq rfl) (hb hby at_7) (fun _ _ => ⟨rfl, e0, (by decide : 0 + 2 ≤ _), (by decide : 0 + 5 ≤ _)⟩)
  dsimp only [Pt.U, Pt.locs, Pt.cells, Pt.slots] at X1 l1 y1 z1 st1 hQ1
  subst l1 y1 z1
  obtain ⟨c1, t1, kc1, rfl, N1q, zc1, zt1, K1q, Ex1, Fv1, Fc1, At1⟩ := hQ1
  have N1 := Fr.app N0 N1q
  have ne_al_c1 : al ≠ c1 := Nat.ne_of_lt (Nat.lt_of_lt_of_le Tb.lt zc1)
  have g_c1 : n0 ≤ c1 := Nat.le_trans Z0 zc1
  replace S_cs := own_staKeep S_cs K1q all0
  replace S_fm := own_staKeep S_fm K1q all0
  replace S_al := own_staKeep S_al K1q all0
  replace Tb := Tb.keep K1q nin0
  have Z1 : n0 ≤ T1.heap.size := Nat.le_trans Z0 K1q.1
  replace hk := Nat.le_trans hk K1q.1
  refine own_go (A := T1.setTop (mkF m 10 #[.val (.int p1), .val (.int p2), .val (.int p3), .val (.int p4), .val (.int p5), .val (.int p6), .unset, .unset, .unset, .unset, .unset, .unset, .unset, .unset] [(.ref c1)])) (fun _ kz => st1 _ kz) ?_
  refine own_go (A := T1.setTop (mkF m 13 #[.val (.int p1), .val (.int p2), .val (.int p3), .val (.int p4), .val (.int p5), .val (.int p6), .val (.ref c1), .unset, .unset, .unset, .unset, .unset, .unset, .unset] [(.int p1)])) (fun _ kz => ?_) ?_
  · show Steps p.tables e below (T1.setTop (mkF m 10 #[.val (.int p1), .val (.int p2), .val (.int p3), .val (.int p4), .val (.int p5), .val (.int p6), .unset, .unset, .unset, .unset, .unset, .unset, .unset, .unset] [(.ref c1)])) _
    refine XS.astore X1.here hx rfl (hb hby at_10) rfl rfl (l' := #[.val (.int p1), .val (.int p2), .val (.int p3), .val (.int p4), .val (.int p5), .val (.int p6), .val (.ref c1), .unset, .unset, .unset, .unset, .unset, .unset, .unset]) rfl ?_
    show Steps p.tables e below (T1.setTop (mkF m 12 #[.val (.int p1), .val (.int p2), .val (.int p3), .val (.int p4), .val (.int p5), .val (.int p6), .val (.ref c1), .unset, .unset, .unset, .unset, .unset, .unset, .unset] [])) _
    refine XS.iloadN X1.here hx rfl (hb hby at_12) rfl ?_
    exact kz
  obtain ⟨_, _, ⟨T2, L2, k2, n2⟩, -, X2, ⟨Lc2, hQ2, l2, y2, z2⟩, st2⟩ := Jvm.LawKit.callS X1 hx (y := (⟨"com/example/quartermaster/quartermaster/NamesRequirePinLaw", "pick", "(I)C"⟩ : MethodName)) hown (mvT hZ (hw _ (List.mem_of_getElem? (i := 26) rfl))) (mvT hZ (hw _ (List.mem_of_getElem? (i := 27) rfl))) (mvT hZ (hw _ (List.mem_of_getElem? (i := 28) rfl))) (mvT hZ (hw _ (List.mem_of_getElem? (i := 29) rfl))) (by decide) (backOf (W := 0) (rmPick l Z a0 hw [] p1 T1.heap n0 Z1) hZ (hw _ (List.mem_of_getElem? (i := 29) rfl)) (hw _ (List.mem_of_getElem? (i := 28) rfl)) (by decide) (by decide)) (g := (mkF m 13 #[.val (.int p1), .val (.int p2), .val (.int p3), .val (.int p4), .val (.int p5), .val (.int p6), .val (.ref c1), .unset, .unset, .unset, .unset, .unset, .unset, .unset] [(.int p1)])) rfl (by rw [hml]; rfl) (argsL := [(.int p1)]) (rest := []) (lenOf own_pd4 rfl) rfl (by show 2 * 0 + _ ≤ _; exact Nat.le_of_eq rfl) (hb hby at_13) (fun _ _ => ⟨rfl, rfl, (by decide : 2 + 0 ≤ _), (by decide : 5 + 0 ≤ _)⟩)
  dsimp only [Pt.U, Pt.locs, Pt.cells, Pt.slots] at X2 l2 y2 z2 st2 hQ2
  subst l2 y2 z2
  obtain ⟨r2, rfl, ok_r2, N2q, e2⟩ := hQ2
  have N2 := Fr.app N1 N2q
  refine own_go (A := T2.setTop (mkF m 16 #[.val (.int p1), .val (.int p2), .val (.int p3), .val (.int p4), .val (.int p5), .val (.int p6), .val (.ref c1), .unset, .unset, .unset, .unset, .unset, .unset, .unset] [(.int r2)])) (fun _ kz => st2 _ kz) ?_
  refine own_go (A := T2.setTop (mkF m 19 #[.val (.int p1), .val (.int p2), .val (.int p3), .val (.int p4), .val (.int p5), .val (.int p6), .val (.ref c1), .val (.int r2), .unset, .unset, .unset, .unset, .unset, .unset] [(.int p2)])) (fun _ kz => ?_) ?_
  · show Steps p.tables e below (T2.setTop (mkF m 16 #[.val (.int p1), .val (.int p2), .val (.int p3), .val (.int p4), .val (.int p5), .val (.int p6), .val (.ref c1), .unset, .unset, .unset, .unset, .unset, .unset, .unset] [(.int r2)])) _
    refine XS.istore X2.here hx rfl (hb hby at_16) rfl (l' := #[.val (.int p1), .val (.int p2), .val (.int p3), .val (.int p4), .val (.int p5), .val (.int p6), .val (.ref c1), .val (.int r2), .unset, .unset, .unset, .unset, .unset, .unset]) rfl ?_
    show Steps p.tables e below (T2.setTop (mkF m 18 #[.val (.int p1), .val (.int p2), .val (.int p3), .val (.int p4), .val (.int p5), .val (.int p6), .val (.ref c1), .val (.int r2), .unset, .unset, .unset, .unset, .unset, .unset] [])) _
    refine XS.iloadN X2.here hx rfl (hb hby at_18) rfl ?_
    exact kz
  obtain ⟨_, _, ⟨T3, L3, k3, n3⟩, -, X3, ⟨Lc3, hQ3, l3, y3, z3⟩, st3⟩ := Jvm.LawKit.callS X2 hx (y := (⟨"com/example/quartermaster/quartermaster/NamesRequirePinLaw", "pick", "(I)C"⟩ : MethodName)) hown (mvT hZ (hw _ (List.mem_of_getElem? (i := 26) rfl))) (mvT hZ (hw _ (List.mem_of_getElem? (i := 27) rfl))) (mvT hZ (hw _ (List.mem_of_getElem? (i := 28) rfl))) (mvT hZ (hw _ (List.mem_of_getElem? (i := 29) rfl))) (by decide) (backOf (W := 0) (rmPick l Z a0 hw [] p2 T1.heap n0 Z1) hZ (hw _ (List.mem_of_getElem? (i := 29) rfl)) (hw _ (List.mem_of_getElem? (i := 28) rfl)) (by decide) (by decide)) (g := (mkF m 19 #[.val (.int p1), .val (.int p2), .val (.int p3), .val (.int p4), .val (.int p5), .val (.int p6), .val (.ref c1), .val (.int r2), .unset, .unset, .unset, .unset, .unset, .unset] [(.int p2)])) rfl (by rw [hml]; rfl) (argsL := [(.int p2)]) (rest := []) (lenOf own_pd4 rfl) rfl (by show 2 * 0 + _ ≤ _; exact Nat.le_of_eq rfl) (hb hby at_19) (fun _ _ => ⟨rfl, e2, (by decide : 2 + 0 ≤ _), (by decide : 5 + 0 ≤ _)⟩)
  dsimp only [Pt.U, Pt.locs, Pt.cells, Pt.slots] at X3 l3 y3 z3 st3 hQ3
  subst l3 y3 z3
  obtain ⟨r3, rfl, ok_r3, N3q, e3⟩ := hQ3
  have N3 := Fr.app N2 N3q
  refine own_go (A := T3.setTop (mkF m 22 #[.val (.int p1), .val (.int p2), .val (.int p3), .val (.int p4), .val (.int p5), .val (.int p6), .val (.ref c1), .val (.int r2), .unset, .unset, .unset, .unset, .unset, .unset] [(.int r3)])) (fun _ kz => st3 _ kz) ?_
  refine own_go (A := T3.setTop (mkF m 25 #[.val (.int p1), .val (.int p2), .val (.int p3), .val (.int p4), .val (.int p5), .val (.int p6), .val (.ref c1), .val (.int r2), .val (.int r3), .unset, .unset, .unset, .unset, .unset] [(.int p3)])) (fun _ kz => ?_) ?_
  · show Steps p.tables e below (T3.setTop (mkF m 22 #[.val (.int p1), .val (.int p2), .val (.int p3), .val (.int p4), .val (.int p5), .val (.int p6), .val (.ref c1), .val (.int r2), .unset, .unset, .unset, .unset, .unset, .unset] [(.int r3)])) _
    refine XS.istore X3.here hx rfl (hb hby at_22) rfl (l' := #[.val (.int p1), .val (.int p2), .val (.int p3), .val (.int p4), .val (.int p5), .val (.int p6), .val (.ref c1), .val (.int r2), .val (.int r3), .unset, .unset, .unset, .unset, .unset]) rfl ?_
    show Steps p.tables e below (T3.setTop (mkF m 24 #[.val (.int p1), .val (.int p2), .val (.int p3), .val (.int p4), .val (.int p5), .val (.int p6), .val (.ref c1), .val (.int r2), .val (.int r3), .unset, .unset, .unset, .unset, .unset] [])) _
    refine XS.iloadN X3.here hx rfl (hb hby at_24) rfl ?_
    exact kz
  obtain ⟨_, _, ⟨T4, L4, k4, n4⟩, -, X4, ⟨Lc4, hQ4, l4, y4, z4⟩, st4⟩ := Jvm.LawKit.callS X3 hx (y := (⟨"com/example/quartermaster/quartermaster/NamesRequirePinLaw", "pick", "(I)C"⟩ : MethodName)) hown (mvT hZ (hw _ (List.mem_of_getElem? (i := 26) rfl))) (mvT hZ (hw _ (List.mem_of_getElem? (i := 27) rfl))) (mvT hZ (hw _ (List.mem_of_getElem? (i := 28) rfl))) (mvT hZ (hw _ (List.mem_of_getElem? (i := 29) rfl))) (by decide) (backOf (W := 0) (rmPick l Z a0 hw [] p3 T1.heap n0 Z1) hZ (hw _ (List.mem_of_getElem? (i := 29) rfl)) (hw _ (List.mem_of_getElem? (i := 28) rfl)) (by decide) (by decide)) (g := (mkF m 25 #[.val (.int p1), .val (.int p2), .val (.int p3), .val (.int p4), .val (.int p5), .val (.int p6), .val (.ref c1), .val (.int r2), .val (.int r3), .unset, .unset, .unset, .unset, .unset] [(.int p3)])) rfl (by rw [hml]; rfl) (argsL := [(.int p3)]) (rest := []) (lenOf own_pd4 rfl) rfl (by show 2 * 0 + _ ≤ _; exact Nat.le_of_eq rfl) (hb hby at_25) (fun _ _ => ⟨rfl, e3, (by decide : 2 + 0 ≤ _), (by decide : 5 + 0 ≤ _)⟩)
  dsimp only [Pt.U, Pt.locs, Pt.cells, Pt.slots] at X4 l4 y4 z4 st4 hQ4
  subst l4 y4 z4
  obtain ⟨r4, rfl, ok_r4, N4q, e4⟩ := hQ4
  have N4 := Fr.app N3 N4q
  refine own_go (A := T4.setTop (mkF m 28 #[.val (.int p1), .val (.int p2), .val (.int p3), .val (.int p4), .val (.int p5), .val (.int p6), .val (.ref c1), .val (.int r2), .val (.int r3), .unset, .unset, .unset, .unset, .unset] [(.int r4)])) (fun _ kz => st4 _ kz) ?_
  refine own_go (A := T4.setTop (mkF m 31 #[.val (.int p1), .val (.int p2), .val (.int p3), .val (.int p4), .val (.int p5), .val (.int p6), .val (.ref c1), .val (.int r2), .val (.int r3), .val (.int r4), .unset, .unset, .unset, .unset] [(.int p4)])) (fun _ kz => ?_) ?_
  · show Steps p.tables e below (T4.setTop (mkF m 28 #[.val (.int p1), .val (.int p2), .val (.int p3), .val (.int p4), .val (.int p5), .val (.int p6), .val (.ref c1), .val (.int r2), .val (.int r3), .unset, .unset, .unset, .unset, .unset] [(.int r4)])) _
    refine XS.istore X4.here hx rfl (hb hby at_28) rfl (l' := #[.val (.int p1), .val (.int p2), .val (.int p3), .val (.int p4), .val (.int p5), .val (.int p6), .val (.ref c1), .val (.int r2), .val (.int r3), .val (.int r4), .unset, .unset, .unset, .unset]) rfl ?_
    show Steps p.tables e below (T4.setTop (mkF m 30 #[.val (.int p1), .val (.int p2), .val (.int p3), .val (.int p4), .val (.int p5), .val (.int p6), .val (.ref c1), .val (.int r2), .val (.int r3), .val (.int r4), .unset, .unset, .unset, .unset] [])) _
    refine XS.iloadN X4.here hx rfl (hb hby at_30) rfl ?_
    exact kz
  obtain ⟨_, _, ⟨T5, L5, k5, n5⟩, -, X5, ⟨Lc5, hQ5, l5, y5, z5⟩, st5⟩ := Jvm.LawKit.callS X4 hx (y := (⟨"com/example/quartermaster/quartermaster/NamesRequirePinLaw", "pick", "(I)C"⟩ : MethodName)) hown (mvT hZ (hw _ (List.mem_of_getElem? (i := 26) rfl))) (mvT hZ (hw _ (List.mem_of_getElem? (i := 27) rfl))) (mvT hZ (hw _ (List.mem_of_getElem? (i := 28) rfl))) (mvT hZ (hw _ (List.mem_of_getElem? (i := 29) rfl))) (by decide) (backOf (W := 0) (rmPick l Z a0 hw [] p4 T1.heap n0 Z1) hZ (hw _ (List.mem_of_getElem? (i := 29) rfl)) (hw _ (List.mem_of_getElem? (i := 28) rfl)) (by decide) (by decide)) (g := (mkF m 31 #[.val (.int p1), .val (.int p2), .val (.int p3), .val (.int p4), .val (.int p5), .val (.int p6), .val (.ref c1), .val (.int r2), .val (.int r3), .val (.int r4), .unset, .unset, .unset, .unset] [(.int p4)])) rfl (by rw [hml]; rfl) (argsL := [(.int p4)]) (rest := []) (lenOf own_pd4 rfl) rfl (by show 2 * 0 + _ ≤ _; exact Nat.le_of_eq rfl) (hb hby at_31) (fun _ _ => ⟨rfl, e4, (by decide : 2 + 0 ≤ _), (by decide : 5 + 0 ≤ _)⟩)
  dsimp only [Pt.U, Pt.locs, Pt.cells, Pt.slots] at X5 l5 y5 z5 st5 hQ5
  subst l5 y5 z5
  obtain ⟨r5, rfl, ok_r5, N5q, e5⟩ := hQ5
  have N5 := Fr.app N4 N5q
  refine own_go (A := T5.setTop (mkF m 34 #[.val (.int p1), .val (.int p2), .val (.int p3), .val (.int p4), .val (.int p5), .val (.int p6), .val (.ref c1), .val (.int r2), .val (.int r3), .val (.int r4), .unset, .unset, .unset, .unset] [(.int r5)])) (fun _ kz => st5 _ kz) ?_
  refine own_go (A := T5.setTop (mkF m 47 #[.val (.int p1), .val (.int p2), .val (.int p3), .val (.int p4), .val (.int p5), .val (.int p6), .val (.ref c1), .val (.int r2), .val (.int r3), .val (.int r4), .val (.int r5), .unset, .val (.int (p5 &&& (7 : Int32))), .unset] [(.int (7 : Int32)), (.int (p5 &&& (7 : Int32)))])) (fun _ kz => ?_) ?_
  · show Steps p.tables e below (T5.setTop (mkF m 34 #[.val (.int p1), .val (.int p2), .val (.int p3), .val (.int p4), .val (.int p5), .val (.int p6), .val (.ref c1), .val (.int r2), .val (.int r3), .val (.int r4), .unset, .unset, .unset, .unset] [(.int r5)])) _
    refine XS.istore X5.here hx rfl (hb hby at_34) rfl (l' := #[.val (.int p1), .val (.int p2), .val (.int p3), .val (.int p4), .val (.int p5), .val (.int p6), .val (.ref c1), .val (.int r2), .val (.int r3), .val (.int r4), .val (.int r5), .unset, .unset, .unset]) rfl ?_
    show Steps p.tables e below (T5.setTop (mkF m 36 #[.val (.int p1), .val (.int p2), .val (.int p3), .val (.int p4), .val (.int p5), .val (.int p6), .val (.ref c1), .val (.int r2), .val (.int r3), .val (.int r4), .val (.int r5), .unset, .unset, .unset] [])) _
    refine XS.iload X5.here hx rfl (hb hby at_36) rfl ?_
    show Steps p.tables e below (T5.setTop (mkF m 38 #[.val (.int p1), .val (.int p2), .val (.int p3), .val (.int p4), .val (.int p5), .val (.int p6), .val (.ref c1), .val (.int r2), .val (.int r3), .val (.int r4), .val (.int r5), .unset, .unset, .unset] [(.int p5)])) _
    refine XS.bipush X5.here hx rfl (hb hby at_38) ?_
    show Steps p.tables e below (T5.setTop (mkF m 40 #[.val (.int p1), .val (.int p2), .val (.int p3), .val (.int p4), .val (.int p5), .val (.int p6), .val (.ref c1), .val (.int r2), .val (.int r3), .val (.int r4), .val (.int r5), .unset, .unset, .unset] [(.int (7 : Int32)), (.int p5)])) _
    refine XS.iand X5.here hx rfl (hb hby at_40) rfl ?_
    show Steps p.tables e below (T5.setTop (mkF m 41 #[.val (.int p1), .val (.int p2), .val (.int p3), .val (.int p4), .val (.int p5), .val (.int p6), .val (.ref c1), .val (.int r2), .val (.int r3), .val (.int r4), .val (.int r5), .unset, .unset, .unset] [(.int (p5 &&& (7 : Int32)))])) _
    refine XS.istore X5.here hx rfl (hb hby at_41) rfl (l' := #[.val (.int p1), .val (.int p2), .val (.int p3), .val (.int p4), .val (.int p5), .val (.int p6), .val (.ref c1), .val (.int r2), .val (.int r3), .val (.int r4), .val (.int r5), .unset, .val (.int (p5 &&& (7 : Int32))), .unset]) rfl ?_
    show Steps p.tables e below (T5.setTop (mkF m 43 #[.val (.int p1), .val (.int p2), .val (.int p3), .val (.int p4), .val (.int p5), .val (.int p6), .val (.ref c1), .val (.int r2), .val (.int r3), .val (.int r4), .val (.int r5), .unset, .val (.int (p5 &&& (7 : Int32))), .unset] [])) _
    refine XS.iload X5.here hx rfl (hb hby at_43) rfl ?_
    show Steps p.tables e below (T5.setTop (mkF m 45 #[.val (.int p1), .val (.int p2), .val (.int p3), .val (.int p4), .val (.int p5), .val (.int p6), .val (.ref c1), .val (.int r2), .val (.int r3), .val (.int r4), .val (.int r5), .unset, .val (.int (p5 &&& (7 : Int32))), .unset] [(.int (p5 &&& (7 : Int32)))])) _
    refine XS.bipush X5.here hx rfl (hb hby at_45) ?_
    exact kz
  by_cases hs6 : (p5 &&& (7 : Int32)) = (7 : Int32)
  · skip
    refine own_go (A := T5.setTop (mkF m 50 #[.val (.int p1), .val (.int p2), .val (.int p3), .val (.int p4), .val (.int p5), .val (.int p6), .val (.ref c1), .val (.int r2), .val (.int r3), .val (.int r4), .val (.int r5), .unset, .val (.int (p5 &&& (7 : Int32))), .unset] [])) (fun _ kz => ?_) ?_
    · show Steps p.tables e below (T5.setTop (mkF m 47 #[.val (.int p1), .val (.int p2), .val (.int p3), .val (.int p4), .val (.int p5), .val (.int p6), .val (.ref c1), .val (.int r2), .val (.int r3), .val (.int r4), .val (.int r5), .unset, .val (.int (p5 &&& (7 : Int32))), .unset] [(.int (7 : Int32)), (.int (p5 &&& (7 : Int32)))])) _
      refine XS.icmpNo X5.here hx rfl (hb hby at_47) rfl (teq hs6).2 ?_
      exact kz
    obtain ⟨b7, T7, h7, ks7, t7, kc7, X7, e7, E7, hS, hkq, hZ, hown, Ex_b7, Fc_b7, Fv_b7, Av_t7, -, -, hI, Li_b7, st7⟩ := ldcSVL X5 hx hZ hown (hw _ (List.mem_of_getElem? (i := 89) rfl)) wS e5 hS hk (by rw [← hns]; exact N5) hkeep hI (by decide) (hheld _ (List.mem_of_getElem? (i := 0) rfl)) hcw (vs := [(.int (65 : Int32)), (.int (66 : Int32)), (.int (67 : Int32)), (.int (68 : Int32)), (.int (69 : Int32)), (.int (70 : Int32)), (.int (71 : Int32)), (.int (72 : Int32)), (.int (73 : Int32)), (.int (74 : Int32)), (.int (75 : Int32)), (.int (76 : Int32)), (.int (77 : Int32)), (.int (78 : Int32)), (.int (79 : Int32)), (.int (80 : Int32)), (.int (81 : Int32)), (.int (82 : Int32)), (.int (83 : Int32)), (.int (84 : Int32)), (.int (85 : Int32)), (.int (86 : Int32)), (.int (87 : Int32)), (.int (88 : Int32)), (.int (89 : Int32)), (.int (90 : Int32)), (.int (97 : Int32)), (.int (98 : Int32)), (.int (99 : Int32)), (.int (100 : Int32)), (.int (101 : Int32)), (.int (102 : Int32)), (.int (103 : Int32)), (.int (104 : Int32)), (.int (105 : Int32)), (.int (106 : Int32)), (.int (107 : Int32)), (.int (108 : Int32)), (.int (109 : Int32)), (.int (110 : Int32)), (.int (111 : Int32)), (.int (112 : Int32)), (.int (113 : Int32)), (.int (114 : Int32)), (.int (115 : Int32)), (.int (116 : Int32)), (.int (117 : Int32)), (.int (118 : Int32)), (.int (119 : Int32)), (.int (120 : Int32)), (.int (121 : Int32)), (.int (122 : Int32)), (.int (48 : Int32)), (.int (49 : Int32)), (.int (50 : Int32)), (.int (51 : Int32)), (.int (52 : Int32)), (.int (53 : Int32)), (.int (54 : Int32)), (.int (55 : Int32)), (.int (56 : Int32)), (.int (57 : Int32)), (.int (95 : Int32)), (.int (46 : Int32)), (.int (58 : Int32)), (.int (47 : Int32)), (.int (45 : Int32)), (.int (65 : Int32)), (.int (66 : Int32)), (.int (67 : Int32)), (.int (68 : Int32)), (.int (69 : Int32)), (.int (70 : Int32)), (.int (71 : Int32)), (.int (72 : Int32)), (.int (73 : Int32)), (.int (74 : Int32)), (.int (75 : Int32)), (.int (76 : Int32)), (.int (77 : Int32)), (.int (78 : Int32)), (.int (79 : Int32)), (.int (80 : Int32)), (.int (81 : Int32)), (.int (82 : Int32)), (.int (83 : Int32)), (.int (84 : Int32)), (.int (85 : Int32)), (.int (86 : Int32)), (.int (87 : Int32)), (.int (88 : Int32)), (.int (89 : Int32)), (.int (90 : Int32)), (.int (97 : Int32)), (.int (98 : Int32)), (.int (99 : Int32)), (.int (100 : Int32)), (.int (101 : Int32)), (.int (102 : Int32)), (.int (103 : Int32)), (.int (104 : Int32)), (.int (105 : Int32)), (.int (106 : Int32)), (.int (107 : Int32)), (.int (108 : Int32)), (.int (109 : Int32)), (.int (110 : Int32)), (.int (111 : Int32)), (.int (112 : Int32)), (.int (113 : Int32)), (.int (114 : Int32)), (.int (115 : Int32)), (.int (116 : Int32)), (.int (117 : Int32)), (.int (118 : Int32)), (.int (119 : Int32)), (.int (120 : Int32)), (.int (121 : Int32)), (.int (122 : Int32)), (.int (48 : Int32)), (.int (49 : Int32)), (.int (50 : Int32)), (.int (51 : Int32)), (.int (52 : Int32)), (.int (53 : Int32)), (.int (54 : Int32)), (.int (55 : Int32)), (.int (56 : Int32))]) (z := (128 : Int32)) ⟨by decide +kernel, by decide +kernel⟩ (by decide) (by decide +kernel) (g := (mkF m 50 #[.val (.int p1), .val (.int p2), .val (.int p3), .val (.int p4), .val (.int p5), .val (.int p6), .val (.ref c1), .val (.int r2), .val (.int r3), .val (.int r4), .val (.int r5), .unset, .val (.int (p5 &&& (7 : Int32))), .unset] [])) rfl (hb hby at_50) (n := 512) (by decide +kernel) (by decide) (by decide) (by decide)
    replace S_cs := S_cs.ext E7
    replace S_fm := S_fm.ext E7
    replace S_al := S_al.ext E7
    replace Tb := Tb.ext E7
    replace Ex1 := Ex1.ext E7
    have Z7 : n0 ≤ h7.size := Nat.le_trans Z1 E7.1
    replace hk := Nat.le_trans hk E7.1
    replace hk := hkq
    refine own_go (A := T7.setTop (mkF m 52 #[.val (.int p1), .val (.int p2), .val (.int p3), .val (.int p4), .val (.int p5), .val (.int p6), .val (.ref c1), .val (.int r2), .val (.int r3), .val (.int r4), .val (.int r5), .unset, .val (.int (p5 &&& (7 : Int32))), .unset] [(.ref b7)])) (fun _ kz => st7 _ kz) ?_
    refine own_go (A := T7.setTop (mkF m 194 #[.val (.int p1), .val (.int p2), .val (.int p3), .val (.int p4), .val (.int p5), .val (.int p6), .val (.ref c1), .val (.int r2), .val (.int r3), .val (.int r4), .val (.int r5), .val (.ref b7), .val (.int (p5 &&& (7 : Int32))), .unset] [(.ref b7), (.ref c1)])) (fun _ kz => ?_) ?_
    · show Steps p.tables e below (T7.setTop (mkF m 52 #[.val (.int p1), .val (.int p2), .val (.int p3), .val (.int p4), .val (.int p5), .val (.int p6), .val (.ref c1), .val (.int r2), .val (.int r3), .val (.int r4), .val (.int r5), .unset, .val (.int (p5 &&& (7 : Int32))), .unset] [(.ref b7)])) _
      refine XS.astore X7.here hx rfl (hb hby at_52) rfl rfl (l' := #[.val (.int p1), .val (.int p2), .val (.int p3), .val (.int p4), .val (.int p5), .val (.int p6), .val (.ref c1), .val (.int r2), .val (.int r3), .val (.int r4), .val (.int r5), .val (.ref b7), .val (.int (p5 &&& (7 : Int32))), .unset]) rfl ?_
      show Steps p.tables e below (T7.setTop (mkF m 54 #[.val (.int p1), .val (.int p2), .val (.int p3), .val (.int p4), .val (.int p5), .val (.int p6), .val (.ref c1), .val (.int r2), .val (.int r3), .val (.int r4), .val (.int r5), .val (.ref b7), .val (.int (p5 &&& (7 : Int32))), .unset] [])) _
      refine XS.goto X7.here hx rfl (pc0 := 54) (pc' := 190) rfl (hb hby at_54) (by decide) (by decide) ?_
      show Steps p.tables e below (T7.setTop (mkF m 190 #[.val (.int p1), .val (.int p2), .val (.int p3), .val (.int p4), .val (.int p5), .val (.int p6), .val (.ref c1), .val (.int r2), .val (.int r3), .val (.int r4), .val (.int r5), .val (.ref b7), .val (.int (p5 &&& (7 : Int32))), .unset] [])) _
      refine XS.aload X7.here hx rfl (hb hby at_190) rfl rfl ?_
      show Steps p.tables e below (T7.setTop (mkF m 192 #[.val (.int p1), .val (.int p2), .val (.int p3), .val (.int p4), .val (.int p5), .val (.int p6), .val (.ref c1), .val (.int r2), .val (.int r3), .val (.int r4), .val (.int r5), .val (.ref b7), .val (.int (p5 &&& (7 : Int32))), .unset] [(.ref c1)])) _
      refine XS.aload X7.here hx rfl (hb hby at_192) rfl rfl ?_
      exact kz
    have hok : ∀ c ∈ ([65, 66, 67, 68, 69, 70, 71, 72, 73, 74, 75, 76, 77, 78, 79, 80, 81, 82, 83, 84, 85, 86, 87, 88, 89, 90, 97, 98, 99, 100, 101, 102, 103, 104, 105, 106, 107, 108, 109, 110, 111, 112, 113, 114, 115, 116, 117, 118, 119, 120, 121, 122, 48, 49, 50, 51, 52, 53, 54, 55, 56, 57, 95, 46, 58, 47, 45, 65, 66, 67, 68, 69, 70, 71, 72, 73, 74, 75, 76, 77, 78, 79, 80, 81, 82, 83, 84, 85, 86, 87, 88, 89, 90, 97, 98, 99, 100, 101, 102, 103, 104, 105, 106, 107, 108, 109, 110, 111, 112, 113, 114, 115, 116, 117, 118, 119, 120, 121, 122, 48, 49, 50, 51, 52, 53, 54, 55, 56] : List Int32), own_ok c = true := by decide +kernel
    have hp : ∀ c ∈ ([65, 66, 67, 68, 69, 70, 71, 72, 73, 74, 75, 76, 77, 78, 79, 80, 81, 82, 83, 84, 85, 86, 87, 88, 89, 90, 97, 98, 99, 100, 101, 102, 103, 104, 105, 106, 107, 108, 109, 110, 111, 112, 113, 114, 115, 116, 117, 118, 119, 120, 121, 122, 48, 49, 50, 51, 52, 53, 54, 55, 56, 57, 95, 46, 58, 47, 45, 65, 66, 67, 68, 69, 70, 71, 72, 73, 74, 75, 76, 77, 78, 79, 80, 81, 82, 83, 84, 85, 86, 87, 88, 89, 90, 97, 98, 99, 100, 101, 102, 103, 104, 105, 106, 107, 108, 109, 110, 111, 112, 113, 114, 115, 116, 117, 118, 119, 120, 121, 122, 48, 49, 50, 51, 52, 53, 54, 55, 56] : List Int32), ¬ c < 0 ∧ ¬ (255 : Int32) < c := fun c hc => own_ok255 (hok c hc)
    have hcd : StrChars.Road.CodA ([65, 66, 67, 68, 69, 70, 71, 72, 73, 74, 75, 76, 77, 78, 79, 80, 81, 82, 83, 84, 85, 86, 87, 88, 89, 90, 97, 98, 99, 100, 101, 102, 103, 104, 105, 106, 107, 108, 109, 110, 111, 112, 113, 114, 115, 116, 117, 118, 119, 120, 121, 122, 48, 49, 50, 51, 52, 53, 54, 55, 56, 57, 95, 46, 58, 47, 45, 65, 66, 67, 68, 69, 70, 71, 72, 73, 74, 75, 76, 77, 78, 79, 80, 81, 82, 83, 84, 85, 86, 87, 88, 89, 90, 97, 98, 99, 100, 101, 102, 103, 104, 105, 106, 107, 108, 109, 110, 111, 112, 113, 114, 115, 116, 117, 118, 119, 120, 121, 122, 48, 49, 50, 51, 52, 53, 54, 55, 56] : List Int32) 0 (128 : Int32) [(.int (65 : Int32)), (.int (66 : Int32)), (.int (67 : Int32)), (.int (68 : Int32)), (.int (69 : Int32)), (.int (70 : Int32)), (.int (71 : Int32)), (.int (72 : Int32)), (.int (73 : Int32)), (.int (74 : Int32)), (.int (75 : Int32)), (.int (76 : Int32)), (.int (77 : Int32)), (.int (78 : Int32)), (.int (79 : Int32)), (.int (80 : Int32)), (.int (81 : Int32)), (.int (82 : Int32)), (.int (83 : Int32)), (.int (84 : Int32)), (.int (85 : Int32)), (.int (86 : Int32)), (.int (87 : Int32)), (.int (88 : Int32)), (.int (89 : Int32)), (.int (90 : Int32)), (.int (97 : Int32)), (.int (98 : Int32)), (.int (99 : Int32)), (.int (100 : Int32)), (.int (101 : Int32)), (.int (102 : Int32)), (.int (103 : Int32)), (.int (104 : Int32)), (.int (105 : Int32)), (.int (106 : Int32)), (.int (107 : Int32)), (.int (108 : Int32)), (.int (109 : Int32)), (.int (110 : Int32)), (.int (111 : Int32)), (.int (112 : Int32)), (.int (113 : Int32)), (.int (114 : Int32)), (.int (115 : Int32)), (.int (116 : Int32)), (.int (117 : Int32)), (.int (118 : Int32)), (.int (119 : Int32)), (.int (120 : Int32)), (.int (121 : Int32)), (.int (122 : Int32)), (.int (48 : Int32)), (.int (49 : Int32)), (.int (50 : Int32)), (.int (51 : Int32)), (.int (52 : Int32)), (.int (53 : Int32)), (.int (54 : Int32)), (.int (55 : Int32)), (.int (56 : Int32)), (.int (57 : Int32)), (.int (95 : Int32)), (.int (46 : Int32)), (.int (58 : Int32)), (.int (47 : Int32)), (.int (45 : Int32)), (.int (65 : Int32)), (.int (66 : Int32)), (.int (67 : Int32)), (.int (68 : Int32)), (.int (69 : Int32)), (.int (70 : Int32)), (.int (71 : Int32)), (.int (72 : Int32)), (.int (73 : Int32)), (.int (74 : Int32)), (.int (75 : Int32)), (.int (76 : Int32)), (.int (77 : Int32)), (.int (78 : Int32)), (.int (79 : Int32)), (.int (80 : Int32)), (.int (81 : Int32)), (.int (82 : Int32)), (.int (83 : Int32)), (.int (84 : Int32)), (.int (85 : Int32)), (.int (86 : Int32)), (.int (87 : Int32)), (.int (88 : Int32)), (.int (89 : Int32)), (.int (90 : Int32)), (.int (97 : Int32)), (.int (98 : Int32)), (.int (99 : Int32)), (.int (100 : Int32)), (.int (101 : Int32)), (.int (102 : Int32)), (.int (103 : Int32)), (.int (104 : Int32)), (.int (105 : Int32)), (.int (106 : Int32)), (.int (107 : Int32)), (.int (108 : Int32)), (.int (109 : Int32)), (.int (110 : Int32)), (.int (111 : Int32)), (.int (112 : Int32)), (.int (113 : Int32)), (.int (114 : Int32)), (.int (115 : Int32)), (.int (116 : Int32)), (.int (117 : Int32)), (.int (118 : Int32)), (.int (119 : Int32)), (.int (120 : Int32)), (.int (121 : Int32)), (.int (122 : Int32)), (.int (48 : Int32)), (.int (49 : Int32)), (.int (50 : Int32)), (.int (51 : Int32)), (.int (52 : Int32)), (.int (53 : Int32)), (.int (54 : Int32)), (.int (55 : Int32)), (.int (56 : Int32))] := Or.inl ⟨rfl, by decide +kernel, by decide +kernel, fun c hc => (hp c hc).2⟩
    obtain ⟨_, _, ⟨T8, L8, k8, n8⟩, -, X8, ⟨Lc8, hQ8, l8, y8, z8⟩, st8⟩ := Jvm.LawKit.callS X7 hx (y := (⟨"com/example/quartermaster/quartermaster/Names", "require", "(Ljava/lang/String;Ljava/lang/String;)Ljava/lang/String;"⟩ : MethodName)) hown (mvT hZ (hw _ (List.mem_of_getElem? (i := 49) rfl))) (mvT hZ (hw _ (List.mem_of_getElem? (i := 50) rfl))) (mvT hZ (hw _ (List.mem_of_getElem? (i := 51) rfl))) (mvT hZ (hw _ (List.mem_of_getElem? (i := 52) rfl))) (by decide) (backOf (W := 0) (rmRq l Z a0 hw [] c1 b7 t7 kc7 ([65, 66, 67, 68, 69, 70, 71, 72, 73, 74, 75, 76, 77, 78, 79, 80, 81, 82, 83, 84, 85, 86, 87, 88, 89, 90, 97, 98, 99, 100, 101, 102, 103, 104, 105, 106, 107, 108, 109, 110, 111, 112, 113, 114, 115, 116, 117, 118, 119, 120, 121, 122, 48, 49, 50, 51, 52, 53, 54, 55, 56, 57, 95, 46, 58, 47, 45, 65, 66, 67, 68, 69, 70, 71, 72, 73, 74, 75, 76, 77, 78, 79, 80, 81, 82, 83, 84, 85, 86, 87, 88, 89, 90, 97, 98, 99, 100, 101, 102, 103, 104, 105, 106, 107, 108, 109, 110, 111, 112, 113, 114, 115, 116, 117, 118, 119, 120, 121, 122, 48, 49, 50, 51, 52, 53, 54, 55, 56] : List Int32) (128 : Int32) [(.int (65 : Int32)), (.int (66 : Int32)), (.int (67 : Int32)), (.int (68 : Int32)), (.int (69 : Int32)), (.int (70 : Int32)), (.int (71 : Int32)), (.int (72 : Int32)), (.int (73 : Int32)), (.int (74 : Int32)), (.int (75 : Int32)), (.int (76 : Int32)), (.int (77 : Int32)), (.int (78 : Int32)), (.int (79 : Int32)), (.int (80 : Int32)), (.int (81 : Int32)), (.int (82 : Int32)), (.int (83 : Int32)), (.int (84 : Int32)), (.int (85 : Int32)), (.int (86 : Int32)), (.int (87 : Int32)), (.int (88 : Int32)), (.int (89 : Int32)), (.int (90 : Int32)), (.int (97 : Int32)), (.int (98 : Int32)), (.int (99 : Int32)), (.int (100 : Int32)), (.int (101 : Int32)), (.int (102 : Int32)), (.int (103 : Int32)), (.int (104 : Int32)), (.int (105 : Int32)), (.int (106 : Int32)), (.int (107 : Int32)), (.int (108 : Int32)), (.int (109 : Int32)), (.int (110 : Int32)), (.int (111 : Int32)), (.int (112 : Int32)), (.int (113 : Int32)), (.int (114 : Int32)), (.int (115 : Int32)), (.int (116 : Int32)), (.int (117 : Int32)), (.int (118 : Int32)), (.int (119 : Int32)), (.int (120 : Int32)), (.int (121 : Int32)), (.int (122 : Int32)), (.int (48 : Int32)), (.int (49 : Int32)), (.int (50 : Int32)), (.int (51 : Int32)), (.int (52 : Int32)), (.int (53 : Int32)), (.int (54 : Int32)), (.int (55 : Int32)), (.int (56 : Int32)), (.int (57 : Int32)), (.int (95 : Int32)), (.int (46 : Int32)), (.int (58 : Int32)), (.int (47 : Int32)), (.int (45 : Int32)), (.int (65 : Int32)), (.int (66 : Int32)), (.int (67 : Int32)), (.int (68 : Int32)), (.int (69 : Int32)), (.int (70 : Int32)), (.int (71 : Int32)), (.int (72 : Int32)), (.int (73 : Int32)), (.int (74 : Int32)), (.int (75 : Int32)), (.int (76 : Int32)), (.int (77 : Int32)), (.int (78 : Int32)), (.int (79 : Int32)), (.int (80 : Int32)), (.int (81 : Int32)), (.int (82 : Int32)), (.int (83 : Int32)), (.int (84 : Int32)), (.int (85 : Int32)), (.int (86 : Int32)), (.int (87 : Int32)), (.int (88 : Int32)), (.int (89 : Int32)), (.int (90 : Int32)), (.int (97 : Int32)), (.int (98 : Int32)), (.int (99 : Int32)), (.int (100 : Int32)), (.int (101 : Int32)), (.int (102 : Int32)), (.int (103 : Int32)), (.int (104 : Int32)), (.int (105 : Int32)), (.int (106 : Int32)), (.int (107 : Int32)), (.int (108 : Int32)), (.int (109 : Int32)), (.int (110 : Int32)), (.int (111 : Int32)), (.int (112 : Int32)), (.int (113 : Int32)), (.int (114 : Int32)), (.int (115 : Int32)), (.int (116 : Int32)), (.int (117 : Int32)), (.int (118 : Int32)), (.int (119 : Int32)), (.int (120 : Int32)), (.int (121 : Int32)), (.int (122 : Int32)), (.int (48 : Int32)), (.int (49 : Int32)), (.int (50 : Int32)), (.int (51 : Int32)), (.int (52 : Int32)), (.int (53 : Int32)), (.int (54 : Int32)), (.int (55 : Int32)), (.int (56 : Int32))] cs fm al kt vt h7 n0 Z7 Ex_b7 Fv_b7 Fc_b7 Av_t7 hcd (own_up _ hp) (Nat.le_of_ble_eq_true rfl) (Nat.le_of_ble_eq_true rfl) hok hcs S_cs S_fm rfm S_al Tb hvt) hZ (hw _ (List.mem_of_getElem? (i := 52) rfl)) (hw _ (List.mem_of_getElem? (i := 51) rfl)) (by decide) (by decide)) (g := (mkF m 194 #[.val (.int p1), .val (.int p2), .val (.int p3), .val (.int p4), .val (.int p5), .val (.int p6), .val (.ref c1), .val (.int r2), .val (.int r3), .val (.int r4), .val (.int r5), .val (.ref b7), .val (.int (p5 &&& (7 : Int32))), .unset] [(.ref b7), (.ref c1)])) rfl (by rw [hml]; rfl) (argsL := [(.ref c1), (.ref b7)]) (rest := []) (lenOf own_pd7 rfl) rfl (by show 2 * 0 + _ ≤ _; exact Nat.le_of_eq rfl) (hb hby at_194) (fun _ _ => ⟨rfl, e7, (by decide : 4 + 0 ≤ _), (by decide : 521 + 0 ≤ _)⟩)
    dsimp only [Pt.U, Pt.locs, Pt.cells, Pt.slots] at X8 l8 y8 z8 st8 hQ8
    subst l8 y8 z8
    obtain ⟨rfl, N8q, e8⟩ := hQ8
    have N8 := Fr.app N5 N8q
    refine own_go (A := T8.setTop (mkF m 197 #[.val (.int p1), .val (.int p2), .val (.int p3), .val (.int p4), .val (.int p5), .val (.int p6), .val (.ref c1), .val (.int r2), .val (.int r3), .val (.int r4), .val (.int r5), .val (.ref b7), .val (.int (p5 &&& (7 : Int32))), .unset] [(.ref b7)])) (fun _ kz => st8 _ kz) ?_
    refine own_go (A := T8.setTop (mkF m 211 #[.val (.int p1), .val (.int p2), .val (.int p3), .val (.int p4), .val (.int p5), .val (.int p6), .val (.ref c1), .val (.int r2), .val (.int r3), .val (.int r4), .val (.int r5), .val (.ref b7), .val (.int (p5 &&& (7 : Int32))), .val (.ref b7)] [(.int (1 : Int32))])) (fun _ kz => ?_) ?_
    · show Steps p.tables e below (T8.setTop (mkF m 197 #[.val (.int p1), .val (.int p2), .val (.int p3), .val (.int p4), .val (.int p5), .val (.int p6), .val (.ref c1), .val (.int r2), .val (.int r3), .val (.int r4), .val (.int r5), .val (.ref b7), .val (.int (p5 &&& (7 : Int32))), .unset] [(.ref b7)])) _
      refine XS.astore X8.here hx rfl (hb hby at_197) rfl rfl (l' := #[.val (.int p1), .val (.int p2), .val (.int p3), .val (.int p4), .val (.int p5), .val (.int p6), .val (.ref c1), .val (.int r2), .val (.int r3), .val (.int r4), .val (.int r5), .val (.ref b7), .val (.int (p5 &&& (7 : Int32))), .val (.ref b7)]) rfl ?_
      show Steps p.tables e below (T8.setTop (mkF m 199 #[.val (.int p1), .val (.int p2), .val (.int p3), .val (.int p4), .val (.int p5), .val (.int p6), .val (.ref c1), .val (.int r2), .val (.int r3), .val (.int r4), .val (.int r5), .val (.ref b7), .val (.int (p5 &&& (7 : Int32))), .val (.ref b7)] [])) _
      refine XS.aload X8.here hx rfl (hb hby at_199) rfl rfl ?_
      show Steps p.tables e below (T8.setTop (mkF m 201 #[.val (.int p1), .val (.int p2), .val (.int p3), .val (.int p4), .val (.int p5), .val (.int p6), .val (.ref c1), .val (.int r2), .val (.int r3), .val (.int r4), .val (.int r5), .val (.ref b7), .val (.int (p5 &&& (7 : Int32))), .val (.ref b7)] [(.ref b7)])) _
      refine XS.aload X8.here hx rfl (hb hby at_201) rfl rfl ?_
      show Steps p.tables e below (T8.setTop (mkF m 203 #[.val (.int p1), .val (.int p2), .val (.int p3), .val (.int p4), .val (.int p5), .val (.int p6), .val (.ref c1), .val (.int r2), .val (.int r3), .val (.int r4), .val (.int r5), .val (.ref b7), .val (.int (p5 &&& (7 : Int32))), .val (.ref b7)] [(.ref b7), (.ref b7)])) _
      refine Jvm.RoadKit.acmp (g := (mkF m 203 #[.val (.int p1), .val (.int p2), .val (.int p3), .val (.int p4), .val (.int p5), .val (.int p6), .val (.ref c1), .val (.int r2), .val (.int r3), .val (.int r4), .val (.int r5), .val (.ref b7), .val (.int (p5 &&& (7 : Int32))), .val (.ref b7)] [(.ref b7), (.ref b7)])) X8 hx rfl rfl rfl (pc0 := 203) (pc' := 206) (same := true) rfl (hb hby at_203) rfl (decide_eq_true rfl) (by decide) (by decide) ?_
      show Steps p.tables e below (T8.setTop (mkF m 206 #[.val (.int p1), .val (.int p2), .val (.int p3), .val (.int p4), .val (.int p5), .val (.int p6), .val (.ref c1), .val (.int r2), .val (.int r3), .val (.int r4), .val (.int r5), .val (.ref b7), .val (.int (p5 &&& (7 : Int32))), .val (.ref b7)] [])) _
      refine XS.iconst X8.here hx rfl (hb hby at_206) ?_
      show Steps p.tables e below (T8.setTop (mkF m 207 #[.val (.int p1), .val (.int p2), .val (.int p3), .val (.int p4), .val (.int p5), .val (.int p6), .val (.ref c1), .val (.int r2), .val (.int r3), .val (.int r4), .val (.int r5), .val (.ref b7), .val (.int (p5 &&& (7 : Int32))), .val (.ref b7)] [(.int (1 : Int32))])) _
      refine XS.goto X8.here hx rfl (pc0 := 207) (pc' := 211) rfl (hb hby at_207) (by decide) (by decide) ?_
      exact kz
    obtain ⟨fs, hrr, hrun, hended, rW1, rW2, rW3, rW4⟩ := X8.leaveW hS (by rw [e8]; exact hk) (v := some (.int (1 : Int32))) (fun h => by rw [Bd.returns] at h; cases h)
    refine ⟨_, _, ?_, hrun, hended, _, _, rfl, ?_, rW1, rW2, rW3, rW4.mono (by decide) (by decide)⟩
    · show Steps p.tables e below (T8.setTop (mkF m 211 #[.val (.int p1), .val (.int p2), .val (.int p3), .val (.int p4), .val (.int p5), .val (.int p6), .val (.ref c1), .val (.int r2), .val (.int r3), .val (.int r4), .val (.int r5), .val (.ref b7), .val (.int (p5 &&& (7 : Int32))), .val (.ref b7)] [(.int (1 : Int32))])) _
      exact retN X8 hx (t := .boolean) Bd.returns (by simp) (hb hby at_211) hrr
    · show Qrm0 Z  h0 n0 _ T8.heap _
      rw [e8]
      exact ⟨rfl, N8⟩
  · skip
    refine own_go (A := T5.setTop (mkF m 57 #[.val (.int p1), .val (.int p2), .val (.int p3), .val (.int p4), .val (.int p5), .val (.int p6), .val (.ref c1), .val (.int r2), .val (.int r3), .val (.int r4), .val (.int r5), .unset, .val (.int (p5 &&& (7 : Int32))), .unset] [])) (fun _ kz => ?_) ?_
    · show Steps p.tables e below (T5.setTop (mkF m 47 #[.val (.int p1), .val (.int p2), .val (.int p3), .val (.int p4), .val (.int p5), .val (.int p6), .val (.ref c1), .val (.int r2), .val (.int r3), .val (.int r4), .val (.int r5), .unset, .val (.int (p5 &&& (7 : Int32))), .unset] [(.int (7 : Int32)), (.int (p5 &&& (7 : Int32)))])) _
      refine XS.icmpYes X5.here hx rfl (pc0 := 47) (pc' := 57) rfl (hb hby at_47) rfl (feq hs6).2 (by decide) (by decide) ?_
      exact kz
    refine own_go (A := T5.setTop (mkF m 68 #[.val (.int p1), .val (.int p2), .val (.int p3), .val (.int p4), .val (.int p5), .val (.int p6), .val (.ref c1), .val (.int r2), .val (.int r3), .val (.int r4), .val (.int r5), .unset, .val (.int (p5 &&& (7 : Int32))), .val (.int (((p5 &&& (7 : Int32)) &&& (3 : Int32)) + (1 : Int32)))] [(.int (1 : Int32)), (.int (((p5 &&& (7 : Int32)) &&& (3 : Int32)) + (1 : Int32)))])) (fun _ kz => ?_) ?_
    · show Steps p.tables e below (T5.setTop (mkF m 57 #[.val (.int p1), .val (.int p2), .val (.int p3), .val (.int p4), .val (.int p5), .val (.int p6), .val (.ref c1), .val (.int r2), .val (.int r3), .val (.int r4), .val (.int r5), .unset, .val (.int (p5 &&& (7 : Int32))), .unset] [])) _
      refine XS.iload X5.here hx rfl (hb hby at_57) rfl ?_
      show Steps p.tables e below (T5.setTop (mkF m 59 #[.val (.int p1), .val (.int p2), .val (.int p3), .val (.int p4), .val (.int p5), .val (.int p6), .val (.ref c1), .val (.int r2), .val (.int r3), .val (.int r4), .val (.int r5), .unset, .val (.int (p5 &&& (7 : Int32))), .unset] [(.int (p5 &&& (7 : Int32)))])) _
      refine XS.iconst X5.here hx rfl (hb hby at_59) ?_
      show Steps p.tables e below (T5.setTop (mkF m 60 #[.val (.int p1), .val (.int p2), .val (.int p3), .val (.int p4), .val (.int p5), .val (.int p6), .val (.ref c1), .val (.int r2), .val (.int r3), .val (.int r4), .val (.int r5), .unset, .val (.int (p5 &&& (7 : Int32))), .unset] [(.int (3 : Int32)), (.int (p5 &&& (7 : Int32)))])) _
      refine XS.iand X5.here hx rfl (hb hby at_60) rfl ?_
      show Steps p.tables e below (T5.setTop (mkF m 61 #[.val (.int p1), .val (.int p2), .val (.int p3), .val (.int p4), .val (.int p5), .val (.int p6), .val (.ref c1), .val (.int r2), .val (.int r3), .val (.int r4), .val (.int r5), .unset, .val (.int (p5 &&& (7 : Int32))), .unset] [(.int ((p5 &&& (7 : Int32)) &&& (3 : Int32)))])) _
      refine XS.iconst X5.here hx rfl (hb hby at_61) ?_
      show Steps p.tables e below (T5.setTop (mkF m 62 #[.val (.int p1), .val (.int p2), .val (.int p3), .val (.int p4), .val (.int p5), .val (.int p6), .val (.ref c1), .val (.int r2), .val (.int r3), .val (.int r4), .val (.int r5), .unset, .val (.int (p5 &&& (7 : Int32))), .unset] [(.int (1 : Int32)), (.int ((p5 &&& (7 : Int32)) &&& (3 : Int32)))])) _
      refine XS.iadd X5.here hx rfl (hb hby at_62) rfl ?_
      show Steps p.tables e below (T5.setTop (mkF m 63 #[.val (.int p1), .val (.int p2), .val (.int p3), .val (.int p4), .val (.int p5), .val (.int p6), .val (.ref c1), .val (.int r2), .val (.int r3), .val (.int r4), .val (.int r5), .unset, .val (.int (p5 &&& (7 : Int32))), .unset] [(.int (((p5 &&& (7 : Int32)) &&& (3 : Int32)) + (1 : Int32)))])) _
      refine XS.istore X5.here hx rfl (hb hby at_63) rfl (l' := #[.val (.int p1), .val (.int p2), .val (.int p3), .val (.int p4), .val (.int p5), .val (.int p6), .val (.ref c1), .val (.int r2), .val (.int r3), .val (.int r4), .val (.int r5), .unset, .val (.int (p5 &&& (7 : Int32))), .val (.int (((p5 &&& (7 : Int32)) &&& (3 : Int32)) + (1 : Int32)))]) rfl ?_
      show Steps p.tables e below (T5.setTop (mkF m 65 #[.val (.int p1), .val (.int p2), .val (.int p3), .val (.int p4), .val (.int p5), .val (.int p6), .val (.ref c1), .val (.int r2), .val (.int r3), .val (.int r4), .val (.int r5), .unset, .val (.int (p5 &&& (7 : Int32))), .val (.int (((p5 &&& (7 : Int32)) &&& (3 : Int32)) + (1 : Int32)))] [])) _
      refine XS.iload X5.here hx rfl (hb hby at_65) rfl ?_
      show Steps p.tables e below (T5.setTop (mkF m 67 #[.val (.int p1), .val (.int p2), .val (.int p3), .val (.int p4), .val (.int p5), .val (.int p6), .val (.ref c1), .val (.int r2), .val (.int r3), .val (.int r4), .val (.int r5), .unset, .val (.int (p5 &&& (7 : Int32))), .val (.int (((p5 &&& (7 : Int32)) &&& (3 : Int32)) + (1 : Int32)))] [(.int (((p5 &&& (7 : Int32)) &&& (3 : Int32)) + (1 : Int32)))])) _
      refine XS.iconst X5.here hx rfl (hb hby at_67) ?_
      exact kz
    by_cases hs9 : (((p5 &&& (7 : Int32)) &&& (3 : Int32)) + (1 : Int32)) = (1 : Int32)
    · skip
      refine own_go (A := T5.setTop (mkF m 71 #[.val (.int p1), .val (.int p2), .val (.int p3), .val (.int p4), .val (.int p5), .val (.int p6), .val (.ref c1), .val (.int r2), .val (.int r3), .val (.int r4), .val (.int r5), .unset, .val (.int (p5 &&& (7 : Int32))), .val (.int (((p5 &&& (7 : Int32)) &&& (3 : Int32)) + (1 : Int32)))] [])) (fun _ kz => ?_) ?_
      · show Steps p.tables e below (T5.setTop (mkF m 68 #[.val (.int p1), .val (.int p2), .val (.int p3), .val (.int p4), .val (.int p5), .val (.int p6), .val (.ref c1), .val (.int r2), .val (.int r3), .val (.int r4), .val (.int r5), .unset, .val (.int (p5 &&& (7 : Int32))), .val (.int (((p5 &&& (7 : Int32)) &&& (3 : Int32)) + (1 : Int32)))] [(.int (1 : Int32)), (.int (((p5 &&& (7 : Int32)) &&& (3 : Int32)) + (1 : Int32)))])) _
        refine XS.icmpNo X5.here hx rfl (hb hby at_68) rfl (teq hs9).2 ?_
        exact kz
      obtain ⟨T10, h10, X10, e10, E10, A10, D10, -, st10⟩ := newO X5 hx hZ hown (hw _ (List.mem_of_getElem? (i := 31) rfl)) (hw _ (List.mem_of_getElem? (i := 10) rfl)) (hw _ (List.mem_of_getElem? (i := 2) rfl)) e5 (g := (mkF m 71 #[.val (.int p1), .val (.int p2), .val (.int p3), .val (.int p4), .val (.int p5), .val (.int p6), .val (.ref c1), .val (.int r2), .val (.int r3), .val (.int r4), .val (.int r5), .unset, .val (.int (p5 &&& (7 : Int32))), .val (.int (((p5 &&& (7 : Int32)) &&& (3 : Int32)) + (1 : Int32)))] [])) rfl (hb hby at_71) (by decide) (by decide)
      obtain ⟨b10, gq10⟩ : ∃ z, z = T1.heap.size := ⟨_, rfl⟩
      rw [← gq10] at A10 D10 st10
      have g_b10 : n0 ≤ b10 := Nat.le_trans Z1 (Nat.le_of_eq gq10.symm)
      have ne_al_b10 : al ≠ b10 := Nat.ne_of_lt (Nat.lt_of_lt_of_le Tb.lt (Nat.le_of_eq gq10.symm))
      have ne_c1_b10 : c1 ≠ b10 := Nat.ne_of_lt (Nat.lt_of_lt_of_le Ex1.lt (Nat.le_of_eq gq10.symm))
      replace S_cs := S_cs.ext E10
      replace S_fm := S_fm.ext E10
      replace S_al := S_al.ext E10
      replace Tb := Tb.ext E10
      replace Ex1 := Ex1.ext E10
      have Z10 : n0 ≤ h10.size := Nat.le_trans Z1 E10.1
      replace hk := Nat.le_trans hk E10.1
      have Ex_b10 := A10
      have F_value_b10 : Fld Z h10 b10 "java/lang/String" "value" "[B" .null := D10 (Or.inr (hw _ (List.mem_of_getElem? (i := 23) rfl))) (ty := (.array .byte)) (by decide)
      have F_coder_b10 : Fld Z h10 b10 "java/lang/String" "coder" "B" (.int (0 : Int32)) := D10 (Or.inr (hw _ (List.mem_of_getElem? (i := 25) rfl))) (ty := .byte) (by decide)
      refine own_go (A := T10.setTop (mkF m 74 #[.val (.int p1), .val (.int p2), .val (.int p3), .val (.int p4), .val (.int p5), .val (.int p6), .val (.ref c1), .val (.int r2), .val (.int r3), .val (.int r4), .val (.int r5), .unset, .val (.int (p5 &&& (7 : Int32))), .val (.int (((p5 &&& (7 : Int32)) &&& (3 : Int32)) + (1 : Int32)))] [(.ref b10)])) (fun _ kz => st10 _ kz) ?_
      refine own_go (A := T10.setTop (mkF m 76 #[.val (.int p1), .val (.int p2), .val (.int p3), .val (.int p4), .val (.int p5), .val (.int p6), .val (.ref c1), .val (.int r2), .val (.int r3), .val (.int r4), .val (.int r5), .unset, .val (.int (p5 &&& (7 : Int32))), .val (.int (((p5 &&& (7 : Int32)) &&& (3 : Int32)) + (1 : Int32)))] [(.int (1 : Int32)), (.ref b10), (.ref b10)])) (fun _ kz => ?_) ?_
      · show Steps p.tables e below (T10.setTop (mkF m 74 #[.val (.int p1), .val (.int p2), .val (.int p3), .val (.int p4), .val (.int p5), .val (.int p6), .val (.ref c1), .val (.int r2), .val (.int r3), .val (.int r4), .val (.int r5), .unset, .val (.int (p5 &&& (7 : Int32))), .val (.int (((p5 &&& (7 : Int32)) &&& (3 : Int32)) + (1 : Int32)))] [(.ref b10)])) _
        refine XS.dup X10.here hx rfl (hb hby at_74) rfl rfl ?_
        show Steps p.tables e below (T10.setTop (mkF m 75 #[.val (.int p1), .val (.int p2), .val (.int p3), .val (.int p4), .val (.int p5), .val (.int p6), .val (.ref c1), .val (.int r2), .val (.int r3), .val (.int r4), .val (.int r5), .unset, .val (.int (p5 &&& (7 : Int32))), .val (.int (((p5 &&& (7 : Int32)) &&& (3 : Int32)) + (1 : Int32)))] [(.ref b10), (.ref b10)])) _
        refine XS.iconst X10.here hx rfl (hb hby at_75) ?_
        exact kz
      obtain ⟨T11, h11, k11, X11, e11, E11, A11, st11⟩ := newP X10 hx hZ (hw _ (List.mem_of_getElem? (i := 32) rfl)) e10 (g := (mkF m 76 #[.val (.int p1), .val (.int p2), .val (.int p3), .val (.int p4), .val (.int p5), .val (.int p6), .val (.ref c1), .val (.int r2), .val (.int r3), .val (.int r4), .val (.int r5), .unset, .val (.int (p5 &&& (7 : Int32))), .val (.int (((p5 &&& (7 : Int32)) &&& (3 : Int32)) + (1 : Int32)))] [(.int (1 : Int32)), (.ref b10), (.ref b10)])) rfl (hb hby at_76) rfl (by decide) (cap := 1) (by decide) (by decide) (by decide) (by decide)
      obtain ⟨b11, gq11⟩ : ∃ z, z = h10.size := ⟨_, rfl⟩
      rw [← gq11] at A11 st11
      have g_b11 : n0 ≤ b11 := Nat.le_trans Z10 (Nat.le_of_eq gq11.symm)
      have ne_al_b11 : al ≠ b11 := Nat.ne_of_lt (Nat.lt_of_lt_of_le Tb.lt (Nat.le_of_eq gq11.symm))
      have ne_c1_b11 : c1 ≠ b11 := Nat.ne_of_lt (Nat.lt_of_lt_of_le Ex1.lt (Nat.le_of_eq gq11.symm))
      have ne_b10_b11 : b10 ≠ b11 := Nat.ne_of_lt (Nat.lt_of_lt_of_le Ex_b10.lt (Nat.le_of_eq gq11.symm))
      replace S_cs := S_cs.ext E11
      replace S_fm := S_fm.ext E11
      replace S_al := S_al.ext E11
      replace Tb := Tb.ext E11
      replace Ex1 := Ex1.ext E11
      replace Ex_b10 := Ex_b10.ext E11
      replace F_value_b10 := F_value_b10.ext E11
      replace F_coder_b10 := F_coder_b10.ext E11
      have Z11 : n0 ≤ h11.size := Nat.le_trans Z10 E11.1
      replace hk := Nat.le_trans hk E11.1
      have Av_b11 : Arv Z h11 b11 k11 .char (1 : Int32) [(.int (0 : Int32))] (.int (0 : Int32)) := (Arv.new A11 (by decide)).pad (pad_rep [] (.int (0 : Int32)) 1)
      refine own_go (A := T11.setTop (mkF m 78 #[.val (.int p1), .val (.int p2), .val (.int p3), .val (.int p4), .val (.int p5), .val (.int p6), .val (.ref c1), .val (.int r2), .val (.int r3), .val (.int r4), .val (.int r5), .unset, .val (.int (p5 &&& (7 : Int32))), .val (.int (((p5 &&& (7 : Int32)) &&& (3 : Int32)) + (1 : Int32)))] [(.ref b11), (.ref b10), (.ref b10)])) (fun _ kz => st11 _ kz) ?_
      refine own_go (A := T11.setTop (mkF m 82 #[.val (.int p1), .val (.int p2), .val (.int p3), .val (.int p4), .val (.int p5), .val (.int p6), .val (.ref c1), .val (.int r2), .val (.int r3), .val (.int r4), .val (.int r5), .unset, .val (.int (p5 &&& (7 : Int32))), .val (.int (((p5 &&& (7 : Int32)) &&& (3 : Int32)) + (1 : Int32)))] [(.int r2), (.int (0 : Int32)), (.ref b11), (.ref b11), (.ref b10), (.ref b10)])) (fun _ kz => ?_) ?_
      · show Steps p.tables e below (T11.setTop (mkF m 78 #[.val (.int p1), .val (.int p2), .val (.int p3), .val (.int p4), .val (.int p5), .val (.int p6), .val (.ref c1), .val (.int r2), .val (.int r3), .val (.int r4), .val (.int r5), .unset, .val (.int (p5 &&& (7 : Int32))), .val (.int (((p5 &&& (7 : Int32)) &&& (3 : Int32)) + (1 : Int32)))] [(.ref b11), (.ref b10), (.ref b10)])) _
        refine XS.dup X11.here hx rfl (hb hby at_78) rfl rfl ?_
        show Steps p.tables e below (T11.setTop (mkF m 79 #[.val (.int p1), .val (.int p2), .val (.int p3), .val (.int p4), .val (.int p5), .val (.int p6), .val (.ref c1), .val (.int r2), .val (.int r3), .val (.int r4), .val (.int r5), .unset, .val (.int (p5 &&& (7 : Int32))), .val (.int (((p5 &&& (7 : Int32)) &&& (3 : Int32)) + (1 : Int32)))] [(.ref b11), (.ref b11), (.ref b10), (.ref b10)])) _
        refine XS.iconst X11.here hx rfl (hb hby at_79) ?_
        show Steps p.tables e below (T11.setTop (mkF m 80 #[.val (.int p1), .val (.int p2), .val (.int p3), .val (.int p4), .val (.int p5), .val (.int p6), .val (.ref c1), .val (.int r2), .val (.int r3), .val (.int r4), .val (.int r5), .unset, .val (.int (p5 &&& (7 : Int32))), .val (.int (((p5 &&& (7 : Int32)) &&& (3 : Int32)) + (1 : Int32)))] [(.int (0 : Int32)), (.ref b11), (.ref b11), (.ref b10), (.ref b10)])) _
        refine XS.iload X11.here hx rfl (hb hby at_80) rfl ?_
        exact kz
      obtain ⟨cl12, Ar12, q12, S12, M12, H12, G12⟩ := id Av_b11
      have hin12 : ¬ ((0 : Int32) < 0 ∨ cl12.slots.size ≤ ((0 : Int32)).toNatClampNeg) := inb_of S12 ⟨by decide, by decide⟩
      obtain ⟨T12, h12, X12, e12, W12, st12⟩ := stC X11 hx hZ e11 Ar12 (j := (0 : Int32)) hin12 (g := (mkF m 82 #[.val (.int p1), .val (.int p2), .val (.int p3), .val (.int p4), .val (.int p5), .val (.int p6), .val (.ref c1), .val (.int r2), .val (.int r3), .val (.int r4), .val (.int r5), .unset, .val (.int (p5 &&& (7 : Int32))), .val (.int (((p5 &&& (7 : Int32)) &&& (3 : Int32)) + (1 : Int32)))] [(.int r2), (.int (0 : Int32)), (.ref b11), (.ref b11), (.ref b10), (.ref b10)])) rfl rfl (hb hby at_82)
      have Aw12 := Arv.set Ar12 q12 S12 M12 H12 G12 (fits_nar_char _) W12 0 rfl (Nat.le_of_ble_eq_true rfl)
      replace S_cs := S_cs.wr W12
      replace S_fm := S_fm.wr W12
      replace S_al := S_al.wr W12
      replace Tb := Tb.other W12 ne_al_b11
      replace Ex1 := Ex1.wr W12
      replace Ex_b10 := Ex_b10.wr W12
      replace F_value_b10 := F_value_b10.other W12 (Or.inl ne_b10_b11)
      replace F_coder_b10 := F_coder_b10.other W12 (Or.inl ne_b10_b11)
      have Z12 : n0 ≤ h12.size := Nat.le_trans Z11 (Keep.of_wr W12).1
      replace hk := Nat.le_trans hk (Keep.of_wr W12).1
      have Av_b11 : Arv Z h12 b11 k11 .char (1 : Int32) [(.int (nar .char r2))] (.int (0 : Int32)) := Aw12
      have N12 := Fr.snoc X12 N5 g_b11
      refine own_go (A := T12.setTop (mkF m 83 #[.val (.int p1), .val (.int p2), .val (.int p3), .val (.int p4), .val (.int p5), .val (.int p6), .val (.ref c1), .val (.int r2), .val (.int r3), .val (.int r4), .val (.int r5), .unset, .val (.int (p5 &&& (7 : Int32))), .val (.int (((p5 &&& (7 : Int32)) &&& (3 : Int32)) + (1 : Int32)))] [(.ref b11), (.ref b10), (.ref b10)])) (fun _ kz => st12 _ kz) ?_
      have hok : ∀ c ∈ ([(nar .char r2)] : List Int32), own_ok c = true := by
        intro c hc
        simp only [List.mem_cons, List.not_mem_nil, or_false] at hc
        rcases hc with rfl
        · exact own_okn ok_r2
      have hp : ∀ c ∈ ([(nar .char r2)] : List Int32), ¬ c < 0 ∧ ¬ (255 : Int32) < c := fun c hc => own_ok255 (hok c hc)
      have hcd : StrChars.Road.CodA ([(nar .char r2)] : List Int32) 0 (1 : Int32) (((([(nar .char r2)] : List Int32)).map (fun c => c.toInt8.toInt32)).map Value.int) := StrChars.Road.codOf (n := 1) rfl (fun c hc => (hp c hc).2)
      obtain ⟨_, _, ⟨T13, L13, k13, n13⟩, -, X13, ⟨Lc13, hQ13, l13, y13, z13⟩, st13⟩ := X12.specialBack hx (y := (⟨"java/lang/String", "<init>", "([C)V"⟩ : MethodName)) rfl hown (mvT hZ (hw _ (List.mem_of_getElem? (i := 33) rfl))) (mvT hZ (hw _ (List.mem_of_getElem? (i := 34) rfl))) (mvT hZ (hw _ (List.mem_of_getElem? (i := 35) rfl))) (by decide) (StrChars.Road.backV (W := 1) hZ hws (kI := 4) (hw _ (List.mem_of_getElem? (i := 10) rfl)) (cs := ([(nar .char r2)] : List Int32)) (bs := (([(nar .char r2)] : List Int32)).map (fun c => c.toInt8.toInt32)) (n := 1) g_b10 Z12 Ex_b10 F_value_b10 F_coder_b10 Av_b11 S_cs hcs rfl rfl (by decide) (by decide) hp rfl (by decide) (by decide)) (g := (mkF m 83 #[.val (.int p1), .val (.int p2), .val (.int p3), .val (.int p4), .val (.int p5), .val (.int p6), .val (.ref c1), .val (.int r2), .val (.int r3), .val (.int r4), .val (.int r5), .unset, .val (.int (p5 &&& (7 : Int32))), .val (.int (((p5 &&& (7 : Int32)) &&& (3 : Int32)) + (1 : Int32)))] [(.ref b11), (.ref b10), (.ref b10)])) rfl (by rw [hml]; rfl) (Steps.refl _) (a := b10) (argsL := [(.ref b11)]) (rest := [(.ref b10)]) (lenOf own_pd8 rfl) rfl (by show 2 * 0 + _ ≤ _; exact Nat.le_of_eq rfl) (hb hby at_83) (fun _ _ => ⟨rfl, e12, (by decide : 4 + 1 ≤ _), (by decide : 10 + 1 ≤ _)⟩)
      dsimp only [Pt.U, Pt.locs, Pt.cells, Pt.slots] at X13 l13 y13 z13 st13 hQ13
      subst l13 y13 z13
      obtain ⟨rfl, N13q, K13q, _, Fc13, t13, kb13, u113, u213, u313, Fv13, Ab13⟩ := hQ13
      have N13 := Fr.app N12 N13q
      replace S_cs := own_staKeep S_cs K13q (allS (own_ns Ex_b10) all0)
      replace S_fm := own_staKeep S_fm K13q (allS (own_ns Ex_b10) all0)
      replace S_al := own_staKeep S_al K13q (allS (own_ns Ex_b10) all0)
      replace Tb := Tb.keep K13q (ninS ne_al_b10 nin0)
      replace Ex1 := Ex1.keep K13q
      replace Ex_b10 := Ex_b10.keep K13q
      replace Av_b11 := Av_b11.keep K13q (ninS (Ne.symm ne_b10_b11) nin0)
      have Z13 : n0 ≤ T13.heap.size := Nat.le_trans Z12 K13q.1
      replace hk := Nat.le_trans hk K13q.1
      refine own_go (A := T13.setTop (mkF m 86 #[.val (.int p1), .val (.int p2), .val (.int p3), .val (.int p4), .val (.int p5), .val (.int p6), .val (.ref c1), .val (.int r2), .val (.int r3), .val (.int r4), .val (.int r5), .unset, .val (.int (p5 &&& (7 : Int32))), .val (.int (((p5 &&& (7 : Int32)) &&& (3 : Int32)) + (1 : Int32)))] [(.ref b10)])) (fun _ kz => st13.trans kz) ?_
      refine own_go (A := T13.setTop (mkF m 194 #[.val (.int p1), .val (.int p2), .val (.int p3), .val (.int p4), .val (.int p5), .val (.int p6), .val (.ref c1), .val (.int r2), .val (.int r3), .val (.int r4), .val (.int r5), .val (.ref b10), .val (.int (p5 &&& (7 : Int32))), .val (.int (((p5 &&& (7 : Int32)) &&& (3 : Int32)) + (1 : Int32)))] [(.ref b10), (.ref c1)])) (fun _ kz => ?_) ?_
      · show Steps p.tables e below (T13.setTop (mkF m 86 #[.val (.int p1), .val (.int p2), .val (.int p3), .val (.int p4), .val (.int p5), .val (.int p6), .val (.ref c1), .val (.int r2), .val (.int r3), .val (.int r4), .val (.int r5), .unset, .val (.int (p5 &&& (7 : Int32))), .val (.int (((p5 &&& (7 : Int32)) &&& (3 : Int32)) + (1 : Int32)))] [(.ref b10)])) _
        refine XS.astore X13.here hx rfl (hb hby at_86) rfl rfl (l' := #[.val (.int p1), .val (.int p2), .val (.int p3), .val (.int p4), .val (.int p5), .val (.int p6), .val (.ref c1), .val (.int r2), .val (.int r3), .val (.int r4), .val (.int r5), .val (.ref b10), .val (.int (p5 &&& (7 : Int32))), .val (.int (((p5 &&& (7 : Int32)) &&& (3 : Int32)) + (1 : Int32)))]) rfl ?_
        show Steps p.tables e below (T13.setTop (mkF m 88 #[.val (.int p1), .val (.int p2), .val (.int p3), .val (.int p4), .val (.int p5), .val (.int p6), .val (.ref c1), .val (.int r2), .val (.int r3), .val (.int r4), .val (.int r5), .val (.ref b10), .val (.int (p5 &&& (7 : Int32))), .val (.int (((p5 &&& (7 : Int32)) &&& (3 : Int32)) + (1 : Int32)))] [])) _
        refine XS.goto X13.here hx rfl (pc0 := 88) (pc' := 190) rfl (hb hby at_88) (by decide) (by decide) ?_
        show Steps p.tables e below (T13.setTop (mkF m 190 #[.val (.int p1), .val (.int p2), .val (.int p3), .val (.int p4), .val (.int p5), .val (.int p6), .val (.ref c1), .val (.int r2), .val (.int r3), .val (.int r4), .val (.int r5), .val (.ref b10), .val (.int (p5 &&& (7 : Int32))), .val (.int (((p5 &&& (7 : Int32)) &&& (3 : Int32)) + (1 : Int32)))] [])) _
        refine XS.aload X13.here hx rfl (hb hby at_190) rfl rfl ?_
        show Steps p.tables e below (T13.setTop (mkF m 192 #[.val (.int p1), .val (.int p2), .val (.int p3), .val (.int p4), .val (.int p5), .val (.int p6), .val (.ref c1), .val (.int r2), .val (.int r3), .val (.int r4), .val (.int r5), .val (.ref b10), .val (.int (p5 &&& (7 : Int32))), .val (.int (((p5 &&& (7 : Int32)) &&& (3 : Int32)) + (1 : Int32)))] [(.ref c1)])) _
        refine XS.aload X13.here hx rfl (hb hby at_192) rfl rfl ?_
        exact kz
      obtain ⟨_, _, ⟨T14, L14, k14, n14⟩, -, X14, ⟨Lc14, hQ14, l14, y14, z14⟩, st14⟩ := Jvm.LawKit.callS X13 hx (y := (⟨"com/example/quartermaster/quartermaster/Names", "require", "(Ljava/lang/String;Ljava/lang/String;)Ljava/lang/String;"⟩ : MethodName)) hown (mvT hZ (hw _ (List.mem_of_getElem? (i := 49) rfl))) (mvT hZ (hw _ (List.mem_of_getElem? (i := 50) rfl))) (mvT hZ (hw _ (List.mem_of_getElem? (i := 51) rfl))) (mvT hZ (hw _ (List.mem_of_getElem? (i := 52) rfl))) (by decide) (backOf (W := 0) (rmRq l Z a0 hw [] c1 b10 t13 kb13 ([(nar .char r2)] : List Int32) (1 : Int32) (((([(nar .char r2)] : List Int32)).map (fun c => c.toInt8.toInt32)).map Value.int) cs fm al kt vt T13.heap n0 Z13 Ex_b10 Fv13 Fc13 Ab13 hcd (own_up _ hp) (Nat.le_of_ble_eq_true rfl) (Nat.le_of_ble_eq_true rfl) hok hcs S_cs S_fm rfm S_al Tb hvt) hZ (hw _ (List.mem_of_getElem? (i := 52) rfl)) (hw _ (List.mem_of_getElem? (i := 51) rfl)) (by decide) (by decide)) (g := (mkF m 194 #[.val (.int p1), .val (.int p2), .val (.int p3), .val (.int p4), .val (.int p5), .val (.int p6), .val (.ref c1), .val (.int r2), .val (.int r3), .val (.int r4), .val (.int r5), .val (.ref b10), .val (.int (p5 &&& (7 : Int32))), .val (.int (((p5 &&& (7 : Int32)) &&& (3 : Int32)) + (1 : Int32)))] [(.ref b10), (.ref c1)])) rfl (by rw [hml]; rfl) (argsL := [(.ref c1), (.ref b10)]) (rest := []) (lenOf own_pd7 rfl) rfl (by show 2 * 0 + _ ≤ _; exact Nat.le_of_eq rfl) (hb hby at_194) (fun _ _ => ⟨rfl, rfl, (by decide : 5 + 0 ≤ _), (by decide : 11 + 0 ≤ _)⟩)
      dsimp only [Pt.U, Pt.locs, Pt.cells, Pt.slots] at X14 l14 y14 z14 st14 hQ14
      subst l14 y14 z14
      obtain ⟨rfl, N14q, e14⟩ := hQ14
      have N14 := Fr.app N13 N14q
      refine own_go (A := T14.setTop (mkF m 197 #[.val (.int p1), .val (.int p2), .val (.int p3), .val (.int p4), .val (.int p5), .val (.int p6), .val (.ref c1), .val (.int r2), .val (.int r3), .val (.int r4), .val (.int r5), .val (.ref b10), .val (.int (p5 &&& (7 : Int32))), .val (.int (((p5 &&& (7 : Int32)) &&& (3 : Int32)) + (1 : Int32)))] [(.ref b10)])) (fun _ kz => st14 _ kz) ?_
      refine own_go (A := T14.setTop (mkF m 211 #[.val (.int p1), .val (.int p2), .val (.int p3), .val (.int p4), .val (.int p5), .val (.int p6), .val (.ref c1), .val (.int r2), .val (.int r3), .val (.int r4), .val (.int r5), .val (.ref b10), .val (.int (p5 &&& (7 : Int32))), .val (.ref b10)] [(.int (1 : Int32))])) (fun _ kz => ?_) ?_
      · show Steps p.tables e below (T14.setTop (mkF m 197 #[.val (.int p1), .val (.int p2), .val (.int p3), .val (.int p4), .val (.int p5), .val (.int p6), .val (.ref c1), .val (.int r2), .val (.int r3), .val (.int r4), .val (.int r5), .val (.ref b10), .val (.int (p5 &&& (7 : Int32))), .val (.int (((p5 &&& (7 : Int32)) &&& (3 : Int32)) + (1 : Int32)))] [(.ref b10)])) _
        refine XS.astore X14.here hx rfl (hb hby at_197) rfl rfl (l' := #[.val (.int p1), .val (.int p2), .val (.int p3), .val (.int p4), .val (.int p5), .val (.int p6), .val (.ref c1), .val (.int r2), .val (.int r3), .val (.int r4), .val (.int r5), .val (.ref b10), .val (.int (p5 &&& (7 : Int32))), .val (.ref b10)]) rfl ?_
        show Steps p.tables e below (T14.setTop (mkF m 199 #[.val (.int p1), .val (.int p2), .val (.int p3), .val (.int p4), .val (.int p5), .val (.int p6), .val (.ref c1), .val (.int r2), .val (.int r3), .val (.int r4), .val (.int r5), .val (.ref b10), .val (.int (p5 &&& (7 : Int32))), .val (.ref b10)] [])) _
        refine XS.aload X14.here hx rfl (hb hby at_199) rfl rfl ?_
        show Steps p.tables e below (T14.setTop (mkF m 201 #[.val (.int p1), .val (.int p2), .val (.int p3), .val (.int p4), .val (.int p5), .val (.int p6), .val (.ref c1), .val (.int r2), .val (.int r3), .val (.int r4), .val (.int r5), .val (.ref b10), .val (.int (p5 &&& (7 : Int32))), .val (.ref b10)] [(.ref b10)])) _
        refine XS.aload X14.here hx rfl (hb hby at_201) rfl rfl ?_
        show Steps p.tables e below (T14.setTop (mkF m 203 #[.val (.int p1), .val (.int p2), .val (.int p3), .val (.int p4), .val (.int p5), .val (.int p6), .val (.ref c1), .val (.int r2), .val (.int r3), .val (.int r4), .val (.int r5), .val (.ref b10), .val (.int (p5 &&& (7 : Int32))), .val (.ref b10)] [(.ref b10), (.ref b10)])) _
        refine Jvm.RoadKit.acmp (g := (mkF m 203 #[.val (.int p1), .val (.int p2), .val (.int p3), .val (.int p4), .val (.int p5), .val (.int p6), .val (.ref c1), .val (.int r2), .val (.int r3), .val (.int r4), .val (.int r5), .val (.ref b10), .val (.int (p5 &&& (7 : Int32))), .val (.ref b10)] [(.ref b10), (.ref b10)])) X14 hx rfl rfl rfl (pc0 := 203) (pc' := 206) (same := true) rfl (hb hby at_203) rfl (decide_eq_true rfl) (by decide) (by decide) ?_
        show Steps p.tables e below (T14.setTop (mkF m 206 #[.val (.int p1), .val (.int p2), .val (.int p3), .val (.int p4), .val (.int p5), .val (.int p6), .val (.ref c1), .val (.int r2), .val (.int r3), .val (.int r4), .val (.int r5), .val (.ref b10), .val (.int (p5 &&& (7 : Int32))), .val (.ref b10)] [])) _
        refine XS.iconst X14.here hx rfl (hb hby at_206) ?_
        show Steps p.tables e below (T14.setTop (mkF m 207 #[.val (.int p1), .val (.int p2), .val (.int p3), .val (.int p4), .val (.int p5), .val (.int p6), .val (.ref c1), .val (.int r2), .val (.int r3), .val (.int r4), .val (.int r5), .val (.ref b10), .val (.int (p5 &&& (7 : Int32))), .val (.ref b10)] [(.int (1 : Int32))])) _
        refine XS.goto X14.here hx rfl (pc0 := 207) (pc' := 211) rfl (hb hby at_207) (by decide) (by decide) ?_
        exact kz
      obtain ⟨fs, hrr, hrun, hended, rW1, rW2, rW3, rW4⟩ := X14.leaveW hS (by rw [e14]; exact hk) (v := some (.int (1 : Int32))) (fun h => by rw [Bd.returns] at h; cases h)
      refine ⟨_, _, ?_, hrun, hended, _, _, rfl, ?_, rW1, rW2, rW3, rW4.mono (by decide) (by decide)⟩
      · show Steps p.tables e below (T14.setTop (mkF m 211 #[.val (.int p1), .val (.int p2), .val (.int p3), .val (.int p4), .val (.int p5), .val (.int p6), .val (.ref c1), .val (.int r2), .val (.int r3), .val (.int r4), .val (.int r5), .val (.ref b10), .val (.int (p5 &&& (7 : Int32))), .val (.ref b10)] [(.int (1 : Int32))])) _
        exact retN X14 hx (t := .boolean) Bd.returns (by simp) (hb hby at_211) hrr
      · show Qrm0 Z  h0 n0 _ T14.heap _
        rw [e14]
        exact ⟨rfl, N14⟩
    · skip
      refine own_go (A := T5.setTop (mkF m 91 #[.val (.int p1), .val (.int p2), .val (.int p3), .val (.int p4), .val (.int p5), .val (.int p6), .val (.ref c1), .val (.int r2), .val (.int r3), .val (.int r4), .val (.int r5), .unset, .val (.int (p5 &&& (7 : Int32))), .val (.int (((p5 &&& (7 : Int32)) &&& (3 : Int32)) + (1 : Int32)))] [])) (fun _ kz => ?_) ?_
      · show Steps p.tables e below (T5.setTop (mkF m 68 #[.val (.int p1), .val (.int p2), .val (.int p3), .val (.int p4), .val (.int p5), .val (.int p6), .val (.ref c1), .val (.int r2), .val (.int r3), .val (.int r4), .val (.int r5), .unset, .val (.int (p5 &&& (7 : Int32))), .val (.int (((p5 &&& (7 : Int32)) &&& (3 : Int32)) + (1 : Int32)))] [(.int (1 : Int32)), (.int (((p5 &&& (7 : Int32)) &&& (3 : Int32)) + (1 : Int32)))])) _
        refine XS.icmpYes X5.here hx rfl (pc0 := 68) (pc' := 91) rfl (hb hby at_68) rfl (feq hs9).2 (by decide) (by decide) ?_
        exact kz
      refine own_go (A := T5.setTop (mkF m 94 #[.val (.int p1), .val (.int p2), .val (.int p3), .val (.int p4), .val (.int p5), .val (.int p6), .val (.ref c1), .val (.int r2), .val (.int r3), .val (.int r4), .val (.int r5), .unset, .val (.int (p5 &&& (7 : Int32))), .val (.int (((p5 &&& (7 : Int32)) &&& (3 : Int32)) + (1 : Int32)))] [(.int (2 : Int32)), (.int (((p5 &&& (7 : Int32)) &&& (3 : Int32)) + (1 : Int32)))])) (fun _ kz => ?_) ?_
      · show Steps p.tables e below (T5.setTop (mkF m 91 #[.val (.int p1), .val (.int p2), .val (.int p3), .val (.int p4), .val (.int p5), .val (.int p6), .val (.ref c1), .val (.int r2), .val (.int r3), .val (.int r4), .val (.int r5), .unset, .val (.int (p5 &&& (7 : Int32))), .val (.int (((p5 &&& (7 : Int32)) &&& (3 : Int32)) + (1 : Int32)))] [])) _
        refine XS.iload X5.here hx rfl (hb hby at_91) rfl ?_
        show Steps p.tables e below (T5.setTop (mkF m 93 #[.val (.int p1), .val (.int p2), .val (.int p3), .val (.int p4), .val (.int p5), .val (.int p6), .val (.ref c1), .val (.int r2), .val (.int r3), .val (.int r4), .val (.int r5), .unset, .val (.int (p5 &&& (7 : Int32))), .val (.int (((p5 &&& (7 : Int32)) &&& (3 : Int32)) + (1 : Int32)))] [(.int (((p5 &&& (7 : Int32)) &&& (3 : Int32)) + (1 : Int32)))])) _
        refine XS.iconst X5.here hx rfl (hb hby at_93) ?_
        exact kz
      by_cases hs15 : (((p5 &&& (7 : Int32)) &&& (3 : Int32)) + (1 : Int32)) = (2 : Int32)
      · skip
        refine own_go (A := T5.setTop (mkF m 97 #[.val (.int p1), .val (.int p2), .val (.int p3), .val (.int p4), .val (.int p5), .val (.int p6), .val (.ref c1), .val (.int r2), .val (.int r3), .val (.int r4), .val (.int r5), .unset, .val (.int (p5 &&& (7 : Int32))), .val (.int (((p5 &&& (7 : Int32)) &&& (3 : Int32)) + (1 : Int32)))] [])) (fun _ kz => ?_) ?_
        · show Steps p.tables e below (T5.setTop (mkF m 94 #[.val (.int p1), .val (.int p2), .val (.int p3), .val (.int p4), .val (.int p5), .val (.int p6), .val (.ref c1), .val (.int r2), .val (.int r3), .val (.int r4), .val (.int r5), .unset, .val (.int (p5 &&& (7 : Int32))), .val (.int (((p5 &&& (7 : Int32)) &&& (3 : Int32)) + (1 : Int32)))] [(.int (2 : Int32)), (.int (((p5 &&& (7 : Int32)) &&& (3 : Int32)) + (1 : Int32)))])) _
          refine XS.icmpNo X5.here hx rfl (hb hby at_94) rfl (teq hs15).2 ?_
          exact kz
        obtain ⟨T16, h16, X16, e16, E16, A16, D16, -, st16⟩ := newO X5 hx hZ hown (hw _ (List.mem_of_getElem? (i := 31) rfl)) (hw _ (List.mem_of_getElem? (i := 10) rfl)) (hw _ (List.mem_of_getElem? (i := 2) rfl)) e5 (g := (mkF m 97 #[.val (.int p1), .val (.int p2), .val (.int p3), .val (.int p4), .val (.int p5), .val (.int p6), .val (.ref c1), .val (.int r2), .val (.int r3), .val (.int r4), .val (.int r5), .unset, .val (.int (p5 &&& (7 : Int32))), .val (.int (((p5 &&& (7 : Int32)) &&& (3 : Int32)) + (1 : Int32)))] [])) rfl (hb hby at_97) (by decide) (by decide)
        obtain ⟨b16, gq16⟩ : ∃ z, z = T1.heap.size := ⟨_, rfl⟩
        rw [← gq16] at A16 D16 st16
        have g_b16 : n0 ≤ b16 := Nat.le_trans Z1 (Nat.le_of_eq gq16.symm)
        have ne_al_b16 : al ≠ b16 := Nat.ne_of_lt (Nat.lt_of_lt_of_le Tb.lt (Nat.le_of_eq gq16.symm))
        have ne_c1_b16 : c1 ≠ b16 := Nat.ne_of_lt (Nat.lt_of_lt_of_le Ex1.lt (Nat.le_of_eq gq16.symm))
        replace S_cs := S_cs.ext E16
        replace S_fm := S_fm.ext E16
        replace S_al := S_al.ext E16
        replace Tb := Tb.ext E16
        replace Ex1 := Ex1.ext E16
        have Z16 : n0 ≤ h16.size := Nat.le_trans Z1 E16.1
        replace hk := Nat.le_trans hk E16.1
        have Ex_b16 := A16
        have F_value_b16 : Fld Z h16 b16 "java/lang/String" "value" "[B" .null := D16 (Or.inr (hw _ (List.mem_of_getElem? (i := 23) rfl))) (ty := (.array .byte)) (by decide)
        have F_coder_b16 : Fld Z h16 b16 "java/lang/String" "coder" "B" (.int (0 : Int32)) := D16 (Or.inr (hw _ (List.mem_of_getElem? (i := 25) rfl))) (ty := .byte) (by decide)
        refine own_go (A := T16.setTop (mkF m 100 #[.val (.int p1), .val (.int p2), .val (.int p3), .val (.int p4), .val (.int p5), .val (.int p6), .val (.ref c1), .val (.int r2), .val (.int r3), .val (.int r4), .val (.int r5), .unset, .val (.int (p5 &&& (7 : Int32))), .val (.int (((p5 &&& (7 : Int32)) &&& (3 : Int32)) + (1 : Int32)))] [(.ref b16)])) (fun _ kz => st16 _ kz) ?_
        refine own_go (A := T16.setTop (mkF m 102 #[.val (.int p1), .val (.int p2), .val (.int p3), .val (.int p4), .val (.int p5), .val (.int p6), .val (.ref c1), .val (.int r2), .val (.int r3), .val (.int r4), .val (.int r5), .unset, .val (.int (p5 &&& (7 : Int32))), .val (.int (((p5 &&& (7 : Int32)) &&& (3 : Int32)) + (1 : Int32)))] [(.int (2 : Int32)), (.ref b16), (.ref b16)])) (fun _ kz => ?_) ?_
        · show Steps p.tables e below (T16.setTop (mkF m 100 #[.val (.int p1), .val (.int p2), .val (.int p3), .val (.int p4), .val (.int p5), .val (.int p6), .val (.ref c1), .val (.int r2), .val (.int r3), .val (.int r4), .val (.int r5), .unset, .val (.int (p5 &&& (7 : Int32))), .val (.int (((p5 &&& (7 : Int32)) &&& (3 : Int32)) + (1 : Int32)))] [(.ref b16)])) _
          refine XS.dup X16.here hx rfl (hb hby at_100) rfl rfl ?_
          show Steps p.tables e below (T16.setTop (mkF m 101 #[.val (.int p1), .val (.int p2), .val (.int p3), .val (.int p4), .val (.int p5), .val (.int p6), .val (.ref c1), .val (.int r2), .val (.int r3), .val (.int r4), .val (.int r5), .unset, .val (.int (p5 &&& (7 : Int32))), .val (.int (((p5 &&& (7 : Int32)) &&& (3 : Int32)) + (1 : Int32)))] [(.ref b16), (.ref b16)])) _
          refine XS.iconst X16.here hx rfl (hb hby at_101) ?_
          exact kz
        obtain ⟨T17, h17, k17, X17, e17, E17, A17, st17⟩ := newP X16 hx hZ (hw _ (List.mem_of_getElem? (i := 32) rfl)) e16 (g := (mkF m 102 #[.val (.int p1), .val (.int p2), .val (.int p3), .val (.int p4), .val (.int p5), .val (.int p6), .val (.ref c1), .val (.int r2), .val (.int r3), .val (.int r4), .val (.int r5), .unset, .val (.int (p5 &&& (7 : Int32))), .val (.int (((p5 &&& (7 : Int32)) &&& (3 : Int32)) + (1 : Int32)))] [(.int (2 : Int32)), (.ref b16), (.ref b16)])) rfl (hb hby at_102) rfl (by decide) (cap := 2) (by decide) (by decide) (by decide) (by decide)
        obtain ⟨b17, gq17⟩ : ∃ z, z = h16.size := ⟨_, rfl⟩
        rw [← gq17] at A17 st17
        have g_b17 : n0 ≤ b17 := Nat.le_trans Z16 (Nat.le_of_eq gq17.symm)
        have ne_al_b17 : al ≠ b17 := Nat.ne_of_lt (Nat.lt_of_lt_of_le Tb.lt (Nat.le_of_eq gq17.symm))
        have ne_c1_b17 : c1 ≠ b17 := Nat.ne_of_lt (Nat.lt_of_lt_of_le Ex1.lt (Nat.le_of_eq gq17.symm))
        have ne_b16_b17 : b16 ≠ b17 := Nat.ne_of_lt (Nat.lt_of_lt_of_le Ex_b16.lt (Nat.le_of_eq gq17.symm))
        replace S_cs := S_cs.ext E17
        replace S_fm := S_fm.ext E17
        replace S_al := S_al.ext E17
        replace Tb := Tb.ext E17
        replace Ex1 := Ex1.ext E17
        replace Ex_b16 := Ex_b16.ext E17
        replace F_value_b16 := F_value_b16.ext E17
        replace F_coder_b16 := F_coder_b16.ext E17
        have Z17 : n0 ≤ h17.size := Nat.le_trans Z16 E17.1
        replace hk := Nat.le_trans hk E17.1
        have Av_b17 : Arv Z h17 b17 k17 .char (2 : Int32) [(.int (0 : Int32)), (.int (0 : Int32))] (.int (0 : Int32)) := (Arv.new A17 (by decide)).pad (pad_rep [] (.int (0 : Int32)) 2)
        refine own_go (A := T17.setTop (mkF m 104 #[.val (.int p1), .val (.int p2), .val (.int p3), .val (.int p4), .val (.int p5), .val (.int p6), .val (.ref c1), .val (.int r2), .val (.int r3), .val (.int r4), .val (.int r5), .unset, .val (.int (p5 &&& (7 : Int32))), .val (.int (((p5 &&& (7 : Int32)) &&& (3 : Int32)) + (1 : Int32)))] [(.ref b17), (.ref b16), (.ref b16)])) (fun _ kz => st17 _ kz) ?_
        refine own_go (A := T17.setTop (mkF m 108 #[.val (.int p1), .val (.int p2), .val (.int p3), .val (.int p4), .val (.int p5), .val (.int p6), .val (.ref c1), .val (.int r2), .val (.int r3), .val (.int r4), .val (.int r5), .unset, .val (.int (p5 &&& (7 : Int32))), .val (.int (((p5 &&& (7 : Int32)) &&& (3 : Int32)) + (1 : Int32)))] [(.int r2), (.int (0 : Int32)), (.ref b17), (.ref b17), (.ref b16), (.ref b16)])) (fun _ kz => ?_) ?_
        · show Steps p.tables e below (T17.setTop (mkF m 104 #[.val (.int p1), .val (.int p2), .val (.int p3), .val (.int p4), .val (.int p5), .val (.int p6), .val (.ref c1), .val (.int r2), .val (.int r3), .val (.int r4), .val (.int r5), .unset, .val (.int (p5 &&& (7 : Int32))), .val (.int (((p5 &&& (7 : Int32)) &&& (3 : Int32)) + (1 : Int32)))] [(.ref b17), (.ref b16), (.ref b16)])) _
          refine XS.dup X17.here hx rfl (hb hby at_104) rfl rfl ?_
          show Steps p.tables e below (T17.setTop (mkF m 105 #[.val (.int p1), .val (.int p2), .val (.int p3), .val (.int p4), .val (.int p5), .val (.int p6), .val (.ref c1), .val (.int r2), .val (.int r3), .val (.int r4), .val (.int r5), .unset, .val (.int (p5 &&& (7 : Int32))), .val (.int (((p5 &&& (7 : Int32)) &&& (3 : Int32)) + (1 : Int32)))] [(.ref b17), (.ref b17), (.ref b16), (.ref b16)])) _
          refine XS.iconst X17.here hx rfl (hb hby at_105) ?_
          show Steps p.tables e below (T17.setTop (mkF m 106 #[.val (.int p1), .val (.int p2), .val (.int p3), .val (.int p4), .val (.int p5), .val (.int p6), .val (.ref c1), .val (.int r2), .val (.int r3), .val (.int r4), .val (.int r5), .unset, .val (.int (p5 &&& (7 : Int32))), .val (.int (((p5 &&& (7 : Int32)) &&& (3 : Int32)) + (1 : Int32)))] [(.int (0 : Int32)), (.ref b17), (.ref b17), (.ref b16), (.ref b16)])) _
          refine XS.iload X17.here hx rfl (hb hby at_106) rfl ?_
          exact kz
        obtain ⟨cl18, Ar18, q18, S18, M18, H18, G18⟩ := id Av_b17
        have hin18 : ¬ ((0 : Int32) < 0 ∨ cl18.slots.size ≤ ((0 : Int32)).toNatClampNeg) := inb_of S18 ⟨by decide, by decide⟩
        obtain ⟨T18, h18, X18, e18, W18, st18⟩ := stC X17 hx hZ e17 Ar18 (j := (0 : Int32)) hin18 (g := (mkF m 108 #[.val (.int p1), .val (.int p2), .val (.int p3), .val (.int p4), .val (.int p5), .val (.int p6), .val (.ref c1), .val (.int r2), .val (.int r3), .val (.int r4), .val (.int r5), .unset, .val (.int (p5 &&& (7 : Int32))), .val (.int (((p5 &&& (7 : Int32)) &&& (3 : Int32)) + (1 : Int32)))] [(.int r2), (.int (0 : Int32)), (.ref b17), (.ref b17), (.ref b16), (.ref b16)])) rfl rfl (hb hby at_108)
        have Aw18 := Arv.set Ar18 q18 S18 M18 H18 G18 (fits_nar_char _) W18 0 rfl (Nat.le_of_ble_eq_true rfl)
        replace S_cs := S_cs.wr W18
        replace S_fm := S_fm.wr W18
        replace S_al := S_al.wr W18
        replace Tb := Tb.other W18 ne_al_b17
        replace Ex1 := Ex1.wr W18
        replace Ex_b16 := Ex_b16.wr W18
        replace F_value_b16 := F_value_b16.other W18 (Or.inl ne_b16_b17)
        replace F_coder_b16 := F_coder_b16.other W18 (Or.inl ne_b16_b17)
        have Z18 : n0 ≤ h18.size := Nat.le_trans Z17 (Keep.of_wr W18).1
        replace hk := Nat.le_trans hk (Keep.of_wr W18).1
        have Av_b17 : Arv Z h18 b17 k17 .char (2 : Int32) [(.int (nar .char r2)), (.int (0 : Int32))] (.int (0 : Int32)) := Aw18
        have N18 := Fr.snoc X18 N5 g_b17
        refine own_go (A := T18.setTop (mkF m 109 #[.val (.int p1), .val (.int p2), .val (.int p3), .val (.int p4), .val (.int p5), .val (.int p6), .val (.ref c1), .val (.int r2), .val (.int r3), .val (.int r4), .val (.int r5), .unset, .val (.int (p5 &&& (7 : Int32))), .val (.int (((p5 &&& (7 : Int32)) &&& (3 : Int32)) + (1 : Int32)))] [(.ref b17), (.ref b16), (.ref b16)])) (fun _ kz => st18 _ kz) ?_
        refine own_go (A := T18.setTop (mkF m 113 #[.val (.int p1), .val (.int p2), .val (.int p3), .val (.int p4), .val (.int p5), .val (.int p6), .val (.ref c1), .val (.int r2), .val (.int r3), .val (.int r4), .val (.int r5), .unset, .val (.int (p5 &&& (7 : Int32))), .val (.int (((p5 &&& (7 : Int32)) &&& (3 : Int32)) + (1 : Int32)))] [(.int r3), (.int (1 : Int32)), (.ref b17), (.ref b17), (.ref b16), (.ref b16)])) (fun _ kz => ?_) ?_
        · show Steps p.tables e below (T18.setTop (mkF m 109 #[.val (.int p1), .val (.int p2), .val (.int p3), .val (.int p4), .val (.int p5), .val (.int p6), .val (.ref c1), .val (.int r2), .val (.int r3), .val (.int r4), .val (.int r5), .unset, .val (.int (p5 &&& (7 : Int32))), .val (.int (((p5 &&& (7 : Int32)) &&& (3 : Int32)) + (1 : Int32)))] [(.ref b17), (.ref b16), (.ref b16)])) _
          refine XS.dup X18.here hx rfl (hb hby at_109) rfl rfl ?_
          show Steps p.tables e below (T18.setTop (mkF m 110 #[.val (.int p1), .val (.int p2), .val (.int p3), .val (.int p4), .val (.int p5), .val (.int p6), .val (.ref c1), .val (.int r2), .val (.int r3), .val (.int r4), .val (.int r5), .unset, .val (.int (p5 &&& (7 : Int32))), .val (.int (((p5 &&& (7 : Int32)) &&& (3 : Int32)) + (1 : Int32)))] [(.ref b17), (.ref b17), (.ref b16), (.ref b16)])) _
          refine XS.iconst X18.here hx rfl (hb hby at_110) ?_
          show Steps p.tables e below (T18.setTop (mkF m 111 #[.val (.int p1), .val (.int p2), .val (.int p3), .val (.int p4), .val (.int p5), .val (.int p6), .val (.ref c1), .val (.int r2), .val (.int r3), .val (.int r4), .val (.int r5), .unset, .val (.int (p5 &&& (7 : Int32))), .val (.int (((p5 &&& (7 : Int32)) &&& (3 : Int32)) + (1 : Int32)))] [(.int (1 : Int32)), (.ref b17), (.ref b17), (.ref b16), (.ref b16)])) _
          refine XS.iload X18.here hx rfl (hb hby at_111) rfl ?_
          exact kz
        obtain ⟨cl19, Ar19, q19, S19, M19, H19, G19⟩ := id Av_b17
        have hin19 : ¬ ((1 : Int32) < 0 ∨ cl19.slots.size ≤ ((1 : Int32)).toNatClampNeg) := inb_of S19 ⟨by decide, by decide⟩
        obtain ⟨T19, h19, X19, e19, W19, st19⟩ := stC X18 hx hZ e18 Ar19 (j := (1 : Int32)) hin19 (g := (mkF m 113 #[.val (.int p1), .val (.int p2), .val (.int p3), .val (.int p4), .val (.int p5), .val (.int p6), .val (.ref c1), .val (.int r2), .val (.int r3), .val (.int r4), .val (.int r5), .unset, .val (.int (p5 &&& (7 : Int32))), .val (.int (((p5 &&& (7 : Int32)) &&& (3 : Int32)) + (1 : Int32)))] [(.int r3), (.int (1 : Int32)), (.ref b17), (.ref b17), (.ref b16), (.ref b16)])) rfl rfl (hb hby at_113)
        have Aw19 := Arv.set Ar19 q19 S19 M19 H19 G19 (fits_nar_char _) W19 1 rfl (Nat.le_of_ble_eq_true rfl)
        replace S_cs := S_cs.wr W19
        replace S_fm := S_fm.wr W19
        replace S_al := S_al.wr W19
        replace Tb := Tb.other W19 ne_al_b17
        replace Ex1 := Ex1.wr W19
        replace Ex_b16 := Ex_b16.wr W19
        replace F_value_b16 := F_value_b16.other W19 (Or.inl ne_b16_b17)
        replace F_coder_b16 := F_coder_b16.other W19 (Or.inl ne_b16_b17)
        have Z19 : n0 ≤ h19.size := Nat.le_trans Z18 (Keep.of_wr W19).1
        replace hk := Nat.le_trans hk (Keep.of_wr W19).1
        have Av_b17 : Arv Z h19 b17 k17 .char (2 : Int32) [(.int (nar .char r2)), (.int (nar .char r3))] (.int (0 : Int32)) := Aw19
        have N19 := Fr.snoc X19 N18 g_b17
        refine own_go (A := T19.setTop (mkF m 114 #[.val (.int p1), .val (.int p2), .val (.int p3), .val (.int p4), .val (.int p5), .val (.int p6), .val (.ref c1), .val (.int r2), .val (.int r3), .val (.int r4), .val (.int r5), .unset, .val (.int (p5 &&& (7 : Int32))), .val (.int (((p5 &&& (7 : Int32)) &&& (3 : Int32)) + (1 : Int32)))] [(.ref b17), (.ref b16), (.ref b16)])) (fun _ kz => st19 _ kz) ?_
        have hok : ∀ c ∈ ([(nar .char r2), (nar .char r3)] : List Int32), own_ok c = true := by
          intro c hc
          simp only [List.mem_cons, List.not_mem_nil, or_false] at hc
          rcases hc with rfl | rfl
          · exact own_okn ok_r2
          · exact own_okn ok_r3
        have hp : ∀ c ∈ ([(nar .char r2), (nar .char r3)] : List Int32), ¬ c < 0 ∧ ¬ (255 : Int32) < c := fun c hc => own_ok255 (hok c hc)
        have hcd : StrChars.Road.CodA ([(nar .char r2), (nar .char r3)] : List Int32) 0 (2 : Int32) (((([(nar .char r2), (nar .char r3)] : List Int32)).map (fun c => c.toInt8.toInt32)).map Value.int) := StrChars.Road.codOf (n := 2) rfl (fun c hc => (hp c hc).2)
        obtain ⟨_, _, ⟨T20, L20, k20, n20⟩, -, X20, ⟨Lc20, hQ20, l20, y20, z20⟩, st20⟩ := X19.specialBack hx (y := (⟨"java/lang/String", "<init>", "([C)V"⟩ : MethodName)) rfl hown (mvT hZ (hw _ (List.mem_of_getElem? (i := 33) rfl))) (mvT hZ (hw _ (List.mem_of_getElem? (i := 34) rfl))) (mvT hZ (hw _ (List.mem_of_getElem? (i := 35) rfl))) (by decide) (StrChars.Road.backV (W := 1) hZ hws (kI := 4) (hw _ (List.mem_of_getElem? (i := 10) rfl)) (cs := ([(nar .char r2), (nar .char r3)] : List Int32)) (bs := (([(nar .char r2), (nar .char r3)] : List Int32)).map (fun c => c.toInt8.toInt32)) (n := 2) g_b16 Z19 Ex_b16 F_value_b16 F_coder_b16 Av_b17 S_cs hcs rfl rfl (by decide) (by decide) hp rfl (by decide) (by decide)) (g := (mkF m 114 #[.val (.int p1), .val (.int p2), .val (.int p3), .val (.int p4), .val (.int p5), .val (.int p6), .val (.ref c1), .val (.int r2), .val (.int r3), .val (.int r4), .val (.int r5), .unset, .val (.int (p5 &&& (7 : Int32))), .val (.int (((p5 &&& (7 : Int32)) &&& (3 : Int32)) + (1 : Int32)))] [(.ref b17), (.ref b16), (.ref b16)])) rfl (by rw [hml]; rfl) (Steps.refl _) (a := b16) (argsL := [(.ref b17)]) (rest := [(.ref b16)]) (lenOf own_pd8 rfl) rfl (by show 2 * 0 + _ ≤ _; exact Nat.le_of_eq rfl) (hb hby at_114) (fun _ _ => ⟨rfl, e19, (by decide : 4 + 1 ≤ _), (by decide : 11 + 2 ≤ _)⟩)
        dsimp only [Pt.U, Pt.locs, Pt.cells, Pt.slots] at X20 l20 y20 z20 st20 hQ20
        subst l20 y20 z20
        obtain ⟨rfl, N20q, K20q, _, Fc20, t20, kb20, u120, u220, u320, Fv20, Ab20⟩ := hQ20
        have N20 := Fr.app N19 N20q
        replace S_cs := own_staKeep S_cs K20q (allS (own_ns Ex_b16) all0)
        replace S_fm := own_staKeep S_fm K20q (allS (own_ns Ex_b16) all0)
        replace S_al := own_staKeep S_al K20q (allS (own_ns Ex_b16) all0)
        replace Tb := Tb.keep K20q (ninS ne_al_b16 nin0)
        replace Ex1 := Ex1.keep K20q
        replace Ex_b16 := Ex_b16.keep K20q
        replace Av_b17 := Av_b17.keep K20q (ninS (Ne.symm ne_b16_b17) nin0)
        have Z20 : n0 ≤ T20.heap.size := Nat.le_trans Z19 K20q.1
        replace hk := Nat.le_trans hk K20q.1
        refine own_go (A := T20.setTop (mkF m 117 #[.val (.int p1), .val (.int p2), .val (.int p3), .val (.int p4), .val (.int p5), .val (.int p6), .val (.ref c1), .val (.int r2), .val (.int r3), .val (.int r4), .val (.int r5), .unset, .val (.int (p5 &&& (7 : Int32))), .val (.int (((p5 &&& (7 : Int32)) &&& (3 : Int32)) + (1 : Int32)))] [(.ref b16)])) (fun _ kz => st20.trans kz) ?_
        refine own_go (A := T20.setTop (mkF m 194 #[.val (.int p1), .val (.int p2), .val (.int p3), .val (.int p4), .val (.int p5), .val (.int p6), .val (.ref c1), .val (.int r2), .val (.int r3), .val (.int r4), .val (.int r5), .val (.ref b16), .val (.int (p5 &&& (7 : Int32))), .val (.int (((p5 &&& (7 : Int32)) &&& (3 : Int32)) + (1 : Int32)))] [(.ref b16), (.ref c1)])) (fun _ kz => ?_) ?_
        · show Steps p.tables e below (T20.setTop (mkF m 117 #[.val (.int p1), .val (.int p2), .val (.int p3), .val (.int p4), .val (.int p5), .val (.int p6), .val (.ref c1), .val (.int r2), .val (.int r3), .val (.int r4), .val (.int r5), .unset, .val (.int (p5 &&& (7 : Int32))), .val (.int (((p5 &&& (7 : Int32)) &&& (3 : Int32)) + (1 : Int32)))] [(.ref b16)])) _
          refine XS.astore X20.here hx rfl (hb hby at_117) rfl rfl (l' := #[.val (.int p1), .val (.int p2), .val (.int p3), .val (.int p4), .val (.int p5), .val (.int p6), .val (.ref c1), .val (.int r2), .val (.int r3), .val (.int r4), .val (.int r5), .val (.ref b16), .val (.int (p5 &&& (7 : Int32))), .val (.int (((p5 &&& (7 : Int32)) &&& (3 : Int32)) + (1 : Int32)))]) rfl ?_
          show Steps p.tables e below (T20.setTop (mkF m 119 #[.val (.int p1), .val (.int p2), .val (.int p3), .val (.int p4), .val (.int p5), .val (.int p6), .val (.ref c1), .val (.int r2), .val (.int r3), .val (.int r4), .val (.int r5), .val (.ref b16), .val (.int (p5 &&& (7 : Int32))), .val (.int (((p5 &&& (7 : Int32)) &&& (3 : Int32)) + (1 : Int32)))] [])) _
          refine XS.goto X20.here hx rfl (pc0 := 119) (pc' := 190) rfl (hb hby at_119) (by decide) (by decide) ?_
          show Steps p.tables e below (T20.setTop (mkF m 190 #[.val (.int p1), .val (.int p2), .val (.int p3), .val (.int p4), .val (.int p5), .val (.int p6), .val (.ref c1), .val (.int r2), .val (.int r3), .val (.int r4), .val (.int r5), .val (.ref b16), .val (.int (p5 &&& (7 : Int32))), .val (.int (((p5 &&& (7 : Int32)) &&& (3 : Int32)) + (1 : Int32)))] [])) _
          refine XS.aload X20.here hx rfl (hb hby at_190) rfl rfl ?_
          show Steps p.tables e below (T20.setTop (mkF m 192 #[.val (.int p1), .val (.int p2), .val (.int p3), .val (.int p4), .val (.int p5), .val (.int p6), .val (.ref c1), .val (.int r2), .val (.int r3), .val (.int r4), .val (.int r5), .val (.ref b16), .val (.int (p5 &&& (7 : Int32))), .val (.int (((p5 &&& (7 : Int32)) &&& (3 : Int32)) + (1 : Int32)))] [(.ref c1)])) _
          refine XS.aload X20.here hx rfl (hb hby at_192) rfl rfl ?_
          exact kz
        obtain ⟨_, _, ⟨T21, L21, k21, n21⟩, -, X21, ⟨Lc21, hQ21, l21, y21, z21⟩, st21⟩ := Jvm.LawKit.callS X20 hx (y := (⟨"com/example/quartermaster/quartermaster/Names", "require", "(Ljava/lang/String;Ljava/lang/String;)Ljava/lang/String;"⟩ : MethodName)) hown (mvT hZ (hw _ (List.mem_of_getElem? (i := 49) rfl))) (mvT hZ (hw _ (List.mem_of_getElem? (i := 50) rfl))) (mvT hZ (hw _ (List.mem_of_getElem? (i := 51) rfl))) (mvT hZ (hw _ (List.mem_of_getElem? (i := 52) rfl))) (by decide) (backOf (W := 0) (rmRq l Z a0 hw [] c1 b16 t20 kb20 ([(nar .char r2), (nar .char r3)] : List Int32) (2 : Int32) (((([(nar .char r2), (nar .char r3)] : List Int32)).map (fun c => c.toInt8.toInt32)).map Value.int) cs fm al kt vt T20.heap n0 Z20 Ex_b16 Fv20 Fc20 Ab20 hcd (own_up _ hp) (Nat.le_of_ble_eq_true rfl) (Nat.le_of_ble_eq_true rfl) hok hcs S_cs S_fm rfm S_al Tb hvt) hZ (hw _ (List.mem_of_getElem? (i := 52) rfl)) (hw _ (List.mem_of_getElem? (i := 51) rfl)) (by decide) (by decide)) (g := (mkF m 194 #[.val (.int p1), .val (.int p2), .val (.int p3), .val (.int p4), .val (.int p5), .val (.int p6), .val (.ref c1), .val (.int r2), .val (.int r3), .val (.int r4), .val (.int r5), .val (.ref b16), .val (.int (p5 &&& (7 : Int32))), .val (.int (((p5 &&& (7 : Int32)) &&& (3 : Int32)) + (1 : Int32)))] [(.ref b16), (.ref c1)])) rfl (by rw [hml]; rfl) (argsL := [(.ref c1), (.ref b16)]) (rest := []) (lenOf own_pd7 rfl) rfl (by show 2 * 0 + _ ≤ _; exact Nat.le_of_eq rfl) (hb hby at_194) (fun _ _ => ⟨rfl, rfl, (by decide : 5 + 0 ≤ _), (by decide : 13 + 0 ≤ _)⟩)
        dsimp only [Pt.U, Pt.locs, Pt.cells, Pt.slots] at X21 l21 y21 z21 st21 hQ21
        subst l21 y21 z21
        obtain ⟨rfl, N21q, e21⟩ := hQ21
        have N21 := Fr.app N20 N21q
        refine own_go (A := T21.setTop (mkF m 197 #[.val (.int p1), .val (.int p2), .val (.int p3), .val (.int p4), .val (.int p5), .val (.int p6), .val (.ref c1), .val (.int r2), .val (.int r3), .val (.int r4), .val (.int r5), .val (.ref b16), .val (.int (p5 &&& (7 : Int32))), .val (.int (((p5 &&& (7 : Int32)) &&& (3 : Int32)) + (1 : Int32)))] [(.ref b16)])) (fun _ kz => st21 _ kz) ?_
        refine own_go (A := T21.setTop (mkF m 211 #[.val (.int p1), .val (.int p2), .val (.int p3), .val (.int p4), .val (.int p5), .val (.int p6), .val (.ref c1), .val (.int r2), .val (.int r3), .val (.int r4), .val (.int r5), .val (.ref b16), .val (.int (p5 &&& (7 : Int32))), .val (.ref b16)] [(.int (1 : Int32))])) (fun _ kz => ?_) ?_
        · show Steps p.tables e below (T21.setTop (mkF m 197 #[.val (.int p1), .val (.int p2), .val (.int p3), .val (.int p4), .val (.int p5), .val (.int p6), .val (.ref c1), .val (.int r2), .val (.int r3), .val (.int r4), .val (.int r5), .val (.ref b16), .val (.int (p5 &&& (7 : Int32))), .val (.int (((p5 &&& (7 : Int32)) &&& (3 : Int32)) + (1 : Int32)))] [(.ref b16)])) _
          refine XS.astore X21.here hx rfl (hb hby at_197) rfl rfl (l' := #[.val (.int p1), .val (.int p2), .val (.int p3), .val (.int p4), .val (.int p5), .val (.int p6), .val (.ref c1), .val (.int r2), .val (.int r3), .val (.int r4), .val (.int r5), .val (.ref b16), .val (.int (p5 &&& (7 : Int32))), .val (.ref b16)]) rfl ?_
          show Steps p.tables e below (T21.setTop (mkF m 199 #[.val (.int p1), .val (.int p2), .val (.int p3), .val (.int p4), .val (.int p5), .val (.int p6), .val (.ref c1), .val (.int r2), .val (.int r3), .val (.int r4), .val (.int r5), .val (.ref b16), .val (.int (p5 &&& (7 : Int32))), .val (.ref b16)] [])) _
          refine XS.aload X21.here hx rfl (hb hby at_199) rfl rfl ?_
          show Steps p.tables e below (T21.setTop (mkF m 201 #[.val (.int p1), .val (.int p2), .val (.int p3), .val (.int p4), .val (.int p5), .val (.int p6), .val (.ref c1), .val (.int r2), .val (.int r3), .val (.int r4), .val (.int r5), .val (.ref b16), .val (.int (p5 &&& (7 : Int32))), .val (.ref b16)] [(.ref b16)])) _
          refine XS.aload X21.here hx rfl (hb hby at_201) rfl rfl ?_
          show Steps p.tables e below (T21.setTop (mkF m 203 #[.val (.int p1), .val (.int p2), .val (.int p3), .val (.int p4), .val (.int p5), .val (.int p6), .val (.ref c1), .val (.int r2), .val (.int r3), .val (.int r4), .val (.int r5), .val (.ref b16), .val (.int (p5 &&& (7 : Int32))), .val (.ref b16)] [(.ref b16), (.ref b16)])) _
          refine Jvm.RoadKit.acmp (g := (mkF m 203 #[.val (.int p1), .val (.int p2), .val (.int p3), .val (.int p4), .val (.int p5), .val (.int p6), .val (.ref c1), .val (.int r2), .val (.int r3), .val (.int r4), .val (.int r5), .val (.ref b16), .val (.int (p5 &&& (7 : Int32))), .val (.ref b16)] [(.ref b16), (.ref b16)])) X21 hx rfl rfl rfl (pc0 := 203) (pc' := 206) (same := true) rfl (hb hby at_203) rfl (decide_eq_true rfl) (by decide) (by decide) ?_
          show Steps p.tables e below (T21.setTop (mkF m 206 #[.val (.int p1), .val (.int p2), .val (.int p3), .val (.int p4), .val (.int p5), .val (.int p6), .val (.ref c1), .val (.int r2), .val (.int r3), .val (.int r4), .val (.int r5), .val (.ref b16), .val (.int (p5 &&& (7 : Int32))), .val (.ref b16)] [])) _
          refine XS.iconst X21.here hx rfl (hb hby at_206) ?_
          show Steps p.tables e below (T21.setTop (mkF m 207 #[.val (.int p1), .val (.int p2), .val (.int p3), .val (.int p4), .val (.int p5), .val (.int p6), .val (.ref c1), .val (.int r2), .val (.int r3), .val (.int r4), .val (.int r5), .val (.ref b16), .val (.int (p5 &&& (7 : Int32))), .val (.ref b16)] [(.int (1 : Int32))])) _
          refine XS.goto X21.here hx rfl (pc0 := 207) (pc' := 211) rfl (hb hby at_207) (by decide) (by decide) ?_
          exact kz
        obtain ⟨fs, hrr, hrun, hended, rW1, rW2, rW3, rW4⟩ := X21.leaveW hS (by rw [e21]; exact hk) (v := some (.int (1 : Int32))) (fun h => by rw [Bd.returns] at h; cases h)
        refine ⟨_, _, ?_, hrun, hended, _, _, rfl, ?_, rW1, rW2, rW3, rW4.mono (by decide) (by decide)⟩
        · show Steps p.tables e below (T21.setTop (mkF m 211 #[.val (.int p1), .val (.int p2), .val (.int p3), .val (.int p4), .val (.int p5), .val (.int p6), .val (.ref c1), .val (.int r2), .val (.int r3), .val (.int r4), .val (.int r5), .val (.ref b16), .val (.int (p5 &&& (7 : Int32))), .val (.ref b16)] [(.int (1 : Int32))])) _
          exact retN X21 hx (t := .boolean) Bd.returns (by simp) (hb hby at_211) hrr
        · show Qrm0 Z  h0 n0 _ T21.heap _
          rw [e21]
          exact ⟨rfl, N21⟩
      · skip
        refine own_go (A := T5.setTop (mkF m 122 #[.val (.int p1), .val (.int p2), .val (.int p3), .val (.int p4), .val (.int p5), .val (.int p6), .val (.ref c1), .val (.int r2), .val (.int r3), .val (.int r4), .val (.int r5), .unset, .val (.int (p5 &&& (7 : Int32))), .val (.int (((p5 &&& (7 : Int32)) &&& (3 : Int32)) + (1 : Int32)))] [])) (fun _ kz => ?_) ?_
        · show Steps p.tables e below (T5.setTop (mkF m 94 #[.val (.int p1), .val (.int p2), .val (.int p3), .val (.int p4), .val (.int p5), .val (.int p6), .val (.ref c1), .val (.int r2), .val (.int r3), .val (.int r4), .val (.int r5), .unset, .val (.int (p5 &&& (7 : Int32))), .val (.int (((p5 &&& (7 : Int32)) &&& (3 : Int32)) + (1 : Int32)))] [(.int (2 : Int32)), (.int (((p5 &&& (7 : Int32)) &&& (3 : Int32)) + (1 : Int32)))])) _
          refine XS.icmpYes X5.here hx rfl (pc0 := 94) (pc' := 122) rfl (hb hby at_94) rfl (feq hs15).2 (by decide) (by decide) ?_
          exact kz
        refine own_go (A := T5.setTop (mkF m 125 #[.val (.int p1), .val (.int p2), .val (.int p3), .val (.int p4), .val (.int p5), .val (.int p6), .val (.ref c1), .val (.int r2), .val (.int r3), .val (.int r4), .val (.int r5), .unset, .val (.int (p5 &&& (7 : Int32))), .val (.int (((p5 &&& (7 : Int32)) &&& (3 : Int32)) + (1 : Int32)))] [(.int (3 : Int32)), (.int (((p5 &&& (7 : Int32)) &&& (3 : Int32)) + (1 : Int32)))])) (fun _ kz => ?_) ?_
        · show Steps p.tables e below (T5.setTop (mkF m 122 #[.val (.int p1), .val (.int p2), .val (.int p3), .val (.int p4), .val (.int p5), .val (.int p6), .val (.ref c1), .val (.int r2), .val (.int r3), .val (.int r4), .val (.int r5), .unset, .val (.int (p5 &&& (7 : Int32))), .val (.int (((p5 &&& (7 : Int32)) &&& (3 : Int32)) + (1 : Int32)))] [])) _
          refine XS.iload X5.here hx rfl (hb hby at_122) rfl ?_
          show Steps p.tables e below (T5.setTop (mkF m 124 #[.val (.int p1), .val (.int p2), .val (.int p3), .val (.int p4), .val (.int p5), .val (.int p6), .val (.ref c1), .val (.int r2), .val (.int r3), .val (.int r4), .val (.int r5), .unset, .val (.int (p5 &&& (7 : Int32))), .val (.int (((p5 &&& (7 : Int32)) &&& (3 : Int32)) + (1 : Int32)))] [(.int (((p5 &&& (7 : Int32)) &&& (3 : Int32)) + (1 : Int32)))])) _
          refine XS.iconst X5.here hx rfl (hb hby at_124) ?_
          exact kz
        by_cases hs22 : (((p5 &&& (7 : Int32)) &&& (3 : Int32)) + (1 : Int32)) = (3 : Int32)
        · skip
          refine own_go (A := T5.setTop (mkF m 128 #[.val (.int p1), .val (.int p2), .val (.int p3), .val (.int p4), .val (.int p5), .val (.int p6), .val (.ref c1), .val (.int r2), .val (.int r3), .val (.int r4), .val (.int r5), .unset, .val (.int (p5 &&& (7 : Int32))), .val (.int (((p5 &&& (7 : Int32)) &&& (3 : Int32)) + (1 : Int32)))] [])) (fun _ kz => ?_) ?_
          · show Steps p.tables e below (T5.setTop (mkF m 125 #[.val (.int p1), .val (.int p2), .val (.int p3), .val (.int p4), .val (.int p5), .val (.int p6), .val (.ref c1), .val (.int r2), .val (.int r3), .val (.int r4), .val (.int r5), .unset, .val (.int (p5 &&& (7 : Int32))), .val (.int (((p5 &&& (7 : Int32)) &&& (3 : Int32)) + (1 : Int32)))] [(.int (3 : Int32)), (.int (((p5 &&& (7 : Int32)) &&& (3 : Int32)) + (1 : Int32)))])) _
            refine XS.icmpNo X5.here hx rfl (hb hby at_125) rfl (teq hs22).2 ?_
            exact kz
          obtain ⟨T23, h23, X23, e23, E23, A23, D23, -, st23⟩ := newO X5 hx hZ hown (hw _ (List.mem_of_getElem? (i := 31) rfl)) (hw _ (List.mem_of_getElem? (i := 10) rfl)) (hw _ (List.mem_of_getElem? (i := 2) rfl)) e5 (g := (mkF m 128 #[.val (.int p1), .val (.int p2), .val (.int p3), .val (.int p4), .val (.int p5), .val (.int p6), .val (.ref c1), .val (.int r2), .val (.int r3), .val (.int r4), .val (.int r5), .unset, .val (.int (p5 &&& (7 : Int32))), .val (.int (((p5 &&& (7 : Int32)) &&& (3 : Int32)) + (1 : Int32)))] [])) rfl (hb hby at_128) (by decide) (by decide)
          obtain ⟨b23, gq23⟩ : ∃ z, z = T1.heap.size := ⟨_, rfl⟩
          rw [← gq23] at A23 D23 st23
          have g_b23 : n0 ≤ b23 := Nat.le_trans Z1 (Nat.le_of_eq gq23.symm)
          have ne_al_b23 : al ≠ b23 := Nat.ne_of_lt (Nat.lt_of_lt_of_le Tb.lt (Nat.le_of_eq gq23.symm))
          have ne_c1_b23 : c1 ≠ b23 := Nat.ne_of_lt (Nat.lt_of_lt_of_le Ex1.lt (Nat.le_of_eq gq23.symm))
          replace S_cs := S_cs.ext E23
          replace S_fm := S_fm.ext E23
          replace S_al := S_al.ext E23
          replace Tb := Tb.ext E23
          replace Ex1 := Ex1.ext E23
          have Z23 : n0 ≤ h23.size := Nat.le_trans Z1 E23.1
          replace hk := Nat.le_trans hk E23.1
          have Ex_b23 := A23
          have F_value_b23 : Fld Z h23 b23 "java/lang/String" "value" "[B" .null := D23 (Or.inr (hw _ (List.mem_of_getElem? (i := 23) rfl))) (ty := (.array .byte)) (by decide)
          have F_coder_b23 : Fld Z h23 b23 "java/lang/String" "coder" "B" (.int (0 : Int32)) := D23 (Or.inr (hw _ (List.mem_of_getElem? (i := 25) rfl))) (ty := .byte) (by decide)
          refine own_go (A := T23.setTop (mkF m 131 #[.val (.int p1), .val (.int p2), .val (.int p3), .val (.int p4), .val (.int p5), .val (.int p6), .val (.ref c1), .val (.int r2), .val (.int r3), .val (.int r4), .val (.int r5), .unset, .val (.int (p5 &&& (7 : Int32))), .val (.int (((p5 &&& (7 : Int32)) &&& (3 : Int32)) + (1 : Int32)))] [(.ref b23)])) (fun _ kz => st23 _ kz) ?_
          refine own_go (A := T23.setTop (mkF m 133 #[.val (.int p1), .val (.int p2), .val (.int p3), .val (.int p4), .val (.int p5), .val (.int p6), .val (.ref c1), .val (.int r2), .val (.int r3), .val (.int r4), .val (.int r5), .unset, .val (.int (p5 &&& (7 : Int32))), .val (.int (((p5 &&& (7 : Int32)) &&& (3 : Int32)) + (1 : Int32)))] [(.int (3 : Int32)), (.ref b23), (.ref b23)])) (fun _ kz => ?_) ?_
          · show Steps p.tables e below (T23.setTop (mkF m 131 #[.val (.int p1), .val (.int p2), .val (.int p3), .val (.int p4), .val (.int p5), .val (.int p6), .val (.ref c1), .val (.int r2), .val (.int r3), .val (.int r4), .val (.int r5), .unset, .val (.int (p5 &&& (7 : Int32))), .val (.int (((p5 &&& (7 : Int32)) &&& (3 : Int32)) + (1 : Int32)))] [(.ref b23)])) _
            refine XS.dup X23.here hx rfl (hb hby at_131) rfl rfl ?_
            show Steps p.tables e below (T23.setTop (mkF m 132 #[.val (.int p1), .val (.int p2), .val (.int p3), .val (.int p4), .val (.int p5), .val (.int p6), .val (.ref c1), .val (.int r2), .val (.int r3), .val (.int r4), .val (.int r5), .unset, .val (.int (p5 &&& (7 : Int32))), .val (.int (((p5 &&& (7 : Int32)) &&& (3 : Int32)) + (1 : Int32)))] [(.ref b23), (.ref b23)])) _
            refine XS.iconst X23.here hx rfl (hb hby at_132) ?_
            exact kz
          obtain ⟨T24, h24, k24, X24, e24, E24, A24, st24⟩ := newP X23 hx hZ (hw _ (List.mem_of_getElem? (i := 32) rfl)) e23 (g := (mkF m 133 #[.val (.int p1), .val (.int p2), .val (.int p3), .val (.int p4), .val (.int p5), .val (.int p6), .val (.ref c1), .val (.int r2), .val (.int r3), .val (.int r4), .val (.int r5), .unset, .val (.int (p5 &&& (7 : Int32))), .val (.int (((p5 &&& (7 : Int32)) &&& (3 : Int32)) + (1 : Int32)))] [(.int (3 : Int32)), (.ref b23), (.ref b23)])) rfl (hb hby at_133) rfl (by decide) (cap := 3) (by decide) (by decide) (by decide) (by decide)
          obtain ⟨b24, gq24⟩ : ∃ z, z = h23.size := ⟨_, rfl⟩
          rw [← gq24] at A24 st24
          have g_b24 : n0 ≤ b24 := Nat.le_trans Z23 (Nat.le_of_eq gq24.symm)
          have ne_al_b24 : al ≠ b24 := Nat.ne_of_lt (Nat.lt_of_lt_of_le Tb.lt (Nat.le_of_eq gq24.symm))
          have ne_c1_b24 : c1 ≠ b24 := Nat.ne_of_lt (Nat.lt_of_lt_of_le Ex1.lt (Nat.le_of_eq gq24.symm))
          have ne_b23_b24 : b23 ≠ b24 := Nat.ne_of_lt (Nat.lt_of_lt_of_le Ex_b23.lt (Nat.le_of_eq gq24.symm))
          replace S_cs := S_cs.ext E24
          replace S_fm := S_fm.ext E24
          replace S_al := S_al.ext E24
          replace Tb := Tb.ext E24
          replace Ex1 := Ex1.ext E24
          replace Ex_b23 := Ex_b23.ext E24
          replace F_value_b23 := F_value_b23.ext E24
          replace F_coder_b23 := F_coder_b23.ext E24
          have Z24 : n0 ≤ h24.size := Nat.le_trans Z23 E24.1
          replace hk := Nat.le_trans hk E24.1
          have Av_b24 : Arv Z h24 b24 k24 .char (3 : Int32) [(.int (0 : Int32)), (.int (0 : Int32)), (.int (0 : Int32))] (.int (0 : Int32)) := (Arv.new A24 (by decide)).pad (pad_rep [] (.int (0 : Int32)) 3)
          refine own_go (A := T24.setTop (mkF m 135 #[.val (.int p1), .val (.int p2), .val (.int p3), .val (.int p4), .val (.int p5), .val (.int p6), .val (.ref c1), .val (.int r2), .val (.int r3), .val (.int r4), .val (.int r5), .unset, .val (.int (p5 &&& (7 : Int32))), .val (.int (((p5 &&& (7 : Int32)) &&& (3 : Int32)) + (1 : Int32)))] [(.ref b24), (.ref b23), (.ref b23)])) (fun _ kz => st24 _ kz) ?_
          refine own_go (A := T24.setTop (mkF m 139 #[.val (.int p1), .val (.int p2), .val (.int p3), .val (.int p4), .val (.int p5), .val (.int p6), .val (.ref c1), .val (.int r2), .val (.int r3), .val (.int r4), .val (.int r5), .unset, .val (.int (p5 &&& (7 : Int32))), .val (.int (((p5 &&& (7 : Int32)) &&& (3 : Int32)) + (1 : Int32)))] [(.int r2), (.int (0 : Int32)), (.ref b24), (.ref b24), (.ref b23), (.ref b23)])) (fun _ kz => ?_) ?_
          · show Steps p.tables e below (T24.setTop (mkF m 135 #[.val (.int p1), .val (.int p2), .val (.int p3), .val (.int p4), .val (.int p5), .val (.int p6), .val (.ref c1), .val (.int r2), .val (.int r3), .val (.int r4), .val (.int r5), .unset, .val (.int (p5 &&& (7 : Int32))), .val (.int (((p5 &&& (7 : Int32)) &&& (3 : Int32)) + (1 : Int32)))] [(.ref b24), (.ref b23), (.ref b23)])) _
            refine XS.dup X24.here hx rfl (hb hby at_135) rfl rfl ?_
            show Steps p.tables e below (T24.setTop (mkF m 136 #[.val (.int p1), .val (.int p2), .val (.int p3), .val (.int p4), .val (.int p5), .val (.int p6), .val (.ref c1), .val (.int r2), .val (.int r3), .val (.int r4), .val (.int r5), .unset, .val (.int (p5 &&& (7 : Int32))), .val (.int (((p5 &&& (7 : Int32)) &&& (3 : Int32)) + (1 : Int32)))] [(.ref b24), (.ref b24), (.ref b23), (.ref b23)])) _
            refine XS.iconst X24.here hx rfl (hb hby at_136) ?_
            show Steps p.tables e below (T24.setTop (mkF m 137 #[.val (.int p1), .val (.int p2), .val (.int p3), .val (.int p4), .val (.int p5), .val (.int p6), .val (.ref c1), .val (.int r2), .val (.int r3), .val (.int r4), .val (.int r5), .unset, .val (.int (p5 &&& (7 : Int32))), .val (.int (((p5 &&& (7 : Int32)) &&& (3 : Int32)) + (1 : Int32)))] [(.int (0 : Int32)), (.ref b24), (.ref b24), (.ref b23), (.ref b23)])) _
            refine XS.iload X24.here hx rfl (hb hby at_137) rfl ?_
            exact kz
          obtain ⟨cl25, Ar25, q25, S25, M25, H25, G25⟩ := id Av_b24
          have hin25 : ¬ ((0 : Int32) < 0 ∨ cl25.slots.size ≤ ((0 : Int32)).toNatClampNeg) := inb_of S25 ⟨by decide, by decide⟩
          obtain ⟨T25, h25, X25, e25, W25, st25⟩ := stC X24 hx hZ e24 Ar25 (j := (0 : Int32)) hin25 (g := (mkF m 139 #[.val (.int p1), .val (.int p2), .val (.int p3), .val (.int p4), .val (.int p5), .val (.int p6), .val (.ref c1), .val (.int r2), .val (.int r3), .val (.int r4), .val (.int r5), .unset, .val (.int (p5 &&& (7 : Int32))), .val (.int (((p5 &&& (7 : Int32)) &&& (3 : Int32)) + (1 : Int32)))] [(.int r2), (.int (0 : Int32)), (.ref b24), (.ref b24), (.ref b23), (.ref b23)])) rfl rfl (hb hby at_139)
          have Aw25 := Arv.set Ar25 q25 S25 M25 H25 G25 (fits_nar_char _) W25 0 rfl (Nat.le_of_ble_eq_true rfl)
          replace S_cs := S_cs.wr W25
          replace S_fm := S_fm.wr W25
          replace S_al := S_al.wr W25
          replace Tb := Tb.other W25 ne_al_b24
          replace Ex1 := Ex1.wr W25
          replace Ex_b23 := Ex_b23.wr W25
          replace F_value_b23 := F_value_b23.other W25 (Or.inl ne_b23_b24)
          replace F_coder_b23 := F_coder_b23.other W25 (Or.inl ne_b23_b24)
          have Z25 : n0 ≤ h25.size := Nat.le_trans Z24 (Keep.of_wr W25).1
          replace hk := Nat.le_trans hk (Keep.of_wr W25).1
          have Av_b24 : Arv Z h25 b24 k24 .char (3 : Int32) [(.int (nar .char r2)), (.int (0 : Int32)), (.int (0 : Int32))] (.int (0 : Int32)) := Aw25
          have N25 := Fr.snoc X25 N5 g_b24
          refine own_go (A := T25.setTop (mkF m 140 #[.val (.int p1), .val (.int p2), .val (.int p3), .val (.int p4), .val (.int p5), .val (.int p6), .val (.ref c1), .val (.int r2), .val (.int r3), .val (.int r4), .val (.int r5), .unset, .val (.int (p5 &&& (7 : Int32))), .val (.int (((p5 &&& (7 : Int32)) &&& (3 : Int32)) + (1 : Int32)))] [(.ref b24), (.ref b23), (.ref b23)])) (fun _ kz => st25 _ kz) ?_
          refine own_go (A := T25.setTop (mkF m 144 #[.val (.int p1), .val (.int p2), .val (.int p3), .val (.int p4), .val (.int p5), .val (.int p6), .val (.ref c1), .val (.int r2), .val (.int r3), .val (.int r4), .val (.int r5), .unset, .val (.int (p5 &&& (7 : Int32))), .val (.int (((p5 &&& (7 : Int32)) &&& (3 : Int32)) + (1 : Int32)))] [(.int r3), (.int (1 : Int32)), (.ref b24), (.ref b24), (.ref b23), (.ref b23)])) (fun _ kz => ?_) ?_
          · show Steps p.tables e below (T25.setTop (mkF m 140 #[.val (.int p1), .val (.int p2), .val (.int p3), .val (.int p4), .val (.int p5), .val (.int p6), .val (.ref c1), .val (.int r2), .val (.int r3), .val (.int r4), .val (.int r5), .unset, .val (.int (p5 &&& (7 : Int32))), .val (.int (((p5 &&& (7 : Int32)) &&& (3 : Int32)) + (1 : Int32)))] [(.ref b24), (.ref b23), (.ref b23)])) _
            refine XS.dup X25.here hx rfl (hb hby at_140) rfl rfl ?_
            show Steps p.tables e below (T25.setTop (mkF m 141 #[.val (.int p1), .val (.int p2), .val (.int p3), .val (.int p4), .val (.int p5), .val (.int p6), .val (.ref c1), .val (.int r2), .val (.int r3), .val (.int r4), .val (.int r5), .unset, .val (.int (p5 &&& (7 : Int32))), .val (.int (((p5 &&& (7 : Int32)) &&& (3 : Int32)) + (1 : Int32)))] [(.ref b24), (.ref b24), (.ref b23), (.ref b23)])) _
            refine XS.iconst X25.here hx rfl (hb hby at_141) ?_
            show Steps p.tables e below (T25.setTop (mkF m 142 #[.val (.int p1), .val (.int p2), .val (.int p3), .val (.int p4), .val (.int p5), .val (.int p6), .val (.ref c1), .val (.int r2), .val (.int r3), .val (.int r4), .val (.int r5), .unset, .val (.int (p5 &&& (7 : Int32))), .val (.int (((p5 &&& (7 : Int32)) &&& (3 : Int32)) + (1 : Int32)))] [(.int (1 : Int32)), (.ref b24), (.ref b24), (.ref b23), (.ref b23)])) _
            refine XS.iload X25.here hx rfl (hb hby at_142) rfl ?_
            exact kz
          obtain ⟨cl26, Ar26, q26, S26, M26, H26, G26⟩ := id Av_b24
          have hin26 : ¬ ((1 : Int32) < 0 ∨ cl26.slots.size ≤ ((1 : Int32)).toNatClampNeg) := inb_of S26 ⟨by decide, by decide⟩
          obtain ⟨T26, h26, X26, e26, W26, st26⟩ := stC X25 hx hZ e25 Ar26 (j := (1 : Int32)) hin26 (g := (mkF m 144 #[.val (.int p1), .val (.int p2), .val (.int p3), .val (.int p4), .val (.int p5), .val (.int p6), .val (.ref c1), .val (.int r2), .val (.int r3), .val (.int r4), .val (.int r5), .unset, .val (.int (p5 &&& (7 : Int32))), .val (.int (((p5 &&& (7 : Int32)) &&& (3 : Int32)) + (1 : Int32)))] [(.int r3), (.int (1 : Int32)), (.ref b24), (.ref b24), (.ref b23), (.ref b23)])) rfl rfl (hb hby at_144)
          have Aw26 := Arv.set Ar26 q26 S26 M26 H26 G26 (fits_nar_char _) W26 1 rfl (Nat.le_of_ble_eq_true rfl)
          replace S_cs := S_cs.wr W26
          replace S_fm := S_fm.wr W26
          replace S_al := S_al.wr W26
          replace Tb := Tb.other W26 ne_al_b24
          replace Ex1 := Ex1.wr W26
          replace Ex_b23 := Ex_b23.wr W26
          replace F_value_b23 := F_value_b23.other W26 (Or.inl ne_b23_b24)
          replace F_coder_b23 := F_coder_b23.other W26 (Or.inl ne_b23_b24)
          have Z26 : n0 ≤ h26.size := Nat.le_trans Z25 (Keep.of_wr W26).1
          replace hk := Nat.le_trans hk (Keep.of_wr W26).1
          have Av_b24 : Arv Z h26 b24 k24 .char (3 : Int32) [(.int (nar .char r2)), (.int (nar .char r3)), (.int (0 : Int32))] (.int (0 : Int32)) := Aw26
          have N26 := Fr.snoc X26 N25 g_b24
          refine own_go (A := T26.setTop (mkF m 145 #[.val (.int p1), .val (.int p2), .val (.int p3), .val (.int p4), .val (.int p5), .val (.int p6), .val (.ref c1), .val (.int r2), .val (.int r3), .val (.int r4), .val (.int r5), .unset, .val (.int (p5 &&& (7 : Int32))), .val (.int (((p5 &&& (7 : Int32)) &&& (3 : Int32)) + (1 : Int32)))] [(.ref b24), (.ref b23), (.ref b23)])) (fun _ kz => st26 _ kz) ?_
          refine own_go (A := T26.setTop (mkF m 149 #[.val (.int p1), .val (.int p2), .val (.int p3), .val (.int p4), .val (.int p5), .val (.int p6), .val (.ref c1), .val (.int r2), .val (.int r3), .val (.int r4), .val (.int r5), .unset, .val (.int (p5 &&& (7 : Int32))), .val (.int (((p5 &&& (7 : Int32)) &&& (3 : Int32)) + (1 : Int32)))] [(.int r4), (.int (2 : Int32)), (.ref b24), (.ref b24), (.ref b23), (.ref b23)])) (fun _ kz => ?_) ?_
          · show Steps p.tables e below (T26.setTop (mkF m 145 #[.val (.int p1), .val (.int p2), .val (.int p3), .val (.int p4), .val (.int p5), .val (.int p6), .val (.ref c1), .val (.int r2), .val (.int r3), .val (.int r4), .val (.int r5), .unset, .val (.int (p5 &&& (7 : Int32))), .val (.int (((p5 &&& (7 : Int32)) &&& (3 : Int32)) + (1 : Int32)))] [(.ref b24), (.ref b23), (.ref b23)])) _
            refine XS.dup X26.here hx rfl (hb hby at_145) rfl rfl ?_
            show Steps p.tables e below (T26.setTop (mkF m 146 #[.val (.int p1), .val (.int p2), .val (.int p3), .val (.int p4), .val (.int p5), .val (.int p6), .val (.ref c1), .val (.int r2), .val (.int r3), .val (.int r4), .val (.int r5), .unset, .val (.int (p5 &&& (7 : Int32))), .val (.int (((p5 &&& (7 : Int32)) &&& (3 : Int32)) + (1 : Int32)))] [(.ref b24), (.ref b24), (.ref b23), (.ref b23)])) _
            refine XS.iconst X26.here hx rfl (hb hby at_146) ?_
            show Steps p.tables e below (T26.setTop (mkF m 147 #[.val (.int p1), .val (.int p2), .val (.int p3), .val (.int p4), .val (.int p5), .val (.int p6), .val (.ref c1), .val (.int r2), .val (.int r3), .val (.int r4), .val (.int r5), .unset, .val (.int (p5 &&& (7 : Int32))), .val (.int (((p5 &&& (7 : Int32)) &&& (3 : Int32)) + (1 : Int32)))] [(.int (2 : Int32)), (.ref b24), (.ref b24), (.ref b23), (.ref b23)])) _
            refine XS.iload X26.here hx rfl (hb hby at_147) rfl ?_
            exact kz
          obtain ⟨cl27, Ar27, q27, S27, M27, H27, G27⟩ := id Av_b24
          have hin27 : ¬ ((2 : Int32) < 0 ∨ cl27.slots.size ≤ ((2 : Int32)).toNatClampNeg) := inb_of S27 ⟨by decide, by decide⟩
          obtain ⟨T27, h27, X27, e27, W27, st27⟩ := stC X26 hx hZ e26 Ar27 (j := (2 : Int32)) hin27 (g := (mkF m 149 #[.val (.int p1), .val (.int p2), .val (.int p3), .val (.int p4), .val (.int p5), .val (.int p6), .val (.ref c1), .val (.int r2), .val (.int r3), .val (.int r4), .val (.int r5), .unset, .val (.int (p5 &&& (7 : Int32))), .val (.int (((p5 &&& (7 : Int32)) &&& (3 : Int32)) + (1 : Int32)))] [(.int r4), (.int (2 : Int32)), (.ref b24), (.ref b24), (.ref b23), (.ref b23)])) rfl rfl (hb hby at_149)
          have Aw27 := Arv.set Ar27 q27 S27 M27 H27 G27 (fits_nar_char _) W27 2 rfl (Nat.le_of_ble_eq_true rfl)
          replace S_cs := S_cs.wr W27
          replace S_fm := S_fm.wr W27
          replace S_al := S_al.wr W27
          replace Tb := Tb.other W27 ne_al_b24
          replace Ex1 := Ex1.wr W27
          replace Ex_b23 := Ex_b23.wr W27
          replace F_value_b23 := F_value_b23.other W27 (Or.inl ne_b23_b24)
          replace F_coder_b23 := F_coder_b23.other W27 (Or.inl ne_b23_b24)
          have Z27 : n0 ≤ h27.size := Nat.le_trans Z26 (Keep.of_wr W27).1
          replace hk := Nat.le_trans hk (Keep.of_wr W27).1
          have Av_b24 : Arv Z h27 b24 k24 .char (3 : Int32) [(.int (nar .char r2)), (.int (nar .char r3)), (.int (nar .char r4))] (.int (0 : Int32)) := Aw27
          have N27 := Fr.snoc X27 N26 g_b24
          refine own_go (A := T27.setTop (mkF m 150 #[.val (.int p1), .val (.int p2), .val (.int p3), .val (.int p4), .val (.int p5), .val (.int p6), .val (.ref c1), .val (.int r2), .val (.int r3), .val (.int r4), .val (.int r5), .unset, .val (.int (p5 &&& (7 : Int32))), .val (.int (((p5 &&& (7 : Int32)) &&& (3 : Int32)) + (1 : Int32)))] [(.ref b24), (.ref b23), (.ref b23)])) (fun _ kz => st27 _ kz) ?_
          have hok : ∀ c ∈ ([(nar .char r2), (nar .char r3), (nar .char r4)] : List Int32), own_ok c = true := by
            intro c hc
            simp only [List.mem_cons, List.not_mem_nil, or_false] at hc
            rcases hc with rfl | rfl | rfl
            · exact own_okn ok_r2
            · exact own_okn ok_r3
            · exact own_okn ok_r4
          have hp : ∀ c ∈ ([(nar .char r2), (nar .char r3), (nar .char r4)] : List Int32), ¬ c < 0 ∧ ¬ (255 : Int32) < c := fun c hc => own_ok255 (hok c hc)
          have hcd : StrChars.Road.CodA ([(nar .char r2), (nar .char r3), (nar .char r4)] : List Int32) 0 (3 : Int32) (((([(nar .char r2), (nar .char r3), (nar .char r4)] : List Int32)).map (fun c => c.toInt8.toInt32)).map Value.int) := StrChars.Road.codOf (n := 3) rfl (fun c hc => (hp c hc).2)
          obtain ⟨_, _, ⟨T28, L28, k28, n28⟩, -, X28, ⟨Lc28, hQ28, l28, y28, z28⟩, st28⟩ := X27.specialBack hx (y := (⟨"java/lang/String", "<init>", "([C)V"⟩ : MethodName)) rfl hown (mvT hZ (hw _ (List.mem_of_getElem? (i := 33) rfl))) (mvT hZ (hw _ (List.mem_of_getElem? (i := 34) rfl))) (mvT hZ (hw _ (List.mem_of_getElem? (i := 35) rfl))) (by decide) (StrChars.Road.backV (W := 1) hZ hws (kI := 4) (hw _ (List.mem_of_getElem? (i := 10) rfl)) (cs := ([(nar .char r2), (nar .char r3), (nar .char r4)] : List Int32)) (bs := (([(nar .char r2), (nar .char r3), (nar .char r4)] : List Int32)).map (fun c => c.toInt8.toInt32)) (n := 3) g_b23 Z27 Ex_b23 F_value_b23 F_coder_b23 Av_b24 S_cs hcs rfl rfl (by decide) (by decide) hp rfl (by decide) (by decide)) (g := (mkF m 150 #[.val (.int p1), .val (.int p2), .val (.int p3), .val (.int p4), .val (.int p5), .val (.int p6), .val (.ref c1), .val (.int r2), .val (.int r3), .val (.int r4), .val (.int r5), .unset, .val (.int (p5 &&& (7 : Int32))), .val (.int (((p5 &&& (7 : Int32)) &&& (3 : Int32)) + (1 : Int32)))] [(.ref b24), (.ref b23), (.ref b23)])) rfl (by rw [hml]; rfl) (Steps.refl _) (a := b23) (argsL := [(.ref b24)]) (rest := [(.ref b23)]) (lenOf own_pd8 rfl) rfl (by show 2 * 0 + _ ≤ _; exact Nat.le_of_eq rfl) (hb hby at_150) (fun _ _ => ⟨rfl, e27, (by decide : 4 + 1 ≤ _), (by decide : 12 + 3 ≤ _)⟩)
          dsimp only [Pt.U, Pt.locs, Pt.cells, Pt.slots] at X28 l28 y28 z28 st28 hQ28
          subst l28 y28 z28
          obtain ⟨rfl, N28q, K28q, _, Fc28, t28, kb28, u128, u228, u328, Fv28, Ab28⟩ := hQ28
          have N28 := Fr.app N27 N28q
          replace S_cs := own_staKeep S_cs K28q (allS (own_ns Ex_b23) all0)
          replace S_fm := own_staKeep S_fm K28q (allS (own_ns Ex_b23) all0)
          replace S_al := own_staKeep S_al K28q (allS (own_ns Ex_b23) all0)
          replace Tb := Tb.keep K28q (ninS ne_al_b23 nin0)
          replace Ex1 := Ex1.keep K28q
          replace Ex_b23 := Ex_b23.keep K28q
          replace Av_b24 := Av_b24.keep K28q (ninS (Ne.symm ne_b23_b24) nin0)
          have Z28 : n0 ≤ T28.heap.size := Nat.le_trans Z27 K28q.1
          replace hk := Nat.le_trans hk K28q.1
          refine own_go (A := T28.setTop (mkF m 153 #[.val (.int p1), .val (.int p2), .val (.int p3), .val (.int p4), .val (.int p5), .val (.int p6), .val (.ref c1), .val (.int r2), .val (.int r3), .val (.int r4), .val (.int r5), .unset, .val (.int (p5 &&& (7 : Int32))), .val (.int (((p5 &&& (7 : Int32)) &&& (3 : Int32)) + (1 : Int32)))] [(.ref b23)])) (fun _ kz => st28.trans kz) ?_
          refine own_go (A := T28.setTop (mkF m 194 #[.val (.int p1), .val (.int p2), .val (.int p3), .val (.int p4), .val (.int p5), .val (.int p6), .val (.ref c1), .val (.int r2), .val (.int r3), .val (.int r4), .val (.int r5), .val (.ref b23), .val (.int (p5 &&& (7 : Int32))), .val (.int (((p5 &&& (7 : Int32)) &&& (3 : Int32)) + (1 : Int32)))] [(.ref b23), (.ref c1)])) (fun _ kz => ?_) ?_
          · show Steps p.tables e below (T28.setTop (mkF m 153 #[.val (.int p1), .val (.int p2), .val (.int p3), .val (.int p4), .val (.int p5), .val (.int p6), .val (.ref c1), .val (.int r2), .val (.int r3), .val (.int r4), .val (.int r5), .unset, .val (.int (p5 &&& (7 : Int32))), .val (.int (((p5 &&& (7 : Int32)) &&& (3 : Int32)) + (1 : Int32)))] [(.ref b23)])) _
            refine XS.astore X28.here hx rfl (hb hby at_153) rfl rfl (l' := #[.val (.int p1), .val (.int p2), .val (.int p3), .val (.int p4), .val (.int p5), .val (.int p6), .val (.ref c1), .val (.int r2), .val (.int r3), .val (.int r4), .val (.int r5), .val (.ref b23), .val (.int (p5 &&& (7 : Int32))), .val (.int (((p5 &&& (7 : Int32)) &&& (3 : Int32)) + (1 : Int32)))]) rfl ?_
            show Steps p.tables e below (T28.setTop (mkF m 155 #[.val (.int p1), .val (.int p2), .val (.int p3), .val (.int p4), .val (.int p5), .val (.int p6), .val (.ref c1), .val (.int r2), .val (.int r3), .val (.int r4), .val (.int r5), .val (.ref b23), .val (.int (p5 &&& (7 : Int32))), .val (.int (((p5 &&& (7 : Int32)) &&& (3 : Int32)) + (1 : Int32)))] [])) _
            refine XS.goto X28.here hx rfl (pc0 := 155) (pc' := 190) rfl (hb hby at_155) (by decide) (by decide) ?_
            show Steps p.tables e below (T28.setTop (mkF m 190 #[.val (.int p1), .val (.int p2), .val (.int p3), .val (.int p4), .val (.int p5), .val (.int p6), .val (.ref c1), .val (.int r2), .val (.int r3), .val (.int r4), .val (.int r5), .val (.ref b23), .val (.int (p5 &&& (7 : Int32))), .val (.int (((p5 &&& (7 : Int32)) &&& (3 : Int32)) + (1 : Int32)))] [])) _
            refine XS.aload X28.here hx rfl (hb hby at_190) rfl rfl ?_
            show Steps p.tables e below (T28.setTop (mkF m 192 #[.val (.int p1), .val (.int p2), .val (.int p3), .val (.int p4), .val (.int p5), .val (.int p6), .val (.ref c1), .val (.int r2), .val (.int r3), .val (.int r4), .val (.int r5), .val (.ref b23), .val (.int (p5 &&& (7 : Int32))), .val (.int (((p5 &&& (7 : Int32)) &&& (3 : Int32)) + (1 : Int32)))] [(.ref c1)])) _
            refine XS.aload X28.here hx rfl (hb hby at_192) rfl rfl ?_
            exact kz
          obtain ⟨_, _, ⟨T29, L29, k29, n29⟩, -, X29, ⟨Lc29, hQ29, l29, y29, z29⟩, st29⟩ := Jvm.LawKit.callS X28 hx (y := (⟨"com/example/quartermaster/quartermaster/Names", "require", "(Ljava/lang/String;Ljava/lang/String;)Ljava/lang/String;"⟩ : MethodName)) hown (mvT hZ (hw _ (List.mem_of_getElem? (i := 49) rfl))) (mvT hZ (hw _ (List.mem_of_getElem? (i := 50) rfl))) (mvT hZ (hw _ (List.mem_of_getElem? (i := 51) rfl))) (mvT hZ (hw _ (List.mem_of_getElem? (i := 52) rfl))) (by decide) (backOf (W := 0) (rmRq l Z a0 hw [] c1 b23 t28 kb28 ([(nar .char r2), (nar .char r3), (nar .char r4)] : List Int32) (3 : Int32) (((([(nar .char r2), (nar .char r3), (nar .char r4)] : List Int32)).map (fun c => c.toInt8.toInt32)).map Value.int) cs fm al kt vt T28.heap n0 Z28 Ex_b23 Fv28 Fc28 Ab28 hcd (own_up _ hp) (Nat.le_of_ble_eq_true rfl) (Nat.le_of_ble_eq_true rfl) hok hcs S_cs S_fm rfm S_al Tb hvt) hZ (hw _ (List.mem_of_getElem? (i := 52) rfl)) (hw _ (List.mem_of_getElem? (i := 51) rfl)) (by decide) (by decide)) (g := (mkF m 194 #[.val (.int p1), .val (.int p2), .val (.int p3), .val (.int p4), .val (.int p5), .val (.int p6), .val (.ref c1), .val (.int r2), .val (.int r3), .val (.int r4), .val (.int r5), .val (.ref b23), .val (.int (p5 &&& (7 : Int32))), .val (.int (((p5 &&& (7 : Int32)) &&& (3 : Int32)) + (1 : Int32)))] [(.ref b23), (.ref c1)])) rfl (by rw [hml]; rfl) (argsL := [(.ref c1), (.ref b23)]) (rest := []) (lenOf own_pd7 rfl) rfl (by show 2 * 0 + _ ≤ _; exact Nat.le_of_eq rfl) (hb hby at_194) (fun _ _ => ⟨rfl, rfl, (by decide : 5 + 0 ≤ _), (by decide : 15 + 0 ≤ _)⟩)
          dsimp only [Pt.U, Pt.locs, Pt.cells, Pt.slots] at X29 l29 y29 z29 st29 hQ29
          subst l29 y29 z29
          obtain ⟨rfl, N29q, e29⟩ := hQ29
          have N29 := Fr.app N28 N29q
          refine own_go (A := T29.setTop (mkF m 197 #[.val (.int p1), .val (.int p2), .val (.int p3), .val (.int p4), .val (.int p5), .val (.int p6), .val (.ref c1), .val (.int r2), .val (.int r3), .val (.int r4), .val (.int r5), .val (.ref b23), .val (.int (p5 &&& (7 : Int32))), .val (.int (((p5 &&& (7 : Int32)) &&& (3 : Int32)) + (1 : Int32)))] [(.ref b23)])) (fun _ kz => st29 _ kz) ?_
          refine own_go (A := T29.setTop (mkF m 211 #[.val (.int p1), .val (.int p2), .val (.int p3), .val (.int p4), .val (.int p5), .val (.int p6), .val (.ref c1), .val (.int r2), .val (.int r3), .val (.int r4), .val (.int r5), .val (.ref b23), .val (.int (p5 &&& (7 : Int32))), .val (.ref b23)] [(.int (1 : Int32))])) (fun _ kz => ?_) ?_
          · show Steps p.tables e below (T29.setTop (mkF m 197 #[.val (.int p1), .val (.int p2), .val (.int p3), .val (.int p4), .val (.int p5), .val (.int p6), .val (.ref c1), .val (.int r2), .val (.int r3), .val (.int r4), .val (.int r5), .val (.ref b23), .val (.int (p5 &&& (7 : Int32))), .val (.int (((p5 &&& (7 : Int32)) &&& (3 : Int32)) + (1 : Int32)))] [(.ref b23)])) _
            refine XS.astore X29.here hx rfl (hb hby at_197) rfl rfl (l' := #[.val (.int p1), .val (.int p2), .val (.int p3), .val (.int p4), .val (.int p5), .val (.int p6), .val (.ref c1), .val (.int r2), .val (.int r3), .val (.int r4), .val (.int r5), .val (.ref b23), .val (.int (p5 &&& (7 : Int32))), .val (.ref b23)]) rfl ?_
            show Steps p.tables e below (T29.setTop (mkF m 199 #[.val (.int p1), .val (.int p2), .val (.int p3), .val (.int p4), .val (.int p5), .val (.int p6), .val (.ref c1), .val (.int r2), .val (.int r3), .val (.int r4), .val (.int r5), .val (.ref b23), .val (.int (p5 &&& (7 : Int32))), .val (.ref b23)] [])) _
            refine XS.aload X29.here hx rfl (hb hby at_199) rfl rfl ?_
            show Steps p.tables e below (T29.setTop (mkF m 201 #[.val (.int p1), .val (.int p2), .val (.int p3), .val (.int p4), .val (.int p5), .val (.int p6), .val (.ref c1), .val (.int r2), .val (.int r3), .val (.int r4), .val (.int r5), .val (.ref b23), .val (.int (p5 &&& (7 : Int32))), .val (.ref b23)] [(.ref b23)])) _
            refine XS.aload X29.here hx rfl (hb hby at_201) rfl rfl ?_
            show Steps p.tables e below (T29.setTop (mkF m 203 #[.val (.int p1), .val (.int p2), .val (.int p3), .val (.int p4), .val (.int p5), .val (.int p6), .val (.ref c1), .val (.int r2), .val (.int r3), .val (.int r4), .val (.int r5), .val (.ref b23), .val (.int (p5 &&& (7 : Int32))), .val (.ref b23)] [(.ref b23), (.ref b23)])) _
            refine Jvm.RoadKit.acmp (g := (mkF m 203 #[.val (.int p1), .val (.int p2), .val (.int p3), .val (.int p4), .val (.int p5), .val (.int p6), .val (.ref c1), .val (.int r2), .val (.int r3), .val (.int r4), .val (.int r5), .val (.ref b23), .val (.int (p5 &&& (7 : Int32))), .val (.ref b23)] [(.ref b23), (.ref b23)])) X29 hx rfl rfl rfl (pc0 := 203) (pc' := 206) (same := true) rfl (hb hby at_203) rfl (decide_eq_true rfl) (by decide) (by decide) ?_
            show Steps p.tables e below (T29.setTop (mkF m 206 #[.val (.int p1), .val (.int p2), .val (.int p3), .val (.int p4), .val (.int p5), .val (.int p6), .val (.ref c1), .val (.int r2), .val (.int r3), .val (.int r4), .val (.int r5), .val (.ref b23), .val (.int (p5 &&& (7 : Int32))), .val (.ref b23)] [])) _
            refine XS.iconst X29.here hx rfl (hb hby at_206) ?_
            show Steps p.tables e below (T29.setTop (mkF m 207 #[.val (.int p1), .val (.int p2), .val (.int p3), .val (.int p4), .val (.int p5), .val (.int p6), .val (.ref c1), .val (.int r2), .val (.int r3), .val (.int r4), .val (.int r5), .val (.ref b23), .val (.int (p5 &&& (7 : Int32))), .val (.ref b23)] [(.int (1 : Int32))])) _
            refine XS.goto X29.here hx rfl (pc0 := 207) (pc' := 211) rfl (hb hby at_207) (by decide) (by decide) ?_
            exact kz
          obtain ⟨fs, hrr, hrun, hended, rW1, rW2, rW3, rW4⟩ := X29.leaveW hS (by rw [e29]; exact hk) (v := some (.int (1 : Int32))) (fun h => by rw [Bd.returns] at h; cases h)
          refine ⟨_, _, ?_, hrun, hended, _, _, rfl, ?_, rW1, rW2, rW3, rW4.mono (by decide) (by decide)⟩
          · show Steps p.tables e below (T29.setTop (mkF m 211 #[.val (.int p1), .val (.int p2), .val (.int p3), .val (.int p4), .val (.int p5), .val (.int p6), .val (.ref c1), .val (.int r2), .val (.int r3), .val (.int r4), .val (.int r5), .val (.ref b23), .val (.int (p5 &&& (7 : Int32))), .val (.ref b23)] [(.int (1 : Int32))])) _
            exact retN X29 hx (t := .boolean) Bd.returns (by simp) (hb hby at_211) hrr
          · show Qrm0 Z  h0 n0 _ T29.heap _
            rw [e29]
            exact ⟨rfl, N29⟩
        · skip
          refine own_go (A := T5.setTop (mkF m 158 #[.val (.int p1), .val (.int p2), .val (.int p3), .val (.int p4), .val (.int p5), .val (.int p6), .val (.ref c1), .val (.int r2), .val (.int r3), .val (.int r4), .val (.int r5), .unset, .val (.int (p5 &&& (7 : Int32))), .val (.int (((p5 &&& (7 : Int32)) &&& (3 : Int32)) + (1 : Int32)))] [])) (fun _ kz => ?_) ?_
          · show Steps p.tables e below (T5.setTop (mkF m 125 #[.val (.int p1), .val (.int p2), .val (.int p3), .val (.int p4), .val (.int p5), .val (.int p6), .val (.ref c1), .val (.int r2), .val (.int r3), .val (.int r4), .val (.int r5), .unset, .val (.int (p5 &&& (7 : Int32))), .val (.int (((p5 &&& (7 : Int32)) &&& (3 : Int32)) + (1 : Int32)))] [(.int (3 : Int32)), (.int (((p5 &&& (7 : Int32)) &&& (3 : Int32)) + (1 : Int32)))])) _
            refine XS.icmpYes X5.here hx rfl (pc0 := 125) (pc' := 158) rfl (hb hby at_125) rfl (feq hs22).2 (by decide) (by decide) ?_
            exact kz
          obtain ⟨T30, h30, X30, e30, E30, A30, D30, -, st30⟩ := newO X5 hx hZ hown (hw _ (List.mem_of_getElem? (i := 31) rfl)) (hw _ (List.mem_of_getElem? (i := 10) rfl)) (hw _ (List.mem_of_getElem? (i := 2) rfl)) e5 (g := (mkF m 158 #[.val (.int p1), .val (.int p2), .val (.int p3), .val (.int p4), .val (.int p5), .val (.int p6), .val (.ref c1), .val (.int r2), .val (.int r3), .val (.int r4), .val (.int r5), .unset, .val (.int (p5 &&& (7 : Int32))), .val (.int (((p5 &&& (7 : Int32)) &&& (3 : Int32)) + (1 : Int32)))] [])) rfl (hb hby at_158) (by decide) (by decide)
          obtain ⟨b30, gq30⟩ : ∃ z, z = T1.heap.size := ⟨_, rfl⟩
          rw [← gq30] at A30 D30 st30
          have g_b30 : n0 ≤ b30 := Nat.le_trans Z1 (Nat.le_of_eq gq30.symm)
          have ne_al_b30 : al ≠ b30 := Nat.ne_of_lt (Nat.lt_of_lt_of_le Tb.lt (Nat.le_of_eq gq30.symm))
          have ne_c1_b30 : c1 ≠ b30 := Nat.ne_of_lt (Nat.lt_of_lt_of_le Ex1.lt (Nat.le_of_eq gq30.symm))
          replace S_cs := S_cs.ext E30
          replace S_fm := S_fm.ext E30
          replace S_al := S_al.ext E30
          replace Tb := Tb.ext E30
          replace Ex1 := Ex1.ext E30
          have Z30 : n0 ≤ h30.size := Nat.le_trans Z1 E30.1
          replace hk := Nat.le_trans hk E30.1
          have Ex_b30 := A30
          have F_value_b30 : Fld Z h30 b30 "java/lang/String" "value" "[B" .null := D30 (Or.inr (hw _ (List.mem_of_getElem? (i := 23) rfl))) (ty := (.array .byte)) (by decide)
          have F_coder_b30 : Fld Z h30 b30 "java/lang/String" "coder" "B" (.int (0 : Int32)) := D30 (Or.inr (hw _ (List.mem_of_getElem? (i := 25) rfl))) (ty := .byte) (by decide)
          refine own_go (A := T30.setTop (mkF m 161 #[.val (.int p1), .val (.int p2), .val (.int p3), .val (.int p4), .val (.int p5), .val (.int p6), .val (.ref c1), .val (.int r2), .val (.int r3), .val (.int r4), .val (.int r5), .unset, .val (.int (p5 &&& (7 : Int32))), .val (.int (((p5 &&& (7 : Int32)) &&& (3 : Int32)) + (1 : Int32)))] [(.ref b30)])) (fun _ kz => st30 _ kz) ?_
          refine own_go (A := T30.setTop (mkF m 163 #[.val (.int p1), .val (.int p2), .val (.int p3), .val (.int p4), .val (.int p5), .val (.int p6), .val (.ref c1), .val (.int r2), .val (.int r3), .val (.int r4), .val (.int r5), .unset, .val (.int (p5 &&& (7 : Int32))), .val (.int (((p5 &&& (7 : Int32)) &&& (3 : Int32)) + (1 : Int32)))] [(.int (4 : Int32)), (.ref b30), (.ref b30)])) (fun _ kz => ?_) ?_
          · show Steps p.tables e below (T30.setTop (mkF m 161 #[.val (.int p1), .val (.int p2), .val (.int p3), .val (.int p4), .val (.int p5), .val (.int p6), .val (.ref c1), .val (.int r2), .val (.int r3), .val (.int r4), .val (.int r5), .unset, .val (.int (p5 &&& (7 : Int32))), .val (.int (((p5 &&& (7 : Int32)) &&& (3 : Int32)) + (1 : Int32)))] [(.ref b30)])) _
            refine XS.dup X30.here hx rfl (hb hby at_161) rfl rfl ?_
            show Steps p.tables e below (T30.setTop (mkF m 162 #[.val (.int p1), .val (.int p2), .val (.int p3), .val (.int p4), .val (.int p5), .val (.int p6), .val (.ref c1), .val (.int r2), .val (.int r3), .val (.int r4), .val (.int r5), .unset, .val (.int (p5 &&& (7 : Int32))), .val (.int (((p5 &&& (7 : Int32)) &&& (3 : Int32)) + (1 : Int32)))] [(.ref b30), (.ref b30)])) _
            refine XS.iconst X30.here hx rfl (hb hby at_162) ?_
            exact kz
          obtain ⟨T31, h31, k31, X31, e31, E31, A31, st31⟩ := newP X30 hx hZ (hw _ (List.mem_of_getElem? (i := 32) rfl)) e30 (g := (mkF m 163 #[.val (.int p1), .val (.int p2), .val (.int p3), .val (.int p4), .val (.int p5), .val (.int p6), .val (.ref c1), .val (.int r2), .val (.int r3), .val (.int r4), .val (.int r5), .unset, .val (.int (p5 &&& (7 : Int32))), .val (.int (((p5 &&& (7 : Int32)) &&& (3 : Int32)) + (1 : Int32)))] [(.int (4 : Int32)), (.ref b30), (.ref b30)])) rfl (hb hby at_163) rfl (by decide) (cap := 4) (by decide) (by decide) (by decide) (by decide)
          obtain ⟨b31, gq31⟩ : ∃ z, z = h30.size := ⟨_, rfl⟩
          rw [← gq31] at A31 st31
          have g_b31 : n0 ≤ b31 := Nat.le_trans Z30 (Nat.le_of_eq gq31.symm)
          have ne_al_b31 : al ≠ b31 := Nat.ne_of_lt (Nat.lt_of_lt_of_le Tb.lt (Nat.le_of_eq gq31.symm))
          have ne_c1_b31 : c1 ≠ b31 := Nat.ne_of_lt (Nat.lt_of_lt_of_le Ex1.lt (Nat.le_of_eq gq31.symm))
          have ne_b30_b31 : b30 ≠ b31 := Nat.ne_of_lt (Nat.lt_of_lt_of_le Ex_b30.lt (Nat.le_of_eq gq31.symm))
          replace S_cs := S_cs.ext E31
          replace S_fm := S_fm.ext E31
          replace S_al := S_al.ext E31
          replace Tb := Tb.ext E31
          replace Ex1 := Ex1.ext E31
          replace Ex_b30 := Ex_b30.ext E31
          replace F_value_b30 := F_value_b30.ext E31
          replace F_coder_b30 := F_coder_b30.ext E31
          have Z31 : n0 ≤ h31.size := Nat.le_trans Z30 E31.1
          replace hk := Nat.le_trans hk E31.1
          have Av_b31 : Arv Z h31 b31 k31 .char (4 : Int32) [(.int (0 : Int32)), (.int (0 : Int32)), (.int (0 : Int32)), (.int (0 : Int32))] (.int (0 : Int32)) := (Arv.new A31 (by decide)).pad (pad_rep [] (.int (0 : Int32)) 4)
          refine own_go (A := T31.setTop (mkF m 165 #[.val (.int p1), .val (.int p2), .val (.int p3), .val (.int p4), .val (.int p5), .val (.int p6), .val (.ref c1), .val (.int r2), .val (.int r3), .val (.int r4), .val (.int r5), .unset, .val (.int (p5 &&& (7 : Int32))), .val (.int (((p5 &&& (7 : Int32)) &&& (3 : Int32)) + (1 : Int32)))] [(.ref b31), (.ref b30), (.ref b30)])) (fun _ kz => st31 _ kz) ?_
          refine own_go (A := T31.setTop (mkF m 169 #[.val (.int p1), .val (.int p2), .val (.int p3), .val (.int p4), .val (.int p5), .val (.int p6), .val (.ref c1), .val (.int r2), .val (.int r3), .val (.int r4), .val (.int r5), .unset, .val (.int (p5 &&& (7 : Int32))), .val (.int (((p5 &&& (7 : Int32)) &&& (3 : Int32)) + (1 : Int32)))] [(.int r2), (.int (0 : Int32)), (.ref b31), (.ref b31), (.ref b30), (.ref b30)])) (fun _ kz => ?_) ?_
          · show Steps p.tables e below (T31.setTop (mkF m 165 #[.val (.int p1), .val (.int p2), .val (.int p3), .val (.int p4), .val (.int p5), .val (.int p6), .val (.ref c1), .val (.int r2), .val (.int r3), .val (.int r4), .val (.int r5), .unset, .val (.int (p5 &&& (7 : Int32))), .val (.int (((p5 &&& (7 : Int32)) &&& (3 : Int32)) + (1 : Int32)))] [(.ref b31), (.ref b30), (.ref b30)])) _
            refine XS.dup X31.here hx rfl (hb hby at_165) rfl rfl ?_
            show Steps p.tables e below (T31.setTop (mkF m 166 #[.val (.int p1), .val (.int p2), .val (.int p3), .val (.int p4), .val (.int p5), .val (.int p6), .val (.ref c1), .val (.int r2), .val (.int r3), .val (.int r4), .val (.int r5), .unset, .val (.int (p5 &&& (7 : Int32))), .val (.int (((p5 &&& (7 : Int32)) &&& (3 : Int32)) + (1 : Int32)))] [(.ref b31), (.ref b31), (.ref b30), (.ref b30)])) _
            refine XS.iconst X31.here hx rfl (hb hby at_166) ?_
            show Steps p.tables e below (T31.setTop (mkF m 167 #[.val (.int p1), .val (.int p2), .val (.int p3), .val (.int p4), .val (.int p5), .val (.int p6), .val (.ref c1), .val (.int r2), .val (.int r3), .val (.int r4), .val (.int r5), .unset, .val (.int (p5 &&& (7 : Int32))), .val (.int (((p5 &&& (7 : Int32)) &&& (3 : Int32)) + (1 : Int32)))] [(.int (0 : Int32)), (.ref b31), (.ref b31), (.ref b30), (.ref b30)])) _
            refine XS.iload X31.here hx rfl (hb hby at_167) rfl ?_
            exact kz
          obtain ⟨cl32, Ar32, q32, S32, M32, H32, G32⟩ := id Av_b31
          have hin32 : ¬ ((0 : Int32) < 0 ∨ cl32.slots.size ≤ ((0 : Int32)).toNatClampNeg) := inb_of S32 ⟨by decide, by decide⟩
          obtain ⟨T32, h32, X32, e32, W32, st32⟩ := stC X31 hx hZ e31 Ar32 (j := (0 : Int32)) hin32 (g := (mkF m 169 #[.val (.int p1), .val (.int p2), .val (.int p3), .val (.int p4), .val (.int p5), .val (.int p6), .val (.ref c1), .val (.int r2), .val (.int r3), .val (.int r4), .val (.int r5), .unset, .val (.int (p5 &&& (7 : Int32))), .val (.int (((p5 &&& (7 : Int32)) &&& (3 : Int32)) + (1 : Int32)))] [(.int r2), (.int (0 : Int32)), (.ref b31), (.ref b31), (.ref b30), (.ref b30)])) rfl rfl (hb hby at_169)
          have Aw32 := Arv.set Ar32 q32 S32 M32 H32 G32 (fits_nar_char _) W32 0 rfl (Nat.le_of_ble_eq_true rfl)
          replace S_cs := S_cs.wr W32
          replace S_fm := S_fm.wr W32
          replace S_al := S_al.wr W32
          replace Tb := Tb.other W32 ne_al_b31
          replace Ex1 := Ex1.wr W32
          replace Ex_b30 := Ex_b30.wr W32
          replace F_value_b30 := F_value_b30.other W32 (Or.inl ne_b30_b31)
          replace F_coder_b30 := F_coder_b30.other W32 (Or.inl ne_b30_b31)
          have Z32 : n0 ≤ h32.size := Nat.le_trans Z31 (Keep.of_wr W32).1
          replace hk := Nat.le_trans hk (Keep.of_wr W32).1
          have Av_b31 : Arv Z h32 b31 k31 .char (4 : Int32) [(.int (nar .char r2)), (.int (0 : Int32)), (.int (0 : Int32)), (.int (0 : Int32))] (.int (0 : Int32)) := Aw32
          have N32 := Fr.snoc X32 N5 g_b31
          refine own_go (A := T32.setTop (mkF m 170 #[.val (.int p1), .val (.int p2), .val (.int p3), .val (.int p4), .val (.int p5), .val (.int p6), .val (.ref c1), .val (.int r2), .val (.int r3), .val (.int r4), .val (.int r5), .unset, .val (.int (p5 &&& (7 : Int32))), .val (.int (((p5 &&& (7 : Int32)) &&& (3 : Int32)) + (1 : Int32)))] [(.ref b31), (.ref b30), (.ref b30)])) (fun _ kz => st32 _ kz) ?_
          refine own_go (A := T32.setTop (mkF m 174 #[.val (.int p1), .val (.int p2), .val (.int p3), .val (.int p4), .val (.int p5), .val (.int p6), .val (.ref c1), .val (.int r2), .val (.int r3), .val (.int r4), .val (.int r5), .unset, .val (.int (p5 &&& (7 : Int32))), .val (.int (((p5 &&& (7 : Int32)) &&& (3 : Int32)) + (1 : Int32)))] [(.int r3), (.int (1 : Int32)), (.ref b31), (.ref b31), (.ref b30), (.ref b30)])) (fun _ kz => ?_) ?_
          · show Steps p.tables e below (T32.setTop (mkF m 170 #[.val (.int p1), .val (.int p2), .val (.int p3), .val (.int p4), .val (.int p5), .val (.int p6), .val (.ref c1), .val (.int r2), .val (.int r3), .val (.int r4), .val (.int r5), .unset, .val (.int (p5 &&& (7 : Int32))), .val (.int (((p5 &&& (7 : Int32)) &&& (3 : Int32)) + (1 : Int32)))] [(.ref b31), (.ref b30), (.ref b30)])) _
            refine XS.dup X32.here hx rfl (hb hby at_170) rfl rfl ?_
            show Steps p.tables e below (T32.setTop (mkF m 171 #[.val (.int p1), .val (.int p2), .val (.int p3), .val (.int p4), .val (.int p5), .val (.int p6), .val (.ref c1), .val (.int r2), .val (.int r3), .val (.int r4), .val (.int r5), .unset, .val (.int (p5 &&& (7 : Int32))), .val (.int (((p5 &&& (7 : Int32)) &&& (3 : Int32)) + (1 : Int32)))] [(.ref b31), (.ref b31), (.ref b30), (.ref b30)])) _
            refine XS.iconst X32.here hx rfl (hb hby at_171) ?_
            show Steps p.tables e below (T32.setTop (mkF m 172 #[.val (.int p1), .val (.int p2), .val (.int p3), .val (.int p4), .val (.int p5), .val (.int p6), .val (.ref c1), .val (.int r2), .val (.int r3), .val (.int r4), .val (.int r5), .unset, .val (.int (p5 &&& (7 : Int32))), .val (.int (((p5 &&& (7 : Int32)) &&& (3 : Int32)) + (1 : Int32)))] [(.int (1 : Int32)), (.ref b31), (.ref b31), (.ref b30), (.ref b30)])) _
            refine XS.iload X32.here hx rfl (hb hby at_172) rfl ?_
            exact kz
          obtain ⟨cl33, Ar33, q33, S33, M33, H33, G33⟩ := id Av_b31
          have hin33 : ¬ ((1 : Int32) < 0 ∨ cl33.slots.size ≤ ((1 : Int32)).toNatClampNeg) := inb_of S33 ⟨by decide, by decide⟩
          obtain ⟨T33, h33, X33, e33, W33, st33⟩ := stC X32 hx hZ e32 Ar33 (j := (1 : Int32)) hin33 (g := (mkF m 174 #[.val (.int p1), .val (.int p2), .val (.int p3), .val (.int p4), .val (.int p5), .val (.int p6), .val (.ref c1), .val (.int r2), .val (.int r3), .val (.int r4), .val (.int r5), .unset, .val (.int (p5 &&& (7 : Int32))), .val (.int (((p5 &&& (7 : Int32)) &&& (3 : Int32)) + (1 : Int32)))] [(.int r3), (.int (1 : Int32)), (.ref b31), (.ref b31), (.ref b30), (.ref b30)])) rfl rfl (hb hby at_174)
          have Aw33 := Arv.set Ar33 q33 S33 M33 H33 G33 (fits_nar_char _) W33 1 rfl (Nat.le_of_ble_eq_true rfl)
          replace S_cs := S_cs.wr W33
          replace S_fm := S_fm.wr W33
          replace S_al := S_al.wr W33
          replace Tb := Tb.other W33 ne_al_b31
          replace Ex1 := Ex1.wr W33
          replace Ex_b30 := Ex_b30.wr W33
          replace F_value_b30 := F_value_b30.other W33 (Or.inl ne_b30_b31)
          replace F_coder_b30 := F_coder_b30.other W33 (Or.inl ne_b30_b31)
          have Z33 : n0 ≤ h33.size := Nat.le_trans Z32 (Keep.of_wr W33).1
          replace hk := Nat.le_trans hk (Keep.of_wr W33).1
          have Av_b31 : Arv Z h33 b31 k31 .char (4 : Int32) [(.int (nar .char r2)), (.int (nar .char r3)), (.int (0 : Int32)), (.int (0 : Int32))] (.int (0 : Int32)) := Aw33
          have N33 := Fr.snoc X33 N32 g_b31
          refine own_go (A := T33.setTop (mkF m 175 #[.val (.int p1), .val (.int p2), .val (.int p3), .val (.int p4), .val (.int p5), .val (.int p6), .val (.ref c1), .val (.int r2), .val (.int r3), .val (.int r4), .val (.int r5), .unset, .val (.int (p5 &&& (7 : Int32))), .val (.int (((p5 &&& (7 : Int32)) &&& (3 : Int32)) + (1 : Int32)))] [(.ref b31), (.ref b30), (.ref b30)])) (fun _ kz => st33 _ kz) ?_
          refine own_go (A := T33.setTop (mkF m 179 #[.val (.int p1), .val (.int p2), .val (.int p3), .val (.int p4), .val (.int p5), .val (.int p6), .val (.ref c1), .val (.int r2), .val (.int r3), .val (.int r4), .val (.int r5), .unset, .val (.int (p5 &&& (7 : Int32))), .val (.int (((p5 &&& (7 : Int32)) &&& (3 : Int32)) + (1 : Int32)))] [(.int r4), (.int (2 : Int32)), (.ref b31), (.ref b31), (.ref b30), (.ref b30)])) (fun _ kz => ?_) ?_
          · show Steps p.tables e below (T33.setTop (mkF m 175 #[.val (.int p1), .val (.int p2), .val (.int p3), .val (.int p4), .val (.int p5), .val (.int p6), .val (.ref c1), .val (.int r2), .val (.int r3), .val (.int r4), .val (.int r5), .unset, .val (.int (p5 &&& (7 : Int32))), .val (.int (((p5 &&& (7 : Int32)) &&& (3 : Int32)) + (1 : Int32)))] [(.ref b31), (.ref b30), (.ref b30)])) _
            refine XS.dup X33.here hx rfl (hb hby at_175) rfl rfl ?_
            show Steps p.tables e below (T33.setTop (mkF m 176 #[.val (.int p1), .val (.int p2), .val (.int p3), .val (.int p4), .val (.int p5), .val (.int p6), .val (.ref c1), .val (.int r2), .val (.int r3), .val (.int r4), .val (.int r5), .unset, .val (.int (p5 &&& (7 : Int32))), .val (.int (((p5 &&& (7 : Int32)) &&& (3 : Int32)) + (1 : Int32)))] [(.ref b31), (.ref b31), (.ref b30), (.ref b30)])) _
            refine XS.iconst X33.here hx rfl (hb hby at_176) ?_
            show Steps p.tables e below (T33.setTop (mkF m 177 #[.val (.int p1), .val (.int p2), .val (.int p3), .val (.int p4), .val (.int p5), .val (.int p6), .val (.ref c1), .val (.int r2), .val (.int r3), .val (.int r4), .val (.int r5), .unset, .val (.int (p5 &&& (7 : Int32))), .val (.int (((p5 &&& (7 : Int32)) &&& (3 : Int32)) + (1 : Int32)))] [(.int (2 : Int32)), (.ref b31), (.ref b31), (.ref b30), (.ref b30)])) _
            refine XS.iload X33.here hx rfl (hb hby at_177) rfl ?_
            exact kz
          obtain ⟨cl34, Ar34, q34, S34, M34, H34, G34⟩ := id Av_b31
          have hin34 : ¬ ((2 : Int32) < 0 ∨ cl34.slots.size ≤ ((2 : Int32)).toNatClampNeg) := inb_of S34 ⟨by decide, by decide⟩
          obtain ⟨T34, h34, X34, e34, W34, st34⟩ := stC X33 hx hZ e33 Ar34 (j := (2 : Int32)) hin34 (g := (mkF m 179 #[.val (.int p1), .val (.int p2), .val (.int p3), .val (.int p4), .val (.int p5), .val (.int p6), .val (.ref c1), .val (.int r2), .val (.int r3), .val (.int r4), .val (.int r5), .unset, .val (.int (p5 &&& (7 : Int32))), .val (.int (((p5 &&& (7 : Int32)) &&& (3 : Int32)) + (1 : Int32)))] [(.int r4), (.int (2 : Int32)), (.ref b31), (.ref b31), (.ref b30), (.ref b30)])) rfl rfl (hb hby at_179)
          have Aw34 := Arv.set Ar34 q34 S34 M34 H34 G34 (fits_nar_char _) W34 2 rfl (Nat.le_of_ble_eq_true rfl)
          replace S_cs := S_cs.wr W34
          replace S_fm := S_fm.wr W34
          replace S_al := S_al.wr W34
          replace Tb := Tb.other W34 ne_al_b31
          replace Ex1 := Ex1.wr W34
          replace Ex_b30 := Ex_b30.wr W34
          replace F_value_b30 := F_value_b30.other W34 (Or.inl ne_b30_b31)
          replace F_coder_b30 := F_coder_b30.other W34 (Or.inl ne_b30_b31)
          have Z34 : n0 ≤ h34.size := Nat.le_trans Z33 (Keep.of_wr W34).1
          replace hk := Nat.le_trans hk (Keep.of_wr W34).1
          have Av_b31 : Arv Z h34 b31 k31 .char (4 : Int32) [(.int (nar .char r2)), (.int (nar .char r3)), (.int (nar .char r4)), (.int (0 : Int32))] (.int (0 : Int32)) := Aw34
          have N34 := Fr.snoc X34 N33 g_b31
          refine own_go (A := T34.setTop (mkF m 180 #[.val (.int p1), .val (.int p2), .val (.int p3), .val (.int p4), .val (.int p5), .val (.int p6), .val (.ref c1), .val (.int r2), .val (.int r3), .val (.int r4), .val (.int r5), .unset, .val (.int (p5 &&& (7 : Int32))), .val (.int (((p5 &&& (7 : Int32)) &&& (3 : Int32)) + (1 : Int32)))] [(.ref b31), (.ref b30), (.ref b30)])) (fun _ kz => st34 _ kz) ?_
          refine own_go (A := T34.setTop (mkF m 184 #[.val (.int p1), .val (.int p2), .val (.int p3), .val (.int p4), .val (.int p5), .val (.int p6), .val (.ref c1), .val (.int r2), .val (.int r3), .val (.int r4), .val (.int r5), .unset, .val (.int (p5 &&& (7 : Int32))), .val (.int (((p5 &&& (7 : Int32)) &&& (3 : Int32)) + (1 : Int32)))] [(.int r5), (.int (3 : Int32)), (.ref b31), (.ref b31), (.ref b30), (.ref b30)])) (fun _ kz => ?_) ?_
          · show Steps p.tables e below (T34.setTop (mkF m 180 #[.val (.int p1), .val (.int p2), .val (.int p3), .val (.int p4), .val (.int p5), .val (.int p6), .val (.ref c1), .val (.int r2), .val (.int r3), .val (.int r4), .val (.int r5), .unset, .val (.int (p5 &&& (7 : Int32))), .val (.int (((p5 &&& (7 : Int32)) &&& (3 : Int32)) + (1 : Int32)))] [(.ref b31), (.ref b30), (.ref b30)])) _
            refine XS.dup X34.here hx rfl (hb hby at_180) rfl rfl ?_
            show Steps p.tables e below (T34.setTop (mkF m 181 #[.val (.int p1), .val (.int p2), .val (.int p3), .val (.int p4), .val (.int p5), .val (.int p6), .val (.ref c1), .val (.int r2), .val (.int r3), .val (.int r4), .val (.int r5), .unset, .val (.int (p5 &&& (7 : Int32))), .val (.int (((p5 &&& (7 : Int32)) &&& (3 : Int32)) + (1 : Int32)))] [(.ref b31), (.ref b31), (.ref b30), (.ref b30)])) _
            refine XS.iconst X34.here hx rfl (hb hby at_181) ?_
            show Steps p.tables e below (T34.setTop (mkF m 182 #[.val (.int p1), .val (.int p2), .val (.int p3), .val (.int p4), .val (.int p5), .val (.int p6), .val (.ref c1), .val (.int r2), .val (.int r3), .val (.int r4), .val (.int r5), .unset, .val (.int (p5 &&& (7 : Int32))), .val (.int (((p5 &&& (7 : Int32)) &&& (3 : Int32)) + (1 : Int32)))] [(.int (3 : Int32)), (.ref b31), (.ref b31), (.ref b30), (.ref b30)])) _
            refine XS.iload X34.here hx rfl (hb hby at_182) rfl ?_
            exact kz
          obtain ⟨cl35, Ar35, q35, S35, M35, H35, G35⟩ := id Av_b31
          have hin35 : ¬ ((3 : Int32) < 0 ∨ cl35.slots.size ≤ ((3 : Int32)).toNatClampNeg) := inb_of S35 ⟨by decide, by decide⟩
          obtain ⟨T35, h35, X35, e35, W35, st35⟩ := stC X34 hx hZ e34 Ar35 (j := (3 : Int32)) hin35 (g := (mkF m 184 #[.val (.int p1), .val (.int p2), .val (.int p3), .val (.int p4), .val (.int p5), .val (.int p6), .val (.ref c1), .val (.int r2), .val (.int r3), .val (.int r4), .val (.int r5), .unset, .val (.int (p5 &&& (7 : Int32))), .val (.int (((p5 &&& (7 : Int32)) &&& (3 : Int32)) + (1 : Int32)))] [(.int r5), (.int (3 : Int32)), (.ref b31), (.ref b31), (.ref b30), (.ref b30)])) rfl rfl (hb hby at_184)
          have Aw35 := Arv.set Ar35 q35 S35 M35 H35 G35 (fits_nar_char _) W35 3 rfl (Nat.le_of_ble_eq_true rfl)
          replace S_cs := S_cs.wr W35
          replace S_fm := S_fm.wr W35
          replace S_al := S_al.wr W35
          replace Tb := Tb.other W35 ne_al_b31
          replace Ex1 := Ex1.wr W35
          replace Ex_b30 := Ex_b30.wr W35
          replace F_value_b30 := F_value_b30.other W35 (Or.inl ne_b30_b31)
          replace F_coder_b30 := F_coder_b30.other W35 (Or.inl ne_b30_b31)
          have Z35 : n0 ≤ h35.size := Nat.le_trans Z34 (Keep.of_wr W35).1
          replace hk := Nat.le_trans hk (Keep.of_wr W35).1
          have Av_b31 : Arv Z h35 b31 k31 .char (4 : Int32) [(.int (nar .char r2)), (.int (nar .char r3)), (.int (nar .char r4)), (.int (nar .char r5))] (.int (0 : Int32)) := Aw35
          have N35 := Fr.snoc X35 N34 g_b31
          refine own_go (A := T35.setTop (mkF m 185 #[.val (.int p1), .val (.int p2), .val (.int p3), .val (.int p4), .val (.int p5), .val (.int p6), .val (.ref c1), .val (.int r2), .val (.int r3), .val (.int r4), .val (.int r5), .unset, .val (.int (p5 &&& (7 : Int32))), .val (.int (((p5 &&& (7 : Int32)) &&& (3 : Int32)) + (1 : Int32)))] [(.ref b31), (.ref b30), (.ref b30)])) (fun _ kz => st35 _ kz) ?_
          have hok : ∀ c ∈ ([(nar .char r2), (nar .char r3), (nar .char r4), (nar .char r5)] : List Int32), own_ok c = true := by
            intro c hc
            simp only [List.mem_cons, List.not_mem_nil, or_false] at hc
            rcases hc with rfl | rfl | rfl | rfl
            · exact own_okn ok_r2
            · exact own_okn ok_r3
            · exact own_okn ok_r4
            · exact own_okn ok_r5
          have hp : ∀ c ∈ ([(nar .char r2), (nar .char r3), (nar .char r4), (nar .char r5)] : List Int32), ¬ c < 0 ∧ ¬ (255 : Int32) < c := fun c hc => own_ok255 (hok c hc)
          have hcd : StrChars.Road.CodA ([(nar .char r2), (nar .char r3), (nar .char r4), (nar .char r5)] : List Int32) 0 (4 : Int32) (((([(nar .char r2), (nar .char r3), (nar .char r4), (nar .char r5)] : List Int32)).map (fun c => c.toInt8.toInt32)).map Value.int) := StrChars.Road.codOf (n := 4) rfl (fun c hc => (hp c hc).2)
          obtain ⟨_, _, ⟨T36, L36, k36, n36⟩, -, X36, ⟨Lc36, hQ36, l36, y36, z36⟩, st36⟩ := X35.specialBack hx (y := (⟨"java/lang/String", "<init>", "([C)V"⟩ : MethodName)) rfl hown (mvT hZ (hw _ (List.mem_of_getElem? (i := 33) rfl))) (mvT hZ (hw _ (List.mem_of_getElem? (i := 34) rfl))) (mvT hZ (hw _ (List.mem_of_getElem? (i := 35) rfl))) (by decide) (StrChars.Road.backV (W := 1) hZ hws (kI := 4) (hw _ (List.mem_of_getElem? (i := 10) rfl)) (cs := ([(nar .char r2), (nar .char r3), (nar .char r4), (nar .char r5)] : List Int32)) (bs := (([(nar .char r2), (nar .char r3), (nar .char r4), (nar .char r5)] : List Int32)).map (fun c => c.toInt8.toInt32)) (n := 4) g_b30 Z35 Ex_b30 F_value_b30 F_coder_b30 Av_b31 S_cs hcs rfl rfl (by decide) (by decide) hp rfl (by decide) (by decide)) (g := (mkF m 185 #[.val (.int p1), .val (.int p2), .val (.int p3), .val (.int p4), .val (.int p5), .val (.int p6), .val (.ref c1), .val (.int r2), .val (.int r3), .val (.int r4), .val (.int r5), .unset, .val (.int (p5 &&& (7 : Int32))), .val (.int (((p5 &&& (7 : Int32)) &&& (3 : Int32)) + (1 : Int32)))] [(.ref b31), (.ref b30), (.ref b30)])) rfl (by rw [hml]; rfl) (Steps.refl _) (a := b30) (argsL := [(.ref b31)]) (rest := [(.ref b30)]) (lenOf own_pd8 rfl) rfl (by show 2 * 0 + _ ≤ _; exact Nat.le_of_eq rfl) (hb hby at_185) (fun _ _ => ⟨rfl, e35, (by decide : 4 + 1 ≤ _), (by decide : 13 + 4 ≤ _)⟩)
          dsimp only [Pt.U, Pt.locs, Pt.cells, Pt.slots] at X36 l36 y36 z36 st36 hQ36
          subst l36 y36 z36
          obtain ⟨rfl, N36q, K36q, _, Fc36, t36, kb36, u136, u236, u336, Fv36, Ab36⟩ := hQ36
          have N36 := Fr.app N35 N36q
          replace S_cs := own_staKeep S_cs K36q (allS (own_ns Ex_b30) all0)
          replace S_fm := own_staKeep S_fm K36q (allS (own_ns Ex_b30) all0)
          replace S_al := own_staKeep S_al K36q (allS (own_ns Ex_b30) all0)
          replace Tb := Tb.keep K36q (ninS ne_al_b30 nin0)
          replace Ex1 := Ex1.keep K36q
          replace Ex_b30 := Ex_b30.keep K36q
          replace Av_b31 := Av_b31.keep K36q (ninS (Ne.symm ne_b30_b31) nin0)
          have Z36 : n0 ≤ T36.heap.size := Nat.le_trans Z35 K36q.1
          replace hk := Nat.le_trans hk K36q.1
          refine own_go (A := T36.setTop (mkF m 188 #[.val (.int p1), .val (.int p2), .val (.int p3), .val (.int p4), .val (.int p5), .val (.int p6), .val (.ref c1), .val (.int r2), .val (.int r3), .val (.int r4), .val (.int r5), .unset, .val (.int (p5 &&& (7 : Int32))), .val (.int (((p5 &&& (7 : Int32)) &&& (3 : Int32)) + (1 : Int32)))] [(.ref b30)])) (fun _ kz => st36.trans kz) ?_
          refine own_go (A := T36.setTop (mkF m 194 #[.val (.int p1), .val (.int p2), .val (.int p3), .val (.int p4), .val (.int p5), .val (.int p6), .val (.ref c1), .val (.int r2), .val (.int r3), .val (.int r4), .val (.int r5), .val (.ref b30), .val (.int (p5 &&& (7 : Int32))), .val (.int (((p5 &&& (7 : Int32)) &&& (3 : Int32)) + (1 : Int32)))] [(.ref b30), (.ref c1)])) (fun _ kz => ?_) ?_
          · show Steps p.tables e below (T36.setTop (mkF m 188 #[.val (.int p1), .val (.int p2), .val (.int p3), .val (.int p4), .val (.int p5), .val (.int p6), .val (.ref c1), .val (.int r2), .val (.int r3), .val (.int r4), .val (.int r5), .unset, .val (.int (p5 &&& (7 : Int32))), .val (.int (((p5 &&& (7 : Int32)) &&& (3 : Int32)) + (1 : Int32)))] [(.ref b30)])) _
            refine XS.astore X36.here hx rfl (hb hby at_188) rfl rfl (l' := #[.val (.int p1), .val (.int p2), .val (.int p3), .val (.int p4), .val (.int p5), .val (.int p6), .val (.ref c1), .val (.int r2), .val (.int r3), .val (.int r4), .val (.int r5), .val (.ref b30), .val (.int (p5 &&& (7 : Int32))), .val (.int (((p5 &&& (7 : Int32)) &&& (3 : Int32)) + (1 : Int32)))]) rfl ?_
            show Steps p.tables e below (T36.setTop (mkF m 190 #[.val (.int p1), .val (.int p2), .val (.int p3), .val (.int p4), .val (.int p5), .val (.int p6), .val (.ref c1), .val (.int r2), .val (.int r3), .val (.int r4), .val (.int r5), .val (.ref b30), .val (.int (p5 &&& (7 : Int32))), .val (.int (((p5 &&& (7 : Int32)) &&& (3 : Int32)) + (1 : Int32)))] [])) _
            refine XS.aload X36.here hx rfl (hb hby at_190) rfl rfl ?_
            show Steps p.tables e below (T36.setTop (mkF m 192 #[.val (.int p1), .val (.int p2), .val (.int p3), .val (.int p4), .val (.int p5), .val (.int p6), .val (.ref c1), .val (.int r2), .val (.int r3), .val (.int r4), .val (.int r5), .val (.ref b30), .val (.int (p5 &&& (7 : Int32))), .val (.int (((p5 &&& (7 : Int32)) &&& (3 : Int32)) + (1 : Int32)))] [(.ref c1)])) _
            refine XS.aload X36.here hx rfl (hb hby at_192) rfl rfl ?_
            exact kz
          obtain ⟨_, _, ⟨T37, L37, k37, n37⟩, -, X37, ⟨Lc37, hQ37, l37, y37, z37⟩, st37⟩ := Jvm.LawKit.callS X36 hx (y := (⟨"com/example/quartermaster/quartermaster/Names", "require", "(Ljava/lang/String;Ljava/lang/String;)Ljava/lang/String;"⟩ : MethodName)) hown (mvT hZ (hw _ (List.mem_of_getElem? (i := 49) rfl))) (mvT hZ (hw _ (List.mem_of_getElem? (i := 50) rfl))) (mvT hZ (hw _ (List.mem_of_getElem? (i := 51) rfl))) (mvT hZ (hw _ (List.mem_of_getElem? (i := 52) rfl))) (by decide) (backOf (W := 0) (rmRq l Z a0 hw [] c1 b30 t36 kb36 ([(nar .char r2), (nar .char r3), (nar .char r4), (nar .char r5)] : List Int32) (4 : Int32) (((([(nar .char r2), (nar .char r3), (nar .char r4), (nar .char r5)] : List Int32)).map (fun c => c.toInt8.toInt32)).map Value.int) cs fm al kt vt T36.heap n0 Z36 Ex_b30 Fv36 Fc36 Ab36 hcd (own_up _ hp) (Nat.le_of_ble_eq_true rfl) (Nat.le_of_ble_eq_true rfl) hok hcs S_cs S_fm rfm S_al Tb hvt) hZ (hw _ (List.mem_of_getElem? (i := 52) rfl)) (hw _ (List.mem_of_getElem? (i := 51) rfl)) (by decide) (by decide)) (g := (mkF m 194 #[.val (.int p1), .val (.int p2), .val (.int p3), .val (.int p4), .val (.int p5), .val (.int p6), .val (.ref c1), .val (.int r2), .val (.int r3), .val (.int r4), .val (.int r5), .val (.ref b30), .val (.int (p5 &&& (7 : Int32))), .val (.int (((p5 &&& (7 : Int32)) &&& (3 : Int32)) + (1 : Int32)))] [(.ref b30), (.ref c1)])) rfl (by rw [hml]; rfl) (argsL := [(.ref c1), (.ref b30)]) (rest := []) (lenOf own_pd7 rfl) rfl (by show 2 * 0 + _ ≤ _; exact Nat.le_of_eq rfl) (hb hby at_194) (fun _ _ => ⟨rfl, rfl, (by decide : 5 + 0 ≤ _), (by decide : 17 + 0 ≤ _)⟩)
          dsimp only [Pt.U, Pt.locs, Pt.cells, Pt.slots] at X37 l37 y37 z37 st37 hQ37
          subst l37 y37 z37
          obtain ⟨rfl, N37q, e37⟩ := hQ37
          have N37 := Fr.app N36 N37q
          refine own_go (A := T37.setTop (mkF m 197 #[.val (.int p1), .val (.int p2), .val (.int p3), .val (.int p4), .val (.int p5), .val (.int p6), .val (.ref c1), .val (.int r2), .val (.int r3), .val (.int r4), .val (.int r5), .val (.ref b30), .val (.int (p5 &&& (7 : Int32))), .val (.int (((p5 &&& (7 : Int32)) &&& (3 : Int32)) + (1 : Int32)))] [(.ref b30)])) (fun _ kz => st37 _ kz) ?_
          refine own_go (A := T37.setTop (mkF m 211 #[.val (.int p1), .val (.int p2), .val (.int p3), .val (.int p4), .val (.int p5), .val (.int p6), .val (.ref c1), .val (.int r2), .val (.int r3), .val (.int r4), .val (.int r5), .val (.ref b30), .val (.int (p5 &&& (7 : Int32))), .val (.ref b30)] [(.int (1 : Int32))])) (fun _ kz => ?_) ?_
          · show Steps p.tables e below (T37.setTop (mkF m 197 #[.val (.int p1), .val (.int p2), .val (.int p3), .val (.int p4), .val (.int p5), .val (.int p6), .val (.ref c1), .val (.int r2), .val (.int r3), .val (.int r4), .val (.int r5), .val (.ref b30), .val (.int (p5 &&& (7 : Int32))), .val (.int (((p5 &&& (7 : Int32)) &&& (3 : Int32)) + (1 : Int32)))] [(.ref b30)])) _
            refine XS.astore X37.here hx rfl (hb hby at_197) rfl rfl (l' := #[.val (.int p1), .val (.int p2), .val (.int p3), .val (.int p4), .val (.int p5), .val (.int p6), .val (.ref c1), .val (.int r2), .val (.int r3), .val (.int r4), .val (.int r5), .val (.ref b30), .val (.int (p5 &&& (7 : Int32))), .val (.ref b30)]) rfl ?_
            show Steps p.tables e below (T37.setTop (mkF m 199 #[.val (.int p1), .val (.int p2), .val (.int p3), .val (.int p4), .val (.int p5), .val (.int p6), .val (.ref c1), .val (.int r2), .val (.int r3), .val (.int r4), .val (.int r5), .val (.ref b30), .val (.int (p5 &&& (7 : Int32))), .val (.ref b30)] [])) _
            refine XS.aload X37.here hx rfl (hb hby at_199) rfl rfl ?_
            show Steps p.tables e below (T37.setTop (mkF m 201 #[.val (.int p1), .val (.int p2), .val (.int p3), .val (.int p4), .val (.int p5), .val (.int p6), .val (.ref c1), .val (.int r2), .val (.int r3), .val (.int r4), .val (.int r5), .val (.ref b30), .val (.int (p5 &&& (7 : Int32))), .val (.ref b30)] [(.ref b30)])) _
            refine XS.aload X37.here hx rfl (hb hby at_201) rfl rfl ?_
            show Steps p.tables e below (T37.setTop (mkF m 203 #[.val (.int p1), .val (.int p2), .val (.int p3), .val (.int p4), .val (.int p5), .val (.int p6), .val (.ref c1), .val (.int r2), .val (.int r3), .val (.int r4), .val (.int r5), .val (.ref b30), .val (.int (p5 &&& (7 : Int32))), .val (.ref b30)] [(.ref b30), (.ref b30)])) _
            refine Jvm.RoadKit.acmp (g := (mkF m 203 #[.val (.int p1), .val (.int p2), .val (.int p3), .val (.int p4), .val (.int p5), .val (.int p6), .val (.ref c1), .val (.int r2), .val (.int r3), .val (.int r4), .val (.int r5), .val (.ref b30), .val (.int (p5 &&& (7 : Int32))), .val (.ref b30)] [(.ref b30), (.ref b30)])) X37 hx rfl rfl rfl (pc0 := 203) (pc' := 206) (same := true) rfl (hb hby at_203) rfl (decide_eq_true rfl) (by decide) (by decide) ?_
            show Steps p.tables e below (T37.setTop (mkF m 206 #[.val (.int p1), .val (.int p2), .val (.int p3), .val (.int p4), .val (.int p5), .val (.int p6), .val (.ref c1), .val (.int r2), .val (.int r3), .val (.int r4), .val (.int r5), .val (.ref b30), .val (.int (p5 &&& (7 : Int32))), .val (.ref b30)] [])) _
            refine XS.iconst X37.here hx rfl (hb hby at_206) ?_
            show Steps p.tables e below (T37.setTop (mkF m 207 #[.val (.int p1), .val (.int p2), .val (.int p3), .val (.int p4), .val (.int p5), .val (.int p6), .val (.ref c1), .val (.int r2), .val (.int r3), .val (.int r4), .val (.int r5), .val (.ref b30), .val (.int (p5 &&& (7 : Int32))), .val (.ref b30)] [(.int (1 : Int32))])) _
            refine XS.goto X37.here hx rfl (pc0 := 207) (pc' := 211) rfl (hb hby at_207) (by decide) (by decide) ?_
            exact kz
          obtain ⟨fs, hrr, hrun, hended, rW1, rW2, rW3, rW4⟩ := X37.leaveW hS (by rw [e37]; exact hk) (v := some (.int (1 : Int32))) (fun h => by rw [Bd.returns] at h; cases h)
          refine ⟨_, _, ?_, hrun, hended, _, _, rfl, ?_, rW1, rW2, rW3, rW4.mono (by decide) (by decide)⟩
          · show Steps p.tables e below (T37.setTop (mkF m 211 #[.val (.int p1), .val (.int p2), .val (.int p3), .val (.int p4), .val (.int p5), .val (.int p6), .val (.ref c1), .val (.int r2), .val (.int r3), .val (.int r4), .val (.int r5), .val (.ref b30), .val (.int (p5 &&& (7 : Int32))), .val (.ref b30)] [(.int (1 : Int32))])) _
            exact retN X37 hx (t := .boolean) Bd.returns (by simp) (hb hby at_211) hrr
          · show Qrm0 Z  h0 n0 _ T37.heap _
            rw [e37]
            exact ⟨rfl, N37⟩
set_option maxRecDepth 65536 in
set_option maxHeartbeats 40000000 in
theorem comes_1 {Post : Tables → Env → Array Value → State → Outcome → State → Prop} (hpost : ∀ tb e args s v u, (limb_1_1.after args s (.returned v) u = true ∧ limb_1_2.after args s (.returned v) u = true ∧ True) → ReturnedEndW s (.returned v) u (Jvm.fieldLocs frame_1_writes args s ++ Jvm.arrayLocs frame_1_arrays args s ++ Jvm.staticLocs frame_1_statics s) 24 1152 → Post tb e args s (.returned v) u) :
    ArmFor flags0 classFile x code maxLocals ret World_1 tables_1 room_1 Calls_1 rest_1 Pre_1 Post := by
  intro l hfl _ _ p e ha hc hk s m args below hf hA hF happ hP
  obtain ⟨hcalls, hrest, hpre⟩ := hP
  obtain ⟨-, -, -, hnamed, -, -, -, hat⟩ := (Spec.applies_iff hf).mp happ
  obtain ⟨hg, hn⟩ := and_e (Cond.before_iff.mp (show (Jvm.Cond.and given_1 narrow_1).before args s = true from hpre))
  obtain ⟨hcnt, hg1⟩ := and_e hg
  obtain ⟨ha0, hg2⟩ := and_e hg1
  obtain ⟨ha1, hg3⟩ := and_e hg2
  obtain ⟨ha2, hg4⟩ := and_e hg3
  obtain ⟨ha3, hg5⟩ := and_e hg4
  obtain ⟨ha4, hg6⟩ := and_e hg5
  obtain ⟨w0, w1, w2, w3, w4, w5, rfl⟩ : ∃ w0 w1 w2 w3 w4 w5 : Value, args = #[w0, w1, w2, w3, w4, w5] := by
    have hs : args.size = 6 := by simpa [Cond.value, given_1] using hcnt
    obtain ⟨L⟩ := args
    match L, hs with
    | [w0, w1, w2, w3, w4, w5], _ => exact ⟨w0, w1, w2, w3, w4, w5, rfl⟩
  have hw := fun d (hd : d ∈ tables_1) => atoms_spec (ws := Jvm.Cond.code x code maxLocals ret :: tables_1) hat d (List.mem_cons_of_mem _ hd)
  have hfit : Fit s := fun {y c} hc i hi => by
    obtain ⟨ha, rfl⟩ := Array.getElem?_eq_some_iff.mp hc
    have q := List.all_eq_true.mp ((Array.all_eq_true_iff_forall_mem.mp hF) _ (Array.getElem_mem ha)) i (List.mem_range.mpr hi)
    simpa [Array.getElem?_eq_getElem hi] using q
  obtain ⟨i0, ei0⟩ := is_v ha0
  obtain rfl : w0 = (.int i0) := Option.some.inj ei0
  obtain ⟨i1, ei1⟩ := is_v ha1
  obtain rfl : w1 = (.int i1) := Option.some.inj ei1
  obtain ⟨i2, ei2⟩ := is_v ha2
  obtain rfl : w2 = (.int i2) := Option.some.inj ei2
  obtain ⟨i3, ei3⟩ := is_v ha3
  obtain rfl : w3 = (.int i3) := Option.some.inj ei3
  obtain ⟨i4, ei4⟩ := is_v ha4
  obtain rfl : w4 = (.int i4) := Option.some.inj ei4
  obtain ⟨i5, ei5⟩ := is_v hg6
  obtain rfl : w5 = (.int i5) := Option.some.inj ei5
  obtain ⟨nw0, nw_0⟩ := and_e hn
  obtain ⟨nw1, nw_1⟩ := and_e nw_0
  obtain ⟨nw2, nw_2⟩ := and_e nw_1
  obtain ⟨nw3, nw_3⟩ := and_e nw_2
  obtain ⟨nw4, nw_4⟩ := and_e nw_3
  obtain ⟨nw5, nw_5⟩ := and_e nw_4
  obtain ⟨nw6, nw_6⟩ := and_e nw_5
  obtain ⟨nw7, nw_7⟩ := and_e nw_6
  obtain ⟨nw8, nw_8⟩ := and_e nw_7
  obtain ⟨nw9, nw_9⟩ := and_e nw_8
  have nw10 := nw_9
  obtain ⟨hsets, hown0⟩ := atoms_of _ (rest_1_c_eq ▸ (show rest_1_c.before _ s = true from hrest))
  have hcw : Jvm.Lit.compactW.before _ s = true := hsets _ (List.mem_of_getElem? (i := 2) rfl)
  have n3 := not_v (Cond.before_iff.mp (hsets _ (List.mem_of_getElem? (i := 2) rfl)))
  obtain ⟨cs, ecs⟩ := is_v (Cond.before_iff.mp (hsets _ (List.mem_of_getElem? (i := 1) rfl)))
  have S_cs : Sta s s.heap "java/lang/String" "COMPACT_STRINGS" "Z" (.int cs) := Sta.start ecs (Or.inl (hsets _ (List.mem_of_getElem? (i := 0) rfl)))
  have hcs : ¬ (cs = (0 : Int32)) := gotF (Cond.eq_ints ecs (Term.int_eval (0))) n3
  obtain ⟨fm, efm, rfm⟩ := isR_v (Cond.before_iff.mp (hsets _ (List.mem_of_getElem? (i := 8) rfl)))
  have S_fm : Sta s s.heap "jdk/internal/util/Preconditions" "SIOOBE_FORMATTER" "Ljava/util/function/BiFunction;" fm := Sta.start efm (Or.inl (hsets _ (List.mem_of_getElem? (i := 7) rfl)))
  obtain ⟨al, kt, vt, S_al, Tb, hvt⟩ := own_tabStart hfit nw0 nw1 nw2 nw3 nw4 nw5 nw6 nw7 nw8 nw9 nw10 (hw _ (List.mem_of_getElem? (i := 51) rfl)) (hw _ (List.mem_of_getElem? (i := 88) rfl))
  have hheld : ∀ q ∈ consts_1, Jvm.Lit.constHeld s q.1 q.2 := fun q hq => hcalls.1 q hq
  obtain ⟨n, o, h1, h2, h3, _, L, rfl, ⟨rfl, N⟩, hq⟩ := rm0 l s _ hw tables_1 i0 i1 i2 i3 i4 i5 cs fm al kt vt s.heap s.heap.size (Nat.le_refl _) rfl ⟨Nat.le_refl _, fun _ _ q => q⟩ hheld hcw hcs S_cs S_fm rfm S_al Tb hvt p e ha hc hk s m _ below hf ((Spec.applies_iff_loose hf).mp happ).1 ⟨rfl, State.Warmed39.refl s, rfl, IB.start⟩ trivial
  refine ⟨n, _, h1, h2, h3, hpost _ _ _ _ _ _ ⟨Cond.after_iff.mpr rfl, Cond.after_iff.mpr (eq_i res_at (Term.int_eval (1)) rfl), trivial⟩ ⟨hq.1, hq.2.1, hq.2.2.1, (hq.2.2.2.sift fun y hy => Or.inr (N y hy)).mono (by decide) (by decide)⟩⟩
theorem main_1_1 : Claimed_1_1 := comes_1 fun _ _ _ _ _ _ h hF => ⟨h.1, hF⟩
theorem main_1_2 : Claimed_1_2 := comes_1 fun _ _ _ _ _ _ h hF => ⟨h.2.1, hF⟩
end Jvm.Pilot.@@N@@
namespace Jvm.Pilot.@@N@@
open Jvm Jvm.ClassFile Sem Op Lib Jvm.Free Jvm.Stand Jvm.Pilot.@@N@@.Jvm.D
/-! MADE BY PROGRAM (witnessworld.py) out of the Statement's table words and the real class files: 22 classes; the members and pool entries that the words name. The judged class is class 1, her method 2. -/
namespace start1
open Jvm.ClassFile
def u (s : String) : CpInfo := .utf8 (stringToUtf16 s)
/-- a pool by its gaps: so many unusable entries, then the entry; so many at the end -/
def gap : Nat → List CpInfo → List CpInfo
  | 0, r => r
  | n + 1, r => .unusable :: gap n r
def poolList (es : List (Nat × CpInfo)) (last : Nat) : List CpInfo := es.foldr (fun e r => gap e.1 (e.2 :: r)) (gap last [])
def pool (es : List (Nat × CpInfo)) (last : Nat) : Array CpInfo := ⟨poolList es last⟩
def fileOf (pool : Array CpInfo) (this : Nat) (attrs : Array Attribute := #[]) (ms : Array MethodInfo := #[]) (fl : Nat := 33) (sup : Nat := 0) (ifs : Array Nat := #[]) (fds : Array FieldInfo := #[]) : ClassFile where
  minorVersion := 0
  majorVersion := 65
  constantPool := pool
  accessFlags := fl
  thisClass := this
  superClass := sup
  interfaces := ifs
  fields := fds
  methods := ms
  attributes := attrs
def plain (name : String) (sup : Option ClassId) : Class where
  name := name
  kind := .ordinary
  loader := none
  accessFlags := 33
  super := sup
  interfaces := #[]
  cf := none
  fields := #[]
  methods := #[]
  instanceTypes := #[]
  staticTypes := #[]
  resolved := #[]
  callSites := []
  init := .initialized
  statics := none
  mirror := none

def pool0 : Array CpInfo := pool [(5, u "<init>"), (0, u "()V"), (1, .class_ 10), (1, u "java/lang/Object")] 113

def k0c0 : Code := { maxStack := 0, maxLocals := 1, code := object_method_1_code, exceptionTable := #[], attributes := #[] }
def k0m0 : Method := { name := "<init>", desc := "()V", sig := { parameters := [], returnType := none }, accessFlags := 1, code := some k0c0 }
/-- java/lang/Object -/
def k0 : Class := { plain "java/lang/Object" none with
  accessFlags := 33
  interfaces := #[]
  cf := some (fileOf pool0 8 #[] #[{ accessFlags := 1, nameIndex := 5, descriptorIndex := 6, attributes := #[] }] 33 0 #[] #[])
  fields := #[]
  methods := #[k0m0]
  instanceTypes := #[]
  staticTypes := #[]
  resolved := Array.replicate 124 none
  statics := none }

def pool1 : Array CpInfo := pool [(2, .class_ 4), (1, u "java/lang/Object"), (0, u "<init>"), (0, u "()V"), (0, .integer 2147483647), (0, .methodref 9 10), (0, .class_ 11), (0, .nameAndType 12 13), (0, u "java/lang/String"), (0, u "valueOf"), (0, u "(C)Ljava/lang/String;"), (0, .methodref 15 16), (0, .class_ 17), (0, .nameAndType 18 19), (0, u "com/example/quartermaster/quartermaster/NamesRequirePinLaw"), (0, u "pick"), (0, u "(I)C"), (0, .string 21), (0, u "ABCDEFGHIJKLMNOPQRSTUVWXYZabcdefghijklmnopqrstuvwxyz0123456789_.:/-ABCDEFGHIJKLMNOPQRSTUVWXYZabcdefghijklmnopqrstuvwxyz012345678"), (0, .methodref 9 23), (0, .nameAndType 5 24), (0, u "([C)V"), (0, .methodref 26 27), (0, .class_ 28), (0, .nameAndType 29 30), (0, u "com/example/quartermaster/quartermaster/Names"), (0, u "require"), (0, u "(Ljava/lang/String;Ljava/lang/String;)Ljava/lang/String;"), (3, u "law"), (0, u "(IIIIII)Z")] 2

def k1m0 : Method := { name := "<init>", desc := "()V", sig := { parameters := [], returnType := none }, accessFlags := 2, code := none }
def k1c1 : Code := { maxStack := 3, maxLocals := 2, code := method_2_code, exceptionTable := #[], attributes := #[] }
def k1m1 : Method := { name := "pick", desc := "(I)C", sig := { parameters := [.int], returnType := some .char }, accessFlags := 10, code := some k1c1 }
def k1c2 : Code := { maxStack := 6, maxLocals := 14, code := code, exceptionTable := #[], attributes := #[] }
def k1m2 : Method := { name := "law", desc := "(IIIIII)Z", sig := { parameters := [.int, .int, .int, .int, .int, .int], returnType := some .boolean }, accessFlags := 9, code := some k1c2 }
/-- com/example/quartermaster/quartermaster/NamesRequirePinLaw -/
def k1 : Class := { plain "com/example/quartermaster/quartermaster/NamesRequirePinLaw" (some 0) with
  accessFlags := 49
  interfaces := #[]
  cf := some (fileOf pool1 15 #[] #[{ accessFlags := 2, nameIndex := 5, descriptorIndex := 6, attributes := #[] }, { accessFlags := 10, nameIndex := 18, descriptorIndex := 19, attributes := #[] }, { accessFlags := 9, nameIndex := 34, descriptorIndex := 35, attributes := #[] }] 49 2 #[] #[])
  fields := #[]
  methods := #[k1m0, k1m1, k1m2]
  instanceTypes := #[]
  staticTypes := #[]
  resolved := Array.replicate 38 none
  statics := none }

def pool2 : Array CpInfo := pool [(1, .class_ 2), (0, u "java/io/Serializable"), (0, .class_ 4), (0, u "java/lang/Object")] 2

/-- java/io/Serializable -/
def k2 : Class := { plain "java/io/Serializable" (some 0) with
  accessFlags := 1537
  interfaces := #[]
  cf := some (fileOf pool2 1 #[] #[] 1537 3 #[] #[])
  fields := #[]
  methods := #[]
  instanceTypes := #[]
  staticTypes := #[]
  resolved := Array.replicate 7 none
  statics := none }

def pool3 : Array CpInfo := pool [(1, .class_ 2), (0, u "java/lang/Comparable"), (0, .class_ 4), (0, u "java/lang/Object")] 7

/-- java/lang/Comparable -/
def k3 : Class := { plain "java/lang/Comparable" (some 0) with
  accessFlags := 1537
  interfaces := #[]
  cf := some (fileOf pool3 1 #[] #[] 1537 3 #[] #[])
  fields := #[]
  methods := #[]
  instanceTypes := #[]
  staticTypes := #[]
  resolved := Array.replicate 12 none
  statics := none }

def pool4 : Array CpInfo := pool [(2, .class_ 4), (1, u "java/lang/CharSequence"), (42, .class_ 48), (0, u "java/lang/CharSequence$1CodePointIterator"), (10, .class_ 60), (0, u "java/lang/CharSequence$1CharIterator"), (5, .class_ 67), (0, u "java/lang/Object")] 63

/-- java/lang/CharSequence -/
def k4 : Class := { plain "java/lang/CharSequence" (some 0) with
  accessFlags := 1537
  interfaces := #[]
  cf := some (fileOf pool4 2 #[.nestMembers #[47, 59]] #[] 1537 66 #[] #[])
  fields := #[]
  methods := #[]
  instanceTypes := #[]
  staticTypes := #[]
  resolved := Array.replicate 131 none
  statics := none }

def pool5 : Array CpInfo := pool [(1, .class_ 2), (0, u "java/lang/constant/Constable"), (0, .class_ 4), (0, u "java/lang/Object")] 6

/-- java/lang/constant/Constable -/
def k5 : Class := { plain "java/lang/constant/Constable" (some 0) with
  accessFlags := 1537
  interfaces := #[]
  cf := some (fileOf pool5 1 #[] #[] 1537 3 #[] #[])
  fields := #[]
  methods := #[]
  instanceTypes := #[]
  staticTypes := #[]
  resolved := Array.replicate 11 none
  statics := none }

def pool6 : Array CpInfo := pool [(1, .class_ 2), (0, u "java/lang/constant/ConstantDesc"), (0, .class_ 4), (0, u "java/lang/Object")] 32

/-- java/lang/constant/ConstantDesc -/
def k6 : Class := { plain "java/lang/constant/ConstantDesc" (some 0) with
  accessFlags := 1537
  interfaces := #[]
  cf := some (fileOf pool6 1 #[] #[] 1537 3 #[] #[])
  fields := #[]
  methods := #[]
  instanceTypes := #[]
  staticTypes := #[]
  resolved := Array.replicate 37 none
  statics := none }

def pool7 : Array CpInfo := pool [(1, .methodref 2 3), (0, .class_ 4), (0, .nameAndType 5 6), (0, u "java/lang/Object"), (0, u "<init>"), (0, u "()V"), (2, .fieldref 10 11), (0, .class_ 12), (0, .nameAndType 13 14), (0, u "java/lang/String"), (0, u "value"), (0, u "[B"), (0, .fieldref 10 16), (0, .nameAndType 17 18), (0, u "coder"), (0, u "B"), (2, u "hash"), (0, u "I"), (2, u "hashIsZero"), (0, u "Z"), (0, .methodref 10 28), (0, .nameAndType 5 29), (0, u "([CIILjava/lang/Void;)V"), (8, .fieldref 10 39), (0, .nameAndType 40 26), (0, u "COMPACT_STRINGS"), (1, .class_ 44), (1, u "java/lang/StringUTF16"), (0, u "compress"), (1, .methodref 42 48), (0, .nameAndType 49 50), (0, u "coderFromArrayLen"), (0, u "([BI)B"), (2, u "toBytes"), (53, .class_ 109), (1, u "java/lang/StringLatin1"), (32, u "()Z"), (34, .methodref 42 178), (0, .nameAndType 45 179), (0, u "([CII)[B"), (29, .methodref 10 210), (0, .nameAndType 5 211), (0, u "([BB)V"), (122, u "()I"), (0, .methodref 10 336), (0, .nameAndType 17 337), (0, u "()B"), (25, u "([BI)C"), (5, u "(C)Z"), (21, u "(II)V"), (35, u "(I)C"), (64, .methodref 10 493), (0, .nameAndType 494 142), (0, u "isLatin1"), (0, .methodref 107 496), (0, .nameAndType 497 363), (0, u "charAt"), (3, u "checkIndex"), (5, u "length"), (67, .class_ 576), (0, u "java/lang/CharSequence"), (22, u "CASE_INSENSITIVE_ORDER"), (0, u "Ljava/util/Comparator;"), (181, u "valueOf"), (0, u "(C)Ljava/lang/String;"), (226, u "([C)V"), (4, .methodref 107 1016), (0, .nameAndType 1017 369), (0, u "canEncode"), (0, .methodref 107 1019), (0, .nameAndType 53 1020), (0, u "(C)[B"), (32, .fieldref 1054 1055), (0, .class_ 1056), (0, .nameAndType 1057 1058), (0, u "jdk/internal/util/Preconditions"), (0, u "SIOOBE_FORMATTER"), (0, u "Ljava/util/function/BiFunction;"), (0, .methodref 1054 1060), (0, .nameAndType 501 1061), (0, u "(IILjava/util/function/BiFunction;)I"), (39, u "serialPersistentFields"), (0, u "[Ljava/io/ObjectStreamField;"), (0, .class_ 1104), (0, u "java/lang/String$CaseInsensitiveComparator"), (1, .class_ 1107), (0, u "java/io/Serializable"), (0, .class_ 1109), (0, u "java/lang/Comparable"), (0, .class_ 1111), (0, u "java/lang/constant/Constable"), (0, .class_ 1113), (0, u "java/lang/constant/ConstantDesc"), (2, u "serialVersionUID"), (0, u "J"), (3, u "REPL"), (0, u "C"), (2, u "LATIN1"), (1, u "UTF16")] 323

def k7m0 : Method := { name := "<init>", desc := "()V", sig := { parameters := [], returnType := none }, accessFlags := 1, code := none }
def k7c1 : Code := { maxStack := 5, maxLocals := 2, code := jdk_42_method_3_code, exceptionTable := #[], attributes := #[] }
def k7m1 : Method := { name := "<init>", desc := "([C)V", sig := { parameters := [(.array .char)], returnType := none }, accessFlags := 1, code := some k7c1 }
def k7c2 : Code := { maxStack := 2, maxLocals := 1, code := jdk_42_method_54_code, exceptionTable := #[], attributes := #[] }
def k7m2 : Method := { name := "length", desc := "()I", sig := { parameters := [], returnType := some .int }, accessFlags := 1, code := some k7c2 }
def k7c3 : Code := { maxStack := 2, maxLocals := 2, code := jdk_42_method_56_code, exceptionTable := #[], attributes := #[] }
def k7m3 : Method := { name := "charAt", desc := "(I)C", sig := { parameters := [.int], returnType := some .char }, accessFlags := 1, code := some k7c3 }
def k7c4 : Code := { maxStack := 4, maxLocals := 1, code := jdk_42_method_139_code, exceptionTable := #[], attributes := #[] }
def k7m4 : Method := { name := "valueOf", desc := "(C)Ljava/lang/String;", sig := { parameters := [.char], returnType := some (.object "java/lang/String") }, accessFlags := 9, code := some k7c4 }
def k7c5 : Code := { maxStack := 4, maxLocals := 6, code := jdk_42_method_149_code, exceptionTable := #[], attributes := #[] }
def k7m5 : Method := { name := "<init>", desc := "([CIILjava/lang/Void;)V", sig := { parameters := [(.array .char), .int, .int, (.object "java/lang/Void")], returnType := none }, accessFlags := 2, code := some k7c5 }
def k7c6 : Code := { maxStack := 2, maxLocals := 3, code := jdk_42_method_151_code, exceptionTable := #[], attributes := #[] }
def k7m6 : Method := { name := "<init>", desc := "([BB)V", sig := { parameters := [(.array .byte), .byte], returnType := none }, accessFlags := 0, code := some k7c6 }
def k7c7 : Code := { maxStack := 1, maxLocals := 1, code := jdk_42_method_152_code, exceptionTable := #[], attributes := #[] }
def k7m7 : Method := { name := "coder", desc := "()B", sig := { parameters := [], returnType := some .byte }, accessFlags := 0, code := some k7c7 }
def k7c8 : Code := { maxStack := 1, maxLocals := 1, code := jdk_42_method_154_code, exceptionTable := #[], attributes := #[] }
def k7m8 : Method := { name := "isLatin1", desc := "()Z", sig := { parameters := [], returnType := some .boolean }, accessFlags := 0, code := some k7c8 }
def k7c9 : Code := { maxStack := 3, maxLocals := 2, code := jdk_42_method_155_code, exceptionTable := #[], attributes := #[] }
def k7m9 : Method := { name := "checkIndex", desc := "(II)V", sig := { parameters := [.int, .int], returnType := none }, accessFlags := 8, code := some k7c9 }
/-- java/lang/String -/
def k7 : Class := { plain "java/lang/String" (some 0) with
  accessFlags := 49
  interfaces := #[2, 3, 4, 5, 6]
  cf := some (fileOf pool7 10 #[.nestMembers #[1103]] #[{ accessFlags := 1, nameIndex := 5, descriptorIndex := 6, attributes := #[] }, { accessFlags := 1, nameIndex := 5, descriptorIndex := 1010, attributes := #[] }, { accessFlags := 1, nameIndex := 507, descriptorIndex := 334, attributes := #[] }, { accessFlags := 1, nameIndex := 497, descriptorIndex := 427, attributes := #[] }, { accessFlags := 9, nameIndex := 782, descriptorIndex := 783, attributes := #[] }, { accessFlags := 2, nameIndex := 5, descriptorIndex := 29, attributes := #[] }, { accessFlags := 0, nameIndex := 5, descriptorIndex := 211, attributes := #[] }, { accessFlags := 0, nameIndex := 17, descriptorIndex := 337, attributes := #[] }, { accessFlags := 0, nameIndex := 494, descriptorIndex := 142, attributes := #[] }, { accessFlags := 8, nameIndex := 501, descriptorIndex := 391, attributes := #[] }] 49 2 #[1106, 1108, 575, 1110, 1112] #[{ accessFlags := 18, nameIndex := 13, descriptorIndex := 14, attributes := #[] }, { accessFlags := 18, nameIndex := 17, descriptorIndex := 18, attributes := #[] }, { accessFlags := 2, nameIndex := 21, descriptorIndex := 22, attributes := #[] }, { accessFlags := 2, nameIndex := 25, descriptorIndex := 26, attributes := #[] }, { accessFlags := 26, nameIndex := 1116, descriptorIndex := 1117, attributes := #[] }, { accessFlags := 24, nameIndex := 40, descriptorIndex := 26, attributes := #[] }, { accessFlags := 26, nameIndex := 1101, descriptorIndex := 1102, attributes := #[] }, { accessFlags := 26, nameIndex := 1121, descriptorIndex := 1122, attributes := #[] }, { accessFlags := 25, nameIndex := 599, descriptorIndex := 600, attributes := #[] }, { accessFlags := 24, nameIndex := 1125, descriptorIndex := 18, attributes := #[] }, { accessFlags := 24, nameIndex := 1127, descriptorIndex := 18, attributes := #[] }])
  fields := #[{ name := "value", type := (.array .byte), accessFlags := 18, slot := 0, constantValue := 0 }, { name := "coder", type := .byte, accessFlags := 18, slot := 1, constantValue := 0 }, { name := "hash", type := .int, accessFlags := 2, slot := 2, constantValue := 0 }, { name := "hashIsZero", type := .boolean, accessFlags := 2, slot := 3, constantValue := 0 }, { name := "serialVersionUID", type := .long, accessFlags := 26, slot := 0, constantValue := 0 }, { name := "COMPACT_STRINGS", type := .boolean, accessFlags := 24, slot := 1, constantValue := 0 }, { name := "serialPersistentFields", type := (.array (.object "java/io/ObjectStreamField")), accessFlags := 26, slot := 2, constantValue := 0 }, { name := "REPL", type := .char, accessFlags := 26, slot := 3, constantValue := 0 }, { name := "CASE_INSENSITIVE_ORDER", type := (.object "java/util/Comparator"), accessFlags := 25, slot := 4, constantValue := 0 }, { name := "LATIN1", type := .byte, accessFlags := 24, slot := 5, constantValue := 0 }, { name := "UTF16", type := .byte, accessFlags := 24, slot := 6, constantValue := 0 }]
  methods := #[k7m0, k7m1, k7m2, k7m3, k7m4, k7m5, k7m6, k7m7, k7m8, k7m9]
  instanceTypes := #[(.array .byte), .byte, .int, .boolean]
  staticTypes := #[.long, .boolean, (.array (.object "java/io/ObjectStreamField")), .char, (.object "java/util/Comparator"), .byte, .byte]
  resolved := Array.replicate 1451 none
  statics := some 0 }

def pool8 : Array CpInfo := pool [(1, .class_ 2), (0, u "java/lang/String"), (1, .class_ 6), (1, u "java/lang/Object"), (0, u "<init>"), (0, u "()V"), (0, .methodref 1 10), (0, .nameAndType 11 12), (0, u "checkIndex"), (0, u "(II)V"), (1, .class_ 16), (1, u "java/lang/StringLatin1"), (36, u "([BI)C"), (36, u "canEncode"), (14, u "(C)Z"), (15, u "$assertionsDisabled"), (0, u "Z"), (98, .class_ 223), (1, u "java/lang/StringLatin1$LinesSpliterator"), (28, u "charAt"), (127, u "toBytes"), (1, u "(C)[B"), (7, .class_ 391), (0, u "java/lang/StringLatin1$CharsSpliterator")] 3

def k8m0 : Method := { name := "<init>", desc := "()V", sig := { parameters := [], returnType := none }, accessFlags := 0, code := none }
def k8c1 : Code := { maxStack := 2, maxLocals := 2, code := jdk_43_method_2_code, exceptionTable := #[], attributes := #[] }
def k8m1 : Method := { name := "charAt", desc := "([BI)C", sig := { parameters := [(.array .byte), .int], returnType := some .char }, accessFlags := 9, code := some k8c1 }
def k8c2 : Code := { maxStack := 2, maxLocals := 1, code := jdk_43_method_3_code, exceptionTable := #[], attributes := #[] }
def k8m2 : Method := { name := "canEncode", desc := "(C)Z", sig := { parameters := [.char], returnType := some .boolean }, accessFlags := 9, code := some k8c2 }
def k8c3 : Code := { maxStack := 4, maxLocals := 1, code := jdk_43_method_46_code, exceptionTable := #[], attributes := #[] }
def k8m3 : Method := { name := "toBytes", desc := "(C)[B", sig := { parameters := [.char], returnType := some (.array .byte) }, accessFlags := 9, code := some k8c3 }
/-- java/lang/StringLatin1 -/
def k8 : Class := { plain "java/lang/StringLatin1" (some 0) with
  accessFlags := 48
  interfaces := #[]
  cf := some (fileOf pool8 14 #[.nestMembers #[390, 221]] #[{ accessFlags := 0, nameIndex := 7, descriptorIndex := 8, attributes := #[] }, { accessFlags := 9, nameIndex := 252, descriptorIndex := 53, attributes := #[] }, { accessFlags := 9, nameIndex := 90, descriptorIndex := 105, attributes := #[] }, { accessFlags := 9, nameIndex := 380, descriptorIndex := 382, attributes := #[] }] 48 4 #[] #[{ accessFlags := 4120, nameIndex := 121, descriptorIndex := 122, attributes := #[] }])
  fields := #[{ name := "$assertionsDisabled", type := .boolean, accessFlags := 4120, slot := 0, constantValue := 0 }]
  methods := #[k8m0, k8m1, k8m2, k8m3]
  instanceTypes := #[]
  staticTypes := #[.boolean]
  resolved := Array.replicate 395 none
  statics := none }

def pool9 : Array CpInfo := pool [(6, .class_ 8), (1, u "java/lang/Object"), (0, u "<init>"), (0, u "()V"), (1, .class_ 14), (1, u "java/lang/StringUTF16"), (31, u "$assertionsDisabled"), (0, u "Z"), (13, u "HI_BYTE_SHIFT"), (0, u "I"), (2, u "LO_BYTE_SHIFT"), (49, .methodref 12 116), (0, .nameAndType 117 118), (0, u "compress"), (0, u "([CI[BII)I"), (3, u "([CII)[B"), (138, u "coderFromArrayLen"), (0, u "([BI)B"), (106, .class_ 371), (1, u "java/lang/StringUTF16$LinesSpliterator"), (58, u "MAX_LENGTH"), (196, .class_ 628), (0, u "java/lang/StringUTF16$CodePointsSpliterator"), (0, .class_ 630), (0, u "java/lang/StringUTF16$CharsSpliterator")] 4

def k9m0 : Method := { name := "<init>", desc := "()V", sig := { parameters := [], returnType := none }, accessFlags := 0, code := none }
def k9c1 : Code := { maxStack := 2, maxLocals := 2, code := jdk_52_method_15_code, exceptionTable := #[], attributes := #[] }
def k9m1 : Method := { name := "coderFromArrayLen", desc := "([BI)B", sig := { parameters := [(.array .byte), .int], returnType := some .byte }, accessFlags := 8, code := some k9c1 }
def k9c2 : Code := { maxStack := 5, maxLocals := 6, code := jdk_52_method_16_code, exceptionTable := #[], attributes := #[] }
def k9m2 : Method := { name := "compress", desc := "([CII)[B", sig := { parameters := [(.array .char), .int, .int], returnType := some (.array .byte) }, accessFlags := 9, code := some k9c2 }
def k9c3 : Code := { maxStack := 3, maxLocals := 7, code := jdk_52_method_21_code, exceptionTable := #[], attributes := #[] }
def k9m3 : Method := { name := "compress", desc := "([CI[BII)I", sig := { parameters := [(.array .char), .int, (.array .byte), .int, .int], returnType := some .int }, accessFlags := 9, code := some k9c3 }
/-- java/lang/StringUTF16 -/
def k9 : Class := { plain "java/lang/StringUTF16" (some 0) with
  accessFlags := 48
  interfaces := #[]
  cf := some (fileOf pool9 12 #[.nestMembers #[627, 629, 369]] #[{ accessFlags := 0, nameIndex := 9, descriptorIndex := 10, attributes := #[] }, { accessFlags := 8, nameIndex := 261, descriptorIndex := 262, attributes := #[] }, { accessFlags := 9, nameIndex := 117, descriptorIndex := 122, attributes := #[] }, { accessFlags := 9, nameIndex := 117, descriptorIndex := 118, attributes := #[] }] 48 6 #[] #[{ accessFlags := 26, nameIndex := 61, descriptorIndex := 62, attributes := #[] }, { accessFlags := 26, nameIndex := 65, descriptorIndex := 62, attributes := #[] }, { accessFlags := 24, nameIndex := 430, descriptorIndex := 62, attributes := #[] }, { accessFlags := 4120, nameIndex := 46, descriptorIndex := 47, attributes := #[] }])
  fields := #[{ name := "HI_BYTE_SHIFT", type := .int, accessFlags := 26, slot := 0, constantValue := 0 }, { name := "LO_BYTE_SHIFT", type := .int, accessFlags := 26, slot := 1, constantValue := 0 }, { name := "MAX_LENGTH", type := .int, accessFlags := 24, slot := 2, constantValue := 0 }, { name := "$assertionsDisabled", type := .boolean, accessFlags := 4120, slot := 3, constantValue := 0 }]
  methods := #[k9m0, k9m1, k9m2, k9m3]
  instanceTypes := #[]
  staticTypes := #[.int, .int, .int, .boolean]
  resolved := Array.replicate 635 none
  statics := none }

def pool10 : Array CpInfo := pool [(2, .class_ 4), (1, u "java/lang/Object"), (0, u "<init>"), (0, u "()V"), (0, .methodref 8 9), (0, .class_ 10), (0, .nameAndType 11 12), (0, u "com/example/quartermaster/quartermaster/Names"), (0, u "follows"), (0, u "(Ljava/lang/String;)Z"), (9, .methodref 23 24), (0, .class_ 25), (0, .nameAndType 26 27), (0, u "java/lang/String"), (0, u "length"), (0, u "()I"), (0, .methodref 23 29), (0, .nameAndType 30 31), (0, u "charAt"), (0, u "(I)C"), (0, .fieldref 8 33), (0, .nameAndType 34 35), (0, u "ALLOWED"), (0, u "[Z"), (2, u "MAX_LENGTH"), (0, u "I"), (4, u "require"), (0, u "(Ljava/lang/String;Ljava/lang/String;)Ljava/lang/String;")] 19

def k10m0 : Method := { name := "<init>", desc := "()V", sig := { parameters := [], returnType := none }, accessFlags := 2, code := none }
def k10c1 : Code := { maxStack := 3, maxLocals := 2, code := prog_21_method_2_code, exceptionTable := #[], attributes := #[] }
def k10m1 : Method := { name := "require", desc := "(Ljava/lang/String;Ljava/lang/String;)Ljava/lang/String;", sig := { parameters := [(.object "java/lang/String"), (.object "java/lang/String")], returnType := some (.object "java/lang/String") }, accessFlags := 8, code := some k10c1 }
def k10c2 : Code := { maxStack := 2, maxLocals := 5, code := prog_21_method_3_code, exceptionTable := #[], attributes := #[] }
def k10m2 : Method := { name := "follows", desc := "(Ljava/lang/String;)Z", sig := { parameters := [(.object "java/lang/String")], returnType := some .boolean }, accessFlags := 10, code := some k10c2 }
/-- com/example/quartermaster/quartermaster/Names -/
def k10 : Class := { plain "com/example/quartermaster/quartermaster/Names" (some 0) with
  accessFlags := 48
  interfaces := #[]
  cf := some (fileOf pool10 8 #[] #[{ accessFlags := 2, nameIndex := 5, descriptorIndex := 6, attributes := #[] }, { accessFlags := 8, nameIndex := 44, descriptorIndex := 45, attributes := #[] }, { accessFlags := 10, nameIndex := 11, descriptorIndex := 12, attributes := #[] }] 48 2 #[] #[{ accessFlags := 26, nameIndex := 38, descriptorIndex := 39, attributes := #[] }, { accessFlags := 26, nameIndex := 34, descriptorIndex := 35, attributes := #[] }])
  fields := #[{ name := "MAX_LENGTH", type := .int, accessFlags := 26, slot := 0, constantValue := 0 }, { name := "ALLOWED", type := (.array .boolean), accessFlags := 26, slot := 1, constantValue := 0 }]
  methods := #[k10m0, k10m1, k10m2]
  instanceTypes := #[]
  staticTypes := #[.int, (.array .boolean)]
  resolved := Array.replicate 65 none
  statics := some 1 }

def pool11 : Array CpInfo := pool [(2, .class_ 4), (1, u "java/lang/Object"), (0, u "<init>"), (0, u "()V"), (17, .class_ 26), (1, u "jdk/internal/util/Preconditions"), (6, u "checkIndex"), (21, .class_ 56), (0, u "jdk/internal/util/Preconditions$4"), (57, .class_ 115), (0, u "jdk/internal/util/Preconditions$1"), (7, u "SIOOBE_FORMATTER"), (0, u "Ljava/util/function/BiFunction;"), (0, .class_ 126), (0, u "jdk/internal/util/Preconditions$2"), (3, u "AIOOBE_FORMATTER"), (0, .class_ 132), (0, u "jdk/internal/util/Preconditions$3"), (3, u "IOOBE_FORMATTER"), (41, u "(IILjava/util/function/BiFunction;)I")] 15

def k11m0 : Method := { name := "<init>", desc := "()V", sig := { parameters := [], returnType := none }, accessFlags := 1, code := none }
def k11c1 : Code := { maxStack := 3, maxLocals := 3, code := jdk_41_method_11_code, exceptionTable := #[], attributes := #[] }
def k11m1 : Method := { name := "checkIndex", desc := "(IILjava/util/function/BiFunction;)I", sig := { parameters := [.int, .int, (.object "java/util/function/BiFunction")], returnType := some .int }, accessFlags := 9, code := some k11c1 }
/-- jdk/internal/util/Preconditions -/
def k11 : Class := { plain "jdk/internal/util/Preconditions" (some 0) with
  accessFlags := 33
  interfaces := #[]
  cf := some (fileOf pool11 24 #[.nestMembers #[55, 131, 125, 114]] #[{ accessFlags := 1, nameIndex := 5, descriptorIndex := 6, attributes := #[] }, { accessFlags := 9, nameIndex := 33, descriptorIndex := 178, attributes := #[] }] 33 2 #[] #[{ accessFlags := 25, nameIndex := 123, descriptorIndex := 124, attributes := #[] }, { accessFlags := 25, nameIndex := 130, descriptorIndex := 124, attributes := #[] }, { accessFlags := 25, nameIndex := 136, descriptorIndex := 124, attributes := #[] }])
  fields := #[{ name := "SIOOBE_FORMATTER", type := (.object "java/util/function/BiFunction"), accessFlags := 25, slot := 0, constantValue := 0 }, { name := "AIOOBE_FORMATTER", type := (.object "java/util/function/BiFunction"), accessFlags := 25, slot := 1, constantValue := 0 }, { name := "IOOBE_FORMATTER", type := (.object "java/util/function/BiFunction"), accessFlags := 25, slot := 2, constantValue := 0 }]
  methods := #[k11m0, k11m1]
  instanceTypes := #[]
  staticTypes := #[(.object "java/util/function/BiFunction"), (.object "java/util/function/BiFunction"), (.object "java/util/function/BiFunction")]
  resolved := Array.replicate 194 none
  statics := some 2 }

def pool12 : Array CpInfo := pool [(9, u "<init>"), (6, .class_ 18), (1, u "java/lang/Object"), (0, u "()V"), (1, .class_ 23), (1, u "jdk/internal/util/ArraysSupport"), (0, u "LOG2_ARRAY_LONG_INDEX_SCALE"), (0, u "I"), (2, u "U"), (0, u "Ljdk/internal/misc/Unsafe;"), (8, u "BIG_ENDIAN"), (0, u "Z"), (8, u "LOG2_BYTE_BIT_SIZE"), (4, u "LOG2_ARRAY_INT_INDEX_SCALE"), (54, u "JLA"), (0, u "Ljdk/internal/access/JavaLangAccess;"), (11, u "LOG2_ARRAY_BOOLEAN_INDEX_SCALE"), (9, u "LOG2_ARRAY_BYTE_INDEX_SCALE"), (5, u "LOG2_ARRAY_CHAR_INDEX_SCALE"), (5, u "LOG2_ARRAY_SHORT_INDEX_SCALE"), (18, u "LOG2_ARRAY_FLOAT_INDEX_SCALE"), (24, u "LOG2_ARRAY_DOUBLE_INDEX_SCALE"), (89, u "T_BOOLEAN"), (2, u "T_CHAR"), (1, u "T_FLOAT"), (1, u "T_DOUBLE"), (1, u "T_BYTE"), (1, u "T_SHORT"), (1, u "T_INT"), (1, u "T_LONG"), (1, u "SOFT_MAX_ARRAY_LENGTH")] 83

def k12m0 : Method := { name := "<init>", desc := "()V", sig := { parameters := [], returnType := none }, accessFlags := 2, code := none }
/-- jdk/internal/util/ArraysSupport -/
def k12 : Class := { plain "jdk/internal/util/ArraysSupport" (some 0) with
  accessFlags := 33
  interfaces := #[]
  cf := some (fileOf pool12 21 #[] #[{ accessFlags := 2, nameIndex := 9, descriptorIndex := 19, attributes := #[] }] 33 16 #[] #[{ accessFlags := 24, nameIndex := 28, descriptorIndex := 29, attributes := #[] }, { accessFlags := 26, nameIndex := 38, descriptorIndex := 39, attributes := #[] }, { accessFlags := 25, nameIndex := 121, descriptorIndex := 25, attributes := #[] }, { accessFlags := 25, nameIndex := 131, descriptorIndex := 25, attributes := #[] }, { accessFlags := 25, nameIndex := 137, descriptorIndex := 25, attributes := #[] }, { accessFlags := 25, nameIndex := 143, descriptorIndex := 25, attributes := #[] }, { accessFlags := 25, nameIndex := 53, descriptorIndex := 25, attributes := #[] }, { accessFlags := 25, nameIndex := 24, descriptorIndex := 25, attributes := #[] }, { accessFlags := 25, nameIndex := 162, descriptorIndex := 25, attributes := #[] }, { accessFlags := 25, nameIndex := 187, descriptorIndex := 25, attributes := #[] }, { accessFlags := 26, nameIndex := 48, descriptorIndex := 25, attributes := #[] }, { accessFlags := 25, nameIndex := 277, descriptorIndex := 25, attributes := #[] }, { accessFlags := 25, nameIndex := 280, descriptorIndex := 25, attributes := #[] }, { accessFlags := 25, nameIndex := 282, descriptorIndex := 25, attributes := #[] }, { accessFlags := 25, nameIndex := 284, descriptorIndex := 25, attributes := #[] }, { accessFlags := 25, nameIndex := 286, descriptorIndex := 25, attributes := #[] }, { accessFlags := 25, nameIndex := 288, descriptorIndex := 25, attributes := #[] }, { accessFlags := 25, nameIndex := 290, descriptorIndex := 25, attributes := #[] }, { accessFlags := 25, nameIndex := 292, descriptorIndex := 25, attributes := #[] }, { accessFlags := 26, nameIndex := 108, descriptorIndex := 109, attributes := #[] }, { accessFlags := 25, nameIndex := 294, descriptorIndex := 25, attributes := #[] }])
  fields := #[{ name := "U", type := (.object "jdk/internal/misc/Unsafe"), accessFlags := 24, slot := 0, constantValue := 0 }, { name := "BIG_ENDIAN", type := .boolean, accessFlags := 26, slot := 1, constantValue := 0 }, { name := "LOG2_ARRAY_BOOLEAN_INDEX_SCALE", type := .int, accessFlags := 25, slot := 2, constantValue := 0 }, { name := "LOG2_ARRAY_BYTE_INDEX_SCALE", type := .int, accessFlags := 25, slot := 3, constantValue := 0 }, { name := "LOG2_ARRAY_CHAR_INDEX_SCALE", type := .int, accessFlags := 25, slot := 4, constantValue := 0 }, { name := "LOG2_ARRAY_SHORT_INDEX_SCALE", type := .int, accessFlags := 25, slot := 5, constantValue := 0 }, { name := "LOG2_ARRAY_INT_INDEX_SCALE", type := .int, accessFlags := 25, slot := 6, constantValue := 0 }, { name := "LOG2_ARRAY_LONG_INDEX_SCALE", type := .int, accessFlags := 25, slot := 7, constantValue := 0 }, { name := "LOG2_ARRAY_FLOAT_INDEX_SCALE", type := .int, accessFlags := 25, slot := 8, constantValue := 0 }, { name := "LOG2_ARRAY_DOUBLE_INDEX_SCALE", type := .int, accessFlags := 25, slot := 9, constantValue := 0 }, { name := "LOG2_BYTE_BIT_SIZE", type := .int, accessFlags := 26, slot := 10, constantValue := 0 }, { name := "T_BOOLEAN", type := .int, accessFlags := 25, slot := 11, constantValue := 0 }, { name := "T_CHAR", type := .int, accessFlags := 25, slot := 12, constantValue := 0 }, { name := "T_FLOAT", type := .int, accessFlags := 25, slot := 13, constantValue := 0 }, { name := "T_DOUBLE", type := .int, accessFlags := 25, slot := 14, constantValue := 0 }, { name := "T_BYTE", type := .int, accessFlags := 25, slot := 15, constantValue := 0 }, { name := "T_SHORT", type := .int, accessFlags := 25, slot := 16, constantValue := 0 }, { name := "T_INT", type := .int, accessFlags := 25, slot := 17, constantValue := 0 }, { name := "T_LONG", type := .int, accessFlags := 25, slot := 18, constantValue := 0 }, { name := "JLA", type := (.object "jdk/internal/access/JavaLangAccess"), accessFlags := 26, slot := 19, constantValue := 0 }, { name := "SOFT_MAX_ARRAY_LENGTH", type := .int, accessFlags := 25, slot := 20, constantValue := 0 }]
  methods := #[k12m0]
  instanceTypes := #[]
  staticTypes := #[(.object "jdk/internal/misc/Unsafe"), .boolean, .int, .int, .int, .int, .int, .int, .int, .int, .int, .int, .int, .int, .int, .int, .int, .int, .int, (.object "jdk/internal/access/JavaLangAccess"), .int]
  resolved := Array.replicate 378 none
  statics := none }

def pool13 : Array CpInfo := pool [(1, u "java/lang/Cloneable"), (0, .class_ 1), (0, u "java/lang/Object"), (0, .class_ 3)] 3

/-- java/lang/Cloneable -/
def k13 : Class := { plain "java/lang/Cloneable" (some 0) with
  accessFlags := 1537
  interfaces := #[]
  cf := some (fileOf pool13 2 #[] #[] 1537 4 #[] #[])
  fields := #[]
  methods := #[]
  instanceTypes := #[]
  staticTypes := #[]
  resolved := Array.replicate 8 none
  statics := none }

/-- the primitive boolean -/
def k14 : Class := { plain "boolean" none with kind := .primitive 'Z', accessFlags := 0x411 }
/-- [Z -/
def k15 : Class := { plain "[Z" (some 0) with kind := .array 14 .boolean, interfaces := #[13, 2], accessFlags := 1041 }

/-- the primitive byte -/
def k16 : Class := { plain "byte" none with kind := .primitive 'B', accessFlags := 0x411 }
/-- [B -/
def k17 : Class := { plain "[B" (some 0) with kind := .array 16 .byte, interfaces := #[13, 2], accessFlags := 1041 }

/-- the primitive char -/
def k18 : Class := { plain "char" none with kind := .primitive 'C', accessFlags := 0x411 }
/-- [C -/
def k19 : Class := { plain "[C" (some 0) with kind := .array 18 .char, interfaces := #[13, 2], accessFlags := 1041 }

/-- the primitive int -/
def k20 : Class := { plain "int" none with kind := .primitive 'I', accessFlags := 0x411 }
/-- [I -/
def k21 : Class := { plain "[I" (some 0) with kind := .array 20 .int, interfaces := #[13, 2], accessFlags := 1041 }

def heap : Heap := #[{ cls := 7, slots := #[.long 0, .int 1, .null, .int 0, .null, .int 0, .int 0], vm := .statics 7 },
  { cls := 10, slots := #[.int 0, .ref 3], vm := .statics 10 },
  { cls := 11, slots := #[.null, .null, .null], vm := .statics 11 },
  { cls := 15, slots := #[.int 0, .int 0, .int 0, .int 0, .int 0, .int 0, .int 0, .int 0, .int 0, .int 0, .int 0, .int 0, .int 0, .int 0, .int 0, .int 0, .int 0, .int 0, .int 0, .int 0, .int 0, .int 0, .int 0, .int 0, .int 0, .int 0, .int 0, .int 0, .int 0, .int 0, .int 0, .int 0, .int 0, .int 0, .int 0, .int 0, .int 0, .int 0, .int 0, .int 0, .int 0, .int 0, .int 0, .int 0, .int 0, .int 1, .int 1, .int 1, .int 1, .int 1, .int 1, .int 1, .int 1, .int 1, .int 1, .int 1, .int 1, .int 1, .int 1, .int 0, .int 0, .int 0, .int 0, .int 0, .int 0, .int 1, .int 1, .int 1, .int 1, .int 1, .int 1, .int 1, .int 1, .int 1, .int 1, .int 1, .int 1, .int 1, .int 1, .int 1, .int 1, .int 1, .int 1, .int 1, .int 1, .int 1, .int 1, .int 1, .int 1, .int 1, .int 1, .int 0, .int 0, .int 0, .int 0, .int 1, .int 0, .int 1, .int 1, .int 1, .int 1, .int 1, .int 1, .int 1, .int 1, .int 1, .int 1, .int 1, .int 1, .int 1, .int 1, .int 1, .int 1, .int 1, .int 1, .int 1, .int 1, .int 1, .int 1, .int 1, .int 1, .int 1, .int 1, .int 0, .int 0, .int 0, .int 0, .int 0], vm := .none }]
def classes : Array Class := #[k0, k1, k2, k3, k4, k5, k6, k7, k8, k9, k10, k11, k12, k13, k14, k15, k16, k17, k18, k19, k20, k21]
def interned : List (Array UInt16 × Addr) := []
def slotsUsed : Nat := 140
def theMethod : MethodId := ⟨1, 2⟩
def args0 : Array Value := #[.int 5, .int 5, .int 5, .int 5, .int 5, .int 5]
def aboutOver (below : List Frame) : State where
  vm := { classes := classes, interned := interned.toArray }
  heap := heap
  slotsUsed := slotsUsed
  threads := #[{ frames := .invoking theMethod args0 :: below }]
def below0 : List Frame := [.native { method := ⟨0, 0⟩, args := #[] }]
def about1 : State := aboutOver below0
def p0 : Program := .bare "" "" ""
def e0 : Env := launch0.env 0 0 0
theorem w_frames : about1.frames = Frame.invoking theMethod args0 :: below0 := rfl
set_option maxRecDepth 65536 in
theorem w_args : argsFit about1.vm theMethod args0 = true := by decide +kernel
set_option maxRecDepth 65536 in
theorem w_heap : heapFits about1 = true := by decide +kernel
set_option maxRecDepth 65536 in
theorem w_runnable : about1.curStatus? = some .runnable := by decide +kernel
set_option maxRecDepth 65536 in
theorem w_alone : about1.alone = true := by decide +kernel
set_option maxRecDepth 65536 in
theorem w_named : about1.methodNamed? x = some theMethod := by decide +kernel
set_option maxRecDepth 65536 in
theorem w_hears : about1.hears theMethod below0 = true := by decide +kernel
set_option maxRecDepth 65536 in
theorem w_ripe : about1.ripe theMethod args0 below0 = true := by decide +kernel
theorem w_running : about1.status = .running := rfl
set_option maxRecDepth 65536 in
theorem w_room : about1.hasRoom e0.platform room_1 = true :=
  launch0.hasRoom_least _ room_1 (by decide +kernel) (by decide +kernel) (by decide +kernel) (by decide +kernel) (by decide +kernel) (by decide +kernel)
theorem allAtoms_all (ts : List Jvm.Cond) (a : Array Jvm.Value) (st : Jvm.State) : (allAtoms ts).before a st = ts.all (fun c => c.before a st) := by
  induction ts with
  | nil => rfl
  | cons c t ih =>
    show (Jvm.Cond.and c (allAtoms t)).before a st = _
    rw [Jvm.Cond.before_and, ih, List.all_cons]
def words1 : List Jvm.Cond := Jvm.Cond.code x code maxLocals ret :: tables_1
/-- a 'code' word, met by the world's own term for the bytes: nothing is compared byte by byte -/
theorem code_word {y : MethodName} {bytes : ByteArray} {mx : Nat} {rt : Option FieldType} {a : Array Value} {s : State} {m : MethodId} {meth : Method} {c : Code} (h1 : s.methodNamed? y = some m) (h2 : s.vm.method? m = some meth) (h3 : meth.code = some c) (h4 : c.code = bytes)
    (h5 : (c.maxLocals == mx && c.exceptionTable.isEmpty && decide (c.maxStack ≤ mostOperands) && decide (meth.sig.returnType = rt) && !meth.locks && decide (parseMethodDescriptor y.desc = some meth.sig)) = true) : (Jvm.Cond.code y bytes mx rt).before a s = true := by
  simp only [Bool.and_eq_true, beq_iff_eq, Bool.not_eq_true', decide_eq_true_eq] at h5
  obtain ⟨⟨⟨⟨⟨g1, g2⟩, g3⟩, g4⟩, g5⟩, g6⟩ := h5
  simp [Cond.before, Cond.holds, Cond.value, h1, h2, h3, h4, g1, g2, g3, g4, g5, g6]
def isCode : Jvm.Cond → Bool
  | .code _ _ _ _ => true
  | _ => false
theorem all_split {L : List Jvm.Cond} {P : Jvm.Cond → Bool} (h1 : L.all (fun c => isCode c || P c) = true) (h2 : ∀ c ∈ L.filter isCode, P c = true) : L.all P = true := by
  refine List.all_eq_true.mpr fun c hc => ?_
  have h := List.all_eq_true.mp h1 c hc
  rcases Bool.eq_false_or_eq_true (isCode c) with hi | hi
  · exact h2 c (List.mem_filter.mpr ⟨hc, hi⟩)
  · simpa [hi] using h
set_option maxRecDepth 65536 in
theorem w_c0 : (Jvm.Cond.code x code maxLocals ret).before args0 about1 = true := code_word (m := ⟨1, 2⟩) (meth := k1m2) (c := k1c2) (by decide +kernel) rfl rfl rfl (by decide +kernel)
set_option maxRecDepth 65536 in
theorem w_c1 : (Jvm.Cond.code ({ cls := "java/lang/String", name := "valueOf", desc := "(C)Ljava/lang/String;" } : Jvm.MethodName) jdk_42_method_139_code (1 : Nat) (Option.some (Jvm.ClassFile.FieldType.object "java/lang/String"))).before args0 about1 = true := code_word (m := ⟨7, 4⟩) (meth := k7m4) (c := k7c4) (by decide +kernel) rfl rfl rfl (by decide +kernel)
set_option maxRecDepth 65536 in
theorem w_c2 : (Jvm.Cond.code ({ cls := "java/lang/StringLatin1", name := "canEncode", desc := "(C)Z" } : Jvm.MethodName) jdk_43_method_3_code (1 : Nat) (Option.some Jvm.ClassFile.FieldType.boolean)).before args0 about1 = true := code_word (m := ⟨8, 2⟩) (meth := k8m2) (c := k8c2) (by decide +kernel) rfl rfl rfl (by decide +kernel)
set_option maxRecDepth 65536 in
theorem w_c3 : (Jvm.Cond.code ({ cls := "java/lang/StringLatin1", name := "toBytes", desc := "(C)[B" } : Jvm.MethodName) jdk_43_method_46_code (1 : Nat) (Option.some (Jvm.ClassFile.FieldType.array Jvm.ClassFile.FieldType.byte))).before args0 about1 = true := code_word (m := ⟨8, 3⟩) (meth := k8m3) (c := k8c3) (by decide +kernel) rfl rfl rfl (by decide +kernel)
set_option maxRecDepth 65536 in
theorem w_c4 : (Jvm.Cond.code ({ cls := "java/lang/String", name := "<init>", desc := "([BB)V" } : Jvm.MethodName) jdk_42_method_151_code (3 : Nat) (Option.none : Option Jvm.ClassFile.FieldType)).before args0 about1 = true := code_word (m := ⟨7, 6⟩) (meth := k7m6) (c := k7c6) (by decide +kernel) rfl rfl rfl (by decide +kernel)
set_option maxRecDepth 65536 in
theorem w_c5 : (Jvm.Cond.code ({ cls := "java/lang/Object", name := "<init>", desc := "()V" } : Jvm.MethodName) object_method_1_code (1 : Nat) (Option.none : Option Jvm.ClassFile.FieldType)).before args0 about1 = true := code_word (m := ⟨0, 0⟩) (meth := k0m0) (c := k0c0) (by decide +kernel) rfl rfl rfl (by decide +kernel)
set_option maxRecDepth 65536 in
theorem w_c6 : (Jvm.Cond.code ({ cls := "com/example/quartermaster/quartermaster/NamesRequirePinLaw", name := "pick", desc := "(I)C" } : Jvm.MethodName) method_2_code (2 : Nat) (Option.some Jvm.ClassFile.FieldType.char)).before args0 about1 = true := code_word (m := ⟨1, 1⟩) (meth := k1m1) (c := k1c1) (by decide +kernel) rfl rfl rfl (by decide +kernel)
set_option maxRecDepth 65536 in
theorem w_c7 : (Jvm.Cond.code ({ cls := "java/lang/String", name := "<init>", desc := "([C)V" } : Jvm.MethodName) jdk_42_method_3_code (2 : Nat) (Option.none : Option Jvm.ClassFile.FieldType)).before args0 about1 = true := code_word (m := ⟨7, 1⟩) (meth := k7m1) (c := k7c1) (by decide +kernel) rfl rfl rfl (by decide +kernel)
set_option maxRecDepth 65536 in
theorem w_c8 : (Jvm.Cond.code ({ cls := "java/lang/String", name := "<init>", desc := "([CIILjava/lang/Void;)V" } : Jvm.MethodName) jdk_42_method_149_code (6 : Nat) (Option.none : Option Jvm.ClassFile.FieldType)).before args0 about1 = true := code_word (m := ⟨7, 5⟩) (meth := k7m5) (c := k7c5) (by decide +kernel) rfl rfl rfl (by decide +kernel)
set_option maxRecDepth 65536 in
theorem w_c9 : (Jvm.Cond.code ({ cls := "java/lang/StringUTF16", name := "compress", desc := "([CII)[B" } : Jvm.MethodName) jdk_52_method_16_code (6 : Nat) (Option.some (Jvm.ClassFile.FieldType.array Jvm.ClassFile.FieldType.byte))).before args0 about1 = true := code_word (m := ⟨9, 2⟩) (meth := k9m2) (c := k9c2) (by decide +kernel) rfl rfl rfl (by decide +kernel)
set_option maxRecDepth 65536 in
theorem w_c10 : (Jvm.Cond.code ({ cls := "java/lang/StringUTF16", name := "compress", desc := "([CI[BII)I" } : Jvm.MethodName) jdk_52_method_21_code (7 : Nat) (Option.some Jvm.ClassFile.FieldType.int)).before args0 about1 = true := code_word (m := ⟨9, 3⟩) (meth := k9m3) (c := k9c3) (by decide +kernel) rfl rfl rfl (by decide +kernel)
set_option maxRecDepth 65536 in
theorem w_c11 : (Jvm.Cond.code ({ cls := "java/lang/StringUTF16", name := "coderFromArrayLen", desc := "([BI)B" } : Jvm.MethodName) jdk_52_method_15_code (2 : Nat) (Option.some Jvm.ClassFile.FieldType.byte)).before args0 about1 = true := code_word (m := ⟨9, 1⟩) (meth := k9m1) (c := k9c1) (by decide +kernel) rfl rfl rfl (by decide +kernel)
set_option maxRecDepth 65536 in
theorem w_c12 : (Jvm.Cond.code ({ cls := "com/example/quartermaster/quartermaster/Names", name := "require", desc := "(Ljava/lang/String;Ljava/lang/String;)Ljava/lang/String;" } : Jvm.MethodName) prog_21_method_2_code (2 : Nat) (Option.some (Jvm.ClassFile.FieldType.object "java/lang/String"))).before args0 about1 = true := code_word (m := ⟨10, 1⟩) (meth := k10m1) (c := k10c1) (by decide +kernel) rfl rfl rfl (by decide +kernel)
set_option maxRecDepth 65536 in
theorem w_c13 : (Jvm.Cond.code ({ cls := "com/example/quartermaster/quartermaster/Names", name := "follows", desc := "(Ljava/lang/String;)Z" } : Jvm.MethodName) prog_21_method_3_code (5 : Nat) (Option.some Jvm.ClassFile.FieldType.boolean)).before args0 about1 = true := code_word (m := ⟨10, 2⟩) (meth := k10m2) (c := k10c2) (by decide +kernel) rfl rfl rfl (by decide +kernel)
set_option maxRecDepth 65536 in
theorem w_c14 : (Jvm.Cond.code ({ cls := "java/lang/String", name := "length", desc := "()I" } : Jvm.MethodName) jdk_42_method_54_code (1 : Nat) (Option.some Jvm.ClassFile.FieldType.int)).before args0 about1 = true := code_word (m := ⟨7, 2⟩) (meth := k7m2) (c := k7c2) (by decide +kernel) rfl rfl rfl (by decide +kernel)
set_option maxRecDepth 65536 in
theorem w_c15 : (Jvm.Cond.code ({ cls := "java/lang/String", name := "coder", desc := "()B" } : Jvm.MethodName) jdk_42_method_152_code (1 : Nat) (Option.some Jvm.ClassFile.FieldType.byte)).before args0 about1 = true := code_word (m := ⟨7, 7⟩) (meth := k7m7) (c := k7c7) (by decide +kernel) rfl rfl rfl (by decide +kernel)
set_option maxRecDepth 65536 in
theorem w_c16 : (Jvm.Cond.code ({ cls := "java/lang/String", name := "charAt", desc := "(I)C" } : Jvm.MethodName) jdk_42_method_56_code (2 : Nat) (Option.some Jvm.ClassFile.FieldType.char)).before args0 about1 = true := code_word (m := ⟨7, 3⟩) (meth := k7m3) (c := k7c3) (by decide +kernel) rfl rfl rfl (by decide +kernel)
set_option maxRecDepth 65536 in
theorem w_c17 : (Jvm.Cond.code ({ cls := "java/lang/String", name := "isLatin1", desc := "()Z" } : Jvm.MethodName) jdk_42_method_154_code (1 : Nat) (Option.some Jvm.ClassFile.FieldType.boolean)).before args0 about1 = true := code_word (m := ⟨7, 8⟩) (meth := k7m8) (c := k7c8) (by decide +kernel) rfl rfl rfl (by decide +kernel)
set_option maxRecDepth 65536 in
theorem w_c18 : (Jvm.Cond.code ({ cls := "java/lang/StringLatin1", name := "charAt", desc := "([BI)C" } : Jvm.MethodName) jdk_43_method_2_code (2 : Nat) (Option.some Jvm.ClassFile.FieldType.char)).before args0 about1 = true := code_word (m := ⟨8, 1⟩) (meth := k8m1) (c := k8c1) (by decide +kernel) rfl rfl rfl (by decide +kernel)
set_option maxRecDepth 65536 in
theorem w_c19 : (Jvm.Cond.code ({ cls := "java/lang/String", name := "checkIndex", desc := "(II)V" } : Jvm.MethodName) jdk_42_method_155_code (2 : Nat) (Option.none : Option Jvm.ClassFile.FieldType)).before args0 about1 = true := code_word (m := ⟨7, 9⟩) (meth := k7m9) (c := k7c9) (by decide +kernel) rfl rfl rfl (by decide +kernel)
set_option maxRecDepth 65536 in
theorem w_c20 : (Jvm.Cond.code ({ cls := "jdk/internal/util/Preconditions", name := "checkIndex", desc := "(IILjava/util/function/BiFunction;)I" } : Jvm.MethodName) jdk_41_method_11_code (3 : Nat) (Option.some Jvm.ClassFile.FieldType.int)).before args0 about1 = true := code_word (m := ⟨11, 1⟩) (meth := k11m1) (c := k11c1) (by decide +kernel) rfl rfl rfl (by decide +kernel)
def codes1 : List Jvm.Cond := [Jvm.Cond.code x code maxLocals ret, Jvm.Cond.code ({ cls := "java/lang/String", name := "valueOf", desc := "(C)Ljava/lang/String;" } : Jvm.MethodName) jdk_42_method_139_code (1 : Nat) (Option.some (Jvm.ClassFile.FieldType.object "java/lang/String")), Jvm.Cond.code ({ cls := "java/lang/StringLatin1", name := "canEncode", desc := "(C)Z" } : Jvm.MethodName) jdk_43_method_3_code (1 : Nat) (Option.some Jvm.ClassFile.FieldType.boolean), Jvm.Cond.code ({ cls := "java/lang/StringLatin1", name := "toBytes", desc := "(C)[B" } : Jvm.MethodName) jdk_43_method_46_code (1 : Nat) (Option.some (Jvm.ClassFile.FieldType.array Jvm.ClassFile.FieldType.byte)), Jvm.Cond.code ({ cls := "java/lang/String", name := "<init>", desc := "([BB)V" } : Jvm.MethodName) jdk_42_method_151_code (3 : Nat) (Option.none : Option Jvm.ClassFile.FieldType), Jvm.Cond.code ({ cls := "java/lang/Object", name := "<init>", desc := "()V" } : Jvm.MethodName) object_method_1_code (1 : Nat) (Option.none : Option Jvm.ClassFile.FieldType), Jvm.Cond.code ({ cls := "com/example/quartermaster/quartermaster/NamesRequirePinLaw", name := "pick", desc := "(I)C" } : Jvm.MethodName) method_2_code (2 : Nat) (Option.some Jvm.ClassFile.FieldType.char), Jvm.Cond.code ({ cls := "java/lang/String", name := "<init>", desc := "([C)V" } : Jvm.MethodName) jdk_42_method_3_code (2 : Nat) (Option.none : Option Jvm.ClassFile.FieldType), Jvm.Cond.code ({ cls := "java/lang/String", name := "<init>", desc := "([CIILjava/lang/Void;)V" } : Jvm.MethodName) jdk_42_method_149_code (6 : Nat) (Option.none : Option Jvm.ClassFile.FieldType), Jvm.Cond.code ({ cls := "java/lang/StringUTF16", name := "compress", desc := "([CII)[B" } : Jvm.MethodName) jdk_52_method_16_code (6 : Nat) (Option.some (Jvm.ClassFile.FieldType.array Jvm.ClassFile.FieldType.byte)), Jvm.Cond.code ({ cls := "java/lang/StringUTF16", name := "compress", desc := "([CI[BII)I" } : Jvm.MethodName) jdk_52_method_21_code (7 : Nat) (Option.some Jvm.ClassFile.FieldType.int), Jvm.Cond.code ({ cls := "java/lang/StringUTF16", name := "coderFromArrayLen", desc := "([BI)B" } : Jvm.MethodName) jdk_52_method_15_code (2 : Nat) (Option.some Jvm.ClassFile.FieldType.byte), Jvm.Cond.code ({ cls := "com/example/quartermaster/quartermaster/Names", name := "require", desc := "(Ljava/lang/String;Ljava/lang/String;)Ljava/lang/String;" } : Jvm.MethodName) prog_21_method_2_code (2 : Nat) (Option.some (Jvm.ClassFile.FieldType.object "java/lang/String")), Jvm.Cond.code ({ cls := "com/example/quartermaster/quartermaster/Names", name := "follows", desc := "(Ljava/lang/String;)Z" } : Jvm.MethodName) prog_21_method_3_code (5 : Nat) (Option.some Jvm.ClassFile.FieldType.boolean), Jvm.Cond.code ({ cls := "java/lang/String", name := "length", desc := "()I" } : Jvm.MethodName) jdk_42_method_54_code (1 : Nat) (Option.some Jvm.ClassFile.FieldType.int), Jvm.Cond.code ({ cls := "java/lang/String", name := "coder", desc := "()B" } : Jvm.MethodName) jdk_42_method_152_code (1 : Nat) (Option.some Jvm.ClassFile.FieldType.byte), Jvm.Cond.code ({ cls := "java/lang/String", name := "charAt", desc := "(I)C" } : Jvm.MethodName) jdk_42_method_56_code (2 : Nat) (Option.some Jvm.ClassFile.FieldType.char), Jvm.Cond.code ({ cls := "java/lang/String", name := "isLatin1", desc := "()Z" } : Jvm.MethodName) jdk_42_method_154_code (1 : Nat) (Option.some Jvm.ClassFile.FieldType.boolean), Jvm.Cond.code ({ cls := "java/lang/StringLatin1", name := "charAt", desc := "([BI)C" } : Jvm.MethodName) jdk_43_method_2_code (2 : Nat) (Option.some Jvm.ClassFile.FieldType.char), Jvm.Cond.code ({ cls := "java/lang/String", name := "checkIndex", desc := "(II)V" } : Jvm.MethodName) jdk_42_method_155_code (2 : Nat) (Option.none : Option Jvm.ClassFile.FieldType), Jvm.Cond.code ({ cls := "jdk/internal/util/Preconditions", name := "checkIndex", desc := "(IILjava/util/function/BiFunction;)I" } : Jvm.MethodName) jdk_41_method_11_code (3 : Nat) (Option.some Jvm.ClassFile.FieldType.int)]
set_option maxRecDepth 65536 in
theorem codes_eq : words1.filter isCode = codes1 := rfl
theorem w_codes : ∀ c ∈ words1.filter isCode, c.before args0 about1 = true := by
  rw [codes_eq]
  intro c hc
  simp only [codes1, List.mem_cons, List.not_mem_nil, or_false] at hc
  rcases hc with rfl | rfl | rfl | rfl | rfl | rfl | rfl | rfl | rfl | rfl | rfl | rfl | rfl | rfl | rfl | rfl | rfl | rfl | rfl | rfl | rfl
  · exact w_c0
  · exact w_c1
  · exact w_c2
  · exact w_c3
  · exact w_c4
  · exact w_c5
  · exact w_c6
  · exact w_c7
  · exact w_c8
  · exact w_c9
  · exact w_c10
  · exact w_c11
  · exact w_c12
  · exact w_c13
  · exact w_c14
  · exact w_c15
  · exact w_c16
  · exact w_c17
  · exact w_c18
  · exact w_c19
  · exact w_c20
set_option maxRecDepth 65536 in
theorem w_t1 : (words1.take 24).all (fun c => isCode c || c.before args0 about1) = true := by decide +kernel
set_option maxRecDepth 65536 in
theorem w_t2 : ((words1.drop 24).take 24).all (fun c => isCode c || c.before args0 about1) = true := by decide +kernel
set_option maxRecDepth 65536 in
theorem w_t3 : (((words1.drop 24).drop 24).take 24).all (fun c => isCode c || c.before args0 about1) = true := by decide +kernel
set_option maxRecDepth 65536 in
theorem w_t4 : (((words1.drop 24).drop 24).drop 24).all (fun c => isCode c || c.before args0 about1) = true := by decide +kernel
theorem w_tables : (allAtoms (Jvm.Cond.code x code maxLocals ret :: tables_1)).before args0 about1 = true := by
  rw [allAtoms_all]
  show words1.all (fun c => c.before args0 about1) = true
  refine all_split ?_ w_codes
  rw [← List.take_append_drop 24 words1, List.all_append, w_t1, ← List.take_append_drop 24 (words1.drop 24), List.all_append, w_t2, ← List.take_append_drop 24 ((words1.drop 24).drop 24), List.all_append, w_t3, w_t4]
  rfl
set_option maxRecDepth 65536 in
theorem w_rest : rest_1_c.before args0 about1 = true := by decide +kernel
set_option maxRecDepth 65536 in
theorem w_case : (Jvm.Cond.and given_1 narrow_1).before args0 about1 = true := by decide +kernel
set_option maxRecDepth 65536 in
theorem w_consts : constsHeld consts_1 about1 := Jvm.Lit.constsHeldB_iff.mp (by decide +kernel)
theorem w_applies : (headSpec (Jvm.Cond.code x code maxLocals ret :: tables_1) room_1).applies x e0.platform about1 = true :=
  (Spec.applies_iff w_frames).mpr ⟨w_running, w_runnable, w_alone, w_named, w_hears, w_ripe, w_room, w_tables⟩
theorem atStart : AtStart classFile x code maxLocals ret World_1 tables_1 room_1 Calls_1 rest_1 Pre_1 launch0 p0 e0 about1 theMethod args0 below0 :=
  ⟨lists_1, trivial, launch0.admits_env _ _ _, launch0.least_env, fairChoices_fair.cas, fairChoices_fair.clock, w_frames, w_args, w_heap, w_applies, ⟨w_consts, trivial⟩, w_rest, w_case⟩
end start1
theorem witness_1 : WitnessClaimed_1 := ⟨start1.p0, start1.e0, start1.about1, start1.theMethod, start1.args0, start1.below0, start1.atStart⟩
end Jvm.Pilot.@@N@@
